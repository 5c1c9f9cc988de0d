import PyProof.Rows.All
import Wide.All
import OpenK.AllK
import Wide.FinOn
import Lean
import PySem.Challenge.RW_il0056_01
set_option Elab.async false
set_option linter.all false

section
open PySem PySem.W PyProof.Rows
namespace Mine
set_option maxRecDepth 100000
set_option maxHeartbeats 8000000
/-- what of the program the law reaches -/
def seenPart : Program := view PySem.Challenge.rw_il0056_01.row.prog [0, 2, 4, 6, 7, 9, 11, 13, 14, 15, 16, 18, 20, 21, 22, 23, 24, 25, 26, 27, 28, 29, 30, 31, 32, 33, 34, 35, 37, 38, 39, 40, 41, 42, 43, 44, 45]
/-- what the row says of itself, part by part -/
theorem said_ok : PySem.Challenge.rw_il0056_01.wellSaid = true := by
  unfold OpenLaw.wellSaid OpenRow.wellSaid OpenRow.partSaid looksOpen
  repeat' (with_reducible refine look_both ?_ ?_)
  all_goals first
    | (rw [Fast.te8377067652309620493]; decide +kernel)
    | (rw [Fast.te8326940854005059898]; decide +kernel)
    | (rw [Fast.te17119622794617984870]; decide +kernel)
    | (rw [Fast.te6984425678791042302]; decide +kernel)
    | decide +kernel
local macro_rules | `(tactic| o_law) => `(tactic| refine holds_law said_ok fun said => ?_)
set_option hygiene false in
local macro_rules | `(tactic| o_head $H) => `(tactic| (refine holds_open (q := seenPart) (loose := []) (Xt := fun s => xlAt seenPart [] s && recOk (RowW.records PySem.Challenge.rw_il0056_01.row.toRowW) s) (XP := XL seenPart []) (Yf := Hook.obs $H) (Ya := Hook.val $H) (YP := Hook.says $H) (N := 3148) ?hl (Hook.of $H) (Hook.keeps $H) (fun s e => xl_of s (Bool.and_eq_true_iff.mp e).1) XL.keeps (by rfl) (by rfl) (by rfl) (fun s e => recFacts_of (Bool.and_eq_true_iff.mp e).2) rfl (by first | assumption | decide +kernel) (by decide +kernel) ⟨rfl, rfl, rfl, rfl, rfl, by decide +kernel⟩ ?hw ?hc; (case hl => (delta LeftO openEnds fencedOpening topFrom; (try rw [Fast.te14082659384304107361, Fast.te10274390034422433532, Fast.te14289696077712309145, Fast.te14364793385576792824, Fast.te4187177175401517315]); intro w; kernel_rfl))))
open_top hd for PySem.Challenge.rw_il0056_01
end Mine
end

section
open PySem PySem.W PyProof.Rows PySem.Calls
set_option maxRecDepth 100000
namespace Mine
theorem kind_iscN : builtinKind "issubclass.nested" = none := by decide +kernel
theorem plain_iscN : plainId "issubclass.nested" = true := by decide +kernel
theorem args_iscN (a b c : Value) : argsOk "issubclass.nested" ⟨[a, b, c], []⟩ := by unfold argsOk; kernel_rfl
section
variable {prog : Program} {w : World} {A : Around} {E : Value → Shared → Prop} {s : Shared}

/-- of two built-in types: is X a subclass of Y -/
structure Sub2 (X Y : String) (b : Bool) : Prop where
  hY : typeOf (.type Y) = pure (.type "type")
  tX : isType (.type X) = pure true
  tY : isType (.type Y) = pure true
  hs : isSubtype (.type X) (.type Y) = pure b

theorem isc_nested {X Y : String} {b : Bool} (h : Sub2 X Y b) (dep : Int) (tk : Tok) : Meets (Builtin.«issubclass.nested» ⟨[.type X, .type Y, .int dep tk], []⟩) (fun _ R s => R (.ok (.ret (.bool b))) s) := by
  intro prog w A R s hq
  have hY := h.hY
  have tX := h.tX
  have tY := h.tY
  have hs := h.hs
  repeat (any_goals (first | assumption | (rw [hY]) | (rw [hs]) | (rw [tX]) | (rw [tY]) | wp_step))

theorem isc_two {X Y Z : String} {b c : Bool} (h1 : Sub2 X Y b) (h2 : Sub2 X Z c) {dep : Int} {Q : Option Fin × Unit → Shared → Prop}
    (hq : Q (if b || c then some (.done (.ret (.bool true))) else none, ()) s) :
    wpAny (model prog w) A (forIn [Value.type Y, Value.type Z] ((none : Option Fin), ()) fun d _ => do
      if ← truthy (← call (.builtin "issubclass.nested") [.type X, d, rawInt (dep + 1)]) then
        let r ← ret (.bool true)
        pure (ForInStep.done (some r, ()))
      else pure (ForInStep.yield (none, ()))) Q E s := by
  rw [List.forIn_cons]
  refine wpAny_bind (wpAny_bind (call_function_meets kind_iscN plain_iscN F.entry_issubclass_nested (args_iscN _ _ _) (isc_nested h1 _ _) ?_))
  show wpAny _ _ (truthy (.bool b) >>= _) _ _ _
  refine wpAny_bind (m := truthy (.bool b)) (wpAny_pure ?_)
  cases b with
  | true => exact wpAny_bind (wpAny_pure (wpAny_pure (wpAny_pure hq)))
  | false =>
    refine wpAny_pure ?_
    show wpAny _ _ (forIn [Value.type Z] _ _) _ _ _
    rw [List.forIn_cons]
    refine wpAny_bind (wpAny_bind (call_function_meets kind_iscN plain_iscN F.entry_issubclass_nested (args_iscN _ _ _) (isc_nested h2 _ _) ?_))
    show wpAny _ _ (truthy (.bool c) >>= _) _ _ _
    refine wpAny_bind (m := truthy (.bool c)) (wpAny_pure ?_)
    cases c with
    | true => exact wpAny_bind (wpAny_pure (wpAny_pure (wpAny_pure hq)))
    | false => exact wpAny_pure (wpAny_pure hq)

theorem isc_tuple {X Y Z : String} {b c : Bool} {tp : Addr} {tk : Tok} {Q : Fin → Shared → Prop} (h1 : Sub2 X Y b) (h2 : Sub2 X Z c)
    {cs : List Value} (hcs : cs = [Value.type Y, Value.type Z]) (htp : s.heap.get? tp = some { cls := .type "tuple", data := .seq cs.toArray }) (hq : Q (.done (.ret (.bool (b || c)))) s) :
    wpAny (model prog w) A (Builtin.«issubclass.nested» ⟨[.type X, .ref tp, .int 0 tk], []⟩) Q E s := by
  obtain ⟨h, g, d, t, os⟩ := s
  have hT2 : (⟨h, g, d, t, os⟩ : Shared).TypeIs (.ref tp) "tuple" := ⟨_, htp, rfl⟩
  have f1 := F.isi_sub_tuple
  repeat (any_goals (first | assumption | wp_step))
  refine wpAny_arrayLoop ?_
  simp only [Option.getD_some, List.toList_toArray]
  subst hcs
  refine isc_two (dep := 0) h1 h2 ?_
  cases b <;> cases c <;> simp only [Bool.or_true, Bool.or_false, if_true, Bool.false_eq_true, if_false] <;> (repeat (any_goals (first | assumption | wp_step)))

/-- issubclass(X, (Y, Z)) of built-in types -/
theorem issubclass_pair {X Y Z : String} {b c : Bool} {tp : Addr} {Q : Value → Shared → Prop} (h1 : Sub2 X Y b) (h2 : Sub2 X Z c)
    (htp : s.heap.get? tp = some { cls := .type "tuple", data := .seq #[.type Y, .type Z] }) (hq : Q (.bool (b || c)) s) :
    wpAny (model prog w) A (call (.builtin "issubclass") [.type X, .ref tp]) Q E s := by
  refine call_issubclass (S := fun _ R s' => s'.heap.get? tp = some { cls := .type "tuple", data := .seq #[.type Y, .type Z] } ∧ R (.ok (.ret (.bool (b || c)))) s') (fun _ _ _ _ _ hs => issubclass_outer (isc_tuple h1 h2 rfl hs.1 hs.2)) ⟨htp, hq⟩

theorem sub2_bb : Sub2 "bytes" "bytes" true := ⟨F.isi_meta_bytes, by rfl, by rfl, F.sub_bytes_bytes⟩
theorem sub2_bs : Sub2 "bytes" "str" false := ⟨F.isi_meta_str, by rfl, by rfl, F.sub_bytes_str⟩
theorem sub2_ss : Sub2 "str" "str" true := ⟨F.isi_meta_str, by rfl, by rfl, F.sub_str_str⟩
theorem sub2_sb : Sub2 "str" "bytes" false := ⟨F.isi_meta_bytes, by rfl, by rfl, F.sub_str_bytes⟩
end
end Mine
end

section
open PySem PySem.W PyProof.Rows PySem.Calls
set_option maxRecDepth 100000
namespace Mine
theorem and4095 {n : Int} (h : 0 ≤ n) : Builtin.bitAnd n 4095 = n % 4096 := by
  rw [bitAnd_pp h (by decide)]
  have e : n.toNat &&& (4095 : Int).toNat = n.toNat % 4096 := Nat.and_two_pow_sub_one_eq_mod n.toNat 12
  rw [e]
  omega
theorem andShift (m : Nat) : m &&& 61440 = m / 4096 % 16 * 4096 := by
  have e1 : (61440 : Nat) = 15 <<< 12 := by decide
  have e2 : m / 4096 % 16 * 4096 = (m >>> 12 &&& 15) <<< 12 := by
    rw [Nat.shiftLeft_eq, Nat.shiftRight_eq_div_pow]
    have := Nat.and_two_pow_sub_one_eq_mod (m / 2 ^ 12) 4
    rw [show (15 : Nat) = 2 ^ 4 - 1 from rfl, this]
  rw [e1, e2]
  apply Nat.eq_of_testBit_eq
  intro i
  simp only [Nat.testBit_and, Nat.testBit_shiftLeft, Nat.testBit_shiftRight]
  by_cases h : 12 ≤ i
  · simp [h, show 12 + (i - 12) = i by omega]
  · simp [h]
theorem andF000 {n : Int} (h : 0 ≤ n) : Builtin.bitAnd n 61440 = n / 4096 % 16 * 4096 := by
  rw [bitAnd_pp h (by decide)]
  have e : n.toNat &&& (61440 : Int).toNat = n.toNat / 4096 % 16 * 4096 := andShift _
  rw [e]
  omega
end Mine
end

section
open PySem PySem.W PyProof.Rows PySem.Calls PySem.Builtin
set_option maxRecDepth 100000
namespace Mine
section
variable {b c : Array UInt8} {t u : Tok}
theorem fits_start (b : Array UInt8) (x : UInt8) : (if (b.size : Int) - 0 < ((#[x] : Array UInt8).size : Int) then false else b.extract (0 : Int).toNat ((0 : Int).toNat + (#[x] : Array UInt8).size) == #[x]) = (b.toList.head? == some x) := by
  obtain ⟨l⟩ := b
  cases l with
  | nil => rfl
  | cons y r =>
    simp
    intro _; omega
theorem fits_end (b : Array UInt8) (x : UInt8) : (if (b.size : Int) - 0 < ((#[x] : Array UInt8).size : Int) then false else b.extract ((b.size : Int).toNat - (#[x] : Array UInt8).size) (b.size : Int).toNat == #[x]) = (b.toList.getLast? == some x) := by
  obtain ⟨l⟩ := b
  rcases List.eq_nil_or_concat l with rfl | ⟨r, y, rfl⟩
  · rfl
  · simp
    intro _; omega
theorem gives_bytes_startswith (b : Array UInt8) (x : UInt8) (t u : Tok) : Gives («bytes.startswith» ⟨[.bytes b t, .bytes #[x] u], []⟩) (.val (.bool (b.toList.head? == some x))) := by
  refine .of_wp fun M A E s Q hq => ?_
  show wpAny M A (isInstance (.bytes #[x] u) (.type "tuple") >>= fun r => _) _ E s
  refine wpAny_bind (wpAny_of_eq (show isInstance (.bytes #[x] u) (.type "tuple") = pure false from F.sub_bytes_tuple) ?_)
  show wpAny M A (Bytes.buffer? _ (.bytes #[x] u) >>= fun r => _) _ E s
  refine wpAny_bind (wpAny_of_eq KBy.buffer_eq ?_)
  rw [← fits_start b x] at hq
  refine wpAny_pure ⟨_, rfl, ?_⟩
  have e : min (b.size : Int) (if (b.size : Int) < 0 then max 0 ((b.size : Int) + b.size) else b.size) = b.size := by
    rw [if_neg (by omega)]; exact Int.min_self _
  simp only [Bytes.window, Option.getD_none, e]
  exact hq
theorem gives_bytes_endswith (b : Array UInt8) (x : UInt8) (t u : Tok) : Gives («bytes.endswith» ⟨[.bytes b t, .bytes #[x] u], []⟩) (.val (.bool (b.toList.getLast? == some x))) := by
  refine .of_wp fun M A E s Q hq => ?_
  show wpAny M A (isInstance (.bytes #[x] u) (.type "tuple") >>= fun r => _) _ E s
  refine wpAny_bind (wpAny_of_eq (show isInstance (.bytes #[x] u) (.type "tuple") = pure false from F.sub_bytes_tuple) ?_)
  show wpAny M A (Bytes.buffer? _ (.bytes #[x] u) >>= fun r => _) _ E s
  refine wpAny_bind (wpAny_of_eq KBy.buffer_eq ?_)
  rw [← fits_end b x] at hq
  refine wpAny_pure ⟨_, rfl, ?_⟩
  have e : min (b.size : Int) (if (b.size : Int) < 0 then max 0 ((b.size : Int) + b.size) else b.size) = b.size := by
    rw [if_neg (by omega)]; exact Int.min_self _
  simp only [Bytes.window, Option.getD_none, e]
  exact hq
end
section
variable {prog : Program} {w : World} {M : Model} {A : Around} {E : Value → Shared → Prop} {s : Shared} {b : Array UInt8} {x : UInt8} {t u : Tok} {Q : Value → Shared → Prop} {pl : Sem Bool} {Q2 : Value × List Value → Shared → Prop}
theorem bstarts (h : Q (.bool (b.toList.head? == some x)) s) : wpAny (model prog w) A (call (.builtin "bytes.startswith") [.bytes b t, .bytes #[x] u]) Q E s :=
  call_gives FB.slot_bytes_startswith (typeIs_bytes _ _ _) FB.entry_bytes_startswith (FB.args_bytes_startswith_2 _ _) (gives_bytes_startswith b x t u) h
theorem bends (h : Q (.bool (b.toList.getLast? == some x)) s) : wpAny (model prog w) A (call (.builtin "bytes.endswith") [.bytes b t, .bytes #[x] u]) Q E s :=
  call_gives FB.slot_bytes_endswith (typeIs_bytes _ _ _) FB.entry_bytes_endswith (FB.args_bytes_endswith_2 _ _) (gives_bytes_endswith b x t u) h
theorem noI_bytes_add : typeLookup (.type "bytes") (dunderI "add") = pure none := by rw [typeLookup_type, builtinLookup_eq_fast]; kernel_rfl
theorem iadd_bytes {c : Array UInt8} (hsz : b.size + c.size ≤ 16777216) (h : ∀ t' k, Q (.bytes (b ++ c) t') { s with toks := k }) : wpAny (model prog w) A (inplaceOp .Add (.bytes b t) (.bytes c u)) Q E s := by
  refine iconcat_gives (typeIs_bytes s b t) (typeIs_bytes s c u) noI_bytes_add KBy.noFill_bytes_add KBy.seq_bytes_add FB.slot_bytes_add FB.entry_bytes_add (FB.args_bytes_add_2 _ _) (KBy.gives_bytes_add (KBy.tooLong_not hsz)) ?_
  by_cases hb : b.isEmpty = true
  · rw [if_pos hb]
    have e : b = #[] := Array.isEmpty_iff.1 hb
    have h' := h u s.toks
    rw [e, Array.empty_append] at h'
    exact h'
  · rw [if_neg hb]
    by_cases hc : c.isEmpty = true
    · rw [if_pos hc]
      have e : c = #[] := Array.isEmpty_iff.1 hc
      have h' := h t s.toks
      rw [e, Array.append_empty] at h'
      exact h'
    · rw [if_neg hc]
      exact ⟨by rw [Array.size_append, sizeLine_eq]; exact hsz, h s.toks (s.toks + 1)⟩
theorem gm_bstarts (h : Q2 (.builtin "bytes.startswith", [.bytes b t]) s) : wpAny M A (getMethod (.bytes b t) "startswith" pl) Q2 E s := by
  with_reducible exact KBd.method_of (.bytes b t) (typeIs_bytes _ _ _) FB.slot_bytes_startswith FB.type_bytes_startswith KBd.noRef h
theorem gm_bends (h : Q2 (.builtin "bytes.endswith", [.bytes b t]) s) : wpAny M A (getMethod (.bytes b t) "endswith" pl) Q2 E s := by
  with_reducible exact KBd.method_of (.bytes b t) (typeIs_bytes _ _ _) FB.slot_bytes_endswith FB.type_bytes_endswith KBd.noRef h
end
end Mine
end

section
set_option maxRecDepth 100000
namespace Mine
/-! ## plain law: a way cut at its slashes -/
section
variable {α : Type} [DecidableEq α]
def splitL (c : α) : List α → List (List α)
  | [] => [[]]
  | x :: r => if x = c then [] :: splitL c r else match splitL c r with
    | h :: t => (x :: h) :: t
    | [] => [[x]]
theorem splitL_ne (c : α) (l : List α) : splitL c l ≠ [] := by
  cases l with
  | nil => simp [splitL]
  | cons x r =>
    unfold splitL
    split
    · simp
    · split <;> simp
def joinL (c : α) : List (List α) → List α
  | [] => []
  | [p] => p
  | p :: q :: r => p ++ c :: joinL c (q :: r)
/-- a piece in hand ahead of what follows -/
def ahead (cur : List α) : List (List α) → List (List α)
  | h :: t => (cur ++ h) :: t
  | [] => [cur]
theorem splitL_cons_ne {c x : α} {r : List α} (h : x ≠ c) : splitL c (x :: r) = ahead [x] (splitL c r) := by
  show (if x = c then _ else _) = _
  rw [if_neg h]
  cases splitL c r <;> rfl
theorem splitL_cons_eq {c : α} {r : List α} : splitL c (c :: r) = [] :: splitL c r := by
  show (if c = c then _ else _) = _
  rw [if_pos rfl]
theorem ahead_ahead (a b : List α) (l : List (List α)) : ahead a (ahead b l) = ahead (a ++ b) l := by
  cases l <;> simp [ahead]
theorem ahead_nil {l : List (List α)} (h : l ≠ []) : ahead [] l = l := by
  cases l with
  | nil => exact absurd rfl h
  | cons a r => rfl
theorem splitL_free {c : α} {p : List α} (h : c ∉ p) : splitL c p = [p] := by
  induction p with
  | nil => rfl
  | cons x r ih =>
    rw [splitL_cons_ne (by rintro rfl; exact h (List.mem_cons_self)), ih fun hm => h (List.mem_cons_of_mem _ hm)]
    rfl
theorem splitL_append {c : α} {p r : List α} (h : c ∉ p) : splitL c (p ++ c :: r) = p :: splitL c r := by
  induction p with
  | nil => exact splitL_cons_eq
  | cons x q ih =>
    rw [List.cons_append, splitL_cons_ne (by rintro rfl; exact h (List.mem_cons_self)), ih fun hm => h (List.mem_cons_of_mem _ hm)]
    rfl
/-- what is cut of pieces without the sign is those pieces -/
theorem splitL_join {c : α} : ∀ {ps : List (List α)}, ps ≠ [] → (∀ p ∈ ps, c ∉ p) → splitL c (joinL c ps) = ps
  | [], h, _ => absurd rfl h
  | [p], _, h => splitL_free (h p (List.mem_cons_self))
  | p :: q :: r, _, h => by
    show splitL c (p ++ c :: joinL c (q :: r)) = _
    rw [splitL_append (h p (List.mem_cons_self)), splitL_join (by simp) fun a ha => h a (List.mem_cons_of_mem _ ha)]
theorem join_splitL (c : α) (l : List α) : joinL c (splitL c l) = l := by
  induction l with
  | nil => rfl
  | cons x r ih =>
    by_cases h : x = c
    · subst h
      rw [splitL_cons_eq]
      cases hs : splitL x r with
      | nil => exact absurd hs (splitL_ne _ _)
      | cons a t => rw [hs] at ih; show [] ++ x :: joinL x (a :: t) = _; rw [ih]; rfl
    · rw [splitL_cons_ne h]
      cases hs : splitL c r with
      | nil => exact absurd hs (splitL_ne _ _)
      | cons a t =>
        rw [hs] at ih
        show joinL c ((x :: a) :: t) = _
        cases t with
        | nil => show x :: a = _; rw [← ih]; rfl
        | cons b t => show (x :: a) ++ c :: joinL c (b :: t) = _; rw [← ih]; rfl
theorem splitL_mem {c : α} : ∀ {l : List α}, ∀ p ∈ splitL c l, c ∉ p
  | [], p, hp => by
    have : p = [] := by simpa [splitL] using hp
    rw [this]; simp
  | x :: r, p, hp => by
    have ih := @splitL_mem c r
    by_cases h : x = c
    · subst h
      rw [splitL_cons_eq] at hp
      rcases List.mem_cons.mp hp with rfl | hp
      · simp
      · exact ih p hp
    · rw [splitL_cons_ne h] at hp
      cases hs : splitL c r with
      | nil => exact absurd hs (splitL_ne _ _)
      | cons a t =>
        rw [hs] at hp ih
        rcases List.mem_cons.mp hp with rfl | hp
        · intro hm
          rcases List.mem_cons.mp hm with rfl | hm
          · exact h rfl
          · exact ih a (List.mem_cons_self) hm
        · exact ih p (List.mem_cons_of_mem _ hp)
theorem splitL_len {c : α} (l : List α) : (splitL c l).length ≤ l.length + 1 := by
  induction l with
  | nil => simp [splitL]
  | cons x r ih =>
    by_cases h : x = c
    · subst h; rw [splitL_cons_eq]; simp; omega
    · rw [splitL_cons_ne h]
      cases hs : splitL c r with
      | nil => simp [ahead]
      | cons a t => rw [hs] at ih; simp [ahead] at ih ⊢; omega
theorem splitL_piece {c : α} (l : List α) : ∀ p ∈ splitL c l, p.length ≤ l.length := by
  induction l with
  | nil => intro p hp; have : p = [] := by simpa [splitL] using hp
           rw [this]; simp
  | cons x r ih =>
    intro p hp
    by_cases h : x = c
    · subst h; rw [splitL_cons_eq] at hp
      rcases List.mem_cons.mp hp with rfl | hp
      · simp
      · have := ih p hp; simp; omega
    · rw [splitL_cons_ne h] at hp
      cases hs : splitL c r with
      | nil => exact absurd hs (splitL_ne _ _)
      | cons a t =>
        rw [hs] at hp ih
        rcases List.mem_cons.mp hp with rfl | hp
        · have := ih a (List.mem_cons_self); simp; omega
        · have := ih p (List.mem_cons_of_mem _ hp); simp; omega
end
end Mine
end

section
open PySem PySem.W PyProof.Rows PySem.Calls PySem.Builtin
set_option maxRecDepth 100000
namespace Mine
theorem slot_bytes_split : Slot "bytes" "split" "bytes.split" :=
  .of (owner := "bytes") (n := "split") (by rw [typeLookup_type, builtinLookup_eq_fast]; kernel_rfl) (by decide +kernel) (by decide +kernel) (by decide +kernel)
    (by first | exact .inl (by decide +kernel) | exact .inr (by decide +kernel)) (by rw [isSubtype_type]; kernel_rfl)
theorem type_bytes_split : typeOf (.builtin "bytes.split") = pure (.type "method_descriptor") := by show builtinType _ = _; rw [builtinType_eq_fast]; kernel_rfl
theorem entry_bytes_split : entryFor table "bytes.split" = some Builtin.«bytes.split» := entryFor_of_tree (by kernel_rfl)
theorem args_bytes_split_2 (a b : Value) : argsOk "bytes.split" ⟨[a, b], []⟩ := by
  unfold argsOk; rw [signature?_of (id := "bytes.split") (n := ['t', 'i', 'l', 'p', 's']) (o := ['s', 'e', 't', 'y', 'b']) (by kernel_rfl) FB.owner_bytes]; kernel_rfl
theorem slot_bytes_join : Slot "bytes" "join" "bytes.join" :=
  .of (owner := "bytes") (n := "join") (by rw [typeLookup_type, builtinLookup_eq_fast]; kernel_rfl) (by decide +kernel) (by decide +kernel) (by decide +kernel)
    (by first | exact .inl (by decide +kernel) | exact .inr (by decide +kernel)) (by rw [isSubtype_type]; kernel_rfl)
theorem type_bytes_join : typeOf (.builtin "bytes.join") = pure (.type "method_descriptor") := by show builtinType _ = _; rw [builtinType_eq_fast]; kernel_rfl
theorem entry_bytes_join : entryFor table "bytes.join" = some Builtin.«bytes.join» := entryFor_of_tree (by kernel_rfl)
theorem args_bytes_join_2 (a b : Value) : argsOk "bytes.join" ⟨[a, b], []⟩ := by
  unfold argsOk; rw [signature?_of (id := "bytes.join") (n := ['n', 'i', 'o', 'j']) (o := ['s', 'e', 't', 'y', 'b']) (by kernel_rfl) FB.owner_bytes]; kernel_rfl
theorem slot_str_encode : Slot "str" "encode" "str.encode" :=
  .of (owner := "str") (n := "encode") (by rw [typeLookup_type, builtinLookup_eq_fast]; kernel_rfl) (by decide +kernel) (by decide +kernel) (by decide +kernel)
    (by first | exact .inl (by decide +kernel) | exact .inr (by decide +kernel)) (by rw [isSubtype_type]; kernel_rfl)
theorem type_str_encode : typeOf (.builtin "str.encode") = pure (.type "method_descriptor") := by show builtinType _ = _; rw [builtinType_eq_fast]; kernel_rfl
theorem entry_str_encode : entryFor table "str.encode" = some Builtin.«str.encode» := entryFor_of_tree (by kernel_rfl)


/-! ### what bytes.split cuts -/
/-- the places of a sign, counted from a -/
def placesL (c : UInt8) : Nat → List UInt8 → List Nat
  | _, [] => []
  | a, x :: r => if x = c then a :: placesL c (a + 1) r else placesL c (a + 1) r
theorem occ_fold {c : UInt8} : ∀ (r pre : List UInt8) (acc : List Nat) (bd : Nat), bd ≤ pre.length →
    ((List.range' pre.length r.length).foldl (fun (acc : List Nat × Nat) (i : Nat) => if i ≥ acc.2 && (pre ++ r).toArray.extract i (i + (#[c] : Array UInt8).size) == #[c] then (i :: acc.1, i + (#[c] : Array UInt8).size) else acc) (acc, bd)).1.reverse = acc.reverse ++ placesL c pre.length r
  | [], pre, acc, bd, h => by simp [placesL]
  | x :: r, pre, acc, bd, h => by
    have e : (pre ++ x :: r) = (pre ++ [x]) ++ r := by simp
    have hl : (pre ++ [x]).length = pre.length + 1 := by simp
    have ht : ((pre ++ x :: r).toArray.extract pre.length (pre.length + (#[c] : Array UInt8).size) == #[c]) = decide (x = c) := by
      by_cases hx : x = c <;> simp [hx]
    rw [List.length_cons, List.range'_succ, List.foldl_cons]
    simp only [ge_iff_le, h, decide_true, Bool.true_and, ht, decide_eq_true_eq]
    by_cases hx : x = c
    · rw [if_pos hx, e]
      have := occ_fold (c := c) r (pre ++ [x]) (pre.length :: acc) (pre.length + 1) (by rw [hl]; exact Nat.le_refl _)
      rw [hl] at this
      have h2 := this
      simp only [ge_iff_le] at h2
      rw [show (pre.length + (#[c] : Array UInt8).size) = pre.length + 1 from rfl, h2]
      simp [placesL, hx]
    · rw [if_neg hx, e]
      have := occ_fold (c := c) r (pre ++ [x]) acc bd (by rw [hl]; omega)
      rw [hl] at this
      have h2 := this
      simp only [ge_iff_le] at h2
      rw [h2]
      simp [placesL, hx]
theorem occ_eq (b : Array UInt8) (c : UInt8) : Bytes.occurrences b #[c] 0 b.size = placesL c 0 b.toList := by
  obtain ⟨l⟩ := b
  have h := occ_fold (c := c) l [] [] 0 (Nat.le_refl _)
  simp only [List.length_nil, List.nil_append, List.reverse_nil] at h
  rw [← h]
  unfold Bytes.occurrences
  simp [List.range_eq_range']
theorem placesL_len (c : UInt8) : ∀ (l : List UInt8) (a : Nat), (placesL c a l).length ≤ l.length
  | [], _ => by simp [placesL]
  | x :: r, a => by
    have := placesL_len c r (a + 1)
    unfold placesL
    split <;> simp <;> omega
theorem placesL_nil (c : UInt8) : ∀ (l : List UInt8) (a : Nat), placesL c a l = [] → splitL c l = [l]
  | [], _, _ => rfl
  | x :: r, a, h => by
    unfold placesL at h
    by_cases hx : x = c
    · rw [if_pos hx] at h; cases h
    · rw [if_neg hx] at h
      rw [splitL_cons_ne hx, placesL_nil c r (a + 1) h]
      rfl
theorem between_fold {c : UInt8} : ∀ (r cur pre : List UInt8) (parts : Array (Array UInt8)),
    ((let (parts, last) := (placesL c (pre.length + cur.length) r).foldl (fun ((parts : Array (Array UInt8)), (last : Nat)) p => (parts.push ((pre ++ cur ++ r).toArray.extract last p), p + 1)) (parts, pre.length)
      (parts.push ((pre ++ cur ++ r).toArray.extract last (pre ++ cur ++ r).toArray.size)).toList : List (Array UInt8)).map Array.toList) = parts.toList.map Array.toList ++ ahead cur (splitL c r)
  | [], cur, pre, parts => by
    simp [placesL, splitL, ahead]
  | x :: r, cur, pre, parts => by
    by_cases hx : x = c
    · have e : (pre ++ cur ++ x :: r) = ((pre ++ cur ++ [x]) ++ [] ++ r) := by simp
      have h1 : placesL c (pre.length + cur.length) (x :: r) = (pre.length + cur.length) :: placesL c (pre.length + cur.length + 1) r := by
        show (if x = c then _ else _) = _
        rw [if_pos hx]
      have hcut : ((pre ++ cur ++ x :: r).toArray.extract pre.length (pre.length + cur.length)) = cur.toArray := by
        simp
      rw [h1, List.foldl_cons]
      simp only [hcut]
      have ih := between_fold (c := c) r [] (pre ++ cur ++ [x]) (parts.push cur.toArray)
      have hl : (pre ++ cur ++ [x]).length + ([] : List UInt8).length = pre.length + cur.length + 1 := by simp; omega
      have hl2 : (pre ++ cur ++ [x]).length = pre.length + cur.length + 1 := by simp; omega
      rw [hl, hl2] at ih
      rw [e]
      rw [ih, hx, splitL_cons_eq, ahead_nil (splitL_ne _ _)]
      simp [ahead]
    · have e : (pre ++ cur ++ x :: r) = (pre ++ (cur ++ [x]) ++ r) := by simp
      have h1 : placesL c (pre.length + cur.length) (x :: r) = placesL c (pre.length + (cur ++ [x]).length) r := by
        show (if x = c then _ else _) = _
        rw [if_neg hx]; simp; rfl
      rw [h1, e, between_fold r (cur ++ [x]) pre parts, splitL_cons_ne hx, ahead_ahead]
theorem between_eq (b : Array UInt8) (c : UInt8) : (Bytes.between b 1 (placesL c 0 b.toList)).map Array.toList = splitL c b.toList := by
  obtain ⟨l⟩ := b
  have h := between_fold (c := c) l [] [] #[]
  simp only [List.length_nil, List.nil_append, List.append_nil, Nat.zero_add, ahead_nil (splitL_ne c l)] at h
  exact h
end Mine
end

section
open PySem PySem.W PyProof.Rows PySem.Calls PySem.Builtin
set_option maxRecDepth 100000
namespace Mine
/-- values that are these bytes -/
inductive BsAre : List Value → List (List UInt8) → Prop
  | nil : BsAre [] []
  | cons (b : Array UInt8) (t : Tok) {vs : List Value} {bs : List (List UInt8)} (r : BsAre vs bs) : BsAre (.bytes b t :: vs) (b.toList :: bs)
theorem BsAre.length {vs : List Value} {bs : List (List UInt8)} (h : BsAre vs bs) : vs.length = bs.length := by
  induction h with
  | nil => rfl
  | cons b t r ih => simp [ih]
section
variable {prog : Program} {w : World} {M : Model} {A : Around} {E : Value → Shared → Prop} {s : Shared} {b : Array UInt8} {x : UInt8} {t u : Tok}
theorem mapM_bytes : ∀ (l : List (Array UInt8)) {s : Shared} {Q : List Value → Shared → Prop}, (∀ p ∈ l, p.size ≤ sizeLine) → (∀ vs k, BsAre vs (l.map Array.toList) → Q vs { s with toks := k }) →
    wpAny M A (l.mapM Bytes.Kind.bytes.new) Q E s
  | [], s, Q, _, h => by
    rw [List.mapM_nil]
    exact wpAny_pure (h [] s.toks .nil)
  | p :: r, s, Q, hs, h => by
    rw [List.mapM_cons]
    refine wpAny_bind (wpAny_mkBytes ?_ (hs p (List.mem_cons_self)))
    refine wpAny_bind (mapM_bytes r (fun q hq => hs q (List.mem_cons_of_mem _ hq)) fun vs k hv => ?_)
    exact wpAny_pure (h _ k (.cons p _ hv))
theorem between_size (c : UInt8) (hb : b.size ≤ sizeLine) : ∀ p ∈ Bytes.between b 1 (placesL c 0 b.toList), p.size ≤ sizeLine := by
  intro p hp
  have h := splitL_piece (c := c) b.toList p.toList (by rw [← between_eq b c]; exact List.mem_map_of_mem hp)
  simp only [Array.length_toList] at h
  exact Nat.le_trans h hb
theorem meets_split (hb : b.size + 1 ≤ sizeLine) : Meets («bytes.split» ⟨[.bytes b t, .bytes #[x] u], []⟩) (fun _ R s => ∀ vs k, BsAre vs (splitL x b.toList) → R (.ok (.ret (.ref s.heap.objs.size))) { s with heap := s.heap.push (listOf vs.toArray 0), toks := k }) := by
  refine .of_wp fun prog w A R s hS => ?_
  have e1 : ∀ id, Bytes.bytesLike id (.bytes #[x] u) = pure #[x] := fun id => KBd.like_eq
  repeat (any_goals (first | assumption | (rw [e1]) | wp_step))
  have e2 : (if -1 < (0 : Int) then b.size + 1 else (-1 : Int).toNat) = b.size + 1 := rfl
  simp only [Bool.false_eq_true, if_false, e2, occ_eq]
  have e3 : List.take (b.size + 1) (placesL x 0 b.toList) = placesL x 0 b.toList := List.take_of_length_le (by have := placesL_len x b.toList 0; simp only [Array.length_toList] at this; omega)
  rw [e3]
  by_cases hn : (placesL x 0 b.toList).isEmpty = true
  · rw [if_pos hn]
    have hsp := placesL_nil x b.toList 0 (List.isEmpty_iff.1 hn)
    have key : ∀ k, R (.ok (.ret (.ref s.heap.objs.size))) { s with heap := s.heap.push (listOf [Value.bytes b t].toArray 0), toks := k } := fun k => hS _ k (by rw [hsp]; exact .cons b t .nil)
    have key2 := key s.toks
    repeat (any_goals (first | assumption | wp_step))
    exact ⟨_, rfl, key2⟩
  · rw [if_neg hn]
    refine wpAny_bind (mapM_bytes _ (between_size x (by omega)) fun vs k hv => ?_)
    have hv : BsAre vs (List.map Array.toList (Bytes.between b 1 (placesL x 0 b.toList))) := hv
    rw [between_eq] at hv
    have key := hS vs k hv
    have hsz : vs.length ≤ sizeLine := by
      rw [hv.length]
      have := splitL_len (c := x) b.toList
      simp only [Array.length_toList] at this
      omega
    refine wpAny_bind (wpAny_newObj_type ?_ (by show vs.toArray.size ≤ sizeLine; rw [List.size_toArray]; exact hsz))
    exact wpAny_pure ⟨_, rfl, key⟩

theorem bsplit {h₀ : Heap} {L : Addr} {m : Str → Option Value} {news : List (Addr × Obj)} {Q : Value → Shared → Prop} (F : Fr h₀ L s.heap m) (N : News h₀ L s.heap news) (hb : b.size + 1 ≤ sizeLine)
    (h : ∀ D vs h' k, BsAre vs (splitL x b.toList) → Fr h₀ L h' m → News h₀ L h' ((D, listOf vs.toArray 0) :: news) → (∀ p ∈ news, p.1 < D) → Q (.ref D) { s with heap := h', toks := k }) :
    wpAny (model prog w) A (call (.builtin "bytes.split") [.bytes b t, .bytes #[x] u]) Q E s :=
  call_meets slot_bytes_split (typeIs_bytes _ _ _) entry_bytes_split (args_bytes_split_2 _ _) (meets_split hb) (fun vs k hv => h _ vs _ k hv (F.push _) (N.push F _) (fun p hp => Heap.lt_size (N p hp).1))
theorem gm_bsplit {pl : Sem Bool} {Q2 : Value × List Value → Shared → Prop} (h : Q2 (.builtin "bytes.split", [.bytes b t]) s) : wpAny M A (getMethod (.bytes b t) "split" pl) Q2 E s := by
  with_reducible exact KBd.method_of (.bytes b t) (typeIs_bytes _ _ _) slot_bytes_split type_bytes_split KBd.noRef h
theorem gm_bjoin {pl : Sem Bool} {Q2 : Value × List Value → Shared → Prop} (h : Q2 (.builtin "bytes.join", [.bytes b t]) s) : wpAny M A (getMethod (.bytes b t) "join" pl) Q2 E s := by
  with_reducible exact KBd.method_of (.bytes b t) (typeIs_bytes _ _ _) slot_bytes_join type_bytes_join KBd.noRef h


theorem loop_st {β : Type} {n : Nat} (st : Nat → β) (f : Nat → β → Sem (ForInStep β)) (hf : ∀ i, i < n → ∀ Q : ForInStep β → Shared → Prop, Q (.yield (st (i + 1))) s → wpAny M A (f i (st i)) Q E s) {Q : β → Shared → Prop} :
    ∀ k a, a + k = n → Q (st n) s → wpAny M A (forIn (List.range' a k) (st a) f) Q E s
  | 0, a, h, hq => by
    have : a = n := by omega
    subst this
    exact wpAny_pure hq
  | k + 1, a, h, hq => by
    rw [List.range'_succ, List.forIn_cons]
    exact wpAny_bind (hf a (by omega) _ (loop_st st f hf k (a + 1) (by omega) hq))
theorem BsAre.get {vs : List Value} {bs : List (List UInt8)} (h : BsAre vs bs) : ∀ i, i < vs.length → ∃ (p : Array UInt8) (t : Tok), vs[i]? = some (.bytes p t) ∧ bs[i]? = some p.toList := by
  induction h with
  | nil => intro i hi; exact absurd hi (Nat.not_lt_zero _)
  | cons b t r ih =>
    intro i hi
    cases i with
    | zero => exact ⟨b, t, rfl, rfl⟩
    | succ j => exact ih j (by simpa using hi)
theorem BsAre.noHeap {vs : List Value} {bs : List (List UInt8)} (h : BsAre vs bs) : ∀ v ∈ vs, v.onHeap = false := by
  induction h with
  | nil => intro v hv; cases hv
  | cons b t r ih =>
    intro v hv
    rcases List.mem_cons.mp hv with rfl | hv
    · rfl
    · exact ih v hv
theorem joined_fold (sep : UInt8) : ∀ (ps : List (Array UInt8)) (i : Nat) (out : Array UInt8), ((ps.zipIdx (i + 1)).foldl (fun out ((p : Array UInt8), (j : Nat)) => (if j > 0 then out ++ #[sep] else out) ++ p) out).toList = out.toList ++ (ps.map fun p => sep :: p.toList).flatten
  | [], i, out => by simp
  | p :: r, i, out => by
    rw [List.zipIdx_cons, List.foldl_cons, joined_fold sep r (i + 1)]
    simp
theorem joinL_flat (sep : UInt8) : ∀ (p : List UInt8) (r : List (List UInt8)), joinL sep (p :: r) = p ++ (r.map fun q => sep :: q).flatten
  | p, [] => by simp [joinL]
  | p, q :: r => by
    show p ++ sep :: joinL sep (q :: r) = _
    rw [joinL_flat sep q r]
    simp
theorem joined_eq (sep : UInt8) (ps : List (Array UInt8)) : (Bytes.joined #[sep] ps).toList = joinL sep (ps.map Array.toList) := by
  cases ps with
  | nil => rfl
  | cons p r =>
    have h := joined_fold sep r 0 p
    rw [List.map_cons, joinL_flat, List.map_map]
    have e : Bytes.joined #[sep] (p :: r) = (r.zipIdx (0 + 1)).foldl (fun out ((p : Array UInt8), (j : Nat)) => (if j > 0 then out ++ #[sep] else out) ++ p) p := by
      unfold Bytes.joined
      rw [List.zipIdx_cons, List.foldl_cons]
      simp
    rw [e, h]
    rfl
theorem buffer_eq2 {id : String} : Bytes.buffer? id (.bytes b t) (0 == Bytes.fullReadOnly) = pure (some b) := by
  unfold Bytes.buffer?
  rw [KBy.special_eq KBy.look_buffer, KBy.own_buffer, KBy.own_release]
  kernel_rfl
theorem take_quiet {id : String} : Bytes.takeBufferQuiet? id (.bytes b t) 0 = pure (some (b, none)) := by
  unfold Bytes.takeBufferQuiet? Bytes.takeBuffer?
  rw [KBy.special_eq KBy.look_buffer, KBy.own_buffer, buffer_eq2]
  rfl
theorem letGo_bytes {id : List Value} : ∀ (ps : List (Array UInt8 × Tok)) {Q : Unit → Shared → Prop}, Q () s → wpAny M A (Bytes.joinLetGo (ps.map fun p => (Value.bytes p.1 p.2, none)) id) Q E s
  | [], Q, h => wpAny_pure h
  | p :: r, Q, h => by
    show wpAny M A (Bytes.joinLetGo ((Value.bytes p.1 p.2, none) :: r.map fun p => (Value.bytes p.1 p.2, none)) id) Q E s
    unfold Bytes.joinLetGo
    have h' := letGo_bytes (id := id) r h
    repeat (any_goals (first | assumption | wp_step))
theorem foldl_sizes (k : Nat) : ∀ (ps : List (Array UInt8)) (a : Nat), ps.foldl (fun x y => x + y.size) a = a + (ps.map Array.size).sum
  | [], a => by simp
  | p :: r, a => by rw [List.foldl_cons, foldl_sizes k r]; simp; omega
/-- the list's items are these bytes -/
theorem BsAre.arrs {vs : List Value} {bs : List (List UInt8)} (h : BsAre vs bs) : ∃ ps : List (Array UInt8 × Tok), vs = ps.map (fun p => Value.bytes p.1 p.2) ∧ bs = ps.map (fun p => p.1.toList) := by
  induction h with
  | nil => exact ⟨[], rfl, rfl⟩
  | cons b t r ih =>
    obtain ⟨ps, e1, e2⟩ := ih
    exact ⟨(b, t) :: ps, by simp [e1], by simp [e2]⟩
theorem wpAny_rangeLoop {β : Type} {n : Nat} {f : Nat → β → Sem (ForInStep β)} {b : β} {Q : β → Shared → Prop} (h : wpAny M A (forIn (List.range' 0 n) b f) Q E s) : wpAny M A (forIn [:n] b f) Q E s := by
  rw [Std.Legacy.Range.forIn_eq_forIn_range']
  simpa using h
theorem join_loop {ps : List (Array UInt8 × Tok)} {f : Nat → Array (Array UInt8) × List (Value × Option Value) → Sem (ForInStep (Array (Array UInt8) × List (Value × Option Value)))} {Q : Array (Array UInt8) × List (Value × Option Value) → Shared → Prop}
    (hf : ∀ i (h : i < ps.length), ∀ Q : ForInStep (Array (Array UInt8) × List (Value × Option Value)) → Shared → Prop, Q (.yield (((ps.take i).map (·.1)).toArray.push ps[i].1, (ps.take i).map (fun p => (Value.bytes p.1 p.2, none)) ++ [(Value.bytes ps[i].1 ps[i].2, none)])) s →
      wpAny M A (f i (((ps.take i).map (·.1)).toArray, (ps.take i).map (fun p => (Value.bytes p.1 p.2, none)))) Q E s)
    {n : Nat} (hn : n = ps.length) (hq : Q ((ps.map (·.1)).toArray, ps.map (fun p => (Value.bytes p.1 p.2, none))) s) : wpAny M A (forIn [:n] (#[], []) f) Q E s := by
  subst hn
  refine wpAny_rangeLoop (loop_st (n := ps.length) (fun i => (((ps.take i).map (·.1)).toArray, (ps.take i).map (fun p => (Value.bytes p.1 p.2, none)))) f (fun i hi Q hQ => hf i hi Q ?_) ps.length 0 (by omega) ?_)
  · have e1 : ((ps.take (i + 1)).map (·.1)).toArray = ((ps.take i).map (·.1)).toArray.push ps[i].1 := by
      rw [List.take_succ_eq_append_getElem hi, List.map_append, List.push_toArray]; rfl
    have e2 : (ps.take (i + 1)).map (fun p => ((Value.bytes p.1 p.2, none) : Value × Option Value)) = (ps.take i).map (fun p => (Value.bytes p.1 p.2, none)) ++ [(Value.bytes ps[i].1 ps[i].2, none)] := by
      rw [List.take_succ_eq_append_getElem hi, List.map_append]; rfl
    show Q (ForInStep.yield (_, _)) s
    rw [e1, e2] at hQ
    exact hQ
  · simpa using hq
theorem joinL_len (c : UInt8) : ∀ bs : List (List UInt8), (joinL c bs).length = (bs.length - 1) + (bs.map List.length).sum
  | [] => rfl
  | [p] => by simp [joinL]
  | p :: q :: r => by
    have := joinL_len c (q :: r)
    show (p ++ c :: joinL c (q :: r)).length = _
    rw [List.length_append, List.length_cons, this]
    simp; omega
theorem joined_size {x : UInt8} {ps : List (Array UInt8 × Tok)} (hz : (ps.length - 1) + (ps.map (fun p => p.1.size)).sum ≤ sizeLine) : (Bytes.joined #[x] (ps.map (·.1))).size ≤ sizeLine := by
  have h := congrArg List.length (joined_eq x (ps.map (·.1)))
  rw [Array.length_toList, joinL_len] at h
  rw [h]
  simpa [Function.comp_def] using hz
theorem noHeap_any (ps : List (Array UInt8 × Tok)) : ((ps.map (fun p => ((Value.bytes p.1 p.2, none) : Value × Option Value))).any fun x => x.1.onHeap) = false := by
  rw [List.any_map, List.any_eq_false]
  intro x _
  simp [Value.onHeap]
theorem meets_join {x : UInt8} {ps : List (Array UInt8 × Tok)} {a : Addr} {n : Nat} (hz : (ps.length - 1) + (ps.map (fun p => p.1.size)).sum ≤ sizeLine) : Meets («bytes.join» ⟨[.bytes #[x] t, .ref a], []⟩) (fun _ R s => s.heap.get? a = some (listOf (ps.map (fun p => Value.bytes p.1 p.2)).toArray n) ∧ ∀ t' k, R (.ok (.ret (.bytes (Bytes.joined #[x] (ps.map (·.1))) t'))) { s with toks := k }) := by
  refine .of_wp fun prog w A R s hS => ?_
  obtain ⟨ha, hr⟩ := hS
  obtain ⟨h, g, d, t, os⟩ := s
  have hT2 : (⟨h, g, d, t, os⟩ : Shared).TypeIs (.ref a) "list" := ⟨_, ha, rfl⟩
  have one : ∀ p : Array UInt8 × Tok, ps = [p] → R (.ok (.ret (.bytes p.1 p.2))) ⟨h, g, d, t, os⟩ := by
    rintro p rfl
    have := hr p.2 t
    simpa [Bytes.joined] using this
  rcases ps with _ | ⟨p, _ | ⟨q, r⟩⟩
  · have k := hr 
    simp only [List.map_nil] at ha
    repeat (any_goals (first | assumption | wp_step))
    show wpAny _ _ (forIn (m := Sem) [:([] : List (Array UInt8 × Tok)).length] _ _) _ _ _
    refine join_loop (ps := []) (fun i hi => absurd hi (Nat.not_lt_zero _)) rfl ?_
    have k2 : ∀ t' k, R (.ok (.ret (.bytes (Bytes.joined #[x] []) t'))) ⟨h, g, d, k, os⟩ := hr
    repeat (any_goals (first | assumption | wp_step))
    exact ⟨_, rfl, hr _ _⟩
  · have k := one p rfl
    simp only [List.map_nil, List.map_cons] at ha
    have hT3 : (⟨h, g, d, t, os⟩ : Shared).TypeIs (Value.bytes p.1 p.2) "bytes" := rfl
    repeat (any_goals (first | assumption | wp_step))
    exact ⟨_, rfl, k⟩
  · simp only [List.map_cons] at ha
    repeat (any_goals (first | assumption | wp_step))
    show wpAny _ _ (forIn (m := Sem) [:(Value.bytes p.1 p.2 :: Value.bytes q.1 q.2 :: r.map (fun p => Value.bytes p.1 p.2)).toArray.size] _ _) _ _ _
    refine join_loop (ps := p :: q :: r) (fun i hi Q hQ => ?_) (by simp) ?_
    · have hx : (Value.bytes p.1 p.2 :: Value.bytes q.1 q.2 :: r.map (fun p => Value.bytes p.1 p.2)).toArray.getD i Value.none = Value.bytes (p :: q :: r)[i].1 (p :: q :: r)[i].2 := by
        have e : (Value.bytes p.1 p.2 :: Value.bytes q.1 q.2 :: r.map (fun p => Value.bytes p.1 p.2)) = (p :: q :: r).map (fun p => Value.bytes p.1 p.2) := rfl
        rw [e]
        simp only [Array.getD_eq_getD_getElem?, List.getElem?_toArray, List.getElem?_map, List.getElem?_eq_getElem hi, Option.map_some, Option.getD_some]
      have hno := noHeap_any ((p :: q :: r).take i)
      have hno2 : (Bytes.Kind.bytes == Bytes.Kind.bytearray || ((((p :: q :: r).take i).map (fun p => ((Value.bytes p.1 p.2, none) : Value × Option Value))).any fun x => x.1.onHeap)) = false := by rw [hno]; rfl
      repeat (any_goals (first | assumption | (rw [hx]) | (rw [hno2]) | (rw [take_quiet]) | wp_step))
    · have hsz : Bytes.tooLong (Array.foldl (fun x1 x2 => x1 + x2.size) ((#[x] : Array UInt8).size * (((p :: q :: r).map (·.1)).toArray.size - 1)) ((p :: q :: r).map (·.1)).toArray) = false := by
        refine KBy.tooLong_not ?_
        rw [← sizeLine_eq]
        simp only [List.foldl_toArray, foldl_sizes 0]
        simpa [Function.comp_def] using hz
      have lg := fun (v : List Value) Q hQ => letGo_bytes (M := model prog w) (A := A.in1) (E := fun e s' => R (.error e) s') (s := ⟨h, g, d, t + 1, os⟩) (id := v) (p :: q :: r) (Q := Q) hQ
      have hj := joined_size (x := x) hz
      repeat (any_goals (first | assumption | (rw [hsz]) | wp_step))
      refine wpAny_mkBytes ?_ hj
      refine wpAny_bind (wpAny_holding (wpAny_point ?_))
      refine wpAny_bind (letGo_bytes (p :: q :: r) ?_)
      exact wpAny_pure ⟨_, rfl, hr _ _⟩
theorem bjoin {x : UInt8} {vs : List Value} {bs : List (List UInt8)} {a : Addr} {n : Nat} {Q : Value → Shared → Prop} (hv : BsAre vs bs) (ha : s.heap.get? a = some (listOf vs.toArray n)) (hz : (bs.length - 1) + (bs.map List.length).sum ≤ sizeLine)
    (hr : ∀ t' k, Q (.bytes (joinL x bs).toArray t') { s with toks := k }) : wpAny (model prog w) A (call (.builtin "bytes.join") [.bytes #[x] t, .ref a]) Q E s := by
  obtain ⟨ps, rfl, rfl⟩ := hv.arrs
  have e : (joinL x (ps.map fun p => p.1.toList)).toArray = Bytes.joined #[x] (ps.map (·.1)) := by
    have := joined_eq x (ps.map (·.1))
    rw [List.map_map] at this
    have e2 : (ps.map fun p => p.1.toList) = ps.map (Array.toList ∘ fun x => x.1) := rfl
    rw [e2, ← this]
  rw [e] at hr
  refine call_meets slot_bytes_join (typeIs_bytes _ _ _) entry_bytes_join (args_bytes_join_2 _ _) (meets_join (n := n) ?_) ⟨ha, hr⟩
  simpa [Function.comp_def] using hz
end
end Mine
end

section
open PySem PySem.W PyProof.Rows PySem.Calls PySem.Builtin
set_option maxRecDepth 100000
namespace Mine
theorem args_str_encode_2 (a b : Value) : argsOk "str.encode" ⟨[a, b], []⟩ := by
  unfold argsOk; rw [signature?_of (id := "str.encode") (n := ['e', 'd', 'o', 'c', 'n', 'e']) (o := ['r', 't', 's']) (by kernel_rfl) F.owner_str]; kernel_rfl
open Builtin._codecs in
theorem encodeRoad_ascii (id : String) (self : Value) (x : Str) (errors : Option Str) : encodeRoad id self x (Str.ofString "ascii") errors = (do mkBytes (← encodeNarrow id asciiCodec errors self x)) := by
  first | rfl | (unfold encodeRoad; rfl) | (unfold encodeRoad; simp only []; rfl) | decide
open Builtin._codecs in
theorem encode_tree2 (x : Str) (t u : Tok) : «str.encode» ⟨[.str x t, .str (Str.ofString "ascii") u], []⟩ = (do ret (← encodeRoad "str.encode" (.str x t) x (Str.ofString "ascii") none)) := by
  first | rfl | kernel_rfl
section
open Builtin._codecs
variable {prog : Program} {w : World} {M : Model} {A : Around} {E : Value → Shared → Prop} {s : Shared} {x : Str}
theorem enc_loop {β : Type} {n : Nat} {f : Nat → β → Sem (ForInStep β)} {b0 b1 : β} {Q : β → Shared → Prop} (h1 : n ≠ 0 → ∀ Q : ForInStep β → Shared → Prop, Q (.yield b1) s → wpAny M A (f 0 b0) Q E s)
    (h2 : ∀ j (Q : ForInStep β → Shared → Prop), Q (.done b1) s → wpAny M A (f j b1) Q E s) (hq : Q (if n = 0 then b0 else b1) s) : wpAny M A (forIn [:n] b0 f) Q E s := by
  refine wpAny_rangeLoop ?_
  cases n with
  | zero => exact wpAny_pure hq
  | succ n =>
    rw [if_neg (by omega)] at hq
    rw [List.range'_succ, List.forIn_cons]
    refine wpAny_bind (h1 (by omega) _ ?_)
    show wpAny M A (forIn (List.range' 1 n) b1 f) Q E s
    cases n with
    | zero => exact wpAny_pure hq
    | succ n =>
      rw [List.range'_succ, List.forIn_cons]
      exact wpAny_bind (h2 _ _ (wpAny_pure hq))
theorem enc_fold : ∀ (l : List Nat) (out : Array UInt8), l.foldl (fun acc y => acc ++ (asciiCodec.bytesOf y).toArray) out = out ++ (l.map Nat.toUInt8).toArray
  | [], out => by simp
  | y :: r, out => by
    rw [List.foldl_cons, enc_fold r]
    simp [asciiCodec]
theorem narrow_ascii {id : String} {v : Value} (hx : ∀ c ∈ x.cps.toList, c < 128) (hz : x.length ≤ sizeLine) {Q : Array UInt8 → Shared → Prop} (hq : Q ((x.cps.toList.map Nat.toUInt8).toArray) s) : wpAny M A (encodeNarrow id asciiCodec none v x) Q E s := by
  unfold encodeNarrow
  have hfi : Array.findIdx? asciiCodec.bad x.cps = none := by
    rw [Array.findIdx?_eq_none_iff]
    intro c hc
    have := hx c (Array.mem_toList_iff.mpr hc)
    show decide (c ≥ 128) = false
    simp; omega
  have hz2 : ¬ ((x.cps.toList.map Nat.toUInt8).toArray.size > sizeLine) := by
    have : (x.cps.toList.map Nat.toUInt8).toArray.size = x.length := by simp; rfl
    rw [this]; omega
  have hz3 : ¬ ((#[] : Array UInt8).size > sizeLine) := by rw [sizeLine_eq]; decide
  refine wpAny_bind ?_
  refine enc_loop (b1 := (x.cps.size, ((x.cps.toList.map Nat.toUInt8).toArray, {}))) ?_ ?_ ?_
  · intro hn Q hQ
    have hsz : x.cps.size ≠ 0 := hn
    have hg : x.cps[0]? = some (x.cps[0]'(by omega)) := by simp
    have hb : asciiCodec.bad (x.cps[0]'(by omega)) = false := by
      have := hx (x.cps[0]'(by omega)) (Array.mem_toList_iff.mpr (Array.getElem_mem _))
      show decide (_ ≥ 128) = false
      simp; omega
    have he : x.cps.extract 0 x.cps.size = x.cps := by simp
    simp only [hg, hb, he, hfi, if_neg hz3, Bool.not_false, if_true, Option.getD_none]
    have hfo : Array.foldl (fun acc y => acc ++ (asciiCodec.bytesOf y).toArray) #[] x.cps = (x.cps.toList.map Nat.toUInt8).toArray := by
      rw [← Array.foldl_toList, enc_fold]; simp
    simp only [hfo, Nat.zero_add]
    exact wpAny_pure hQ
  · intro j Q hQ
    have hg : x.cps[x.cps.size]? = none := by simp
    simp only [hg, if_neg hz2]
    exact wpAny_pure hQ
  · by_cases h0 : x.length = 0
    · rw [if_pos h0]
      have : x.cps.toList = [] := List.eq_nil_of_length_eq_zero (by rw [Array.length_toList]; exact h0)
      rw [this] at hq
      exact wpAny_pure hq
    · rw [if_neg h0]
      exact wpAny_pure hq
end
section
variable {prog : Program} {w : World} {M : Model} {A : Around} {E : Value → Shared → Prop} {s : Shared} {x : Str} {t u : Tok}
theorem sencode (hx : ∀ c ∈ x.cps.toList, c < 128) (hz : x.length ≤ sizeLine) {Q : Value → Shared → Prop} (hq : ∀ t' k, Q (.bytes ((x.cps.toList.map Nat.toUInt8).toArray) t') { s with toks := k }) :
    wpAny (model prog w) A (call (.builtin "str.encode") [.str x t, .str (Str.ofString "ascii") u]) Q E s := by
  refine call_meets slot_str_encode (typeIs_str _ _ _) entry_str_encode (args_str_encode_2 _ _) (S := fun _ R s => ∀ t' k, R (.ok (.ret (.bytes ((x.cps.toList.map Nat.toUInt8).toArray) t'))) { s with toks := k }) (.of_wp fun prog w A R s hS => ?_) hq
  rw [encode_tree2, encodeRoad_ascii]
  refine wpAny_bind (wpAny_bind (narrow_ascii hx hz ?_))
  exact wpAny_mkBytes (wpAny_pure ⟨_, rfl, hS _ _⟩) (by rw [List.size_toArray, List.length_map, Array.length_toList]; exact hz)
theorem gm_sencode {pl : Sem Bool} {Q2 : Value × List Value → Shared → Prop} (h : Q2 (.builtin "str.encode", [.str x t]) s) : wpAny M A (getMethod (.str x t) "encode" pl) Q2 E s := by
  with_reducible exact GM.of (.str x t) (typeIs_str _ _ _) slot_str_encode type_str_encode GM.noRef h
end
end Mine
end

section
set_option maxRecDepth 100000
namespace Mine
section
variable {α : Type} [DecidableEq α]
/-- one step of join: a way and the next part -/
def jstep (c : α) (p b : List α) : List α :=
  if (b.head? == some c) = true ∨ p = [] then b else if (p.getLast? == some c) = true then p ++ b else p ++ (c :: b)
def pjoin (c : α) (a : List α) (bs : List (List α)) : List α := bs.foldl (jstep c) a
theorem jstep_len (c : α) (p b : List α) : (jstep c p b).length ≤ p.length + (b.length + 1) := by
  unfold jstep
  split
  · omega
  · split
    · rw [List.length_append]; omega
    · rw [List.length_append, List.length_cons]; exact Nat.le_refl _
def tot : List (List α) → Nat
  | [] => 0
  | b :: r => b.length + 1 + tot r
theorem pjoin_len (c : α) : ∀ (bs : List (List α)) (a : List α), (pjoin c a bs).length ≤ a.length + tot bs
  | [], a => Nat.le_refl _
  | b :: r, a => by
    have h1 := jstep_len c a b
    have h2 := pjoin_len c r (jstep c a b)
    show (pjoin c (jstep c a b) r).length ≤ a.length + (b.length + 1 + tot r)
    omega
theorem tot_take (bs : List (List α)) : ∀ i, tot (bs.take i) ≤ tot bs := by
  induction bs with
  | nil => intro i; simp [tot]
  | cons b r ih =>
    intro i
    cases i with
    | zero => simp [tot]
    | succ i => have := ih i; simp only [List.take_succ_cons, tot]; omega
theorem tot_get (bs : List (List α)) : ∀ b ∈ bs, b.length ≤ tot bs := by
  induction bs with
  | nil => intro b hb; cases hb
  | cons a r ih =>
    intro b hb
    rcases List.mem_cons.mp hb with rfl | hb
    · simp only [tot]; omega
    · have := ih b hb; simp only [tot]; omega
theorem pjoin_snoc (c : α) (a : List α) (bs : List (List α)) (i : Nat) (b : List α) (h : bs[i]? = some b) : pjoin c a (bs.take (i + 1)) = jstep c (pjoin c a (bs.take i)) b := by
  unfold pjoin
  rw [List.take_add_one, h]
  simp
/-- the root of a way and what follows it -/
def sroot (c : α) (l : List α) : List α × List α :=
  if l.take 1 ≠ [c] then ([], l) else if (l.drop 1).take 1 ≠ [c] ∨ (l.drop 2).take 1 = [c] then ([c], l.drop 1) else (l.take 2, l.drop 2)
/-- one name after another: what normpath keeps -/
def nstep (d : α) (rooted : Bool) (st : List (List α)) (x : List α) : List (List α) :=
  if x = [] ∨ x = [d] then st else if x ≠ [d, d] ∨ (rooted = false ∧ st = []) ∨ (st ≠ [] ∧ st.getLast? = some [d, d]) then st ++ [x] else st.dropLast
def nfold (d : α) (rooted : Bool) (xs : List (List α)) : List (List α) := xs.foldl (nstep d rooted) []
def pnorm (c d : α) (l : List α) : List α :=
  if l = [] then [d] else
    let r := sroot c l
    let out := r.1 ++ joinL c (nfold d (decide (r.1 ≠ [])) (splitL c r.2))
    if out = [] then [d] else out
theorem tot_app (a b : List (List α)) : tot (a ++ b) = tot a + tot b := by
  induction a with
  | nil => simp [tot]
  | cons x r ih => simp only [List.cons_append, tot, ih]; omega
theorem tot_dropLast (a : List (List α)) : tot a.dropLast ≤ tot a := by
  induction a with
  | nil => simp [tot]
  | cons x r ih =>
    cases r with
    | nil => simp [tot]
    | cons y r => simp only [List.dropLast_cons₂, tot] at ih ⊢; omega
theorem nstep_tot (d : α) (rt : Bool) (st : List (List α)) (x : List α) : tot (nstep d rt st x) ≤ tot st + (x.length + 1) := by
  unfold nstep
  split
  · omega
  · split
    · rw [tot_app]; simp only [tot]; omega
    · have := tot_dropLast st; omega
theorem nfold_tot (d : α) (rt : Bool) : ∀ (xs : List (List α)) (st : List (List α)), tot (xs.foldl (nstep d rt) st) ≤ tot st + tot xs
  | [], st => by simp [tot]
  | x :: r, st => by
    have h1 := nfold_tot d rt r (nstep d rt st x)
    have h2 := nstep_tot d rt st x
    simp only [List.foldl_cons, tot]
    omega
theorem tot_split (c : α) (l : List α) : tot (splitL c l) = l.length + 1 := by
  induction l with
  | nil => simp [splitL, tot]
  | cons x r ih =>
    by_cases h : x = c
    · subst h; rw [splitL_cons_eq]; simp only [tot, ih, List.length_cons, List.length_nil]; omega
    · rw [splitL_cons_ne h]
      cases hs : splitL c r with
      | nil => exact absurd hs (splitL_ne _ _)
      | cons a t => rw [hs] at ih; simp only [tot, ahead] at ih ⊢; simp only [List.cons_append, List.nil_append, List.length_cons]; omega
theorem nfold_snoc (d : α) (rt : Bool) (xs : List (List α)) (i : Nat) (x : List α) (h : xs[i]? = some x) : nfold d rt (xs.take (i + 1)) = nstep d rt (nfold d rt (xs.take i)) x := by
  unfold nfold
  rw [List.take_add_one, h]
  simp
theorem sroot_len (c : α) (l : List α) : (sroot c l).1.length + (sroot c l).2.length ≤ l.length := by
  unfold sroot
  split
  · simp
  · rename_i h
    have : l ≠ [] := by rintro rfl; exact h (by simp)
    have hp : 0 < l.length := List.length_pos_iff.mpr this
    split
    · simp only [List.length_cons, List.length_nil, List.length_drop]; omega
    · rw [List.length_take, List.length_drop]; omega
end
end Mine
end

section
open PySem PySem.W PyProof.Rows PySem.Calls PySem.Builtin
set_option maxRecDepth 100000
namespace Mine
abbrev sl (x : Str) : List Nat := x.cps.toList
abbrev mkS (l : List Nat) : Str := ⟨l.toArray⟩
theorem mkS_sl (x : Str) : mkS (sl x) = x := rfl
theorem sl_mkS (l : List Nat) : sl (mkS l) = l := rfl
theorem sl_len (x : Str) : (sl x).length = x.length := Array.length_toList
theorem sl_app (x y : Str) : sl (x ++ y) = sl x ++ sl y := KAf.app_list x y
theorem slash : Str.ofString "/" = mkS [47] := by decide +kernel
theorem starts_one (x : Str) (c : Nat) : Txt.startswith x (mkS [c]) = ((sl x).head? == some c) := by
  unfold Txt.startswith
  rw [StrLaws.subAt_eq]
  obtain ⟨⟨l⟩⟩ := x
  cases l with
  | nil => rfl
  | cons y r =>
    have : decide (0 + (mkS [c]).length ≤ Str.length ⟨⟨y :: r⟩⟩) = true := decide_eq_true (by show 0 + 1 ≤ r.length + 1; omega)
    rw [this]
    show (true && ([y] == [c])) = (some y == some c)
    simp
theorem ends_one (x : Str) (c : Nat) : Txt.endswith x (mkS [c]) = ((sl x).getLast? == some c) := by
  unfold Txt.endswith
  rw [StrLaws.subAt_eq]
  obtain ⟨⟨l⟩⟩ := x
  rcases List.eq_nil_or_concat l with rfl | ⟨r, y, rfl⟩
  · rfl
  · rw [List.concat_eq_append]
    have : decide (0 + (mkS [c]).length ≤ Str.length ⟨⟨r ++ [y]⟩⟩) = true := decide_eq_true (by show 0 + 1 ≤ (r ++ [y]).length; simp)
    rw [this]
    show (true && (List.take 1 (List.drop ((r ++ [y]).length - 1) (r ++ [y])) == [c])) = _
    have e : (r ++ [y]).length - 1 = r.length := by simp
    rw [e]
    simp
section
variable {prog : Program} {w : World} {M : Model} {A : Around} {E : Value → Shared → Prop} {s : Shared} {x y : Str} {t u : Tok} {Q : Value → Shared → Prop}
theorem sstarts (h : Q (.bool ((sl x).head? == some 47)) s) : wpAny (model prog w) A (call (.builtin "str.startswith") [.str x t, .str (Str.ofString "/") u]) Q E s :=
  SC.startswith (by rw [slash, starts_one]; exact h)
theorem sends (h : Q (.bool ((sl x).getLast? == some 47)) s) : wpAny (model prog w) A (call (.builtin "str.endswith") [.str x t, .str (Str.ofString "/") u]) Q E s :=
  SC.endswith (by rw [slash, ends_one]; exact h)
theorem struthy {Q : Bool → Shared → Prop} (hfit : x.length ≤ 1099511627776) (h : Q ((x.length : Int) != 0) { s with toks := s.toks + 1 + 1 }) : wpAny (model prog w) A (truthy (.str x t)) Q E s :=
  P.truthy_str (by omega) h
theorem sadd (hsz : x.length + y.length ≤ 16777216) (h : ∀ t' tk, Q (.str (x ++ y) t') { s with toks := tk }) : wpAny (model prog w) A (binaryOp .Add (.str x t) (.str y u)) Q E s :=
  PyProof.Rows.add_str h (by rw [sizeLine_eq]; exact hsz)
theorem siadd (hsz : x.length + y.length ≤ 16777216) (h : ∀ t' tk, Q (.str (x ++ y) t') { s with toks := tk }) : wpAny (model prog w) A (inplaceOp .Add (.str x t) (.str y u)) Q E s :=
  PyProof.Rows.iadd_str h (by rw [sizeLine_eq]; exact hsz)
end
theorem StrsAre_at {vs : List Value} {ys : List Str} (h : StrsAre vs ys) : ∀ {i : Nat} {v : Value}, vs[i]? = some v → ∃ (y : Str) (t : Tok), v = .str y t ∧ ys[i]? = some y := by
  induction h with
  | nil => intro i v e; cases e
  | cons z u r ih =>
    intro i v e
    cases i with
    | zero => exact ⟨z, u, (Option.some.inj e).symm, rfl⟩
    | succ j => exact ih (by simpa using e)
theorem StrsAre_len {vs : List Value} {ys : List Str} (h : StrsAre vs ys) : vs.length = ys.length := by
  induction h with
  | nil => rfl
  | cons z u r ih => simp [ih]
end Mine
end

section
open PySem PySem.W PyProof.Rows PySem.Calls PySem.Builtin
set_option maxRecDepth 100000
namespace Mine
theorem pk_to (b : Array UInt8) (k : Nat) : KBy.picked b none (some ((k : Nat) : Int)) = (b.toList.take k).toArray := by
  rw [KBc.picked_eq]
  simp only [Option.elim, clipAt_nat, List.drop_zero, Nat.sub_zero]
  congr 1
  rcases Nat.le_total k b.size with h | h
  · rw [Nat.min_eq_left h]
  · rw [Nat.min_eq_right h, List.take_of_length_le (by simp), List.take_of_length_le (by simpa using h)]
theorem pk_from (b : Array UInt8) (k : Nat) : KBy.picked b (some ((k : Nat) : Int)) none = (b.toList.drop k).toArray := by
  rw [KBc.picked_eq]
  simp only [Option.elim, clipAt_nat]
  congr 1
  rcases Nat.le_total k b.size with h | h
  · rw [Nat.min_eq_left h, List.take_of_length_le (by simp)]
  · rw [Nat.min_eq_right h, Nat.sub_self, List.take_zero, List.drop_eq_nil_of_le (by simpa using h)]
theorem pk_mid (b : Array UInt8) (i j : Nat) : KBy.picked b (some ((i : Nat) : Int)) (some ((j : Nat) : Int)) = ((b.toList.drop i).take (j - i)).toArray := by
  rw [KBc.picked_eq]
  simp only [Option.elim, clipAt_nat]
  congr 1
  rcases Nat.le_total i b.size with h | h
  · rw [Nat.min_eq_left h]
    rcases Nat.le_total j b.size with h2 | h2
    · rw [Nat.min_eq_left h2]
    · rw [Nat.min_eq_right h2, List.take_of_length_le (by simp), List.take_of_length_le (by simp; omega)]
  · rw [Nat.min_eq_right h, List.drop_eq_nil_of_le (as := b.toList) (i := i) (by simpa using h), List.drop_eq_nil_of_le (as := b.toList) (i := b.size) (by simp)]
    simp
section
variable {prog : Program} {w : World} {A : Around} {E : Value → Shared → Prop} {s : Shared} {value slice : PySem.Expr} {b : Array UInt8} {t : Tok} {h₀ : Heap} {L : Addr} {m : PySem.Str → Option Value} {news : List (Addr × Obj)} {l u : Value} {lo hi : Option Int} {Q : Value → Shared → Prop}
theorem bslice (hF : Fr h₀ L s.heap m) (hN : News h₀ L s.heap news) (hl : IsPart l lo) (hu : IsPart u hi) (hz : b.size ≤ 16777216)
    (h : ∀ h' t' k, Fr h₀ L h' m → News h₀ L h' news → Q (.bytes (KBy.picked b lo hi) t') { s with heap := h', toks := k })
    (hs : subscripted slice false (.bytes b t) (.ref s.heap.objs.size) = operate [.ref s.heap.objs.size, .bytes b t] (getItem (.bytes b t) (.ref s.heap.objs.size)) := by with_unfolding_all rfl)
    (ht : ∀ r, letTemporaryGo value (.bytes b t) r = pure () := by intro _; with_unfolding_all rfl) :
    wpAny (model prog w) A (subscriptTail value slice (.bytes b t) (.ref s.heap.objs.size)) Q E { s with heap := s.heap.push { cls := .type "slice", data := .fields #[l, u, .none] } } :=
  KBc.slice_K hF hN rfl hl hu (by rw [KBw.ints_length]; exact hz) (fun h' t' k F N _ => h h' t' k F N) hs ht
end

open Builtin.Str in
theorem slice_gen (x : Str) (lo hi : Option Int) {a b : Nat} (hb : b ≤ x.length) (e : strSliceIndices lo hi 1 x.length = sliceRange a b 1) : sl (Txt.slice x lo hi) = ((sl x).drop a).take (b - a) := by
  unfold Txt.slice
  rw [e, sliceRange_one]
  by_cases h : ((1 : Int) == 1 && ((List.range (b - a)).map (a + ·)).length == x.length) = true
  · rw [if_pos h]
    have h' : b - a = x.length := by simpa using h
    by_cases h0 : x.length = 0
    · have : sl x = [] := List.eq_nil_of_length_eq_zero (by rw [sl_len]; exact h0)
      rw [this]; simp
    · have ha : a = 0 := by omega
      subst ha
      rw [List.drop_zero, List.take_of_length_le (by rw [sl_len]; omega)]
  · rw [if_neg h, pick_run]
open Builtin.Str in
theorem sl_to (x : Str) (k : Nat) : sl (Txt.slice x none (some ((k : Nat) : Int))) = (sl x).take k := by
  have e : strSliceIndices none (some ((k : Nat) : Int)) 1 x.length = sliceRange ((0 : Nat) : Int) ((min k x.length : Nat) : Int) 1 := by
    unfold strSliceIndices
    simp
    congr 1
    rw [if_neg (by omega)]
    omega
  rw [slice_gen x _ _ (Nat.min_le_right _ _) e, List.drop_zero, Nat.sub_zero]
  rcases Nat.le_total k x.length with h | h
  · rw [Nat.min_eq_left h]
  · rw [Nat.min_eq_right h, List.take_of_length_le (by rw [sl_len]; exact Nat.le_refl _), List.take_of_length_le (by rw [sl_len]; exact h)]
open Builtin.Str in
theorem sl_from (x : Str) (k : Nat) : sl (Txt.slice x (some ((k : Nat) : Int)) none) = (sl x).drop k := by
  have e : strSliceIndices (some ((k : Nat) : Int)) none 1 x.length = sliceRange ((min k x.length : Nat) : Int) ((x.length : Nat) : Int) 1 := by
    unfold strSliceIndices
    simp
    congr 1
    rw [if_neg (by omega)]
    omega
  rw [slice_gen x _ _ (Nat.le_refl _) e]
  rcases Nat.le_total k x.length with h | h
  · rw [Nat.min_eq_left h, List.take_of_length_le (by rw [List.length_drop, sl_len]; exact Nat.le_refl _)]
  · rw [Nat.min_eq_right h, Nat.sub_self, List.take_zero, List.drop_eq_nil_of_le (by rw [sl_len]; exact h)]
open Builtin.Str in
theorem sl_mid (x : Str) (i j : Nat) : sl (Txt.slice x (some ((i : Nat) : Int)) (some ((j : Nat) : Int))) = ((sl x).drop i).take (j - i) := by
  have e : strSliceIndices (some ((i : Nat) : Int)) (some ((j : Nat) : Int)) 1 x.length = sliceRange ((min i x.length : Nat) : Int) ((min j x.length : Nat) : Int) 1 := by
    unfold strSliceIndices
    simp
    congr 1
    · rw [if_neg (by omega)]
      omega
    · rw [if_neg (by omega)]
      omega
  rw [slice_gen x _ _ (Nat.min_le_right _ _) e]
  rcases Nat.le_total i x.length with h | h
  · rw [Nat.min_eq_left h]
    rcases Nat.le_total j x.length with h2 | h2
    · rw [Nat.min_eq_left h2]
    · rw [Nat.min_eq_right h2, List.take_of_length_le (by rw [List.length_drop, sl_len]; exact Nat.le_refl _), List.take_of_length_le (by rw [List.length_drop, sl_len]; omega)]
  · rw [Nat.min_eq_right h, List.drop_eq_nil_of_le (as := sl x) (i := i) (by rw [sl_len]; exact h), List.drop_eq_nil_of_le (as := sl x) (i := x.length) (by rw [sl_len]; exact Nat.le_refl _)]
    simp
end Mine
end

section
open PySem PySem.W PyProof.Rows PySem.Calls
set_option maxRecDepth 100000
namespace Mine
section
variable {prog : Program} {w : World} {A : Around} {E : Value → Shared → Prop} {s : Shared} {env : Env} {h₀ : Heap} {x : Str} {body : List Stmt} {Q : Flow → Shared → Prop}

/-- a loop over values that the ledger bears: what holds of the frame before each turn -/
theorem loop_vals {I : Addr} {l : Addr} {its : List Value} {St : Nat → Heap → Prop} {m₀ : Str → Option Value} {news : List (Addr × Obj)} (J : Nat → (Str → Option Value) → Prop)
    (W : Walks prog w A I [I, l] [I] its.length (fun i v => its[i]? = some v) St) (hL1 : env.locals ≠ I) (hL2 : env.locals ≠ l) (hI : h₀.get? I = none) (hnw : ∀ p ∈ news, p.1 ≠ I) (hst : St 0 s.heap)
    (F : Fr h₀ env.locals s.heap m₀) (N : News h₀ env.locals s.heap news) (hj : J 0 m₀)
    (turn : ∀ i v m₁ h tk own, its[i]? = some v → J i m₁ → Fr h₀ env.locals h (fun y => if y = x then some v else m₁ y) → News h₀ env.locals h (news ++ own) →
      wpAny (model prog w) A (execs body env) (InvPost h₀ env.locals (J (i + 1)) (news ++ own) { s with heap := h, toks := tk } Q) E { s with heap := h, toks := tk })
    (done : ∀ m₁ h tk, J its.length m₁ → Fr h₀ env.locals h m₁ → News h₀ env.locals h news → Q .next { s with heap := h, toks := tk }) :
    LoopAtV prog w A h₀ env x body Q E (.ref I) s := by
  refine ⟨I, _, _, its.length, _, _, m₀, news, (fun i m₁ news₁ => news₁ = news ∧ J i m₁), rfl, W, ?_, ?_, ?_, hst, F, N, ⟨rfl, hj⟩, ?_, ?_⟩
  · intro hm
    rcases List.mem_cons.mp hm with e | hm
    · exact hL1 e
    · exact hL2 (List.mem_singleton.mp hm)
  · intro b hb
    rw [List.mem_singleton.mp hb]; exact hI
  · intro p hp hm
    exact hnw p hp (List.mem_singleton.mp hm)
  · rintro i v m₁ news₁ s₁ own ⟨hh', tk', rfl⟩ hin hP ⟨rfl, hJ⟩ hoff _ _ _ _ F₁ N₁
    have N₂ : News h₀ env.locals hh' (news₁ ++ own) := fun p hp => N₁ p ((List.mem_append.mp hp).elim (fun h => List.mem_append.mpr (.inr h)) fun h => List.mem_append.mpr (.inl h))
    refine wpAny_mono (turn i v m₁ hh' tk' own hP hJ F₁ N₂) (fun f s₂ p => ?_) fun _ _ e => e
    have fin : InvEnd h₀ env.locals (J (i + 1)) (news₁ ++ own) { s with heap := hh', toks := tk' } s₂ → LoopStepU h₀ env.locals [I] own (fun m₁ nw => nw = news₁ ∧ J (i + 1) m₁) { s with heap := hh', toks := tk' } .next s₂ := by
      rintro ⟨h', tk, m', news', e, F', N', hn, hm⟩
      exact ⟨rfl, h', tk, m', news₁, e, F', fun p hp => N' p (hn p ((List.mem_append.mp hp).elim (fun h => List.mem_append.mpr (.inr h)) fun h => List.mem_append.mpr (.inl h))), hoff, rfl, hm⟩
    cases f with
    | ret v => exact .ret p
    | brk => exact .brk p
    | next => exact .next (fin p)
    | cont => exact .cont (fin p)
  · rintro h' tk m' news' F' N' _ ⟨rfl, hJ⟩
    exact done m' h' tk hJ F' N'

theorem iter_tup {l : Addr} {its : List Value} {nn : Nat} {m₀ : Str → Option Value} {news : List (Addr × Obj)} (J : Nat → (Str → Option Value) → Prop)
    (hh : A.handled = none) (hl : (l, ({ cls := .type "tuple", data := .seq its.toArray nn } : Obj)) ∈ news) (F : Fr h₀ env.locals s.heap m₀) (N : News h₀ env.locals s.heap news) (hj : J 0 m₀)
    (turn : ∀ i v m₁ h tk own, its[i]? = some v → J i m₁ → Fr h₀ env.locals h (fun y => if y = x then some v else m₁ y) → News h₀ env.locals h (news ++ own) →
      wpAny (model prog w) A (execs body env) (InvPost h₀ env.locals (J (i + 1)) (news ++ own) { s with heap := h, toks := tk } Q) E { s with heap := h, toks := tk })
    (done : ∀ m₁ h tk, J its.length m₁ → Fr h₀ env.locals h m₁ → News h₀ env.locals h news → Q .next { s with heap := h, toks := tk }) :
    wpAny (model prog w) A (pyIter (.ref l)) (fun it s₂ => LoopAtV prog w A h₀ env x body Q E it s₂) E s := by
  have hol : s.heap.get? l = some ({ cls := .type "tuple", data := .seq its.toArray nn } : Obj) := (N _ hl).1
  have hls : s.heap.IsTuple l its.toArray := ⟨_, hol, rfl, nn, rfl⟩
  have hne : l ≠ s.heap.objs.size := Nat.ne_of_lt (Heap.lt_size hol)
  refine wpAny_pyIter_tuple hls ?_
  have W := Walks.tuple (prog := prog) (w := w) hh s.heap.objs.size l hne its.toArray
  rw [List.size_toArray] at W
  have W' : Walks prog w A s.heap.objs.size [s.heap.objs.size, l] [s.heap.objs.size] its.length (fun i v => its[i]? = some v) (fun i h => h.IsTupleIter s.heap.objs.size l i ∧ h.IsTuple l its.toArray) := by
    have e : (fun (i : Nat) (v : Value) => its.toArray[i]? = some v) = fun i v => its[i]? = some v := by funext i v; simp
    rw [e] at W; exact W
  refine loop_vals J W' (Nat.ne_of_lt F.ns.lt) (Ne.symm (N _ hl).2.1) (next_is_new F) (fun p hp => Nat.ne_of_lt (Heap.lt_size (N p hp).1)) ?_ (F.push _) (fun p hp => ⟨Heap.get?_push_of_some _ (N p hp).1, (N p hp).2⟩) hj turn done
  exact ⟨⟨_, Heap.get?_push_size _ rfl, rfl, rfl⟩, hls.at fun o e => Heap.get?_push_of_some _ e⟩

theorem iter_lst {l : Addr} {its : List Value} {nn : Nat} {m₀ : Str → Option Value} {news : List (Addr × Obj)} (J : Nat → (Str → Option Value) → Prop)
    (hh : A.handled = none) (hl : (l, listOf its.toArray nn) ∈ news) (F : Fr h₀ env.locals s.heap m₀) (N : News h₀ env.locals s.heap news) (hj : J 0 m₀)
    (turn : ∀ i v m₁ h tk own, its[i]? = some v → J i m₁ → Fr h₀ env.locals h (fun y => if y = x then some v else m₁ y) → News h₀ env.locals h (news ++ own) →
      wpAny (model prog w) A (execs body env) (InvPost h₀ env.locals (J (i + 1)) (news ++ own) { s with heap := h, toks := tk } Q) E { s with heap := h, toks := tk })
    (done : ∀ m₁ h tk, J its.length m₁ → Fr h₀ env.locals h m₁ → News h₀ env.locals h news → Q .next { s with heap := h, toks := tk }) :
    wpAny (model prog w) A (pyIter (.ref l)) (fun it s₂ => LoopAtV prog w A h₀ env x body Q E it s₂) E s := by
  have hol : s.heap.get? l = some (listOf its.toArray nn) := (N _ hl).1
  have hls : s.heap.IsList l its.toArray := ⟨_, hol, rfl, nn, rfl⟩
  have hne : l ≠ s.heap.objs.size := Nat.ne_of_lt (Heap.lt_size hol)
  refine wpAny_pyIter_list hls ?_
  have W := Walks.list (prog := prog) (w := w) hh s.heap.objs.size l hne its.toArray
  rw [List.size_toArray] at W
  have W' : Walks prog w A s.heap.objs.size [s.heap.objs.size, l] [s.heap.objs.size] its.length (fun i v => its[i]? = some v) (fun i h => h.IsListIter s.heap.objs.size l i ∧ h.IsList l its.toArray) := by
    have e : (fun (i : Nat) (v : Value) => its.toArray[i]? = some v) = fun i v => its[i]? = some v := by funext i v; simp
    rw [e] at W; exact W
  refine loop_vals J W' (Nat.ne_of_lt F.ns.lt) (Ne.symm (N _ hl).2.1) (next_is_new F) (fun p hp => Nat.ne_of_lt (Heap.lt_size (N p hp).1)) ?_ (F.push _) (fun p hp => ⟨Heap.get?_push_of_some _ (N p hp).1, (N p hp).2⟩) hj turn done
  exact ⟨⟨_, Heap.get?_push_size _ rfl, rfl, rfl⟩, hls.at fun o e => Heap.get?_push_of_some _ e⟩
end
end Mine
namespace Mine
theorem Fr_see {h₀ h : Heap} {L : Addr} {m : Str → Option Value} (F : Fr h₀ L h m) (x : Str) (v : Value) (hx : m x = some v) : Fr h₀ L h (fun z => if z = x then some v else m z) := by
  have e : (fun z => if z = x then some v else m z) = m := by
    funext z
    by_cases h : z = x
    · rw [if_pos h, h, hx]
    · rw [if_neg h]
  rw [e]; exact F
end Mine
end

section
open PySem PySem.W PyProof.Rows PySem.Calls PySem.Builtin
set_option maxRecDepth 100000
namespace Mine
theorem BsAre.append {vs us : List Value} {bs cs : List (List UInt8)} (h : BsAre vs bs) (k : BsAre us cs) : BsAre (vs ++ us) (bs ++ cs) := by
  induction h with
  | nil => exact k
  | cons b t r ih => exact .cons b t ih
theorem BsAre.one (b : Array UInt8) (t : Tok) : BsAre [.bytes b t] [b.toList] := .cons b t .nil
theorem BsAre.last {vs : List Value} {bs : List (List UInt8)} (h : BsAre vs bs) : 0 < vs.length → ∃ p q t, vs = p ++ [.bytes q t] ∧ BsAre p bs.dropLast ∧ bs.getLast? = some q.toList ∧ vs.dropLast = p := by
  induction h with
  | nil => intro h; exact absurd h (Nat.lt_irrefl 0)
  | cons b t r ih =>
    intro _
    cases r with
    | nil => exact ⟨[], b, t, rfl, .nil, rfl, rfl⟩
    | cons b' t' r' =>
      obtain ⟨p, q, u, h1, h2, h3, h4⟩ := ih (Nat.succ_pos _)
      exact ⟨.bytes b t :: p, q, u, congrArg (List.cons _) h1, .cons b t h2, by simpa using h3, congrArg (List.cons _) h4⟩
theorem StrsAre_append {vs us : List Value} {bs cs : List Str} (h : StrsAre vs bs) (k : StrsAre us cs) : StrsAre (vs ++ us) (bs ++ cs) := by
  induction h with
  | nil => exact k
  | cons b t r ih => exact .cons b t ih
theorem StrsAre_last {vs : List Value} {bs : List Str} (h : StrsAre vs bs) : 0 < vs.length → ∃ p q t, vs = p ++ [.str q t] ∧ StrsAre p bs.dropLast ∧ bs.getLast? = some q ∧ vs.dropLast = p := by
  induction h with
  | nil => intro h; exact absurd h (Nat.lt_irrefl 0)
  | cons b t r ih =>
    intro _
    cases r with
    | nil => exact ⟨[], b, t, rfl, .nil, rfl, rfl⟩
    | cons b' t' r' =>
      obtain ⟨p, q, u, h1, h2, h3, h4⟩ := ih (Nat.succ_pos _)
      exact ⟨.str b t :: p, q, u, congrArg (List.cons _) h1, .cons b t h2, by simpa using h3, congrArg (List.cons _) h4⟩
section
variable {prog : Program} {w : World} {A : Around} {E : Value → Shared → Prop} {s : Shared} {h₀ : Heap} {L D : Addr} {m : Str → Option Value} {news rest : List (Addr × Obj)} {n : Nat} {value slice : PySem.Expr} {vs : List Value} {bs : List (List UInt8)} {ys : List Str} {Q : Value → Shared → Prop}
theorem ltruthy {Q : Bool → Shared → Prop} (N : News h₀ L s.heap news) (hm : (D, listOf vs.toArray n) ∈ news) (hz : vs.length ≤ 16777216) (h : ∀ k, Q (decide (vs.length ≠ 0)) { s with toks := k }) : wpAny (model prog w) A (truthy (.ref D)) Q E s := by
  refine wpAny_truthy_list (items := vs.toArray) ⟨_, (N _ hm).1, rfl, n, rfl⟩ (by rw [List.size_toArray]; omega) ?_
  have e : (!vs.toArray.isEmpty) = decide (vs.length ≠ 0) := by
    cases vs <;> simp
  rw [e]
  exact h _
theorem ltruthy2 {Q : Bool → Shared → Prop} (N : News h₀ L s.heap news) (hm : (D, listOf vs.toArray n) ∈ news) (hz : vs.length ≤ 16777216) (h : ∀ k, Q (!vs.isEmpty) { s with toks := k }) : wpAny (model prog w) A (truthy (.ref D)) Q E s := by
  refine ltruthy N hm hz fun k => ?_
  have e : (decide (vs.length ≠ 0)) = !vs.isEmpty := by cases vs <;> simp
  rw [e]; exact h k
theorem lastV {u : Tok} {p : List Value} {v : Value} (N : News h₀ L s.heap news) (hm : (D, listOf (p ++ [v]).toArray n) ∈ news) (h : Q v s)
    (hs : subscripted slice false (.ref D) (.int (-1) u) = operate [.ref D, .int (-1) u] (getItem (.ref D) (.int (-1) u)) := by with_unfolding_all rfl) :
    wpAny (model prog w) A (subscriptTail value slice (.ref D) (.int (-1) u)) Q E s := by
  have hL : s.heap.IsList D (p ++ [v]).toArray := ⟨_, (N _ hm).1, rfl, n, rfl⟩
  have hsz : (p ++ [v]).toArray.size = p.length + 1 := by rw [List.size_toArray, List.length_append]; rfl
  refine tail_any hL.typeIs slot_list_getitem.lookup (wpAny_getItem_list_neg (x := v) hL (by decide) (by rw [hsz]; omega) (by decide) ?_ h) hs
  have e : (-1 + ((p ++ [v]).toArray.size : Int)).toNat = p.length := by rw [hsz]; omega
  rw [e]
  simp
theorem popV {p : List Value} {v : Value} (F : Fr h₀ L s.heap m) (N : News h₀ L s.heap ((D, listOf (p ++ [v]).toArray n) :: rest)) (hoff : ∀ q ∈ rest, q.1 ≠ D) (hz : p.length + 1 ≤ 16777216)
    (h : ∀ h', Fr h₀ L h' m → News h₀ L h' ((D, listOf p.toArray (n + 1)) :: rest) → Q v { s with heap := h' }) : wpAny (model prog w) A (call (.builtin "list.pop") [.ref D]) Q E s := by
  refine kl_pop F N (p := p) (y := v) ?_ (Upd.head hoff) (by rw [sizeLine_eq]; simpa using hz) h
  simpa using kpa_last v p
theorem lastB {u : Tok} (hv : BsAre vs bs) (N : News h₀ L s.heap news) (hm : (D, listOf vs.toArray n) ∈ news) (hne : vs.length ≠ 0) (h : ∀ q t, bs.getLast? = some q.toList → Q (.bytes q t) s)
    (hs : subscripted slice false (.ref D) (.int (-1) u) = operate [.ref D, .int (-1) u] (getItem (.ref D) (.int (-1) u)) := by with_unfolding_all rfl) :
    wpAny (model prog w) A (subscriptTail value slice (.ref D) (.int (-1) u)) Q E s := by
  obtain ⟨p, q, t, rfl, _, hl, _⟩ := hv.last (by omega)
  exact lastV N hm (h q t hl) hs
theorem popB (hv : BsAre vs bs) (F : Fr h₀ L s.heap m) (N : News h₀ L s.heap ((D, listOf vs.toArray n) :: rest)) (hoff : ∀ q ∈ rest, q.1 ≠ D) (hne : vs.length ≠ 0) (hz : vs.length ≤ 16777216)
    (h : ∀ h' vs' q t, BsAre vs' bs.dropLast → Fr h₀ L h' m → News h₀ L h' ((D, listOf vs'.toArray (n + 1)) :: rest) → Q (.bytes q t) { s with heap := h' }) : wpAny (model prog w) A (call (.builtin "list.pop") [.ref D]) Q E s := by
  obtain ⟨p, q, t, rfl, hp, hl, _⟩ := hv.last (by omega)
  exact popV F N hoff (by simpa using hz) fun h' F' N' => h h' p q t hp F' N'
theorem lastS {u : Tok} (hv : StrsAre vs ys) (N : News h₀ L s.heap news) (hm : (D, listOf vs.toArray n) ∈ news) (hne : vs.length ≠ 0) (h : ∀ q t, ys.getLast? = some q → Q (.str q t) s)
    (hs : subscripted slice false (.ref D) (.int (-1) u) = operate [.ref D, .int (-1) u] (getItem (.ref D) (.int (-1) u)) := by with_unfolding_all rfl) :
    wpAny (model prog w) A (subscriptTail value slice (.ref D) (.int (-1) u)) Q E s := by
  obtain ⟨p, q, t, rfl, _, hl, _⟩ := StrsAre_last hv (by omega)
  exact lastV N hm (h q t hl) hs
theorem popS (hv : StrsAre vs ys) (F : Fr h₀ L s.heap m) (N : News h₀ L s.heap ((D, listOf vs.toArray n) :: rest)) (hoff : ∀ q ∈ rest, q.1 ≠ D) (hne : vs.length ≠ 0) (hz : vs.length ≤ 16777216)
    (h : ∀ h' vs' q t, StrsAre vs' ys.dropLast → Fr h₀ L h' m → News h₀ L h' ((D, listOf vs'.toArray (n + 1)) :: rest) → Q (.str q t) { s with heap := h' }) : wpAny (model prog w) A (call (.builtin "list.pop") [.ref D]) Q E s := by
  obtain ⟨p, q, t, rfl, hp, hl, _⟩ := StrsAre_last hv (by omega)
  exact popV F N hoff (by simpa using hz) fun h' F' N' => h h' p q t hp F' N'
theorem lappend {v : Value} (F : Fr h₀ L s.heap m) (N : News h₀ L s.heap ((D, listOf vs.toArray n) :: rest)) (hoff : ∀ q ∈ rest, q.1 ≠ D) (hz : vs.length ≤ 16777216)
    (h : ∀ h', Fr h₀ L h' m → News h₀ L h' ((D, listOf (vs ++ [v]).toArray (n + 1)) :: rest) → Q .none { s with heap := h' }) : wpAny (model prog w) A (call (.builtin "list.append") [.ref D, v]) Q E s := by
  refine append_K F N (Upd.head hoff) (fun h' F' N' => h h' F' ?_) (by rw [sizeLine_eq, List.size_toArray]; exact hz)
  rw [List.push_toArray] at N'
  exact N'
end
section
variable {prog : Program} {w : World} {A : Around} {E : Value → Shared → Prop} {s : Shared} {env : Env} {h₀ : Heap} {x : Str} {body : List Stmt} {Q : Flow → Shared → Prop}
/-- a turn's end: the one object that turns, all else as it stood -/
def InvEnd1 (h₀ : Heap) (L : Addr) (J : (Str → Option Value) → Obj → Prop) (d : Addr) (need : List (Addr × Obj)) (s₁ s₂ : Shared) : Prop :=
  ∃ h' tk m' o' news', s₂ = { s₁ with heap := h', toks := tk } ∧ Fr h₀ L h' m' ∧ News h₀ L h' news' ∧ (d, o') ∈ news' ∧ (∀ p ∈ need, p ∈ news') ∧ J m' o'
def InvPost1 (h₀ : Heap) (L : Addr) (J : (Str → Option Value) → Obj → Prop) (d : Addr) (need : List (Addr × Obj)) (s₁ : Shared) (Q : Flow → Shared → Prop) (f : Flow) (s₂ : Shared) : Prop :=
  match f with
  | .ret v => Q (.ret v) s₂
  | .brk => Q .next s₂
  | _ => InvEnd1 h₀ L J d need s₁ s₂
theorem InvEnd1.intro {L d : Addr} {J : (Str → Option Value) → Obj → Prop} {m' : Str → Option Value} {o' : Obj} {need news' : List (Addr × Obj)} {s₁ : Shared} {h' : Heap} {tk : Nat} (F : Fr h₀ L h' m') (N : News h₀ L h' news') (hd : (d, o') ∈ news') (hn : ∀ p ∈ need, p ∈ news')
    (hj : J m' o') : InvEnd1 h₀ L J d need s₁ { s₁ with heap := h', toks := tk } := ⟨h', tk, m', o', news', rfl, F, N, hd, hn, hj⟩
theorem loop_obj {I l d : Addr} {its : List Value} {St : Nat → Heap → Prop} {m₀ : Str → Option Value} {rest : List (Addr × Obj)} {o₀ : Obj} (J : Nat → (Str → Option Value) → Obj → Prop)
    (W : Walks prog w A I [I, l] [I] its.length (fun i v => its[i]? = some v) St) (hL1 : env.locals ≠ I) (hL2 : env.locals ≠ l) (hI : h₀.get? I = none) (hnw : ∀ p ∈ (d, o₀) :: rest, p.1 ≠ I) (hdl : d ≠ l) (hrd : ∀ p ∈ rest, p.1 ≠ d) (hst : St 0 s.heap)
    (F : Fr h₀ env.locals s.heap m₀) (N : News h₀ env.locals s.heap ((d, o₀) :: rest)) (hj : J 0 m₀ o₀)
    (turn : ∀ i v m₁ o₁ h tk own, its[i]? = some v → J i m₁ o₁ → (∀ p ∈ rest ++ own, p.1 ≠ d) → Fr h₀ env.locals h (fun y => if y = x then some v else m₁ y) → News h₀ env.locals h ((d, o₁) :: (rest ++ own)) →
      wpAny (model prog w) A (execs body env) (InvPost1 h₀ env.locals (J (i + 1)) d (rest ++ own) { s with heap := h, toks := tk } Q) E { s with heap := h, toks := tk })
    (done : ∀ m₁ o₁ h tk, J its.length m₁ o₁ → Fr h₀ env.locals h m₁ → News h₀ env.locals h ((d, o₁) :: rest) → Q .next { s with heap := h, toks := tk }) :
    LoopAtV prog w A h₀ env x body Q E (.ref I) s := by
  refine ⟨I, _, _, its.length, _, _, m₀, (d, o₀) :: rest, (fun i m₁ news₁ => ∃ o₁, news₁ = (d, o₁) :: rest ∧ J i m₁ o₁), rfl, W, ?_, ?_, ?_, hst, F, N, ⟨o₀, rfl, hj⟩, ?_, ?_⟩
  · intro hm
    rcases List.mem_cons.mp hm with e | hm
    · exact hL1 e
    · exact hL2 (List.mem_singleton.mp hm)
  · intro b hb
    rw [List.mem_singleton.mp hb]; exact hI
  · intro p hp hm
    exact hnw p hp (List.mem_singleton.mp hm)
  · rintro i v m₁ news₁ s₁ own ⟨hh', tk', rfl⟩ hin hP ⟨o₁, rfl, hJ⟩ hoff hown _ _ _ F₁ N₁
    have hod : ∀ p ∈ own, p.1 ≠ d := fun p hp e => by
      rcases List.mem_cons.mp (hown p hp) with h1 | h1
      · exact hnw (d, o₀) (List.mem_cons_self) (e ▸ h1)
      · exact hdl (e ▸ List.mem_singleton.mp h1)
    have N₂ : News h₀ env.locals hh' ((d, o₁) :: (rest ++ own)) := fun p hp => N₁ p (by
      rcases List.mem_cons.mp hp with h | h
      · exact List.mem_append_right _ (h ▸ List.mem_cons_self)
      · rcases List.mem_append.mp h with h | h
        · exact List.mem_append_right _ (List.mem_cons_of_mem _ h)
        · exact List.mem_append_left _ h)
    refine wpAny_mono (turn i v m₁ o₁ hh' tk' own hP hJ (fun p hp => (List.mem_append.mp hp).elim (hrd p) (hod p)) F₁ N₂) (fun f s₂ p => ?_) fun _ _ e => e
    have fin : InvEnd1 h₀ env.locals (J (i + 1)) d (rest ++ own) { s with heap := hh', toks := tk' } s₂ → LoopStepU h₀ env.locals [I] own (fun m₁ nw => ∃ o₁, nw = (d, o₁) :: rest ∧ J (i + 1) m₁ o₁) { s with heap := hh', toks := tk' } .next s₂ := by
      rintro ⟨h', tk, m', o', news', e, F', N', hd', hn, hm⟩
      refine ⟨rfl, h', tk, m', (d, o') :: rest, e, F', fun p hp => N' p ?_, ?_, o', rfl, hm⟩
      · rcases List.mem_append.mp hp with h | h
        · exact hn p (List.mem_append_right _ h)
        · rcases List.mem_cons.mp h with rfl | h
          · exact hd'
          · exact hn p (List.mem_append_left _ h)
      · intro p hp
        rcases List.mem_cons.mp hp with rfl | h
        · intro hm; exact hnw (d, o₀) (List.mem_cons_self) (List.mem_singleton.mp hm)
        · intro hm; exact hnw p (List.mem_cons_of_mem _ h) (List.mem_singleton.mp hm)
    cases f with
    | ret v => exact .ret p
    | brk => exact .brk p
    | next => exact .next (fin p)
    | cont => exact .cont (fin p)
  · rintro h' tk m' news' F' N' _ ⟨o₁, rfl, hJ⟩
    exact done m' o₁ h' tk hJ F' N'
theorem iter_lst_obj {l d : Addr} {its : List Value} {nn : Nat} {m₀ : Str → Option Value} {rest : List (Addr × Obj)} {o₀ : Obj} (J : Nat → (Str → Option Value) → Obj → Prop)
    (hh : A.handled = none) (hl : (l, listOf its.toArray nn) ∈ rest) (hrd : ∀ p ∈ rest, p.1 ≠ d) (F : Fr h₀ env.locals s.heap m₀) (N : News h₀ env.locals s.heap ((d, o₀) :: rest)) (hj : J 0 m₀ o₀)
    (turn : ∀ i v m₁ o₁ h tk own, its[i]? = some v → J i m₁ o₁ → (∀ p ∈ rest ++ own, p.1 ≠ d) → Fr h₀ env.locals h (fun y => if y = x then some v else m₁ y) → News h₀ env.locals h ((d, o₁) :: (rest ++ own)) →
      wpAny (model prog w) A (execs body env) (InvPost1 h₀ env.locals (J (i + 1)) d (rest ++ own) { s with heap := h, toks := tk } Q) E { s with heap := h, toks := tk })
    (done : ∀ m₁ o₁ h tk, J its.length m₁ o₁ → Fr h₀ env.locals h m₁ → News h₀ env.locals h ((d, o₁) :: rest) → Q .next { s with heap := h, toks := tk }) :
    wpAny (model prog w) A (pyIter (.ref l)) (fun it s₂ => LoopAtV prog w A h₀ env x body Q E it s₂) E s := by
  have hl' : (l, listOf its.toArray nn) ∈ (d, o₀) :: rest := List.mem_cons_of_mem _ hl
  have hol : s.heap.get? l = some (listOf its.toArray nn) := (N _ hl').1
  have hls : s.heap.IsList l its.toArray := ⟨_, hol, rfl, nn, rfl⟩
  have hne : l ≠ s.heap.objs.size := Nat.ne_of_lt (Heap.lt_size hol)
  refine wpAny_pyIter_list hls ?_
  have W := Walks.list (prog := prog) (w := w) hh s.heap.objs.size l hne its.toArray
  rw [List.size_toArray] at W
  have W' : Walks prog w A s.heap.objs.size [s.heap.objs.size, l] [s.heap.objs.size] its.length (fun i v => its[i]? = some v) (fun i h => h.IsListIter s.heap.objs.size l i ∧ h.IsList l its.toArray) := by
    have e : (fun (i : Nat) (v : Value) => its.toArray[i]? = some v) = fun i v => its[i]? = some v := by funext i v; simp
    rw [e] at W; exact W
  refine loop_obj J W' (Nat.ne_of_lt F.ns.lt) (Ne.symm (N _ hl').2.1) (next_is_new F) (fun p hp => Nat.ne_of_lt (Heap.lt_size (N p hp).1)) (fun e => hrd _ hl e.symm) hrd ?_ (F.push _) (fun p hp => ⟨Heap.get?_push_of_some _ (N p hp).1, (N p hp).2⟩) hj turn done
  exact ⟨⟨_, Heap.get?_push_size _ rfl, rfl, rfl⟩, hls.at fun o e => Heap.get?_push_of_some _ e⟩
theorem iter_lst_obj' {l d : Addr} {its : List Value} {nn : Nat} {m₀ : Str → Option Value} {rest : List (Addr × Obj)} {o₀ : Obj} (J : Addr → Nat → (Str → Option Value) → Obj → Prop)
    (hh : A.handled = none) (hl : (l, listOf its.toArray nn) ∈ rest) (hrd : ∀ p ∈ rest, p.1 ≠ d) (F : Fr h₀ env.locals s.heap m₀) (N : News h₀ env.locals s.heap ((d, o₀) :: rest)) (hj : J d 0 m₀ o₀)
    (turn : ∀ i v m₁ o₁ h tk own, its[i]? = some v → J d i m₁ o₁ → (∀ p ∈ rest ++ own, p.1 ≠ d) → Fr h₀ env.locals h (fun y => if y = x then some v else m₁ y) → News h₀ env.locals h ((d, o₁) :: (rest ++ own)) →
      wpAny (model prog w) A (execs body env) (InvPost1 h₀ env.locals (J d (i + 1)) d (rest ++ own) { s with heap := h, toks := tk } Q) E { s with heap := h, toks := tk })
    (done : ∀ m₁ o₁ h tk, J d its.length m₁ o₁ → Fr h₀ env.locals h m₁ → News h₀ env.locals h ((d, o₁) :: rest) → Q .next { s with heap := h, toks := tk }) :
    wpAny (model prog w) A (pyIter (.ref l)) (fun it s₂ => LoopAtV prog w A h₀ env x body Q E it s₂) E s := iter_lst_obj (J d) hh hl hrd F N hj turn done
theorem allLt_ne {d : Addr} : ∀ {l : List (Addr × Obj)}, AllLt d l → ∀ p ∈ l, p.1 ≠ d
  | [], _, _, h => nomatch h
  | q :: r, h, p, hp => by
    rcases List.mem_cons.mp hp with rfl | hp
    · exact Nat.ne_of_lt h.1
    · exact allLt_ne h.2 p hp
end
end Mine
end

section
open PySem PySem.W PyProof.Rows PySem.Calls PySem.SeqAt
set_option maxRecDepth 100000
namespace Mine
def isB (b : Bool) : Value → Bool
  | .bool c => c == b
  | _ => false
theorem nbeq_idx : ∀ (bs : List Bool) (b : Bool) (m : Nat) (h : m < bs.length), m < bs.idxOf b → (bs[m] == b) = false
  | [], _, _, h, _ => nomatch h
  | c :: r, b, m, h, hl => by
    rw [List.idxOf_cons] at hl
    cases hc : c == b with
    | true => rw [hc] at hl; simp at hl
    | false =>
      rw [hc] at hl
      cases m with
      | zero => exact hc
      | succ m => exact nbeq_idx r b m (Nat.lt_of_succ_lt_succ h) (by simpa using hl)
section
variable {prog : Program} {w : World} {A : Around} {E : Value → Shared → Prop} {s : Shared} {l : Addr} {bs : List Bool} {b : Bool} {t : Tok} {Q : Value → Shared → Prop}
theorem eq_isB : ∀ y, y ∈ (bs.map Value.bool).toArray → EqAt A s y (.bool b) (isB b y) := by
  intro y hy
  obtain ⟨c, _, rfl⟩ := List.mem_map.mp (List.mem_toArray.mp hy)
  exact EqAt.bool_bool c b
theorem in_bools (hl : s.heap.IsList l (bs.map Value.bool).toArray) (h : Q (.bool (bs.any (· == b))) s) : wpAny (model prog w) A (compareOp .In (.bool b) (.ref l)) Q E s := by
  refine in_listAt (isB b) hl eq_isB ?_
  have e : (bs.map Value.bool).toArray.any (isB b) = bs.any (· == b) := by
    rw [← Array.any_toList, List.any_map]; rfl
  rw [e]; exact h
theorem index_bools (hl : s.heap.IsList l (bs.map Value.bool).toArray) (hz : bs.length < 1000) (hk : b ∈ bs) (h : Q (.int (bs.idxOf b : Nat) s.toks) { s with toks := s.toks + 1 }) :
    wpAny (model prog w) A (call (.builtin "list.index") [.ref l, .bool b]) Q E s := by
  obtain ⟨⟨cls, dd, data, sl⟩, ho, hc, n, hd⟩ := id hl
  simp only at hc hd
  subst hc hd
  have hj : bs.idxOf b < bs.length := List.idxOf_lt_length_iff.mpr hk
  refine call_meets PySem.F.slot_list_index ⟨_, ho, rfl⟩ PySem.F.entry_list_index (PySem.F.args_list_index_2 _ _)
    (list_indexAt l _ n dd sl (.bool b) (isB b) (bs.idxOf b) (by simpa using hj) (by omega) ?_ ?_) ⟨ho, eq_isB, h⟩
  · have : (bs.map Value.bool).toArray[bs.idxOf b]'(by simpa using hj) = .bool b := by simp
    rw [this]; simp [isB]
  · intro m hm hlt
    have hm' : m < bs.length := by simpa using hm
    have : (bs.map Value.bool).toArray[m] = .bool bs[m] := by simp
    rw [this]
    show (bs[m] == b) = false
    exact nbeq_idx bs b m hm' hlt
end
end Mine
namespace Mine
theorem any_mem {bs : List Bool} (h : bs.any (· == true) = true) : true ∈ bs := by simpa using h
end Mine
end

section
open PySem PySem.W PyProof.Rows PySem.Calls
set_option maxRecDepth 100000
namespace Mine
theorem bind_rest {fd : FuncData} {v0 : Value} {vs : List Value} {q1 q2 : Pos} (hp : fd.params = { posonlyargs := [], args := [⟨Str.ofString "a", none, q1⟩], vararg := some ⟨Str.ofString "p", none, q2⟩, kwonlyargs := [], kw_defaults := [], kwarg := none, defaults := [] }) (hd : fd.defaults = .none) :
    bindArgs fd ⟨v0 :: vs, []⟩ = (newTuple vs >>= fun t => pure [((Str.ofString "a"), v0), ((Str.ofString "p"), t)]) := by
  unfold bindArgs
  rw [hp, hd]
  have e : (decide ((v0 :: vs).length > (List.map (fun x => x.arg) ([] : List PySem.Arg) ++ List.map (fun x => x.arg) [(⟨Str.ofString "a", none, q1⟩ : PySem.Arg)] : List Str).length) && (some (⟨Str.ofString "p", none, q2⟩ : PySem.Arg) : Option PySem.Arg).isNone) = false := Bool.and_false _
  dsimp only
  rw [e]
  rfl
section
variable {prog : Program} {w : World} {A A₀ : Around} {s : Shared} {K : Frag} {L : Addr} {h₀ base : Heap} {m mg mb : Str → Option Value} {news : List (Addr × Obj)} {p : Program} {loose : List Str} {mean : ExcName → Option Value}
/-- a def with a rest of any length is entered -/
theorem enter_rest {env : Env} {outer : List Env} {R : Result → Shared → Prop} {name qual : Str} {params : Arguments} {body : List Stmt} {scope : Scope} {dV kV doc pm cdv ct oc : Value} {an od : Option Addr} {osl : Array (Option Value)} {f : Addr} {v0 : Value} {vs : List Value} {q1 q2 : Pos}
    (B : Below A₀ base outer h₀) (F : Fr h₀ L s.heap m) (X₀ : K.In h₀) (N : News h₀ L s.heap news) (T : Top p loose mean mg mb h₀) (hA : A.frames = some (env :: outer)) (hf : env.frame = some L) (hke : env.scope.kind = .function)
    (ho : K.lookup f = some ⟨oc, od, .func (fnOf name qual params body scope dV kV doc pm an cdv ct), osl⟩) (hcd : codeIn K cdv qual = true) (hroom : A.depth < recursionLimit)
    (hp : params = { posonlyargs := [], args := [⟨Str.ofString "a", none, q1⟩], vararg := some ⟨Str.ofString "p", none, q2⟩, kwonlyargs := [], kw_defaults := [], kwarg := none, defaults := [] }) (hd : dV = .none) (hz : vs.length ≤ sizeLine)
    (hloc : ∀ D, ∀ z ∈ [((Str.ofString "a"), v0), ((Str.ofString "p"), Value.ref D)], scope.names.lookup z.1 = some .local)
    (h : ∀ D g L' h₁, (∀ p ∈ news, p.1 < D) → Fr h₀ L g m → Fr g L' h₁ (fun z => [((Str.ofString "a"), v0), ((Str.ofString "p"), Value.ref D)].reverse.lookup z) → News g L' h₁ ((D, ({ cls := .type "tuple", data := .seq vs.toArray } : Obj)) :: news) → Below A base (env :: outer) g → K.In g → Top p loose mean mg mb g →
      wpAny (model prog w) (A.deeper (envOf qual scope L' f cdv)) (execs body (envOf qual scope L' f cdv))
        (fun fl s' => LeaveK h₀ L m g R (match fl with | .ret v => v | _ => .none) s')
        (fun e s' => wpAny (model prog w) (A.deeper (envOf qual scope L' f cdv)) (leaving (envOf qual scope L' f cdv) e) (fun _ s'' => R (.error e) s'') (fun e' s'' => R (.error e') s'') s')
        { s with heap := h₁, toks := s.toks + 2 })
    (hco : scope.isCoroutine = false) (hgen : scope.isGenerator = false) (hk : scope.kind = .function)
    (hcell : ∀ x ∈ scope.names, x.2 ≠ .cell) : codeAny (model prog w) A (.call (.ref f) ⟨v0 :: vs, []⟩) R s := by
  refine codeAny_call_function (fd := fnOf name qual params body scope dV kV doc pm an cdv ct) (body := body) hroom ((X₀.keeps F.keep) _ _ ho) rfl hco hgen rfl (codeRec_of (X₀.keeps F.keep) hcd) ?_
  rw [bind_rest (fd := fnOf name qual params body scope dV kV doc pm an cdv ct) hp hd]
  refine wpAny_bind (newTuple_N F N (fun h' F' N' => wpAny_pure ?_) hz)
  exact kp_frame (cl := []) (s := { s with heap := h' }) B F' N' T.nolimit hA hf hke (hloc _) (fun g L' h₁ FG FL NG BG st => h _ g L' h₁ (fun p hp => Heap.lt_size (N p hp).1) FG FL NG BG (X₀.keeps st) (T.keeps st)) hcell hk
end
end Mine
end

section
open PySem PySem.W PyProof.Rows
namespace Mine
abbrev LP := PySem.Challenge.rw_il0056_01.row.prog

/-- what a call of the text's def gives back: a value that holds no reference; nothing else is changed; P: what the ledger bears -/
def Tells (w : World) (f : Addr) (d : Nat) (P : List (Addr × Obj) → Prop) (vs : List Value) (R : Tok → Value) : Prop :=
  ∀ (mean : ExcName → Option Value) (mg mb : Str → Option Value) (dp un : Nat) (gd : Option (List Code)) (cn : Str) (cs : Scope) (a : Addr) (ccd : Value) (cl : List (Str × Addr)) (outer : List Env) (A₀ : Around) (base h₀ : Heap) (L : Addr) (m : Str → Option Value) (news : List (Addr × Obj)) (s : Shared) (Q E : Value → Shared → Prop),
    Below A₀ base outer h₀ → Fr h₀ L s.heap m → (hd.heap_1 w.params).In h₀ → News h₀ L s.heap news → Top seenPart (looseW seenPart []) mean mg mb h₀ → cs.kind = .function → dp + d < recursionLimit → un + 8 * d < cLine → P news →
    CbRet h₀ L m news s Q R →
    wpAny (model PySem.Challenge.rw_il0056_01.row.prog w) (ktrTop dp un gd cn cs L a ccd cl outer) (call (.ref f) vs) Q E s

theorem Tells.use {w : World} {f : Addr} {d : Nat} {P : List (Addr × Obj) → Prop} {vs : List Value} {R : Tok → Value} (h : Tells w f d P vs R)
  {mean : ExcName → Option Value} {mg mb : Str → Option Value} {dp un : Nat} {gd : Option (List Code)} {cn : Str} {cs : Scope} {a : Addr} {ccd : Value} {cl : List (Str × Addr)} {outer : List Env} {A₀ : Around} {base h₀ : Heap} {L : Addr} {m : Str → Option Value} {news : List (Addr × Obj)} {s : Shared} {Q E : Value → Shared → Prop}
    (hB : Below A₀ base outer h₀) (hF : Fr h₀ L s.heap m) (hX : (hd.heap_1 w.params).In h₀) (hN : News h₀ L s.heap news) (hT : Top seenPart (looseW seenPart []) mean mg mb h₀) (hk : cs.kind = .function) (hd : dp + d < recursionLimit) (hu : un + 8 * d < cLine) (hP : P news)
    (hr : ∀ (t : Tok) (h' : Heap) (tk' : Nat), Fr h₀ L h' m → News h₀ L h' news → Q (R t) { s with heap := h', toks := tk' }) :
    wpAny (model PySem.Challenge.rw_il0056_01.row.prog w) (ktrTop dp un gd cn cs L a ccd cl outer) (call (.ref f) vs) Q E s :=
  h mean mg mb dp un gd cn cs a ccd cl outer A₀ base h₀ L m news s Q E hB hF hX hN hT hk hd hu hP hr

/-- nothing is asked of the ledger -/
abbrev noAsk : List (Addr × Obj) → Prop := fun _ => True

theorem endV {h₀ h' : Heap} {L : Addr} {m : Str → Option Value} {news : List (Addr × Obj)} {s : Shared} {Q : Value → Shared → Prop} {R : Tok → Value} {v : Value} {tk' : Nat}
    (hret : CbRet h₀ L m news s Q R) (t : Tok) (e : v = R t) (F : Fr h₀ L h' m) (N : News h₀ L h' news) : Q v { s with heap := h', toks := tk' } := by
  subst e
  exact hret t h' tk' F N
/-- what a call gives back: one new object, of which O tells -/
def TellsO (w : World) (f : Addr) (d : Nat) (P : List (Addr × Obj) → Prop) (vs : List Value) (O : Obj → Prop) : Prop :=
  ∀ (mean : ExcName → Option Value) (mg mb : Str → Option Value) (dp un : Nat) (gd : Option (List Code)) (cn : Str) (cs : Scope) (a : Addr) (ccd : Value) (cl : List (Str × Addr)) (outer : List Env) (A₀ : Around) (base h₀ : Heap) (L : Addr) (m : Str → Option Value) (news : List (Addr × Obj)) (s : Shared) (Q E : Value → Shared → Prop),
    Below A₀ base outer h₀ → Fr h₀ L s.heap m → (hd.heap_1 w.params).In h₀ → News h₀ L s.heap news → Top seenPart (looseW seenPart []) mean mg mb h₀ → cs.kind = .function → dp + d < recursionLimit → un + 8 * d < cLine → P news →
    (∀ D o h' tk', O o → Fr h₀ L h' m → News h₀ L h' ((D, o) :: news) → (∀ p ∈ news, p.1 < D) → Q (.ref D) { s with heap := h', toks := tk' }) →
    wpAny (model PySem.Challenge.rw_il0056_01.row.prog w) (ktrTop dp un gd cn cs L a ccd cl outer) (call (.ref f) vs) Q E s

theorem TellsO.use {w : World} {f : Addr} {d : Nat} {P : List (Addr × Obj) → Prop} {vs : List Value} {O : Obj → Prop} (h : TellsO w f d P vs O)
  {mean : ExcName → Option Value} {mg mb : Str → Option Value} {dp un : Nat} {gd : Option (List Code)} {cn : Str} {cs : Scope} {a : Addr} {ccd : Value} {cl : List (Str × Addr)} {outer : List Env} {A₀ : Around} {base h₀ : Heap} {L : Addr} {m : Str → Option Value} {news : List (Addr × Obj)} {s : Shared} {Q E : Value → Shared → Prop}
    (hB : Below A₀ base outer h₀) (hF : Fr h₀ L s.heap m) (hX : (hd.heap_1 w.params).In h₀) (hN : News h₀ L s.heap news) (hT : Top seenPart (looseW seenPart []) mean mg mb h₀) (hk : cs.kind = .function) (hd : dp + d < recursionLimit) (hu : un + 8 * d < cLine) (hP : P news)
    (hr : ∀ D o h' tk', O o → Fr h₀ L h' m → News h₀ L h' ((D, o) :: news) → (∀ p ∈ news, p.1 < D) → Q (.ref D) { s with heap := h', toks := tk' }) :
    wpAny (model PySem.Challenge.rw_il0056_01.row.prog w) (ktrTop dp un gd cn cs L a ccd cl outer) (call (.ref f) vs) Q E s :=
  h mean mg mb dp un gd cn cs a ccd cl outer A₀ base h₀ L m news s Q E hB hF hX hN hT hk hd hu hP hr

theorem endO {h₀ h' : Heap} {L : Addr} {m : Str → Option Value} {news all : List (Addr × Obj)} {s : Shared} {Q : Value → Shared → Prop} {O : Obj → Prop} {D : Addr} {o : Obj} {tk' : Nat}
    (hret : ∀ D o h' tk', O o → Fr h₀ L h' m → News h₀ L h' ((D, o) :: news) → (∀ p ∈ news, p.1 < D) → Q (.ref D) { s with heap := h', toks := tk' }) (F : Fr h₀ L h' m) (N : News h₀ L h' all) (hm : (D, o) ∈ all) (hs : ∀ p ∈ news, p ∈ all) (hl : ∀ p ∈ news, p.1 < D) (ho : O o) : Q (.ref D) { s with heap := h', toks := tk' } :=
  hret D o h' tk' ho F (fun p hp => by
    rcases List.mem_cons.mp hp with rfl | hp
    · exact N _ hm
    · exact N p (hs p hp)) hl
end Mine
end

section
open PySem PySem.W PyProof.Rows
namespace Mine
set_option maxRecDepth 100000
/-! the walk's lines of this text alone -/
local macro_rules | `(tactic| walk_at "call type:type") => `(tactic| ((with_reducible show wpAny _ _ (call _ [Value.bytes _ _]) _ _ _); refine call_type_of (Tx := "bytes") rfl (by decide +kernel) ?_))
local macro_rules | `(tactic| walk_at "call builtin:issubclass") => `(tactic| (k_here; k_dflt (first
  | (refine' issubclass_pair sub2_bs sub2_bb ?k1 ?_; (case k1 => exact News.get (by k_asm) (by k_mem)); k_whole)
  | (refine' issubclass_pair sub2_ss sub2_sb ?k1 ?_; (case k1 => exact News.get (by k_asm) (by k_mem)); k_whole))))
-- a call of a def whose contract is shown: «tb_rel» holds the contract
local macro_rules | `(tactic| tb_start) => `(tactic| (
  (case k1 => k_asm)
  (case k2 => k_asm)
  (case k3 => k_asm)
  (case k4 => k_asm)
  (case k5 => k_asm)
  (case kK => first | exact rfl | assumption)
  (case kd => ktr_room)
  (case ku => ktr_units)
  (case kP => first | exact True.intro | assumption | (repeat' (first | exact True.intro | k_mem | assumption | refine And.intro ?_ ?_)))
  intro t9 h9 tk9 F9 N9
  (try dsimp only)
  (try k_fold)))
set_option maxHeartbeats 8000000 in
theorem c_fspath_b (w : World) (b : Array UInt8) (t : Tok) : Tells w 94 1 noAsk [.bytes b t] (fun _ => .bytes b t) := by
  w_on
  unfold Tells
  k_fill
  intro mean mg mb dp un gd cn cs a ccd cl outer A₀ base h₀ L m news s Q E B F X N T hk hd hu hP hret
  refine wpAny_call ?_
  w_strict (k_dflt cell_enter; k_steps; all_goals (refine' endV hret _ ?e1 ?e2 ?e3; (case e2 => k_asm); (case e3 => first | k_asm | (refine' cb_drop ?cbN ?cbS; (case cbN => assumption); (case cbS => kcj_all))); (case e1 => rfl); (all_goals exact (0 : Nat))))


set_option maxHeartbeats 8000000 in
theorem c_fspath_s (w : World) (x : Str) (t : Tok) : Tells w 94 1 noAsk [.str x t] (fun _ => .str x t) := by
  w_on
  unfold Tells
  k_fill
  intro mean mg mb dp un gd cn cs a ccd cl outer A₀ base h₀ L m news s Q E B F X N T hk hd hu hP hret
  refine wpAny_call ?_
  w_strict (k_dflt cell_enter; k_steps; all_goals (refine' endV hret _ ?e1 ?e2 ?e3; (case e2 => k_asm); (case e3 => first | k_asm | (refine' cb_drop ?cbN ?cbS; (case cbN => assumption); (case cbS => kcj_all))); (case e1 => rfl); (all_goals exact (0 : Nat))))


set_option maxHeartbeats 8000000 in
theorem c_sep_b (w : World) (b : Array UInt8) (t : Tok) : Tells w 108 1 noAsk [.bytes b t] (fun t => .bytes #[47] t) := by
  w_on
  unfold Tells
  k_fill
  intro mean mg mb dp un gd cn cs a ccd cl outer A₀ base h₀ L m news s Q E B F X N T hk hd hu hP hret
  refine wpAny_call ?_
  w_strict (k_dflt cell_enter; k_steps; all_goals (refine' endV hret _ ?e1 ?e2 ?e3; (case e2 => k_asm); (case e3 => first | k_asm | (refine' cb_drop ?cbN ?cbS; (case cbN => assumption); (case cbS => kcj_all))); (case e1 => rfl); (all_goals exact (0 : Nat))))


set_option maxHeartbeats 8000000 in
theorem c_sep_s (w : World) (x : Str) (t : Tok) : Tells w 108 1 noAsk [.str x t] (fun t => .str (Str.ofString "/") t) := by
  w_on
  unfold Tells
  k_fill
  intro mean mg mb dp un gd cn cs a ccd cl outer A₀ base h₀ L m news s Q E B F X N T hk hd hu hP hret
  refine wpAny_call ?_
  w_strict (k_dflt cell_enter; k_steps; all_goals (refine' endV hret _ ?e1 ?e2 ?e3; (case e2 => k_asm); (case e3 => first | k_asm | (refine' cb_drop ?cbN ?cbS; (case cbN => assumption); (case cbS => kcj_all))); (case e1 => rfl); (all_goals exact (0 : Nat))))


set_option maxHeartbeats 8000000 in
theorem c_imode (w : World) (n : Int) (t : Tok) (h0 : 0 ≤ n) (h1 : n < 2 ^ 32) : Tells w 143 1 noAsk [.int n t] (fun t => .int (n % 4096) t) := by
  w_on
  unfold Tells
  k_fill
  intro mean mg mb dp un gd cn cs a ccd cl outer A₀ base h₀ L m news s Q E B F X N T hk hd hu hP hret
  refine wpAny_call ?_
  w_strict (k_dflt cell_enter; k_steps; all_goals (refine' endV hret _ ?e1 ?e2 ?e3; (case e2 => k_asm); (case e3 => first | k_asm | (refine' cb_drop ?cbN ?cbS; (case cbN => assumption); (case cbS => kcj_all))); (case e1 => rw [and4095 h0]); (all_goals exact (0 : Nat))))


set_option maxHeartbeats 8000000 in
theorem c_ifmt (w : World) (n : Int) (t : Tok) (h0 : 0 ≤ n) (h1 : n < 2 ^ 32) : Tells w 150 1 noAsk [.int n t] (fun t => .int (n / 4096 % 16 * 4096) t) := by
  w_on
  unfold Tells
  k_fill
  intro mean mg mb dp un gd cn cs a ccd cl outer A₀ base h₀ L m news s Q E B F X N T hk hd hu hP hret
  refine wpAny_call ?_
  w_strict (k_dflt cell_enter; k_steps; all_goals (refine' endV hret _ ?e1 ?e2 ?e3; (case e2 => k_asm); (case e3 => first | k_asm | (refine' cb_drop ?cbN ?cbS; (case cbN => assumption); (case cbS => kcj_all))); (case e1 => rw [andF000 h0]); (all_goals exact (0 : Nat))))


section
local macro_rules | `(tactic| walk_at "call ref") => `(tactic| (k_here; k_dflt (first
  | (refine' Tells.use (c_ifmt _ _ _ (by assumption) (by assumption)) ?k1 ?k2 ?k3 ?k4 ?k5 ?kK ?kd ?ku ?kP ?_; tb_start))))

set_option maxHeartbeats 8000000 in
theorem c_isdir (w : World) (n : Int) (t : Tok) (h0 : 0 ≤ n) (h1 : n < 2 ^ 32) : Tells w 157 2 noAsk [.int n t] (fun _ => .bool (decide (n / 4096 % 16 = 4))) := by
  w_on
  unfold Tells
  k_fill
  intro mean mg mb dp un gd cn cs a ccd cl outer A₀ base h₀ L m news s Q E B F X N T hk hd hu hP hret
  refine wpAny_call ?_
  w_strict (k_dflt cell_enter; k_steps; all_goals (refine' endV hret _ ?e1 ?e2 ?e3; (case e2 => k_asm); (case e3 => first | k_asm | (refine' cb_drop ?cbN ?cbS; (case cbN => assumption); (case cbS => kcj_all))); (case e1 => exact congrArg Value.bool (decide_eq_decide.mpr (by omega))); (all_goals exact (0 : Nat))))


set_option maxHeartbeats 8000000 in
theorem c_ischr (w : World) (n : Int) (t : Tok) (h0 : 0 ≤ n) (h1 : n < 2 ^ 32) : Tells w 164 2 noAsk [.int n t] (fun _ => .bool (decide (n / 4096 % 16 = 2))) := by
  w_on
  unfold Tells
  k_fill
  intro mean mg mb dp un gd cn cs a ccd cl outer A₀ base h₀ L m news s Q E B F X N T hk hd hu hP hret
  refine wpAny_call ?_
  w_strict (k_dflt cell_enter; k_steps; all_goals (refine' endV hret _ ?e1 ?e2 ?e3; (case e2 => k_asm); (case e3 => first | k_asm | (refine' cb_drop ?cbN ?cbS; (case cbN => assumption); (case cbS => kcj_all))); (case e1 => exact congrArg Value.bool (decide_eq_decide.mpr (by omega))); (all_goals exact (0 : Nat))))


set_option maxHeartbeats 8000000 in
theorem c_isblk (w : World) (n : Int) (t : Tok) (h0 : 0 ≤ n) (h1 : n < 2 ^ 32) : Tells w 171 2 noAsk [.int n t] (fun _ => .bool (decide (n / 4096 % 16 = 6))) := by
  w_on
  unfold Tells
  k_fill
  intro mean mg mb dp un gd cn cs a ccd cl outer A₀ base h₀ L m news s Q E B F X N T hk hd hu hP hret
  refine wpAny_call ?_
  w_strict (k_dflt cell_enter; k_steps; all_goals (refine' endV hret _ ?e1 ?e2 ?e3; (case e2 => k_asm); (case e3 => first | k_asm | (refine' cb_drop ?cbN ?cbS; (case cbN => assumption); (case cbS => kcj_all))); (case e1 => exact congrArg Value.bool (decide_eq_decide.mpr (by omega))); (all_goals exact (0 : Nat))))


set_option maxHeartbeats 8000000 in
theorem c_isreg (w : World) (n : Int) (t : Tok) (h0 : 0 ≤ n) (h1 : n < 2 ^ 32) : Tells w 178 2 noAsk [.int n t] (fun _ => .bool (decide (n / 4096 % 16 = 8))) := by
  w_on
  unfold Tells
  k_fill
  intro mean mg mb dp un gd cn cs a ccd cl outer A₀ base h₀ L m news s Q E B F X N T hk hd hu hP hret
  refine wpAny_call ?_
  w_strict (k_dflt cell_enter; k_steps; all_goals (refine' endV hret _ ?e1 ?e2 ?e3; (case e2 => k_asm); (case e3 => first | k_asm | (refine' cb_drop ?cbN ?cbS; (case cbN => assumption); (case cbS => kcj_all))); (case e1 => exact congrArg Value.bool (decide_eq_decide.mpr (by omega))); (all_goals exact (0 : Nat))))


set_option maxHeartbeats 8000000 in
theorem c_isfifo (w : World) (n : Int) (t : Tok) (h0 : 0 ≤ n) (h1 : n < 2 ^ 32) : Tells w 185 2 noAsk [.int n t] (fun _ => .bool (decide (n / 4096 % 16 = 1))) := by
  w_on
  unfold Tells
  k_fill
  intro mean mg mb dp un gd cn cs a ccd cl outer A₀ base h₀ L m news s Q E B F X N T hk hd hu hP hret
  refine wpAny_call ?_
  w_strict (k_dflt cell_enter; k_steps; all_goals (refine' endV hret _ ?e1 ?e2 ?e3; (case e2 => k_asm); (case e3 => first | k_asm | (refine' cb_drop ?cbN ?cbS; (case cbN => assumption); (case cbS => kcj_all))); (case e1 => exact congrArg Value.bool (decide_eq_decide.mpr (by omega))); (all_goals exact (0 : Nat))))


set_option maxHeartbeats 8000000 in
theorem c_islnk (w : World) (n : Int) (t : Tok) (h0 : 0 ≤ n) (h1 : n < 2 ^ 32) : Tells w 192 2 noAsk [.int n t] (fun _ => .bool (decide (n / 4096 % 16 = 10))) := by
  w_on
  unfold Tells
  k_fill
  intro mean mg mb dp un gd cn cs a ccd cl outer A₀ base h₀ L m news s Q E B F X N T hk hd hu hP hret
  refine wpAny_call ?_
  w_strict (k_dflt cell_enter; k_steps; all_goals (refine' endV hret _ ?e1 ?e2 ?e3; (case e2 => k_asm); (case e3 => first | k_asm | (refine' cb_drop ?cbN ?cbS; (case cbN => assumption); (case cbS => kcj_all))); (case e1 => exact congrArg Value.bool (decide_eq_decide.mpr (by omega))); (all_goals exact (0 : Nat))))


set_option maxHeartbeats 8000000 in
theorem c_issock (w : World) (n : Int) (t : Tok) (h0 : 0 ≤ n) (h1 : n < 2 ^ 32) : Tells w 199 2 noAsk [.int n t] (fun _ => .bool (decide (n / 4096 % 16 = 12))) := by
  w_on
  unfold Tells
  k_fill
  intro mean mg mb dp un gd cn cs a ccd cl outer A₀ base h₀ L m news s Q E B F X N T hk hd hu hP hret
  refine wpAny_call ?_
  w_strict (k_dflt cell_enter; k_steps; all_goals (refine' endV hret _ ?e1 ?e2 ?e3; (case e2 => k_asm); (case e3 => first | k_asm | (refine' cb_drop ?cbN ?cbS; (case cbN => assumption); (case cbS => kcj_all))); (case e1 => exact congrArg Value.bool (decide_eq_decide.mpr (by omega))); (all_goals exact (0 : Nat))))


end
end Mine
end

section
open PySem PySem.W PyProof.Rows
namespace Mine
set_option maxRecDepth 100000
/-! the walk's lines of this text alone -/
local macro_rules | `(tactic| walk_at "call type:type") => `(tactic| ((with_reducible show wpAny _ _ (call _ [Value.bytes _ _]) _ _ _); refine call_type_of (Tx := "bytes") rfl (by decide +kernel) ?_))
local macro_rules | `(tactic| walk_at "call builtin:issubclass") => `(tactic| (k_here; k_dflt (first
  | (refine' issubclass_pair sub2_bs sub2_bb ?k1 ?_; (case k1 => exact News.get (by k_asm) (by k_mem)); k_whole)
  | (refine' issubclass_pair sub2_ss sub2_sb ?k1 ?_; (case k1 => exact News.get (by k_asm) (by k_mem)); k_whole))))
-- a call of a def whose contract is shown: «tb_rel» holds the contract
local macro_rules | `(tactic| tb_start) => `(tactic| (
  (case k1 => k_asm)
  (case k2 => k_asm)
  (case k3 => k_asm)
  (case k4 => k_asm)
  (case k5 => k_asm)
  (case kK => first | exact rfl | assumption)
  (case kd => ktr_room)
  (case ku => ktr_units)
  (case kP => first | exact True.intro | assumption | (repeat' (first | exact True.intro | k_mem | assumption | refine And.intro ?_ ?_)))
  intro t9 h9 tk9 F9 N9
  (try dsimp only)
  (try k_fold)))

theorem BsAre.at {vs : List Value} {bs : List (List UInt8)} (h : BsAre vs bs) {i : Nat} {v : Value} (e : vs[i]? = some v) : ∃ (p : Array UInt8) (t : Tok), v = .bytes p t ∧ bs[i]? = some p.toList := by
  have hi : i < vs.length := by
    rcases Nat.lt_or_ge i vs.length with h | h
    · exact h
    · rw [List.getElem?_eq_none h] at e; cases e
  obtain ⟨p, t, e1, e2⟩ := h.get i hi
  rw [e1] at e
  exact ⟨p, t, (Option.some.inj e).symm, e2⟩
theorem b47 : (#[47] : Array UInt8).size = 1 := rfl
theorem tot_len {α : Type} : ∀ bs : List (List α), bs.length ≤ tot bs
  | [] => Nat.le_refl _
  | b :: r => by have := tot_len r; simp only [tot, List.length_cons]; omega
theorem jb_start {P : List UInt8} {p : Array UInt8} {t : Tok} (h : (p.toList.head? == some 47) = true) : some (Value.bytes p t) = some (Value.bytes (jstep 47 P p.toList).toArray t) := by
  unfold jstep
  rw [if_pos (.inl h), Array.toArray_toList]
theorem jb_empty {P : List UInt8} {p : Array UInt8} {t : Tok} (h : (P.toArray.size : Int) = 0) : some (Value.bytes p t) = some (Value.bytes (jstep 47 P p.toList).toArray t) := by
  have e : P = [] := List.eq_nil_of_length_eq_zero (by simpa using h)
  unfold jstep
  rw [if_pos (.inr e), Array.toArray_toList]
theorem jb_ends {P : List UInt8} {p : Array UInt8} {t : Tok} (h1 : (p.toList.head? == some 47) = false) (h2 : (P.toArray.size : Int) ≠ 0) (h3 : (P.toArray.toList.getLast? == some 47) = true) : some (Value.bytes (P.toArray ++ p) t) = some (Value.bytes (jstep 47 P p.toList).toArray t) := by
  have e : ¬ ((p.toList.head? == some 47) = true ∨ P = []) := by
    rintro (h | h)
    · rw [h1] at h; cases h
    · subst h; exact h2 rfl
  unfold jstep
  rw [if_neg e, if_pos h3]
  simp
theorem jb_mid {P : List UInt8} {p : Array UInt8} {t : Tok} (h1 : (p.toList.head? == some 47) = false) (h2 : (P.toArray.size : Int) ≠ 0) (h3 : (P.toArray.toList.getLast? == some 47) = false) : some (Value.bytes (P.toArray ++ (#[47] ++ p)) t) = some (Value.bytes (jstep 47 P p.toList).toArray t) := by
  have e : ¬ ((p.toList.head? == some 47) = true ∨ P = []) := by
    rintro (h | h)
    · rw [h1] at h; cases h
    · subst h; exact h2 rfl
  have e3 : ¬ (P.getLast? == some 47) = true := by
    have : (P.getLast? == some 47) = false := h3
    rw [this]; exact Bool.false_ne_true
  unfold jstep
  rw [if_neg e, if_neg e3]
  simp
section
local macro_rules | `(tactic| walk_at "getMethod bytes") => `(tactic| (k_here; with_reducible first | refine gm_bstarts ?_ | refine gm_bends ?_))
local macro_rules | `(tactic| walk_at "call builtin:bytes.startswith") => `(tactic| (refine bstarts ?_))
local macro_rules | `(tactic| walk_at "call builtin:bytes.endswith") => `(tactic| (refine bends ?_))
local macro_rules | `(tactic| walk_at "truthy bytes") => `(tactic| (refine truthy_bytes (by omega) ?_))
local macro_rules | `(tactic| walk_at "binaryOp Add bytes bytes") => `(tactic| ((refine KBy.add_bytes (by (simp only [Array.size_append, b47]; omega)) ?_); intro _ _))
local macro_rules | `(tactic| walk_at "inplaceOp Add bytes bytes") => `(tactic| ((refine iadd_bytes (by first | omega | (simp only [Array.size_append, b47]; omega)) ?_); intro _ _))
local macro_rules | `(tactic| walk_at "exec For Name Name cons nil") => `(tactic| (k_here; (rename Fr _ _ _ _ => lF'); (with_unfolding_all refine' For_invVF lF' ?k1 ?k2 ?_; (case k1 => exact rfl); (case k2 => exact rfl); k_whole)))
local macro_rules | `(tactic| walk_at "pyIter ref") => `(tactic| k_extra "pyIter ref")
local macro_rules | `(tactic| walk_at "InvEnd") => `(tactic| k_extra "InvEnd")
local macro_rules | `(tactic| walk_at "call ref") => `(tactic| (k_here; k_dflt (first
  | (refine' Tells.use (c_fspath_b _ _ _) ?k1 ?k2 ?k3 ?k4 ?k5 ?kK ?kd ?ku ?kP ?_; tb_start)
  | (refine' Tells.use (c_sep_b _ _ _) ?k1 ?k2 ?k3 ?k4 ?k5 ?kK ?kd ?ku ?kP ?_; tb_start))))

set_option maxHeartbeats 8000000 in
theorem c_join_b (w : World) (b0 : Array UInt8) (t0 : Tok) (vs : List Value) (bs : List (List UInt8)) (hv : BsAre vs bs) (hz : b0.size + tot bs ≤ 65536) : Tells w 115 3 noAsk (.bytes b0 t0 :: vs) (fun t => .bytes (pjoin 47 b0.toList bs).toArray t) := by
  w_on
  unfold Tells
  k_fill
  intro mean mg mb dp un gd cn cs a ccd cl outer A₀ base h₀ L m news s Q E B F X N T hk hd hu hP hret
  have hlen : vs.length ≤ sizeLine := by
    have h1 := hv.length
    have h2 := tot_len bs
    rw [sizeLine_eq]; omega
  have hsmall : ∀ i, (pjoin 47 b0.toList (bs.take i)).toArray.size ≤ 65536 := fun i => by
    have h1 := pjoin_len (47 : UInt8) (bs.take i) b0.toList
    have h2 := tot_take bs i
    rw [Array.length_toList (xs := b0)] at h1
    rw [List.size_toArray]; omega
  have hpart : ∀ {i : Nat} {p : Array UInt8}, bs[i]? = some p.toList → p.size ≤ 65536 := fun {i} {p} hb => by
    have h1 := tot_get bs p.toList (List.mem_of_getElem? hb)
    rw [Array.length_toList] at h1
    omega
  refine wpAny_call ?_
  k_with_none
  k_with "pyIter ref" => (
    (rename Fr _ _ _ _ => lF'); (rename News _ _ _ _ => lN')
    refine' iter_tup (fun i m' => (∃ t, m' (Str.ofString "path") = some (.bytes (pjoin 47 b0.toList (bs.take i)).toArray t)) ∧ (∃ t, m' (Str.ofString "sep") = some (.bytes #[47] t))) ?hh (by k_mem) lF' lN' ?hj ?turn ?done
    case hh => exact rfl
    case hj => exact ⟨⟨_, rfl⟩, ⟨_, rfl⟩⟩
    case' turn =>
      clear lF' lN'
      intro i' v' m' h' tk' own' hv' hJ' F' N'
      obtain ⟨⟨tp', hp'⟩, ⟨ts', hs'⟩⟩ := hJ'
      obtain ⟨p', t', e', hb'⟩ := hv.at hv'
      subst e'
      replace F' := Fr_see F' _ _ ((if_neg (by decide)).trans hp')
      replace F' := Fr_see F' (Str.ofString "sep") _ (by rw [if_neg (by decide), if_neg (by decide)]; exact hs')
      have hz1 := hsmall i'
      have hz2 := hpart hb'
      try simp only [List.cons_append] at N'
      try k_fold
    case' done =>
      clear lF' lN'
      intro m' h' tk' hJ' F' N'
      obtain ⟨⟨tp', hp'⟩, _⟩ := hJ'
      rw [hv.length, List.take_length] at hp'
      replace F' := Fr_see F' _ _ hp'
      try k_fold)
  k_with "InvEnd" => (
    refine' InvEnd.intro ?f ?n ?sub ?j
    case f => assumption
    case n => assumption
    case sub => exact fun p hp => hp
    case j =>
      rw [pjoin_snoc _ _ _ _ _ hb']
      first | exact ⟨⟨_, jb_start (by assumption)⟩, ⟨_, rfl⟩⟩ | exact ⟨⟨_, jb_empty (by assumption)⟩, ⟨_, rfl⟩⟩ | exact ⟨⟨_, jb_ends (by assumption) (by assumption) (by assumption)⟩, ⟨_, rfl⟩⟩ | exact ⟨⟨_, jb_mid (by assumption) (by assumption) (by assumption)⟩, ⟨_, rfl⟩⟩)
  w_strict ((refine' enter_rest ?k1 ?k2 ?k3 ?k4 ?k5 ?kA ?kF ?kK ?k6 ?k7 ?k8 ?kP ?kD ?kZ ?kB ?_ ?c2 ?c3 ?c4 ?c5; (case kA => exact rfl); (case kF => exact rfl); (case kK => assumption); (case k1 => k_asm); (case k2 => k_asm); (case k3 => k_asm); (case k4 => k_asm); (case k5 => k_asm); (case k6 => k_is); (case k7 => k_is); (case k8 => ktr_room); (case kP => exact rfl); (case kD => exact rfl); (case kZ => exact hlen); (case kB => exact fun _ => locs rfl); (case c5 => decide); (case c2 => exact rfl); (case c3 => exact rfl); (case c4 => exact rfl)); k_whole; intro D' g' L' h' l1 FG' F' N' B' X' T'; (try dsimp only); (try k_lift B'); (try k_fold))
  w_strict (k_steps; all_goals (refine' endV hret _ ?e1 ?e2 ?e3; (case e2 => k_asm); (case e3 => first | k_asm | (refine' cb_drop ?cbN ?cbS; (case cbN => assumption); (case cbS => kcj_all))); (case e1 => rfl); (all_goals exact (0 : Nat))))
  k_with_none
end


theorem js_start {P : List Nat} {p : Str} {t : Tok} (h : ((sl p).head? == some 47) = true) : some (Value.str p t) = some (Value.str (mkS (jstep 47 P (sl p))) t) := by
  unfold jstep
  rw [if_pos (.inl h)]
theorem js_empty {P : List Nat} {p : Str} {t : Tok} (h : ((mkS P).length : Int) = 0) : some (Value.str p t) = some (Value.str (mkS (jstep 47 P (sl p))) t) := by
  have e : P = [] := List.eq_nil_of_length_eq_zero (by have e := sl_len (mkS P); rw [sl_mkS] at e; omega)
  unfold jstep
  rw [if_pos (.inr e)]
theorem js_ends {P : List Nat} {p : Str} {t : Tok} (h1 : ((sl p).head? == some 47) = false) (h2 : ((mkS P).length : Int) ≠ 0) (h3 : ((sl (mkS P)).getLast? == some 47) = true) : some (Value.str (mkS P ++ p) t) = some (Value.str (mkS (jstep 47 P (sl p))) t) := by
  have e : ¬ (((sl p).head? == some 47) = true ∨ P = []) := by
    rintro (h | h)
    · rw [h1] at h; cases h
    · subst h; exact h2 rfl
  unfold jstep
  rw [if_neg e, if_pos h3]
  exact congrArg (fun z => some (Value.str z t)) (Str.ext' (by rw [Str.cps_append]; simp))
theorem js_mid {P : List Nat} {p : Str} {t : Tok} (h1 : ((sl p).head? == some 47) = false) (h2 : ((mkS P).length : Int) ≠ 0) (h3 : ((sl (mkS P)).getLast? == some 47) = false) : some (Value.str (mkS P ++ (Str.ofString "/" ++ p)) t) = some (Value.str (mkS (jstep 47 P (sl p))) t) := by
  have e : ¬ (((sl p).head? == some 47) = true ∨ P = []) := by
    rintro (h | h)
    · rw [h1] at h; cases h
    · subst h; exact h2 rfl
  have e3 : ¬ (P.getLast? == some 47) = true := by
    have : (P.getLast? == some 47) = false := h3
    rw [this]; exact Bool.false_ne_true
  unfold jstep
  rw [if_neg e, if_neg e3]
  exact congrArg (fun z => some (Value.str z t)) (Str.ext' (by rw [slash, Str.cps_append, Str.cps_append]; simp))
theorem slashlen : (Str.ofString "/").length = 1 := by decide +kernel
section
local macro_rules | `(tactic| walk_at "getMethod str") => `(tactic| (k_here; with_reducible first | refine GM.startswith ?_ | refine GM.endswith ?_))
local macro_rules | `(tactic| walk_at "call builtin:str.startswith") => `(tactic| (refine sstarts ?_))
local macro_rules | `(tactic| walk_at "call builtin:str.endswith") => `(tactic| (refine sends ?_))
local macro_rules | `(tactic| walk_at "truthy str") => `(tactic| (refine struthy (by omega) ?_))
local macro_rules | `(tactic| walk_at "binaryOp Add str str") => `(tactic| ((refine sadd (by (simp only [Str.length_append, slashlen]; omega)) ?_); intro _ _))
local macro_rules | `(tactic| walk_at "inplaceOp Add str str") => `(tactic| ((refine siadd (by first | omega | (simp only [Str.length_append, slashlen]; omega)) ?_); intro _ _))
local macro_rules | `(tactic| walk_at "exec For Name Name cons nil") => `(tactic| (k_here; (rename Fr _ _ _ _ => lF'); (with_unfolding_all refine' For_invVF lF' ?k1 ?k2 ?_; (case k1 => exact rfl); (case k2 => exact rfl); k_whole)))
local macro_rules | `(tactic| walk_at "pyIter ref") => `(tactic| k_extra "pyIter ref")
local macro_rules | `(tactic| walk_at "InvEnd") => `(tactic| k_extra "InvEnd")
local macro_rules | `(tactic| walk_at "call ref") => `(tactic| (k_here; k_dflt (first
  | (refine' Tells.use (c_fspath_s _ _ _) ?k1 ?k2 ?k3 ?k4 ?k5 ?kK ?kd ?ku ?kP ?_; tb_start)
  | (refine' Tells.use (c_sep_s _ _ _) ?k1 ?k2 ?k3 ?k4 ?k5 ?kK ?kd ?ku ?kP ?_; tb_start))))
local macro_rules | `(tactic| walk_at "dummy 0") => `(tactic| skip)

set_option maxHeartbeats 8000000 in
theorem c_join_s (w : World) (b0 : Str) (t0 : Tok) (vs : List Value) (ys : List Str) (hv : StrsAre vs ys) (hz : b0.length + tot (ys.map sl) ≤ 65536) : Tells w 115 3 noAsk (.str b0 t0 :: vs) (fun t => .str (mkS (pjoin 47 (sl b0) (ys.map sl))) t) := by
  w_on
  unfold Tells
  k_fill
  intro mean mg mb dp un gd cn cs a ccd cl outer A₀ base h₀ L m news s Q E B F X N T hk hd hu hP hret
  have hlen : vs.length ≤ sizeLine := by
    have h1 := StrsAre_len hv
    have h2 := tot_len (ys.map sl)
    rw [List.length_map] at h2
    rw [sizeLine_eq]; omega
  have hsmall : ∀ i, (mkS (pjoin 47 (sl b0) ((ys.map sl).take i))).length ≤ 65536 := fun i => by
    have h1 := pjoin_len (47 : Nat) ((ys.map sl).take i) (sl b0)
    have h2 := tot_take (ys.map sl) i
    rw [sl_len b0] at h1
    have h3 := sl_len (mkS (pjoin 47 (sl b0) ((ys.map sl).take i)))
    rw [sl_mkS] at h3; omega
  have hpart : ∀ {i : Nat} {p : Str}, (ys.map sl)[i]? = some (sl p) → p.length ≤ 65536 := fun {i} {p} hb => by
    have h1 := tot_get (ys.map sl) (sl p) (List.mem_of_getElem? hb)
    rw [sl_len] at h1
    omega
  refine wpAny_call ?_
  k_with_none
  k_with "pyIter ref" => (
    (rename Fr _ _ _ _ => lF'); (rename News _ _ _ _ => lN')
    refine' iter_tup (fun i m' => (∃ t, m' (Str.ofString "path") = some (.str (mkS (pjoin 47 (sl b0) ((ys.map sl).take i))) t)) ∧ (∃ t, m' (Str.ofString "sep") = some (.str (Str.ofString "/") t))) ?hh (by k_mem) lF' lN' ?hj ?turn ?done
    case hh => exact rfl
    case hj => exact ⟨⟨_, rfl⟩, ⟨_, rfl⟩⟩
    case' turn =>
      clear lF' lN'
      intro i' v' m' h' tk' own' hv' hJ' F' N'
      obtain ⟨⟨tp', hp'⟩, ⟨ts', hs'⟩⟩ := hJ'
      obtain ⟨p', t', e', hy'⟩ := StrsAre_at hv hv'
      subst e'
      have hb' : (ys.map sl)[i']? = some (sl p') := by rw [List.getElem?_map, hy']; rfl
      replace F' := Fr_see F' _ _ ((if_neg (by decide)).trans hp')
      replace F' := Fr_see F' (Str.ofString "sep") _ (by rw [if_neg (by decide), if_neg (by decide)]; exact hs')
      have hz1 := hsmall i'
      have hz2 := hpart hb'
      try simp only [List.cons_append] at N'
      try k_fold
    case' done =>
      clear lF' lN'
      intro m' h' tk' hJ' F' N'
      obtain ⟨⟨tp', hp'⟩, _⟩ := hJ'
      rw [StrsAre_len hv, ← List.length_map (f := sl), List.take_length] at hp'
      replace F' := Fr_see F' _ _ hp'
      try k_fold)
  k_with "InvEnd" => (
    refine' InvEnd.intro ?f ?n ?sub ?j
    case f => assumption
    case n => assumption
    case sub => exact fun p hp => hp
    case j =>
      rw [pjoin_snoc _ _ _ _ _ hb']
      first | exact ⟨⟨_, js_start (by assumption)⟩, ⟨_, rfl⟩⟩ | exact ⟨⟨_, js_empty (by assumption)⟩, ⟨_, rfl⟩⟩ | exact ⟨⟨_, js_ends (by assumption) (by assumption) (by assumption)⟩, ⟨_, rfl⟩⟩ | exact ⟨⟨_, js_mid (by assumption) (by assumption) (by assumption)⟩, ⟨_, rfl⟩⟩)
  w_strict ((refine' enter_rest ?k1 ?k2 ?k3 ?k4 ?k5 ?kA ?kF ?kK ?k6 ?k7 ?k8 ?kP ?kD ?kZ ?kB ?_ ?c2 ?c3 ?c4 ?c5; (case kA => exact rfl); (case kF => exact rfl); (case kK => assumption); (case k1 => k_asm); (case k2 => k_asm); (case k3 => k_asm); (case k4 => k_asm); (case k5 => k_asm); (case k6 => k_is); (case k7 => k_is); (case k8 => ktr_room); (case kP => exact rfl); (case kD => exact rfl); (case kZ => exact hlen); (case kB => exact fun _ => locs rfl); (case c5 => decide); (case c2 => exact rfl); (case c3 => exact rfl); (case c4 => exact rfl)); k_whole; intro D' g' L' h' l1 FG' F' N' B' X' T'; (try dsimp only); (try k_lift B'); (try k_fold))
  w_strict (k_steps; all_goals (refine' endV hret _ ?e1 ?e2 ?e3; (case e2 => k_asm); (case e3 => first | k_asm | (refine' cb_drop ?cbN ?cbS; (case cbN => assumption); (case cbS => kcj_all))); (case e1 => rfl); (all_goals exact (0 : Nat))))
  k_with_none
end

end Mine
end

section
open PySem PySem.W PyProof.Rows PySem.Calls
set_option maxRecDepth 100000
namespace Mine
section
variable {prog : Program} {w : World} {A : Around} {E : Value → Shared → Prop} {s : Shared} {h₀ : Heap} {L D : Addr} {news : List (Addr × Obj)} {n : Nat} {value slice : PySem.Expr} {vs : List Value} {bs : List (List UInt8)} {ys : List Str} {Q : Value → Shared → Prop} {k : Int}
theorem itemV {u : Tok} {v : Value} (N : News h₀ L s.heap news) (hm : (D, listOf vs.toArray n) ∈ news) (h0 : 0 ≤ k) (hfit : k < 2 ^ 63) (hx : vs[k.toNat]? = some v) (h : Q v s)
    (hs : subscripted slice false (.ref D) (.int k u) = operate [.ref D, .int k u] (getItem (.ref D) (.int k u)) := by with_unfolding_all rfl) :
    wpAny (model prog w) A (subscriptTail value slice (.ref D) (.int k u)) Q E s := by
  have hL : s.heap.IsList D vs.toArray := ⟨_, (N _ hm).1, rfl, n, rfl⟩
  refine tail_any hL.typeIs slot_list_getitem.lookup (wpAny_getItem_list (x := v) hL h0 hfit ?_ h) hs
  simpa using hx
theorem itemB {u : Tok} (hv : BsAre vs bs) (N : News h₀ L s.heap news) (hm : (D, listOf vs.toArray n) ∈ news) (h0 : 0 ≤ k) (h1 : k < vs.length) (hfit : k < 2 ^ 63) (h : ∀ q t, bs[k.toNat]? = some q.toList → Q (.bytes q t) s)
    (hs : subscripted slice false (.ref D) (.int k u) = operate [.ref D, .int k u] (getItem (.ref D) (.int k u)) := by with_unfolding_all rfl) :
    wpAny (model prog w) A (subscriptTail value slice (.ref D) (.int k u)) Q E s := by
  obtain ⟨p, t, e1, e2⟩ := hv.get k.toNat (by omega)
  exact itemV N hm h0 hfit e1 (h p t e2) hs
theorem StrsAre_get {vs : List Value} {ys : List Str} (h : StrsAre vs ys) (i : Nat) (hi : i < vs.length) : ∃ (p : Str) (t : Tok), vs[i]? = some (.str p t) ∧ ys[i]? = some p := by
  obtain ⟨y, t, e, h2⟩ := StrsAre_at h (i := i) (v := vs[i]) (by simp [hi])
  exact ⟨y, t, by rw [← e]; simp [hi], h2⟩
theorem itemS {u : Tok} (hv : StrsAre vs ys) (N : News h₀ L s.heap news) (hm : (D, listOf vs.toArray n) ∈ news) (h0 : 0 ≤ k) (h1 : k < vs.length) (hfit : k < 2 ^ 63) (h : ∀ q t, ys[k.toNat]? = some q → Q (.str q t) s)
    (hs : subscripted slice false (.ref D) (.int k u) = operate [.ref D, .int k u] (getItem (.ref D) (.int k u)) := by with_unfolding_all rfl) :
    wpAny (model prog w) A (subscriptTail value slice (.ref D) (.int k u)) Q E s := by
  obtain ⟨p, t, e1, e2⟩ := StrsAre_get hv k.toNat (by omega)
  exact itemV N hm h0 hfit e1 (h p t e2) hs
end
end Mine
end

section
open PySem PySem.W PyProof.Rows PySem.Calls
set_option maxRecDepth 100000
namespace Mine
theorem dw_drop {α : Type} (p : α → Bool) : ∀ l : List α, l.drop (l.takeWhile p).length = l.dropWhile p
  | [] => rfl
  | a :: r => by
    rw [List.takeWhile_cons, List.dropWhile_cons]
    by_cases h : p a = true
    · rw [if_pos h, if_pos h]; exact dw_drop p r
    · rw [if_neg h, if_neg h]; rfl
theorem lstrip_one (x : Str) (c : Nat) : sl (Txt.lstripChars x (mkS [c])) = (sl x).dropWhile (· == c) := by
  unfold Txt.lstripChars
  rw [PyProof.Rows.stripBy_eq, strSub_mk]
  have e : (mkS [c]).cps.contains = (fun y : Nat => y == c) := by
    funext y
    show (#[c] : Array Nat).contains y = _
    simp
    exact (Bool.beq_eq_decide_eq y c).symm
  show ((sl x).drop (stripLo _ true x)).take _ = _
  simp only [stripLo, stripHi, if_true, Bool.false_eq_true, if_false]
  rw [List.take_of_length_le (by rw [List.length_drop, sl_len]; omega), e, dw_drop]
section
variable {prog : Program} {w : World} {A : Around} {E : Value → Shared → Prop} {s : Shared} {x : Str} {t : Tok} {value slice : PySem.Expr} {Q : Value → Shared → Prop} {k : Int}
theorem slstrip {c : Nat} {y : Str} {u : Tok} (hy : y = mkS [c]) (hz : x.length ≤ sizeLine) (h : ∀ z t' k, sl z = (sl x).dropWhile (· == c) → z.length ≤ x.length → Q (.str z t') { s with toks := k }) : wpAny (model prog w) A (call (.builtin "str.lstrip") [.str x t, .str y u]) Q E s := by
  subst hy
  exact SC.lstripChars (fun t' k => h _ t' k (lstrip_one x c) (len_lstripChars _ _)) hz
theorem sitem {u : Tok} (h0 : 0 ≤ k) (h1 : k.toNat < x.length) (hz : x.length ≤ 65536) (h : ∀ c, (sl x)[k.toNat]? = some c → Q (.str (mkS [c]) s.toks) { s with toks := s.toks + 1 })
    (hs : subscripted slice false (.str x t) (.int k u) = operate [.str x t, .int k u] (getItem (.str x t) (.int k u)) := by with_unfolding_all rfl)
    (ht : ∀ r, letTemporaryGo value (.str x t) r = pure () := by intro _; with_unfolding_all rfl) :
    wpAny (model prog w) A (subscriptTail value slice (.str x t) (.int k u)) Q E s := by
  have hc : x.cps[k.toNat]? = some (x.cps[k.toNat]'h1) := Array.getElem?_eq_getElem h1
  refine item_str (fitsSsize_of (N := 65536) (by omega) (by omega) (by decide)) (by omega) (by omega) (fun _ => ?_) hs ht
  rw [item_meets h0 hc]
  exact h _ (by rw [← hc]; simp)
theorem slast {u : Tok} (hne : x.length ≠ 0) (hz : x.length ≤ 65536) (h : ∀ c, (sl x).getLast? = some c → Q (.str (mkS [c]) s.toks) { s with toks := s.toks + 1 })
    (hs : subscripted slice false (.str x t) (.int (-1) u) = operate [.str x t, .int (-1) u] (getItem (.str x t) (.int (-1) u)) := by with_unfolding_all rfl)
    (ht : ∀ r, letTemporaryGo value (.str x t) r = pure () := by intro _; with_unfolding_all rfl) :
    wpAny (model prog w) A (subscriptTail value slice (.str x t) (.int (-1) u)) Q E s := by
  have hlt : x.length - 1 < x.cps.size := by show x.length - 1 < x.length; omega
  refine item_str (fitsSsize_of (N := 65536) (by omega) (by omega) (by decide)) (by omega) (by omega) (fun _ => ?_) hs ht
  have e : Txt.charAt x (-1) = some (x.cps[x.length - 1]'hlt) := by
    unfold Txt.charAt PySem.seqIndex?
    have e3 : (-1 : Int) + x.length = ((x.length - 1 : Nat) : Int) := by omega
    have e4 : (decide ((0 : Int) ≤ ((x.length - 1 : Nat) : Int)) && decide (((x.length - 1 : Nat) : Int) < (x.length : Int))) = true := by simp; omega
    dsimp only
    rw [if_pos (show (-1 : Int) < 0 by decide), e3, if_pos e4, Int.toNat_natCast]
    simp [hlt]
  have e2 : Txt.item x (-1) = mkS [x.cps[x.length - 1]'hlt] := by
    unfold Txt.item; rw [e]; rfl
  rw [e2]
  refine h _ ?_
  rw [List.getLast?_eq_getElem?, sl_len]
  simp [hlt]
end
end Mine
end

section
open PySem PySem.W PyProof.Rows PySem.Calls
set_option maxRecDepth 100000
namespace Mine
/-- a turn's end: the ledger as it stood, a word of the value -/
def CEnd (h₀ : Heap) (L : Addr) (m : Str → Option Value) (s₁ : Shared) (all : List (Addr × Obj)) (K : Value → Prop) (y : Value) (s₂ : Shared) : Prop :=
  ∃ h' tk, s₂ = { s₁ with heap := h', toks := tk } ∧ Fr h₀ L h' m ∧ News h₀ L h' all ∧ K y
theorem CEnd.intro {h₀ : Heap} {L : Addr} {m : Str → Option Value} {s₁ : Shared} {all : List (Addr × Obj)} {K : Value → Prop} {y : Value} {h' : Heap} {tk : Nat}
    (F : Fr h₀ L h' m) (N : News h₀ L h' all) (k : K y) : CEnd h₀ L m s₁ all K y { s₁ with heap := h', toks := tk } := ⟨h', tk, rfl, F, N, k⟩
theorem CEnd.comp {h₀ : Heap} {L I C D : Addr} {m : Str → Option Value} {s₁ : Shared} {oI oC oD : Obj} {S : List (Addr × Obj) → Prop} {rest : Value → List (Addr × Obj) → Prop} {K : Value → Prop} {news : List (Addr × Obj)} {y : Value} {s₂ : Shared}
    (h : CEnd h₀ L m s₁ ((I, oI) :: (C, oC) :: (D, oD) :: news) K y s₂) (off : LCg.Off3 I C D news) (hS : S news) (hr : K y → rest y news) : LCg.CompEnd h₀ L m s₁ I oI C oC D oD S rest y s₂ := by
  obtain ⟨h', tk, e, F, N, k⟩ := h
  exact ⟨h', tk, news, e, F, N, off, hS, hr k⟩
section
variable {prog : Program} {w : World} {A : Around} {h₀ : Heap} {L : Addr} {m : Str → Option Value} {env : Env} {ct elt : Expr} {x : Str} {scope : Scope} {cl : List (Str × Addr)} {s : Shared} {S : List (Addr × Obj) → Prop} {P : Nat → Value → Prop} {Fin : List Value → List (Addr × Obj) → Prop} {news : List (Addr × Obj)}
theorem comp_rest {n : Nat} (J : Nat → List Value → Prop) (hS : S news) (hj : J 0 [])
    (turn : ∀ i v ys I oI C oC D m₂ h tk (E' : Value → Shared → Prop), i < n → P i v → J i ys → LCg.NsObj oC m₂ → m₂ x = some v → Fr h₀ L h m → News h₀ L h ((I, oI) :: (C, oC) :: (D, LCg.lst ys) :: news) → LCg.Off3 I C D news → ((@Ne Nat I C) ∧ (@Ne Nat I D) ∧ (@Ne Nat C D)) →
      wpAny (model prog w) A (eval elt (compEnvC scope cl C env)) (CEnd h₀ L m { s with heap := h, toks := tk } ((I, oI) :: (C, oC) :: (D, LCg.lst ys) :: news) (fun y => J (i + 1) (ys ++ [y]))) E' { s with heap := h, toks := tk })
    (fin : ∀ ys, J n ys → Fin ys news) : LCg.CompRest prog w A h₀ L m env elt x scope cl s S P Fin n 0 [] news := by
  have key : ∀ (j i : Nat) (ys : List Value), i + j = n → J i ys → LCg.CompRest prog w A h₀ L m env elt x scope cl s S P Fin j i ys news := by
    intro j
    induction j with
    | zero =>
      intro i ys hi hy
      have e : i = n := by omega
      subst e
      exact LCg.CompRest.zero (fin ys hy)
    | succ j ih =>
      intro i ys hi hy
      refine LCg.CompRest.succ ?_
      intro v I oI C oC D m₂ h tk E' hv hC hx F N off ne
      exact wpAny_mono (turn i v ys I oI C oC D m₂ h tk E' (by omega) hv hy hC hx F N off ne) (fun y s₂ hq => hq.comp off hS fun k => ih (i + 1) _ (by omega) k) fun _ _ e => e
  exact key n 0 [] (by omega) hj
theorem comp_restT {n : Nat} (J : Nat → List Value → Prop) (hS : S news) (hj : J 0 [])
    (turn : ∀ i v ys I oI C oC D m₂ h tk (E' : Value → Shared → Prop), i < n → P i v → J i ys → LCg.NsObj oC m₂ → m₂ x = some v → Fr h₀ L h m → News h₀ L h ((I, oI) :: (C, oC) :: (D, LCg.lst ys) :: news) → LCg.Off3 I C D news → ((@Ne Nat I C) ∧ (@Ne Nat I D) ∧ (@Ne Nat C D)) →
      wpAny (model prog w) A (isTrue ct (compEnvC scope cl C env) (eval ct (compEnvC scope cl C env))) (fun ok s' => if ok = true then
        wpAny (model prog w) A (eval elt (compEnvC scope cl C env)) (CEnd h₀ L m { s with heap := h, toks := tk } ((I, oI) :: (C, oC) :: (D, LCg.lst ys) :: news) (fun y => J (i + 1) (ys ++ [y]))) E' s'
        else CEnd h₀ L m { s with heap := h, toks := tk } ((I, oI) :: (C, oC) :: (D, LCg.lst ys) :: news) (fun _ => J (i + 1) ys) Value.none s') E' { s with heap := h, toks := tk })
    (fin : ∀ ys, J n ys → Fin ys news) : LCt.CompRestT prog w A h₀ L m env ct elt x scope cl s S P Fin n 0 [] news := by
  have key : ∀ (j i : Nat) (ys : List Value), i + j = n → J i ys → LCt.CompRestT prog w A h₀ L m env ct elt x scope cl s S P Fin j i ys news := by
    intro j
    induction j with
    | zero =>
      intro i ys hi hy
      have e : i = n := by omega
      subst e
      exact LCt.CompRestT.zero (fin ys hy)
    | succ j ih =>
      intro i ys hi hy
      refine LCt.CompRestT.succ ?_
      intro v I oI C oC D m₂ h tk E' hv hC hx F N off ne
      refine wpAny_mono (turn i v ys I oI C oC D m₂ h tk E' (by omega) hv hy hC hx F N off ne) (fun ok s₂ hq => ?_) fun _ _ e => e
      cases ok with
      | true =>
        simp only [if_true] at hq ⊢
        exact wpAny_mono hq (fun y s₂ hq => hq.comp off hS fun k => ih (i + 1) _ (by omega) k) fun _ _ e => e
      | false =>
        simp only [Bool.false_eq_true, if_false] at hq ⊢
        exact hq.comp off hS fun k => ih (i + 1) _ (by omega) k
  exact key n 0 [] (by omega) hj
end
end Mine
namespace Mine
open PySem PySem.W PyProof.Rows
theorem CbRet_more {h₀ : Heap} {L : Addr} {m : Str → Option Value} {news : List (Addr × Obj)} {s : Shared} {Q : Value → Shared → Prop} {R : Tok → Value} (p : Addr × Obj)
    (hret : CbRet h₀ L m news s Q R) : CbRet h₀ L m (p :: news) s Q R := fun t h' tk F N => hret t h' tk F (fun q hq => N q (.tail _ hq))
theorem News_more {h₀ h : Heap} {L : Addr} {news : List (Addr × Obj)} {p : Addr × Obj} (hp : p ∈ news) (N : News h₀ L h news) : News h₀ L h (p :: news) := fun q hq => (List.mem_cons.mp hq).elim (fun e => e ▸ N p hp) (N q)
end Mine
end

section
open PySem PySem.W PyProof.Rows
namespace Mine
set_option maxRecDepth 100000
/-! the walk's lines of this text alone -/
local macro_rules | `(tactic| walk_at "call type:type") => `(tactic| ((with_reducible show wpAny _ _ (call _ [Value.bytes _ _]) _ _ _); refine call_type_of (Tx := "bytes") rfl (by decide +kernel) ?_))
local macro_rules | `(tactic| walk_at "call builtin:issubclass") => `(tactic| (k_here; k_dflt (first
  | (refine' issubclass_pair sub2_bs sub2_bb ?k1 ?_; (case k1 => exact News.get (by k_asm) (by k_mem)); k_whole)
  | (refine' issubclass_pair sub2_ss sub2_sb ?k1 ?_; (case k1 => exact News.get (by k_asm) (by k_mem)); k_whole))))
-- a call of a def whose contract is shown: «tb_rel» holds the contract
local macro_rules | `(tactic| tb_start) => `(tactic| (
  (case k1 => k_asm)
  (case k2 => k_asm)
  (case k3 => k_asm)
  (case k4 => k_asm)
  (case k5 => k_asm)
  (case kK => first | exact rfl | assumption)
  (case kd => ktr_room)
  (case ku => ktr_units)
  (case kP => first | exact True.intro | assumption | (repeat' (first | exact True.intro | k_mem | assumption | refine And.intro ?_ ?_)))
  intro t9 h9 tk9 F9 N9
  (try dsimp only)
  (try k_fold)))

theorem sr1 {b : Array UInt8} (h : ((KBy.picked b none (some 1)).toList != (#[47] : Array UInt8).toList) = true) : sroot 47 b.toList = ([], b.toList) := by
  have e : KBy.picked b none (some 1) = (b.toList.take 1).toArray := pk_to b 1
  rw [e] at h
  have h' : b.toList.take 1 ≠ [47] := by simpa using h
  unfold sroot
  rw [if_pos h']
theorem sr1n {b : Array UInt8} (h : ((KBy.picked b none (some 1)).toList != (#[47] : Array UInt8).toList) = false) : ¬ (b.toList.take 1 ≠ [47]) := by
  have e : KBy.picked b none (some 1) = (b.toList.take 1).toArray := pk_to b 1
  rw [e] at h
  simpa using h
theorem sr2 {b : Array UInt8} (h1 : ((KBy.picked b none (some 1)).toList != (#[47] : Array UInt8).toList) = false) (h : ((KBy.picked b (some 1) (some 2)).toList != (#[47] : Array UInt8).toList) = true) : sroot 47 b.toList = ([47], b.toList.drop 1) := by
  have e : KBy.picked b (some 1) (some 2) = ((b.toList.drop 1).take 1).toArray := pk_mid b 1 2
  rw [e] at h
  have h' : (b.toList.drop 1).take 1 ≠ [47] := by simpa using h
  unfold sroot
  rw [if_neg (sr1n h1), if_pos (.inl h')]
theorem sr3 {b : Array UInt8} (h1 : ((KBy.picked b none (some 1)).toList != (#[47] : Array UInt8).toList) = false) (h : ((KBy.picked b (some 2) (some 3)).toList == (#[47] : Array UInt8).toList) = true) : sroot 47 b.toList = ([47], b.toList.drop 1) := by
  have e : KBy.picked b (some 2) (some 3) = ((b.toList.drop 2).take 1).toArray := pk_mid b 2 3
  rw [e] at h
  have h' : (b.toList.drop 2).take 1 = [47] := by simpa using h
  unfold sroot
  rw [if_neg (sr1n h1), if_pos (.inr h')]
theorem sr4 {b : Array UInt8} (h1 : ((KBy.picked b none (some 1)).toList != (#[47] : Array UInt8).toList) = false) (h2 : ((KBy.picked b (some 1) (some 2)).toList != (#[47] : Array UInt8).toList) = false) (h3 : ((KBy.picked b (some 2) (some 3)).toList == (#[47] : Array UInt8).toList) = false) : sroot 47 b.toList = (b.toList.take 2, b.toList.drop 2) := by
  have e2 : KBy.picked b (some 1) (some 2) = ((b.toList.drop 1).take 1).toArray := pk_mid b 1 2
  have e3 : KBy.picked b (some 2) (some 3) = ((b.toList.drop 2).take 1).toArray := pk_mid b 2 3
  rw [e2] at h2
  rw [e3] at h3
  have h2' : (b.toList.drop 1).take 1 = [47] := by simpa using h2
  have h3' : (b.toList.drop 2).take 1 ≠ [47] := by simpa using h3
  unfold sroot
  rw [if_neg (sr1n h1), if_neg (by rintro (h | h); exact h h2'; exact h3' h)]
abbrev tup3 (x y z : Value) : Obj := { cls := .type "tuple", data := .seq #[x, y, z] }
theorem srO {b : Array UInt8} {x y : Array UInt8} {p q : List UInt8} {t1 t2 t3 : Tok} (e : sroot 47 b.toList = (p, q)) (hx : x = p.toArray) (hy : y = q.toArray) : ∃ t1' t2' t3', tup3 (.bytes #[] t1) (.bytes x t2) (.bytes y t3) = tup3 (.bytes #[] t1') (.bytes (sroot 47 b.toList).1.toArray t2') (.bytes (sroot 47 b.toList).2.toArray t3') := by
  subst hx hy
  rw [e]
  exact ⟨_, _, _, rfl⟩
section
local macro_rules | `(tactic| walk_at "subscriptTail") => `(tactic| (k_here; (with_reducible show wpAny _ _ (subscriptTail _ (Expr.Slice _ _ none _) (Value.bytes _ _) (Value.ref _)) _ _ _); (with_reducible rename Fr _ _ _ _ => F'); (with_reducible rename News _ _ _ _ => N'); (refine bslice (s := ⟨_, _, _, _, _⟩) F' N' (by constructor) (by constructor) (by assumption) ?_); intro _ _ _ _ _))
local macro_rules | `(tactic| walk_at "call ref") => `(tactic| (k_here; k_dflt (first
  | (refine' Tells.use (c_fspath_b _ _ _) ?k1 ?k2 ?k3 ?k4 ?k5 ?kK ?kd ?ku ?kP ?_; tb_start))))
local macro_rules | `(tactic| walk_at "dummy 0") => `(tactic| skip)
local macro_rules | `(tactic| walk_at "dummy 1") => `(tactic| skip)

set_option maxHeartbeats 8000000 in
theorem c_splitroot_b (w : World) (b : Array UInt8) (t : Tok) (hz : b.size ≤ 16777216) : TellsO w 122 3 noAsk [.bytes b t] (fun o => ∃ t1 t2 t3, o = tup3 (.bytes #[] t1) (.bytes (sroot 47 b.toList).1.toArray t2) (.bytes (sroot 47 b.toList).2.toArray t3)) := by
  w_on
  unfold TellsO
  k_fill
  intro mean mg mb dp un gd cn cs a ccd cl outer A₀ base h₀ L m news s Q E B F X N T hk hd hu hP hret

  refine wpAny_call ?_
  w_strict (k_dflt cell_enter; k_steps)
  all_goals (
    refine' endO hret ?f ?n ?m ?s ?l ?o
    case f => k_asm
    case n => k_asm
    case m => exact List.mem_cons_self
    case s => kcj_all
    case l => assumption
    case o => first
      | exact srO (sr1 (by assumption)) rfl rfl
      | exact srO (sr2 (by assumption) (by assumption)) rfl (pk_from b 1)
      | exact srO (sr3 (by assumption) (by assumption)) rfl (pk_from b 1)
      | exact srO (sr4 (by assumption) (by assumption) (by assumption)) (pk_to b 2) (pk_from b 2))
end

end Mine
end

section
open PySem PySem.W PyProof.Rows
namespace Mine
set_option maxRecDepth 100000
/-! the walk's lines of this text alone -/
local macro_rules | `(tactic| walk_at "call type:type") => `(tactic| ((with_reducible show wpAny _ _ (call _ [Value.bytes _ _]) _ _ _); refine call_type_of (Tx := "bytes") rfl (by decide +kernel) ?_))
local macro_rules | `(tactic| walk_at "call builtin:issubclass") => `(tactic| (k_here; k_dflt (first
  | (refine' issubclass_pair sub2_bs sub2_bb ?k1 ?_; (case k1 => exact News.get (by k_asm) (by k_mem)); k_whole)
  | (refine' issubclass_pair sub2_ss sub2_sb ?k1 ?_; (case k1 => exact News.get (by k_asm) (by k_mem)); k_whole))))
-- a call of a def whose contract is shown: «tb_rel» holds the contract
local macro_rules | `(tactic| tb_start) => `(tactic| (
  (case k1 => k_asm)
  (case k2 => k_asm)
  (case k3 => k_asm)
  (case k4 => k_asm)
  (case k5 => k_asm)
  (case kK => first | exact rfl | assumption)
  (case kd => ktr_room)
  (case ku => ktr_units)
  (case kP => first | exact True.intro | assumption | (repeat' (first | exact True.intro | k_mem | assumption | refine And.intro ?_ ?_)))
  intro t9 h9 tk9 F9 N9
  (try dsimp only)
  (try k_fold)))

theorem str_eq_iff (x : Str) (l : List Nat) : x = mkS l ↔ sl x = l := by
  constructor
  · rintro rfl; rfl
  · intro h; rw [← h]
theorem sne {x : Str} (h : (x != Str.ofString "/") = true) : sl x ≠ [47] := by
  have h' : x ≠ Str.ofString "/" := by simpa using h
  intro e
  exact h' (by rw [slash]; exact (str_eq_iff x _).mpr e)
theorem sne_n {x : Str} (h : (x != Str.ofString "/") = false) : sl x = [47] := by
  have h' : x = Str.ofString "/" := by simpa using h
  rw [h', slash]
theorem seq_y {x : Str} (h : (x == Str.ofString "/") = true) : sl x = [47] := by
  have h' : x = Str.ofString "/" := by simpa using h
  rw [h', slash]
theorem seq_n {x : Str} (h : (x == Str.ofString "/") = false) : sl x ≠ [47] := by
  have h' : x ≠ Str.ofString "/" := by simpa using h
  intro e
  exact h' (by rw [slash]; exact (str_eq_iff x _).mpr e)
theorem ss1 {b : Str} (h : (Txt.slice b none (some 1) != Str.ofString "/") = true) : sroot 47 (sl b) = ([], sl b) := by
  have h' := sne h
  rw [show sl (Txt.slice b none (some 1)) = (sl b).take 1 from sl_to b 1] at h'
  unfold sroot
  rw [if_pos h']
theorem ss1n {b : Str} (h : (Txt.slice b none (some 1) != Str.ofString "/") = false) : ¬ ((sl b).take 1 ≠ [47]) := by
  have h' := sne_n h
  rw [show sl (Txt.slice b none (some 1)) = (sl b).take 1 from sl_to b 1] at h'
  exact fun k => k h'
theorem ss2 {b : Str} (h1 : (Txt.slice b none (some 1) != Str.ofString "/") = false) (h : (Txt.slice b (some 1) (some 2) != Str.ofString "/") = true) : sroot 47 (sl b) = ([47], (sl b).drop 1) := by
  have h' := sne h
  rw [show sl (Txt.slice b (some 1) (some 2)) = ((sl b).drop 1).take 1 from sl_mid b 1 2] at h'
  unfold sroot
  rw [if_neg (ss1n h1), if_pos (.inl h')]
theorem ss3 {b : Str} (h1 : (Txt.slice b none (some 1) != Str.ofString "/") = false) (h : (Txt.slice b (some 2) (some 3) == Str.ofString "/") = true) : sroot 47 (sl b) = ([47], (sl b).drop 1) := by
  have h' := seq_y h
  rw [show sl (Txt.slice b (some 2) (some 3)) = ((sl b).drop 2).take 1 from sl_mid b 2 3] at h'
  unfold sroot
  rw [if_neg (ss1n h1), if_pos (.inr h')]
theorem ss4 {b : Str} (h1 : (Txt.slice b none (some 1) != Str.ofString "/") = false) (h2 : (Txt.slice b (some 1) (some 2) != Str.ofString "/") = false) (h3 : (Txt.slice b (some 2) (some 3) == Str.ofString "/") = false) : sroot 47 (sl b) = ((sl b).take 2, (sl b).drop 2) := by
  have h2' := sne_n h2
  have h3' := seq_n h3
  rw [show sl (Txt.slice b (some 1) (some 2)) = ((sl b).drop 1).take 1 from sl_mid b 1 2] at h2'
  rw [show sl (Txt.slice b (some 2) (some 3)) = ((sl b).drop 2).take 1 from sl_mid b 2 3] at h3'
  unfold sroot
  rw [if_neg (ss1n h1), if_neg (by rintro (h | h); exact h h2'; exact h3' h)]
theorem ssO {b : Str} {e0 x y : Str} {p q : List Nat} {t1 t2 t3 : Tok} (e : sroot 47 (sl b) = (p, q)) (h0 : e0 = mkS []) (hx : sl x = p) (hy : sl y = q) : ∃ t1' t2' t3', tup3 (.str e0 t1) (.str x t2) (.str y t3) = tup3 (.str (mkS []) t1') (.str (mkS (sroot 47 (sl b)).1) t2') (.str (mkS (sroot 47 (sl b)).2) t3') := by
  subst hx hy h0
  rw [e]
  exact ⟨_, _, _, rfl⟩
theorem nul : Str.ofString "" = mkS [] := by decide +kernel
section
local macro_rules | `(tactic| walk_at "call ref") => `(tactic| (k_here; k_dflt (first
  | (refine' Tells.use (c_fspath_s _ _ _) ?k1 ?k2 ?k3 ?k4 ?k5 ?kK ?kd ?ku ?kP ?_; tb_start))))
local macro_rules | `(tactic| walk_at "dummy 0") => `(tactic| skip)
local macro_rules | `(tactic| walk_at "dummy 1") => `(tactic| skip)
local macro_rules | `(tactic| walk_at "dummy 2") => `(tactic| skip)
local macro_rules | `(tactic| walk_at "dummy 3") => `(tactic| skip)

set_option maxHeartbeats 8000000 in
theorem c_splitroot_s (w : World) (b : Str) (t : Tok) (hz : b.length ≤ 65536) : TellsO w 122 3 noAsk [.str b t] (fun o => ∃ t1 t2 t3, o = tup3 (.str (mkS []) t1) (.str (mkS (sroot 47 (sl b)).1) t2) (.str (mkS (sroot 47 (sl b)).2) t3)) := by
  w_on
  unfold TellsO
  k_fill
  intro mean mg mb dp un gd cn cs a ccd cl outer A₀ base h₀ L m news s Q E B F X N T hk hd hu hP hret

  refine wpAny_call ?_
  w_strict (k_dflt cell_enter; k_steps)
  all_goals (
    refine' endO hret ?f ?n ?m ?s ?l ?o
    case f => k_asm
    case n => k_asm
    case m => exact List.mem_cons_self
    case s => kcj_all
    case l => assumption
    case o => first
      | exact ssO (ss1 (by assumption)) nul (by rw [nul]) rfl
      | exact ssO (ss2 (by assumption) (by assumption)) nul (by rw [slash]) (sl_from b 1)
      | exact ssO (ss3 (by assumption) (by assumption)) nul (by rw [slash]) (sl_from b 1)
      | exact ssO (ss4 (by assumption) (by assumption) (by assumption)) nul (sl_to b 2) (sl_from b 2))
end

end Mine
end

section
open PySem PySem.W PyProof.Rows
set_option maxRecDepth 100000
namespace Mine
section
variable {α : Type} [DecidableEq α] {d : α} {rt : Bool} {st : List (List α)} {x : List α}
theorem nstep_skip (h : x = [] ∨ x = [d]) : nstep d rt st x = st := by unfold nstep; rw [if_pos h]
theorem nstep_put (h0 : x ≠ []) (h1 : x ≠ [d]) (h : x ≠ [d, d] ∨ (rt = false ∧ st = []) ∨ (st ≠ [] ∧ st.getLast? = some [d, d])) : nstep d rt st x = st ++ [x] := by
  unfold nstep; rw [if_neg (fun k => k.elim h0 h1), if_pos h]
theorem nstep_pop (h0 : x ≠ []) (h1 : x ≠ [d]) (h : ¬ (x ≠ [d, d] ∨ (rt = false ∧ st = []) ∨ (st ≠ [] ∧ st.getLast? = some [d, d]))) : nstep d rt st x = st.dropLast := by
  unfold nstep; rw [if_neg (fun k => k.elim h0 h1), if_neg h]
end
theorem ne_isE {α : Type} {l : List α} (h : l.isEmpty = false) : l.length ≠ 0 := by
  cases l with
  | nil => exact nomatch h
  | cons a r => exact Nat.succ_ne_zero _
section
variable {vs us : List Value} {d : UInt8} {rt : Bool} {xs : List (List UInt8)} {i : Nat} {p q R : Array UInt8} {t : Tok} {st : List (List UInt8)}
theorem arr_ne {p : Array UInt8} (h0 : (p.size : Int) ≠ 0) : p.toList ≠ [] := by
  intro h; apply h0; rw [← Array.length_toList, h]; rfl
theorem arr_e {p : Array UInt8} (h0 : (p.size : Int) = 0) : p.toList = [] := by
  apply List.eq_nil_of_length_eq_zero; rw [Array.length_toList]; omega
theorem one_ne {l m : List UInt8} (h : (l == m) = false) : l ≠ m := by simpa using h
theorem one_ne' {l m : List UInt8} (h : (l != m) = true) : l ≠ m := by simpa using h
theorem one_e {l m : List UInt8} (h : (l == m) = true) : l = m := by simpa using h
theorem one_e' {l m : List UInt8} (h : (l != m) = false) : l = m := by simpa using h
theorem nb_e (hv : BsAre vs (nfold 46 rt (xs.take i))) (hb : xs[i]? = some p.toList) (h : (p.size : Int) = 0) : BsAre vs (nfold 46 rt (xs.take (i + 1))) := by
  rw [nfold_snoc _ _ _ _ _ hb, nstep_skip (.inl (arr_e h))]; exact hv
theorem nb_d (hv : BsAre vs (nfold 46 rt (xs.take i))) (hb : xs[i]? = some p.toList) (h : (p.toList == (#[46] : Array UInt8).toList) = true) : BsAre vs (nfold 46 rt (xs.take (i + 1))) := by
  rw [nfold_snoc _ _ _ _ _ hb, nstep_skip (.inr (one_e h))]; exact hv
theorem nb_a1 (hv : BsAre vs (nfold 46 rt (xs.take i))) (hb : xs[i]? = some p.toList) (h0 : (p.size : Int) ≠ 0) (h1 : (p.toList == (#[46] : Array UInt8).toList) = false) (h2 : (p.toList != (#[46, 46] : Array UInt8).toList) = true) :
    BsAre (vs ++ [.bytes p t]) (nfold 46 rt (xs.take (i + 1))) := by
  rw [nfold_snoc _ _ _ _ _ hb, nstep_put (arr_ne h0) (one_ne h1) (.inl (one_ne' h2))]; exact hv.append (.one _ _)
theorem nb_a2 {R : List UInt8} (hv : BsAre vs (nfold 46 (decide (R ≠ [])) (xs.take i))) (hb : xs[i]? = some p.toList) (h0 : (p.size : Int) ≠ 0) (h1 : (p.toList == (#[46] : Array UInt8).toList) = false) (h3 : (R.toArray.size : Int) = 0) (h4 : vs.isEmpty = true) :
    BsAre (vs ++ [.bytes p t]) (nfold 46 (decide (R ≠ [])) (xs.take (i + 1))) := by
  have e : nfold 46 (decide (R ≠ [])) (xs.take i) = [] := by
    have := hv.length
    rw [List.isEmpty_iff.mp h4] at this
    exact List.eq_nil_of_length_eq_zero this.symm
  rw [nfold_snoc _ _ _ _ _ hb, nstep_put (arr_ne h0) (one_ne h1) (.inr (.inl ⟨?_, e⟩))]
  · exact hv.append (.one _ _)
  · rw [List.size_toArray] at h3
    have : R = [] := List.eq_nil_of_length_eq_zero (by omega)
    simp [this]
theorem nb_ne (hv : BsAre vs st) (h : vs.isEmpty = false) : st ≠ [] := by
  have h1 := hv.length
  have h2 := ne_isE h
  intro e
  rw [e] at h1
  exact h2 h1
theorem nb_a3 (hv : BsAre vs (nfold 46 rt (xs.take i))) (hb : xs[i]? = some p.toList) (h0 : (p.size : Int) ≠ 0) (h1 : (p.toList == (#[46] : Array UInt8).toList) = false) (h4 : vs.isEmpty = false) (hq : (nfold 46 rt (xs.take i)).getLast? = some q.toList) (h5 : (q.toList == (#[46, 46] : Array UInt8).toList) = true) :
    BsAre (vs ++ [.bytes p t]) (nfold 46 rt (xs.take (i + 1))) := by
  rw [nfold_snoc _ _ _ _ _ hb, nstep_put (arr_ne h0) (one_ne h1) (.inr (.inr ⟨nb_ne hv h4, by rw [hq, one_e h5]⟩))]
  exact hv.append (.one _ _)
theorem nb_p (hv : BsAre vs (nfold 46 rt (xs.take i))) (hb : xs[i]? = some p.toList) (h0 : (p.size : Int) ≠ 0) (h1 : (p.toList == (#[46] : Array UInt8).toList) = false) (h2 : (p.toList != (#[46, 46] : Array UInt8).toList) = false) (h4 : vs.isEmpty = false) (hq : (nfold 46 rt (xs.take i)).getLast? = some q.toList) (h5 : (q.toList == (#[46, 46] : Array UInt8).toList) = false)
    (hu : BsAre us (nfold 46 rt (xs.take i)).dropLast) : BsAre us (nfold 46 rt (xs.take (i + 1))) := by
  rw [nfold_snoc _ _ _ _ _ hb, nstep_pop (arr_ne h0) (one_ne h1) ?_]
  · exact hu
  · rintro (h | ⟨_, h⟩ | ⟨_, h⟩)
    · exact h (one_e' h2)
    · exact nb_ne hv h4 h
    · rw [hq] at h; exact one_ne h5 (Option.some.inj h)
theorem nb_n {R : List UInt8} (hv : BsAre vs (nfold 46 (decide (R ≠ [])) (xs.take i))) (hb : xs[i]? = some p.toList) (h0 : (p.size : Int) ≠ 0) (h1 : (p.toList == (#[46] : Array UInt8).toList) = false) (h2 : (p.toList != (#[46, 46] : Array UInt8).toList) = false) (h3 : (R.toArray.size : Int) ≠ 0) (h4 : vs.isEmpty = true) :
    BsAre vs (nfold 46 (decide (R ≠ [])) (xs.take (i + 1))) := by
  have e : nfold 46 (decide (R ≠ [])) (xs.take i) = [] := by
    have := hv.length
    rw [List.isEmpty_iff.mp h4] at this
    exact List.eq_nil_of_length_eq_zero this.symm
  rw [nfold_snoc _ _ _ _ _ hb, nstep_pop (arr_ne h0) (one_ne h1) ?_]
  · rw [e] at hv ⊢; exact hv
  · rintro (h | ⟨h, _⟩ | ⟨h, _⟩)
    · exact h (one_e' h2)
    · have : R = [] := by simpa using h
      subst this; exact h3 rfl
    · exact h e
/-- what normpath gives back -/
theorem pn_empty {b : Array UInt8} (h : (b.size : Int) = 0) : (Value.bytes #[46] t) = .bytes (pnorm 47 46 b.toList).toArray t := by
  unfold pnorm; rw [if_pos (arr_e h)]
theorem pn_some {b : Array UInt8} (h : (b.size : Int) ≠ 0) (h2 : (((sroot 47 b.toList).1.toArray ++ (joinL 47 (nfold 46 (decide ((sroot 47 b.toList).1 ≠ [])) (splitL 47 (sroot 47 b.toList).2))).toArray).size : Int) ≠ 0) :
    (Value.bytes ((sroot 47 b.toList).1.toArray ++ (joinL 47 (nfold 46 (decide ((sroot 47 b.toList).1 ≠ [])) (splitL 47 (sroot 47 b.toList).2))).toArray) t) = .bytes (pnorm 47 46 b.toList).toArray t := by
  unfold pnorm
  rw [if_neg (arr_ne h)]
  dsimp only
  rw [if_neg]
  · simp
  · intro e; apply h2
    rw [List.append_toArray, e]; rfl
theorem pn_dot {b : Array UInt8} (h : (b.size : Int) ≠ 0) (h2 : (((sroot 47 b.toList).1.toArray ++ (joinL 47 (nfold 46 (decide ((sroot 47 b.toList).1 ≠ [])) (splitL 47 (sroot 47 b.toList).2))).toArray).size : Int) = 0) :
    (Value.bytes #[46] t) = .bytes (pnorm 47 46 b.toList).toArray t := by
  unfold pnorm
  rw [if_neg (arr_ne h)]
  dsimp only
  rw [if_pos]
  rw [List.append_toArray, List.size_toArray] at h2
  exact List.eq_nil_of_length_eq_zero (by omega)
end
theorem tot_sum {α : Type} (bs : List (List α)) : tot bs = bs.length + (bs.map List.length).sum := by
  induction bs with
  | nil => rfl
  | cons b r ih => simp only [tot, ih, List.length_cons, List.map_cons, List.sum_cons]; omega
theorem afit {l : List UInt8} {rt : Bool} (h4 : (sroot 47 l).1.toArray.size + (sroot 47 l).2.toArray.size ≤ 65536) (h3 : (sroot 47 l).2.toArray.size ≤ 65536) :
    (sroot 47 l).1.toArray.size + (joinL 47 (nfold 46 rt (splitL 47 (sroot 47 l).2))).toArray.size ≤ 16777216 := by
  have h1 := nfold_tot (46 : UInt8) rt (splitL 47 (sroot 47 l).2) []
  rw [tot_split] at h1
  have h2 := tot_sum (nfold 46 rt (splitL 47 (sroot 47 l).2))
  have h5 := joinL_len 47 (nfold 46 rt (splitL 47 (sroot 47 l).2))
  simp only [List.size_toArray] at *
  unfold nfold at *
  simp only [tot] at h1
  omega
theorem afit2 {l : List UInt8} {rt : Bool} (h4 : (sroot 47 l).1.toArray.size + (sroot 47 l).2.toArray.size ≤ 65536) (h3 : (sroot 47 l).2.toArray.size ≤ 65536) :
    (sroot 47 l).1.toArray.size + (joinL 47 (nfold 46 rt (splitL 47 (sroot 47 l).2))).toArray.size ≤ 1099511627776 := Nat.le_trans (afit h4 h3) (by decide)
theorem jfit {l : List UInt8} {rt : Bool} {vs : List Value} (h4 : (sroot 47 l).1.toArray.size + (sroot 47 l).2.toArray.size ≤ 65536) (h3 : (sroot 47 l).2.toArray.size ≤ 65536) (_ : BsAre vs (nfold 46 rt (splitL 47 (sroot 47 l).2))) :
    ((nfold 46 rt (splitL 47 (sroot 47 l).2)).length - 1) + ((nfold 46 rt (splitL 47 (sroot 47 l).2)).map List.length).sum ≤ sizeLine := by
  rw [sizeLine_eq]
  have h1 := nfold_tot (46 : UInt8) rt (splitL 47 (sroot 47 l).2) []
  rw [tot_split] at h1
  have h2 := tot_sum (nfold 46 rt (splitL 47 (sroot 47 l).2))
  rw [List.size_toArray] at h3
  unfold nfold at *
  simp only [tot] at h1
  omega
theorem bs_zero {rt : Bool} {xs : List (List UInt8)} : BsAre [] (nfold 46 rt (xs.take 0)) := .nil
theorem joinL_lenN {α : Type} (c : α) : ∀ bs : List (List α), (joinL c bs).length = (bs.length - 1) + (bs.map List.length).sum
  | [] => rfl
  | [p] => by simp [joinL]
  | p :: q :: r => by
    have ih := joinL_lenN c (q :: r)
    show (p ++ c :: joinL c (q :: r)).length = _
    rw [List.length_append, List.length_cons, ih]
    simp only [List.length_cons, List.map_cons, List.sum_cons]
    omega
end Mine
end

section
open PySem PySem.W PyProof.Rows PySem.Calls
set_option maxRecDepth 100000
namespace Mine
theorem dot1 : Str.ofString "." = mkS [46] := by decide +kernel
theorem dot2 : Str.ofString ".." = mkS [46, 46] := by decide +kernel
theorem nul0 : Str.ofString "" = mkS [] := by decide +kernel
theorem str_inj {x y : Str} (h : sl x = sl y) : x = y := by
  rw [← mkS_sl x, ← mkS_sl y, h]
theorem map_sl (ys : List Str) : (ys.map sl).map mkS = ys := by
  rw [List.map_map]
  conv => rhs; rw [← List.map_id ys]
  rfl
theorem map_mkS (ps : List (List Nat)) : (ps.map mkS).map sl = ps := by
  rw [List.map_map]
  conv => rhs; rw [← List.map_id ps]
  rfl
theorem sjoin_eq (c : Nat) : ∀ ys : List Str, sl (Str.join (mkS [c]) ys) = joinL c (ys.map sl)
  | [] => rfl
  | [x] => rfl
  | x :: y :: r => by
    have ih := sjoin_eq c (y :: r)
    show sl (x ++ mkS [c] ++ Str.join (mkS [c]) (y :: r)) = sl x ++ c :: joinL c ((y :: r).map sl)
    rw [sl_app, sl_app, ih]
    show (sl x ++ [c]) ++ _ = _
    rw [List.append_assoc]; rfl
theorem sjoin_e : ∀ ys : List Str, sl (Str.join (mkS []) ys) = (ys.map sl).flatten
  | [] => rfl
  | [x] => by show sl x = _; simp
  | x :: y :: r => by
    have ih := sjoin_e (y :: r)
    show sl (x ++ mkS [] ++ Str.join (mkS []) (y :: r)) = _
    rw [sl_app, sl_app, ih]
    show (sl x ++ []) ++ _ = _
    simp
theorem split_ne (x y : Str) : Txt.split x y ≠ [] := by
  intro h
  have h2 := StrLaws.join_split x y
  unfold Txt.split at h
  split at h
  · exact nomatch h
  · split at h
    · exact nomatch h
    · rename_i h1 h3
      rw [StrLaws.partsBetween_eq] at h
      generalize Builtin.Str.occurrences x y 0 x.length (x.length + 1) = os at h
      cases os <;> simp [StrLaws.partsFrom] at h
theorem tsplit (x : Str) : Txt.split x (Str.ofString "/") = (splitL 47 (sl x)).map mkS := by
  rw [slash]
  have h1 := StrLaws.join_split x (mkS [47])
  have h2 : ∀ p ∈ (Txt.split x (mkS [47])).map sl, 47 ∉ p := by
    intro p hp
    obtain ⟨q, hq, rfl⟩ := List.mem_map.mp hp
    exact StrLaws.split_free x 47 q hq
  have h3 : (Txt.split x (mkS [47])).map sl ≠ [] := by
    intro h; exact split_ne x _ (List.map_eq_nil_iff.mp h)
  have h4 := splitL_join h3 h2
  rw [← sjoin_eq, h1] at h4
  rw [h4, map_sl]
theorem txj (x : Str) (ys : List Str) : Txt.join x ys = Str.join x ys := by
  have := join_closes (ys := ys) (rfl : x = x)
  simpa using this
theorem tjoin (ys : List Str) : Txt.join (Str.ofString "/") ys = mkS (joinL 47 (ys.map sl)) := by
  rw [slash, ← sjoin_eq, txj]
theorem tjoin_e (ys : List Str) : Txt.join (Str.ofString "") ys = mkS (ys.map sl).flatten := by
  rw [nul0, ← sjoin_e, txj]
section
variable {vs us : List Value} {rt : Bool} {xs : List (List Nat)} {i : Nat} {p q : Str} {t : Tok}
theorem s_ne {p : Str} (h0 : (p.length : Int) ≠ 0) : sl p ≠ [] := by
  intro h; apply h0; rw [← sl_len, h]; rfl
theorem s_e {p : Str} (h0 : (p.length : Int) = 0) : sl p = [] := by
  apply List.eq_nil_of_length_eq_zero; rw [sl_len]; omega
theorem q_ne {x y : Str} (h : (x == y) = false) : sl x ≠ sl y := fun e => by
  rw [str_inj e] at h; simp at h
theorem q_ne' {x y : Str} (h : (x != y) = true) : sl x ≠ sl y := fun e => by
  rw [str_inj e] at h; simp at h
theorem q_e {x y : Str} (h : (x == y) = true) : sl x = sl y := by
  rw [show x = y by simpa using h]
theorem q_e' {x y : Str} (h : (x != y) = false) : sl x = sl y := by
  rw [show x = y by simpa using h]
theorem sd1 : sl (Str.ofString ".") = [46] := by rw [dot1]
theorem sd2 : sl (Str.ofString "..") = [46, 46] := by rw [dot2]
theorem ns_e (hv : StrsAre vs ((nfold 46 rt (xs.take i)).map mkS)) (hb : xs[i]? = some (sl p)) (h : (p.length : Int) = 0) : StrsAre vs ((nfold 46 rt (xs.take (i + 1))).map mkS) := by
  rw [nfold_snoc _ _ _ _ _ hb, nstep_skip (.inl (s_e h))]; exact hv
theorem ns_d (hv : StrsAre vs ((nfold 46 rt (xs.take i)).map mkS)) (hb : xs[i]? = some (sl p)) (h : (p == Str.ofString ".") = true) : StrsAre vs ((nfold 46 rt (xs.take (i + 1))).map mkS) := by
  rw [nfold_snoc _ _ _ _ _ hb, nstep_skip (.inr ((q_e h).trans sd1))]; exact hv
theorem s_put {st : List (List Nat)} (hv : StrsAre vs (st.map mkS)) : StrsAre (vs ++ [.str p t]) ((st ++ [sl p]).map mkS) := by
  rw [List.map_append]; exact StrsAre_append hv (.cons _ _ .nil)
theorem ns_a1 (hv : StrsAre vs ((nfold 46 rt (xs.take i)).map mkS)) (hb : xs[i]? = some (sl p)) (h0 : (p.length : Int) ≠ 0) (h1 : (p == Str.ofString ".") = false) (h2 : (p != Str.ofString "..") = true) :
    StrsAre (vs ++ [.str p t]) ((nfold 46 rt (xs.take (i + 1))).map mkS) := by
  rw [nfold_snoc _ _ _ _ _ hb, nstep_put (s_ne h0) (fun e => q_ne h1 (e.trans sd1.symm)) (.inl fun e => q_ne' h2 (e.trans sd2.symm))]; exact s_put hv
theorem ns_nil {R : Bool} (hv : StrsAre vs ((nfold 46 R (xs.take i)).map mkS)) (h4 : vs.isEmpty = true) : nfold 46 R (xs.take i) = [] := by
  have := StrsAre_len hv
  rw [List.isEmpty_iff.mp h4, List.length_map] at this
  exact List.eq_nil_of_length_eq_zero this.symm
theorem ns_ne {st : List (List Nat)} (hv : StrsAre vs (st.map mkS)) (h : vs.isEmpty = false) : st ≠ [] := by
  have h1 := StrsAre_len hv
  have h2 := ne_isE h
  intro e
  rw [e] at h1
  exact h2 h1
theorem ns_a2 {R : List Nat} (hv : StrsAre vs ((nfold 46 (decide (R ≠ [])) (xs.take i)).map mkS)) (hb : xs[i]? = some (sl p)) (h0 : (p.length : Int) ≠ 0) (h1 : (p == Str.ofString ".") = false) (h3 : ((mkS R).length : Int) = 0) (h4 : vs.isEmpty = true) :
    StrsAre (vs ++ [.str p t]) ((nfold 46 (decide (R ≠ [])) (xs.take (i + 1))).map mkS) := by
  rw [nfold_snoc _ _ _ _ _ hb, nstep_put (s_ne h0) (fun e => q_ne h1 (e.trans sd1.symm)) (.inr (.inl ⟨?_, ns_nil hv h4⟩))]
  · exact s_put hv
  · have : R = [] := s_e h3
    simp [this]
theorem ns_last {st : List (List Nat)} (hq : (st.map mkS).getLast? = some q) : st.getLast? = some (sl q) := by
  rw [List.getLast?_map] at hq
  cases h : st.getLast? with
  | none => rw [h] at hq; exact nomatch hq
  | some y => rw [h] at hq; rw [← Option.some.inj hq]
theorem ns_a3 (hv : StrsAre vs ((nfold 46 rt (xs.take i)).map mkS)) (hb : xs[i]? = some (sl p)) (h0 : (p.length : Int) ≠ 0) (h1 : (p == Str.ofString ".") = false) (h4 : vs.isEmpty = false) (hq : ((nfold 46 rt (xs.take i)).map mkS).getLast? = some q) (h5 : (q == Str.ofString "..") = true) :
    StrsAre (vs ++ [.str p t]) ((nfold 46 rt (xs.take (i + 1))).map mkS) := by
  rw [nfold_snoc _ _ _ _ _ hb, nstep_put (s_ne h0) (fun e => q_ne h1 (e.trans sd1.symm)) (.inr (.inr ⟨ns_ne hv h4, by rw [ns_last hq, q_e h5, sd2]⟩))]
  exact s_put hv
theorem ns_p (hv : StrsAre vs ((nfold 46 rt (xs.take i)).map mkS)) (hb : xs[i]? = some (sl p)) (h0 : (p.length : Int) ≠ 0) (h1 : (p == Str.ofString ".") = false) (h2 : (p != Str.ofString "..") = false) (h4 : vs.isEmpty = false) (hq : ((nfold 46 rt (xs.take i)).map mkS).getLast? = some q) (h5 : (q == Str.ofString "..") = false)
    (hu : StrsAre us ((nfold 46 rt (xs.take i)).map mkS).dropLast) : StrsAre us ((nfold 46 rt (xs.take (i + 1))).map mkS) := by
  rw [nfold_snoc _ _ _ _ _ hb, nstep_pop (s_ne h0) (fun e => q_ne h1 (e.trans sd1.symm)) ?_]
  · rw [List.map_dropLast]; exact hu
  · rintro (h | ⟨_, h⟩ | ⟨_, h⟩)
    · exact h ((q_e' h2).trans sd2)
    · exact ns_ne hv h4 h
    · rw [ns_last hq] at h; exact q_ne h5 ((Option.some.inj h).trans sd2.symm)
theorem ns_n {R : List Nat} (hv : StrsAre vs ((nfold 46 (decide (R ≠ [])) (xs.take i)).map mkS)) (hb : xs[i]? = some (sl p)) (h0 : (p.length : Int) ≠ 0) (h1 : (p == Str.ofString ".") = false) (h2 : (p != Str.ofString "..") = false) (h3 : ((mkS R).length : Int) ≠ 0) (h4 : vs.isEmpty = true) :
    StrsAre vs ((nfold 46 (decide (R ≠ [])) (xs.take (i + 1))).map mkS) := by
  have e := ns_nil hv h4
  rw [nfold_snoc _ _ _ _ _ hb, nstep_pop (s_ne h0) (fun e => q_ne h1 (e.trans sd1.symm)) ?_]
  · rw [e] at hv ⊢; exact hv
  · rintro (h | ⟨h, _⟩ | ⟨h, _⟩)
    · exact h ((q_e' h2).trans sd2)
    · have : R = [] := by simpa using h
      subst this; exact h3 rfl
    · exact h e
theorem ss_zero : StrsAre [] ((nfold 46 rt (xs.take 0)).map mkS) := .nil
theorem sn_empty {b : Str} (h : (b.length : Int) = 0) : (Value.str (Str.ofString ".") t) = .str (mkS (pnorm 47 46 (sl b))) t := by
  unfold pnorm; rw [if_pos (s_e h), dot1]
theorem app_mkS (l r : List Nat) : mkS l ++ mkS r = mkS (l ++ r) := str_inj (by rw [sl_app])
theorem sn_some {b : Str} (h : (b.length : Int) ≠ 0) (h2 : ((mkS (sroot 47 (sl b)).1 ++ mkS (joinL 47 (nfold 46 (decide ((sroot 47 (sl b)).1 ≠ [])) (splitL 47 (sroot 47 (sl b)).2)))).length : Int) ≠ 0) :
    (Value.str (mkS (sroot 47 (sl b)).1 ++ mkS (joinL 47 (nfold 46 (decide ((sroot 47 (sl b)).1 ≠ [])) (splitL 47 (sroot 47 (sl b)).2)))) t) = .str (mkS (pnorm 47 46 (sl b))) t := by
  unfold pnorm
  rw [if_neg (s_ne h)]
  dsimp only
  rw [app_mkS] at h2 ⊢
  rw [if_neg (s_ne h2)]
theorem sn_dot {b : Str} (h : (b.length : Int) ≠ 0) (h2 : ((mkS (sroot 47 (sl b)).1 ++ mkS (joinL 47 (nfold 46 (decide ((sroot 47 (sl b)).1 ≠ [])) (splitL 47 (sroot 47 (sl b)).2)))).length : Int) = 0) :
    (Value.str (Str.ofString ".") t) = .str (mkS (pnorm 47 46 (sl b))) t := by
  unfold pnorm
  rw [if_neg (s_ne h)]
  dsimp only
  rw [app_mkS] at h2
  rw [if_pos (s_e h2), dot1]
theorem afitS {l : List Nat} (h4 : (mkS (sroot 47 l).1).length + (mkS (sroot 47 l).2).length ≤ 65536) :
    (mkS (sroot 47 l).1).length + (mkS (joinL 47 (nfold 46 rt (splitL 47 (sroot 47 l).2)))).length ≤ 16777216 := by
  have h1 := nfold_tot (46 : Nat) rt (splitL 47 (sroot 47 l).2) []
  rw [tot_split] at h1
  have h2 := tot_sum (nfold 46 rt (splitL 47 (sroot 47 l).2))
  have h5 := joinL_lenN 47 (nfold 46 rt (splitL 47 (sroot 47 l).2))
  simp only [← sl_len, sl_mkS] at *
  unfold nfold at *
  simp only [tot] at h1
  omega
theorem afit2S {l : List Nat} (h4 : (mkS (sroot 47 l).1).length + (mkS (sroot 47 l).2).length ≤ 65536) :
    (mkS (sroot 47 l).1).length + (mkS (joinL 47 (nfold 46 rt (splitL 47 (sroot 47 l).2)))).length ≤ 1099511627776 := Nat.le_trans (afitS h4) (by decide)
theorem jfitS {l : List Nat} (h4 : (mkS (sroot 47 l).1).length + (mkS (sroot 47 l).2).length ≤ 65536) :
    ((((nfold 46 rt (splitL 47 (sroot 47 l).2)).map mkS).map (·.length)).sum + ((nfold 46 rt (splitL 47 (sroot 47 l).2)).map mkS).length ≤ 1048576) := by
  have h1 := nfold_tot (46 : Nat) rt (splitL 47 (sroot 47 l).2) []
  rw [tot_split] at h1
  have h2 := tot_sum (nfold 46 rt (splitL 47 (sroot 47 l).2))
  have e : ((nfold 46 rt (splitL 47 (sroot 47 l).2)).map mkS).map (·.length) = (nfold 46 rt (splitL 47 (sroot 47 l).2)).map List.length := by
    rw [List.map_map]; rfl
  rw [e, List.length_map]
  simp only [← sl_len, sl_mkS] at *
  unfold nfold at *
  simp only [tot] at h1
  omega
end
end Mine
namespace Mine
section
variable {prog : Program} {w : World} {A : Around} {E : Value → Shared → Prop} {s : Shared} {h₀ : Heap} {L : Addr} {m : Str → Option Value} {news : List (Addr × Obj)} {x : Str} {t u : Tok} {Q : Value → Shared → Prop}
theorem ssplit (F : Fr h₀ L s.heap m) (N : News h₀ L s.heap news) (hsz : x.length + 2 ≤ sizeLine)
    (h : ∀ D vs h' k, StrsAre vs ((splitL 47 (sl x)).map mkS) → Fr h₀ L h' m → News h₀ L h' ((D, listOf vs.toArray 0) :: news) → (∀ p ∈ news, p.1 < D) → Q (.ref D) { s with heap := h', toks := k }) :
    wpAny (model prog w) A (call (.builtin "str.split") [.str x t, .str (Str.ofString "/") u]) Q E s :=
  KSpl.split1 F N (by decide) (fun D l h' k e a F' N' l1 => h D _ h' k (by rw [e, tsplit] at a; exact a) F' N' l1) hsz
theorem sjoinR {vs : List Value} {ps : List (List Nat)} {a : Addr} {n : Nat} (hv : StrsAre vs (ps.map mkS)) (ha : s.heap.get? a = some (listOf vs.toArray n)) (hw : ((ps.map mkS).map (·.length)).sum + (ps.map mkS).length ≤ 1048576)
    (h : ∀ t' k, Q (.str (mkS (joinL 47 ps)) t') { s with toks := k }) : wpAny (model prog w) A (call (.builtin "str.join") [.str (Str.ofString "/") t, .ref a]) Q E s := by
  refine join_listW ⟨_, ha, rfl, n, rfl⟩ hv (by decide) hw fun t' k => ?_
  rw [tjoin, map_mkS]; exact h t' k
end
theorem at_map {ps : List (List Nat)} {i : Nat} {y : Str} (h : (ps.map mkS)[i]? = some y) : ps[i]? = some (sl y) := by
  rw [List.getElem?_map] at h
  cases e : ps[i]? with
  | none => rw [e] at h; exact nomatch h
  | some p => rw [e] at h; rw [← Option.some.inj h]
theorem mlen (l : List Nat) : (mkS l).length = l.length := (sl_len (mkS l)).symm
end Mine
end

section
open PySem PySem.W PyProof.Rows PySem.Calls
set_option maxRecDepth 100000
namespace Mine
section
variable {prog : Program} {w : World} {A : Around} {E : Value → Shared → Prop} {s : Shared} {h₀ : Heap} {L D : Addr} {m : Str → Option Value} {news : List (Addr × Obj)} {n : Nat} {value slice : PySem.Expr} {vs us : List Value} {Q : Value → Shared → Prop} {k : Int}
theorem llen (N : News h₀ L s.heap news) (hm : (D, listOf vs.toArray n) ∈ news) (hz : vs.length ≤ 16777216) (h : ∀ t' tk, Q (.int vs.length t') { s with toks := tk }) : wpAny (model prog w) A (call (.builtin "len") [.ref D]) Q E s :=
  len_list (N.isList hm) (by rw [List.size_toArray]; omega) (by rw [List.size_toArray]; exact h _ _)
theorem pick_from (h0 : 0 ≤ k) : (slicePick vs.toArray (some k) none none).toList = vs.drop k.toNat := by
  have e : sliceBounds (some k) none none vs.toArray.size = (((min k.toNat vs.toArray.size : Nat) : Int), ((vs.toArray.size : Nat) : Int), 1) := by
    simp only [sliceBounds, Option.getD_none, show (1 : Int) > 0 by decide, if_true, if_neg (show ¬ (k < 0) by omega)]
    congr 1
    omega
  rw [kmk_pick_nat _ e, List.size_toArray]
  show (vs.drop (min k.toNat vs.length)).take (vs.length - min k.toNat vs.length) = _
  rw [kmk_drop_min, List.take_of_length_le (by rw [List.length_drop]; omega)]
theorem pick_upto (h0 : 0 ≤ k) : (slicePick vs.toArray none (some k) none).toList = vs.take k.toNat := by
  have e : sliceBounds none (some k) none vs.toArray.size = (((0 : Nat) : Int), ((min k.toNat vs.toArray.size : Nat) : Int), 1) := by
    simp only [sliceBounds, Option.getD_none, show (1 : Int) > 0 by decide, if_true, if_neg (show ¬ (k < 0) by omega)]
    congr 1
    congr 1
    omega
  rw [kmk_pick_nat _ e, List.size_toArray]
  show (vs.drop 0).take (min k.toNat vs.length - 0) = _
  rw [List.drop_zero, Nat.sub_zero, kmk_take_min]
theorem pick_but_last : (slicePick vs.toArray none (some (-1)) none).toList = vs.dropLast := by
  have e : sliceBounds none (some (-1)) none vs.toArray.size = (((0 : Nat) : Int), ((vs.toArray.size - 1 : Nat) : Int), 1) := by
    simp only [sliceBounds, Option.getD_none, show (1 : Int) > 0 by decide, if_true, if_pos (show (-1 : Int) < 0 by decide)]
    congr 1
    congr 1
    omega
  rw [kmk_pick_nat _ e, List.size_toArray]
  show (vs.drop 0).take (vs.length - 1 - 0) = _
  rw [List.drop_zero, Nat.sub_zero, List.dropLast_eq_take]
section
variable {l u : Value}
theorem lslice {lo hi : Option Int} {zs : List Value} (F : Fr h₀ L s.heap m) (N : News h₀ L s.heap news) (hm : (D, listOf vs.toArray n) ∈ news) (pl : IsPart l lo) (pu : IsPart u hi) (hz : vs.length ≤ 16777216) (e : (slicePick vs.toArray lo hi none).toList = zs)
    (h : ∀ D' h', Fr h₀ L h' m → News h₀ L h' ((D', listOf zs.toArray 0) :: news) → (∀ p ∈ news, p.1 < D') → Q (.ref D') { s with heap := h' })
    (hs : subscripted slice false (.ref D) (.ref s.heap.objs.size) = operate [.ref s.heap.objs.size, .ref D] (getItem (.ref D) (.ref s.heap.objs.size)) := by with_unfolding_all rfl) (ht : ∀ r, letTemporaryGo value (.ref D) r = pure () := by intro _; with_unfolding_all rfl) :
    wpAny (model prog w) A (subscriptTail value slice (.ref D) (.ref s.heap.objs.size)) Q E { s with heap := s.heap.push { cls := .type "slice", data := .fields #[l, u, .none] } } :=
  kmk_slice_lit F N (N.isList hm) pl pu e h hs ht (by rw [List.size_toArray, sizeLine_eq]; exact hz)
theorem lrev {vk : Value} {ops : List Value} (F : Fr h₀ L s.heap m) (N : News h₀ L s.heap news) (hm : (D, listOf vs.toArray n) ∈ news) (pk : IsPart vk (some (-1))) (hz : vs.length ≤ 16777216)
    (h : ∀ D' h', Fr h₀ L h' m → News h₀ L h' ((D', listOf vs.reverse.toArray 0) :: news) → (∀ p ∈ news, p.1 < D') → Q (.ref D') { s with heap := h' })
    (hs : subscripted slice false (.ref D) (.ref s.heap.objs.size) = operate ops (getItem (.ref D) (.ref s.heap.objs.size)) := by with_unfolding_all rfl) (ht : ∀ r, letTemporaryGo value (.ref D) r = pure () := by intro _; with_unfolding_all rfl) :
    wpAny (model prog w) A (subscriptTail value slice (.ref D) (.ref s.heap.objs.size)) Q E { s with heap := s.heap.push { cls := .type "slice", data := .fields #[.none, .none, vk] } } :=
  krv_lit F N (N.isList hm) pk rfl h hs ht (by rw [List.size_toArray, sizeLine_eq]; exact hz)
end
theorem ladd {D2 : Addr} {n2 : Nat} (F : Fr h₀ L s.heap m) (N : News h₀ L s.heap news) (h1 : (D, listOf vs.toArray n) ∈ news) (h2 : (D2, listOf us.toArray n2) ∈ news) (hz : vs.length + us.length ≤ 16777216)
    (h : ∀ D' h', Fr h₀ L h' m → News h₀ L h' ((D', listOf (vs ++ us).toArray 0) :: news) → (∀ p ∈ news, p.1 < D') → Q (.ref D') { s with heap := h' }) : wpAny (model prog w) A (binaryOp .Add (.ref D) (.ref D2)) Q E s :=
  kmk_add_lit F N (N.isList h1) (N.isList h2) rfl h (by rw [sizeLine_eq]; exact hz)
theorem lmax {ns : List Int} (hh : A.handled = none) (F : Fr h₀ L s.heap m) (N : News h₀ L s.heap news) (h1 : (D, listOf vs.toArray n) ∈ news) (hi : IntsAre vs ns) (hne : 0 < ns.length)
    (h : ∀ h' M (t : Tok) tk, Fr h₀ L h' m → News h₀ L h' news → M ∈ ns → (∀ a, a ∈ ns → a ≤ M) → Q (.int M t) { s with heap := h', toks := tk }) : wpAny (model prog w) A (call (.builtin "max") [.ref D]) Q E s :=
  kso_max F N (N.isList h1) hi hne hh h
end
section
variable {prog : Program} {w : World} {A : Around} {E : Value → Shared → Prop} {s : Shared} {h₀ : Heap} {L : Addr} {env : Env} {Q : Flow → Shared → Prop}
def OneOf (base : List (Addr × Obj)) (J : Nat → (Str → Option Value) → Addr → Obj → Prop) (n : Nat) (m₁ : Str → Option Value) (news₁ : List (Addr × Obj)) : Prop := ∃ d o, news₁ = (d, o) :: base ∧ J n m₁ d o
/-- a while whose state is one object, named anew at each turn -/
theorem While_one {test : PySem.Expr} {body : List Stmt} {pos : Pos} {m : Str → Option Value} {base : List (Addr × Obj)} {d : Addr} {o : Obj} (J : Nat → (Str → Option Value) → Addr → Obj → Prop) {n₀ : Nat}
    (F : Fr h₀ L s.heap m) (N : News h₀ L s.heap base) (hd : (d, o) ∈ base) (hJ : J n₀ m d o)
    (turn : ∀ n m₁ d₁ o₁ h₁ tk₁, Fr h₀ L h₁ m₁ → News h₀ L h₁ ((d₁, o₁) :: base) → J n m₁ d₁ o₁ →
      wpAny (model prog w) A (isTrue test env (eval test env)) (fun b s₂ =>
        if b = true then wpAny (model prog w) A (execs body env) (WhileStep2 h₀ L s (OneOf base J) Q n) E s₂ else Q .next s₂) E { s with heap := h₁, toks := tk₁ })
    (hE : PassesOwn (model prog w) A env E := by passes_own) :
    wpAny (model prog w) A (exec (.While test body [] pos) env) Q E s :=
  While_inv2 (OneOf base J) F (fun p hp => (List.mem_cons.mp hp).elim (fun e => e ▸ N _ hd) (N p)) ⟨d, o, rfl, hJ⟩ (fun n m₁ news₁ h₁ tk₁ F₁ N₁ ⟨d₁, o₁, e, hj⟩ => by subst e; exact turn n m₁ d₁ o₁ h₁ tk₁ F₁ N₁ hj) hE
theorem W1 {h' : Heap} {base : List (Addr × Obj)} {J : Nat → (Str → Option Value) → Addr → Obj → Prop} {n n' tk : Nat} {m₂ : Str → Option Value} {d : Addr} {o : Obj}
    (F : Fr h₀ L h' m₂) (N : News h₀ L h' ((d, o) :: base)) (hn : n' < n) (hj : J n' m₂ d o) : WhileStep2 h₀ L s (OneOf base J) Q n .next { s with heap := h', toks := tk } := ⟨h', tk, m₂, _, n', rfl, F, N, hn, d, o, rfl, hj⟩
end
section
variable {prog : Program} {w : World} {A : Around} {E : Value → Shared → Prop} {s : Shared} {t : Tok} {Q : Value → Shared → Prop}
theorem sjoinE {vs : List Value} {ps : List (List Nat)} {a : Addr} {n : Nat} (hv : StrsAre vs (ps.map mkS)) (ha : s.heap.get? a = some (listOf vs.toArray n)) (hw : ((ps.map mkS).map (·.length)).sum + (ps.map mkS).length ≤ 1048576)
    (h : ∀ t' k, Q (.str (mkS ps.flatten) t') { s with toks := k }) : wpAny (model prog w) A (call (.builtin "str.join") [.str (Str.ofString "") t, .ref a]) Q E s := by
  refine join_listW ⟨_, ha, rfl, n, rfl⟩ hv (by decide) hw fun t' k => ?_
  rw [tjoin_e, map_mkS]; exact h t' k
end
end Mine
end

section
open PySem PySem.W PyProof.Rows PySem.Calls
set_option maxRecDepth 100000
namespace Mine
section
variable {prog : Program} {w : World} {A : Around} {E : Value → Shared → Prop} {s : Shared} {env : Env} {h₀ : Heap} {x : Str} {body : List Stmt} {Q : Flow → Shared → Prop}
/-- a turn's end: one object, it may be a new one; all else as it stood -/
def InvEnd2 (h₀ : Heap) (L : Addr) (J : (Str → Option Value) → Addr → Obj → Prop) (need : List (Addr × Obj)) (s₁ s₂ : Shared) : Prop :=
  ∃ h' tk m' d' o' news', s₂ = { s₁ with heap := h', toks := tk } ∧ Fr h₀ L h' m' ∧ News h₀ L h' news' ∧ (d', o') ∈ news' ∧ (∀ p ∈ need, p ∈ news') ∧ (∀ p ∈ need, p.1 ≠ d') ∧ J m' d' o'
def InvPost2 (h₀ : Heap) (L : Addr) (J : (Str → Option Value) → Addr → Obj → Prop) (need : List (Addr × Obj)) (s₁ : Shared) (Q : Flow → Shared → Prop) (f : Flow) (s₂ : Shared) : Prop :=
  match f with
  | .ret v => Q (.ret v) s₂
  | .brk => Q .next s₂
  | _ => InvEnd2 h₀ L J need s₁ s₂
theorem InvEnd2.intro {L d' : Addr} {J : (Str → Option Value) → Addr → Obj → Prop} {m' : Str → Option Value} {o' : Obj} {need news' : List (Addr × Obj)} {s₁ : Shared} {h' : Heap} {tk : Nat} (F : Fr h₀ L h' m') (N : News h₀ L h' news') (hd : (d', o') ∈ news') (hn : ∀ p ∈ need, p ∈ news') (ho : ∀ p ∈ need, p.1 ≠ d')
    (hj : J m' d' o') : InvEnd2 h₀ L J need s₁ { s₁ with heap := h', toks := tk } := ⟨h', tk, m', d', o', news', rfl, F, N, hd, hn, ho, hj⟩
theorem loop_new {I l d : Addr} {its : List Value} {St : Nat → Heap → Prop} {m₀ : Str → Option Value} {rest : List (Addr × Obj)} {o₀ ol : Obj} (J : Nat → (Str → Option Value) → Addr → Obj → Prop)
    (W : Walks prog w A I [I, l] [I] its.length (fun i v => its[i]? = some v) St) (hIo : ∀ i h, St i h → ∃ o, h.get? I = some o) (hL1 : env.locals ≠ I) (hL2 : env.locals ≠ l) (hI : h₀.get? I = none) (hnw : ∀ p ∈ (d, o₀) :: rest, p.1 ≠ I) (hl : (l, ol) ∈ rest) (hrd : ∀ p ∈ rest, p.1 ≠ d) (hst : St 0 s.heap)
    (F : Fr h₀ env.locals s.heap m₀) (N : News h₀ env.locals s.heap ((d, o₀) :: rest)) (hj : J 0 m₀ d o₀)
    (turn : ∀ i v m₁ d₁ o₁ h tk own, its[i]? = some v → J i m₁ d₁ o₁ → (∀ p ∈ rest ++ own, p.1 ≠ d₁) → Fr h₀ env.locals h (fun y => if y = x then some v else m₁ y) → News h₀ env.locals h ((d₁, o₁) :: (rest ++ own)) →
      wpAny (model prog w) A (execs body env) (InvPost2 h₀ env.locals (J (i + 1)) (rest ++ own) { s with heap := h, toks := tk } Q) E { s with heap := h, toks := tk })
    (done : ∀ m₁ d₁ o₁ h tk, J its.length m₁ d₁ o₁ → Fr h₀ env.locals h m₁ → News h₀ env.locals h ((d₁, o₁) :: rest) → Q .next { s with heap := h, toks := tk }) :
    LoopAtV prog w A h₀ env x body Q E (.ref I) s := by
  refine ⟨I, _, _, its.length, _, _, m₀, (d, o₀) :: rest, (fun i m₁ news₁ => ∃ d₁ o₁, news₁ = (d₁, o₁) :: rest ∧ (∀ p ∈ rest, p.1 ≠ d₁) ∧ J i m₁ d₁ o₁), rfl, W, ?_, ?_, ?_, hst, F, N, ⟨d, o₀, rfl, hrd, hj⟩, ?_, ?_⟩
  · intro hm
    rcases List.mem_cons.mp hm with e | hm
    · exact hL1 e
    · exact hL2 (List.mem_singleton.mp hm)
  · intro b hb
    rw [List.mem_singleton.mp hb]; exact hI
  · intro p hp hm
    exact hnw p hp (List.mem_singleton.mp hm)
  · rintro i v m₁ news₁ s₁ own ⟨hh', tk', rfl⟩ hin hP ⟨d₁, o₁, rfl, hr₁, hJ⟩ hoff hown _ hin2 hst₁ F₁ N₁
    obtain ⟨oI, heI⟩ := hIo _ _ hst₁
    have hIown : (I, oI) ∈ own := hin2 I (List.mem_cons_self) hI oI heI
    have hod : ∀ p ∈ own, p.1 ≠ d₁ := fun p hp e => by
      rcases List.mem_cons.mp (hown p hp) with h1 | h1
      · exact hoff (d₁, o₁) (List.mem_cons_self) (List.mem_singleton.mpr (e ▸ h1))
      · exact hr₁ _ hl ((List.mem_singleton.mp h1).symm.trans e)
    have N₂ : News h₀ env.locals hh' ((d₁, o₁) :: (rest ++ own)) := fun p hp => N₁ p (by
      rcases List.mem_cons.mp hp with h | h
      · exact List.mem_append_right _ (h ▸ List.mem_cons_self)
      · rcases List.mem_append.mp h with h | h
        · exact List.mem_append_right _ (List.mem_cons_of_mem _ h)
        · exact List.mem_append_left _ h)
    refine wpAny_mono (turn i v m₁ d₁ o₁ hh' tk' own hP hJ (fun p hp => (List.mem_append.mp hp).elim (hr₁ p) (hod p)) F₁ N₂) (fun f s₂ p => ?_) fun _ _ e => e
    have fin : InvEnd2 h₀ env.locals (J (i + 1)) (rest ++ own) { s with heap := hh', toks := tk' } s₂ → LoopStepU h₀ env.locals [I] own (fun m₁ nw => ∃ d₁ o₁, nw = (d₁, o₁) :: rest ∧ (∀ p ∈ rest, p.1 ≠ d₁) ∧ J (i + 1) m₁ d₁ o₁) { s with heap := hh', toks := tk' } .next s₂ := by
      rintro ⟨h', tk, m', d', o', news', e, F', N', hd', hn, ho, hm⟩
      refine ⟨rfl, h', tk, m', (d', o') :: rest, e, F', fun p hp => N' p ?_, ?_, d', o', rfl, fun p hp => ho p (List.mem_append_left _ hp), hm⟩
      · rcases List.mem_append.mp hp with h | h
        · exact hn p (List.mem_append_right _ h)
        · rcases List.mem_cons.mp h with rfl | h
          · exact hd'
          · exact hn p (List.mem_append_left _ h)
      · intro p hp
        rcases List.mem_cons.mp hp with rfl | h
        · intro hm; exact ho _ (List.mem_append_right _ hIown) (List.mem_singleton.mp hm).symm
        · intro hm; exact hnw p (List.mem_cons_of_mem _ h) (List.mem_singleton.mp hm)
    cases f with
    | ret v => exact .ret p
    | brk => exact .brk p
    | next => exact .next (fin p)
    | cont => exact .cont (fin p)
  · rintro h' tk m' news' F' N' _ ⟨d₁, o₁, rfl, _, hJ⟩
    exact done m' d₁ o₁ h' tk hJ F' N'
theorem iter_lst_new {l d : Addr} {its : List Value} {nn : Nat} {m₀ : Str → Option Value} {rest : List (Addr × Obj)} {o₀ : Obj} (J : Nat → (Str → Option Value) → Addr → Obj → Prop)
    (hh : A.handled = none) (hl : (l, listOf its.toArray nn) ∈ rest) (hrd : ∀ p ∈ rest, p.1 ≠ d) (F : Fr h₀ env.locals s.heap m₀) (N : News h₀ env.locals s.heap ((d, o₀) :: rest)) (hj : J 0 m₀ d o₀)
    (turn : ∀ i v m₁ d₁ o₁ h tk own, its[i]? = some v → J i m₁ d₁ o₁ → (∀ p ∈ rest ++ own, p.1 ≠ d₁) → Fr h₀ env.locals h (fun y => if y = x then some v else m₁ y) → News h₀ env.locals h ((d₁, o₁) :: (rest ++ own)) →
      wpAny (model prog w) A (execs body env) (InvPost2 h₀ env.locals (J (i + 1)) (rest ++ own) { s with heap := h, toks := tk } Q) E { s with heap := h, toks := tk })
    (done : ∀ m₁ d₁ o₁ h tk, J its.length m₁ d₁ o₁ → Fr h₀ env.locals h m₁ → News h₀ env.locals h ((d₁, o₁) :: rest) → Q .next { s with heap := h, toks := tk }) :
    wpAny (model prog w) A (pyIter (.ref l)) (fun it s₂ => LoopAtV prog w A h₀ env x body Q E it s₂) E s := by
  have hl' : (l, listOf its.toArray nn) ∈ (d, o₀) :: rest := List.mem_cons_of_mem _ hl
  have hol : s.heap.get? l = some (listOf its.toArray nn) := (N _ hl').1
  have hls : s.heap.IsList l its.toArray := ⟨_, hol, rfl, nn, rfl⟩
  have hne : l ≠ s.heap.objs.size := Nat.ne_of_lt (Heap.lt_size hol)
  refine wpAny_pyIter_list hls ?_
  have W := Walks.list (prog := prog) (w := w) hh s.heap.objs.size l hne its.toArray
  rw [List.size_toArray] at W
  have W' : Walks prog w A s.heap.objs.size [s.heap.objs.size, l] [s.heap.objs.size] its.length (fun i v => its[i]? = some v) (fun i h => h.IsListIter s.heap.objs.size l i ∧ h.IsList l its.toArray) := by
    have e : (fun (i : Nat) (v : Value) => its.toArray[i]? = some v) = fun i v => its[i]? = some v := by funext i v; simp
    rw [e] at W; exact W
  refine loop_new J W' (fun i h st => by obtain ⟨o, e, _⟩ := st.1; exact ⟨o, e⟩) (Nat.ne_of_lt F.ns.lt) (Ne.symm (N _ hl').2.1) (next_is_new F) (fun p hp => Nat.ne_of_lt (Heap.lt_size (N p hp).1)) hl hrd ?_ (F.push _) (fun p hp => ⟨Heap.get?_push_of_some _ (N p hp).1, (N p hp).2⟩) hj turn done
  exact ⟨⟨_, Heap.get?_push_size _ rfl, rfl, rfl⟩, hls.at fun o e => Heap.get?_push_of_some _ e⟩
end
end Mine
end

section
open PySem PySem.W PyProof.Rows PySem.Calls
set_option maxRecDepth 100000
namespace Mine
section
variable {prog : Program} {w : World} {A : Around} {E : Value → Shared → Prop} {s : Shared} {env : Env} {h₀ : Heap} {x : Str} {body : List Stmt} {Q : Flow → Shared → Prop}
/-- a loop over a range: what holds of the frame before each turn -/
theorem iter_rng {r : Addr} {a b : Int} {t u v : Tok} {n : Nat} {m₀ : Str → Option Value} {news : List (Addr × Obj)} (J : Nat → (Str → Option Value) → Prop)
    (hh : A.handled = none) (hr : IsRange s.heap r a b 1 t u v) (hsm : Builtin.Range.small a b 1 = true) (hn : Builtin.Range.rangeSize a b 1 = ((n : Nat) : Int)) (F : Fr h₀ env.locals s.heap m₀) (N : News h₀ env.locals s.heap news) (hj : J 0 m₀)
    (turn : ∀ i tv m₁ h tk own, i < n → J i m₁ → Fr h₀ env.locals h (fun y => if y = x then some (.int (a + (i : Int)) tv) else m₁ y) → News h₀ env.locals h (news ++ own) →
      wpAny (model prog w) A (execs body env) (InvPost h₀ env.locals (J (i + 1)) (news ++ own) { s with heap := h, toks := tk } Q) E { s with heap := h, toks := tk })
    (done : ∀ m₁ h tk, J n m₁ → Fr h₀ env.locals h m₁ → News h₀ env.locals h news → Q .next { s with heap := h, toks := tk }) :
    wpAny (model prog w) A (pyIter (.ref r)) (fun it s₂ => LoopAtV prog w A h₀ env x body Q E it s₂) E s := by
  refine wpAny_pyIter_range hr hsm ?_
  have hI : h₀.get? s.heap.objs.size = none := next_is_new F
  refine ⟨s.heap.objs.size, _, _, n, _, _, m₀, news, (fun i m₁ news₁ => news₁ = news ∧ J i m₁), rfl, LCg.range_walks hh a n, ?_, ?_, ?_, ?_, F.push _, (fun p hp => ⟨Heap.get?_push_of_some _ (N p hp).1, (N p hp).2⟩), ⟨rfl, hj⟩, ?_, ?_⟩
  · intro hm
    exact Nat.ne_of_lt F.ns.lt (List.mem_singleton.mp hm)
  · intro b hb
    rw [List.mem_singleton.mp hb]; exact hI
  · intro p hp hm
    exact Nat.ne_of_lt (Heap.lt_size (N p hp).1) (List.mem_singleton.mp hm)
  · show IsRangeIter _ _ _ _ _
    rw [hn]
    simpa using Heap.get?_push_size _ rfl
  · rintro i v m₁ news₁ s₁ own ⟨hh', tk', rfl⟩ hin hP ⟨rfl, hJ⟩ hoff _ _ _ _ F₁ N₁
    obtain ⟨tv, rfl⟩ := hP
    have N₂ : News h₀ env.locals hh' (news₁ ++ own) := fun p hp => N₁ p ((List.mem_append.mp hp).elim (fun h => List.mem_append.mpr (.inr h)) fun h => List.mem_append.mpr (.inl h))
    refine wpAny_mono (turn i tv m₁ hh' tk' own hin hJ F₁ N₂) (fun f s₂ p => ?_) fun _ _ e => e
    have fin : InvEnd h₀ env.locals (J (i + 1)) (news₁ ++ own) { s with heap := hh', toks := tk' } s₂ → LoopStepU h₀ env.locals [s.heap.objs.size] own (fun m₁ nw => nw = news₁ ∧ J (i + 1) m₁) { s with heap := hh', toks := tk' } .next s₂ := by
      rintro ⟨h', tk, m', news', e, F', N', hn, hm⟩
      exact ⟨rfl, h', tk, m', news₁, e, F', fun p hp => N' p (hn p ((List.mem_append.mp hp).elim (fun h => List.mem_append.mpr (.inr h)) fun h => List.mem_append.mpr (.inl h))), hoff, rfl, hm⟩
    cases f with
    | ret v => exact .ret p
    | brk => exact .brk p
    | next => exact .next (fin p)
    | cont => exact .cont (fin p)
  · rintro h' tk m' news' F' N' _ ⟨rfl, hJ⟩
    exact done m' h' tk hJ F' N'
end
end Mine
end

section
open PySem PySem.W PyProof.Rows PySem.Calls PySem.SeqAt
set_option maxRecDepth 100000
namespace Mine
section
variable {A : Around} {s : Shared}
theorem RcAt_bytes (b : Array UInt8) (t u : Tok) : RcAt A s (.bytes b t) (.bytes b u) true := fun prog w E Q h => by
  show wpAny _ _ (compareOp .Eq (.bytes b t) (.bytes b u)) _ _ _
  refine eq_bytes ?_
  have : (b.toList == b.toList) = true := by simp
  rw [this]; exact h
theorem EqAt_bytes (b : Array UInt8) (t u : Tok) : EqAt A s (.bytes b t) (.bytes b u) true := fun prog w E Q h => by
  unfold eqBool
  refine wpAny_holding ?_
  refine wpAny_ite_split (fun hab => ?_) (fun _ => ?_)
  · exact wpAny_bind (wpAny_rule (wpAny_pure h))
  · exact wpAny_bind (RcAt_bytes b t u prog w E _ (wpAny_truthy_bool h))
end
section
variable {prog : Program} {w : World} {A : Around} {E : Value → Shared → Prop} {s : Shared} {h₀ : Heap} {L D D2 : Addr} {m : Str → Option Value} {news : List (Addr × Obj)} {n n2 : Nat} {vs us : List Value} {Q : Value → Shared → Prop}
theorem all_true (n : Nat) : ((List.range n).all fun _ => true) = true := by simp
theorem eq_bs {ps : List (List UInt8)} (N : News h₀ L s.heap news) (h1 : (D, listOf vs.toArray n) ∈ news) (h2 : (D2, listOf us.toArray n2) ∈ news) (hv : BsAre vs ps) (hu : BsAre us ps) (hr : A.units < cLine) (h : Q (.bool true) s) : wpAny (model prog w) A (compareOp .Eq (.ref D) (.ref D2)) Q E s := by
  refine eq_listAt (e := fun _ => true) (N.isList h1) (N.isList h2) (by rw [List.size_toArray, List.size_toArray, hv.length, hu.length]) hr (fun j j1 j2 => ?_) (by rw [all_true]; exact h)
  obtain ⟨p, t, e1, e2⟩ := hv.get j (by simpa using j1)
  obtain ⟨q, u, e3, e4⟩ := hu.get j (by simpa using j2)
  have e5 : p = q := Array.toList_inj.mp (Option.some.inj (e2.symm.trans e4))
  subst e5
  have k1 : vs.toArray[j] = .bytes p t := by
    have := (List.getElem?_eq_getElem (by simpa using j1)).symm.trans e1
    simpa using Option.some.inj this
  have k2 : us.toArray[j] = .bytes p u := by
    have := (List.getElem?_eq_getElem (by simpa using j2)).symm.trans e3
    simpa using Option.some.inj this
  rw [k1, k2]
  exact EqAt_bytes p t u
theorem eq_ss {ys : List Str} (N : News h₀ L s.heap news) (h1 : (D, listOf vs.toArray n) ∈ news) (h2 : (D2, listOf us.toArray n2) ∈ news) (hv : StrsAre vs ys) (hu : StrsAre us ys) (hr : A.units < cLine) (h : Q (.bool true) s) : wpAny (model prog w) A (compareOp .Eq (.ref D) (.ref D2)) Q E s := by
  refine eq_listAt (e := fun _ => true) (N.isList h1) (N.isList h2) (by rw [List.size_toArray, List.size_toArray, StrsAre_len hv, StrsAre_len hu]) hr (fun j j1 j2 => ?_) (by rw [all_true]; exact h)
  obtain ⟨p, t, e1, e2⟩ := StrsAre_get hv j (by simpa using j1)
  obtain ⟨q, u, e3, e4⟩ := StrsAre_get hu j (by simpa using j2)
  have e5 : p = q := Option.some.inj (e2.symm.trans e4)
  subst e5
  have k1 : vs.toArray[j] = .str p t := by
    have := (List.getElem?_eq_getElem (by simpa using j1)).symm.trans e1
    simpa using Option.some.inj this
  have k2 : us.toArray[j] = .str p u := by
    have := (List.getElem?_eq_getElem (by simpa using j2)).symm.trans e3
    simpa using Option.some.inj this
  rw [k1, k2]
  have := EqAt.str_str (A := A.in1) (s := s) p t p u
  have e6 : (p == p) = true := by simp
  rw [e6] at this
  exact this
/-- how a list of bools is shown -/
def reprB (bs : List Bool) : Str := (PyData.list (bs.map PyData.bool)).shown
theorem bools_carried : ∀ bs : List Bool, CarriedAll (bs.map Value.bool) (bs.map PyData.bool)
  | [] => .nil
  | b :: r => .cons (.bool b) (bools_carried r)
theorem str_bools {bs : List Bool} (F : Fr h₀ L s.heap m) (N : News h₀ L s.heap news) (h1 : (D, listOf (bs.map Value.bool).toArray n) ∈ news) (hs : (PyData.list (bs.map PyData.bool)).showable = true) (hnd : (PyData.list (bs.map PyData.bool)).hasDict = false) (hg : A.guards = some []) (hu : A.units + ((PyData.list (bs.map PyData.bool)).depth + 3) < cLine)
    (hsz : (reprB bs).length ≤ sizeLine) (h : ∀ h' u tk, Fr h₀ L h' m → News h₀ L h' news → Q (.str (reprB bs) u) { s with heap := h', toks := tk }) : wpAny (model prog w) A (call (.type "str") [.ref D]) Q E s :=
  str_of_reads (reads_newData (N.isList h1) (bools_carried bs)) hs (PyData.noDict_hsm hnd) hg hu (fun _ _ e => e) (fun h' u tk hk => h h' u tk (F.keptAll hk) (N.grown hk)) hsz
end
end Mine
end

section
open PySem PySem.W PyProof.Rows PySem.Calls
set_option maxRecDepth 100000
namespace Mine
section
variable {prog : Program} {w : World} {A : Around} {E : Value → Shared → Prop} {s : Shared} {h₀ : Heap} {L : Addr} {m : Str → Option Value} {env : Env} {M : Model}
theorem wpAny_newEnv_cells {scope : Scope} {globals : Addr} {qual : Str} {Q : Env → Shared → Prop}
    (hQ : Q (newEnv scope s.heap.objs.size globals (cellsFrom (s.heap.objs.size + 1) scope.names []) qual none .none (some env) env.builtins) { s with heap := pushCells (s.heap.push { cls := .type "dict", data := .dict #[] }) scope.names }) :
    wpAny M A (newFunctionEnv scope globals [] [] qual none .none (some env)) Q E s := by
  simp only [newFunctionEnv, Option.isSome_some, if_true]
  refine wpAny_bind (wpAny_alloc ?_)
  refine wpAny_bind (wpAny_layCells _ (fun name kind cells => by cases hkc : kind == NameKind.cell <;> simp [hkc]) _ _ _ _ ?_)
  rw [show ({ s with heap := s.heap.push { cls := .type "dict", data := .dict #[] } } : Shared).heap.objs.size = s.heap.objs.size + 1 from Heap.size_push ..]
  refine wpAny_bind ?_
  rw [List.forIn_nil]
  exact wpAny_pure (wpAny_pure hQ)
abbrev cellObj (v : Option Value) : Obj := { cls := .type "cell", data := .cell v }
/-- the source of a comprehension whose name is a cell -/
def CellSrc (prog : Program) (w : World) (A : Around) (h₀ : Heap) (L : Addr) (m : Str → Option Value) (env : Env) (elt : PySem.Expr) (x : Str) (scope : Scope) (Q : Value → Shared → Prop) (xv : Value) (s₁ : Shared) : Prop :=
  ∃ (ax : Addr) (vs : List Value) (nn : Nat) (news : List (Addr × Obj)) (J : Nat → List Value → Prop), xv = .ref ax ∧ A.handled = none ∧ Fr h₀ L s₁.heap m ∧ News h₀ L s₁.heap news ∧ (ax, listOf vs.toArray nn) ∈ news ∧ vs.length ≤ sizeLine ∧ J 0 [] ∧
    (∀ i v ys I oI C oC c oc D h tk (E' : Value → Shared → Prop), vs[i]? = some v → J i ys → oc.data = .cell (some v) → Fr h₀ L h m → News h₀ L h ((I, oI) :: (C, oC) :: (c, oc) :: (D, LCg.lst ys) :: news) → LCg.Off3 I C D news → LCg.Off1 c news →
      wpAny (model prog w) A (eval elt (compEnvC scope [(x, c)] C env)) (CEnd h₀ L m { s₁ with heap := h, toks := tk } ((I, oI) :: (C, oC) :: (c, oc) :: (D, LCg.lst ys) :: news) (fun y => J (i + 1) (ys ++ [y]))) E' { s₁ with heap := h, toks := tk }) ∧
    (∀ ys, J vs.length ys → LCg.FinE h₀ L m s₁ Q ys news)
theorem CellSrc.ledger {elt : PySem.Expr} {x : Str} {scope : Scope} {Q : Value → Shared → Prop} {ax : Addr} {s₁ : Shared} {vs : List Value} {nn : Nat} {news : List (Addr × Obj)} (J : Nat → List Value → Prop) (hh : A.handled = none) (F : Fr h₀ L s₁.heap m) (N : News h₀ L s₁.heap news) (hm : (ax, listOf vs.toArray nn) ∈ news) (hz : vs.length ≤ sizeLine) (hj : J 0 [])
    (turn : ∀ i v ys I oI C oC c oc D h tk (E' : Value → Shared → Prop), vs[i]? = some v → J i ys → oc.data = .cell (some v) → Fr h₀ L h m → News h₀ L h ((I, oI) :: (C, oC) :: (c, oc) :: (D, LCg.lst ys) :: news) → LCg.Off3 I C D news → LCg.Off1 c news →
      wpAny (model prog w) A (eval elt (compEnvC scope [(x, c)] C env)) (CEnd h₀ L m { s₁ with heap := h, toks := tk } ((I, oI) :: (C, oC) :: (c, oc) :: (D, LCg.lst ys) :: news) (fun y => J (i + 1) (ys ++ [y]))) E' { s₁ with heap := h, toks := tk })
    (fin : ∀ ys, J vs.length ys → LCg.FinE h₀ L m s₁ Q ys news) : CellSrc prog w A h₀ L m env elt x scope Q (.ref ax) s₁ := ⟨ax, vs, nn, news, J, rfl, hh, F, N, hm, hz, hj, turn, fin⟩
theorem IsCell_obj {h : Heap} {c : Addr} {v : Option Value} (x : h.IsCell c v) : ∃ o, h.get? c = some o ∧ o.data = .cell v := x
theorem ListComp_C {elt iter : PySem.Expr} {x : Str} {px : Pos} {scope : Scope} {pos : Pos} {Q : Value → Shared → Prop} (F₀ : Fr h₀ L s.heap m)
    (hclos : closureFor scope env = pure []) (hcf : ∀ n, cellsFrom n scope.names [] = [(x, n)]) (hpc : ∀ h : Heap, pushCells h scope.names = h.push (cellObj none)) (hkind : scope.kind = .function)
    (hnames : ∀ y ∈ scope.names, y.2 = .local → scope.names.lookup y.1 = some .local) (hx : (relabel scope env).names.lookup x = some .cell)
    (h : wpAny (model prog w) A (eval iter env) (CellSrc prog w A h₀ L m env elt x scope Q) E s)
    (hs : ∀ x, foldedSetIterable iter env x = pure x := by intro _; rfl) :
    wpAny (model prog w) A (eval (.ListComp elt [⟨.Name x px, iter, [], 0⟩] scope pos) env) Q E s := by
  rw [eval_ListComp]
  refine wpAny_comprehension_free (use := none) rfl hs hclos hkind hnames (wpAny_mono h (fun xv s₁ h₁ => ?_) fun _ _ e => e)
  obtain ⟨ax, vs, nn, news, J, rfl, hh, F, N, hm, hsz, hj, turn, fin⟩ := h₁
  have hol : s₁.heap.get? ax = some (listOf vs.toArray nn) := (N _ hm).1
  have hl : s₁.heap.IsList ax vs.toArray := ⟨_, hol, rfl, nn, rfl⟩
  have hlt : ax < s₁.heap.objs.size := Heap.lt_size hol
  refine wpAny_pyIter_list hl ?_
  generalize hs2 : ({ s₁ with heap := s₁.heap.push { cls := .type "list_iterator", data := .fields #[.ref ax, .int 0 0] } } : Shared) = s₂
  have up : ∀ b o, s₁.heap.get? b = some o → s₂.heap.get? b = some o := fun b o e => by rw [← hs2]; exact Heap.get?_push_of_some _ e
  have hIsz0 : s₂.heap.objs.size = s₁.heap.objs.size + 1 := by rw [← hs2]; exact Heap.size_push ..
  have W0 := Walks.list (prog := prog) (w := w) hh s₁.heap.objs.size ax (Nat.ne_of_lt hlt) vs.toArray
  rw [List.size_toArray] at W0
  have W : Walks prog w A s₁.heap.objs.size [s₁.heap.objs.size, ax] [s₁.heap.objs.size] vs.length (fun i v => vs[i]? = some v) (fun i h => h.IsListIter s₁.heap.objs.size ax i ∧ h.IsList ax vs.toArray) := by
    have e : (fun (i : Nat) (v : Value) => vs.toArray[i]? = some v) = fun i v => vs[i]? = some v := by funext i v; simp
    rw [e] at W0; exact W0
  clear W0
  have hst : s₂.heap.IsListIter s₁.heap.objs.size ax 0 ∧ s₂.heap.IsList ax vs.toArray := by
    rw [← hs2]
    exact ⟨⟨_, Heap.get?_push_size _ rfl, rfl, rfl⟩, hl.push _⟩
  have F2 : Fr h₀ L s₂.heap m := F.keeps up
  have N2 : News h₀ L s₂.heap news := N.grown up
  generalize hII : s₁.heap.objs.size = I at W hst
  have hI₀ : h₀.get? I = none := by rw [← hII]; exact next_is_new F
  have hIL : L ≠ I := by rw [← hII]; exact Nat.ne_of_lt F.ns.lt
  have offI : ∀ p ∈ news, p.1 ≠ I := fun p hp => by rw [← hII]; exact Nat.ne_of_lt (Heap.lt_size (N p hp).1)
  refine wpAny_newObj_type (wpAny_newEnv_cells ?_)
  dsimp only
  rw [hcf, hpc]
  generalize hH2 : s₂.heap.push { cls := .type "list", dict := none, data := .seq ([] : List Value).toArray } = H2
  generalize hH3 : (H2.push { cls := .type "dict", data := .dict #[] }).push (cellObj none) = H3
  have hC : H2.objs.size = s₂.heap.objs.size + 1 := by rw [← hH2, Heap.size_push]
  have hc : (H2.push { cls := .type "dict", data := .dict #[] }).objs.size = H2.objs.size + 1 := Heap.size_push ..
  generalize hDD : s₂.heap.objs.size = D at hC
  generalize hCC : H2.objs.size = C at hC hc
  generalize hcc : C + 1 = c at hc
  have hDi : @LT.lt Nat _ I D := by rw [← hDD, hIsz0, ← hII]; exact Nat.lt_succ_self _
  have hDC : @LT.lt Nat _ D C := by rw [hC]; exact Nat.lt_succ_self _
  have hCc : @LT.lt Nat _ C c := by rw [← hcc]; exact Nat.lt_succ_self _
  have nDC : D ≠ C := Nat.ne_of_lt hDC
  have nCc : C ≠ c := Nat.ne_of_lt hCc
  have nDc : D ≠ c := Nat.ne_of_lt (Nat.lt_trans hDC hCc)
  have nID : I ≠ D := Nat.ne_of_lt hDi
  have nIC : I ≠ C := Nat.ne_of_lt (Nat.lt_trans hDi hDC)
  have nIc : I ≠ c := Nat.ne_of_lt (Nat.lt_trans hDi (Nat.lt_trans hDC hCc))
  have old : ∀ b o, s₂.heap.get? b = some o → H3.get? b = some o := fun b o e => by
    rw [← hH3]; exact Heap.get?_push_of_some _ (Heap.get?_push_of_some _ (hH2 ▸ Heap.get?_push_of_some _ e))
  have hacc : H3.get? D = some (LCg.lst []) := by
    rw [← hH3, ← hDD]; exact Heap.get?_push_of_some _ (Heap.get?_push_of_some _ (hH2 ▸ Heap.get?_push_size _ rfl))
  have hns : H3.Ns C (fun _ => none) := by
    rw [← hH3, ← hCC]
    exact (Heap.Ns.new H2 (.type "dict")).keeps fun b o e => Heap.get?_push_of_some _ e
  have hcell : H3.IsCell c none := by
    rw [← hH3, ← hc]
    exact ⟨_, Heap.get?_push_size _ rfl, rfl⟩
  have below : ∀ b : Addr, @LT.lt Nat _ b D → b ≠ C ∧ b ≠ c ∧ b ≠ D := fun b hb => ⟨Nat.ne_of_lt (Nat.lt_trans hb hDC), Nat.ne_of_lt (Nat.lt_trans hb (Nat.lt_trans hDC hCc)), Nat.ne_of_lt hb⟩
  have hst₁ : H3.IsListIter I ax 0 ∧ H3.IsList ax vs.toArray := W.frame _ _ _ hst fun b _ o e => old b o e
  have fresh : ∀ a : Addr, @LE.le Nat _ D a → s₂.heap.get? a = none := fun a ha => by
    cases e : s₂.heap.get? a with
    | none => rfl
    | some o' => exact absurd (Heap.lt_size e) (Nat.not_lt.mpr (hDD ▸ ha))
  have fresh₀ : ∀ a : Addr, @LE.le Nat _ D a → h₀.get? a = none := fun a ha => by
    cases e : h₀.get? a with
    | none => rfl
    | some o' => have := F2.keep a o' e; rw [fresh a ha] at this; cases this
  have hD₀ : h₀.get? D = none := fresh₀ _ (Nat.le_refl _)
  have hC₀ : h₀.get? C = none := fresh₀ _ (Nat.le_of_lt hDC)
  have hc₀ : h₀.get? c = none := fresh₀ _ (Nat.le_of_lt (Nat.lt_trans hDC hCc))
  have hLlt : @LT.lt Nat _ L D := hDD ▸ F2.ns.lt
  have hax : @LT.lt Nat _ ax D := by rw [hII] at hlt; exact Nat.lt_trans hlt hDi
  obtain ⟨nLC, nLc, nLD⟩ := below L hLlt
  obtain ⟨naC, nac, naD⟩ := below ax hax
  have newsD : ∀ p ∈ news, @LT.lt Nat _ p.1 D := fun p hp => hDD ▸ Heap.lt_size (N2 p hp).1
  have off₀ : LCg.Off3 I C D news := LCg.Off3.of fun p hp => ⟨offI p hp, (below _ (newsD p hp)).1, (below _ (newsD p hp)).2.2⟩
  have offc : ∀ p ∈ news, p.1 ≠ c := fun p hp => (below _ (newsD p hp)).2.1
  have off1c : LCg.Off1 c news := by
    clear hm N N2 fin turn offI newsD off₀
    induction news with
    | nil => trivial
    | cons p r ih => exact ⟨offc p List.mem_cons_self, ih fun q hq => offc q (List.mem_cons_of_mem _ hq)⟩
  have off3 := off₀.mem
  have key : ∀ s₃ : Shared, s₃ = { s₂ with heap := H3 } →
      codeAny (model prog w) A (.compLoop (.ListComp elt [⟨.Name x px, iter, [], 0⟩] scope pos) 0 (.ref I) (.ref D) (compEnvC scope [(x, c)] C env))
        (compPost (model prog w) A E none Q (.ref D) C) s₃ := by
    rintro s₃ rfl
    refine codeAny_compLoop_tests
      (fun k s' => ∃ h' tk i ys m' v₀, s' = { s₂ with heap := h', toks := tk } ∧ i ≤ vs.length ∧ k = vs.length + 1 - i ∧ ys.length = i ∧ (h'.IsListIter I ax i ∧ h'.IsList ax vs.toArray) ∧ Fr h₀ L h' m ∧ h'.Ns C m' ∧ h'.IsCell c v₀ ∧ News h₀ L h' ((D, LCg.lst ys) :: news) ∧ J i ys) ?_ (vs.length + 1)
      ⟨H3, _, 0, [], _, none, rfl, Nat.zero_le _, rfl, rfl, hst₁, F2.keeps old, hns, hcell, fun p hp => ?_, hj⟩
    · rintro k s' ⟨h', tk, i, ys, m', v₀, rfl, hi, rfl, hyl, hst', F', hn', hcl', N', hJ'⟩
      by_cases hlt : i < vs.length
      · refine W.item i _ _ _ hlt hst' fun v h₂ tk₂ hPv hst₂ hk₂ => ?_
        have hcI : c ∉ [I] := by simpa using Ne.symm nIc
        have hCI : C ∉ [I] := by simpa using Ne.symm nIC
        obtain ⟨oc₀, hoc₀, hod₀⟩ := IsCell_obj hcl'
        refine wpAny_assign_Name (wpAny_storeName_cell (c := c) (v₀ := v₀) (by simp [compEnvC, relabel, hkind]) hx (by simp [compEnvC]) ⟨oc₀, hk₂ _ _ hcI hoc₀, hod₀⟩ (fun h₃ hc₃ hs₃ => ?_))
        refine wpAny_tests_nil ?_
        simp only [if_true]
        have hst₃ : h₃.IsListIter I ax (i + 1) ∧ h₃.IsList ax vs.toArray := W.frame _ _ _ hst₂ fun b hb o e => hs₃.extBut b o (fun q => by
          rcases List.mem_cons.mp hb with e1 | hb
          · exact nIc (e1.symm.trans q)
          · exact nac ((List.mem_singleton.mp hb).symm.trans q)) e
        obtain ⟨oI, heI, _⟩ := id hst₃.1
        have hn₃ : h₃.Ns C m' := (hn'.at' fun o e => hk₂ _ o hCI e).sameBut hs₃ nCc
        obtain ⟨oC, heC, hoC⟩ := LCg.ns_obj hn₃
        obtain ⟨oc, hec, hoc⟩ := IsCell_obj hc₃
        have F₃ : Fr h₀ L h₃ m := (LCg.fr_but F' hk₂ hIL hI₀).change hs₃ (Ne.symm nLc) hc₀
        have N₂ : News h₀ L h₂ ((D, LCg.lst ys) :: news) := LCg.news_but N' hk₂ fun p hp => by
          rcases List.mem_cons.mp hp with rfl | hp
          · exact Ne.symm nID
          · exact offI p hp
        have N₃ : News h₀ L h₃ ((I, oI) :: (C, oC) :: (c, oc) :: (D, LCg.lst ys) :: news) := fun p hp => by
          rcases List.mem_cons.mp hp with rfl | hp
          · exact ⟨heI, Ne.symm hIL, hI₀⟩
          · rcases List.mem_cons.mp hp with rfl | hp
            · exact ⟨heC, Ne.symm nLC, hC₀⟩
            · rcases List.mem_cons.mp hp with rfl | hp
              · exact ⟨hec, Ne.symm nLc, hc₀⟩
              · have z := N₂ p hp
                refine ⟨hs₃.extBut _ _ ?_ z.1, z.2⟩
                rcases List.mem_cons.mp hp with rfl | hp
                · exact nDc
                · exact offc p hp
        have hv' : vs[i]? = some v := hPv
        subst hs2
        refine wpAny_mono (turn i v ys I oI C oC c oc D h₃ _ _ hv' hJ' hoc F₃ N₃ off₀ off1c) (fun y s₄ h₄ => ?_) fun _ _ e => e
        obtain ⟨h₄, tk₄, rfl, F₄, N₄, hJ₄⟩ := h₄
        have zI := (N₄ (I, oI) List.mem_cons_self).1
        have zC := (N₄ (C, oC) (List.mem_cons_of_mem _ List.mem_cons_self)).1
        have zc := (N₄ (c, oc) (List.mem_cons_of_mem _ (List.mem_cons_of_mem _ List.mem_cons_self))).1
        have zD := (N₄ (D, LCg.lst ys) (List.mem_cons_of_mem _ (List.mem_cons_of_mem _ (List.mem_cons_of_mem _ List.mem_cons_self)))).1
        have N₄' : News h₀ L h₄ news := fun p hp => N₄ p (List.mem_cons_of_mem _ (List.mem_cons_of_mem _ (List.mem_cons_of_mem _ (List.mem_cons_of_mem _ hp))))
        have hst₄ : h₄.IsListIter I ax (i + 1) ∧ h₄.IsList ax vs.toArray := by
          refine ⟨?_, ⟨_, (N₄' _ hm).1, rfl, nn, rfl⟩⟩
          obtain ⟨o', q, r⟩ := hst₃.1
          rw [heI] at q; cases q
          exact ⟨oI, zI, r⟩
        refine append_at (hsz := by show ys.toArray.size ≤ sizeLine; rw [List.size_toArray, hyl]; exact Nat.le_trans hi hsz) zD fun h₅ hs₅ hD₅ => ?_
        refine ⟨vs.length + 1 - (i + 1), by omega, h₅, tk₄, i + 1, ys ++ [y], m', some v, rfl, hlt, rfl, by rw [List.length_append, List.length_singleton, hyl], W.frame _ _ _ hst₄ fun b hb o e => hs₅.extBut b o (fun q => by
            rcases List.mem_cons.mp hb with e1 | hb
            · exact nID (e1.symm.trans q)
            · exact naD ((List.mem_singleton.mp hb).symm.trans q)) e, F₄.change hs₅ (Ne.symm nLD) hD₀,
          (hoC.ns zC).sameBut hs₅ (Ne.symm nDC), ⟨oc, hs₅.extBut _ _ (Ne.symm nDc) zc, hoc⟩, fun p hp => ?_, hJ₄⟩
        rcases List.mem_cons.mp hp with rfl | hp
        · exact ⟨hD₅.trans (congrArg some (LCg.lst_snoc ys y)), Ne.symm nLD, hD₀⟩
        · exact ⟨hs₅.extBut _ _ (off3 p hp).2.2 (N₄' p hp).1, (N₄' p hp).2⟩
      · obtain rfl : i = vs.length := Nat.le_antisymm hi (Nat.not_lt.mp hlt)
        refine W.done _ _ _ hst' fun h₂ tk₂ hk₂ => ?_
        have N₂ : News h₀ L h₂ ((D, LCg.lst ys) :: news) := LCg.news_but N' hk₂ fun p hp => by
          rcases List.mem_cons.mp hp with rfl | hp
          · exact Ne.symm nID
          · exact offI p hp
        have hCI : C ∉ [I] := by simpa using Ne.symm nIC
        refine ⟨m', hn'.at' fun o e => hk₂ _ o hCI e, fun h'' hs'' => ?_⟩
        have off1D : LCg.Off1 D news := LCg.Off3.one off₀
        subst hs2
        refine fin ys hJ' D h'' _ ((LCg.fr_but F' hk₂ hIL hI₀).change hs'' (Ne.symm nLC) hC₀) (fun p hp => ?_) off1D
        refine ⟨hs''.extBut _ _ ?_ (N₂ p hp).1, (N₂ p hp).2⟩
        rcases List.mem_cons.mp hp with rfl | hp
        · exact nDC
        · exact (off3 p hp).2.1
    · rcases List.mem_cons.mp hp with rfl | hp
      · exact ⟨hacc, Ne.symm nLD, hD₀⟩
      · exact ⟨old _ _ (N2 p hp).1, (N2 p hp).2⟩
  have := codeAny_compStart_list (key _ rfl) (W.self 0 _ _ _ hst₁ (key _ rfl))
  exact this
end
end Mine
end

section
open PySem PySem.W PyProof.Rows
set_option maxRecDepth 100000
namespace Mine
/-- the sign of one digit -/
def apD (k : Nat) : UInt8 := Nat.toUInt8 (65 + k)
def apF : Nat → Nat → List UInt8 → List UInt8
  | 0, _, v => v
  | f + 1, n, v => if n = 0 then v else apF f (n / 16) (apD (n % 16) :: v)
theorem apF_zero : ∀ (f : Nat) (v : List UInt8), apF f 0 v = v
  | 0, _ => rfl
  | _ + 1, _ => rfl
def ap (n : Nat) : List UInt8 := apF 3 n []
theorem apF_len : ∀ (f n : Nat) (v : List UInt8), (apF f n v).length ≤ v.length + f
  | 0, _, v => Nat.le_refl _
  | f + 1, n, v => by
    unfold apF
    split
    · omega
    · have := apF_len f (n / 16) (apD (n % 16) :: v)
      rw [List.length_cons] at this
      omega
theorem ap_len (n : Nat) : (ap n).length ≤ 3 := apF_len 3 n []
/-- what holds before each turn of the loop that writes the digits -/
def ApJ (N n : Nat) (v : List UInt8) : Prop := ∃ f, f ≤ 3 ∧ n < 16 ^ f ∧ v.length + f ≤ 3 ∧ apF f n v = ap N
theorem ApJ.start {N : Nat} (h : N < 4096) : ApJ N N [] := ⟨3, Nat.le_refl _, by omega, Nat.le_refl _, rfl⟩
theorem ApJ.last {N : Nat} {v : List UInt8} (h : ApJ N 0 v) : v = ap N := by
  obtain ⟨f, _, _, _, h⟩ := h
  rw [← h, apF_zero]
theorem ApJ.turn {N n : Nat} {v : List UInt8} (h : ApJ N n v) (hn : n ≠ 0) : ApJ N (n / 16) (apD (n % 16) :: v) := by
  obtain ⟨f, h1, h2, h3, h4⟩ := h
  cases f with
  | zero => omega
  | succ f =>
    refine ⟨f, by omega, ?_, by rw [List.length_cons]; omega, ?_⟩
    · rw [Nat.pow_succ] at h2
      exact Nat.div_lt_of_lt_mul (by omega)
    · rw [← h4]
      show _ = if n = 0 then v else apF f (n / 16) (apD (n % 16) :: v)
      rw [if_neg hn]
theorem ApJ.len {N n : Nat} {v : List UInt8} (h : ApJ N n v) : v.length ≤ 3 := by
  obtain ⟨f, _, _, h, _⟩ := h; omega
theorem ap_pick (k : Nat) (h : k < 16) : KBy.picked #[65, 66, 67, 68, 69, 70, 71, 72, 73, 74, 75, 76, 77, 78, 79, 80] (some ((k : Nat) : Int)) (some ((k : Nat) + 1 : Int)) = #[apD k] := by
  rw [show ((k : Nat) + 1 : Int) = ((k + 1 : Nat) : Int) by omega, pk_mid]
  rcases k with _|_|_|_|_|_|_|_|_|_|_|_|_|_|_|_|k
  all_goals first | decide | omega
end Mine
namespace Mine
theorem ap_div (n : Nat) : (n : Int).fdiv 16 = ((n / 16 : Nat) : Int) := by rw [Int.fdiv_eq_ediv_of_nonneg _ (by decide)]; rfl
theorem ap_mod (n : Nat) : (n : Int).fmod 16 = ((n % 16 : Nat) : Int) := by rw [Int.fmod_eq_emod_of_nonneg _ (by decide)]; rfl
theorem ap_abs {k : Int} {t : Tok} : some (Value.int (if k < 0 then -k else k) t) = some (.int (k.natAbs : Int) t) := by
  congr 2; split <;> omega
theorem ap_num {n : Nat} {t : Tok} : some (Value.int ((n : Int).fdiv 16) t) = some (.int ((n / 16 : Nat) : Int) t) := by rw [ap_div]
theorem ap_step {N n : Nat} {v : Array UInt8} (h : ApJ N n v.toList) (hn : (n : Int) ≠ 0) : ApJ N (n / 16) (KBy.picked #[65, 66, 67, 68, 69, 70, 71, 72, 73, 74, 75, 76, 77, 78, 79, 80] (some ((n : Int).fmod 16)) (some ((n : Int).fmod 16 + 1)) ++ v).toList := by
  rw [ap_mod, ap_pick _ (Nat.mod_lt _ (by decide)), Array.toList_append]
  exact h.turn (by omega)
theorem ap_size {n : Nat} : (KBy.picked #[65, 66, 67, 68, 69, 70, 71, 72, 73, 74, 75, 76, 77, 78, 79, 80] (some ((n : Int).fmod 16)) (some ((n : Int).fmod 16 + 1))).size = 1 := by
  rw [ap_mod, ap_pick _ (Nat.mod_lt _ (by decide))]; rfl
theorem ap_end {N n : Nat} {v : Array UInt8} {t : Tok} (h : ApJ N n v.toList) (hn : (n : Int) = 0) : Value.bytes v t = .bytes (ap N).toArray t := by
  have e : n = 0 := by omega
  subst e
  rw [← h.last]
end Mine
namespace Mine
theorem WS2 {h₀ h' : Heap} {L : Addr} {s : Shared} {J : Nat → (Str → Option Value) → List (Addr × Obj) → Prop} {Q : Flow → Shared → Prop} {n n' tk : Nat} {m₂ : Str → Option Value} {news₂ : List (Addr × Obj)}
    (F : Fr h₀ L h' m₂) (N : News h₀ L h' news₂) (hn : n' < n) (hj : J n' m₂ news₂) : WhileStep2 h₀ L s J Q n .next { s with heap := h', toks := tk } := ⟨h', tk, m₂, news₂, n', rfl, F, N, hn, hj⟩
end Mine
end

section
set_option maxRecDepth 100000
namespace Mine
/-! the law's own join, plain -/
/-- the places of the rooted parts among the first i -/
def rootIdx (xs : List (List Nat)) (i : Nat) : List Int := ((List.range i).filter fun k => (xs.getD k []).head? == some 47).map Int.ofNat
theorem rootIdx_put {xs : List (List Nat)} {i : Nat} {p : List Nat} (h : xs[i]? = some p) (hp : p.head? = some 47) : rootIdx xs (i + 1) = rootIdx xs i ++ [(i : Int)] := by
  unfold rootIdx
  rw [List.range_succ, List.filter_append, List.map_append]
  simp [List.getD_eq_getElem?_getD, h, hp]
theorem rootIdx_skip {xs : List (List Nat)} {i : Nat} {p : List Nat} (h : xs[i]? = some p) (hp : p.head? ≠ some 47) : rootIdx xs (i + 1) = rootIdx xs i := by
  unfold rootIdx
  rw [List.range_succ, List.filter_append, List.map_append]
  simp [List.getD_eq_getElem?_getD, h, hp]
def lastRoot (xs : List (List Nat)) : Nat → Nat
  | 0 => 0
  | i + 1 => if (xs.getD i []).head? = some 47 then i else lastRoot xs i
theorem lastRoot_le (xs : List (List Nat)) : ∀ i, lastRoot xs i ≤ i - 1
  | 0 => Nat.le_refl _
  | i + 1 => by
    have := lastRoot_le xs i
    unfold lastRoot
    split <;> omega
theorem rootIdx_lt (xs : List (List Nat)) (i : Nat) : ∀ a ∈ rootIdx xs i, a < (i : Int) := by
  intro a ha
  unfold rootIdx at ha
  obtain ⟨k, hk, rfl⟩ := List.mem_map.mp ha
  have := List.mem_range.mp (List.mem_filter.mp hk).1
  show (k : Int) < i
  omega
theorem rootIdx_len (xs : List (List Nat)) (i : Nat) : (rootIdx xs i).length ≤ i := by
  unfold rootIdx
  rw [List.length_map]
  exact Nat.le_trans (List.length_filter_le _ _) (by rw [List.length_range]; exact Nat.le_refl _)
theorem rootIdx_succ (xs : List (List Nat)) (i : Nat) : rootIdx xs (i + 1) = if (xs.getD i []).head? = some 47 then rootIdx xs i ++ [(i : Int)] else rootIdx xs i := by
  unfold rootIdx
  rw [List.range_succ, List.filter_append, List.map_append]
  by_cases h : (xs.getD i []).head? = some 47
  · have e : ((xs.getD i []).head? == some 47) = true := by rw [h]; rfl
    rw [if_pos h, List.filter_cons, if_pos e]; rfl
  · have e : ¬ ((xs.getD i []).head? == some 47) = true := by rw [beq_iff_eq]; exact h
    rw [if_neg h, List.filter_cons, if_neg e]
    exact List.append_nil _
theorem lastRoot_max (xs : List (List Nat)) : ∀ n, (lastRoot xs n : Int) ∈ [0] ++ rootIdx xs n ∧ ∀ a ∈ [0] ++ rootIdx xs n, a ≤ (lastRoot xs n : Int)
  | 0 => by simp [lastRoot, rootIdx]
  | n + 1 => by
    obtain ⟨h1, h2⟩ := lastRoot_max xs n
    have hlt := rootIdx_lt xs n
    rw [rootIdx_succ]
    unfold lastRoot
    by_cases h : (xs.getD n []).head? = some 47
    · rw [if_pos h, if_pos h]
      refine ⟨by simp, fun a ha => ?_⟩
      rcases List.mem_append.mp ha with ha | ha
      · have : a = 0 := by simpa using ha
        omega
      · rcases List.mem_append.mp ha with ha | ha
        · have := hlt a ha; omega
        · have : a = n := by simpa using ha
          omega
    · rw [if_neg h, if_neg h]
      exact ⟨h1, h2⟩
theorem max_is {xs : List (List Nat)} {n : Nat} {M : Int} (h1 : M ∈ [0] ++ rootIdx xs n) (h2 : ∀ a ∈ [0] ++ rootIdx xs n, a ≤ M) : M = (lastRoot xs n : Int) := by
  obtain ⟨k1, k2⟩ := lastRoot_max xs n
  have a := h2 _ k1
  have b := k2 _ h1
  omega
/-- empty parts ahead of others go -/
def strip0 : List (List Nat) → List (List Nat)
  | [] => []
  | [a] => [a]
  | a :: b :: r => if a = [] then strip0 (b :: r) else a :: b :: r
theorem strip0_one {l : List (List Nat)} (h : ¬ 1 < l.length) : strip0 l = l := by
  match l, h with
  | [], _ => rfl
  | [a], _ => rfl
  | a :: b :: r, h => exact absurd (by simp) h
theorem strip0_stay {l : List (List Nat)} {a : List Nat} (h : l[0]? = some a) (ha : a ≠ []) : strip0 l = l := by
  match l, h with
  | [b], _ => rfl
  | b :: c :: r, h =>
    have e : b = a := by simpa using h
    subst e
    show (if b = [] then _ else _) = _
    rw [if_neg ha]
theorem strip0_drop {l : List (List Nat)} (h1 : 1 < l.length) (h : l[0]? = some []) : strip0 (l.drop 1) = strip0 l := by
  match l, h1, h with
  | b :: c :: r, _, h =>
    have e : b = [] := by simpa using h
    subst e
    show strip0 (c :: r) = (if ([] : List Nat) = [] then _ else _)
    rw [if_pos rfl]
/-- a part with its closing sign -/
def slashed (p : List Nat) : List Nat := if p = [] ∨ p.getLast? = some 47 then p else p ++ [47]
def gjoin (l : List (List Nat)) : List Nat := (l.dropLast.map slashed).flatten ++ l.getLastD []
def djoin (xs : List (List Nat)) : List Nat := gjoin (strip0 (xs.drop (lastRoot xs xs.length)))
end Mine
end

section
set_option maxRecDepth 100000
namespace Mine
/-! the law's own straightening, plain -/
def droot (l : List Nat) : List Nat :=
  if l.length - (l.dropWhile (· == 47)).length = 0 then [] else if l.length - (l.dropWhile (· == 47)).length = 2 then [47, 47] else [47]
def ustep (st : List (List Nat) × Nat) (x : List Nat) : List (List Nat) × Nat :=
  if x = [46, 46] then (st.1, st.2 + 1) else if x ≠ [] ∧ x ≠ [46] then (if 0 < st.2 then (st.1, st.2 - 1) else (x :: st.1, st.2)) else st
def ufold (xs : List (List Nat)) : List (List Nat) × Nat := xs.foldl ustep ([], 0)
def dnames (l : List Nat) : List (List Nat) :=
  if droot l ≠ [] then (ufold (splitL 47 l).reverse).1 else List.replicate (ufold (splitL 47 l).reverse).2 [46, 46] ++ (ufold (splitL 47 l).reverse).1
def dstraight (l : List Nat) : List Nat := if droot l ++ joinL 47 (dnames l) = [] then [46] else droot l ++ joinL 47 (dnames l)
theorem ufold_snoc {xs : List (List Nat)} {i : Nat} {x : List Nat} (h : xs[i]? = some x) : ufold (xs.take (i + 1)) = ustep (ufold (xs.take i)) x := by
  unfold ufold
  rw [List.take_add_one, h]
  simp
theorem ustep_tot (st : List (List Nat) × Nat) (x : List Nat) : tot (ustep st x).1 + 3 * (ustep st x).2 ≤ tot st.1 + 3 * st.2 + (x.length + 1) := by
  unfold ustep
  split
  · rename_i h; subst h; simp only [List.length_cons, List.length_nil]; omega
  · split
    · split
      · dsimp only; omega
      · simp only [tot]; omega
    · omega
theorem ufold_tot : ∀ (xs : List (List Nat)) (st : List (List Nat) × Nat), tot (xs.foldl ustep st).1 + 3 * (xs.foldl ustep st).2 ≤ tot st.1 + 3 * st.2 + tot xs
  | [], st => by simp [tot]
  | x :: r, st => by
    have h1 := ufold_tot r (ustep st x)
    have h2 := ustep_tot st x
    simp only [List.foldl_cons, tot]
    omega
theorem tot_rev (xs : List (List Nat)) : tot xs.reverse = tot xs := by
  induction xs with
  | nil => rfl
  | cons x r ih => rw [List.reverse_cons, tot_app, ih]; simp only [tot]; omega
theorem u_tot (l : List Nat) (i : Nat) : tot (ufold ((splitL 47 l).reverse.take i)).1 + 3 * (ufold ((splitL 47 l).reverse.take i)).2 ≤ l.length + 1 := by
  have h1 := ufold_tot ((splitL 47 l).reverse.take i) ([], 0)
  have h2 := tot_take (splitL 47 l).reverse i
  rw [tot_rev, tot_split] at h2
  unfold ufold
  simp only [tot] at h1
  omega
theorem u_all (l : List Nat) : tot (ufold (splitL 47 l).reverse).1 + 3 * (ufold (splitL 47 l).reverse).2 ≤ l.length + 1 := by
  have := u_tot l (splitL 47 l).reverse.length
  rw [List.take_length] at this
  exact this
theorem tot_repl (n : Nat) (x : List Nat) : tot (List.replicate n x) = n * (x.length + 1) := by
  induction n with
  | zero => simp [tot]
  | succ n ih => rw [List.replicate_succ]; simp only [tot, ih]; rw [Nat.succ_mul]; omega
theorem dnames_tot (l : List Nat) : tot (dnames l) ≤ l.length + 1 := by
  have h := u_all l
  unfold dnames
  split
  · omega
  · rw [tot_app, tot_repl]; simp only [List.length_cons, List.length_nil]; omega
theorem droot_len (l : List Nat) : (droot l).length ≤ 2 := by
  unfold droot
  split
  · decide
  · split <;> decide
end Mine
end

section
set_option maxRecDepth 100000
namespace Mine
section
variable {α : Type} [DecidableEq α]
/-- join of a list of parts -/
def pall (c : α) : List (List α) → List α
  | [] => []
  | a :: r => pjoin c a r
theorem pall_len (c : α) (bs : List (List α)) : (pall c bs).length ≤ tot bs := by
  cases bs with
  | nil => exact Nat.le_refl _
  | cons a r =>
    have := pjoin_len c r a
    show (pjoin c a r).length ≤ a.length + 1 + tot r
    omega
theorem totsum (bs : List (List α)) : tot bs = bs.length + (bs.map List.length).sum := by
  induction bs with
  | nil => rfl
  | cons b r ih => simp only [tot, ih, List.length_cons, List.map_cons, List.sum_cons]; omega
theorem joinlen (c : α) : ∀ bs : List (List α), (joinL c bs).length = (bs.length - 1) + (bs.map List.length).sum
  | [] => rfl
  | [p] => by simp [joinL]
  | p :: q :: r => by
    have ih := joinlen c (q :: r)
    show (p ++ c :: joinL c (q :: r)).length = _
    rw [List.length_append, List.length_cons, ih]
    simp only [List.length_cons, List.map_cons, List.sum_cons]
    omega
theorem pnorm_len (c d : α) (l : List α) : (pnorm c d l).length ≤ l.length + 1 := by
  unfold pnorm
  split
  · simp
  · dsimp only
    split
    · simp
    · rw [List.length_append, joinlen]
      have h1 := sroot_len c l
      have h2 := nfold_tot d (decide ((sroot c l).1 ≠ [])) (splitL c (sroot c l).2) []
      rw [tot_split] at h2
      have h3 := totsum (nfold d (decide ((sroot c l).1 ≠ [])) (splitL c (sroot c l).2))
      unfold nfold at h3 ⊢
      simp only [tot] at h2
      omega
theorem tot_dr (qs : List (List α)) : ∀ k, tot (qs.drop k) ≤ tot qs := by
  induction qs with
  | nil => intro k; simp
  | cons p r ih =>
    intro k
    cases k with
    | zero => exact Nat.le_refl _
    | succ k => have := ih k; simp only [List.drop_succ_cons, tot]; omega
end
end Mine
end

section
open PySem PySem.W PyProof.Rows
namespace Mine
set_option maxRecDepth 100000
/-! the walk's lines of this text alone -/
local macro_rules | `(tactic| walk_at "call type:type") => `(tactic| ((with_reducible show wpAny _ _ (call _ [Value.bytes _ _]) _ _ _); refine call_type_of (Tx := "bytes") rfl (by decide +kernel) ?_))
local macro_rules | `(tactic| walk_at "call builtin:issubclass") => `(tactic| (k_here; k_dflt (first
  | (refine' issubclass_pair sub2_bs sub2_bb ?k1 ?_; (case k1 => exact News.get (by k_asm) (by k_mem)); k_whole)
  | (refine' issubclass_pair sub2_ss sub2_sb ?k1 ?_; (case k1 => exact News.get (by k_asm) (by k_mem)); k_whole))))
-- a call of a def whose contract is shown: «tb_rel» holds the contract
local macro_rules | `(tactic| tb_start) => `(tactic| (
  (case k1 => k_asm)
  (case k2 => k_asm)
  (case k3 => k_asm)
  (case k4 => k_asm)
  (case k5 => k_asm)
  (case kK => first | exact rfl | assumption)
  (case kd => ktr_room)
  (case ku => ktr_units)
  (case kP => first | exact True.intro | assumption | (repeat' (first | exact True.intro | k_mem | assumption | refine And.intro ?_ ?_)))
  intro t9 h9 tk9 F9 N9
  (try dsimp only)
  (try k_fold)))

section
local macro_rules | `(tactic| walk_at "exec While Name") => `(tactic| k_extra "exec While")
local macro_rules | `(tactic| walk_at "exec While Name cons nil") => `(tactic| k_extra "exec While")
local macro_rules | `(tactic| walk_at "exec While") => `(tactic| k_extra "exec While")
local macro_rules | `(tactic| walk_at "WhileStep2") => `(tactic| (k_here; (refine' WS2 ?eF ?eN ?el ?ej); (case' eF => k_asm); (case' ej => exact ⟨rfl, ⟨_, Eq.trans (b := some (Value.int (Int.fdiv _ 16) _)) rfl ap_num⟩, ⟨_, rfl⟩, _, _, rfl, ap_step (by assumption) (by assumption)⟩); (case' eN => first | k_asm | (refine' cb_drop ?cbN ?cbS; (case cbN => assumption); (case cbS => kcj_all))); (case' el => exact Nat.div_lt_self (by omega) (by decide))))
local macro_rules | `(tactic| walk_at "subscriptTail") => `(tactic| (k_here; (with_reducible show wpAny _ _ (subscriptTail _ (Expr.Slice _ _ none _) (Value.bytes _ _) (Value.ref _)) _ _ _); (with_reducible rename Fr _ _ _ _ => F'); (with_reducible rename News _ _ _ _ => N'); (refine bslice (s := ⟨_, _, _, _, _⟩) F' N' (by constructor) (by constructor) (by decide) ?_); intro _ _ _ _ _))
local macro_rules | `(tactic| walk_at "binaryOp Add bytes bytes") => `(tactic| ((refine KBy.add_bytes (by rw [ap_size]; omega) ?_); intro _ _))

set_option maxHeartbeats 8000000 in
theorem c_ap (w : World) (k : Int) (t : Tok) (hz : k.natAbs < 4096) : Tells w 136 2 noAsk [.int k t] (fun t => .bytes (ap k.natAbs).toArray t) := by
  w_on
  unfold Tells
  k_fill
  intro mean mg mb dp un gd cn cs a ccd cl outer A₀ base h₀ L m news s Q E B F X N T hk hd hu hP hret

  refine wpAny_call ?_
  k_with_none
  k_with "exec While" => (
    (rename Fr _ _ _ _ => lF'); (rename News _ _ _ _ => lN')
    refine' While_inv2 (fun n m₁ news₁ => news₁ = news ∧ (∃ t, m₁ (Str.ofString "num") = some (.int (n : Int) t)) ∧ (∃ t, m₁ (Str.ofString "AP") = some (.bytes #[65, 66, 67, 68, 69, 70, 71, 72, 73, 74, 75, 76, 77, 78, 79, 80] t)) ∧ ∃ v t, m₁ (Str.ofString "val") = some (.bytes v t) ∧ ApJ k.natAbs n v.toList) (n₀ := k.natAbs) lF' lN' ?hj ?turn
    case hj => exact ⟨rfl, ⟨_, (if_pos rfl).trans ap_abs⟩, ⟨_, rfl⟩, _, _, rfl, ApJ.start hz⟩
    case' turn =>
      clear lF' lN'
      intro n' m' news' h' tk' F' N' hJ'
      obtain ⟨hn', ⟨tn', hm'⟩, ⟨ta', ha'⟩, v', tv', hv', hJ'⟩ := hJ'
      subst hn'
      replace F' := Fr_see F' _ _ hm'
      replace F' := Fr_see F' (Str.ofString "val") _ (by rw [if_neg (by decide)]; exact hv')
      replace F' := Fr_see F' (Str.ofString "AP") _ (by rw [if_neg (by decide), if_neg (by decide)]; exact ha')
      have hz5 := hJ'.len
      rw [Array.length_toList] at hz5
      try k_fold)
  w_strict (k_dflt cell_enter; k_steps)
  all_goals try (refine' endV hret _ ?e1 ?e2 ?e3; (case e2 => k_asm); (case e3 => first | k_asm | (refine' cb_drop ?cbN ?cbS; (case cbN => assumption); (case cbS => kcj_all))); (case e1 => exact ap_end (by assumption) (by assumption)); (all_goals exact (0 : Nat)))

end

end Mine
end

section
open PySem PySem.W PyProof.Rows
namespace Mine
set_option maxRecDepth 100000
/-! the walk's lines of this text alone -/
local macro_rules | `(tactic| walk_at "call type:type") => `(tactic| ((with_reducible show wpAny _ _ (call _ [Value.bytes _ _]) _ _ _); refine call_type_of (Tx := "bytes") rfl (by decide +kernel) ?_))
local macro_rules | `(tactic| walk_at "call builtin:issubclass") => `(tactic| (k_here; k_dflt (first
  | (refine' issubclass_pair sub2_bs sub2_bb ?k1 ?_; (case k1 => exact News.get (by k_asm) (by k_mem)); k_whole)
  | (refine' issubclass_pair sub2_ss sub2_sb ?k1 ?_; (case k1 => exact News.get (by k_asm) (by k_mem)); k_whole))))
-- a call of a def whose contract is shown: «tb_rel» holds the contract
local macro_rules | `(tactic| tb_start) => `(tactic| (
  (case k1 => k_asm)
  (case k2 => k_asm)
  (case k3 => k_asm)
  (case k4 => k_asm)
  (case k5 => k_asm)
  (case kK => first | exact rfl | assumption)
  (case kd => ktr_room)
  (case ku => ktr_units)
  (case kP => first | exact True.intro | assumption | (repeat' (first | exact True.intro | k_mem | assumption | refine And.intro ?_ ?_)))
  intro t9 h9 tk9 F9 N9
  (try dsimp only)
  (try k_fold)))

/-- what the seven questions answer of a mode, in the law's order -/
def asks (n : Int) : List Bool := [8, 4, 10, 1, 12, 2, 6].map fun k => decide (n / 4096 % 16 = k)
section
local macro_rules | `(tactic| walk_at "call ref") => `(tactic| (k_here; k_dflt (first
  | (refine' Tells.use (c_isreg _ _ _ (by assumption) (by assumption)) ?k1 ?k2 ?k3 ?k4 ?k5 ?kK ?kd ?ku ?kP ?_; tb_start)
  | (refine' Tells.use (c_isdir _ _ _ (by assumption) (by assumption)) ?k1 ?k2 ?k3 ?k4 ?k5 ?kK ?kd ?ku ?kP ?_; tb_start)
  | (refine' Tells.use (c_islnk _ _ _ (by assumption) (by assumption)) ?k1 ?k2 ?k3 ?k4 ?k5 ?kK ?kd ?ku ?kP ?_; tb_start)
  | (refine' Tells.use (c_isfifo _ _ _ (by assumption) (by assumption)) ?k1 ?k2 ?k3 ?k4 ?k5 ?kK ?kd ?ku ?kP ?_; tb_start)
  | (refine' Tells.use (c_issock _ _ _ (by assumption) (by assumption)) ?k1 ?k2 ?k3 ?k4 ?k5 ?kK ?kd ?ku ?kP ?_; tb_start)
  | (refine' Tells.use (c_ischr _ _ _ (by assumption) (by assumption)) ?k1 ?k2 ?k3 ?k4 ?k5 ?kK ?kd ?ku ?kP ?_; tb_start)
  | (refine' Tells.use (c_isblk _ _ _ (by assumption) (by assumption)) ?k1 ?k2 ?k3 ?k4 ?k5 ?kK ?kd ?ku ?kP ?_; tb_start))))

set_option maxHeartbeats 8000000 in
theorem c_asked (w : World) (n : Int) (t : Tok) (h0 : 0 ≤ n) (h1 : n < 2 ^ 32) : TellsO w 218 3 noAsk [.int n t] (fun o => o = listOf ((asks n).map Value.bool).toArray 0) := by
  w_on
  unfold TellsO
  k_fill
  intro mean mg mb dp un gd cn cs a ccd cl outer A₀ base h₀ L m news s Q E B F X N T hk hd hu hP hret

  refine wpAny_call ?_
  w_strict (k_dflt cell_enter; k_steps)
  all_goals (refine' endO hret ?f ?n ?m ?s ?l ?o; (case' f => k_asm); (case' n => k_asm); (case' m => k_mem); (case' o => exact rfl); (case' s => (intro p hp; first | exact List.mem_cons_of_mem _ hp | exact List.mem_cons_of_mem _ (List.mem_cons_of_mem _ hp))); (case' l => assumption))
end

end Mine
end

section
open PySem PySem.W PyProof.Rows
namespace Mine
set_option maxRecDepth 100000
/-! the walk's lines of this text alone -/
local macro_rules | `(tactic| walk_at "call type:type") => `(tactic| ((with_reducible show wpAny _ _ (call _ [Value.bytes _ _]) _ _ _); refine call_type_of (Tx := "bytes") rfl (by decide +kernel) ?_))
local macro_rules | `(tactic| walk_at "call builtin:issubclass") => `(tactic| (k_here; k_dflt (first
  | (refine' issubclass_pair sub2_bs sub2_bb ?k1 ?_; (case k1 => exact News.get (by k_asm) (by k_mem)); k_whole)
  | (refine' issubclass_pair sub2_ss sub2_sb ?k1 ?_; (case k1 => exact News.get (by k_asm) (by k_mem)); k_whole))))
-- a call of a def whose contract is shown: «tb_rel» holds the contract
local macro_rules | `(tactic| tb_start) => `(tactic| (
  (case k1 => k_asm)
  (case k2 => k_asm)
  (case k3 => k_asm)
  (case k4 => k_asm)
  (case k5 => k_asm)
  (case kK => first | exact rfl | assumption)
  (case kd => ktr_room)
  (case ku => ktr_units)
  (case kP => first | exact True.intro | assumption | (repeat' (first | exact True.intro | k_mem | assumption | refine And.intro ?_ ?_)))
  intro t9 h9 tk9 F9 N9
  (try dsimp only)
  (try k_fold)))

/-- the part that the law makes of a word and the place of the first yes -/
def partOf (word : List UInt8) (j : Nat) : List UInt8 :=
  [word, word ++ [47], 47 :: word, [46, 46], [46], [], word ++ [47, 47, 47] ++ word, [47, 47] ++ word].getD j []
theorem asks_len (n : Int) : (asks n).length = 7 := rfl
theorem asks_short (n : Int) : (asks n).length < 1000 := by rw [asks_len]; decide
theorem idx_lt {n : Int} (h : true ∈ asks n) : (((asks n).idxOf true : Nat) : Int) < 7 := by
  have := List.idxOf_lt_length_iff.mpr h
  rw [asks_len] at this; omega
theorem idx_fit {n : Int} (h : true ∈ asks n) : (((asks n).idxOf true : Nat) : Int) < 2 ^ 63 := by
  have := idx_lt h
  omega
def askAt (n : Int) : Nat := ((asks n).idxOf true)
theorem pt_at {word : List UInt8} {j : Nat} (hj : j < 7) {q : Array UInt8} (h : [word.toArray.toList, (word.toArray ++ #[47]).toList, (#[47] ++ word.toArray).toList, (#[46, 46] : Array UInt8).toList, (#[46] : Array UInt8).toList, (#[] : Array UInt8).toList, (word.toArray ++ #[47, 47, 47] ++ word.toArray).toList][j]? = some q.toList) : q = (partOf word j).toArray := by
  apply Array.toList_inj.mp
  rcases j with _|_|_|_|_|_|_|j
  all_goals first | omega | (simp only [List.getElem?_cons_zero, List.getElem?_cons_succ, Option.some.injEq] at h; rw [← h]; simp [partOf])
theorem pt_some {m m' : Nat} {n : Int} {q : Array UInt8} {t : Tok} (e : m' = m) (ha : ((asks n).any fun x => x == true) = true) (h : [(ap m').toArray.toList, ((ap m').toArray ++ #[47]).toList, (#[47] ++ (ap m').toArray).toList, (#[46, 46] : Array UInt8).toList, (#[46] : Array UInt8).toList, (#[] : Array UInt8).toList, ((ap m').toArray ++ #[47, 47, 47] ++ (ap m').toArray).toList][(((asks n).idxOf true : Nat) : Int).toNat]? = some q.toList) :
    Value.bytes q t = .bytes (partOf (ap m) (askAt n)).toArray t := by
  subst e
  rw [pt_at (by have := idx_lt (any_mem ha); omega) h]
  rfl
theorem pt_some2 {m m' : Nat} {n : Int} {q : Array UInt8} {t : Tok} (ha : ((asks n).any fun x => x == true) = true) (h : [(ap m').toArray.toList, ((ap m').toArray ++ #[47]).toList, (#[47] ++ (ap m').toArray).toList, (#[46, 46] : Array UInt8).toList, (#[46] : Array UInt8).toList, (#[] : Array UInt8).toList, ((ap m').toArray ++ #[47, 47, 47] ++ (ap m').toArray).toList][(((asks n).idxOf true : Nat) : Int).toNat]? = some q.toList) (e : m' = m) :
    Value.bytes q t = .bytes (partOf (ap m) (askAt n)).toArray t := pt_some e ha h
theorem pt_none {m m' : Nat} {n : Int} {t : Tok} (e : m' = m) (ha : ((asks n).any fun x => x == true) = false) :
    Value.bytes (#[47, 47] ++ (ap m').toArray) t = .bytes (partOf (ap m) (askAt n)).toArray t := by
  subst e
  have e2 : askAt n = 7 := by
    unfold askAt
    rw [← asks_len n]
    apply List.idxOf_eq_length
    intro hm
    have := List.any_eq_false.mp ha true hm
    simp at this
  rw [e2]
  refine congrArg (fun q => Value.bytes q t) (Array.toList_inj.mp ?_)
  simp [partOf]
section
local macro_rules | `(tactic| walk_at "call ref") => `(tactic| (k_here; k_dflt (first
  | (refine' Tells.use (c_imode _ _ _ (by assumption) (by assumption)) ?k1 ?k2 ?k3 ?k4 ?k5 ?kK ?kd ?ku ?kP ?_; tb_start)
  | (refine' Tells.use (c_ap _ _ _ (by omega)) ?k1 ?k2 ?k3 ?k4 ?k5 ?kK ?kd ?ku ?kP ?_; tb_start)
  | (refine' TellsO.use (c_asked _ _ _ (by assumption) (by assumption)) ?k1 ?k2 ?k3 ?k4 ?k5 ?kK ?kd ?ku ?kP ?_; (case k1 => k_asm); (case k2 => k_asm); (case k3 => k_asm); (case k4 => k_asm); (case k5 => k_asm); (case kK => first | exact rfl | assumption); (case kd => ktr_room); (case ku => ktr_units); (case kP => exact True.intro); intro D9 o9 h9 tk9 hO9 F9 N9 l9; subst hO9; (try dsimp only); (try k_fold)))))
local macro_rules | `(tactic| walk_at "binaryOp Add bytes bytes") => `(tactic| ((refine KBy.add_bytes (by simp only [Array.size_append, List.size_toArray]; simp only [List.length_cons, List.length_nil, Nat.reduceAdd] at *; first | omega | (show _ + _ ≤ _; omega)) ?_); intro _ _))
local macro_rules | `(tactic| walk_at "compareOp In bool ref") => `(tactic| (k_here; refine in_bools ⟨_, News.get (by k_asm) (by k_mem), rfl, _, rfl⟩ ?_))
local macro_rules | `(tactic| walk_at "call builtin:list.index") => `(tactic| (k_here; refine index_bools ⟨_, News.get (by k_asm) (by k_mem), rfl, _, rfl⟩ (asks_short _) (any_mem (by assumption)) ?_))
local macro_rules | `(tactic| walk_at "subscriptTail") => `(tactic| ((with_reducible show wpAny _ _ (subscriptTail _ _ (Value.ref _) (Value.int _ _)) _ _ _); (with_reducible rename News _ _ _ _ => lN'); (refine itemB (vs := [_, _, _, _, _, _, _]) (.cons _ _ (.cons _ _ (.cons _ _ (.cons _ _ (.cons _ _ (.cons _ _ (.cons _ _ .nil))))))) lN' (by k_mem) (Int.natCast_nonneg _) (idx_lt (any_mem (by assumption))) (idx_fit (any_mem (by assumption))) ?_); intro q' tq' hq'))

set_option maxHeartbeats 8000000 in
theorem c_part (w : World) (n : Int) (t : Tok) (h0 : 0 ≤ n) (h1 : n < 2 ^ 32) : Tells w 225 4 noAsk [.int n t] (fun t => .bytes (partOf (ap (n % 4096).natAbs) (askAt n)).toArray t) := by
  w_on
  unfold Tells
  k_fill
  intro mean mg mb dp un gd cn cs a ccd cl outer A₀ base h₀ L m news s Q E B F X N T hk hd hu hP hret

  refine wpAny_call ?_
  have hz5 := ap_len (n % 4096).natAbs
  have hz6 := ap_len (-(n % 4096)).natAbs
  w_strict (k_dflt cell_enter; k_steps)
  all_goals first | (refine' endV hret _ ?e1 ?e2 ?e3; (case e2 => k_asm); (case e3 => first | k_asm | exact cb_drop (by assumption) (by kcj_all)); (case e1 => first | exact pt_some2 (by assumption) (by assumption) (by first | exact Int.natAbs_neg _ | rfl) | exact pt_none (by first | exact Int.natAbs_neg _ | rfl) (by assumption)); (all_goals exact (0 : Nat))) | exact endV hret _ (pt_none (by first | exact Int.natAbs_neg _ | rfl) (by assumption)) (by k_asm) (by first | k_asm | exact cb_drop (by assumption) (by kcj_all))
end

end Mine
end

section
open PySem PySem.W PyProof.Rows
namespace Mine
set_option maxRecDepth 100000
/-! the walk's lines of this text alone -/
local macro_rules | `(tactic| walk_at "call type:type") => `(tactic| ((with_reducible show wpAny _ _ (call _ [Value.bytes _ _]) _ _ _); refine call_type_of (Tx := "bytes") rfl (by decide +kernel) ?_))
local macro_rules | `(tactic| walk_at "call builtin:issubclass") => `(tactic| (k_here; k_dflt (first
  | (refine' issubclass_pair sub2_bs sub2_bb ?k1 ?_; (case k1 => exact News.get (by k_asm) (by k_mem)); k_whole)
  | (refine' issubclass_pair sub2_ss sub2_sb ?k1 ?_; (case k1 => exact News.get (by k_asm) (by k_mem)); k_whole))))
-- a call of a def whose contract is shown: «tb_rel» holds the contract
local macro_rules | `(tactic| tb_start) => `(tactic| (
  (case k1 => k_asm)
  (case k2 => k_asm)
  (case k3 => k_asm)
  (case k4 => k_asm)
  (case k5 => k_asm)
  (case kK => first | exact rfl | assumption)
  (case kd => ktr_room)
  (case ku => ktr_units)
  (case kP => first | exact True.intro | assumption | (repeat' (first | exact True.intro | k_mem | assumption | refine And.intro ?_ ?_)))
  intro t9 h9 tk9 F9 N9
  (try dsimp only)
  (try k_fold)))

/-- the part that is due, of a word and a place -/
def partN (word : List Nat) (j : Nat) : List Nat :=
  [word, word ++ [47], 47 :: word, [46, 46], [46], [], word ++ [47, 47, 47] ++ word, [47, 47] ++ word].getD j []
def signs16 : List Nat := [65, 66, 67, 68, 69, 70, 71, 72, 73, 74, 75, 76, 77, 78, 79, 80]
def wordN (r : Nat) : List Nat := ([signs16.getD (r / 256) 0] ++ [signs16.getD (r / 16 % 16) 0] ++ [signs16.getD (r % 16) 0]).dropWhile (· == 65)
def dueN (v : Int) : List Nat := partN (wordN (v / 72 % 4096).toNat) (v % 8).toNat
theorem fm {a b : Int} (h : 0 < b) : a.fmod b = a % b := Int.fmod_eq_emod_of_nonneg a (Int.le_of_lt h)
theorem fd {a b : Int} (h : 0 < b) : a.fdiv b = a / b := Int.fdiv_eq_ediv_of_nonneg a (Int.le_of_lt h)
theorem dg_a {v : Int} : 0 ≤ ((v.fdiv 72).fmod 4096).fdiv 256 ∧ (((v.fdiv 72).fmod 4096).fdiv 256).toNat < 16 := by
  rw [fd (by decide), fm (by decide), fd (by decide)]; omega
theorem dg_b {v : Int} : 0 ≤ (((v.fdiv 72).fmod 4096).fdiv 16).fmod 16 ∧ ((((v.fdiv 72).fmod 4096).fdiv 16).fmod 16).toNat < 16 := by
  rw [fd (by decide), fm (by decide), fd (by decide), fm (by decide)]; omega
theorem dg_c {v : Int} : 0 ≤ ((v.fdiv 72).fmod 4096).fmod 16 ∧ (((v.fdiv 72).fmod 4096).fmod 16).toNat < 16 := by
  rw [fd (by decide), fm (by decide), fm (by decide)]; omega
theorem s16 : Str.ofString "ABCDEFGHIJKLMNOP" = mkS signs16 := by decide +kernel
theorem s16len : (Str.ofString "ABCDEFGHIJKLMNOP").length = 16 := by decide +kernel
theorem one_len (c : Nat) : (mkS [c]).length = 1 := rfl
theorem sl2len : (Str.ofString "//").length = 2 := by decide +kernel
theorem sl3len : (Str.ofString "///").length = 3 := by decide +kernel
theorem sl3s : Str.ofString "///" = mkS [47, 47, 47] := by decide +kernel
theorem sl2s : Str.ofString "//" = mkS [47, 47] := by decide +kernel
theorem sgn {x c : Nat} (h : (sl (Str.ofString "ABCDEFGHIJKLMNOP"))[x]? = some c) : signs16.getD x 0 = c := by
  rw [s16, sl_mkS] at h
  rw [List.getD_eq_getElem?_getD, h]; rfl
theorem due_end {v : Int} {wd q : Str} {c1 c2 c3 : Nat} {t : Tok} (hc1 : (sl (Str.ofString "ABCDEFGHIJKLMNOP"))[(((v.fdiv 72).fmod 4096).fdiv 256).toNat]? = some c1) (hc2 : (sl (Str.ofString "ABCDEFGHIJKLMNOP"))[((((v.fdiv 72).fmod 4096).fdiv 16).fmod 16).toNat]? = some c2) (hc3 : (sl (Str.ofString "ABCDEFGHIJKLMNOP"))[(((v.fdiv 72).fmod 4096).fmod 16).toNat]? = some c3)
    (hw : sl wd = (sl (mkS [c1] ++ mkS [c2] ++ mkS [c3])).dropWhile (· == 65))
    (hq : [wd, wd ++ Str.ofString "/", Str.ofString "/" ++ wd, Str.ofString "..", Str.ofString ".", Str.ofString "", wd ++ Str.ofString "///" ++ wd, Str.ofString "//" ++ wd][(v.fmod 8).toNat]? = some q) : Value.str q t = .str (mkS (dueN v)) t := by
  have e0 : 0 ≤ v / 72 % 4096 := by omega
  obtain ⟨r, hr⟩ := Int.eq_ofNat_of_zero_le e0
  have hrr : (v.fdiv 72).fmod 4096 = (r : Int) := by rw [fd (by decide), fm (by decide)]; exact hr
  have w1 : sl wd = wordN r := by
    rw [hw, sl_app, sl_app, sl_mkS, sl_mkS, sl_mkS]
    unfold wordN
    rw [hrr] at hc1 hc2 hc3
    rw [fd (by decide)] at hc1
    rw [fd (by decide), fm (by decide)] at hc2
    rw [fm (by decide)] at hc3
    have g1 := sgn hc1
    have g2 := sgn hc2
    have g3 := sgn hc3
    have f1 : ((r : Int) / 256).toNat = r / 256 := by omega
    have f2 : ((r : Int) / 16 % 16).toNat = r / 16 % 16 := by omega
    have f3 : ((r : Int) % 16).toNat = r % 16 := by omega
    rw [f1] at g1
    rw [f2] at g2
    rw [f3] at g3
    rw [g1, g2, g3]
  have h2 := congrArg (Option.map sl) hq
  rw [← List.getElem?_map] at h2
  have h3 : sl q = dueN v := by
    unfold dueN partN
    have e1 : (v / 72 % 4096).toNat = r := by omega
    rw [e1, List.getD_eq_getElem?_getD]
    simp only [List.map_cons, List.map_nil, sl_app, slash, dot1, dot2, nul0, sl3s, sl2s, sl_mkS, w1] at h2
    rw [fm (by decide)] at h2
    simp only [List.cons_append, List.nil_append] at h2 ⊢
    rw [h2]; rfl
  rw [← h3]
theorem len8 {v : Int} : 0 ≤ v.fmod 8 ∧ v.fmod 8 < 8 ∧ v.fmod 8 < 2 ^ 63 := by rw [fm (by decide)]; omega
section
local macro_rules | `(tactic| walk_at "subscriptTail") => `(tactic| ((with_reducible show wpAny _ _ (subscriptTail _ _ (Value.str _ _) (Value.int _ _)) _ _ _); first
  | (refine sitem dg_a.1 (by rw [s16len]; exact dg_a.2) (by rw [s16len]; decide) ?_; intro c1 hc1)
  | (refine sitem dg_b.1 (by rw [s16len]; exact dg_b.2) (by rw [s16len]; decide) ?_; intro c2 hc2)
  | (refine sitem dg_c.1 (by rw [s16len]; exact dg_c.2) (by rw [s16len]; decide) ?_; intro c3 hc3)))
local macro_rules | `(tactic| walk_at "subscriptTail Name BinOp str int") => `(tactic| ((with_reducible show wpAny _ _ (subscriptTail _ _ (Value.str _ _) (Value.int _ _)) _ _ _); first
  | (refine sitem dg_a.1 (by rw [s16len]; exact dg_a.2) (by rw [s16len]; decide) ?_; intro c1 hc1)
  | (refine sitem dg_b.1 (by rw [s16len]; exact dg_b.2) (by rw [s16len]; decide) ?_; intro c2 hc2)
  | (refine sitem dg_c.1 (by rw [s16len]; exact dg_c.2) (by rw [s16len]; decide) ?_; intro c3 hc3)))
local macro_rules | `(tactic| walk_at "call builtin:str.lstrip") => `(tactic| ((refine slstrip (c := 65) (by decide +kernel) (by rw [sizeLine_eq]; simp only [Str.length_append, one_len]; decide) ?_); intro wd' t' k' hw' hl'; simp only [Str.length_append, one_len] at hl'))
local macro_rules | `(tactic| walk_at "subscriptTail List") => `(tactic| ((with_reducible show wpAny _ _ (subscriptTail _ _ (Value.ref _) (Value.int _ _)) _ _ _); (with_reducible rename News _ _ _ _ => lN'); (refine itemS (vs := [_, _, _, _, _, _, _, _]) (.cons _ _ (.cons _ _ (.cons _ _ (.cons _ _ (.cons _ _ (.cons _ _ (.cons _ _ (.cons _ _ .nil)))))))) lN' (by k_mem) len8.1 len8.2.1 len8.2.2 ?_); intro q' tq' hq'))
local macro_rules | `(tactic| walk_at "binaryOp Add str str") => `(tactic| ((refine sadd (by simp only [Str.length_append, one_len, slashlen, sl2len, sl3len]; first | decide | omega) ?_); intro _ _))
local macro_rules | `(tactic| walk_at "dummy 0") => `(tactic| skip)

set_option maxHeartbeats 8000000 in
theorem c_due (w : World) (v : Int) (t : Tok) : Tells w 232 1 noAsk [.int v t] (fun t => .str (mkS (dueN v)) t) := by
  w_on
  unfold Tells
  k_fill
  intro mean mg mb dp un gd cn cs a ccd cl outer A₀ base h₀ L m news s Q E B F X N T hk hd hu hP hret

  refine wpAny_call ?_
  w_strict (k_dflt cell_enter; k_steps)
  all_goals (refine' endV hret _ ?e1 ?e2 ?e3; (case e2 => k_asm); (case e3 => first | k_asm | (refine' cb_drop ?cbN ?cbS; (case cbN => assumption); (case cbS => kcj_all))); (case e1 => exact due_end (by assumption) (by assumption) (by assumption) (by assumption) (by assumption)); (all_goals exact (0 : Nat)))
end

end Mine
end

section
open PySem PySem.W PyProof.Rows
namespace Mine
set_option maxRecDepth 100000
/-! the walk's lines of this text alone -/
local macro_rules | `(tactic| walk_at "call type:type") => `(tactic| ((with_reducible show wpAny _ _ (call _ [Value.bytes _ _]) _ _ _); refine call_type_of (Tx := "bytes") rfl (by decide +kernel) ?_))
local macro_rules | `(tactic| walk_at "call builtin:issubclass") => `(tactic| (k_here; k_dflt (first
  | (refine' issubclass_pair sub2_bs sub2_bb ?k1 ?_; (case k1 => exact News.get (by k_asm) (by k_mem)); k_whole)
  | (refine' issubclass_pair sub2_ss sub2_sb ?k1 ?_; (case k1 => exact News.get (by k_asm) (by k_mem)); k_whole))))
-- a call of a def whose contract is shown: «tb_rel» holds the contract
local macro_rules | `(tactic| tb_start) => `(tactic| (
  (case k1 => k_asm)
  (case k2 => k_asm)
  (case k3 => k_asm)
  (case k4 => k_asm)
  (case k5 => k_asm)
  (case kK => first | exact rfl | assumption)
  (case kd => ktr_room)
  (case ku => ktr_units)
  (case kP => first | exact True.intro | assumption | (repeat' (first | exact True.intro | k_mem | assumption | refine And.intro ?_ ?_)))
  intro t9 h9 tk9 F9 N9
  (try dsimp only)
  (try k_fold)))

theorem head_sl {q : Str} (h : (Txt.slice q none (some 1) == Str.ofString "/") = true) : (sl q).head? = some 47 := by
  have h' := seq_y h
  rw [show sl (Txt.slice q none (some 1)) = (sl q).take 1 from sl_to q 1] at h'
  cases e : sl q with
  | nil => rw [e] at h'; exact nomatch h'
  | cons a r => rw [e] at h'; have : a = 47 := by simpa using h'
                rw [this]; rfl
theorem head_sl_n {q : Str} (h : (Txt.slice q none (some 1) == Str.ofString "/") = false) : (sl q).head? ≠ some 47 := by
  have h' := seq_n h
  rw [show sl (Txt.slice q none (some 1)) = (sl q).take 1 from sl_to q 1] at h'
  intro e
  cases e2 : sl q with
  | nil => rw [e2] at e; exact nomatch e
  | cons a r => rw [e2] at e h'; have : a = 47 := by simpa using e
                exact h' (by rw [this]; rfl)
theorem ci_put {us : List Value} {ps : List (List Nat)} {i : Nat} {q : Str} {t : Tok} (hJ : IntsAre us (rootIdx ps i)) (hq : (ps.map mkS)[(i : Int).toNat]? = some q) (h : (Txt.slice q none (some 1) == Str.ofString "/") = true) : IntsAre (us ++ [.int i t]) (rootIdx ps (i + 1)) := by
  rw [rootIdx_put (at_map (by rw [Int.toNat_natCast] at hq; exact hq)) (head_sl h)]
  exact hJ.append (.cons _ _ .nil)
theorem ci_skip {us : List Value} {ps : List (List Nat)} {i : Nat} {q : Str} (hJ : IntsAre us (rootIdx ps i)) (hq : (ps.map mkS)[(i : Int).toNat]? = some q) (h : (Txt.slice q none (some 1) == Str.ofString "/") = false) : IntsAre us (rootIdx ps (i + 1)) := by
  rw [rootIdx_skip (at_map (by rw [Int.toNat_natCast] at hq; exact hq)) (head_sl_n h)]
  exact hJ
theorem cs_snoc {us : List Value} {rs : List (List Nat)} {i : Nat} {q y : Str} {t : Tok} (hJ : StrsAre us (((rs.map slashed).take i).map mkS)) (hq : rs[i]? = some (sl q)) (h : sl y = slashed (sl q)) : StrsAre (us ++ [.str y t]) (((rs.map slashed).take (i + 1)).map mkS) := by
  have e : (rs.map slashed).take (i + 1) = (rs.map slashed).take i ++ [sl y] := by
    rw [List.take_add_one, List.getElem?_map, hq, h]; rfl
  rw [e]
  exact s_put hJ
theorem cs_1 {us : List Value} {rs : List (List Nat)} {i : Nat} {q : Str} {t : Tok} (hJ : StrsAre us (((rs.map slashed).take i).map mkS)) (hq : rs[i]? = some (sl q)) (h : (q == Str.ofString "") = true) : StrsAre (us ++ [.str q t]) (((rs.map slashed).take (i + 1)).map mkS) := by
  refine cs_snoc hJ hq ?_
  have := q_e h
  rw [nul0, sl_mkS] at this
  unfold slashed
  rw [if_pos (.inl this)]
theorem cs_2 {us : List Value} {rs : List (List Nat)} {i c : Nat} {q : Str} {t : Tok} (hJ : StrsAre us (((rs.map slashed).take i).map mkS)) (hq : rs[i]? = some (sl q)) (hc : (sl q).getLast? = some c) (h : (mkS [c] == Str.ofString "/") = true) : StrsAre (us ++ [.str q t]) (((rs.map slashed).take (i + 1)).map mkS) := by
  refine cs_snoc hJ hq ?_
  have h2 := q_e h
  rw [slash, sl_mkS, sl_mkS] at h2
  have h3 : c = 47 := by simpa using h2
  subst h3
  unfold slashed
  rw [if_pos (.inr hc)]
theorem cs_3 {us : List Value} {rs : List (List Nat)} {i c : Nat} {q : Str} {t : Tok} (hJ : StrsAre us (((rs.map slashed).take i).map mkS)) (hq : rs[i]? = some (sl q)) (h0 : (q == Str.ofString "") = false) (hc : (sl q).getLast? = some c) (h : (mkS [c] == Str.ofString "/") = false) : StrsAre (us ++ [.str (q ++ Str.ofString "/") t]) (((rs.map slashed).take (i + 1)).map mkS) := by
  refine cs_snoc hJ hq ?_
  have h1 := q_ne h0
  rw [nul0, sl_mkS] at h1
  have h2 := q_ne h
  rw [slash, sl_mkS, sl_mkS] at h2
  rw [sl_app, slash, sl_mkS]
  unfold slashed
  rw [if_neg]
  rintro (h3 | h3)
  · exact h1 h3
  · rw [hc] at h3
    exact h2 (by rw [Option.some.inj h3])
theorem nonE {q : Str} (h0 : (q == Str.ofString "") = false) : q.length ≠ 0 := by
  intro e
  have h1 := q_ne h0
  rw [nul0, sl_mkS] at h1
  exact h1 (s_e (by omega))
theorem dj_end {ps qs : List (List Nat)} {q : Str} {t : Tok} (hs : strip0 qs = strip0 (ps.drop (lastRoot ps ps.length))) (h : strip0 qs = qs) (hl : (qs.map mkS).getLast? = some q) : Value.str (mkS (qs.dropLast.map slashed).flatten ++ q) t = .str (mkS (djoin ps)) t := by
  have h1 := ns_last hl
  have e : sl (mkS (qs.dropLast.map slashed).flatten ++ q) = djoin ps := by
    rw [sl_app, sl_mkS]
    unfold djoin gjoin
    rw [← hs, h, List.getLastD_eq_getLast?, h1]
    rfl
  rw [← e]
theorem flat_len (f : List Nat → List Nat) (hf : ∀ p, (f p).length ≤ p.length + 1) : ∀ qs : List (List Nat), (qs.map f).flatten.length ≤ tot qs
  | [] => Nat.le_refl _
  | p :: r => by
    have h1 := flat_len f hf r
    have h2 := hf p
    simp only [List.map_cons, List.flatten_cons, List.length_append, tot]
    omega
theorem slashed_len (p : List Nat) : (slashed p).length ≤ p.length + 1 := by
  unfold slashed
  split
  · omega
  · simp
theorem lens_tot (f : List Nat → List Nat) (hf : ∀ p, (f p).length ≤ p.length + 1) : ∀ qs : List (List Nat), ((((qs.map f).map mkS).map (·.length)).sum + ((qs.map f).map mkS).length) ≤ 2 * tot qs
  | [] => Nat.le_refl _
  | p :: r => by
    have h1 := lens_tot f hf r
    have h2 := hf p
    simp only [List.map_cons, List.sum_cons, List.length_cons, tot, mlen] at h1 ⊢
    omega
theorem tot_drop (qs : List (List Nat)) : ∀ k, tot (qs.drop k) ≤ tot qs := by
  induction qs with
  | nil => intro k; simp
  | cons p r ih =>
    intro k
    cases k with
    | zero => exact Nat.le_refl _
    | succ k => have := ih k; simp only [List.drop_succ_cons, tot]; omega
theorem StrsAre_drop {vs : List Value} {ys : List Str} (h : StrsAre vs ys) : ∀ k, StrsAre (vs.drop k) (ys.drop k) := by
  induction h with
  | nil => intro k; simp; exact .nil
  | cons z u r ih =>
    intro k
    cases k with
    | zero => exact .cons z u r
    | succ k => exact ih k
theorem StrsAre_take {vs : List Value} {ys : List Str} (h : StrsAre vs ys) : ∀ k, StrsAre (vs.take k) (ys.take k) := by
  induction h with
  | nil => intro k; simp; exact .nil
  | cons z u r ih =>
    intro k
    cases k with
    | zero => exact .nil
    | succ k => exact .cons z u (ih k)
theorem strs_drop {vs : List Value} {ps : List (List Nat)} (h : StrsAre vs (ps.map mkS)) (k : Nat) : StrsAre (vs.drop k) ((ps.drop k).map mkS) := by
  rw [List.map_drop]; exact StrsAre_drop h k
theorem strs_init {vs : List Value} {ps : List (List Nat)} (h : StrsAre vs (ps.map mkS)) : StrsAre vs.dropLast (ps.dropLast.map mkS) := by
  have e : (ps.dropLast.map mkS) = (ps.map mkS).dropLast := by
    rw [List.dropLast_eq_take, List.dropLast_eq_take, List.map_take, List.length_map]
  rw [e, List.dropLast_eq_take, List.dropLast_eq_take, StrsAre_len h]
  exact StrsAre_take h _
theorem part_len {ps : List (List Nat)} (hz : tot ps ≤ 4096) {i : Nat} {q : Str} (h : (ps.map mkS)[i]? = some q) : q.length ≤ 4096 := by
  have := tot_get ps _ (List.mem_of_getElem? (at_map h))
  rw [sl_len] at this
  omega
theorem last_len {ps : List (List Nat)} (hz : tot ps ≤ 4096) {q : Str} (h : (ps.map mkS).getLast? = some q) : q.length ≤ 4096 := by
  rw [List.getLast?_eq_getElem?] at h
  exact part_len hz h
theorem part_len2 {ps : List (List Nat)} (hz : tot ps ≤ 4096) {i : Nat} {q : Str} (h : ps.dropLast[i]? = some (sl q)) : q.length ≤ 4096 := by
  have h1 := tot_get _ _ (List.mem_of_getElem? h)
  have h2 := tot_dropLast ps
  rw [sl_len] at h1
  omega
theorem dj_go {zs : List Value} {qs : List (List Nat)} (h : StrsAre zs (qs.map mkS)) (h1 : 1 < zs.length) {q : Str} (hq : (qs.map mkS)[(0 : Int).toNat]? = some q) (he : (q == Str.ofString "") = true) : strip0 (qs.drop 1) = strip0 qs := by
  have e : sl q = [] := (q_e he).trans (by rw [nul0])
  have hl := StrsAre_len h
  rw [List.length_map] at hl
  exact strip0_drop (by omega) (by have := (at_map hq).trans (congrArg some e); exact this)
theorem dj_stay {qs : List (List Nat)} {q : Str} (hq : (qs.map mkS)[(0 : Int).toNat]? = some q) (he : (q == Str.ofString "") = false) : strip0 qs = qs := by
  have e := q_ne he
  rw [nul0, sl_mkS] at e
  exact strip0_stay (at_map hq) e
theorem dj_one {zs : List Value} {qs : List (List Nat)} (h : StrsAre zs (qs.map mkS)) (h1 : ¬ ((zs.length : Int) > 1)) : strip0 qs = qs := by
  have hl := StrsAre_len h
  rw [List.length_map] at hl
  exact strip0_one (by omega)
theorem ite_b {b : Bool} {P R : Prop} (h1 : b = true → P) (h2 : b = false → R) : if b = true then P else R := by
  cases b with
  | true => exact h1 rfl
  | false => exact h2 rfl
section
local macro_rules | `(tactic| walk_at "ite") => `(tactic| ((with_reducible show ite ((mkS [_] == _) = true) _ _); refine ite_b (fun hb' => ?_) (fun hb' => ?_)))
local macro_rules | `(tactic| walk_at "eval ListComp") => `(tactic| (k_here; k_dflt (first
  | ((with_reducible show wpAny _ _ (eval (PySem.Expr.ListComp _ [⟨_, _, [_], _⟩] _ _) _) _ _ _); refine LCt.ListComp_T (F₀ := by k_asm) (by with_unfolding_all rfl) (by decide) (by rfl) (by decide) (by rfl) ?_)
  | ((with_reducible show wpAny _ _ (eval (PySem.Expr.ListComp _ [⟨_, _, [], _⟩] _ _) _) _ _ _); refine LCg.ListComp_U (F₀ := by k_asm) (by with_unfolding_all rfl) (by decide) (by rfl) (by decide) (by rfl) ?_))))
local macro_rules | `(tactic| walk_at "call builtin:len") => `(tactic| (k_here; (with_reducible rename News _ _ _ _ => lN'); (refine llen lN' (by k_mem) (by omega) ?_); intro t' tk'))
local macro_rules | `(tactic| walk_at "CompSrcT") => `(tactic| k_dflt (k_extra "CompSrcT"))
local macro_rules | `(tactic| walk_at "CompSrc") => `(tactic| k_dflt (k_extra "CompSrc"))
local macro_rules | `(tactic| walk_at "CEnd") => `(tactic| k_dflt (k_extra "CEnd"))
local macro_rules | `(tactic| walk_at "subscriptTail Name Name ref int") => `(tactic| k_dflt (k_extra "item"))
local macro_rules | `(tactic| walk_at "subscriptTail Name Constant ref int") => `(tactic| k_dflt (k_extra "item0"))
local macro_rules | `(tactic| walk_at "subscriptTail Subscript") => `(tactic| k_dflt (k_extra "cut1"))
local macro_rules | `(tactic| walk_at "subscriptTail Name Slice ref ref") => `(tactic| k_dflt (k_extra "cutl"))
local macro_rules | `(tactic| walk_at "binaryOp Add ref ref") => `(tactic| k_dflt (k_extra "addl"))
local macro_rules | `(tactic| walk_at "call builtin:max") => `(tactic| k_dflt (k_extra "max"))
local macro_rules | `(tactic| walk_at "exec While") => `(tactic| k_dflt (k_extra "while"))
local macro_rules | `(tactic| walk_at "exec While BoolOp") => `(tactic| k_dflt (k_extra "while"))
local macro_rules | `(tactic| walk_at "WhileStep2") => `(tactic| k_dflt (k_extra "wend"))
local macro_rules | `(tactic| walk_at "subscriptTail Name UnaryOp str int") => `(tactic| k_dflt (k_extra "last"))
local macro_rules | `(tactic| walk_at "subscriptTail Name UnaryOp ref int") => `(tactic| k_dflt (k_extra "lastl"))
local macro_rules | `(tactic| walk_at "binaryOp Add str str") => `(tactic| k_dflt (k_extra "adds"))
local macro_rules | `(tactic| walk_at "call builtin:str.join") => `(tactic| k_dflt (k_extra "joins"))

set_option maxHeartbeats 8000000 in
theorem c_djoin (w : World) (D : Addr) (nn : Nat) (vs : List Value) (ps : List (List Nat)) (hv : StrsAre vs (ps.map mkS)) (hlen : 0 < vs.length) (hlen8 : vs.length ≤ 8) (hz : tot ps ≤ 4096) : Tells w 237 2 (fun news => (D, listOf vs.toArray nn) ∈ news) [.ref D] (fun t => .str (mkS (djoin ps)) t) := by
  w_on
  unfold Tells
  k_fill
  intro mean mg mb dp un gd cn cs a ccd cl outer A₀ base h₀ L m news s Q E B F X N T hk hd hu hP hret

  replace N := News_more hP N
  replace hret := CbRet_more (D, listOf vs.toArray nn) hret
  clear hP
  have hlr := lastRoot_le ps ps.length
  have hpl : vs.length = ps.length := by rw [StrsAre_len hv, List.length_map]
  refine wpAny_call ?_
  k_with_none
  k_with "CompSrcT" => (
    (refine LCt.CompSrcT.range (by rfl) (by k_asm) (by k_asm) (by assumption) (small_one (by omega) (by omega) (by omega) (by omega)) (rangeSize_nat _ _) (by rw [sizeLine_eq]; omega) ?_)
    intro g1
    refine comp_restT (fun i us => IntsAre us (rootIdx ps i)) trivial (by constructor) ?_ ?_
    focus
      intro i' v' ys' I' oI' C' oC' D' m' h' tk' E' hi' hv' hJ' hC' hx' F' N' off' ne'
      obtain ⟨tv', hv'⟩ := hv'
      subst hv'
      rw [Int.zero_add] at hx'
      try simp only [LCg.Off3, and_true] at off'
    rotate_left
    focus
      intro ys' hJ'
      rw [show ((vs.length : Int) - 0).toNat = ps.length by omega] at hJ')
  k_with "item" => ((with_reducible rename News _ _ _ _ => lN'); (refine itemS hv lN' (by k_mem) (by omega) (by omega) (by omega) ?_); intro q' tq' hq'; have hz8 := part_len hz hq')
  k_with "cut1" => ((with_reducible rename Fr _ _ _ _ => F'); (with_reducible rename News _ _ _ _ => N'); (refine slice_strN_ns (hsz := by rw [sizeLine_eq]; omega) (s := ⟨_, _, _, _, _⟩) F' N' ?_); intro _ _ _ _ _)
  k_with "CEnd" => (     (
    refine CEnd.intro (by k_asm) (by first | k_asm | exact cb_drop (by assumption) (by kcj_all)) ?_
    first
    | exact ci_put (by assumption) (by assumption) (by assumption)
    | exact ci_skip (by assumption) (by assumption) (by assumption)
    | exact cs_1 (by assumption) (by assumption) (by assumption)
    | exact cs_2 (by assumption) (by assumption) (by assumption) (by assumption)
    | exact cs_3 (by assumption) (by assumption) (by assumption) (by assumption) (by assumption)))
  k_with "addl" => (     ((with_reducible rename Fr _ _ _ _ => lF'); (with_reducible rename News _ _ _ _ => lN'); (refine ladd lF' lN' (by k_mem) (by k_mem) (by have h9 := hJ'.length; have h10 := rootIdx_len ps ps.length; simp only [List.length_cons, List.length_nil]; omega) ?_); clear lF' lN'; intro D' h' F' N' l1; (try k_lt l1)))
  k_with "max" => (     ((with_reducible rename Fr _ _ _ _ => lF'); (with_reducible rename News _ _ _ _ => lN'); (with_reducible rename IntsAre _ (rootIdx _ _) => hI'); (refine lmax (ns := [0] ++ rootIdx ps ps.length) rfl lF' lN' (by k_mem) (IntsAre.append (.cons _ _ .nil) hI') (by simp) ?_); clear lF' lN'; intro h' M' t' tk' F' N' hM1 hM2; have hM := max_is hM1 hM2; subst hM; clear hM1 hM2 hI'))
  k_with "cutl" => (     ((with_reducible rename Fr _ _ _ _ => lF'); (with_reducible rename News _ _ _ _ => lN'); first
    | ((refine lslice (s := ⟨_, _, _, _, _⟩) lF' lN' (by k_mem) (IsPart.int _ _) IsPart.none (by omega) (pick_from (by omega)) ?_); clear lF' lN'; intro D' h' F' N' l1; (try k_lt l1))
    | ((refine lslice (s := ⟨_, _, _, _, _⟩) lF' lN' (by k_mem) IsPart.none (IsPart.int _ _) (by omega) pick_but_last ?_); clear lF' lN'; intro D' h' F' N' l1; (try k_lt l1))))
  k_with "while" => (     (
    (rename Fr _ _ _ _ => lF'); (rename News _ _ _ _ => lN')
    refine' While_one (fun n m₁ d o => m₁ (Str.ofString "rest") = some (.ref d) ∧ ∃ zs qs nr, o = listOf zs.toArray nr ∧ StrsAre zs (qs.map mkS) ∧ n = zs.length ∧ 0 < zs.length ∧ zs.length ≤ 8 ∧ tot qs ≤ 4096 ∧ strip0 qs = strip0 (ps.drop (lastRoot ps ps.length))) (n₀ := (vs.drop (lastRoot ps ps.length)).length) lF' lN' (by k_mem) ?_ ?_
    focus exact ⟨rfl, _, _, _, rfl, strs_drop hv _, rfl, by rw [List.length_drop]; omega, by rw [List.length_drop]; omega, Nat.le_trans (tot_drop _ _) hz, rfl⟩
    focus
      clear lF' lN'
      intro n' m' d' o' h' tk' F' N' hJ'
      obtain ⟨hm', zs', qs', nr', ho', hv', hn', hp', h8', hz', hs'⟩ := hJ'
      subst ho'
      subst hn'
      replace F' := Fr_see F' _ _ hm'
      have hql : zs'.length = qs'.length := by rw [StrsAre_len hv', List.length_map]
      try k_fold))
  k_with "item0" => (     ((with_reducible rename News _ _ _ _ => lN'); (rename 0 < List.length _ => hp'); (refine itemS hv' lN' (by k_mem) (by omega) (by omega) (by omega) ?_); intro q' tq' hq'))
  k_with "wend" => (     ((refine W1 (by k_asm) (by first | k_asm | exact cb_drop (by assumption) (by kcj_all)) ?_ ⟨rfl, _, _, _, rfl, strs_drop hv' 1, rfl, ?_, ?_, ?_, ?_⟩); (rw [List.length_drop]; omega); (rw [List.length_drop]; omega); (rw [List.length_drop]; omega); exact Nat.le_trans (tot_drop _ _) hz'; (rw [dj_go hv' (by omega) (by assumption) (by assumption)]; exact hs')))
  k_with "CompSrc" => (
    (
          have hvi := strs_init hv'
          refine LCg.CompSrc.ledger (by rfl) (by k_asm) (by k_asm) (by k_mem) (by rw [List.size_toArray, List.length_dropLast, sizeLine_eq]; omega) ?_
          intro g1
          refine comp_rest (fun i us => StrsAre us (((qs'.dropLast.map slashed).take i).map mkS)) (Or.inr ⟨_, by k_mem, rfl, _, rfl⟩) StrsAre.nil ?_ ?_)
    (
          intro i' v' ys' I' oI' C' oC' D' m' h' tk' E' hi' hv2' hJ' hC' hx' F' N' off' ne'
          have hv3 := (List.getElem?_toArray ..).symm.trans hv2'
          obtain ⟨y', ty', hy', hq'⟩ := StrsAre_at hvi hv3
          subst hy'
          have hq' := at_map hq'
          have hz7 := part_len2 hz' hq'
          try simp only [LCg.Off3, and_true] at off')
    rotate_left
    (intro ys' hJ'))
  k_with "last" => (     ((refine slast (nonE (by assumption)) (by omega) ?_); intro c' hc'))
  k_with "lastl" => (     ((with_reducible rename News _ _ _ _ => lN'); (refine lastS hv' lN' (by k_mem) (by omega) ?_); intro q8' tq8' hq8'; have hz9 := last_len hz' hq8'))
  k_with "adds" => (     (first
    | ((refine sadd (by rw [slashlen]; omega) ?_); intro _ _)
    | ((refine sadd (by have := flat_len slashed slashed_len qs'.dropLast; have := tot_dropLast qs'; rw [mlen]; omega) ?_); intro _ _)))
  k_with "joins" => (     (refine sjoinE (ps := qs'.dropLast.map slashed) (by first | assumption | (have h9 := hJ'; rw [List.size_toArray, List.length_dropLast, hql, ← List.length_dropLast, ← List.length_map (f := slashed), List.take_length] at h9; exact h9)) (News.get (by k_asm) (by k_mem)) (by have := lens_tot slashed slashed_len qs'.dropLast; have := tot_dropLast qs'; omega) ?_; intro _ _))
  w_strict (k_dflt (refine' code_defC ?k1 ?k2 ?k3 ?k4 ?k5 ?kA ?kF ?kK ?k6 ?k7 ?k8 ?k9 ?kB ?kD ?_ ?c2 ?c3 ?c4; (case kA => exact rfl); (case kF => exact rfl); (case kK => assumption); (case k1 => k_asm); (case k2 => k_asm); (case k3 => k_asm); (case k4 => k_asm); (case k5 => k_asm); (case k6 => k_is); (case k7 => k_is); (case k8 => ktr_room); (case k9 => exact BindsTo.of_eq rfl); (case kB => exact rfl); (case kD => decide +kernel); (case c2 => exact rfl); (case c3 => exact rfl); (case c4 => exact rfl); k_whole; intro g' L' h' tk' cells' FG' F' N' Y' B' X' T' l1; have hnl := l1; (try k_lt l1); k_cells Y'; (try simp only [List.cons_append, List.nil_append] at N'); (try dsimp only); (try k_lift B'); (try k_fold)); repeat' (first | (k_unfold; (try dsimp only)) | (k_end; wrow_close) | walk1 | (dsimp only; walk1) | (leave1; (try dsimp only))))
  all_goals (refine' endV hret _ ?e1 ?e2 ?e3; (case e2 => k_asm); (case e3 => first | k_asm | exact cb_drop (by assumption) (by kcj_all)); (case e1 => first | exact dj_end (by assumption) (dj_one (by assumption) (by assumption)) (by assumption) | exact dj_end (by assumption) (dj_stay (by assumption) (by assumption)) (by assumption)); (all_goals exact (0 : Nat)))
end

end Mine
end

section
open PySem PySem.W PyProof.Rows
namespace Mine
set_option maxRecDepth 100000
/-! the walk's lines of this text alone -/
local macro_rules | `(tactic| walk_at "call type:type") => `(tactic| ((with_reducible show wpAny _ _ (call _ [Value.bytes _ _]) _ _ _); refine call_type_of (Tx := "bytes") rfl (by decide +kernel) ?_))
local macro_rules | `(tactic| walk_at "call builtin:issubclass") => `(tactic| (k_here; k_dflt (first
  | (refine' issubclass_pair sub2_bs sub2_bb ?k1 ?_; (case k1 => exact News.get (by k_asm) (by k_mem)); k_whole)
  | (refine' issubclass_pair sub2_ss sub2_sb ?k1 ?_; (case k1 => exact News.get (by k_asm) (by k_mem)); k_whole))))
-- a call of a def whose contract is shown: «tb_rel» holds the contract
local macro_rules | `(tactic| tb_start) => `(tactic| (
  (case k1 => k_asm)
  (case k2 => k_asm)
  (case k3 => k_asm)
  (case k4 => k_asm)
  (case k5 => k_asm)
  (case kK => first | exact rfl | assumption)
  (case kd => ktr_room)
  (case ku => ktr_units)
  (case kP => first | exact True.intro | assumption | (repeat' (first | exact True.intro | k_mem | assumption | refine And.intro ?_ ?_)))
  intro t9 h9 tk9 F9 N9
  (try dsimp only)
  (try k_fold)))

theorem lts_ne {d : Nat} {r : List (Addr × Obj)} (h : ∀ p ∈ r, p.1 < d) : ∀ p ∈ r, p.1 ≠ d := fun p hp => Nat.ne_of_lt (h p hp)
theorem StrsAre_rev {vs : List Value} {ys : List Str} (h : StrsAre vs ys) : StrsAre vs.reverse ys.reverse := by
  induction h with
  | nil => exact .nil
  | cons z u r ih => rw [List.reverse_cons, List.reverse_cons]; exact StrsAre_append ih (.cons z u .nil)
/-- a way's end that leaves the heap as it stood -/
def OneS (s : Shared) (r : Str) (v : Value) (s' : Shared) : Prop := ∃ t tk, v = .str r t ∧ s' = { s with toks := tk }
theorem one_join {M : Model} {A : Around} {E : Value → Shared → Prop} {s : Shared} {c : Sem Value} {Q : Value → Shared → Prop} (r : Str) (h : wpAny M A c (OneS s r) E s) (k : ∀ t tk, Q (.str r t) { s with toks := tk }) : wpAny M A c Q E s :=
  wpAny_mono h (fun _ _ ⟨t, tk, e1, e2⟩ => by subst e1 e2; exact k t tk) fun _ _ e => e
theorem OneS.intro {s : Shared} {r : Str} {v : Value} {tk : Nat} (t : Tok) (e : v = .str r t) : OneS s r v { s with toks := tk } := ⟨t, tk, e, rfl⟩
theorem OneS.intro' {s s' : Shared} {r : Str} {v : Value} {tk : Nat} (t : Tok) (e : v = .str r t) (e2 : s' = { s with toks := tk }) : OneS s r v s' := ⟨t, tk, e, e2⟩
theorem dr_len {x wd : Str} (hw : sl wd = (sl x).dropWhile (· == 47)) : ((sl x).length - ((sl x).dropWhile (· == 47)).length : Nat) = x.length - wd.length := by
  rw [← hw, sl_len, sl_len]
theorem root0 {x wd : Str} {t : Tok} (hw : sl wd = (sl x).dropWhile (· == 47)) (h : x.length - wd.length = 0) : Value.str (Str.ofString "") t = .str (mkS (droot (sl x))) t := by
  unfold droot
  rw [dr_len hw, if_pos h, nul0]
theorem root2 {x wd : Str} {t : Tok} (hw : sl wd = (sl x).dropWhile (· == 47)) (h : x.length - wd.length = 2) : Value.str (Str.ofString "//") t = .str (mkS (droot (sl x))) t := by
  unfold droot
  rw [dr_len hw, if_neg (by omega), if_pos h, sl2s]
theorem root1 {x wd : Str} {t : Tok} (hw : sl wd = (sl x).dropWhile (· == 47)) (h0 : x.length - wd.length ≠ 0) (h : x.length - wd.length ≠ 2) : Value.str (Str.ofString "/") t = .str (mkS (droot (sl x))) t := by
  unfold droot
  rw [dr_len hw, if_neg h0, if_neg h, slash]
theorem News_3 {h₀ h : Heap} {L : Addr} {a b c : Addr × Obj} {r : List (Addr × Obj)} (N : News h₀ L h (a :: b :: c :: r)) : News h₀ L h (c :: a :: b :: r) := fun p hp => N p (by
  rcases List.mem_cons.mp hp with h | hp
  · rw [h]; simp
  · rcases List.mem_cons.mp hp with h | hp
    · rw [h]; simp
    · rcases List.mem_cons.mp hp with h | hp
      · rw [h]; simp
      · simp [hp])
theorem off3 {d a b : Nat} {oa ob : Obj} {r : List (Addr × Obj)} (h1 : a ≠ d) (h2 : b ≠ d) (h : ∀ p ∈ r, p.1 ≠ d) : ∀ p ∈ ((a : Addr), oa) :: ((b : Addr), ob) :: r, p.1 ≠ d := fun p hp => by
  rcases List.mem_cons.mp hp with e | hp
  · rw [e]; exact h1
  · rcases List.mem_cons.mp hp with e | hp
    · rw [e]; exact h2
    · exact h p hp
section
variable {vs : List Value} {xs : List (List Nat)} {i : Nat} {q : Str} {t : Tok}
theorem us_up (hq : xs[i]? = some (sl q)) (h : (q == Str.ofString "..") = true) : ufold (xs.take (i + 1)) = ((ufold (xs.take i)).1, (ufold (xs.take i)).2 + 1) := by
  rw [ufold_snoc hq]
  unfold ustep
  rw [if_pos ((q_e h).trans sd2)]
theorem us_e (hq : xs[i]? = some (sl q)) (h : (q == Str.ofString "..") = false) (h2 : (q != Str.ofString "") = false) : ufold (xs.take (i + 1)) = ufold (xs.take i) := by
  rw [ufold_snoc hq]
  unfold ustep
  rw [if_neg (fun e => q_ne h (e.trans sd2.symm)), if_neg]
  rintro ⟨h3, _⟩
  exact h3 ((q_e' h2).trans (by rw [nul0]))
theorem us_d (hq : xs[i]? = some (sl q)) (h : (q == Str.ofString "..") = false) (h2 : (q != Str.ofString ".") = false) : ufold (xs.take (i + 1)) = ufold (xs.take i) := by
  rw [ufold_snoc hq]
  unfold ustep
  rw [if_neg (fun e => q_ne h (e.trans sd2.symm)), if_neg]
  rintro ⟨_, h3⟩
  exact h3 ((q_e' h2).trans sd1)
theorem us_n (hq : xs[i]? = some (sl q)) (h : (q == Str.ofString "..") = false) (h2 : (q != Str.ofString "") = true) (h3 : (q != Str.ofString ".") = true) : ufold (xs.take (i + 1)) = if 0 < (ufold (xs.take i)).2 then ((ufold (xs.take i)).1, (ufold (xs.take i)).2 - 1) else (sl q :: (ufold (xs.take i)).1, (ufold (xs.take i)).2) := by
  rw [ufold_snoc hq]
  unfold ustep
  rw [if_neg (fun e => q_ne h (e.trans sd2.symm)), if_pos ⟨fun e => q_ne' h2 (e.trans (by rw [nul0])), fun e => q_ne' h3 (e.trans sd1.symm)⟩]
end
def UJ (x : Str) (i : Nat) (vs : List Value) (k : Int) : Prop := StrsAre vs ((ufold ((splitL 47 (sl x)).reverse.take i)).1.map mkS) ∧ k = ((ufold ((splitL 47 (sl x)).reverse.take i)).2 : Int)
theorem uj_up {x q : Str} {i : Nat} {vs : List Value} {k : Int} (hJ : UJ x i vs k) (hq : (splitL 47 (sl x)).reverse[i]? = some (sl q)) (h : (q == Str.ofString "..") = true) : UJ x (i + 1) vs (k + 1) := by
  unfold UJ
  rw [us_up hq h]
  exact ⟨hJ.1, by rw [hJ.2]; rfl⟩
theorem uj_e {x q : Str} {i : Nat} {vs : List Value} {k : Int} (hJ : UJ x i vs k) (hq : (splitL 47 (sl x)).reverse[i]? = some (sl q)) (h : (q == Str.ofString "..") = false) (h2 : (q != Str.ofString "") = false) : UJ x (i + 1) vs k := by
  unfold UJ
  rw [us_e hq h h2]
  exact hJ
theorem uj_d {x q : Str} {i : Nat} {vs : List Value} {k : Int} (hJ : UJ x i vs k) (hq : (splitL 47 (sl x)).reverse[i]? = some (sl q)) (h : (q == Str.ofString "..") = false) (h2 : (q != Str.ofString ".") = false) : UJ x (i + 1) vs k := by
  unfold UJ
  rw [us_d hq h h2]
  exact hJ
theorem uj_n {x q : Str} {i : Nat} {vs : List Value} {k : Int} (hJ : UJ x i vs k) (hq : (splitL 47 (sl x)).reverse[i]? = some (sl q)) (h : (q == Str.ofString "..") = false) (h2 : (q != Str.ofString "") = true) (h3 : (q != Str.ofString ".") = true) (h4 : 0 < k) : UJ x (i + 1) vs (k - 1) := by
  unfold UJ
  have h5 := hJ.2
  rw [us_n hq h h2 h3, if_pos (by omega)]
  exact ⟨hJ.1, by dsimp only; omega⟩
theorem uj_p {x q : Str} {t : Tok} {i : Nat} {vs : List Value} {k : Int} (hJ : UJ x i vs k) (hq : (splitL 47 (sl x)).reverse[i]? = some (sl q)) (h : (q == Str.ofString "..") = false) (h2 : (q != Str.ofString "") = true) (h3 : (q != Str.ofString ".") = true) (h4 : ¬ 0 < k) : UJ x (i + 1) (.str q t :: vs) k := by
  unfold UJ
  have h5 := hJ.2
  rw [us_n hq h h2 h3, if_neg (by omega)]
  exact ⟨.cons q t hJ.1, h5⟩
theorem UJ.fit {x : Str} {i : Nat} {vs : List Value} {k : Int} (hJ : UJ x i vs k) (hz : x.length ≤ 600) : vs.length ≤ 601 ∧ 0 ≤ k ∧ k ≤ 201 := by
  have h1 := u_tot (sl x) i
  have h2 := tot_len (ufold ((splitL 47 (sl x)).reverse.take i)).1
  have h3 := StrsAre_len hJ.1
  rw [List.length_map] at h3
  have h4 := hJ.2
  rw [sl_len] at h1
  omega
theorem name_len {x q : Str} {i : Nat} (hz : x.length ≤ 600) (hq : (splitL 47 (sl x)).reverse[i]? = some (sl q)) : q.length ≤ 600 := by
  have h1 := splitL_piece (c := 47) (sl x) (sl q) (List.mem_reverse.mp (List.mem_of_getElem? hq))
  rw [sl_len, sl_len] at h1
  omega
theorem sjoinR2 {prog : Program} {w : World} {A : Around} {E : Value → Shared → Prop} {s : Shared} {t : Tok} {Q : Value → Shared → Prop} {vs : List Value} {ps : List (List Nat)} {a : Addr} {n : Nat} (ha : s.heap.get? a = some (listOf vs.toArray n)) (hv : StrsAre vs (ps.map mkS)) (hw : ((ps.map mkS).map (·.length)).sum + (ps.map mkS).length ≤ 1048576)
    (h : ∀ t' k, Q (.str (mkS (joinL 47 ps)) t') { s with toks := k }) : wpAny (model prog w) A (call (.builtin "str.join") [.str (Str.ofString "/") t, .ref a]) Q E s := sjoinR hv ha hw h
def J7 (x : Str) (i : Nat) (m' : Str → Option Value) (d : Addr) (o : Obj) : Prop :=
  m' (Str.ofString "kept") = some (.ref d) ∧ (∃ t, m' (Str.ofString "root") = some (.str (mkS (droot (sl x))) t)) ∧ (∃ k t, m' (Str.ofString "ups") = some (.int k t) ∧ ∃ vs n, o = listOf vs.toArray n ∧ UJ x i vs k)
theorem iend7 {x : Str} {i n : Nat} {h₀ h' : Heap} {L d' : Addr} {m' : Str → Option Value} {vs : List Value} {need news' : List (Addr × Obj)} {s₁ : Shared} {tk : Nat} {k : Int} {t : Tok} (F : Fr h₀ L h' m') (N : News h₀ L h' news') (hk : m' (Str.ofString "kept") = some (.ref d')) (hd : (d', listOf vs.toArray n) ∈ news') (hn : ∀ p ∈ need, p ∈ news') (ho : ∀ p ∈ need, p.1 ≠ d')
    (hr : ∃ t, m' (Str.ofString "root") = some (.str (mkS (droot (sl x))) t)) (hu : m' (Str.ofString "ups") = some (.int k t)) (hJ : UJ x (i + 1) vs k) : InvEnd2 h₀ L (J7 x (i + 1)) need s₁ { s₁ with heap := h', toks := tk } :=
  InvEnd2.intro F N hd hn ho ⟨hk, hr, k, t, hu, vs, n, rfl, hJ⟩
theorem UJ_all {x : Str} {us vs : List Value} {k : Int} (hu : StrsAre us ((splitL 47 (sl x)).reverse.map mkS)) (hJ : UJ x us.length vs k) : StrsAre vs ((ufold (splitL 47 (sl x)).reverse).1.map mkS) ∧ k = ((ufold (splitL 47 (sl x)).reverse).2 : Int) := by
  unfold UJ at hJ
  rw [StrsAre_len hu, List.length_map, List.take_length] at hJ
  exact hJ
theorem strs_repl (n : Nat) (l : List Nat) (s : Str) (t : Tok) (hs : s = mkS l) : StrsAre (List.replicate n (Value.str s t)) ((List.replicate n l).map mkS) := by
  subst hs
  induction n with
  | zero => exact .nil
  | succ n ih => exact .cons _ _ ih
theorem ups_join {x : Str} {vs : List Value} {k : Int} {t : Tok} (h : StrsAre vs ((ufold (splitL 47 (sl x)).reverse).1.map mkS) ∧ k = ((ufold (splitL 47 (sl x)).reverse).2 : Int)) (hr : droot (sl x) = []) : StrsAre (List.replicate k.toNat (Value.str (Str.ofString "..") t) ++ vs) ((dnames (sl x)).map mkS) := by
  unfold dnames
  rw [if_neg (by rw [hr]; simp), List.map_append, h.2, Int.toNat_natCast]
  exact StrsAre_append (strs_repl _ _ _ _ dot2) h.1
theorem kept_join {x : Str} {vs : List Value} {k : Int} (h : StrsAre vs ((ufold (splitL 47 (sl x)).reverse).1.map mkS) ∧ k = ((ufold (splitL 47 (sl x)).reverse).2 : Int)) (hr : droot (sl x) ≠ []) : StrsAre vs ((dnames (sl x)).map mkS) := by
  unfold dnames
  rw [if_pos hr]
  exact h.1
theorem dn_fit {x : Str} (hz : x.length ≤ 600) : (((dnames (sl x)).map mkS).map (·.length)).sum + ((dnames (sl x)).map mkS).length ≤ 1048576 := by
  have h1 := dnames_tot (sl x)
  have h2 := lens_tot (fun p => p) (fun p => by omega) (dnames (sl x))
  rw [List.map_id'] at h2
  rw [sl_len] at h1
  omega
theorem dn_join {x : Str} (hz : x.length ≤ 600) : (mkS (joinL 47 (dnames (sl x)))).length ≤ 700 := by
  have h1 := dnames_tot (sl x)
  have h2 := tot_sum (dnames (sl x))
  rw [mlen, joinL_lenN]
  rw [sl_len] at h1
  omega
theorem dr_fit (x : Str) : (mkS (droot (sl x))).length ≤ 2 := by rw [mlen]; exact droot_len _
theorem st_a {x : Str} {t : Tok} (h : ((mkS (droot (sl x)) ++ mkS (joinL 47 (dnames (sl x)))).length : Int) ≠ 0) : Value.str (mkS (droot (sl x)) ++ mkS (joinL 47 (dnames (sl x)))) t = .str (mkS (dstraight (sl x))) t := by
  rw [app_mkS] at h ⊢
  unfold dstraight
  rw [if_neg]
  intro e
  rw [e] at h
  exact h rfl
theorem st_b {x : Str} {t : Tok} (h : ((mkS (droot (sl x)) ++ mkS (joinL 47 (dnames (sl x)))).length : Int) = 0) : Value.str (Str.ofString ".") t = .str (mkS (dstraight (sl x))) t := by
  rw [app_mkS] at h
  have e := s_e h
  rw [sl_mkS] at e
  unfold dstraight
  rw [if_pos e, dot1]
theorem dr_ne {x : Str} (h : ((mkS (droot (sl x))).length : Int) ≠ 0) : droot (sl x) ≠ [] := fun e => h (by rw [e]; rfl)
theorem dr_e {x : Str} (h : ((mkS (droot (sl x))).length : Int) = 0) : droot (sl x) = [] := s_e h
section
local macro_rules | `(tactic| walk_at "call builtin:str.lstrip") => `(tactic| ((refine slstrip (c := 47) (by exact slash) (by rw [sizeLine_eq]; omega) ?_); intro wd' t' k' hw' hl'))
local macro_rules | `(tactic| walk_at "eval IfExp") => `(tactic| ((fail_if_success (with_reducible show wpAny _ _ _ (OneS _ _) _ _)); (with_reducible show wpAny _ _ (eval (PySem.Expr.IfExp _ (PySem.Expr.Constant _ _ _) (PySem.Expr.IfExp _ _ _ _) _) _) _ _ _); k_dflt (k_extra "ifexp")))
local macro_rules | `(tactic| walk_at "OneS") => `(tactic| k_dflt (k_extra "OneS"))
local macro_rules | `(tactic| walk_at "getMethod str") => `(tactic| (k_here; with_reducible first | refine GM.split ?_ | refine GM.join ?_))
local macro_rules | `(tactic| walk_at "call builtin:str.split") => `(tactic| ((with_reducible rename Fr _ _ _ _ => lF'); (with_reducible rename News _ _ _ _ => lN'); (refine ssplit lF' lN' (by rw [sizeLine_eq]; omega) ?_); clear lF' lN'; intro D' vs' h' k' hv' F' N' l1; (try k_lt l1)))
local macro_rules | `(tactic| walk_at "exec For") => `(tactic| (k_here; (rename Fr _ _ _ _ => lF'); (with_unfolding_all refine' For_invVF lF' ?k1 ?k2 ?_; (case k1 => exact rfl); (case k2 => exact rfl); k_whole)))
local macro_rules | `(tactic| walk_at "exec For Name Subscript") => `(tactic| (k_here; (rename Fr _ _ _ _ => lF'); (with_unfolding_all refine' For_invVF lF' ?k1 ?k2 ?_; (case k1 => exact rfl); (case k2 => exact rfl); k_whole)))
local macro_rules | `(tactic| walk_at "InvPost2") => `(tactic| (dsimp only [InvPost2]))
local macro_rules | `(tactic| walk_at "pyIter ref") => `(tactic| k_dflt (k_extra "iter"))
local macro_rules | `(tactic| walk_at "InvEnd2") => `(tactic| k_dflt (k_extra "iend"))
local macro_rules | `(tactic| walk_at "subscriptTail Call") => `(tactic| k_dflt (k_extra "rev"))
local macro_rules | `(tactic| walk_at "subscriptTail Call Attribute cons nil Slice ref ref") => `(tactic| k_dflt (k_extra "rev"))
local macro_rules | `(tactic| walk_at "binaryOp Add ref ref") => `(tactic| k_dflt (k_extra "addl"))
local macro_rules | `(tactic| walk_at "binaryOp Mult ref int") => `(tactic| k_dflt (k_extra "mull"))
local macro_rules | `(tactic| walk_at "binaryOp Add str str") => `(tactic| k_dflt (k_extra "adds"))
local macro_rules | `(tactic| walk_at "call builtin:str.join") => `(tactic| k_dflt (k_extra "joins"))
local macro_rules | `(tactic| walk_at "truthy str") => `(tactic| k_dflt (k_extra "tstr"))

set_option maxHeartbeats 8000000 in
theorem c_dstraight (w : World) (x : Str) (t : Tok) (hz : x.length ≤ 600) : Tells w 244 2 noAsk [.str x t] (fun t => .str (mkS (dstraight (sl x))) t) := by
  w_on
  unfold Tells
  k_fill
  intro mean mg mb dp un gd cn cs a ccd cl outer A₀ base h₀ L m news s Q E B F X N T hk hd hu hP hret

  refine wpAny_call ?_
  k_with_none
  k_with "ifexp" => (     (refine one_join (mkS (droot (sl x))) ?_ ?_; rotate_left; intro t' tk'; rotate_left))
  k_with "OneS" => (     (first | exact OneS.intro' _ (root0 (by assumption) (by omega)) rfl | exact OneS.intro' _ (root2 (by assumption) (by omega)) rfl | exact OneS.intro' _ (root1 (by assumption) (by omega) (by omega)) rfl))
  k_with "rev" => (     ((refine kba_turn (value' := PySem.Expr.Name (PySem.Str.ofString "_") ⟨0, 0, 0, 0⟩) (fun _ => rfl) ?_); (with_reducible rename Fr _ _ _ _ => lF'); (with_reducible rename News _ _ _ _ => lN'); (rename StrsAre _ _ => hv'); (refine lrev (s := ⟨_, _, _, _, _⟩) lF' lN' (by k_mem) (IsPart.int _ _) (by have h1 := StrsAre_len hv'; have h2 := splitL_len (c := 47) (sl x); rw [sl_len] at h2; rw [List.length_map] at h1; omega) ?_); clear lF' lN'; intro D' h' F' N' l1; (try k_lt l1)))
  k_with "iter" => (     (
    (rename Fr _ _ _ _ => lF'); (rename News _ _ _ _ => lN'); (rename StrsAre _ _ => hv')
    have hvr := StrsAre_rev hv'
    rw [← List.map_reverse] at hvr
    refine iter_lst_new (J7 x) rfl (List.Mem.head _) (off3 (by omega) (by omega) (by first | exact allLt_ne (by assumption) | exact lts_ne (by assumption))) lF' (News_3 lN') ⟨rfl, ⟨_, rfl⟩, 0, _, rfl, [], 0, rfl, .nil, rfl⟩ ?_ ?_
    focus
      clear lF' lN'
      intro i' v' m' d' o' h' tk' own' hv2' hJ' hoff' F' N'
      obtain ⟨hk', ⟨tr', hr'⟩, k', tk2', hu', vs', n', ho', hJ'⟩ := hJ'
      obtain ⟨q', tq', e', hq'⟩ := StrsAre_at hvr hv2'
      subst e'
      subst ho'
      have hq' := at_map hq'
      replace F' := Fr_see F' _ _ ((if_neg (by decide)).trans hk')
      replace F' := Fr_see F' (Str.ofString "root") _ (by rw [if_neg (by decide), if_neg (by decide)]; exact hr')
      replace F' := Fr_see F' (Str.ofString "ups") _ (by rw [if_neg (by decide), if_neg (by decide), if_neg (by decide)]; exact hu')
      have hz5 := hJ'.fit hz
      have hz6 := name_len hz hq'
      try simp only [List.cons_append] at N' hoff'
      try k_fold
    rotate_left
    focus
      clear lF' lN'
      intro m' d' o' h' tk' hJ' F' N'
      obtain ⟨hk', ⟨tr', hr'⟩, k', tk2', hu', vs', n', ho', hJ'⟩ := hJ'
      subst ho'
      have hz5 := hJ'.fit hz
      have hJa := UJ_all hvr hJ'
      replace F' := Fr_see F' _ _ hk'
      replace F' := Fr_see F' (Str.ofString "root") _ (by rw [if_neg (by decide)]; exact hr')
      replace F' := Fr_see F' (Str.ofString "ups") _ (by rw [if_neg (by decide), if_neg (by decide)]; exact hu')
      try k_fold))
  k_with "iend" => (     (
    refine iend7 (by k_asm) (by k_asm) (by exact rfl) (by k_mem) (by first | exact fun p hp => .tail _ hp | exact fun p hp => .tail _ (.tail _ (.tail _ hp))) (by first | assumption | exact fun p hp => Nat.ne_of_lt (l1r p (.tail _ (.tail _ hp)))) (by exact ⟨_, rfl⟩) (by exact rfl) ?_
    first
    | exact uj_up (by assumption) (by assumption) (by assumption)
    | exact uj_e (by assumption) (by assumption) (by assumption) (by assumption)
    | exact uj_d (by assumption) (by assumption) (by assumption) (by assumption)
    | exact uj_n (by assumption) (by assumption) (by assumption) (by assumption) (by assumption) (by omega)
    | exact uj_p (by assumption) (by assumption) (by assumption) (by assumption) (by assumption) (by omega)))
  k_with "addl" => (     ((with_reducible rename Fr _ _ _ _ => lF'); (with_reducible rename News _ _ _ _ => lN'); (refine ladd lF' lN' (by k_mem) (by k_mem) (by simp only [List.length_cons, List.length_nil, List.length_replicate]; omega) ?_); clear lF' lN'; intro D' h' F' N' l1; have l1r := l1; (try k_lt l1)))
  k_with "mull" => (     ((with_reducible rename Fr _ _ _ _ => lF'); (with_reducible rename News _ _ _ _ => lN'); (refine KMa.mul lF' lN' (lN'.isList (by k_mem)) (by omega) (by omega) (by simp only [List.length_cons, List.length_nil]; omega) (List.flatten_replicate_singleton ..) ?_); clear lF' lN'; intro D' h' F' N' l1; (try k_lt l1)))
  k_with "tstr" => (     (refine struthy (by have h1 := dr_fit x; have h2 := dn_join hz; first | omega | (rw [Str.length_append]; omega)) ?_))
  k_with "joins" => (     (refine sjoinR2 (ps := dnames (sl x)) (by exact News.get (by k_asm) (by k_mem)) (by first | exact kept_join hJa (dr_ne (by assumption)) | exact ups_join hJa (dr_e (by assumption))) (dn_fit hz) ?_; intro _ _))
  k_with "adds" => (     ((refine sadd (by have h1 := dr_fit x; have h2 := dn_join hz; omega) ?_); intro _ _))
  w_strict (k_dflt cell_enter; repeat' (first | (k_unfold; (try dsimp only)) | (k_end; wrow_close) | walk1 | (dsimp only; walk1) | (leave1; (try dsimp only))))
  all_goals first | (refine' endV hret _ ?e1 ?e2 ?e3; (case e2 => k_asm); (case e3 => first | k_asm | exact cb_drop (by assumption) (by kcj_all)); (case e1 => first | exact st_a (by assumption) | exact st_b (by assumption)); (all_goals exact (0 : Nat)))
end

end Mine
end

section
open PySem PySem.W PyProof.Rows
namespace Mine
set_option maxRecDepth 100000
/-! the walk's lines of this text alone -/
local macro_rules | `(tactic| walk_at "call type:type") => `(tactic| ((with_reducible show wpAny _ _ (call _ [Value.bytes _ _]) _ _ _); refine call_type_of (Tx := "bytes") rfl (by decide +kernel) ?_))
local macro_rules | `(tactic| walk_at "call builtin:issubclass") => `(tactic| (k_here; k_dflt (first
  | (refine' issubclass_pair sub2_bs sub2_bb ?k1 ?_; (case k1 => exact News.get (by k_asm) (by k_mem)); k_whole)
  | (refine' issubclass_pair sub2_ss sub2_sb ?k1 ?_; (case k1 => exact News.get (by k_asm) (by k_mem)); k_whole))))
-- a call of a def whose contract is shown: «tb_rel» holds the contract
local macro_rules | `(tactic| tb_start) => `(tactic| (
  (case k1 => k_asm)
  (case k2 => k_asm)
  (case k3 => k_asm)
  (case k4 => k_asm)
  (case k5 => k_asm)
  (case kK => first | exact rfl | assumption)
  (case kd => ktr_room)
  (case ku => ktr_units)
  (case kP => first | exact True.intro | assumption | (repeat' (first | exact True.intro | k_mem | assumption | refine And.intro ?_ ?_)))
  intro t9 h9 tk9 F9 N9
  (try dsimp only)
  (try k_fold)))

/-- what a call gives back: one new object; C: what the heap bears at the call -/
def TellsV (w : World) (f : Addr) (d : Nat) (C : Heap → Prop) (vs : List Value) (O : Obj → Prop) : Prop :=
  ∀ (mean : ExcName → Option Value) (mg mb : Str → Option Value) (dp un : Nat) (gd : Option (List Code)) (cn : Str) (cs : Scope) (a : Addr) (ccd : Value) (cl : List (Str × Addr)) (outer : List Env) (A₀ : Around) (base h₀ : Heap) (L : Addr) (m : Str → Option Value) (news : List (Addr × Obj)) (s : Shared) (Q E : Value → Shared → Prop),
    Below A₀ base outer h₀ → Fr h₀ L s.heap m → (hd.heap_1 w.params).In h₀ → News h₀ L s.heap news → Top seenPart (looseW seenPart []) mean mg mb h₀ → cs.kind = .function → dp + d < recursionLimit → un + 8 * d < cLine → C h₀ →
    (∀ D o h' tk', O o → Fr h₀ L h' m → News h₀ L h' ((D, o) :: news) → (∀ p ∈ news, p.1 ≠ D) → Q (.ref D) { s with heap := h', toks := tk' }) →
    wpAny (model PySem.Challenge.rw_il0056_01.row.prog w) (ktrTop dp un gd cn cs L a ccd cl outer) (call (.ref f) vs) Q E s
theorem TellsV.use {w : World} {f : Addr} {d : Nat} {C : Heap → Prop} {vs : List Value} {O : Obj → Prop} (h : TellsV w f d C vs O)
  {mean : ExcName → Option Value} {mg mb : Str → Option Value} {dp un : Nat} {gd : Option (List Code)} {cn : Str} {cs : Scope} {a : Addr} {ccd : Value} {cl : List (Str × Addr)} {outer : List Env} {A₀ : Around} {base h₀ : Heap} {L : Addr} {m : Str → Option Value} {news : List (Addr × Obj)} {s : Shared} {Q E : Value → Shared → Prop}
    (hB : Below A₀ base outer h₀) (hF : Fr h₀ L s.heap m) (hX : (hd.heap_1 w.params).In h₀) (hN : News h₀ L s.heap news) (hT : Top seenPart (looseW seenPart []) mean mg mb h₀) (hk : cs.kind = .function) (hd : dp + d < recursionLimit) (hu : un + 8 * d < cLine) (hC : C h₀)
    (hr : ∀ D o h' tk', O o → Fr h₀ L h' m → News h₀ L h' ((D, o) :: news) → (∀ p ∈ news, p.1 ≠ D) → Q (.ref D) { s with heap := h', toks := tk' }) :
    wpAny (model PySem.Challenge.rw_il0056_01.row.prog w) (ktrTop dp un gd cn cs L a ccd cl outer) (call (.ref f) vs) Q E s :=
  h mean mg mb dp un gd cn cs a ccd cl outer A₀ base h₀ L m news s Q E hB hF hX hN hT hk hd hu hC hr
/-- the law's values: one to eight, small -/
def valsAre (o : Obj) : Prop := ∃ us xs n, o = listOf us.toArray n ∧ IntsAre us xs ∧ 0 < xs.length ∧ xs.length ≤ 8 ∧ ∀ v ∈ xs, 0 ≤ v ∧ v < 2 ^ 27
theorem pick_ints {vs : List Value} {ns : List Int} (hi : IntsAre vs ns) : ∀ is : List Nat, ∃ ms, IntsAre (is.filterMap (vs[·]?)) ms ∧ ∀ m ∈ ms, m ∈ ns
  | [] => ⟨[], .nil, by simp⟩
  | i :: r => by
    obtain ⟨ms, h1, h2⟩ := pick_ints hi r
    by_cases h : i < vs.length
    · obtain ⟨k, t, e1, e2⟩ := IntsAre.at hi i vs[i] (by simp [h])
      refine ⟨k :: ms, ?_, ?_⟩
      · rw [List.filterMap_cons, List.getElem?_eq_getElem h, e1]
        exact .cons k t h1
      · intro m hm
        rcases List.mem_cons.mp hm with rfl | hm
        · exact List.mem_of_getElem? e2
        · exact h2 m hm
    · refine ⟨ms, ?_, h2⟩
      rw [List.filterMap_cons, List.getElem?_eq_none (by omega)]
      exact h1
theorem pick_any {vs : List Value} {ns : List Int} (hi : IntsAre vs ns) (lo hi' st : Option Int) : ∃ ms, IntsAre (slicePick vs.toArray lo hi' st).toList ms ∧ ms.length ≤ ns.length ∧ ∀ m ∈ ms, m ∈ ns := by
  have h1 := slicePick_size_le vs.toArray lo hi' st
  unfold slicePick at h1 ⊢
  obtain ⟨ms, h2, h3⟩ := pick_ints hi (sliceRange (sliceBounds lo hi' st vs.toArray.size).1 (sliceBounds lo hi' st vs.toArray.size).2.1 (sliceBounds lo hi' st vs.toArray.size).2.2)
  have e : ∀ l : List Nat, l.filterMap (vs.toArray[·]?) = l.filterMap (vs[·]?) := fun l => by congr 1; funext i; simp
  rw [e] at h1 ⊢
  refine ⟨ms, h2, ?_, h3⟩
  rw [← h2.length, ← hi.length]
  simpa using h1
theorem sum_fit : ∀ (ms : List Int) (B : Int), (∀ m ∈ ms, 0 ≤ m ∧ m < B) → 0 ≤ ms.sum ∧ ms.sum ≤ ms.length * B
  | [], B, _ => by simp
  | m :: r, B, h => by
    have h1 := sum_fit r B fun x hx => h x (List.mem_cons_of_mem _ hx)
    have h2 := h m List.mem_cons_self
    rw [List.sum_cons, List.length_cons]
    have e : ((r.length + 1 : Nat) : Int) * B = r.length * B + B := by rw [Int.natCast_add, Int.add_mul]; simp
    rw [e]
    omega
theorem ints_snoc {us : List Value} {xs : List Int} {k : Int} {t : Tok} (h : IntsAre us xs) : IntsAre (us ++ [.int k t]) (xs ++ [k]) := h.append (.cons _ _ .nil)
def VJ (B : Int) (i : Nat) (us : List Value) : Prop := ∃ xs, IntsAre us xs ∧ xs.length = i ∧ ∀ v ∈ xs, 0 ≤ v ∧ v < B
theorem VJ.zero {B : Int} : VJ B 0 [] := ⟨[], .nil, rfl, by simp⟩
theorem VJ.put {B : Int} {i : Nat} {us : List Value} {k : Int} {t : Tok} (h : VJ B i us) (h0 : 0 ≤ k) (h1 : k < B) : VJ B (i + 1) (us ++ [.int k t]) := by
  obtain ⟨xs, a, b, c⟩ := h
  refine ⟨xs ++ [k], ints_snoc a, by rw [List.length_append, b]; rfl, fun v hv => ?_⟩
  rcases List.mem_append.mp hv with hv | hv
  · exact c v hv
  · have : v = k := by simpa using hv
    subst this; exact ⟨h0, h1⟩
theorem mod_fit {x : Int} : 0 ≤ x.fmod (10 ^ Int.toNat 6) ∧ x.fmod (10 ^ Int.toNat 6) < 1000000 := by
  have e : (10 : Int) ^ Int.toNat 6 = 1000000 := by decide
  rw [e, fm (by decide)]
  omega
theorem itemI {prog : Program} {w : World} {A : Around} {E : Value → Shared → Prop} {s : Shared} {h₀ : Heap} {L D : Addr} {news : List (Addr × Obj)} {n : Nat} {value slice : PySem.Expr} {vs : List Value} {xs : List Int} {Q : Value → Shared → Prop} {k : Int} {u : Tok} (N : News h₀ L s.heap news) (hm : (D, listOf vs.toArray n) ∈ news) (hv : IntsAre vs xs) (h0 : 0 ≤ k) (h1 : k < vs.length) (hfit : k < 2 ^ 63) (h : ∀ q t, q ∈ xs → Q (.int q t) s)
    (hs : subscripted slice false (.ref D) (.int k u) = operate [.ref D, .int k u] (getItem (.ref D) (.int k u)) := by with_unfolding_all rfl) :
    wpAny (model prog w) A (subscriptTail value slice (.ref D) (.int k u)) Q E s := by
  obtain ⟨q, t, e1, e2⟩ := IntsAre.at hv k.toNat vs[k.toNat] (List.getElem?_eq_getElem (by omega))
  exact itemV N hm h0 hfit ((List.getElem?_eq_getElem (by omega)).trans (congrArg some e1)) (h q t (List.mem_of_getElem? e2)) hs
theorem fm8 {x : Int} : 0 ≤ x.fmod 8 ∧ x.fmod 8 < 8 := by rw [fm (by decide)]; omega
theorem heads_fit {q : Int} (h : q ∈ [1297, 360, 3, 5, 1158, 4, 35497, 294840]) : 0 ≤ q ∧ q ≤ 294840 := by
  simp only [List.mem_cons, List.not_mem_nil, or_false] at h
  omega
theorem off1_ne {D : Addr} : ∀ {l : List (Addr × Obj)}, LCg.Off1 D l → ∀ p ∈ l, p.1 ≠ D
  | [], _, _, h => nomatch h
  | q :: r, h, p, hp => by
    rcases List.mem_cons.mp hp with rfl | hp
    · exact h.1
    · exact off1_ne h.2 p hp
theorem off1_5 {D : Addr} {l : List (Addr × Obj)} {A B C G H : Prop} (h : A ∧ B ∧ C ∧ G ∧ H ∧ LCg.Off1 D l) : ∀ p ∈ l, p.1 ≠ D := off1_ne h.2.2.2.2.2
theorem endV8 {h₀ h' : Heap} {L : Addr} {m : Str → Option Value} {news all : List (Addr × Obj)} {s : Shared} {Q : Value → Shared → Prop} {O : Obj → Prop} {D : Addr} {o : Obj} {tk' : Nat}
    (hret : ∀ D o h' tk', O o → Fr h₀ L h' m → News h₀ L h' ((D, o) :: news) → (∀ p ∈ news, p.1 ≠ D) → Q (.ref D) { s with heap := h', toks := tk' }) (F : Fr h₀ L h' m) (N : News h₀ L h' all) (hm : (D, o) ∈ all) (hs : ∀ p ∈ news, p ∈ all) (hl : ∀ p ∈ news, p.1 ≠ D) (ho : O o) : Q (.ref D) { s with heap := h', toks := tk' } :=
  hret D o h' tk' ho F (fun p hp => by
    rcases List.mem_cons.mp hp with rfl | hp
    · exact N _ hm
    · exact N p (hs p hp)) hl
theorem vals_of {n : Nat} {us : List Value} (h : VJ (2 ^ 27) n us) (h0 : 0 < n) (h8 : n ≤ 8) : valsAre (LCg.lst us) := by
  obtain ⟨xs, a, b, c⟩ := h
  exact ⟨us, xs, us.length, rfl, a, by omega, by omega, c⟩
def KeepP (p : Prop) : Prop := p
theorem far_ne {d b : Nat} {r : List (Addr × Obj)} (h : ∀ p ∈ r, p.1 < b) (hb : b ≤ d) : ∀ p ∈ r, p.1 ≠ d := fun p hp => Nat.ne_of_lt (Nat.lt_of_lt_of_le (h p hp) hb)
section
local macro_rules | `(tactic| k_all) => `(tactic| exact far_ne (by assumption) (by first | omega | (dsimp only; omega)))
local macro_rules | `(tactic| walk_at "eval ListComp") => `(tactic| (k_here; k_dflt ((with_reducible show wpAny _ _ (eval (PySem.Expr.ListComp _ [⟨_, _, [], _⟩] _ _) _) _ _ _); refine LCg.ListComp_U (F₀ := by k_asm) (by with_unfolding_all rfl) (by decide) (by rfl) (by decide) (by rfl) ?_)))
local macro_rules | `(tactic| walk_at "CompSrc") => `(tactic| k_dflt (k_extra "comp"))
local macro_rules | `(tactic| walk_at "CEnd") => `(tactic| k_dflt (k_extra "cend"))
local macro_rules | `(tactic| walk_at "subscriptTail Name Slice ref ref") => `(tactic| k_dflt (k_extra "cutl"))
local macro_rules | `(tactic| walk_at "subscriptTail Name Name ref int") => `(tactic| k_dflt (k_extra "item"))
local macro_rules | `(tactic| walk_at "call builtin:sum") => `(tactic| k_dflt (k_extra "sum"))

set_option maxHeartbeats 8000000 in
theorem c_values (w : World) (D : Addr) (vs : List Value) (ns : List Int) (hv : IntsAre vs ns) (hlen : vs.length ≤ 63) : TellsV w 204 2 (fun h => h.IsList D vs.toArray) [.ref D] valsAre := by
  w_on
  unfold TellsV
  k_fill
  intro mean mg mb dp un gd cn cs a ccd cl outer A₀ base h₀ L m news s Q E B F X N T hk hd hu hC hret
  refine wpAny_call ?_
  k_with_none
  k_with "cutl" => (     (first
    | ((with_reducible rename Fr _ _ _ _ => lF'); (with_reducible rename News _ _ _ _ => lN'); (refine kmk_slice_lit (s := ⟨_, _, _, _, _⟩) lF' lN' (lF'.lst hLg) IsPart.none (IsPart.int _ _) ((pick_upto (by decide)).trans (List.take_of_length_le (by omega))) ?_ (by with_unfolding_all rfl) (by intro _; with_unfolding_all rfl) (by rw [List.size_toArray, sizeLine_eq]; omega)); clear lF' lN'; intro D' h' F' N' l1; (try k_lt l1))
    | ((with_reducible rename Fr _ _ _ _ => lF'); (with_reducible rename News _ _ _ _ => lN'); (refine kmk_slice3_lit (s := ⟨_, _, _, _, _⟩) lF' lN' (lN'.isList (by k_mem)) (IsPart.int _ _) IsPart.none (IsPart.int _ _) (by decide) rfl ?_ (by with_unfolding_all rfl) (by intro _; with_unfolding_all rfl) (by rw [List.size_toArray, sizeLine_eq]; omega)); clear lF' lN'; intro D' h' F' N' l1; (try k_lt l1))))
  k_with "comp" => (     (first
    | (refine LCg.CompSrc.ledger (by rfl) (by k_asm) (by k_asm) (by k_mem) (by rw [List.size_toArray, sizeLine_eq]; omega) ?_
       intro g1
       refine comp_rest (fun i us => VJ 1000000 i us) (Or.inr ⟨_, by k_mem, rfl, _, rfl⟩) VJ.zero ?_ ?_
       focus
         intro i' v' ys' I' oI' C' oC' D' m' h' tk' E' hi' hv2' hJ' hC' hx' F' N' off' ne'
         obtain ⟨y', ty', hy', hq'⟩ := IntsAre.at hv i' _ ((List.getElem?_toArray ..).symm.trans hv2')
         subst hy'
         try simp only [LCg.Off3, and_true] at off'
       rotate_left
       focus
         intro ys' hJ'
         obtain ⟨ms, hms, hml, hmb⟩ := hJ'
         rw [List.size_toArray] at hml
         have hms0 := sum_fit ms 1000000 hmb
         have hmsK : KeepP (IntsAre ys' ms) := hms
         have hmlK : KeepP (ms.length = vs.length) := hml)
    | (have hr8 : 0 ≤ ms.sum.fmod 8 ∧ ms.sum.fmod 8 < 8 := fm8
       refine LCg.CompSrc.range (by rfl) (by k_asm) (by k_asm) (by assumption) (small_one (by omega) (by omega) (by omega) (by omega)) (rangeSize_nat _ _) (by rw [sizeLine_eq]; omega) ?_
       intro g2
       refine comp_rest (fun i us => VJ (2 ^ 27) i us) trivial VJ.zero ?_ ?_
       focus
         intro i2' v' ys2' I' oI' C' oC' D' m' h' tk' E' hi' hv2' hJ' hC' hx' F' N' off' ne'
         obtain ⟨tv', hv2'⟩ := hv2'
         subst hv2'
         rw [Int.zero_add] at hx'
         try simp only [LCg.Off3, and_true] at off'
       rotate_left
       focus
         intro ys2' hJ2')))
  k_with "cend" => (     (
    refine CEnd.intro (by k_asm) (by first | k_asm | exact cb_drop (by assumption) (by kcj_all)) ?_
    first
    | exact VJ.put (by assumption) mod_fit.1 mod_fit.2
    | exact VJ.put (by assumption) (by omega) (by omega)))
  k_with "item" => (     ((with_reducible rename News _ _ _ _ => lN'); (refine itemI (vs := [_, _, _, _, _, _, _, _]) lN' (by k_mem) (.cons _ _ (.cons _ _ (.cons _ _ (.cons _ _ (.cons _ _ (.cons _ _ (.cons _ _ (.cons _ _ .nil)))))))) (by omega) (by simp only [List.length_cons, List.length_nil]; omega) (by omega) ?_); intro q' tq' hq'; have hq8 := heads_fit hq'))
  k_with "sum" => (     ((with_reducible rename Fr _ _ _ _ => lF'); (with_reducible rename News _ _ _ _ => lN'); first
    | (refine sumK (by rfl) lF' lN' (lN'.isList (by k_mem)) hms ?_; clear lF' lN'; intro h' tk' t' F' N')
    | (obtain ⟨ms2, hp1, hp2, hp3⟩ := pick_any (show IntsAre ys' ms from hmsK) (some (i2' : Int)) none (some 8)
       have hml2 : ms.length = vs.length := hmlK
       have hs2 := sum_fit ms2 1000000 (fun x hx => hmb x (hp3 x hx))
       refine sumK (by rfl) lF' lN' (lN'.isList (by k_mem)) hp1 ?_
       clear lF' lN'
       intro h' tk' t' F' N')))
  w_strict (k_dflt (refine' code_defC ?k1 ?k2 ?k3 ?k4 ?k5 ?kA ?kF ?kK ?k6 ?k7 ?k8 ?k9 ?kB ?kD ?_ ?c2 ?c3 ?c4; (case kA => exact rfl); (case kF => exact rfl); (case kK => assumption); (case k1 => k_asm); (case k2 => k_asm); (case k3 => k_asm); (case k4 => k_asm); (case k5 => k_asm); (case k6 => k_is); (case k7 => k_is); (case k8 => ktr_room); (case k9 => exact BindsTo.of_eq rfl); (case kB => exact rfl); (case kD => decide +kernel); (case c2 => exact rfl); (case c3 => exact rfl); (case c4 => exact rfl); k_whole; intro g' L' h' tk' cells' FG' F' N' Y' B' X' T' l1; have hnl := l1; (try k_lt l1); k_cells Y'; (try simp only [List.cons_append, List.nil_append] at N'); (try dsimp only); (try k_lift B'); (try k_fold)); have hLg := FG'.lst hC; repeat' (first | (k_unfold; (try dsimp only)) | (k_end; wrow_close) | walk1 | (dsimp only; walk1) | (leave1; (try dsimp only))))
  all_goals first | (refine endV8 hret (by k_asm) (by k_asm) (by k_mem) (by kcj_all) (off1_5 (by assumption)) ?_; exact vals_of (by assumption) (by omega) (by omega))
end

end Mine
end

section
open PySem PySem.W PyProof.Rows
namespace Mine
set_option maxRecDepth 100000
/-! the walk's lines of this text alone -/
local macro_rules | `(tactic| walk_at "call type:type") => `(tactic| ((with_reducible show wpAny _ _ (call _ [Value.bytes _ _]) _ _ _); refine call_type_of (Tx := "bytes") rfl (by decide +kernel) ?_))
local macro_rules | `(tactic| walk_at "call builtin:issubclass") => `(tactic| (k_here; k_dflt (first
  | (refine' issubclass_pair sub2_bs sub2_bb ?k1 ?_; (case k1 => exact News.get (by k_asm) (by k_mem)); k_whole)
  | (refine' issubclass_pair sub2_ss sub2_sb ?k1 ?_; (case k1 => exact News.get (by k_asm) (by k_mem)); k_whole))))
-- a call of a def whose contract is shown: «tb_rel» holds the contract
local macro_rules | `(tactic| tb_start) => `(tactic| (
  (case k1 => k_asm)
  (case k2 => k_asm)
  (case k3 => k_asm)
  (case k4 => k_asm)
  (case k5 => k_asm)
  (case kK => first | exact rfl | assumption)
  (case kd => ktr_room)
  (case ku => ktr_units)
  (case kP => first | exact True.intro | assumption | (repeat' (first | exact True.intro | k_mem | assumption | refine And.intro ?_ ?_)))
  intro t9 h9 tk9 F9 N9
  (try dsimp only)
  (try k_fold)))

section
local macro_rules | `(tactic| walk_at "truthy bytes") => `(tactic| (refine truthy_bytes (by first | omega | (rw [Array.size_append]; exact afit2 (by assumption) (by assumption))) ?_))
local macro_rules | `(tactic| walk_at "getMethod bytes") => `(tactic| (k_here; with_reducible first | refine gm_bsplit ?_ | refine gm_bjoin ?_))
local macro_rules | `(tactic| walk_at "call builtin:bytes.split") => `(tactic| ((with_reducible rename Fr _ _ _ _ => lF'); (with_reducible rename News _ _ _ _ => lN'); (refine bsplit lF' lN' (by rw [sizeLine_eq]; omega) ?_); clear lF' lN'; intro D' vs' h' k' hv' F' N' l1))
local macro_rules | `(tactic| walk_at "exec For Name Name cons nil") => `(tactic| (k_here; (rename Fr _ _ _ _ => lF'); (with_unfolding_all refine' For_invVF lF' ?k1 ?k2 ?_; (case k1 => exact rfl); (case k2 => exact rfl); k_whole)))
local macro_rules | `(tactic| walk_at "call ref") => `(tactic| (k_here; k_dflt (first
  | (refine' Tells.use (c_fspath_b _ _ _) ?k1 ?k2 ?k3 ?k4 ?k5 ?kK ?kd ?ku ?kP ?_; tb_start)
  | (refine' TellsO.use (c_splitroot_b _ _ _ (by omega)) ?k1 ?k2 ?k3 ?k4 ?k5 ?kK ?kd ?ku ?kP ?_; (case k1 => k_asm); (case k2 => k_asm); (case k3 => k_asm); (case k4 => k_asm); (case k5 => k_asm); (case kK => first | exact rfl | assumption); (case kd => ktr_room); (case ku => ktr_units); (case kP => exact True.intro); intro D9 o9 h9 tk9 hO9 F9 N9 l9; obtain ⟨u1, u2, u3, hO8⟩ := hO9; subst hO8; (try dsimp only); (try k_fold)))))
local macro_rules | `(tactic| walk_at "pyIter ref") => `(tactic| k_extra "pyIter ref")
local macro_rules | `(tactic| walk_at "InvPost1") => `(tactic| (dsimp only [InvPost1]))
local macro_rules | `(tactic| walk_at "InvEnd1") => `(tactic| (k_here; (refine' InvEnd1.intro ?eF ?eN ?ed ?en ?ej); (case' eF => k_asm); (case' eN => k_asm); (case' ed => k_mem); (case' en => (intro p hp; exact List.mem_cons_of_mem _ hp)); (case' ej => (refine ⟨by first | rfl | assumption, ⟨_, rfl⟩, ⟨_, rfl⟩, ⟨_, rfl⟩, ⟨_, rfl⟩, _, _, rfl, ?_⟩; first | exact nb_e (by assumption) (by assumption) (by assumption) | exact nb_d (by assumption) (by assumption) (by assumption) | exact nb_a1 (by assumption) (by assumption) (by assumption) (by assumption) (by assumption) | exact nb_a2 (by assumption) (by assumption) (by assumption) (by assumption) (by assumption) (by assumption) | exact nb_a3 (by assumption) (by assumption) (by assumption) (by assumption) (by assumption) (by assumption) (by assumption) | exact nb_p (by assumption) (by assumption) (by assumption) (by assumption) (by assumption) (by assumption) (by assumption) (by assumption) (by assumption) | exact nb_n (by assumption) (by assumption) (by assumption) (by assumption) (by assumption) (by assumption) (by assumption)))))
local macro_rules | `(tactic| walk_at "truthy ref") => `(tactic| (k_here; (with_reducible rename News _ _ _ _ => lN'); (     (k_dflt (refine ltruthy2 lN' (by k_mem) (by with_reducible assumption) ?_))); intro _))
local macro_rules | `(tactic| walk_at "subscriptTail") => `(tactic| ((with_reducible show wpAny _ _ (subscriptTail _ _ (Value.ref _) (Value.int _ _)) _ _ _); (with_reducible rename News _ _ _ _ => lN'); (     (k_dflt (refine lastB (by with_reducible assumption) lN' (by k_mem) (ne_isE (by with_reducible assumption)) ?_))); intro q' tq' hq'))
local macro_rules | `(tactic| walk_at "subscriptTail Name UnaryOp ref int") => `(tactic| ((with_reducible show wpAny _ _ (subscriptTail _ _ (Value.ref _) (Value.int _ _)) _ _ _); (with_reducible rename News _ _ _ _ => lN'); (     (k_dflt (refine lastB (by with_reducible assumption) lN' (by k_mem) (ne_isE (by with_reducible assumption)) ?_))); intro q' tq' hq'))
local macro_rules | `(tactic| walk_at "call builtin:list.append") => `(tactic| (k_here; k_dflt (refine' lappend ?k1 ?k2 ?k3 ?k4 ?_; (case k1 => k_asm); (case k2 => k_asm); (case k3 => assumption); (case k4 => assumption); k_whole); intro h' F' N'))
local macro_rules | `(tactic| walk_at "call builtin:list.pop") => `(tactic| (k_here; k_dflt (refine' popB ?k0 ?k1 ?k2 ?k3 ?k5 ?k4 ?_; (case k0 => assumption); (case k1 => k_asm); (case k2 => k_asm); (case k3 => assumption); (case k4 => assumption); (case k5 => exact ne_isE (by assumption)); k_whole); intro h' vs' q' tq' hv' F' N'))
local macro_rules | `(tactic| walk_at "call builtin:bytes.join") => `(tactic| (k_here; k_dflt (refine' bjoin (by assumption) (News.get (by k_asm) (by k_mem)) ?k1 ?_; (case k1 => exact jfit (by assumption) (by assumption) (by assumption)); k_whole); intro _ _))
local macro_rules | `(tactic| walk_at "binaryOp Add bytes bytes") => `(tactic| ((refine KBy.add_bytes (afit (by assumption) (by assumption)) ?_); intro _ _))

set_option maxHeartbeats 2000000 in
theorem c_normpath_b (w : World) (b : Array UInt8) (t : Tok) (hz : b.size ≤ 65536) : Tells w 129 4 noAsk [.bytes b t] (fun t => .bytes (pnorm 47 46 b.toList).toArray t) := by
  w_on
  unfold Tells
  k_fill
  intro mean mg mb dp un gd cn cs a ccd cl outer A₀ base h₀ L m news s Q E B F X N T hk hd hu hP hret

  refine wpAny_call ?_
  have hz2 := sroot_len (47 : UInt8) b.toList
  have hz3 : (sroot 47 b.toList).2.toArray.size ≤ 65536 := by
    rw [Array.length_toList] at hz2
    rw [List.size_toArray]; omega
  have hz4 : (sroot 47 b.toList).1.toArray.size + (sroot 47 b.toList).2.toArray.size ≤ 65536 := by
    rw [Array.length_toList] at hz2
    rw [List.size_toArray, List.size_toArray]; omega
  have hz1 : (sroot 47 b.toList).1.toArray.size ≤ 65536 := by omega
  k_with_none
  k_with "pyIter ref" => (
    (rename Fr _ _ _ _ => lF'); (rename News _ _ _ _ => lN'); (rename BsAre _ _ => hv)
    refine' iter_lst_obj' (fun d i m' o => m' (Str.ofString "new_comps") = some (.ref d) ∧ (∃ t, m' (Str.ofString "sep") = some (.bytes #[47] t)) ∧ (∃ t, m' (Str.ofString "dot") = some (.bytes #[46] t)) ∧ (∃ t, m' (Str.ofString "dotdot") = some (.bytes #[46, 46] t)) ∧ (∃ t, m' (Str.ofString "initial_slashes") = some (.bytes (sroot 47 b.toList).1.toArray t)) ∧ ∃ vs n, o = listOf vs.toArray n ∧ BsAre vs (nfold 46 (decide ((sroot 47 b.toList).1 ≠ [])) ((splitL 47 (sroot 47 b.toList).2).take i))) ?hh (by k_mem) ?hrd lF' lN' ?hj ?turn ?done
    case hh => exact rfl
    case hrd => exact allLt_ne (by assumption)
    case hj => exact ⟨rfl, ⟨_, rfl⟩, ⟨_, rfl⟩, ⟨_, rfl⟩, ⟨_, rfl⟩, [], 0, rfl, bs_zero⟩
    case' turn =>
      clear lF' lN'
      intro i' v' m' o' h' tk' own' hv' hJ' hoff' F' N'
      obtain ⟨hn', ⟨ts', hs'⟩, ⟨td', hd'⟩, ⟨te', he'⟩, ⟨ti', hi'⟩, vs1, n1, ho', hv1⟩ := hJ'
      obtain ⟨p', t', e', hb'⟩ := hv.at hv'
      subst e'
      subst ho'
      replace F' := Fr_see F' _ _ ((if_neg (by decide)).trans hn')
      replace F' := Fr_see F' (Str.ofString "dot") _ (by rw [if_neg (by decide), if_neg (by decide)]; exact hd')
      replace F' := Fr_see F' (Str.ofString "dotdot") _ (by rw [if_neg (by decide), if_neg (by decide), if_neg (by decide)]; exact he')
      replace F' := Fr_see F' (Str.ofString "sep") _ (by rw [if_neg (by decide), if_neg (by decide), if_neg (by decide), if_neg (by decide)]; exact hs')
      replace F' := Fr_see F' (Str.ofString "initial_slashes") _ (by rw [if_neg (by decide), if_neg (by decide), if_neg (by decide), if_neg (by decide), if_neg (by decide)]; exact hi')
      have hz5 := hpart hb'
      have hz6 := hsmall hv1
      try simp only [List.cons_append] at N' hoff'
      try k_fold
    case' done =>
      clear lF' lN'
      intro m' o' h' tk' hJ' F' N'
      obtain ⟨hn', ⟨ts', hs'⟩, ⟨td', hd'⟩, ⟨te', he'⟩, ⟨ti', hi'⟩, vs1, n1, ho', hv1⟩ := hJ'
      subst ho'
      rw [hv.length, List.take_length] at hv1
      have hv2 : BsAre vs1 (nfold 46 (decide ((sroot 47 b.toList).1 ≠ [])) (splitL 47 (sroot 47 b.toList).2)) := hv1
      clear hv1
      replace F' := Fr_see F' _ _ hn'
      replace F' := Fr_see F' (Str.ofString "dot") _ (by rw [if_neg (by decide)]; exact hd')
      replace F' := Fr_see F' (Str.ofString "sep") _ (by rw [if_neg (by decide), if_neg (by decide)]; exact hs')
      replace F' := Fr_see F' (Str.ofString "initial_slashes") _ (by rw [if_neg (by decide), if_neg (by decide), if_neg (by decide)]; exact hi')
      try k_fold)
  have hsmall : ∀ {vs : List Value} {i : Nat}, BsAre vs (nfold 46 (decide ((sroot 47 b.toList).1 ≠ [])) ((splitL 47 (sroot 47 b.toList).2).take i)) → vs.length ≤ 16777216 := fun {vs i} hv => by
    have h1 := nfold_tot (46 : UInt8) (decide ((sroot 47 b.toList).1 ≠ [])) ((splitL 47 (sroot 47 b.toList).2).take i) []
    have h2 := tot_take (splitL 47 (sroot 47 b.toList).2) i
    rw [tot_split] at h2
    have h3 := tot_len (nfold 46 (decide ((sroot 47 b.toList).1 ≠ [])) ((splitL 47 (sroot 47 b.toList).2).take i))
    have h4 := hv.length
    rw [List.size_toArray] at hz3
    unfold nfold at h3 h4
    simp only [tot] at h1
    omega
  have hpart : ∀ {i : Nat} {p : Array UInt8}, (splitL 47 (sroot 47 b.toList).2)[i]? = some p.toList → p.size ≤ 65536 := fun {i p} hb => by
    have h1 := splitL_piece (c := (47 : UInt8)) _ p.toList (List.mem_of_getElem? hb)
    rw [Array.length_toList (xs := p)] at h1
    rw [List.size_toArray] at hz3
    omega
  w_strict (k_dflt cell_enter; repeat' (first | (k_unfold; (try dsimp only)) | walk1 | (dsimp only; walk1) | (leave1; (try dsimp only))))
  all_goals try (refine' endV hret _ ?e1 ?e2 ?e3; (case e2 => k_asm); (case e3 => first | k_asm | exact cb_drop (by assumption) (by kcj_all)); (case e1 => first | exact pn_empty (b := b) (by assumption) | exact pn_dot (b := b) (by assumption) (by assumption) | exact pn_some (b := b) (by assumption) (by assumption)); (all_goals exact (0 : Nat)))
  all_goals (try walk_at "InvEnd1")



end

end Mine
end

section
open PySem PySem.W PyProof.Rows
namespace Mine
set_option maxRecDepth 100000
/-! the walk's lines of this text alone -/
local macro_rules | `(tactic| walk_at "call type:type") => `(tactic| ((with_reducible show wpAny _ _ (call _ [Value.bytes _ _]) _ _ _); refine call_type_of (Tx := "bytes") rfl (by decide +kernel) ?_))
local macro_rules | `(tactic| walk_at "call builtin:issubclass") => `(tactic| (k_here; k_dflt (first
  | (refine' issubclass_pair sub2_bs sub2_bb ?k1 ?_; (case k1 => exact News.get (by k_asm) (by k_mem)); k_whole)
  | (refine' issubclass_pair sub2_ss sub2_sb ?k1 ?_; (case k1 => exact News.get (by k_asm) (by k_mem)); k_whole))))
-- a call of a def whose contract is shown: «tb_rel» holds the contract
local macro_rules | `(tactic| tb_start) => `(tactic| (
  (case k1 => k_asm)
  (case k2 => k_asm)
  (case k3 => k_asm)
  (case k4 => k_asm)
  (case k5 => k_asm)
  (case kK => first | exact rfl | assumption)
  (case kd => ktr_room)
  (case ku => ktr_units)
  (case kP => first | exact True.intro | assumption | (repeat' (first | exact True.intro | k_mem | assumption | refine And.intro ?_ ?_)))
  intro t9 h9 tk9 F9 N9
  (try dsimp only)
  (try k_fold)))

section
local macro_rules | `(tactic| walk_at "truthy str") => `(tactic| (refine struthy (by first | omega | (rw [Str.length_append]; exact afit2S (by assumption))) ?_))
local macro_rules | `(tactic| walk_at "getMethod str") => `(tactic| (k_here; with_reducible first | refine GM.split ?_ | refine GM.join ?_))
local macro_rules | `(tactic| walk_at "call builtin:str.split") => `(tactic| ((with_reducible rename Fr _ _ _ _ => lF'); (with_reducible rename News _ _ _ _ => lN'); (refine ssplit lF' lN' (by rw [sizeLine_eq]; omega) ?_); clear lF' lN'; intro D' vs' h' k' hv' F' N' l1))
local macro_rules | `(tactic| walk_at "exec For Name Name cons nil") => `(tactic| (k_here; (rename Fr _ _ _ _ => lF'); (with_unfolding_all refine' For_invVF lF' ?k1 ?k2 ?_; (case k1 => exact rfl); (case k2 => exact rfl); k_whole)))
local macro_rules | `(tactic| walk_at "call ref") => `(tactic| (k_here; k_dflt (first
  | (refine' Tells.use (c_fspath_s _ _ _) ?k1 ?k2 ?k3 ?k4 ?k5 ?kK ?kd ?ku ?kP ?_; tb_start)
  | (refine' TellsO.use (c_splitroot_s _ _ _ (by omega)) ?k1 ?k2 ?k3 ?k4 ?k5 ?kK ?kd ?ku ?kP ?_; (case k1 => k_asm); (case k2 => k_asm); (case k3 => k_asm); (case k4 => k_asm); (case k5 => k_asm); (case kK => first | exact rfl | assumption); (case kd => ktr_room); (case ku => ktr_units); (case kP => exact True.intro); intro D9 o9 h9 tk9 hO9 F9 N9 l9; obtain ⟨u1, u2, u3, hO8⟩ := hO9; subst hO8; (try dsimp only); (try k_fold)))))
local macro_rules | `(tactic| walk_at "pyIter ref") => `(tactic| k_extra "pyIter ref")
local macro_rules | `(tactic| walk_at "InvPost1") => `(tactic| (dsimp only [InvPost1]))
local macro_rules | `(tactic| walk_at "InvEnd1") => `(tactic| (k_here; (refine' InvEnd1.intro ?eF ?eN ?ed ?en ?ej); (case' eF => k_asm); (case' eN => k_asm); (case' ed => k_mem); (case' en => (intro p hp; exact List.mem_cons_of_mem _ hp)); (case' ej => (refine ⟨by first | rfl | assumption, ⟨_, rfl⟩, ⟨_, rfl⟩, ⟨_, rfl⟩, ⟨_, rfl⟩, _, _, rfl, ?_⟩; first | exact ns_e (by assumption) (by assumption) (by assumption) | exact ns_d (by assumption) (by assumption) (by assumption) | exact ns_a1 (by assumption) (by assumption) (by assumption) (by assumption) (by assumption) | exact ns_a2 (by assumption) (by assumption) (by assumption) (by assumption) (by assumption) (by assumption) | exact ns_a3 (by assumption) (by assumption) (by assumption) (by assumption) (by assumption) (by assumption) (by assumption) | exact ns_p (by assumption) (by assumption) (by assumption) (by assumption) (by assumption) (by assumption) (by assumption) (by assumption) (by assumption) | exact ns_n (by assumption) (by assumption) (by assumption) (by assumption) (by assumption) (by assumption) (by assumption)))))
local macro_rules | `(tactic| walk_at "truthy ref") => `(tactic| (k_here; (with_reducible rename News _ _ _ _ => lN'); (     (k_dflt (refine ltruthy2 lN' (by k_mem) (by with_reducible assumption) ?_))); intro _))
local macro_rules | `(tactic| walk_at "subscriptTail") => `(tactic| ((with_reducible show wpAny _ _ (subscriptTail _ _ (Value.ref _) (Value.int _ _)) _ _ _); (with_reducible rename News _ _ _ _ => lN'); (     (k_dflt (refine lastS (by with_reducible assumption) lN' (by k_mem) (ne_isE (by with_reducible assumption)) ?_))); intro q' tq' hq'))
local macro_rules | `(tactic| walk_at "subscriptTail Name UnaryOp ref int") => `(tactic| ((with_reducible show wpAny _ _ (subscriptTail _ _ (Value.ref _) (Value.int _ _)) _ _ _); (with_reducible rename News _ _ _ _ => lN'); (     (k_dflt (refine lastS (by with_reducible assumption) lN' (by k_mem) (ne_isE (by with_reducible assumption)) ?_))); intro q' tq' hq'))
local macro_rules | `(tactic| walk_at "call builtin:list.append") => `(tactic| (k_here; k_dflt (refine' lappend ?k1 ?k2 ?k3 ?k4 ?_; (case k1 => k_asm); (case k2 => k_asm); (case k3 => assumption); (case k4 => assumption); k_whole); intro h' F' N'))
local macro_rules | `(tactic| walk_at "call builtin:list.pop") => `(tactic| (k_here; k_dflt (refine' popS ?k0 ?k1 ?k2 ?k3 ?k5 ?k4 ?_; (case k0 => assumption); (case k1 => k_asm); (case k2 => k_asm); (case k3 => assumption); (case k4 => assumption); (case k5 => exact ne_isE (by assumption)); k_whole); intro h' vs' q' tq' hv' F' N'))
local macro_rules | `(tactic| walk_at "call builtin:str.join") => `(tactic| (k_here; k_dflt (refine' sjoinR (by assumption) (News.get (by k_asm) (by k_mem)) ?k1 ?_; (case k1 => exact jfitS (by assumption)); k_whole); intro _ _))
local macro_rules | `(tactic| walk_at "binaryOp Add str str") => `(tactic| ((refine sadd (afitS (by assumption)) ?_); intro _ _))
local macro_rules | `(tactic| walk_at "dummy 0") => `(tactic| skip)

set_option maxHeartbeats 2000000 in
theorem c_normpath_s (w : World) (b : Str) (t : Tok) (hz : b.length ≤ 65536) : Tells w 129 4 noAsk [.str b t] (fun t => .str (mkS (pnorm 47 46 (sl b))) t) := by
  w_on
  unfold Tells
  k_fill
  intro mean mg mb dp un gd cn cs a ccd cl outer A₀ base h₀ L m news s Q E B F X N T hk hd hu hP hret

  refine wpAny_call ?_
  have hz2 := sroot_len (47 : Nat) (sl b)
  have hz3 : (mkS (sroot 47 (sl b)).2).length ≤ 65536 := by
    rw [sl_len] at hz2
    rw [mlen]; omega
  have hz4 : (mkS (sroot 47 (sl b)).1).length + (mkS (sroot 47 (sl b)).2).length ≤ 65536 := by
    rw [sl_len] at hz2
    rw [mlen, mlen]; omega
  have hz1 : (mkS (sroot 47 (sl b)).1).length ≤ 65536 := by omega
  k_with_none
  k_with "pyIter ref" => (
    (rename Fr _ _ _ _ => lF'); (rename News _ _ _ _ => lN'); (rename StrsAre _ _ => hv)
    refine' iter_lst_obj' (fun d i m' o => m' (Str.ofString "new_comps") = some (.ref d) ∧ (∃ t, m' (Str.ofString "sep") = some (.str (Str.ofString "/") t)) ∧ (∃ t, m' (Str.ofString "dot") = some (.str (Str.ofString ".") t)) ∧ (∃ t, m' (Str.ofString "dotdot") = some (.str (Str.ofString "..") t)) ∧ (∃ t, m' (Str.ofString "initial_slashes") = some (.str (mkS (sroot 47 (sl b)).1) t)) ∧ ∃ vs n, o = listOf vs.toArray n ∧ StrsAre vs ((nfold 46 (decide ((sroot 47 (sl b)).1 ≠ [])) ((splitL 47 (sroot 47 (sl b)).2).take i)).map mkS)) ?hh (by k_mem) ?hrd lF' lN' ?hj ?turn ?done
    case hh => exact rfl
    case hrd => exact allLt_ne (by assumption)
    case hj => exact ⟨rfl, ⟨_, rfl⟩, ⟨_, rfl⟩, ⟨_, rfl⟩, ⟨_, rfl⟩, [], 0, rfl, ss_zero⟩
    case' turn =>
      clear lF' lN'
      intro i' v' m' o' h' tk' own' hv' hJ' hoff' F' N'
      obtain ⟨hn', ⟨ts', hs'⟩, ⟨td', hd'⟩, ⟨te', he'⟩, ⟨ti', hi'⟩, vs1, n1, ho', hv1⟩ := hJ'
      obtain ⟨p', t', e', hb1'⟩ := StrsAre_at hv hv'
      have hb' := at_map hb1'
      subst e'
      subst ho'
      replace F' := Fr_see F' _ _ ((if_neg (by decide)).trans hn')
      replace F' := Fr_see F' (Str.ofString "dot") _ (by rw [if_neg (by decide), if_neg (by decide)]; exact hd')
      replace F' := Fr_see F' (Str.ofString "dotdot") _ (by rw [if_neg (by decide), if_neg (by decide), if_neg (by decide)]; exact he')
      replace F' := Fr_see F' (Str.ofString "sep") _ (by rw [if_neg (by decide), if_neg (by decide), if_neg (by decide), if_neg (by decide)]; exact hs')
      replace F' := Fr_see F' (Str.ofString "initial_slashes") _ (by rw [if_neg (by decide), if_neg (by decide), if_neg (by decide), if_neg (by decide), if_neg (by decide)]; exact hi')
      have hz5 := hpart hb'
      have hz6 := hsmall hv1
      try simp only [List.cons_append] at N' hoff'
      try k_fold
    case' done =>
      clear lF' lN'
      intro m' o' h' tk' hJ' F' N'
      obtain ⟨hn', ⟨ts', hs'⟩, ⟨td', hd'⟩, ⟨te', he'⟩, ⟨ti', hi'⟩, vs1, n1, ho', hv1⟩ := hJ'
      subst ho'
      rw [StrsAre_len hv, List.length_map, List.take_length] at hv1
      have hv2 : StrsAre vs1 ((nfold 46 (decide ((sroot 47 (sl b)).1 ≠ [])) (splitL 47 (sroot 47 (sl b)).2)).map mkS) := hv1
      clear hv1
      replace F' := Fr_see F' _ _ hn'
      replace F' := Fr_see F' (Str.ofString "dot") _ (by rw [if_neg (by decide)]; exact hd')
      replace F' := Fr_see F' (Str.ofString "sep") _ (by rw [if_neg (by decide), if_neg (by decide)]; exact hs')
      replace F' := Fr_see F' (Str.ofString "initial_slashes") _ (by rw [if_neg (by decide), if_neg (by decide), if_neg (by decide)]; exact hi')
      try k_fold)
  have hsmall : ∀ {vs : List Value} {i : Nat}, StrsAre vs ((nfold 46 (decide ((sroot 47 (sl b)).1 ≠ [])) ((splitL 47 (sroot 47 (sl b)).2).take i)).map mkS) → vs.length ≤ 16777216 := fun {vs i} hv => by
    have h1 := nfold_tot (46 : Nat) (decide ((sroot 47 (sl b)).1 ≠ [])) ((splitL 47 (sroot 47 (sl b)).2).take i) []
    have h2 := tot_take (splitL 47 (sroot 47 (sl b)).2) i
    rw [tot_split] at h2
    have h3 := tot_len (nfold 46 (decide ((sroot 47 (sl b)).1 ≠ [])) ((splitL 47 (sroot 47 (sl b)).2).take i))
    have h4 := StrsAre_len hv
    rw [List.length_map] at h4
    rw [mlen] at hz3
    unfold nfold at h3 h4
    simp only [tot] at h1
    omega
  have hpart : ∀ {i : Nat} {p : Str}, (splitL 47 (sroot 47 (sl b)).2)[i]? = some (sl p) → p.length ≤ 65536 := fun {i p} hb => by
    have h1 := splitL_piece (c := (47 : Nat)) _ (sl p) (List.mem_of_getElem? hb)
    rw [sl_len p] at h1
    rw [mlen] at hz3
    omega
  w_strict (k_dflt cell_enter; repeat' (first | (k_unfold; (try dsimp only)) | walk1 | (dsimp only; walk1) | (leave1; (try dsimp only))))
  all_goals try (refine' endV hret _ ?e1 ?e2 ?e3; (case e2 => k_asm); (case e3 => first | k_asm | exact cb_drop (by assumption) (by kcj_all)); (case e1 => first | exact sn_empty (b := b) (by assumption) | exact sn_dot (b := b) (by assumption) (by assumption) | exact sn_some (b := b) (by assumption) (by assumption)); (all_goals exact (0 : Nat)))
  all_goals (try walk_at "InvEnd1")



end

end Mine
end

section
open PySem PySem.W PyProof.Rows
namespace Mine
set_option maxRecDepth 100000
/-! the walk's lines of this text alone -/
local macro_rules | `(tactic| walk_at "call type:type") => `(tactic| ((with_reducible show wpAny _ _ (call _ [Value.bytes _ _]) _ _ _); refine call_type_of (Tx := "bytes") rfl (by decide +kernel) ?_))
local macro_rules | `(tactic| walk_at "call builtin:issubclass") => `(tactic| (k_here; k_dflt (first
  | (refine' issubclass_pair sub2_bs sub2_bb ?k1 ?_; (case k1 => exact News.get (by k_asm) (by k_mem)); k_whole)
  | (refine' issubclass_pair sub2_ss sub2_sb ?k1 ?_; (case k1 => exact News.get (by k_asm) (by k_mem)); k_whole))))
-- a call of a def whose contract is shown: «tb_rel» holds the contract
local macro_rules | `(tactic| tb_start) => `(tactic| (
  (case k1 => k_asm)
  (case k2 => k_asm)
  (case k3 => k_asm)
  (case k4 => k_asm)
  (case k5 => k_asm)
  (case kK => first | exact rfl | assumption)
  (case kd => ktr_room)
  (case ku => ktr_units)
  (case kP => first | exact True.intro | assumption | (repeat' (first | exact True.intro | k_mem | assumption | refine And.intro ?_ ?_)))
  intro t9 h9 tk9 F9 N9
  (try dsimp only)
  (try k_fold)))

theorem BsAre.take {vs : List Value} {bs : List (List UInt8)} (h : BsAre vs bs) : ∀ k, BsAre (vs.take k) (bs.take k) := by
  induction h with
  | nil => intro k; simp; exact .nil
  | cons z u r ih =>
    intro k
    cases k with
    | zero => exact .nil
    | succ k => exact .cons z u (ih k)
theorem BsAre.drop {vs : List Value} {bs : List (List UInt8)} (h : BsAre vs bs) : ∀ k, BsAre (vs.drop k) (bs.drop k) := by
  induction h with
  | nil => intro k; simp; exact .nil
  | cons z u r ih =>
    intro k
    cases k with
    | zero => exact .cons z u r
    | succ k => exact ih k
theorem c_join_p (w : World) (vs : List Value) (ps : List (List UInt8)) (hv : BsAre vs ps) (hne : 0 < vs.length) (hz : tot ps ≤ 60000) : Tells w 115 3 noAsk vs (fun t => .bytes (pall 47 ps).toArray t) := by
  cases hv with
  | nil => exact absurd hne (Nat.lt_irrefl 0)
  | cons b t r => exact c_join_b w b t _ _ r (by simp only [tot, Array.length_toList] at hz; omega)
theorem c_join_q (w : World) (vs : List Value) (ys : List Str) (hv : StrsAre vs ys) (hne : 0 < vs.length) (hz : tot (ys.map sl) ≤ 60000) : Tells w 115 3 noAsk vs (fun t => .str (mkS (pall 47 (ys.map sl))) t) := by
  cases hv with
  | nil => exact absurd hne (Nat.lt_irrefl 0)
  | cons b t r => exact c_join_s w b t _ _ r (by simp only [List.map_cons, tot, sl_len] at hz; omega)
theorem ne_no {prog : Program} {w : World} {A : Around} {E : Value → Shared → Prop} {s : Shared} {b c : Array UInt8} {t u : Tok} {Q : Value → Shared → Prop} (e : b.toList = c.toList) (h : Q (.bool false) s) : wpAny (model prog w) A (compareOp .NotEq (.bytes b t) (.bytes c u)) Q E s := by
  refine ne_bytes ?_
  rw [e]
  have : (c.toList != c.toList) = false := by simp
  rw [this]; exact h
theorem tot_two {a b : List UInt8} {N : Nat} (ha : a.length ≤ N) (hb : b.length ≤ N) : tot [a, b] ≤ 2 * N + 2 := by simp only [tot]; omega
section
local macro_rules | `(tactic| walk_at "call builtin:len") => `(tactic| (k_here; (with_reducible rename News _ _ _ _ => lN'); (refine llen lN' (by k_mem) (by omega) ?_); intro t' tk'))
local macro_rules | `(tactic| walk_at "exec For") => `(tactic| (k_here; (rename Fr _ _ _ _ => lF'); (with_unfolding_all refine' For_invVF lF' ?k1 ?k2 ?_; (case k1 => exact rfl); (case k2 => exact rfl); k_whole)))
local macro_rules | `(tactic| walk_at "exec For Name Call") => `(tactic| (k_here; (rename Fr _ _ _ _ => lF'); (with_unfolding_all refine' For_invVF lF' ?k1 ?k2 ?_; (case k1 => exact rfl); (case k2 => exact rfl); k_whole)))
local macro_rules | `(tactic| walk_at "exec For Name Call cons nil") => `(tactic| (k_here; (rename Fr _ _ _ _ => lF'); (with_unfolding_all refine' For_invVF lF' ?k1 ?k2 ?_; (case k1 => exact rfl); (case k2 => exact rfl); k_whole)))
local macro_rules | `(tactic| walk_at "StarOf ref") => `(tactic| (k_here; k_dflt (refine' star_seq ?k1 ?k2 ?m ?c ?d ?T ?e ?z ?_; (case k1 => k_asm); (case k2 => k_asm); (case m => k_mem); (case c => exact rfl); (case d => exact rfl); (case T => first | exact .inl rfl | exact .inr rfl); (case e => exact rfl); (case z => (rw [List.size_toArray, sizeLine_eq]; simp only [List.length_take, List.length_drop]; omega)); k_whole); intro h' F' N'; try dsimp only [List.nil_append, List.cons_append]))
local macro_rules | `(tactic| walk_at "pyIter ref") => `(tactic| k_dflt (k_extra "iter"))
local macro_rules | `(tactic| walk_at "InvEnd") => `(tactic| k_dflt (k_extra "iend"))
local macro_rules | `(tactic| walk_at "subscriptTail Name Slice ref ref") => `(tactic| k_dflt (k_extra "cutl"))
local macro_rules | `(tactic| walk_at "call ref") => `(tactic| k_dflt (k_extra "call"))
local macro_rules | `(tactic| walk_at "compareOp NotEq bytes bytes") => `(tactic| k_dflt (k_extra "cmp"))

set_option maxHeartbeats 8000000 in
theorem c_cuts (w : World) (D : Addr) (nn : Nat) (vs : List Value) (ps : List (List UInt8)) (hv : BsAre vs ps) (hlen : 0 < vs.length) (hlen8 : vs.length ≤ 8) (hz : tot ps ≤ 600) (wh st : Array UInt8) (t1 t2 : Tok)
    (hW : ∀ k, 0 < k → k < ps.length → pall 47 [pall 47 (ps.take k), pall 47 (ps.drop k)] = wh.toList)
    (hS : ∀ k, 0 < k → k < ps.length → pnorm 47 46 (pall 47 [pnorm 47 46 (pall 47 (ps.take k)), pnorm 47 46 (pall 47 (ps.drop k))]) = st.toList) :
    Tells w 251 6 (fun news => (D, listOf vs.toArray nn) ∈ news) [.ref D, .bytes wh t1, .bytes st t2] (fun _ => .bool true) := by
  w_on
  unfold Tells
  k_fill
  intro mean mg mb dp un gd cn cs a ccd cl outer A₀ base h₀ L m news s Q E B F X N T hk hd hu hP hret

  replace N := News_more hP N
  replace hret := CbRet_more (D, listOf vs.toArray nn) hret
  clear hP
  have hpl : vs.length = ps.length := hv.length
  refine wpAny_call ?_
  k_with_none
  k_with "iter" => (     (
    (rename Fr _ _ _ _ => lF'); (rename News _ _ _ _ => lN')
    refine iter_rng (n := vs.length - 1) (fun i m' => m' (Str.ofString "parts") = some (.ref D) ∧ (∃ t, m' (Str.ofString "whole") = some (.bytes wh t)) ∧ ∃ t, m' (Str.ofString "straight") = some (.bytes st t)) rfl (by assumption) (small_one (by omega) (by omega) (by omega) (by omega)) ((rangeSize_nat _ _).trans (by congr 1; omega)) lF' lN' ⟨rfl, ⟨_, rfl⟩, ⟨_, rfl⟩⟩ ?_ ?_
    focus
      clear lF' lN'
      intro i' tv' m' h' tk' own' hi' hJ' F' N'
      obtain ⟨hm', ⟨ta', ha'⟩, ⟨tb', hb'⟩⟩ := hJ'
      replace F' := Fr_see F' _ _ ((if_neg (by decide)).trans hm')
      replace F' := Fr_see F' (Str.ofString "whole") _ (by rw [if_neg (by decide), if_neg (by decide)]; exact ha')
      replace F' := Fr_see F' (Str.ofString "straight") _ (by rw [if_neg (by decide), if_neg (by decide), if_neg (by decide)]; exact hb')
      have hzt := tot_take ps (i' + 1)
      have hzd := tot_dr ps (i' + 1)
      have hp1 := pall_len (47 : UInt8) (ps.take (i' + 1))
      have hp2 := pall_len (47 : UInt8) (ps.drop (i' + 1))
      have hn1 := pnorm_len (47 : UInt8) 46 (pall 47 (ps.take (i' + 1)))
      have hn2 := pnorm_len (47 : UInt8) 46 (pall 47 (ps.drop (i' + 1)))
      have hW' := hW (i' + 1) (by omega) (by omega)
      have hS' := hS (i' + 1) (by omega) (by omega)
      try simp only [List.cons_append] at N'
      try k_fold
    rotate_left
    focus
      clear lF' lN'
      intro m' h' tk' hJ' F' N'))
  k_with "iend" => (     (exact InvEnd.intro (by k_asm) (by k_asm) (by first | exact fun p hp => hp | kcj_all) ⟨rfl, ⟨_, rfl⟩, ⟨_, rfl⟩⟩))
  k_with "cutl" => (     ((with_reducible rename Fr _ _ _ _ => lF'); (with_reducible rename News _ _ _ _ => lN'); first
    | ((refine lslice (zs := vs.take (i' + 1)) (s := ⟨_, _, _, _, _⟩) lF' lN' (by k_mem) IsPart.none (IsPart.int _ _) (by omega) ((pick_upto (by omega)).trans (congrArg (vs.take ·) (by omega))) ?_); clear lF' lN'; intro D' h' F' N' l1; (try k_lt l1))
    | ((refine lslice (zs := vs.drop (i' + 1)) (s := ⟨_, _, _, _, _⟩) lF' lN' (by k_mem) (IsPart.int _ _) IsPart.none (by omega) ((pick_from (by omega)).trans (congrArg (vs.drop ·) (by omega))) ?_); clear lF' lN'; intro D' h' F' N' l1; (try k_lt l1))))
  k_with "call" => (     (first
    | (refine Tells.use (c_join_p _ _ _ (hv.take (i' + 1)) (by rw [List.length_take]; omega) (by omega)) (by k_asm) (by k_asm) (by k_asm) (by k_asm) (by k_asm) (by first | exact rfl | assumption) (by ktr_room) (by ktr_units) True.intro ?_; intro t9 h9 tk9 F9 N9; (try dsimp only); (try k_fold))
    | (refine Tells.use (c_join_p _ _ _ (hv.drop (i' + 1)) (by rw [List.length_drop]; omega) (by omega)) (by k_asm) (by k_asm) (by k_asm) (by k_asm) (by k_asm) (by first | exact rfl | assumption) (by ktr_room) (by ktr_units) True.intro ?_; intro t9 h9 tk9 F9 N9; (try dsimp only); (try k_fold))
    | (refine Tells.use (c_join_p _ _ _ (.cons _ _ (.cons _ _ .nil)) (Nat.succ_pos _) (by simp only [tot, List.length_cons] at *; omega)) (by k_asm) (by k_asm) (by k_asm) (by k_asm) (by k_asm) (by first | exact rfl | assumption) (by ktr_room) (by ktr_units) True.intro ?_; intro t9 h9 tk9 F9 N9; (try dsimp only); (try k_fold))
    | (refine Tells.use (c_normpath_b _ _ _ (by rw [List.size_toArray]; first | omega | (have := pall_len (47 : UInt8) [pnorm 47 46 (pall 47 (ps.take (i' + 1))), pnorm 47 46 (pall 47 (ps.drop (i' + 1)))]; simp only [tot] at this; omega))) (by k_asm) (by k_asm) (by k_asm) (by k_asm) (by k_asm) (by first | exact rfl | assumption) (by ktr_room) (by ktr_units) True.intro ?_; intro t9 h9 tk9 F9 N9; (try dsimp only); (try k_fold))))
  k_with "cmp" => (     (first | refine ne_no hW' ?_ | refine ne_no hS' ?_))
  w_strict (k_dflt cell_enter; repeat' (first | (k_unfold; (try dsimp only)) | (k_end; wrow_close) | walk1 | (dsimp only; walk1) | (leave1; (try dsimp only))))
  all_goals first | (refine' endV hret _ ?e1 ?e2 ?e3; (case e2 => k_asm); (case e3 => first | k_asm | (refine' cb_drop ?cbN ?cbS; (case cbN => assumption); (case cbS => kcj_all))); (case e1 => rfl); (all_goals exact (0 : Nat)))
end

end Mine
end

section
open PySem PySem.W PyProof.Rows
namespace Mine
set_option maxRecDepth 100000
/-! the walk's lines of this text alone -/
local macro_rules | `(tactic| walk_at "call type:type") => `(tactic| ((with_reducible show wpAny _ _ (call _ [Value.bytes _ _]) _ _ _); refine call_type_of (Tx := "bytes") rfl (by decide +kernel) ?_))
local macro_rules | `(tactic| walk_at "call builtin:issubclass") => `(tactic| (k_here; k_dflt (first
  | (refine' issubclass_pair sub2_bs sub2_bb ?k1 ?_; (case k1 => exact News.get (by k_asm) (by k_mem)); k_whole)
  | (refine' issubclass_pair sub2_ss sub2_sb ?k1 ?_; (case k1 => exact News.get (by k_asm) (by k_mem)); k_whole))))
-- a call of a def whose contract is shown: «tb_rel» holds the contract
local macro_rules | `(tactic| tb_start) => `(tactic| (
  (case k1 => k_asm)
  (case k2 => k_asm)
  (case k3 => k_asm)
  (case k4 => k_asm)
  (case k5 => k_asm)
  (case kK => first | exact rfl | assumption)
  (case kd => ktr_room)
  (case ku => ktr_units)
  (case kP => first | exact True.intro | assumption | (repeat' (first | exact True.intro | k_mem | assumption | refine And.intro ?_ ?_)))
  intro t9 h9 tk9 F9 N9
  (try dsimp only)
  (try k_fold)))

/-- the mode that the law makes of a value -/
def lawKind (v : Int) : Int := if v.fmod 8 < 7 then [8, 4, 10, 1, 12, 2, 6].getD (v.fmod 8).toNat 0 else [0, 3, 5, 7, 9, 11, 13, 14, 15].getD ((v.fdiv 8).fmod 9).toNat 0
def lawMode (v : Int) : Int := v.fmod 7 * 2 ^ 29 + lawKind v * 4096 + (v.fdiv 72).fmod 4096
theorem lm_a {v : Int} {t : Tok} (h : v.fmod 8 < 7) : Value.int (v.fmod 7 * 2 ^ Int.toNat 29 + [8, 4, 10, 1, 12, 2, 6].getD (v.fmod 8).toNat 0 * 4096 + (v.fdiv 72).fmod 4096) t = .int (lawMode v) t := by
  unfold lawMode lawKind; rw [if_pos h]; rfl
theorem lm_b {v : Int} {t : Tok} (h : ¬ v.fmod 8 < 7) : Value.int (v.fmod 7 * 2 ^ Int.toNat 29 + [0, 3, 5, 7, 9, 11, 13, 14, 15].getD ((v.fdiv 8).fmod 9).toNat 0 * 4096 + (v.fdiv 72).fmod 4096) t = .int (lawMode v) t := by
  unfold lawMode lawKind; rw [if_neg h]; rfl
section
local macro_rules | `(tactic| walk_at "dummy 0") => `(tactic| skip)

set_option maxHeartbeats 8000000 in
theorem c_mode (w : World) (v : Int) (t : Tok) (h0 : 0 ≤ v) (h1 : v < 2 ^ 27) : Tells w 211 1 noAsk [.int v t] (fun t => .int (lawMode v) t) := by
  w_on
  unfold Tells
  k_fill
  intro mean mg mb dp un gd cn cs a ccd cl outer A₀ base h₀ L m news s Q E B F X N T hk hd hu hP hret

  refine wpAny_call ?_
  w_strict (k_dflt cell_enter; k_steps)
  all_goals first | (refine' endV hret _ ?e1 ?e2 ?e3; (case e2 => k_asm); (case e3 => first | k_asm | (refine' cb_drop ?cbN ?cbS; (case cbN => assumption); (case cbS => kcj_all))); (case e1 => first | exact lm_a (by first | assumption | omega) | exact lm_b (by first | assumption | omega)); (all_goals exact (0 : Nat)))
end

end Mine
end

section
set_option maxRecDepth 100000
namespace Mine
section
variable {α : Type} [DecidableEq α] {c d : α}
/-! ## join is associative -/
theorem jstep_assoc (c : α) (a b e : List α) : jstep c (jstep c a b) e = jstep c a (jstep c b e) := by
  by_cases he : e.head? = some c
  · have h1 : ∀ p : List α, jstep c p e = e := fun p => by unfold jstep; rw [if_pos (.inl (by simpa using he))]
    rw [h1, h1, h1]
  · by_cases hb0 : b = []
    · subst hb0
      have h2 : jstep c [] e = e := by unfold jstep; rw [if_pos (.inr rfl)]
      rw [h2]
      by_cases ha : a = []
      · subst ha
        have : jstep c ([] : List α) [] = [] := by unfold jstep; rw [if_pos (.inr rfl)]
        rw [this, h2]
      · have hne : ∀ p : List α, p ≠ [] → jstep c p e = if (p.getLast? == some c) = true then p ++ e else p ++ (c :: e) := fun p hp => by
          unfold jstep; rw [if_neg]; rintro (h | h)
          · exact he (by simpa using h)
          · exact hp h
        rw [hne a ha]
        have hs : jstep c a [] = if (a.getLast? == some c) = true then a ++ [] else a ++ [c] := by
          unfold jstep; rw [if_neg]; rintro (h | h)
          · simp at h
          · exact ha h
        rw [hs]
        by_cases hl : (a.getLast? == some c) = true
        · rw [if_pos hl, if_pos hl, List.append_nil, hne a ha, if_pos hl]
        · rw [if_neg hl, if_neg hl, hne _ (by simp)]
          rw [if_pos (by simp)]
          simp
    · have hne : ∀ p : List α, p ≠ [] → jstep c p e = if (p.getLast? == some c) = true then p ++ e else p ++ (c :: e) := fun p hp => by
        unfold jstep; rw [if_neg]; rintro (h | h)
        · exact he (by simpa using h)
        · exact hp h
      have hbe : jstep c b e ≠ [] := by
        rw [hne b hb0]; split <;> simp [hb0]
      have hhead : (jstep c b e).head? = b.head? := by
        rw [hne b hb0]
        cases b with
        | nil => exact absurd rfl hb0
        | cons x r => split <;> rfl
      by_cases hbc : b.head? = some c
      · have h1 : ∀ p : List α, jstep c p b = b := fun p => by unfold jstep; rw [if_pos (.inl (by simpa using hbc))]
        have jb : ∀ q : List α, q.head? = some c → jstep c a q = q := fun q hq => by unfold jstep; rw [if_pos (.inl (by simpa using hq))]
        rw [h1, jb _ (hhead.trans hbc)]
      · by_cases ha : a = []
        · subst ha
          have h1 : ∀ p : List α, jstep c [] p = p := fun p => by unfold jstep; rw [if_pos (.inr rfl)]
          rw [h1, h1]
        · have hab : ∀ p : List α, p.head? ≠ some c → jstep c a p = if (a.getLast? == some c) = true then a ++ p else a ++ (c :: p) := fun p hp => by
            unfold jstep; rw [if_neg]; rintro (h | h)
            · exact hp (by simpa using h)
            · exact ha h
          rw [hab b hbc, hab _ (by rw [hhead]; exact hbc)]
          have hlast : ∀ q : List α, (q ++ b).getLast? = b.getLast? := fun q => by
            rw [List.getLast?_append]
            cases hb : b.getLast? with
            | none => exact absurd (List.getLast?_eq_none_iff.mp hb) hb0
            | some z => rfl
          have hlast2 : (a ++ c :: b).getLast? = b.getLast? := by
            have := hlast (a ++ [c])
            simpa using this
          rw [hne b hb0]
          by_cases hl : (a.getLast? == some c) = true
          · rw [if_pos hl, if_pos hl, hne _ (by simp [hb0]), hlast]
            split <;> simp
          · rw [if_neg hl, if_neg hl, hne _ (by simp), hlast2]
            split <;> simp
theorem pjoin_in (c : α) : ∀ (l : List (List α)) (x b : List α), pjoin c (jstep c x b) l = jstep c x (pjoin c b l)
  | [], x, b => rfl
  | e :: r, x, b => by
    show pjoin c (jstep c (jstep c x b) e) r = jstep c x (pjoin c (jstep c b e) r)
    rw [jstep_assoc, pjoin_in c r]
theorem pjoin_app (c : α) : ∀ (l1 : List (List α)) (a b : List α) (l2 : List (List α)), pjoin c a (l1 ++ b :: l2) = jstep c (pjoin c a l1) (pjoin c b l2)
  | [], a, b, l2 => pjoin_in c l2 a b
  | e :: r, a, b, l2 => pjoin_app c r (jstep c a e) b l2
theorem cut_join (c : α) (ps : List (List α)) (k : Nat) (h0 : 0 < k) (hk : k < ps.length) : pall c [pall c (ps.take k), pall c (ps.drop k)] = pall c ps := by
  cases ps with
  | nil => simp at hk
  | cons a r =>
    obtain ⟨k, rfl⟩ : ∃ j, k = j + 1 := ⟨k - 1, by omega⟩
    rw [List.take_succ_cons, List.drop_succ_cons]
    have hk' : k < r.length := by simpa using hk
    have e : r = r.take k ++ r[k] :: r.drop (k + 1) := by
      rw [List.getElem_cons_drop, List.take_append_drop]
    have e2 : r.drop k = r[k] :: r.drop (k + 1) := (List.getElem_cons_drop hk').symm
    rw [e2]
    show jstep c (pjoin c a (r.take k)) (pjoin c r[k] (r.drop (k + 1))) = pjoin c a r
    rw [← pjoin_app, ← e]
/-! ## normal stacks -/
inductive Nrm (c d : α) (rt : Bool) : List (List α) → Prop
  | nil : Nrm c d rt []
  | snoc {A : List (List α)} {x : List α} (h : Nrm c d rt A) (hc : c ∉ x) (h0 : x ≠ []) (h1 : x ≠ [d]) (h2 : x = [d, d] → rt = false ∧ (A = [] ∨ A.getLast? = some [d, d])) : Nrm c d rt (A ++ [x])
theorem nfold_app (d : α) (rt : Bool) (A : List (List α)) (x : List α) : nfold d rt (A ++ [x]) = nstep d rt (nfold d rt A) x := by
  unfold nfold; rw [List.foldl_append]; rfl
theorem nst_put {d : α} {rt : Bool} {A : List (List α)} {x : List α} (h0 : x ≠ []) (h1 : x ≠ [d]) (h2 : x ≠ [d, d] ∨ (rt = false ∧ A = []) ∨ (A ≠ [] ∧ A.getLast? = some [d, d])) : nstep d rt A x = A ++ [x] := by
  unfold nstep; rw [if_neg (fun k => k.elim h0 h1), if_pos h2]
theorem nst_skip {d : α} {rt : Bool} {A : List (List α)} {x : List α} (h : x = [] ∨ x = [d]) : nstep d rt A x = A := by
  unfold nstep; rw [if_pos h]
theorem nst_pop {d : α} {rt : Bool} {A : List (List α)} {y : List α} (hy : y ≠ [d, d]) : nstep d rt (A ++ [y]) [d, d] = A := by
  unfold nstep
  rw [if_neg (by simp), if_neg]
  · simp
  · rintro (h | ⟨_, h⟩ | ⟨_, h⟩)
    · exact h rfl
    · simp at h
    · simp at h; exact hy h
theorem nrm_fix {rt : Bool} {S : List (List α)} (h : Nrm c d rt S) : nfold d rt S = S := by
  induction h with
  | nil => rfl
  | snoc hA hc h0 h1 h2 ih =>
    rename_i A x
    rw [nfold_app, ih]
    refine nst_put h0 h1 ?_
    by_cases hx : x = [d, d]
    · obtain ⟨hr, h3⟩ := h2 hx
      rcases h3 with h3 | h3
      · exact .inr (.inl ⟨hr, h3⟩)
      · refine .inr (.inr ⟨?_, h3⟩)
        rintro rfl; simp at h3
    · exact .inl hx
theorem nrm_last {rt : Bool} {S : List (List α)} (h : Nrm c d rt S) (hl : S.getLast? = some [d, d]) : rt = false := by
  cases h with
  | nil => simp at hl
  | snoc hA hc h0 h1 h2 =>
    rw [List.getLast?_append] at hl
    simp at hl
    exact (h2 hl).1
theorem nrm_step {rt : Bool} {S : List (List α)} {x : List α} (h : Nrm c d rt S) (hc : c ∉ x) : Nrm c d rt (nstep d rt S x) := by
  by_cases hs : x = [] ∨ x = [d]
  · rw [nst_skip hs]; exact h
  · have h0 : x ≠ [] := fun e => hs (.inl e)
    have h1 : x ≠ [d] := fun e => hs (.inr e)
    by_cases hp : x ≠ [d, d] ∨ (rt = false ∧ S = []) ∨ (S ≠ [] ∧ S.getLast? = some [d, d])
    · rw [nst_put h0 h1 hp]
      refine .snoc h hc h0 h1 fun hx => ?_
      rcases hp with hp | ⟨hr, hS⟩ | ⟨hS, hl⟩
      · exact absurd hx hp
      · exact ⟨hr, .inl hS⟩
      · exact ⟨nrm_last h hl, .inr hl⟩
    · have e : nstep d rt S x = S.dropLast := by unfold nstep; rw [if_neg hs, if_neg hp]
      rw [e]
      cases h with
      | nil => exact .nil
      | snoc hA _ _ _ _ => simpa using hA
theorem nrm_foldl {rt : Bool} : ∀ (xs : List (List α)) {S : List (List α)}, Nrm c d rt S → (∀ x ∈ xs, c ∉ x) → Nrm c d rt (xs.foldl (nstep d rt) S)
  | [], S, h, _ => h
  | x :: r, S, h, hx => nrm_foldl r (nrm_step h (hx x List.mem_cons_self)) fun y hy => hx y (List.mem_cons_of_mem _ hy)
theorem nrm_nfold {rt : Bool} (xs : List (List α)) (hx : ∀ x ∈ xs, c ∉ x) : Nrm c d rt (nfold d rt xs) := nrm_foldl xs .nil hx
/-- what follows may be straightened first -/
theorem fold_first {rt : Bool} (S : List (List α)) : ∀ (n : Nat) (xs : List (List α)), xs.length = n → (∀ x ∈ xs, c ∉ x) → xs.foldl (nstep d rt) S = (nfold d false xs).foldl (nstep d rt) S
  | 0, xs, h, _ => by
    have : xs = [] := List.eq_nil_of_length_eq_zero h
    subst this; rfl
  | n + 1, xs, h, hc => by
    rcases List.eq_nil_or_concat xs with rfl | ⟨ys, x, rfl⟩
    · simp at h
    · rw [List.concat_eq_append] at h hc ⊢
      have ih : ys.foldl (nstep d rt) S = (nfold d false ys).foldl (nstep d rt) S := fold_first S n ys (by simpa using h) fun y hy => hc y (List.mem_append_left _ hy)
      have hN : Nrm c d false (nfold d false ys) := nrm_nfold ys fun y hy => hc y (List.mem_append_left _ hy)
      rw [nfold_app, List.foldl_append, ih]
      show nstep d rt _ x = _
      by_cases hs : x = [] ∨ x = [d]
      · rw [nst_skip hs, nst_skip hs]
      · have h0 : x ≠ [] := fun e => hs (.inl e)
        have h1 : x ≠ [d] := fun e => hs (.inr e)
        by_cases hp : x ≠ [d, d] ∨ (false = false ∧ nfold d false ys = []) ∨ (nfold d false ys ≠ [] ∧ (nfold d false ys).getLast? = some [d, d])
        · rw [nst_put (rt := false) h0 h1 hp, List.foldl_append]; rfl
        · have hx : x = [d, d] := Classical.byContradiction fun k => hp (.inl k)
          subst hx
          generalize nfold d false ys = T at hN hp
          cases hN with
          | nil => exact absurd (.inr (.inl ⟨rfl, rfl⟩)) hp
          | snoc hA hc2 h3 h4 h5 =>
            rename_i A y
            have hy : y ≠ [d, d] := fun e => hp (.inr (.inr ⟨by simp, by simp [e]⟩))
            rw [nst_pop (rt := false) hy, List.foldl_append]
            show nstep d rt (nstep d rt (A.foldl (nstep d rt) S) y) [d, d] = _
            rw [nst_put h3 h4 (.inl hy), nst_pop hy]
end
end Mine
end

section
set_option maxRecDepth 100000
namespace Mine
section
variable {α : Type} [DecidableEq α] {c d : α}
def root (c : α) (l : List α) : List α := (sroot c l).1
def render (c d : α) (r : List α) (S : List (List α)) : List α := if r ++ joinL c S = [] then [d] else r ++ joinL c S
theorem nfold_nil (d : α) (rt : Bool) (xs : List (List α)) : nfold d rt ([] :: xs) = nfold d rt xs := by
  unfold nfold
  rw [List.foldl_cons, nst_skip (.inl rfl)]
theorem splitL_c (c : α) (l : List α) : splitL c (c :: l) = [] :: splitL c l := splitL_cons_eq
/-- cases of a way's root -/
theorem root_cases (c : α) (l : List α) : (sroot c l = ([], l) ∧ l.head? ≠ some c) ∨ (∃ r, l = c :: r ∧ sroot c l = ([c], r)) ∨ (∃ r, l = c :: c :: r ∧ r.head? ≠ some c ∧ sroot c l = ([c, c], r)) := by
  cases l with
  | nil => exact .inl ⟨by simp [sroot], by simp⟩
  | cons x r =>
    by_cases hx : x = c
    · subst hx
      cases r with
      | nil => exact .inr (.inl ⟨[], rfl, by simp [sroot]⟩)
      | cons y r =>
        by_cases hy : y = x
        · subst hy
          cases r with
          | nil => exact .inr (.inr ⟨[], rfl, by simp, by simp [sroot]⟩)
          | cons z r =>
            by_cases hz : z = y
            · subst hz
              exact .inr (.inl ⟨z :: z :: r, rfl, by simp [sroot]⟩)
            · exact .inr (.inr ⟨z :: r, rfl, by simpa using hz, by simp [sroot, hz]⟩)
        · exact .inr (.inl ⟨y :: r, rfl, by simp [sroot, hy]⟩)
    · exact .inl ⟨by simp [sroot, hx], by simpa using hx⟩
theorem nfold_rest (rt : Bool) (l : List α) : nfold d rt (splitL c (sroot c l).2) = nfold d rt (splitL c l) := by
  rcases root_cases c l with ⟨h, _⟩ | ⟨r, rfl, h⟩ | ⟨r, rfl, _, h⟩
  · rw [h]
  · rw [h, splitL_c, nfold_nil]
  · rw [h, splitL_c, splitL_c, nfold_nil, nfold_nil]
theorem pnorm_is (c d : α) (l : List α) : pnorm c d l = render c d (root c l) (nfold d (decide (root c l ≠ [])) (splitL c l)) := by
  by_cases hl : l = []
  · subst hl
    have h1 : sroot c ([] : List α) = ([], []) := by simp [sroot]
    unfold pnorm render root
    rw [if_pos rfl, h1]
    show [d] = if ([] : List α) ++ joinL c (nfold d _ [[]]) = [] then [d] else _
    rw [nfold_nil]
    rfl
  · unfold pnorm render root
    rw [if_neg hl]
    dsimp only
    rw [nfold_rest]
def IsRoot (c : α) (r : List α) : Prop := r = [] ∨ r = [c] ∨ r = [c, c]
theorem root_is (c : α) (l : List α) : IsRoot c (root c l) := by
  unfold root
  rcases root_cases c l with ⟨h, _⟩ | ⟨r, rfl, h⟩ | ⟨r, rfl, _, h⟩ <;> rw [h]
  · exact .inl rfl
  · exact .inr (.inl rfl)
  · exact .inr (.inr rfl)
theorem root_put {r t : List α} (hr : IsRoot c r) (ht : t.head? ≠ some c) : root c (r ++ t) = r := by
  unfold root
  cases t with
  | nil => rcases hr with rfl | rfl | rfl <;> simp [sroot]
  | cons x t =>
    have hx : x ≠ c := by simpa using ht
    rcases hr with rfl | rfl | rfl <;> simp [sroot, hx]
theorem nrm_mem {rt : Bool} {S : List (List α)} (h : Nrm c d rt S) : ∀ x ∈ S, c ∉ x ∧ x ≠ [] := by
  induction h with
  | nil => intro x hx; cases hx
  | snoc hA hc h0 h1 h2 ih =>
    intro x hx
    rcases List.mem_append.mp hx with hx | hx
    · exact ih x hx
    · have := List.mem_singleton.mp hx; subst this; exact ⟨hc, h0⟩
theorem joinL_head {S : List (List α)} (h : ∀ x ∈ S, c ∉ x ∧ x ≠ []) : (joinL c S).head? ≠ some c := by
  cases S with
  | nil => simp [joinL]
  | cons x r =>
    obtain ⟨h1, h2⟩ := h x List.mem_cons_self
    cases x with
    | nil => exact absurd rfl h2
    | cons y t =>
      have hy : y ≠ c := fun e => h1 (by rw [e]; exact List.mem_cons_self)
      cases r with
      | nil => simpa [joinL] using hy
      | cons z r => simpa [joinL] using hy
theorem joinL_nil {S : List (List α)} (h : ∀ x ∈ S, c ∉ x ∧ x ≠ []) (e : joinL c S = []) : S = [] := by
  cases S with
  | nil => rfl
  | cons x r =>
    have h2 := (h x List.mem_cons_self).2
    cases r with
    | nil => exact absurd e h2
    | cons z r => simp [joinL] at e
/-- the straight way's root and stack -/
theorem render_back (hd : d ≠ c) {r : List α} {S : List (List α)} (hr : IsRoot c r) (hS : Nrm c d (decide (r ≠ [])) S) : root c (render c d r S) = r ∧ nfold d (decide (r ≠ [])) (splitL c (render c d r S)) = S := by
  have hm := nrm_mem hS
  unfold render
  by_cases he : r ++ joinL c S = []
  · rw [if_pos he]
    have h1 : r = [] := (List.append_eq_nil_iff.mp he).1
    have h2 : S = [] := joinL_nil hm (List.append_eq_nil_iff.mp he).2
    subst h1 h2
    refine ⟨by simp [root, sroot, hd], ?_⟩
    rw [splitL_free (by simpa using Ne.symm hd)]
    unfold nfold
    rw [List.foldl_cons, nst_skip (.inr rfl)]
    rfl
  · rw [if_neg he]
    refine ⟨root_put hr (joinL_head hm), ?_⟩
    have key : nfold d (decide (r ≠ [])) (splitL c (joinL c S)) = S := by
      by_cases hS0 : S = []
      · subst hS0; show nfold d _ [[]] = _; rw [nfold_nil]; rfl
      · rw [splitL_join hS0 fun p hp => (hm p hp).1]
        exact nrm_fix hS
    rcases hr with rfl | rfl | rfl
    · exact key
    · show nfold d _ (splitL c (c :: joinL c S)) = S
      rw [splitL_c, nfold_nil]; exact key
    · show nfold d _ (splitL c (c :: c :: joinL c S)) = S
      rw [splitL_c, splitL_c, nfold_nil, nfold_nil]; exact key
theorem norm_of (c d : α) (l : List α) : Nrm c d (decide (root c l ≠ [])) (nfold d (decide (root c l ≠ [])) (splitL c l)) := nrm_nfold _ splitL_mem
theorem root_pnorm (hd : d ≠ c) (l : List α) : root c (pnorm c d l) = root c l := by
  rw [pnorm_is]; exact (render_back hd (root_is c l) (norm_of c d l)).1
theorem stack_pnorm (hd : d ≠ c) (l : List α) : nfold d (decide (root c l ≠ [])) (splitL c (pnorm c d l)) = nfold d (decide (root c l ≠ [])) (splitL c l) := by
  rw [pnorm_is]; exact (render_back hd (root_is c l) (norm_of c d l)).2
theorem pnorm_twice (hd : d ≠ c) (l : List α) : pnorm c d (pnorm c d l) = pnorm c d l := by
  rw [pnorm_is c d (pnorm c d l), root_pnorm hd, stack_pnorm hd, ← pnorm_is]
theorem pnorm_ne (c d : α) (l : List α) : pnorm c d l ≠ [] := by
  rw [pnorm_is]; unfold render
  split
  · simp
  · assumption
theorem root_head (c : α) (l : List α) : root c l ≠ [] ↔ l.head? = some c := by
  unfold root
  rcases root_cases c l with ⟨h, h2⟩ | ⟨r, rfl, h⟩ | ⟨r, rfl, h2, h⟩ <;> rw [h] <;> simp
  exact h2
theorem split_app (c : α) (v : List α) : ∀ u : List α, splitL c (u ++ c :: v) = splitL c u ++ splitL c v
  | [] => splitL_cons_eq
  | x :: u => by
    have ih := split_app c v u
    rw [List.cons_append]
    by_cases hx : x = c
    · subst hx; rw [splitL_c, splitL_c, ih]; rfl
    · rw [splitL_cons_ne hx, splitL_cons_ne hx, ih]
      cases hs : splitL c u with
      | nil => exact absurd hs (splitL_ne _ _)
      | cons a t => rfl
/-- the part that follows a way: root and stack -/
theorem step_back (rt : Bool) {f b : List α} (hf : f ≠ []) (hb : b.head? ≠ some c) : root c (jstep c f b) = root c f ∧ nfold d rt (splitL c (jstep c f b)) = (splitL c b).foldl (nstep d rt) (nfold d rt (splitL c f)) := by
  have e : jstep c f b = if (f.getLast? == some c) = true then f ++ b else f ++ (c :: b) := by
    unfold jstep; rw [if_neg]; rintro (h | h)
    · exact hb (by simpa using h)
    · exact hf h
  rw [e]
  by_cases hl : (f.getLast? == some c) = true
  · rw [if_pos hl]
    have hl' : f.getLast? = some c := by simpa using hl
    constructor
    · unfold root
      match f, hf with
      | [x], _ =>
        have : x = c := by simpa using hl'
        subst this
        cases b with
        | nil => rfl
        | cons y b => have hy : y ≠ x := by simpa using hb
                      simp [sroot, hy]
      | [x, y], _ =>
        have : y = c := by simpa using hl'
        subst this
        by_cases hx : x = y
        · subst hx
          cases b with
          | nil => rfl
          | cons z b => have hz : z ≠ x := by simpa using hb
                        simp [sroot, hz]
        · simp [sroot, hx]
      | x :: y :: z :: r, _ =>
        by_cases hx : x = c <;> by_cases hy : y = c <;> by_cases hz : z = c <;> simp [sroot, hx, hy, hz]
    · rcases List.eq_nil_or_concat f with rfl | ⟨g, x, rfl⟩
      · exact absurd rfl hf
      · rw [List.concat_eq_append] at hl' ⊢
        have : x = c := by simpa using hl'
        subst this
        have e1 : g ++ [x] ++ b = g ++ x :: b := by simp
        have e2 : splitL x (g ++ [x]) = splitL x g ++ [[]] := split_app x [] g
        rw [e1, split_app, e2, nfold_app, nst_skip (.inl rfl)]
        unfold nfold
        rw [List.foldl_append]
  · rw [if_neg hl]
    have hl' : f.getLast? ≠ some c := by simpa using hl
    constructor
    · unfold root
      match f, hf with
      | [x], _ =>
        have : x ≠ c := by simpa using hl'
        simp [sroot, this]
      | [x, y], _ =>
        have hy : y ≠ c := by simpa using hl'
        by_cases hx : x = c <;> simp [sroot, hx, hy]
      | x :: y :: z :: r, _ =>
        by_cases hx : x = c <;> by_cases hy : y = c <;> by_cases hz : z = c <;> simp [sroot, hx, hy, hz]
    · rw [split_app]
      unfold nfold
      rw [List.foldl_append]
/-- a way may be straightened in two parts -/
theorem cut_norm (hd : d ≠ c) (f b : List α) : pnorm c d (jstep c (pnorm c d f) (pnorm c d b)) = pnorm c d (jstep c f b) := by
  by_cases hb : b.head? = some c
  · have h1 : ∀ p : List α, jstep c p b = b := fun p => by unfold jstep; rw [if_pos (.inl (by simpa using hb))]
    have h2 : (pnorm c d b).head? = some c := (root_head c _).mp (by rw [root_pnorm hd]; exact (root_head c b).mpr hb)
    have h3 : ∀ p : List α, jstep c p (pnorm c d b) = pnorm c d b := fun p => by unfold jstep; rw [if_pos (.inl (by simpa using h2))]
    rw [h1, h3, pnorm_twice hd]
  · have hrb : root c b = [] := Classical.byContradiction fun k => hb ((root_head c b).mp k)
    have hb2 : (pnorm c d b).head? ≠ some c := fun k => (root_head c _).mpr k (by rw [root_pnorm hd]; exact hrb)
    have hsb : nfold d false (splitL c (pnorm c d b)) = nfold d false (splitL c b) := by
      have := stack_pnorm (c := c) hd b
      rw [hrb] at this
      exact this
    have hfree : ∀ l : List α, ∀ x ∈ splitL c l, c ∉ x := fun l => splitL_mem
    by_cases hf : f = []
    · subst hf
      have h1 : jstep c [] b = b := by unfold jstep; rw [if_pos (.inr rfl)]
      have h2 : pnorm c d ([] : List α) = [d] := by unfold pnorm; rw [if_pos rfl]
      rw [h1, h2]
      obtain ⟨e1, e2⟩ := step_back (d := d) (c := c) false (f := [d]) (b := pnorm c d b) (by simp) hb2
      have hr : root c [d] = [] := by simp [root, sroot, hd]
      rw [pnorm_is c d (jstep c [d] _), e1, hr]
      show render c d [] (nfold d false _) = _
      rw [e2, splitL_free (by simpa using Ne.symm hd)]
      have h3 : nfold d false [[d]] = [] := by unfold nfold; rw [List.foldl_cons, nst_skip (.inr rfl)]; rfl
      have e5 : pnorm c d b = render c d [] (nfold d false (splitL c b)) := by
        have := pnorm_is c d b
        rw [hrb] at this
        exact this
      rw [h3]
      show render c d [] (nfold d false (splitL c (pnorm c d b))) = pnorm c d b
      rw [hsb]
      exact e5.symm
    · obtain ⟨e1, e2⟩ := step_back (d := d) (c := c) (decide (root c f ≠ [])) (f := pnorm c d f) (b := pnorm c d b) (pnorm_ne c d f) hb2
      obtain ⟨e3, e4⟩ := step_back (d := d) (c := c) (decide (root c f ≠ [])) (f := f) (b := b) hf hb
      rw [pnorm_is c d (jstep c (pnorm c d f) _), e1, root_pnorm hd, e2, pnorm_is c d (jstep c f b), e3, e4, stack_pnorm hd,
        fold_first (c := c) _ _ (splitL c (pnorm c d b)) rfl (hfree _), hsb, ← fold_first (c := c) _ _ (splitL c b) rfl (hfree _)]
end
end Mine
end

section
set_option maxRecDepth 100000
namespace Mine
/-! ## the law's straightening is normpath -/
def dd : List Nat := [46, 46]
def applyUps (rt : Bool) : List (List Nat) → Nat → List (List Nat)
  | S, 0 => S
  | S, n + 1 => applyUps rt (nstep 46 rt S [46, 46]) n
theorem ufold_cons (x : List Nat) (xs : List (List Nat)) : ufold (x :: xs).reverse = ustep (ufold xs.reverse) x := by
  unfold ufold
  rw [List.reverse_cons, List.foldl_append]; rfl
theorem fold_ups (rt : Bool) : ∀ (xs : List (List Nat)) (S : List (List Nat)), xs.foldl (nstep 46 rt) S = applyUps rt S (ufold xs.reverse).2 ++ (ufold xs.reverse).1
  | [], S => by simp [ufold, applyUps]
  | x :: r, S => by
    rw [List.foldl_cons, fold_ups rt r, ufold_cons]
    by_cases hdd : x = [46, 46]
    · subst hdd
      have e : ustep (ufold r.reverse) [46, 46] = ((ufold r.reverse).1, (ufold r.reverse).2 + 1) := by unfold ustep; rw [if_pos rfl]
      rw [e]; rfl
    · by_cases hs : x = [] ∨ x = [46]
      · have e : ustep (ufold r.reverse) x = ufold r.reverse := by
          unfold ustep; rw [if_neg hdd, if_neg]
          rintro ⟨h1, h2⟩
          exact hs.elim h1 h2
        rw [e, nst_skip hs]
      · have h0 : x ≠ [] := fun e => hs (.inl e)
        have h1 : x ≠ [46] := fun e => hs (.inr e)
        have e : ustep (ufold r.reverse) x = if 0 < (ufold r.reverse).2 then ((ufold r.reverse).1, (ufold r.reverse).2 - 1) else (x :: (ufold r.reverse).1, (ufold r.reverse).2) := by
          unfold ustep; rw [if_neg hdd, if_pos ⟨h0, h1⟩]
        rw [e, nst_put h0 h1 (.inl hdd)]
        cases hu : (ufold r.reverse).2 with
        | zero => rw [if_neg (Nat.lt_irrefl 0)]; simp [applyUps]
        | succ n =>
          rw [if_pos (Nat.succ_pos n)]
          show applyUps rt (nstep 46 rt (S ++ [x]) [46, 46]) n ++ _ = applyUps rt S n ++ _
          rw [nst_pop hdd]
theorem ups_rooted : ∀ n, applyUps true [] n = []
  | 0 => rfl
  | n + 1 => by
    show applyUps true (nstep 46 true [] [46, 46]) n = []
    have : nstep 46 true [] [46, 46] = [] := by simp [nstep]
    rw [this, ups_rooted n]
theorem ups_free : ∀ n k, applyUps false (List.replicate k [46, 46]) n = List.replicate (k + n) [46, 46]
  | 0, k => rfl
  | n + 1, k => by
    show applyUps false (nstep 46 false (List.replicate k [46, 46]) [46, 46]) n = _
    have : nstep 46 false (List.replicate k [46, 46]) [46, 46] = List.replicate (k + 1) [46, 46] := by
      rw [nst_put (by simp) (by simp)]
      · rw [List.replicate_succ']
      · cases k with
        | zero => exact .inr (.inl ⟨rfl, rfl⟩)
        | succ k => exact .inr (.inr ⟨by simp, by rw [List.replicate_succ']; simp⟩)
    rw [this, ups_free n (k + 1)]
    congr 1; omega
theorem droot_root (l : List Nat) : droot l = root 47 l := by
  unfold root droot
  have dl : ∀ q : List Nat, (q.dropWhile (· == 47)).length ≤ q.length := fun q => by
    induction q with
    | nil => simp
    | cons x r ih => rw [List.dropWhile_cons]; split <;> simp; omega
  rcases root_cases (47 : Nat) l with ⟨h, h2⟩ | ⟨r, rfl, h⟩ | ⟨r, rfl, h2, h⟩
  · rw [h]
    have : l.dropWhile (· == 47) = l := by
      cases l with
      | nil => rfl
      | cons x r =>
        have hx : x ≠ 47 := by simpa using h2
        rw [List.dropWhile_cons, if_neg (by simpa using hx)]
    rw [this, if_pos (by omega)]
  · rw [h]
    have e1 : (47 :: r : List Nat).dropWhile (· == 47) = r.dropWhile (· == 47) := by rw [List.dropWhile_cons, if_pos (by simp)]
    have d1 := dl r
    rw [e1, if_neg (by rw [List.length_cons]; omega), if_neg]
    intro e
    cases r with
    | nil => simp at e
    | cons y r =>
      by_cases hy : y = 47
      · subst hy
        have e2 : (47 :: r : List Nat).dropWhile (· == 47) = r.dropWhile (· == 47) := by rw [List.dropWhile_cons, if_pos (by simp)]
        have d2 := dl r
        rw [e2] at e
        simp only [List.length_cons] at e
        have e3 : (r.dropWhile (· == 47)).length = r.length := by omega
        cases r with
        | nil => simp [sroot] at h
        | cons z r =>
          by_cases hz : z = 47
          · subst hz
            have e4 : (47 :: r : List Nat).dropWhile (· == 47) = r.dropWhile (· == 47) := by rw [List.dropWhile_cons, if_pos (by simp)]
            have d3 := dl r
            rw [e4, List.length_cons] at e3
            omega
          · simp [sroot, hz] at h
      · have e2 : (y :: r : List Nat).dropWhile (· == 47) = y :: r := by rw [List.dropWhile_cons, if_neg (by simpa using hy)]
        rw [e2] at e
        simp only [List.length_cons] at e
        omega
  · rw [h]
    have e1 : (47 :: 47 :: r : List Nat).dropWhile (· == 47) = r := by
      rw [List.dropWhile_cons, if_pos (by simp), List.dropWhile_cons, if_pos (by simp)]
      cases r with
      | nil => rfl
      | cons z r =>
        have hz : z ≠ 47 := by simpa using h2
        rw [List.dropWhile_cons, if_neg (by simpa using hz)]
    rw [e1, if_neg (by simp only [List.length_cons]; omega), if_pos (by simp only [List.length_cons]; omega)]
theorem dnames_nfold (l : List Nat) : dnames l = nfold 46 (decide (root 47 l ≠ [])) (splitL 47 l) := by
  unfold dnames nfold
  rw [droot_root, fold_ups]
  by_cases h : root 47 l ≠ []
  · rw [if_pos h, decide_eq_true h, ups_rooted, List.nil_append]
  · rw [if_neg h, decide_eq_false h]
    have := ups_free (ufold (splitL 47 l).reverse).2 0
    rw [Nat.zero_add] at this
    rw [← this]; rfl
theorem dstraight_is (l : List Nat) : dstraight l = pnorm 47 46 l := by
  rw [pnorm_is]
  unfold dstraight render
  rw [dnames_nfold, droot_root]
/-! ## the law's join is join -/
theorem getD_root {ps : List (List Nat)} {i : Nat} (hi : i < ps.length) : ps.getD i [] = ps[i] := by simp [List.getD_eq_getElem?_getD, hi]
/-- up to n parts, the join is the join from the last rooted one on -/
theorem pall_from (a : List Nat) (r : List (List Nat)) : ∀ n, n ≤ (a :: r).length → 0 < n → pall 47 ((a :: r).take n) = pall 47 (((a :: r).take n).drop (lastRoot (a :: r) n)) ∧ lastRoot (a :: r) n < n
  | 0, _, h0 => absurd h0 (Nat.lt_irrefl 0)
  | n + 1, hn, _ => by
    unfold lastRoot
    have hlt : n < (a :: r).length := by omega
    rw [getD_root hlt]
    by_cases hr : ((a :: r)[n]).head? = some 47
    · rw [if_pos hr]
      refine ⟨?_, by omega⟩
      have e : ((a :: r).take (n + 1)).drop n = [(a :: r)[n]] := by
        rw [List.take_succ_eq_append_getElem hlt, List.drop_append_of_le_length (by rw [List.length_take]; omega), List.drop_of_length_le (by rw [List.length_take]; omega), List.nil_append]
      rw [e]
      cases n with
      | zero => rfl
      | succ n =>
        rw [List.take_succ_eq_append_getElem hlt, List.take_succ_cons]
        show pjoin 47 a (r.take n ++ [(a :: r)[n + 1]]) = (a :: r)[n + 1]
        rw [pjoin_app]
        show jstep 47 _ (a :: r)[n + 1] = _
        unfold jstep
        rw [if_pos (.inl (by simpa using hr))]
    · rw [if_neg hr]
      cases n with
      | zero => exact ⟨rfl, by simp [lastRoot]⟩
      | succ n =>
        obtain ⟨ih, hl⟩ := pall_from a r (n + 1) (by omega) (by omega)
        refine ⟨?_, by omega⟩
        rw [List.take_succ_eq_append_getElem hlt, List.drop_append_of_le_length (by rw [List.length_take]; omega)]
        have snoc : ∀ (l : List (List Nat)) (x : List Nat), l ≠ [] → pall 47 (l ++ [x]) = jstep 47 (pall 47 l) x := fun l x hl => by
          cases l with
          | nil => exact absurd rfl hl
          | cons b t =>
            show pjoin 47 b (t ++ [x]) = _
            rw [pjoin_app]; rfl
        rw [snoc _ _ (by simp), snoc _ _ ?_, ih]
        intro e
        have := congrArg List.length e
        rw [List.length_drop, List.length_take, List.length_nil] at this
        omega
theorem pall_strip : ∀ l : List (List Nat), pall 47 (strip0 l) = pall 47 l
  | [] => rfl
  | [a] => rfl
  | a :: b :: r => by
    show pall 47 (if a = [] then strip0 (b :: r) else a :: b :: r) = _
    by_cases ha : a = []
    · rw [if_pos ha, pall_strip (b :: r)]
      subst ha
      show pjoin 47 b r = pjoin 47 (jstep 47 [] b) r
      have : jstep 47 ([] : List Nat) b = b := by unfold jstep; rw [if_pos (.inr rfl)]
      rw [this]
    · rw [if_neg ha]
/-- no part but the first is rooted; the first is not empty -/
theorem gjoin_is : ∀ (n : Nat) (l : List (List Nat)) (a : List Nat), l.length = n → a ≠ [] → (∀ x ∈ l, x.head? ≠ some 47) → pall 47 (a :: l) = ((a :: l).dropLast.map slashed).flatten ++ (a :: l).getLastD [] ∧ (((a :: l).map slashed).flatten).getLast? = some 47 ∧
    (jstep 47 (pall 47 (a :: l)) [] = ((a :: l).map slashed).flatten)
  | 0, l, a, hn, ha, _ => by
    have : l = [] := List.eq_nil_of_length_eq_zero hn
    subst this
    refine ⟨by simp [pall, pjoin], ?_, ?_⟩
    · simp only [List.map_cons, List.map_nil, List.flatten_cons, List.flatten_nil, List.append_nil]
      unfold slashed
      by_cases h : a.getLast? = some 47
      · rw [if_pos (.inr h)]; exact h
      · rw [if_neg (fun k => k.elim ha h)]; simp
    · show jstep 47 a [] = _
      simp only [List.map_cons, List.map_nil, List.flatten_cons, List.flatten_nil, List.append_nil]
      unfold slashed jstep
      rw [if_neg (by rintro (h | h); · simp at h
                     · exact ha h)]
      by_cases h : a.getLast? = some 47
      · rw [if_pos (by simpa using h), if_pos (.inr h), List.append_nil]
      · rw [if_neg (by simpa using h), if_neg (fun k => k.elim ha h)]
  | n + 1, l, a, hn, ha, hx => by
    rcases List.eq_nil_or_concat l with rfl | ⟨t, x, rfl⟩
    · simp at hn
    · rw [List.concat_eq_append] at hn hx ⊢
      obtain ⟨h1, h2, h3⟩ := gjoin_is n t a (by simpa using hn) ha fun y hy => hx y (List.mem_append_left _ hy)
      have hxr : x.head? ≠ some 47 := hx x (by simp)
      have e1 : pall 47 (a :: (t ++ [x])) = jstep 47 (pall 47 (a :: t)) x := by
        show pjoin 47 a (t ++ [x]) = _
        rw [pjoin_app]; rfl
      have hne : pall 47 (a :: t) ≠ [] := by
        intro e
        rw [e] at h3
        have : jstep 47 ([] : List Nat) [] = [] := by unfold jstep; rw [if_pos (.inr rfl)]
        rw [this] at h3
        rw [← h3] at h2
        simp at h2
      have e2 : jstep 47 (pall 47 (a :: t)) x = jstep 47 (pall 47 (a :: t)) [] ++ x := by
        have k1 : ¬ ((x.head? == some 47) = true ∨ pall 47 (a :: t) = []) := by
          rintro (h | h)
          · exact hxr (by simpa using h)
          · exact hne h
        have k2 : ¬ ((([] : List Nat).head? == some 47) = true ∨ pall 47 (a :: t) = []) := by
          rintro (h | h)
          · simp at h
          · exact hne h
        unfold jstep
        rw [if_neg k1, if_neg k2]
        split <;> simp
      have e3 : pall 47 (a :: (t ++ [x])) = ((a :: t).map slashed).flatten ++ x := by rw [e1, e2, h3]
      have hd : (a :: (t ++ [x])).dropLast = a :: t := by
        rw [← List.cons_append, List.dropLast_concat]
      have hl : (a :: (t ++ [x])).getLastD [] = x := by
        rw [List.getLastD_eq_getLast?, ← List.cons_append, List.getLast?_concat]; rfl
      have hm : ((a :: (t ++ [x])).map slashed).flatten = ((a :: t).map slashed).flatten ++ slashed x := by
        rw [← List.cons_append, List.map_append, List.flatten_append]; simp
      refine ⟨by rw [hd, hl]; exact e3, ?_, ?_⟩
      · rw [hm]
        unfold slashed
        by_cases h0 : x = []
        · rw [if_pos (.inl h0), h0, List.append_nil]
          unfold slashed at h2; exact h2
        · by_cases h : x.getLast? = some 47
          · rw [if_pos (.inr h), List.getLast?_append, h]; rfl
          · rw [if_neg (fun k => k.elim h0 h)]; simp
      · rw [e3, hm]
        have hne2 : ((a :: t).map slashed).flatten ++ x ≠ [] := by
          intro e
          have := (List.append_eq_nil_iff.mp e).1
          rw [this] at h2; simp at h2
        unfold jstep
        rw [if_neg (by rintro (h | h); · simp at h
                       · exact hne2 h)]
        by_cases h0 : x = []
        · subst h0
          rw [List.append_nil, if_pos (by simpa using h2)]
          simp [slashed]
        · have hl2 : (((a :: t).map slashed).flatten ++ x).getLast? = x.getLast? := by
            rw [List.getLast?_append]
            cases hg : x.getLast? with
            | none => exact absurd (List.getLast?_eq_none_iff.mp hg) h0
            | some z => rfl
          rw [hl2]
          by_cases h : x.getLast? = some 47
          · rw [if_pos (by simpa using h)]
            unfold slashed; rw [if_pos (.inr h), List.append_nil]
          · rw [if_neg (by simpa using h)]
            conv => rhs; unfold slashed
            rw [if_neg (fun k => k.elim h0 h), List.append_assoc]
            rfl
theorem lastRoot_after (ps : List (List Nat)) : ∀ n k, lastRoot ps n < k → k < n → (ps.getD k []).head? ≠ some 47
  | 0, k, _, h => absurd h (Nat.not_lt_zero _)
  | n + 1, k, h1, h2 => by
    unfold lastRoot at h1
    by_cases h : (ps.getD n []).head? = some 47
    · rw [if_pos h] at h1; omega
    · rw [if_neg h] at h1
      by_cases hk : k = n
      · subst hk; exact h
      · exact lastRoot_after ps n k h1 (by omega)
theorem strip0_shape : ∀ l : List (List Nat), l ≠ [] → ∃ j, strip0 l = l.drop j ∧ j < l.length ∧ ((strip0 l).length = 1 ∨ ∃ a r, strip0 l = a :: r ∧ a ≠ [])
  | [], h => absurd rfl h
  | [a], _ => ⟨0, rfl, by simp, .inl rfl⟩
  | a :: b :: r, _ => by
    by_cases ha : a = []
    · obtain ⟨j, e, hj, h⟩ := strip0_shape (b :: r) (by simp)
      have e1 : strip0 (a :: b :: r) = strip0 (b :: r) := by
        show (if a = [] then _ else _) = _
        rw [if_pos ha]
      exact ⟨j + 1, by rw [e1, e]; rfl, by simpa using hj, by rw [e1]; exact h⟩
    · have e1 : strip0 (a :: b :: r) = a :: b :: r := by
        show (if a = [] then _ else _) = _
        rw [if_neg ha]
      exact ⟨0, by rw [e1]; rfl, by simp, .inr ⟨a, b :: r, e1, ha⟩⟩
theorem djoin_is (ps : List (List Nat)) (h : ps ≠ []) : djoin ps = pall 47 ps := by
  cases ps with
  | nil => exact absurd rfl h
  | cons a r =>
    obtain ⟨h1, h2⟩ := pall_from a r (a :: r).length (Nat.le_refl _) (by simp)
    rw [List.take_length] at h1
    rw [h1]
    unfold djoin
    generalize hk : lastRoot (a :: r) (a :: r).length = k at h2
    have hroot : ∀ j x, k < j → (a :: r)[j]? = some x → x.head? ≠ some 47 := fun j x hj hx => by
      have hlt : j < (a :: r).length := by
        rcases Nat.lt_or_ge j (a :: r).length with h | h
        · exact h
        · rw [List.getElem?_eq_none h] at hx; cases hx
      have := lastRoot_after (a :: r) (a :: r).length j (by rw [hk]; exact hj) hlt
      rw [List.getD_eq_getElem?_getD, hx] at this
      exact this
    have hne : (a :: r).drop k ≠ [] := by
      intro e
      have := congrArg List.length e
      rw [List.length_drop, List.length_nil] at this
      omega
    rw [← pall_strip]
    obtain ⟨j, e, hj, hsh⟩ := strip0_shape _ hne
    rcases hsh with hsh | ⟨b, t, e2, hb⟩
    · obtain ⟨b, e2⟩ := List.length_eq_one_iff.mp hsh
      rw [e2]; simp [gjoin, pall, pjoin]
    · rw [e2]
      refine (gjoin_is t.length t b rfl hb fun x hx => ?_).1.symm
      obtain ⟨i, hi⟩ := List.getElem?_of_mem hx
      have e3 : (strip0 ((a :: r).drop k))[i + 1]? = some x := by rw [e2]; simpa using hi
      rw [e, List.getElem?_drop, List.getElem?_drop] at e3
      exact hroot _ x (by omega) e3
end Mine
end

section
set_option maxRecDepth 100000
namespace Mine
section
variable {α β : Type} [DecidableEq α] [DecidableEq β] {g : α → β}
theorem map_inj (hg : ∀ x y, g x = g y → x = y) : ∀ {l l' : List α}, l.map g = l'.map g → l = l'
  | [], [], _ => rfl
  | [], _ :: _, h => by simp at h
  | _ :: _, [], h => by simp at h
  | x :: r, y :: t, h => by
    rw [List.map_cons, List.map_cons, List.cons.injEq] at h
    rw [hg x y h.1, map_inj hg h.2]
theorem jstep_map (hg : ∀ x y, g x = g y → x = y) (c : α) (p b : List α) : jstep (g c) (p.map g) (b.map g) = (jstep c p b).map g := by
  have h1 : ((b.map g).head? == some (g c)) = (b.head? == some c) := by
    cases b with
    | nil => rfl
    | cons x r =>
      show (some (g x) == some (g c)) = (some x == some c)
      rw [Bool.eq_iff_iff, beq_iff_eq, beq_iff_eq, Option.some.injEq, Option.some.injEq]
      exact ⟨hg _ _, fun e => by rw [e]⟩
  have h2 : ((p.map g).getLast? == some (g c)) = (p.getLast? == some c) := by
    rw [List.getLast?_map]
    cases p.getLast? with
    | none => rfl
    | some x =>
      show (some (g x) == some (g c)) = (some x == some c)
      rw [Bool.eq_iff_iff, beq_iff_eq, beq_iff_eq, Option.some.injEq, Option.some.injEq]
      exact ⟨hg _ _, fun e => by rw [e]⟩
  have h3 : (p.map g = []) = (p = []) := by simp
  unfold jstep
  simp only [h1, h2, h3]
  split
  · rfl
  · split <;> simp
theorem pjoin_map (hg : ∀ x y, g x = g y → x = y) (c : α) : ∀ (bs : List (List α)) (a : List α), pjoin (g c) (a.map g) (bs.map (List.map g)) = (pjoin c a bs).map g
  | [], a => rfl
  | b :: r, a => by
    show pjoin (g c) (jstep (g c) (a.map g) (b.map g)) (r.map (List.map g)) = (pjoin c (jstep c a b) r).map g
    rw [jstep_map hg, pjoin_map hg c r]
theorem pall_map (hg : ∀ x y, g x = g y → x = y) (c : α) (bs : List (List α)) : pall (g c) (bs.map (List.map g)) = (pall c bs).map g := by
  cases bs with
  | nil => rfl
  | cons a r => exact pjoin_map hg c r a
theorem splitL_map (hg : ∀ x y, g x = g y → x = y) (c : α) : ∀ l : List α, splitL (g c) (l.map g) = (splitL c l).map (List.map g)
  | [] => rfl
  | x :: r => by
    rw [List.map_cons]
    by_cases h : x = c
    · subst h; rw [splitL_c, splitL_c, splitL_map hg x r]; rfl
    · have h' : g x ≠ g c := fun e => h (hg _ _ e)
      rw [splitL_cons_ne h, splitL_cons_ne h', splitL_map hg c r]
      cases splitL c r <;> rfl
theorem sroot_map (hg : ∀ x y, g x = g y → x = y) (c : α) (l : List α) : sroot (g c) (l.map g) = ((sroot c l).1.map g, (sroot c l).2.map g) := by
  have ne : ∀ {x : α}, x ≠ c → g x ≠ g c := fun h e => h (hg _ _ e)
  match l with
  | [] => simp [sroot]
  | [x] =>
    by_cases h : x = c
    · subst h; simp [sroot]
    · simp [sroot, h, ne h]
  | [x, y] =>
    by_cases h : x = c
    · by_cases h2 : y = c
      · subst h h2; simp [sroot]
      · subst h; simp [sroot, h2, ne h2]
    · simp [sroot, h, ne h]
  | x :: y :: z :: r =>
    by_cases h : x = c
    · by_cases h2 : y = c
      · by_cases h3 : z = c
        · subst h h2 h3; simp [sroot]
        · subst h h2; simp [sroot, h3, ne h3]
      · subst h; simp [sroot, h2, ne h2]
    · simp [sroot, h, ne h]
theorem nstep_map (hg : ∀ x y, g x = g y → x = y) (d : α) (rt : Bool) (st : List (List α)) (x : List α) : nstep (g d) rt (st.map (List.map g)) (x.map g) = (nstep d rt st x).map (List.map g) := by
  have inj : ∀ l l' : List α, (l.map g = l'.map g) = (l = l') := fun l l' => propext ⟨map_inj hg, fun e => by rw [e]⟩
  have e1 : (x.map g = []) = (x = []) := by simp
  have e2 : (x.map g = [g d]) = (x = [d]) := inj x [d]
  have e3 : (x.map g = [g d, g d]) = (x = [d, d]) := inj x [d, d]
  have e4 : (st.map (List.map g) = []) = (st = []) := by simp
  have e5 : ((st.map (List.map g)).getLast? = some [g d, g d]) = (st.getLast? = some [d, d]) := by
    rw [List.getLast?_map]
    cases st.getLast? with
    | none => simp
    | some y =>
      have := inj y [d, d]
      simp only [Option.map_some, Option.some.injEq]
      exact this
  unfold nstep
  simp only [ne_eq, e1, e2, e3, e4, e5]
  split
  · rfl
  · split
    · simp
    · rw [List.dropLast_eq_take, List.dropLast_eq_take, List.map_take, List.length_map]
theorem nfold_map (hg : ∀ x y, g x = g y → x = y) (d : α) (rt : Bool) : ∀ (xs st : List (List α)), (xs.map (List.map g)).foldl (nstep (g d) rt) (st.map (List.map g)) = (xs.foldl (nstep d rt) st).map (List.map g)
  | [], st => rfl
  | x :: r, st => by
    rw [List.map_cons, List.foldl_cons, List.foldl_cons, nstep_map hg, nfold_map hg d rt r]
theorem joinL_map (c : α) : ∀ ps : List (List α), joinL (g c) (ps.map (List.map g)) = (joinL c ps).map g
  | [] => rfl
  | [p] => rfl
  | p :: q :: r => by
    have ih : joinL (g c) ((q :: r).map (List.map g)) = (joinL c (q :: r)).map g := joinL_map c (q :: r)
    show p.map g ++ g c :: joinL (g c) ((q :: r).map (List.map g)) = (p ++ c :: joinL c (q :: r)).map g
    rw [ih]; simp
theorem pnorm_map (hg : ∀ x y, g x = g y → x = y) (c d : α) (l : List α) : pnorm (g c) (g d) (l.map g) = (pnorm c d l).map g := by
  have h1 : root (g c) (l.map g) = (root c l).map g := by unfold root; rw [sroot_map hg]
  have h2 : (decide (root (g c) (l.map g) ≠ [])) = decide (root c l ≠ []) := by rw [h1]; simp
  rw [pnorm_is, pnorm_is, h2, h1, splitL_map hg]
  have h3 : nfold (g d) (decide (root c l ≠ [])) ((splitL c l).map (List.map g)) = (nfold d (decide (root c l ≠ [])) (splitL c l)).map (List.map g) := nfold_map hg d _ (splitL c l) []
  rw [h3]
  unfold render
  rw [joinL_map]
  have h4 : ((root c l).map g ++ (joinL c (nfold d (decide (root c l ≠ [])) (splitL c l))).map g = []) = (root c l ++ joinL c (nfold d (decide (root c l ≠ [])) (splitL c l)) = []) := by simp
  simp only [h4]
  split <;> simp
theorem tot_map (ps : List (List α)) : tot (ps.map (List.map g)) = tot ps := by
  induction ps with
  | nil => rfl
  | cons p r ih => simp only [List.map_cons, tot, ih, List.length_map]
end
/-! ## codes and octets -/
def u8 (l : List Nat) : List UInt8 := l.map Nat.toUInt8
theorem u8_back (l : List UInt8) : u8 (l.map UInt8.toNat) = l := by
  unfold u8
  rw [List.map_map]
  have : (Nat.toUInt8 ∘ UInt8.toNat) = id := by funext x; simp
  rw [this, List.map_id]
theorem back_u8 {l : List Nat} (h : ∀ x ∈ l, x < 128) : (u8 l).map UInt8.toNat = l := by
  unfold u8
  rw [List.map_map]
  conv => rhs; rw [← List.map_id l]
  refine List.map_congr_left fun x hx => ?_
  have := h x hx
  simp; omega
theorem nat_inj : ∀ x y : UInt8, x.toNat = y.toNat → x = y := fun x y h => UInt8.toNat_inj.mp h
theorem parts_back {ps : List (List Nat)} (h : ∀ p ∈ ps, ∀ x ∈ p, x < 128) : (ps.map u8).map (List.map UInt8.toNat) = ps := by
  rw [List.map_map]
  conv => rhs; rw [← List.map_id ps]
  exact List.map_congr_left fun p hp => back_u8 (h p hp)
theorem pall_u8 {ps : List (List Nat)} (h : ∀ p ∈ ps, ∀ x ∈ p, x < 128) : pall 47 (ps.map u8) = u8 (pall 47 ps) := by
  have h1 := pall_map nat_inj (47 : UInt8) (ps.map u8)
  rw [parts_back h] at h1
  rw [← u8_back (pall 47 (ps.map u8)), ← h1]
  rfl
theorem pnorm_u8 {l : List Nat} (h : ∀ x ∈ l, x < 128) : pnorm 47 46 (u8 l) = u8 (pnorm 47 46 l) := by
  have h1 := pnorm_map nat_inj (47 : UInt8) (46 : UInt8) (u8 l)
  rw [back_u8 h] at h1
  rw [← u8_back (pnorm 47 46 (u8 l)), ← h1]
  rfl
/-- below 128, as a type -/
theorem low_list {l : List Nat} (h : ∀ x ∈ l, x < 128) : ∃ m : List (Fin 128), m.map Fin.val = l := by
  induction l with
  | nil => exact ⟨[], rfl⟩
  | cons x r ih =>
    obtain ⟨m, hm⟩ := ih fun y hy => h y (List.mem_cons_of_mem _ hy)
    exact ⟨⟨x, h x List.mem_cons_self⟩ :: m, by rw [List.map_cons, hm]⟩
theorem low_lists {ps : List (List Nat)} (h : ∀ p ∈ ps, ∀ x ∈ p, x < 128) : ∃ ms : List (List (Fin 128)), ms.map (List.map Fin.val) = ps := by
  induction ps with
  | nil => exact ⟨[], rfl⟩
  | cons p r ih =>
    obtain ⟨ms, hms⟩ := ih fun q hq => h q (List.mem_cons_of_mem _ hq)
    obtain ⟨m, hm⟩ := low_list (h p List.mem_cons_self)
    exact ⟨m :: ms, by rw [List.map_cons, hms, hm]⟩
theorem val_inj : ∀ x y : Fin 128, x.val = y.val → x = y := fun x y h => Fin.ext h
theorem low_map (m : List (Fin 128)) : ∀ x ∈ m.map Fin.val, x < 128 := fun x hx => by
  obtain ⟨y, _, rfl⟩ := List.mem_map.mp hx
  exact y.isLt
theorem pall_low {ps : List (List Nat)} (h : ∀ p ∈ ps, ∀ x ∈ p, x < 128) : ∀ x ∈ pall 47 ps, x < 128 := by
  obtain ⟨ms, rfl⟩ := low_lists h
  have h1 := pall_map val_inj (47 : Fin 128) ms
  have h2 : pall 47 (ms.map (List.map Fin.val)) = (pall (47 : Fin 128) ms).map Fin.val := h1
  rw [h2]
  exact low_map _
theorem pnorm_low {l : List Nat} (h : ∀ x ∈ l, x < 128) : ∀ x ∈ pnorm 47 46 l, x < 128 := by
  obtain ⟨m, rfl⟩ := low_list h
  have h1 := pnorm_map val_inj (47 : Fin 128) (46 : Fin 128) m
  have h2 : pnorm 47 46 (m.map Fin.val) = (pnorm (47 : Fin 128) 46 m).map Fin.val := h1
  rw [h2]
  exact low_map _
end Mine
end

section
open PySem PySem.W PyProof.Rows
set_option maxRecDepth 100000
namespace Mine
def partB (v : Int) : List UInt8 := partOf (ap (lawMode v % 4096).natAbs) (askAt (lawMode v))
def oneHot (v : Int) : List Bool := (List.range 7).map fun (k : Nat) => decide (v.fmod 8 = (k : Int))
/-- all that the walk of the law asks of its values -/
structure LawFacts (xs : List Int) : Prop where
  mode : ∀ v ∈ xs, 0 ≤ lawMode v ∧ lawMode v < 2 ^ 32
  parts : xs.map partB = (xs.map dueN).map u8
  ask : ∀ v ∈ xs, asks (lawMode v) = oneHot v
  wB : pall 47 (xs.map partB) = u8 (djoin (xs.map dueN))
  sB : pnorm 47 46 (pall 47 (xs.map partB)) = u8 (dstraight (djoin (xs.map dueN)))
  wS : pall 47 (xs.map dueN) = djoin (xs.map dueN)
  sS : pnorm 47 46 (djoin (xs.map dueN)) = dstraight (djoin (xs.map dueN))
  totB : tot (xs.map partB) ≤ 600
  totN : tot (xs.map dueN) ≤ 600
  wlen : (djoin (xs.map dueN)).length ≤ 600
  slen : (dstraight (djoin (xs.map dueN))).length ≤ 700
  asciiD : ∀ v ∈ xs, ∀ c ∈ dueN v, c < 128
  dlen : ∀ v ∈ xs, (dueN v).length ≤ 600
  asciiW : ∀ c ∈ djoin (xs.map dueN), c < 128
  asciiS : ∀ c ∈ dstraight (djoin (xs.map dueN)), c < 128
  cutW : ∀ k, 0 < k → k < (xs.map partB).length → pall 47 [pall 47 ((xs.map partB).take k), pall 47 ((xs.map partB).drop k)] = u8 (djoin (xs.map dueN))
  cutS : ∀ k, 0 < k → k < (xs.map partB).length → pnorm 47 46 (pall 47 [pnorm 47 46 (pall 47 ((xs.map partB).take k)), pnorm 47 46 (pall 47 ((xs.map partB).drop k))]) = u8 (dstraight (djoin (xs.map dueN)))
end Mine
end

section
open PySem PySem.W PyProof.Rows
set_option maxRecDepth 100000
namespace Mine
theorem fm' {a b : Int} (h : 0 < b) : a.fmod b = a % b := Int.fmod_eq_emod_of_nonneg a (Int.le_of_lt h)
theorem fd' {a b : Int} (h : 0 < b) : a.fdiv b = a / b := Int.fdiv_eq_ediv_of_nonneg a (Int.le_of_lt h)
theorem kinds_fit {j : Nat} (h : j < 7) : 0 ≤ ([8, 4, 10, 1, 12, 2, 6] : List Int).getD j 0 ∧ ([8, 4, 10, 1, 12, 2, 6] : List Int).getD j 0 < 16 := by
  rcases j with _|_|_|_|_|_|_|j
  all_goals first | decide | omega
theorem others_fit {j : Nat} (h : j < 9) : 0 ≤ ([0, 3, 5, 7, 9, 11, 13, 14, 15] : List Int).getD j 0 ∧ ([0, 3, 5, 7, 9, 11, 13, 14, 15] : List Int).getD j 0 < 16 := by
  rcases j with _|_|_|_|_|_|_|_|_|j
  all_goals first | decide | omega
theorem kind_fit {v : Int} : 0 ≤ lawKind v ∧ lawKind v < 16 := by
  unfold lawKind
  rw [fm' (by decide), fm' (by decide), fd' (by decide)]
  split
  · exact kinds_fit (by omega)
  · exact others_fit (by omega)
theorem mode_is (v : Int) : lawMode v = v % 7 * 536870912 + lawKind v * 4096 + v / 72 % 4096 := by
  unfold lawMode
  rw [fm' (by decide), fm' (by decide), fd' (by decide)]
  rfl
theorem mode_fit (v : Int) : 0 ≤ lawMode v ∧ lawMode v < 2 ^ 32 := by
  rw [mode_is]
  have h := kind_fit (v := v)
  omega
theorem mode_low (v : Int) : lawMode v % 4096 = v / 72 % 4096 := by
  rw [mode_is]
  omega
theorem mode_kind (v : Int) : lawMode v / 4096 % 16 = lawKind v := by
  rw [mode_is]
  have h := kind_fit (v := v)
  have e : (v % 7 * 536870912 + lawKind v * 4096 + v / 72 % 4096) / 4096 = v % 7 * 131072 + lawKind v := by omega
  rw [e]
  omega
theorem others_no {j : Nat} (h : j < 9) : ∀ k ∈ ([8, 4, 10, 1, 12, 2, 6] : List Int), ([0, 3, 5, 7, 9, 11, 13, 14, 15] : List Int).getD j 0 ≠ k := by
  rcases j with _|_|_|_|_|_|_|_|_|j
  all_goals first | decide | omega
theorem kinds_hot {j : Nat} (h : j < 7) : ([8, 4, 10, 1, 12, 2, 6] : List Int).map (fun k => decide (([8, 4, 10, 1, 12, 2, 6] : List Int).getD j 0 = k)) = (List.range 7).map fun (k : Nat) => decide ((j : Int) = (k : Int)) := by
  rcases j with _|_|_|_|_|_|_|j
  all_goals first | decide | omega
theorem ask_is (v : Int) : asks (lawMode v) = oneHot v := by
  unfold asks oneHot
  rw [mode_kind, fm' (by decide)]
  unfold lawKind
  rw [fm' (by decide), fm' (by decide), fd' (by decide)]
  by_cases h : v % 8 < 7
  · rw [if_pos h]
    obtain ⟨j, hj⟩ := Int.eq_ofNat_of_zero_le (show 0 ≤ v % 8 by omega)
    rw [hj] at h ⊢
    rw [Int.toNat_natCast]
    exact kinds_hot (by omega)
  · rw [if_neg h]
    have e : v % 8 = 7 := by omega
    rw [e]
    have h9 := others_no (j := (v / 8 % 9).toNat) (by omega)
    generalize ([0, 3, 5, 7, 9, 11, 13, 14, 15] : List Int).getD (v / 8 % 9).toNat 0 = q at h9
    have e2 : ([8, 4, 10, 1, 12, 2, 6] : List Int).map (fun k => decide (q = k)) = [false, false, false, false, false, false, false] := by
      simp only [List.map_cons, List.map_nil]
      have := fun k hk => decide_eq_false (h9 k hk)
      simp [List.mem_cons] at h9
      simp [h9]
    rw [e2]
    decide
theorem hot_idx {j : Nat} (h : j < 8) : ((List.range 7).map fun (k : Nat) => decide ((j : Int) = (k : Int))).idxOf true = j := by
  rcases j with _|_|_|_|_|_|_|_|j
  all_goals first | decide | omega
theorem askAt_is (v : Int) : askAt (lawMode v) = (v % 8).toNat := by
  unfold askAt
  rw [ask_is]
  unfold oneHot
  rw [fm' (by decide)]
  obtain ⟨j, hj⟩ := Int.eq_ofNat_of_zero_le (show 0 ≤ v % 8 by omega)
  rw [hj, Int.toNat_natCast]
  exact hot_idx (by omega)
theorem sgn_at {k : Nat} (h : k < 16) : signs16.getD k 0 = 65 + k := by
  rcases k with _|_|_|_|_|_|_|_|_|_|_|_|_|_|_|_|k
  all_goals first | decide | omega
theorem word_is {r : Nat} (h : r < 4096) : ap r = u8 (wordN r) := by
  unfold wordN
  rw [sgn_at (by omega), sgn_at (by omega), sgn_at (by omega)]
  have d16 : r / 16 / 16 = r / 256 := by omega
  have st : ∀ n f v, n ≠ 0 → apF (f + 1) n v = apF f (n / 16) (apD (n % 16) :: v) := fun n f v hn => by
    show (if n = 0 then v else _) = _
    rw [if_neg hn]
  have z : ∀ f v, apF f 0 v = v := apF_zero
  unfold ap
  by_cases h0 : r = 0
  · subst h0; rfl
  · rw [st _ _ _ h0]
    by_cases h1 : r / 16 = 0
    · have e0 : r / 256 = 0 := by omega
      have e1 : r / 16 % 16 = 0 := by omega
      rw [h1, z, e0]
      have e3 : ((65 + r % 16 == 65) : Bool) = false := by
        rw [beq_eq_false_iff_ne]; omega
      simp only [List.cons_append, List.nil_append, List.dropWhile_cons, Nat.add_zero, Nat.zero_mod, beq_self_eq_true, if_true, e3, Bool.false_eq_true, if_false]
      rfl
    · rw [st _ _ _ h1, d16]
      by_cases h2 : r / 256 = 0
      · rw [h2, z]
        have e3 : ((65 + r / 16 % 16 == 65) : Bool) = false := by
          rw [beq_eq_false_iff_ne]; omega
        simp only [List.cons_append, List.nil_append, List.dropWhile_cons, Nat.add_zero, beq_self_eq_true, if_true, e3, Bool.false_eq_true, if_false]
        rfl
      · rw [st _ _ _ h2, show r / 256 / 16 = 0 by omega, z, show r / 256 % 16 = r / 256 by omega]
        have e3 : ((65 + r / 256 == 65) : Bool) = false := by
          rw [beq_eq_false_iff_ne]; omega
        simp only [List.cons_append, List.nil_append, List.dropWhile_cons, e3, Bool.false_eq_true, if_false]
        rfl
theorem part_u8 (word : List Nat) {j : Nat} (h : j < 8) : partOf (u8 word) j = u8 (partN word j) := by
  rcases j with _|_|_|_|_|_|_|_|j
  all_goals first | omega | (simp [partOf, partN, u8]) 
theorem part_is (v : Int) : partB v = u8 (dueN v) := by
  unfold partB dueN
  rw [askAt_is, mode_low]
  have e : (v / 72 % 4096).natAbs = (v / 72 % 4096).toNat := by omega
  rw [e, word_is (by omega), part_u8 _ (by omega)]
theorem word_low {r : Nat} : (∀ x ∈ wordN r, x < 128) ∧ (wordN r).length ≤ 3 := by
  unfold wordN
  have hs : ∀ k, signs16.getD k 0 < 128 := fun k => by
    rcases Nat.lt_or_ge k 16 with h | h
    · rw [sgn_at h]; omega
    · have : signs16.getD k 0 = 0 := by
        rw [List.getD_eq_getElem?_getD, List.getElem?_eq_none (by simpa [signs16] using h)]; rfl
      rw [this]; decide
  constructor
  · intro x hx
    have := (List.dropWhile_sublist (fun y : Nat => y == 65)).subset hx
    simp only [List.cons_append, List.nil_append, List.mem_cons, List.not_mem_nil, or_false] at this
    rcases this with rfl | rfl | rfl <;> exact hs _
  · have := (List.dropWhile_sublist (fun y : Nat => y == 65) (l := [signs16.getD (r / 256) 0] ++ [signs16.getD (r / 16 % 16) 0] ++ [signs16.getD (r % 16) 0])).length_le
    simpa using this
theorem due_low (v : Int) : (∀ x ∈ dueN v, x < 128) ∧ (dueN v).length ≤ 9 := by
  unfold dueN
  obtain ⟨h1, h2⟩ := word_low (r := (v / 72 % 4096).toNat)
  generalize wordN (v / 72 % 4096).toNat = word at h1 h2
  have hj : (v % 8).toNat < 8 := by omega
  generalize (v % 8).toNat = j at hj
  have key : (∀ x ∈ partN word j, x ∈ word ∨ x < 128) ∧ (partN word j).length ≤ 2 * word.length + 3 := by
    rcases j with _|_|_|_|_|_|_|_|j
    · exact ⟨fun x hx => .inl hx, by show word.length ≤ _; omega⟩
    · refine ⟨fun x hx => ?_, by show (word ++ [47]).length ≤ _; simp; omega⟩
      rcases List.mem_append.mp (show x ∈ word ++ [47] from hx) with h | h
      · exact .inl h
      · have := List.mem_singleton.mp h; exact .inr (by omega)
    · refine ⟨fun x hx => ?_, by show (47 :: word).length ≤ _; simp; omega⟩
      rcases List.mem_cons.mp (show x ∈ 47 :: word from hx) with h | h
      · exact .inr (by omega)
      · exact .inl h
    · exact ⟨fun x hx => .inr (by have : x ∈ ([46, 46] : List Nat) := hx; simp at this; omega), by show 2 ≤ _; omega⟩
    · exact ⟨fun x hx => .inr (by have : x ∈ ([46] : List Nat) := hx; simp at this; omega), by show 1 ≤ _; omega⟩
    · exact ⟨fun x hx => by have : x ∈ ([] : List Nat) := hx; simp at this, by show 0 ≤ _; omega⟩
    · refine ⟨fun x hx => ?_, by show (word ++ [47, 47, 47] ++ word).length ≤ _; simp; omega⟩
      rcases List.mem_append.mp (show x ∈ word ++ [47, 47, 47] ++ word from hx) with h | h
      · rcases List.mem_append.mp h with h | h
        · exact .inl h
        · exact .inr (by simp at h; omega)
      · exact .inl h
    · refine ⟨fun x hx => ?_, by show ([47, 47] ++ word).length ≤ _; simp; omega⟩
      rcases List.mem_append.mp (show x ∈ [47, 47] ++ word from hx) with h | h
      · exact .inr (by simp at h; omega)
      · exact .inl h
    · omega
  exact ⟨fun x hx => (key.1 x hx).elim (h1 x) id, by have := key.2; omega⟩
theorem due_tot (xs : List Int) : tot (xs.map dueN) ≤ 10 * xs.length := by
  induction xs with
  | nil => exact Nat.le_refl _
  | cons v r ih =>
    have := (due_low v).2
    simp only [List.map_cons, tot, List.length_cons]
    omega
theorem law_facts (xs : List Int) (_ : ∀ v ∈ xs, 0 ≤ v ∧ v < 2 ^ 27) (h0 : 0 < xs.length) (h8 : xs.length ≤ 8) : LawFacts xs := by
  have parts : xs.map partB = (xs.map dueN).map u8 := by
    rw [List.map_map]; exact List.map_congr_left fun v _ => part_is v
  have low : ∀ p ∈ xs.map dueN, ∀ x ∈ p, x < 128 := fun p hp => by
    obtain ⟨v, _, rfl⟩ := List.mem_map.mp hp
    exact (due_low v).1
  have hne : xs.map dueN ≠ [] := by
    intro e
    have := congrArg List.length e
    rw [List.length_map, List.length_nil] at this
    omega
  have hdj : djoin (xs.map dueN) = pall 47 (xs.map dueN) := djoin_is _ hne
  have hds : ∀ l, dstraight l = pnorm 47 46 l := dstraight_is
  have hW : pall 47 (xs.map partB) = u8 (djoin (xs.map dueN)) := by rw [parts, pall_u8 low, hdj]
  have lowW : ∀ c ∈ djoin (xs.map dueN), c < 128 := by rw [hdj]; exact pall_low low
  have hS : pnorm 47 46 (pall 47 (xs.map partB)) = u8 (dstraight (djoin (xs.map dueN))) := by rw [hW, hds, pnorm_u8 lowW]
  have ht := due_tot xs
  have hwl : (djoin (xs.map dueN)).length ≤ tot (xs.map dueN) := by rw [hdj]; exact pall_len 47 _
  have hsl := pnorm_len (47 : Nat) 46 (djoin (xs.map dueN))
  exact {
    mode := fun v _ => mode_fit v
    parts := parts
    ask := fun v _ => ask_is v
    wB := hW
    sB := hS
    wS := hdj.symm
    sS := (hds _).symm
    totB := by rw [parts, show ((xs.map dueN).map u8) = (xs.map dueN).map (List.map Nat.toUInt8) from rfl, tot_map]; omega
    totN := by omega
    wlen := by omega
    slen := by rw [hds]; omega
    asciiD := fun v _ => (due_low v).1
    dlen := fun v _ => Nat.le_trans (due_low v).2 (by decide)
    asciiW := lowW
    asciiS := by rw [hds]; exact pnorm_low lowW
    cutW := fun k k0 kl => (cut_join 47 _ k k0 kl).trans hW
    cutS := fun k k0 kl => by
      have h1 := cut_join (47 : UInt8) (xs.map partB) k k0 kl
      have h2 : pall (47 : UInt8) [pnorm 47 46 (pall 47 ((xs.map partB).take k)), pnorm 47 46 (pall 47 ((xs.map partB).drop k))] = jstep 47 (pnorm 47 46 (pall 47 ((xs.map partB).take k))) (pnorm 47 46 (pall 47 ((xs.map partB).drop k))) := rfl
      rw [h2, cut_norm (by decide)]
      have h3 : jstep 47 (pall 47 ((xs.map partB).take k)) (pall 47 ((xs.map partB).drop k)) = pall (47 : UInt8) [pall 47 ((xs.map partB).take k), pall 47 ((xs.map partB).drop k)] := rfl
      rw [h3, h1]
      exact hS }
end Mine
end

section
open PySem PySem.W PyProof.Rows
namespace Mine
set_option maxRecDepth 100000
local macro_rules | `(tactic| k_qdec) => `(tactic| first | (rw [Fast.te17448422675489707002]; decide +kernel) | decide +kernel)
/-! the walk's lines of this text alone -/
local macro_rules | `(tactic| walk_at "call type:type") => `(tactic| ((with_reducible show wpAny _ _ (call _ [Value.bytes _ _]) _ _ _); refine call_type_of (Tx := "bytes") rfl (by decide +kernel) ?_))
local macro_rules | `(tactic| walk_at "call builtin:issubclass") => `(tactic| (k_here; k_dflt (first
  | (refine' issubclass_pair sub2_bs sub2_bb ?k1 ?_; (case k1 => exact News.get (by k_asm) (by k_mem)); k_whole)
  | (refine' issubclass_pair sub2_ss sub2_sb ?k1 ?_; (case k1 => exact News.get (by k_asm) (by k_mem)); k_whole))))
-- a call of a def whose contract is shown: «tb_rel» holds the contract
local macro_rules | `(tactic| tb_start) => `(tactic| (
  (case k1 => k_asm)
  (case k2 => k_asm)
  (case k3 => k_asm)
  (case k4 => k_asm)
  (case k5 => k_asm)
  (case kK => first | exact rfl | assumption)
  (case kd => ktr_room)
  (case ku => ktr_units)
  (case kP => first | exact True.intro | assumption | (repeat' (first | exact True.intro | k_mem | assumption | refine And.intro ?_ ?_)))
  intro t9 h9 tk9 F9 N9
  (try dsimp only)
  (try k_fold)))

theorem eqb_yes {prog : Program} {w : World} {A : Around} {E : Value → Shared → Prop} {s : Shared} {b c : List UInt8} {t u : Tok} {Q : Value → Shared → Prop} (e : b = c) (h : Q (.bool true) s) : wpAny (model prog w) A (compareOp .Eq (.bytes b.toArray t) (.bytes c.toArray u)) Q E s := by
  subst e
  refine eq_bytes ?_
  have : (b.toArray.toList == b.toArray.toList) = true := by simp
  rw [this]; exact h
theorem eqs_yes {prog : Program} {w : World} {A : Around} {E : Value → Shared → Prop} {s : Shared} {b c : Str} {t u : Tok} {Q : Value → Shared → Prop} (e : b = c) (h : Q (.bool true) s) : wpAny (model prog w) A (compareOp .Eq (.str b t) (.str c u)) Q E s := by
  subst e
  refine eq_str ?_
  have : (b == b) = true := by simp
  rw [this]; exact h
theorem show7 : ∀ a b c d e f g : Bool, (PyData.list ([a, b, c, d, e, f, g].map PyData.bool)).showable = true := by decide +kernel
theorem dict7 : ∀ a b c d e f g : Bool, (PyData.list ([a, b, c, d, e, f, g].map PyData.bool)).hasDict = false := by decide +kernel
theorem depth7 : ∀ a b c d e f g : Bool, (PyData.list ([a, b, c, d, e, f, g].map PyData.bool)).depth = 1 := by decide +kernel
theorem repr7 : ∀ a b c d e f g : Bool, (reprB [a, b, c, d, e, f, g]).length ≤ 100 := by decide +kernel
theorem asks7 (n : Int) : ∃ a b c d e f g, asks n = [a, b, c, d, e, f, g] := ⟨_, _, _, _, _, _, _, rfl⟩
theorem hot7 (n : Int) : ∃ a b c d e f g, oneHot n = [a, b, c, d, e, f, g] := ⟨_, _, _, _, _, _, _, rfl⟩
theorem str7 {prog : Program} {w : World} {A : Around} {E : Value → Shared → Prop} {s : Shared} {h₀ : Heap} {L D : Addr} {m : Str → Option Value} {news : List (Addr × Obj)} {n : Nat} {bs : List Bool} {Q : Value → Shared → Prop} (hb : ∃ a b c d e f g, bs = [a, b, c, d, e, f, g]) (F : Fr h₀ L s.heap m) (N : News h₀ L s.heap news) (h1 : (D, listOf (bs.map Value.bool).toArray n) ∈ news) (hg : A.guards = some []) (hu : A.units + 8 < cLine)
    (h : ∀ h' u tk, Fr h₀ L h' m → News h₀ L h' news → Q (.str (reprB bs) u) { s with heap := h', toks := tk }) : wpAny (model prog w) A (call (.type "str") [.ref D]) Q E s := by
  obtain ⟨a, b, c, d, e, f, g, rfl⟩ := hb
  exact str_bools F N h1 (show7 a b c d e f g) (dict7 a b c d e f g) hg (by rw [depth7]; omega) (Nat.le_trans (repr7 a b c d e f g) (by rw [sizeLine_eq]; decide)) h
theorem c_partB (w : World) (v : Int) (t : Tok) (h0 : 0 ≤ lawMode v) (h1 : lawMode v < 2 ^ 32) : Tells w 225 4 noAsk [.int (lawMode v) t] (fun t => .bytes (partB v).toArray t) := c_part w _ t h0 h1
theorem hot_is (v : Int) : (oneHot v).map Value.bool = (List.range 7).map fun (k : Nat) => Value.bool (decide (v.fmod 8 = (k : Int))) := by simp [oneHot]
theorem sencode_mk {prog : Program} {w : World} {A : Around} {E : Value → Shared → Prop} {s : Shared} {l : List Nat} {t u : Tok} {Q : Value → Shared → Prop} (hx : ∀ c ∈ l, c < 128) (hz : l.length ≤ 4096) (hq : ∀ t' k, Q (.bytes (u8 l).toArray t') { s with toks := k }) : wpAny (model prog w) A (call (.builtin "str.encode") [.str (mkS l) t, .str (Str.ofString "ascii") u]) Q E s :=
  sencode hx (by rw [mlen, sizeLine_eq]; omega) hq
theorem len63 {vs : List Value} {ns : List Int} (h : IntsAre vs ns) (h2 : ¬ ((63 : Nat) : Int) < (ns.length : Int)) : vs.length ≤ 63 := by rw [h.length]; omega
theorem li_snoc {ys : List Value} {xs : List Int} {f : Int → Int} {i : Nat} {y : Int} {t : Tok} (h : IntsAre ys ((xs.take i).map f)) (hq : xs[i]? = some y) : IntsAre (ys ++ [.int (f y) t]) ((xs.take (i + 1)).map f) := by
  have e : (xs.take (i + 1)).map f = (xs.take i).map f ++ [f y] := by rw [List.take_add_one, hq]; simp
  rw [e]; exact ints_snoc h
theorem ls_snoc {α : Type} {ys : List Value} {xs : List α} {f : α → Str} {i : Nat} {y : α} {t : Tok} (h : StrsAre ys ((xs.take i).map f)) (hq : xs[i]? = some y) : StrsAre (ys ++ [.str (f y) t]) ((xs.take (i + 1)).map f) := by
  have e : (xs.take (i + 1)).map f = (xs.take i).map f ++ [f y] := by rw [List.take_add_one, hq]; simp
  rw [e]; exact StrsAre_append h (.cons _ _ .nil)
theorem lb_snoc {α : Type} {ys : List Value} {xs : List α} {f : α → List UInt8} {i : Nat} {y : α} {t : Tok} (h : BsAre ys ((xs.take i).map f)) (hq : xs[i]? = some y) : BsAre (ys ++ [.bytes (f y).toArray t]) ((xs.take (i + 1)).map f) := by
  have e : (xs.take (i + 1)).map f = (xs.take i).map f ++ [(f y).toArray.toList] := by rw [List.take_add_one, hq]; simp
  rw [e]; exact h.append (.cons _ _ .nil)
theorem take_us {α : Type} {us : List Value} {xs : List α} (h : us.length = xs.length) : xs.take us.toArray.size = xs := by rw [List.size_toArray, h, List.take_length]
theorem at_mapI {xs : List Int} {f : Int → Int} {i : Nat} {m : Int} (h : (xs.map f)[i]? = some m) : ∃ y, xs[i]? = some y ∧ m = f y := by
  rw [List.getElem?_map] at h
  cases e : xs[i]? with
  | none => rw [e] at h; exact nomatch h
  | some p => rw [e] at h; exact ⟨p, rfl, (Option.some.inj h).symm⟩
theorem at_mapS {α : Type} {xs : List α} {f : α → Str} {i : Nat} {m : Str} (h : (xs.map f)[i]? = some m) : ∃ y, xs[i]? = some y ∧ m = f y := by
  rw [List.getElem?_map] at h
  cases e : xs[i]? with
  | none => rw [e] at h; exact nomatch h
  | some p => rw [e] at h; exact ⟨p, rfl, (Option.some.inj h).symm⟩
section
local macro_rules | `(tactic| walk_at "exec Assign cons ListComp") => `(tactic| (k_here; k_dflt (refine LCg.Assign_ListComp_U (F₀ := by k_asm) (by rfl) (by with_unfolding_all rfl) (by with_unfolding_all rfl) (by decide) (by rfl) (by decide) (by rfl) (by rfl) (by rfl) ?_)))
local macro_rules | `(tactic| walk_at "eval ListComp") => `(tactic| (k_here; k_dflt (first
  | ((with_reducible show wpAny _ _ (eval (PySem.Expr.ListComp (PySem.Expr.Call _ [PySem.Expr.ListComp _ _ _ _] _ _) _ _ _) _) _ _ _); refine ListComp_C (F₀ := by k_asm) (by with_unfolding_all rfl) (by intro _; rfl) (by intro _; rfl) (by rfl) (by decide) (by with_unfolding_all rfl) ?_)
  | refine LCg.ListComp_U (F₀ := by k_asm) (by with_unfolding_all rfl) (by decide) (by rfl) (by decide) (by rfl) ?_)))
local macro_rules | `(tactic| walk_at "StarOf ref") => `(tactic| (k_here; k_dflt (refine' star_seq ?k1 ?k2 ?m ?c ?d ?T ?e ?z ?_; (case k1 => k_asm); (case k2 => k_asm); (case m => k_mem); (case c => exact rfl); (case d => exact rfl); (case T => first | exact .inl rfl | exact .inr rfl); (case e => exact rfl); (case z => (rw [List.size_toArray, sizeLine_eq]; omega)); k_whole); intro h' F' N'; try dsimp only [List.nil_append, List.cons_append]))
local macro_rules | `(tactic| walk_at "getMethod str") => `(tactic| (with_reducible refine gm_sencode ?_))
local macro_rules | `(tactic| walk_at "call ref") => `(tactic| k_dflt (k_extra "call"))
local macro_rules | `(tactic| walk_at "CompSrc") => `(tactic| k_dflt (k_extra "comp"))
local macro_rules | `(tactic| walk_at "CellSrc") => `(tactic| k_dflt (k_extra "cellsrc"))
local macro_rules | `(tactic| walk_at "CEnd") => `(tactic| k_dflt (k_extra "cend"))
local macro_rules | `(tactic| walk_at "call type:str") => `(tactic| k_dflt (k_extra "str"))
local macro_rules | `(tactic| walk_at "compareOp Eq ref ref") => `(tactic| k_dflt (k_extra "eql"))
local macro_rules | `(tactic| walk_at "compareOp Eq bytes bytes") => `(tactic| k_dflt (k_extra "eqb"))
local macro_rules | `(tactic| walk_at "compareOp Eq str str") => `(tactic| k_dflt (k_extra "eqs"))
local macro_rules | `(tactic| walk_at "call builtin:str.encode") => `(tactic| k_dflt (k_extra "enc"))

set_option maxHeartbeats 8000000 in
theorem fin : PySem.Challenge.rw_il0056_01.Holds := hd (by
  k_go0
  rename IntsAre _ _ => hI
  rename ¬ _ < _ => hLen
  have hvl := len63 hI hLen
  k_with_none
  k_with "call" => (     (first
    | (refine TellsV.use (c_values _ _ _ _ hI hvl) (by k_asm) (by k_asm) (by k_asm) (by k_asm) (by k_asm) (by first | exact rfl | assumption) (by ktr_room) (by ktr_units) (by assumption) ?_; intro D9 o9 h9 tk9 hO9 F9 N9 l9; obtain ⟨us, xs, nx, hO8, hx, hx0, hx8, hxb⟩ := hO9; subst hO8; have hxK : KeepP (IntsAre us xs) := hx; have hxl : us.length = xs.length := hx.length; have LF := law_facts xs hxb hx0 hx8; (try dsimp only); (try k_fold))
    | (refine Tells.use (c_mode _ _ _ (hxb _ (List.mem_of_getElem? hq')).1 (hxb _ (List.mem_of_getElem? hq')).2) (by k_asm) (by k_asm) (by k_asm) (by k_asm) (by k_asm) (by first | exact rfl | assumption) (by ktr_room) (by ktr_units) True.intro ?_; intro t9 h9 tk9 F9 N9; (try dsimp only); (try k_fold))
    | (refine Tells.use (c_due _ _ _) (by k_asm) (by k_asm) (by k_asm) (by k_asm) (by k_asm) (by first | exact rfl | assumption) (by ktr_room) (by ktr_units) True.intro ?_; intro t9 h9 tk9 F9 N9; (try dsimp only); (try k_fold))
    | (refine Tells.use (c_partB _ _ _ (LF.mode _ (List.mem_of_getElem? hq')).1 (LF.mode _ (List.mem_of_getElem? hq')).2) (by k_asm) (by k_asm) (by k_asm) (by k_asm) (by k_asm) (by first | exact rfl | assumption) (by ktr_room) (by ktr_units) True.intro ?_; intro t9 h9 tk9 F9 N9; (try dsimp only); (try k_fold))
    | (refine TellsO.use (c_asked _ _ _ (LF.mode _ (List.mem_of_getElem? hq')).1 (LF.mode _ (List.mem_of_getElem? hq')).2) (by k_asm) (by k_asm) (by k_asm) (by k_asm) (by k_asm) (by first | exact rfl | assumption) (by ktr_room) (by ktr_units) True.intro ?_; intro D9 o9 h9 tk9 hO9 F9 N9 l9; subst hO9; (try dsimp only); (try k_fold))
    | (refine Tells.use (c_djoin _ _ _ _ _ (by rw [List.map_map]; exact hDK) (by omega) (by omega) (Nat.le_trans LF.totN (by decide))) (by k_asm) (by k_asm) (by k_asm) (by k_asm) (by k_asm) (by first | exact rfl | assumption) (by ktr_room) (by ktr_units) (by k_mem) ?_; intro t9 h9 tk9 F9 N9; (try dsimp only); (try k_fold))
    | (refine Tells.use (c_dstraight _ _ _ (by rw [mlen]; exact LF.wlen)) (by k_asm) (by k_asm) (by k_asm) (by k_asm) (by k_asm) (by first | exact rfl | assumption) (by ktr_room) (by ktr_units) True.intro ?_; intro t9 h9 tk9 F9 N9; (try dsimp only); (try k_fold))
    | (refine Tells.use (c_join_p _ ysP _ hPK (by omega) (Nat.le_trans LF.totB (by decide))) (by k_asm) (by k_asm) (by k_asm) (by k_asm) (by k_asm) (by first | exact rfl | assumption) (by ktr_room) (by ktr_units) True.intro ?_; intro t9 h9 tk9 F9 N9; (try dsimp only); (try k_fold))
    | (refine Tells.use (c_join_q _ _ ((xs.map dueN).map mkS) (by rw [List.map_map]; exact hDK) (by omega) (by rw [map_mkS]; exact Nat.le_trans LF.totN (by decide))) (by k_asm) (by k_asm) (by k_asm) (by k_asm) (by k_asm) (by first | exact rfl | assumption) (by ktr_room) (by ktr_units) True.intro ?_; intro t9 h9 tk9 F9 N9; (try dsimp only); (try k_fold))
    | (refine Tells.use (c_normpath_b _ _ _ (by rw [List.size_toArray, LF.wB]; unfold u8; rw [List.length_map]; exact Nat.le_trans LF.wlen (by decide))) (by k_asm) (by k_asm) (by k_asm) (by k_asm) (by k_asm) (by first | exact rfl | assumption) (by ktr_room) (by ktr_units) True.intro ?_; intro t9 h9 tk9 F9 N9; (try dsimp only); (try k_fold))
    | (refine Tells.use (c_normpath_s _ _ _ (by rw [mlen]; exact Nat.le_trans LF.wlen (by decide))) (by k_asm) (by k_asm) (by k_asm) (by k_asm) (by k_asm) (by first | exact rfl | assumption) (by ktr_room) (by ktr_units) True.intro ?_; intro t9 h9 tk9 F9 N9; (try dsimp only); (try k_fold))
    | (refine Tells.use (c_cuts _ _ _ ysP _ hPK (by omega) (by omega) LF.totB _ _ _ _ LF.cutW LF.cutS) (by k_asm) (by k_asm) (by k_asm) (by k_asm) (by k_asm) (by first | exact rfl | assumption) (by ktr_room) (by ktr_units) (by k_mem) ?_; intro t9 h9 tk9 F9 N9; (try dsimp only); (try k_fold))))
  k_with "comp" => (     (first
    | (
     (with_reducible show LCg.CompSrc _ _ _ _ _ _ _ (PySem.Expr.Call (PySem.Expr.Name (Str.ofString "_law_mode") _) _ _ _) _ _ _ _ _ _)
     refine LCg.CompSrc.ledger (its := us.toArray) (by rfl) (by k_asm) (by k_asm) (by k_mem) (by rw [List.size_toArray, sizeLine_eq]; omega) ?_
     intro g1
     refine comp_rest (fun i ys => IntsAre ys ((xs.take i).map lawMode)) (Or.inr ⟨_, by k_mem, rfl, _, rfl⟩) .nil ?_ ?_
     focus
       intro i' v' ys' I' oI' C' oC' D' m' h' tk' E' hi' hv2' hJ' hC' hx' F' N' off' ne'
       obtain ⟨y', ty', hy', hq'⟩ := IntsAre.at (show IntsAre us xs from hxK) i' _ ((List.getElem?_toArray ..).symm.trans hv2')
       subst hy'
       try simp only [LCg.Off3, and_true] at off'
     rotate_left
     focus
       intro ysM hJ'
       rw [take_us hxl] at hJ'
       have hM : KeepP (IntsAre ysM (xs.map lawMode)) := hJ'
       have hMl : ysM.length = xs.length := by rw [hJ'.length, List.length_map])
    | (
     (with_reducible show LCg.CompSrc _ _ _ _ _ _ _ (PySem.Expr.Call (PySem.Expr.Name (Str.ofString "_law_due_part") _) _ _ _) _ _ _ _ _ _)
     refine LCg.CompSrc.ledger (its := us.toArray) (by rfl) (by k_asm) (by k_asm) (by k_mem) (by rw [List.size_toArray, sizeLine_eq]; omega) ?_
     intro g1
     refine comp_rest (fun i ys => StrsAre ys ((xs.take i).map fun v => mkS (dueN v))) (Or.inr ⟨_, by k_mem, rfl, _, rfl⟩) .nil ?_ ?_
     focus
       intro i' v' ys' I' oI' C' oC' D' m' h' tk' E' hi' hv2' hJ' hC' hx' F' N' off' ne'
       obtain ⟨y', ty', hy', hq'⟩ := IntsAre.at (show IntsAre us xs from hxK) i' _ ((List.getElem?_toArray ..).symm.trans hv2')
       subst hy'
       try simp only [LCg.Off3, and_true] at off'
     rotate_left
     focus
       intro ysD hJ'
       rw [take_us hxl] at hJ'
       have hDK : KeepP (StrsAre ysD (xs.map fun v => mkS (dueN v))) := hJ'
       have hDl : ysD.length = xs.length := by rw [StrsAre_len hJ', List.length_map])
    | (
     (with_reducible show LCg.CompSrc _ _ _ _ _ _ _ (PySem.Expr.Call (PySem.Expr.Name (Str.ofString "_law_part") _) _ _ _) _ _ _ _ _ _)
     refine LCg.CompSrc.ledger (its := ysM.toArray) (by rfl) (by k_asm) (by k_asm) (by k_mem) (by rw [List.size_toArray, sizeLine_eq]; omega) ?_
     intro g1
     refine comp_rest (fun i ys => BsAre ys ((xs.take i).map partB)) (Or.inr ⟨_, by k_mem, rfl, _, rfl⟩) .nil ?_ ?_
     focus
       intro i' v' ys' I' oI' C' oC' D' m' h' tk' E' hi' hv2' hJ' hC' hx' F' N' off' ne'
       obtain ⟨mm, ty', hy', hqm⟩ := IntsAre.at (show IntsAre ysM (xs.map lawMode) from hM) i' _ ((List.getElem?_toArray ..).symm.trans hv2')
       obtain ⟨y', hq', hme⟩ := at_mapI hqm
       subst hme
       subst hy'
       try simp only [LCg.Off3, and_true] at off'
     rotate_left
     focus
       intro ysP hJ'
       rw [take_us hMl] at hJ'
       have hPK : KeepP (BsAre ysP (xs.map partB)) := hJ'
       have hPl : ysP.length = xs.length := by rw [hJ'.length, List.length_map])
    | (
     (with_reducible show LCg.CompSrc _ _ _ _ _ _ _ (PySem.Expr.Call (PySem.Expr.Name (Str.ofString "str") _) _ _ _) _ _ _ _ _ _)
     refine LCg.CompSrc.ledger (its := ysM.toArray) (by rfl) (by k_asm) (by k_asm) (by k_mem) (by rw [List.size_toArray, sizeLine_eq]; omega) ?_
     intro g1
     refine comp_rest (fun i ys => StrsAre ys ((xs.take i).map fun v => reprB (asks (lawMode v)))) (Or.inr ⟨_, by k_mem, rfl, _, rfl⟩) .nil ?_ ?_
     focus
       intro i' v' ys' I' oI' C' oC' D' m' h' tk' E' hi' hv2' hJ' hC' hx' F' N' off' ne'
       obtain ⟨mm, ty', hy', hqm⟩ := IntsAre.at (show IntsAre ysM (xs.map lawMode) from hM) i' _ ((List.getElem?_toArray ..).symm.trans hv2')
       obtain ⟨y', hq', hme⟩ := at_mapI hqm
       subst hme
       subst hy'
       try simp only [LCg.Off3, and_true] at off'
     rotate_left
     focus
       intro ysA hJ'
       rw [take_us hMl] at hJ'
       have hAK : KeepP (StrsAre ysA (xs.map fun v => reprB (oneHot v))) := by
         have e : (xs.map fun v => reprB (oneHot v)) = xs.map fun v => reprB (asks (lawMode v)) := List.map_congr_left fun v hv => by rw [LF.ask v hv]
         show StrsAre ysA _
         rw [e]; exact hJ')
    | (
     (with_reducible show LCg.CompSrc _ _ _ _ _ _ _ (PySem.Expr.Call (PySem.Expr.Attribute _ _ _) _ _ _) _ _ _ _ _ _)
     refine LCg.CompSrc.ledger (its := ysD.toArray) (by rfl) (by k_asm) (by k_asm) (by k_mem) (by rw [List.size_toArray, sizeLine_eq]; omega) ?_
     intro g1
     refine comp_rest (fun i ys => BsAre ys ((xs.take i).map fun v => u8 (dueN v))) (Or.inr ⟨_, by k_mem, rfl, _, rfl⟩) .nil ?_ ?_
     focus
       intro i' v' ys' I' oI' C' oC' D' m' h' tk' E' hi' hv2' hJ' hC' hx' F' N' off' ne'
       obtain ⟨mm, ty', hy', hqm⟩ := StrsAre_at (show StrsAre ysD (xs.map fun v => mkS (dueN v)) from hDK) ((List.getElem?_toArray ..).symm.trans hv2')
       obtain ⟨y', hq', hme⟩ := at_mapS hqm
       subst hme
       subst hy'
       try simp only [LCg.Off3, and_true] at off'
     rotate_left
     focus
       intro ysN hJ'
       rw [take_us hDl] at hJ'
       have hNK : KeepP (BsAre ysN (xs.map partB)) := by
         have e : xs.map partB = xs.map fun v => u8 (dueN v) := by rw [LF.parts, List.map_map]; rfl
         show BsAre ysN _
         rw [e]; exact hJ')
    | (
     (with_reducible show LCg.CompSrc _ _ _ _ _ _ _ (PySem.Expr.Compare _ _ _ _) _ _ _ _ _ _)
     refine LCg.CompSrc.range (n := 7) (by rfl) (by k_asm) (by k_asm) (by assumption) (by decide) (by rfl) (by rw [sizeLine_eq]; omega) ?_
     intro g2
     refine comp_rest (fun i ys => ys = (List.range i).map fun (k : Nat) => Value.bool (decide (yv.fmod 8 = (k : Int)))) trivial rfl ?_ ?_
     focus
       intro i' v' ys' I' oI' C' oC' D' m' h' tk' E' hi' hv2' hJ' hC' hx' F' N' off' ne'
       obtain ⟨tv', hv2'⟩ := hv2'
       subst hv2'
       rw [Int.zero_add] at hx'
       try simp only [LCg.Off3, and_true] at off'
     rotate_left
     focus
       intro ysB hJB
       obtain rfl : ysB = (oneHot yv).map Value.bool := hJB.trans (hot_is yv).symm)))
  k_with "cellsrc" => (     (
    refine CellSrc.ledger (vs := us) (fun i ys => StrsAre ys ((xs.take i).map fun v => reprB (oneHot v))) (by rfl) (by k_asm) (by k_asm) (by k_mem) (by rw [sizeLine_eq]; omega) .nil ?_ ?_
    focus
      intro i' v' ys' I' oI' C' oC' c' oc' D' h' tk' E' hv2' hJ' hoc' F' N' off' offc'
      obtain ⟨yv, ty', hyv, hq'⟩ := IntsAre.at (show IntsAre us xs from hxK) i' _ hv2'
      subst hyv
      try simp only [LCg.Off3, and_true] at off'
    rotate_left
    focus
      intro ysE hJ'
      rw [hxl, List.take_length] at hJ'
      have hEK : KeepP (StrsAre ysE (xs.map fun v => reprB (oneHot v))) := hJ'))
  k_with "cend" => (     (
    refine CEnd.intro (by k_asm) (by first | k_asm | exact cb_drop (by assumption) (by kcj_all)) ?_
    first
    | exact li_snoc hJ' hq'
    | exact ls_snoc hJ' hq'
    | exact lb_snoc (f := partB) hJ' hq'
    | exact lb_snoc (f := fun v => u8 (dueN v)) hJ' hq'
    | (rw [hJ', List.range_succ, List.map_append]; rfl)))
  k_with "str" => (     ((with_reducible rename Fr _ _ _ _ => lF'); (with_reducible rename News _ _ _ _ => lN'); first
    | (refine str7 (asks7 _) lF' lN' (by k_mem) (by with_unfolding_all rfl) (by first | ktr_units | units_room) ?_; clear lF' lN'; intro h' u' tk' F' N')
    | (refine str7 (hot7 _) lF' lN' (by k_mem) (by with_unfolding_all rfl) (by first | ktr_units | units_room) ?_; clear lF' lN'; intro h' u' tk' F' N')))
  k_with "eql" => (     ((with_reducible rename News _ _ _ _ => lN'); first
    | refine eq_ss lN' (by k_mem) (by k_mem) (show StrsAre ysA _ from hAK) (show StrsAre ysE _ from hEK) (by first | ktr_units | units_room) ?_
    | refine eq_bs lN' (by k_mem) (by k_mem) (show BsAre ysP _ from hPK) (show BsAre ysN _ from hNK) (by first | ktr_units | units_room) ?_))
  k_with "enc" => (     (refine sencode_mk (by first | (with_reducible exact LF.asciiW) | (with_reducible exact LF.asciiS) | (with_reducible exact LF.asciiD _ (List.mem_of_getElem? hq'))) (by first | (with_reducible exact Nat.le_trans LF.wlen (Nat.le_of_ble_eq_true rfl)) | (with_reducible exact Nat.le_trans LF.slen (Nat.le_of_ble_eq_true rfl)) | (with_reducible exact Nat.le_trans (LF.dlen _ (List.mem_of_getElem? hq')) (Nat.le_of_ble_eq_true rfl))) ?_; intro _ _))
  k_with "eqb" => (     (refine eqb_yes (by first | (with_reducible exact LF.wB) | (with_reducible exact LF.sB)) ?_))
  k_with "eqs" => (     (refine eqs_yes (by first | (with_reducible exact congrArg mkS ((congrArg (pall 47) (map_mkS _)).trans LF.wS)) | (with_reducible exact congrArg mkS LF.sS)) ?_))
  w_strict (repeat' (first | (k_unfold; (try dsimp only)) | (k_end; wrow_close) | walk1 | (dsimp only; walk1) | (leave1; (try dsimp only)))))
end

end Mine
end

theorem PySem.Challenge.cw_il0056_01_holds : PySem.Challenge.rw_il0056_01.Holds := by
  exact Mine.fin
