import PyProof.Rows.All
import Wide.All
import OpenK.AllK
import Wide.FinOn
import PySem.Challenge.RW_iu0004_03
open PySem PySem.W PySem.Calls PyProof.Rows
set_option Elab.async false
set_option maxRecDepth 100000
set_option linter.all false
section
namespace Mine

-- pow with a modulus, of three ints
theorem slot_pow : Slot "int" (dunder "pow") "int.__pow__" := F.slot_int_pow
theorem args_pow3 (a b c : Value) : argsOk "int.__pow__" ⟨[a, b, c], []⟩ := by unfold argsOk; kernel_rfl
theorem entry_powB : entryFor table "pow" = some Builtin.«pow» := entryFor_of_tree (by kernel_rfl)
theorem kind_powB : builtinKind "pow" = none := by decide +kernel
theorem plain_powB : plainId "pow" = true := by decide +kernel
theorem args_powB (a b c : Value) : argsOk "pow" ⟨[a, b, c], []⟩ := by unfold argsOk; kernel_rfl

theorem gives_pow_inv (t u v : Tok) : Gives (Builtin.«int.__pow__» ⟨[.int 256 t, .int (-1) u, .int 8380417 v], []⟩) (.int 8347681) :=
  .of_wp fun M A E s Q h => by
    obtain ⟨hp, g, d, tk, os⟩ := s; wp_walk
    refine ⟨.int 8347681 tk, ?_, h⟩
    exact congrArg (fun z => Fin.done (.ret (.int z tk))) (by decide +kernel)

theorem gives_pow_pos (e : Int) (he : 0 ≤ e) (t u v : Tok) : Gives (Builtin.«int.__pow__» ⟨[.int 1753 t, .int e u, .int 8380417 v], []⟩) (.int (Builtin.powMod 1753 e.natAbs 8380417 : Nat)) :=
  .of_wp fun M A E s Q h => by
    have he' : ¬ e < 0 := by omega
    obtain ⟨hp, g, d, tk, os⟩ := s; wp_walk
    refine ⟨.int (Builtin.powMod 1753 e.natAbs 8380417 : Nat) tk, ?_, h⟩
    exact congrArg (fun z => Fin.done (.ret (.int z tk))) (if_neg (by simp))

section
variable {prog : Program} {w : World} {A : Around} {E : Value → Shared → Prop} {s : Shared}
theorem call_pow3 {a b c r : Int} {t u v : Tok} {Q : Value → Shared → Prop} (g : Gives (Builtin.«int.__pow__» ⟨[.int a t, .int b u, .int c v], []⟩) (.int r))
    (h : Q (.int r s.toks) { s with toks := s.toks + 1 }) :
    wpAny (model prog w) A (call (.builtin "pow") [.int a t, .int b u, .int c v]) Q E s := by
  refine Calls.call_function_entry kind_powB plain_powB entry_powB (args_powB _ _ _) ?_
  unfold Builtin.«pow»
  have hT := typeIs_int s a t
  refine wpAny_bind (m := Builtin.Builtins.bindParams "pow" ["base", "exp", "mod"] 2 _) (wpAny_pure (a := [some (Value.int a t), some (Value.int b u), some (Value.int c v)]) ?_)
  dsimp only [Option.getD]
  have sl : Slot "int" (Str.ofString "__pow__") "int.__pow__" := slot_pow
  have hl : typeLookup (.type "int") (Str.ofString "__pow__") = pure (some (.builtin "int.__pow__")) := sl.lookup
  repeat (first
    | (with_reducible refine wpAny_callSpecial?_slot hT sl ?_)
    | rw [hl]
    | ((fail_if_success (with_reducible show wpAny _ _ (call _ _ _) _ _ _)); wp_step))
  refine call_gives sl hT F.entry_int_pow (args_pow3 _ _ _) g ?_
  show wpAny _ _ (if (Value.int r s.toks != Value.notImplemented) = true then ret (Value.int r s.toks) else _) _ _ _
  rw [if_pos (show (Value.int r s.toks != Value.notImplemented) = true from rfl)]
  exact wpAny_pure ⟨_, rfl, h⟩
end

-- int of a text of noughts and ones
theorem typeCall_int2 (a b : Value) : checkTypeCall "int" ⟨[a, b], []⟩ = pure () := by kernel_rfl
theorem newCall_int2 (a b : Value) : checkBuiltinCall "int.__new__" ⟨[.type "int", a, b], []⟩ = pure () := by kernel_rfl

abbrev readB (x : Str) (n : Int) : Prop :=
  (int_private% "readNumeral") 0 2 (x.cps.toList.takeWhile (· != 0)) = (int_private% "Numeral.value") n
structure TextIs (x : Str) (n : Int) : Prop where
  ascii : (x.cps.all (· < 128)) = true
  short : (x.cps.toList.takeWhile (· != 0)).length ≤ 640
  reads : readB x n
  whole : ((x.cps.toList.takeWhile (· != 0)).length == x.cps.toList.length) = true

theorem wp_text2 {M : Model} {A : Around} {E : Value → Shared → Prop} {s : Shared} {Q : Value → Shared → Prop} {v : Value} {text : List Nat} {n : Int}
    (hs : (text.takeWhile (· != 0)).length ≤ 640) (hr : (int_private% "readNumeral") 0 2 (text.takeWhile (· != 0)) = (int_private% "Numeral.value") n)
    (ha : ((text.takeWhile (· != 0)).length == text.length) = true) (h : Q (.int n s.toks) { s with toks := s.toks + 1 }) :
    wpAny M A ((int_private% "intFromText") v text 2) Q E s := by
  obtain ⟨hp, g, d, tk, os⟩ := s
  repeat (any_goals (first
    | assumption
    | (with_reducible refine wpAny_ite_true (decide_eq_true hs) ?_)
    | (with_reducible refine wpAny_ite_true (decide_eq_true ha) ?_)
    | wp_step))
  all_goals (try rw [hr])
  all_goals (try dsimp only)
  repeat (any_goals (first
    | assumption
    | (with_reducible refine wpAny_ite_true (decide_eq_true hs) ?_)
    | (with_reducible refine wpAny_ite_true (decide_eq_true ha) ?_)
    | wp_step))
structure Hid (p : Prop) : Prop where
  out : p
theorem gives_int2 {x : Str} {u v : Tok} {n : Int} (hx : TextIs x n) : Gives (Builtin.«int.__new__» ⟨[.type "int", .str x u, .int 2 v], []⟩) (.int n) :=
  .of_wp fun M A E s Q h => by
    obtain ⟨hp, g, d, tk, os⟩ := s
    have f1 := F.conv_sub_int
    have f2 := F.madeHere_int
    have f6 : typeOf (.str x u) = pure (.type "str") := rfl
    have hk := Hid.mk hx
    have hc := hx.ascii
    clear hx
    repeat (any_goals (first
      | assumption
      | (rw [if_pos hc])
      | ((with_reducible show wpAny _ _ ((int_private% "intFromText") _ _ _) _ _ _); refine wp_text2 hk.out.short hk.out.reads hk.out.whole ?_)
      | wp_step))
    all_goals first | exact ⟨_, rfl, h⟩ | skip
section
variable {prog : Program} {w : World} {A : Around} {E : Value → Shared → Prop} {s : Shared} {Q : Value → Shared → Prop}
theorem call_int2 {x : Str} {t u : Tok} {n : Int} (hx : TextIs x n) (h : Q (.int n s.toks) { s with toks := s.toks + 1 }) : wpAny (model prog w) A (call (.type "int") [.str x t, .int 2 u]) Q E s :=
  callType_new F.called_int F.newNe_int (typeCall_int2 _ _) (newCall_int2 _ _) (fun obj => F.args_object_init_3 obj _ _) F.entry_int_new (gives_int2 hx).meets (show (Made.int n).post _ s from ⟨rfl, h⟩)
end

end Mine
end
section
namespace Mine
def S1 (n : Nat) : Str := baseText "0b" 2 (n : Int)
def S2 (n : Nat) : Str := Txt.slice (S1 n) (some 2) none
def S3 (n : Nat) : Str := Txt.zfill (S2 n) 8
def S4 (n : Nat) : Str := Txt.sliceBy (S3 n) none none (-1, 0)
def brv (n : Nat) : Nat := (List.range 8).foldl (fun a i => 2 * a + n / 2 ^ i % 2) 0

theorem all_of {p : Nat → Bool} (h : (List.range 256).all p = true) {n : Nat} (hn : n < 256) : p n = true :=
  List.all_eq_true.mp h n (List.mem_range.mpr hn)

theorem and_255 {n : Nat} (hn : n < 256) : Builtin.bitAnd (n : Int) (2 ^ Int.toNat 8 - 1) = (n : Int) := by
  have h := all_of (p := fun n => decide (Builtin.bitAnd (n : Int) (2 ^ Int.toNat 8 - 1) = (n : Int))) (by decide +kernel) hn
  simpa using h
def digs (n : Nat) : List Nat := (List.range 8).map (fun i => 48 + n / 2 ^ i % 2)
theorem facts_S {n : Nat} (hn : n < 256) : (S1 n).length ≤ 10 ∧ (S3 n).length ≤ 8 ∧ (S4 n).cps.toList = digs n := by
  have h := all_of (p := fun n => decide ((S1 n).length ≤ 10) && (decide ((S3 n).length ≤ 8) && decide ((S4 n).cps.toList = digs n))) (by decide +kernel) hn
  simpa using h
theorem len_S1 {n : Nat} (hn : n < 256) : (S1 n).length ≤ 10 := (facts_S hn).1
theorem len_S3 {n : Nat} (hn : n < 256) : (S3 n).length ≤ 8 := (facts_S hn).2.1
theorem cps_S4 {n : Nat} (hn : n < 256) : (S4 n).cps.toList = (List.range 8).map (fun i => 48 + n / 2 ^ i % 2) := (facts_S hn).2.2
theorem S4_tok (n : Nat) (u : Tok) : Txt.sliceBy (S3 n) none none (-1, u) = S4 n := rfl
abbrev NumT : Type := (int_private% "Numeral")
noncomputable def isVal (x : NumT) (i : Int) : Bool := (int_private% "Numeral.rec") (motive := fun _ => Bool) false (fun _ => false) false (fun j => j == i) x
theorem isVal_eq {x : NumT} {i : Int} (h : isVal x i = true) : x = (int_private% "Numeral.value") i := by
  cases x with
  | value j => have e : j = i := by simpa [isVal] using h
               rw [e]
  | _ => exact absurd h (by simp [isVal])
theorem text_S4 {n : Nat} (hn : n < 256) : TextIs (S4 n) (brv n : Nat) := by
  have e : (S4 n).cps.toList = digs n := cps_S4 hn
  have e2 : (S4 n).cps = (digs n).toArray := by rw [← e]
  have h := all_of (p := fun n => (digs n).toArray.all (· < 128) && decide (((digs n).takeWhile (· != 0)).length ≤ 640) && isVal ((int_private% "readNumeral") 0 2 ((digs n).takeWhile (· != 0))) (brv n : Nat) && (((digs n).takeWhile (· != 0)).length == (digs n).length)) (by decide +kernel) hn
  simp only [Bool.and_eq_true] at h
  obtain ⟨⟨⟨h1, h2⟩, h3⟩, h4⟩ := h
  refine ⟨?_, ?_, ?_, ?_⟩
  · rw [e2]; exact h1
  · rw [e]; exact of_decide_eq_true h2
  · show readB _ _
    unfold readB
    rw [e]
    exact isVal_eq h3
  · rw [e]; exact h4

section
variable {prog : Program} {w : World} {A : Around} {E : Value → Shared → Prop} {s : Shared} {h₀ : Heap} {L : Addr} {m : Str → Option Value} {news : List (Addr × Obj)} {Q : Value → Shared → Prop} {n : Nat} {value slice : Expr} {k : Int}
theorem bin_K {t : Tok} {a : Int} {c : Nat} (h0' : a ≤ k) (h1' : k < a + (c : Int)) (ha : a = 0) (hc : c = 256) (h : k.toNat < 256 → Q (.str (S1 k.toNat) s.toks) { s with toks := s.toks + 1 }) :
    wpAny (model prog w) A (call (.builtin "bin") [.int (Builtin.bitAnd k (2 ^ Int.toNat 8 - 1)) t]) Q E s := by
  have h0 : 0 ≤ k := by omega
  have h1 : k < 256 := by omega
  obtain ⟨n, rfl⟩ := Int.eq_ofNat_of_zero_le h0
  have hn : n < 256 := by omega
  rw [and_255 hn]
  exact P.bin_of_int (h hn) (Nat.le_trans (len_S1 hn) (by rw [sizeLine_eq]; omega))
theorem lt_str {value : Expr} {x : Str} {t : Tok} (r : Value) : letTemporaryGo value (.str x t) r = pure () := by
  cases value <;> rfl
theorem sub_str1 {e : Expr} {p : Pos} {x : Str} {t : Tok} {a : Addr} : subscripted (Expr.Slice (some e) none none p) false (.str x t) (.ref a) = operate [.ref a, .str x t] (getItem (.str x t) (.ref a)) := by with_unfolding_all rfl
theorem sub_str2 {e : Expr} {p : Pos} {x : Str} {t : Tok} {a : Addr} : subscripted (Expr.Slice none none (some e) p) false (.str x t) (.ref a) = operate [.ref a, .str x t] (getItem (.str x t) (.ref a)) := by with_unfolding_all rfl
theorem slice_K {t ui : Tok} {e : Expr} {p : Pos} (hn : n < 256) (F : Fr h₀ L s.heap m) (N : News h₀ L s.heap news) (h : ∀ h' t' k, Fr h₀ L h' m → News h₀ L h' news → Q (.str (S2 n) t') { s with heap := h', toks := k }) :
    wpAny (model prog w) A (subscriptTail value (Expr.Slice (some e) none none p) (.str (S1 n) t) (.ref s.heap.objs.size)) Q E { s with heap := s.heap.push { cls := .type "slice", data := .fields #[.int 2 ui, .none, .none] } } :=
  slice_strN_sn F N h sub_str1 lt_str (Nat.le_trans (len_S1 hn) (by rw [sizeLine_eq]; omega))
theorem zfill_K {t u : Tok} (h : ∀ t' k, Q (.str (S3 n) t') { s with toks := k }) : wpAny (model prog w) A (call (.builtin "str.zfill") [.str (S2 n) t, .int 8 u]) Q E s :=
  SC.zfill (by decide +kernel) h
theorem rev_K {t uk : Tok} {e : Expr} {p : Pos} (hn : n < 256) (F : Fr h₀ L s.heap m) (N : News h₀ L s.heap news) (h : ∀ h' t' k, Fr h₀ L h' m → News h₀ L h' news → Q (.str (S4 n) t') { s with heap := h', toks := k }) :
    wpAny (model prog w) A (subscriptTail value (Expr.Slice none none (some e) p) (.str (S3 n) t) (.ref s.heap.objs.size)) Q E { s with heap := s.heap.push { cls := .type "slice", data := .fields #[.none, .none, .int (-1) uk] } } :=
  slice_strK_nn F N (by decide) h sub_str2 lt_str (Nat.le_trans (len_S3 hn) (by rw [sizeLine_eq]; omega))
theorem int2_K {t u : Tok} (hn : n < 256) (h : Q (.int (brv n : Nat) s.toks) { s with toks := s.toks + 1 }) : wpAny (model prog w) A (call (.type "int") [.str (S4 n) t, .int 2 u]) Q E s :=
  call_int2 (text_S4 hn) h
theorem pow_K {b : Nat} {t u v : Tok} (h : Q (.int (Builtin.powMod 1753 b 8380417 : Nat) s.toks) { s with toks := s.toks + 1 }) :
    wpAny (model prog w) A (call (.builtin "pow") [.int 1753 t, .int (b : Int) u, .int 8380417 v]) Q E s := by
  have g := gives_pow_pos (b : Int) (by omega) t u v
  rw [Int.natAbs_natCast] at g
  exact call_pow3 g h
end
end Mine
end
section
namespace Mine
open PySem.AutoSeq1 (wpAny_loadPart')
section
variable {prog : Program} {w : World} {A : Around} {E : Value → Shared → Prop} {s : Shared}

theorem hint_bytes {b : Array UInt8} {t : Tok} {Q : Bool → Shared → Prop}
    (h : Q false s) : wpAny (model prog w) A (Builtin.List.listLengthHint (.bytes b t)) Q E s := by
  unfold Builtin.List.listLengthHint
  refine wpAny_bind (wpAny_specialOf (typeIs_bytes s b t) FB.slot_bytes_len.lookup ?_)
  generalize hid : ("bytes.__len__" : String) = id0
  wp_delta
  rw [show splitId id0 = some ("bytes", "__len__") from by subst hid; decide +kernel]
  subst hid
  refine wpAny_bind (wpAny_isInstance (T := "bytes") (b := true) (typeIs_bytes s b t) (by rw [isSubtype_type]; kernel_rfl) ?_)
  refine wpAny_ite_split (fun hab => absurd hab (by decide)) (fun _ => ?_)
  refine wpAny_ite_split (fun _ => ?_) (fun hab => absurd (by decide +kernel) hab)
  exact wpAny_pure h

theorem extend_bytes {R : Result → Shared → Prop} {b : Array UInt8} {t : Tok} (hh : A.handled = none) (hlen : b.size ≤ 2 ^ 24) (S : Addr) (res : Value) (c₀ : Nat) (hS : s.heap.get? S = some { cls := .type "list", data := .seq #[] c₀ })
    (hR : ∀ h' tk acc' c', (∀ b o, b ≠ S → s.heap.get? b = some o → h'.get? b = some o) → h'.get? S = some { cls := .type "list", dict := none, data := .seq acc' c', slots := #[] } →
      ItemsOf (fun i v => ∃ c u, b[i]? = some c ∧ v = .int (c.toNat : Int) u) acc' b.size → R (.ok (.ret res)) { s with heap := h', toks := tk }) :
    wpAny (model prog w) A.in1 (Builtin.List.listExtendWith (.ref S) (.bytes b t) res)
      (fun fin s' => match fin with | .done f => R (.ok f) s' | .again c' => c'.quiet = true ∧ codeAny (model prog w) A c' R s') (fun e s' => R (.error e) s') s := by
  have hSlt : S < s.heap.objs.size := Heap.lt_size hS
  have hSI : S ≠ s.heap.objs.size := Nat.ne_of_lt hSlt
  have hSf : S ∉ [s.heap.objs.size] := fun hm => hSI (List.mem_singleton.mp hm)
  have W := (KBw.walks (prog := prog) (w := w) (A := A.in1) hh s.heap.objs.size b t).toS
  have key : ∀ (h : Heap) (c₁ tk : Nat), KBw.IsBytesIter h s.heap.objs.size b t 0 → (∀ b o, b ≠ S → s.heap.get? b = some o → h.get? b = some o) →
      h.get? S = some { cls := .type "list", data := .seq #[] c₁ } → codeAny (model prog w) A (.builtin "list.extend.loop" ⟨[.ref S, .ref s.heap.objs.size, res], []⟩) R { s with heap := h, toks := tk } := by
    intro h c₁ tk hit hk hS₁
    refine codeAny_extend_loopS W (by rw [sizeLine_eq]; omega) S hSf res b.size 0 _ #[] c₁ (by omega) (Nat.zero_le _) hit hS₁ (ItemsOf.nil _) fun s' acc' c' hm hS' hacc => ?_
    rw [Moved.eq_with hm]
    refine hR s'.heap s'.toks acc' c' (fun b o hb e => hm.heap b o (fun hmem => ?_) (hk b o hb e)) hS' hacc
    rcases List.mem_cons.mp hmem with e' | hmem
    · exact hb e'
    · exact absurd (Heap.lt_size e) (by rw [List.mem_singleton.mp hmem]; exact Nat.lt_irrefl _)
  unfold Builtin.List.listExtendWith
  refine wpAny_bind (wpAny_typeOf (T := "bytes") (typeIs_bytes s b t) ?_)
  have h1 : Builtin.List.listSameRef (.ref S) (.bytes b t) = false := by simp [Builtin.List.listSameRef]
  have h2 : (Value.type "bytes" == Value.type "list") = false := by decide
  have h3 : (Value.type "bytes" == Value.type "tuple") = false := by decide
  simp only [h1, h2, h3, Bool.or_false, Bool.false_eq_true, if_false]
  refine wpAny_bind (KBw.pyIter_bytes ?_)
  refine wpAny_bind (wpAny_holding (hint_bytes ?_))
  have hit₁ : KBw.IsBytesIter (s.heap.push { cls := .type "bytes_iterator", data := .fields #[.bytes b t, .int 0 0] }) s.heap.objs.size b t 0 := ⟨_, Heap.get?_push_size _ rfl, rfl, rfl⟩
  have hS₁ := Heap.get?_push_of_some { cls := .type "bytes_iterator", data := .fields #[.bytes b t, .int 0 0] } hS
  refine wpAny_ite_split (fun _ => ?_) (fun _ => wpAny_pure ⟨plainId_quiet F.plain_extend_loop _, key _ c₀ _ hit₁ (fun b o _ e => Heap.get?_push_of_some _ e) hS₁⟩)
  refine wpAny_bind (wpAny_rule ?_)
  refine wpAny_bind ?_
  show wpAny _ _ (updateSeq S (·.push .none) >>= fun _ => updateSeq S (·.pop)) _ _ _
  refine wpAny_bind (wpAny_updateSeq hS₁ rfl ?_)
  have hS₂ := Heap.get?_update_self (Obj.mapSeq (·.push Value.none)) hS₁ rfl
  refine wpAny_updateSeq (hz := by seq_fits) hS₂ rfl ?_
  have hS₃ := Heap.get?_update_self (Obj.mapSeq (·.pop)) hS₂ rfl
  refine wpAny_pure ⟨plainId_quiet F.plain_extend_loop _, key _ _ _ ?_ (fun b o hb e => ?_) hS₃⟩
  · obtain ⟨o, ho, r⟩ := hit₁
    exact ⟨o, (Heap.get?_update_other _ _ hSI).trans ((Heap.get?_update_other _ _ hSI).trans ho), r⟩
  · exact (Heap.get?_update_other _ _ (Ne.symm hb)).trans ((Heap.get?_update_other _ _ (Ne.symm hb)).trans (Heap.get?_push_of_some _ e))

theorem init_bytes {R : Result → Shared → Prop} {b : Array UInt8} {t : Tok} (hh : A.handled = none) (hlen : b.size ≤ 2 ^ 24) (S : Addr) (hS : s.heap.get? S = some { cls := .type "list", data := .seq #[] })
    (hR : ∀ h' tk acc' c', (∀ b o, b ≠ S → s.heap.get? b = some o → h'.get? b = some o) → h'.get? S = some { cls := .type "list", dict := none, data := .seq acc' c', slots := #[] } →
      ItemsOf (fun i v => ∃ c u, b[i]? = some c ∧ v = .int (c.toNat : Int) u) acc' b.size → R (.ok (.ret .none)) { s with heap := h', toks := tk }) :
    wpAny (model prog w) A.in1 (Builtin.«list.__init__» ⟨[.ref S, .bytes b t], []⟩)
      (fun fin s' => match fin with | .done f => R (.ok f) s' | .again c' => c'.quiet = true ∧ codeAny (model prog w) A c' R s') (fun e s' => R (.error e) s') s := by
  show wpAny _ _ (do let old ← Builtin.List.listItems (.ref S); Builtin.List.listUpdate (.ref S) (fun _ => #[]); letGo old.toList.reverse; Builtin.List.listExtendWith (.ref S) (.bytes b t) .none) _ _ s
  refine wpAny_bind ?_
  unfold Builtin.List.listItems
  refine wpAny_bind (wpAny_seqItems hS rfl (wpAny_pure ?_))
  show wpAny _ _ (updateSeq S (fun _ => #[]) >>= fun _ => letGo (#[] : Array Value).toList.reverse >>= fun _ => Builtin.List.listExtendWith (.ref S) (.bytes b t) .none) _ _ s
  refine wpAny_bind (wpAny_updateSeq hS rfl ?_)
  have hS₂ := Heap.get?_update_self (Obj.mapSeq (fun _ => (#[] : Array Value))) hS rfl
  have oth : ∀ b o, b ≠ S → s.heap.get? b = some o → (s.heap.update S (Obj.mapSeq (fun _ => (#[] : Array Value)))).get? b = some o :=
    fun b o hb e => (Heap.get?_update_other _ _ (Ne.symm hb)).trans e
  refine wpAny_bind (wpAny_letGo ?_)
  refine extend_bytes hh hlen S .none _ hS₂ fun h' tk acc' c' hk hS' hacc => ?_
  exact hR h' tk acc' c' (fun b o hb e => hk b o hb (oth b o hb e)) hS' hacc

theorem call_list_bytes {Q : Value → Shared → Prop} {b : Array UInt8} {t : Tok} (hh : A.handled = none) (hlen : b.size ≤ 2 ^ 24)
    (hQ : ∀ h' tk acc' c', (∀ b o, s.heap.get? b = some o → h'.get? b = some o) →
      h'.get? s.heap.objs.size = some { cls := .type "list", dict := none, data := .seq acc' c', slots := #[] } → ItemsOf (fun i v => ∃ c u, b[i]? = some c ∧ v = .int (c.toNat : Int) u) acc' b.size → Q (.ref s.heap.objs.size) { s with heap := h', toks := tk }) :
    wpAny (model prog w) A (call (.type "list") [.bytes b t]) Q E s := by
  refine callType_codes (Q₁ := fun obj s₁ => obj = .ref s.heap.objs.size ∧ s₁ = { s with heap := s.heap.push { cls := .type "list", data := .seq #[] } }) F.called_list (F.typeCall_list_1 _) F.entry_list_init
    (code_list_new _ ⟨rfl, rfl⟩) fun obj s₁ h₁ => ?_
  obtain ⟨rfl, rfl⟩ := h₁
  have hS : (s.heap.push { cls := .type "list", data := .seq #[] }).get? s.heap.objs.size = some { cls := .type "list", data := .seq #[] } := Heap.get?_push_size _ rfl
  refine ⟨⟨_, hS, rfl⟩, F.args_list_init_2 _ _, init_bytes (A := A.in1) hh hlen _ hS fun h' tk acc' c' hk hS' hacc => ?_⟩
  exact ⟨rfl, hQ h' tk acc' c' (fun b o e => hk b o (Nat.ne_of_lt (Heap.lt_size e)) (Heap.get?_push_of_some _ e)) hS' hacc⟩

theorem ints_of_get : ∀ {vs : List Value} {ns : List Int}, vs.length = ns.length → (∀ (i : Nat) (n : Int) (v : Value), ns[i]? = some n → vs[i]? = some v → ∃ t, v = Value.int n t) → IntsAre vs ns
  | [], [], _, _ => .nil
  | [], _ :: _, h, _ => by simp at h
  | _ :: _, [], h, _ => by simp at h
  | v :: vs, n :: ns, h, hg => by
    obtain ⟨t, rfl⟩ := hg 0 n v rfl rfl
    exact .cons n t (ints_of_get (by simpa using h) fun i n v h1 h2 => hg (i + 1) n v (by simpa using h1) (by simpa using h2))
theorem ints_of_items {b : Array UInt8} {acc : Array Value} (h : ItemsOf (fun i v => ∃ c u, b[i]? = some c ∧ v = .int (c.toNat : Int) u) acc b.size) : IntsAre acc.toList (KBw.bInts b) := by
  refine ints_of_get (by rw [KBw.ints_length, Array.length_toList, h.1]) fun i n v h1 h2 => ?_
  obtain ⟨c, u, hc, rfl⟩ := h.2 i v (by simpa using h2)
  have := KBw.ints_get hc
  rw [this] at h1
  cases h1
  exact ⟨u, rfl⟩

variable {h₀ : Heap} {L : Addr} {m : Str → Option Value} {news : List (Addr × Obj)}
theorem list_bytesK {Q : Value → Shared → Prop} {b : Array UInt8} {t : Tok} {ks : List Int} (F : Fr h₀ L s.heap m) (N : News h₀ L s.heap news) (hh : A.handled = none) (hk : KBw.bInts b = ks) (hlen : ks.length ≤ 2 ^ 24)
    (h : ∀ D c ws h' tk, Fr h₀ L h' m → News h₀ L h' ((D, listOf (List.toArray ws) c) :: news) → (∀ q ∈ news, q.1 < D) → IntsAre ws ks → Q (.ref D) { s with heap := h', toks := tk }) :
    wpAny (model prog w) A (call (.type "list") [.bytes b t]) Q E s := by
  subst hk
  refine call_list_bytes hh (by rw [← KBw.ints_length]; exact hlen) fun h' tk acc c hk hS hacc => ?_
  exact h _ c acc.toList h' tk (F.keeps hk) (news_pushed F N hk hS rfl) (fun q hq => Heap.lt_size (N q hq).1) (ints_of_items hacc)
end
end Mine
end
section
namespace Mine
inductive Mk (n : Nat) : Prop | mk
theorem if_join {M : Model} {A : Around} {E : Value → Shared → Prop} {s : Shared} {env : Env} {e : Expr} {Q : Value → Shared → Prop}
    (h1 : wpAny M A (eval e env) (fun v s' => ∃ k t tk, v = .int k t ∧ s' = { s with toks := tk }) E s)
    (h2 : ∀ k t tk, Q (.int k t) { s with toks := tk }) : wpAny M A (eval e env) Q E s :=
  wpAny_mono h1 (fun v s' h => by obtain ⟨k, t, tk, rfl, rfl⟩ := h; exact h2 k t tk) fun _ _ e => e
theorem gen_nums {ys : List Value} {l : List Int} {a : Nat} (h : IntsAre ys (List.map (fun k => k.fmod 256) (List.take (min 41 a - 1) l))) :
    ∃ ns : List Int, IntsAre ys ns ∧ ns.length ≤ 40 ∧ KBa.In ns := by
  refine ⟨_, h, ?_, ?_⟩
  · rw [List.length_map, List.length_take]; omega
  · intro x hx
    obtain ⟨k, _, rfl⟩ := List.mem_map.mp hx
    exact ⟨fmod_lo k (by decide), fmod_hi k (by decide)⟩
theorem gen_tail {ys : List Value} {ns : List Int} {a k : Nat} (h : IntsAre ys (List.take a (List.replicate k ns).flatten)) (ha : a ≤ 120) (hb : KBa.In ns) :
    ∃ tl : List Int, IntsAre ys tl ∧ tl.length ≤ 120 ∧ KBa.In tl := by
  refine ⟨_, h, ?_, ?_⟩
  · rw [List.length_take]; omega
  · intro x hx
    have h1 := List.mem_of_mem_take hx
    obtain ⟨l, hl, hx⟩ := List.mem_flatten.mp h1
    rw [(List.mem_replicate.mp hl).2] at hx
    exact hb x hx
theorem in_take {ns : List Int} {a : Nat} (hb : KBa.In ns) : KBa.In (List.take a ns) := fun x hx => hb x (List.mem_of_mem_take hx)
theorem in_run {ns : List Int} {a b : Nat} (hb : KBa.In ns) : KBa.In (List.take a (List.drop b ns)) := fun x hx => hb x (List.mem_of_mem_drop (List.mem_of_mem_take hx))
theorem size40 {vs : List Value} {ns : List Int} (hi : IntsAre vs ns) (h : ns.length ≤ 40) : vs.length * (Int.toNat 120) ≤ 2 ^ 24 := by
  rw [hi.length, show Int.toNat 120 = 120 from rfl]; omega

section
variable {M : Model} {A : Around} {E : Value → Shared → Prop} {s : Shared} {K : Frag} {env : Env} {pos : Pos} {x C f L : Addr} {ox : Obj} {od : Option Obj} {first : List Value} {Q : Value → Shared → Prop} {h₀ : Heap} {m : Str → Option Value}
theorem kco_callWithF {e : Expr} {rest : List Expr} (F : Fr h₀ L s.heap m) (X₀ : K.In h₀) (I : InstAt s.heap x ox C od) (hd : ox.data = .plain) (hs : findIn K (.ref C) "__call__" = some (some (.ref f))) (h : wpAny M A (spliced (backTo pos (starEach (e :: rest) env))) (fun vs s₁ => kco_P K x C ox od s₁.heap ∧ wpAny M A (call (.ref x) (first ++ vs)) Q E s₁) E s)
    (he : starEach (e :: rest) env = (false, eval e env) :: starEach rest env := by rfl) (hplain : (backTo pos (starEach rest env)).any (·.1) = false := by rfl) :
    wpAny M A (callWith pos (.ref x) first (backTo pos (starEach (e :: rest) env)) []) Q E s := kco_callWith (X₀.keeps F.keep) I hd hs h he hplain
end
section
variable {prog : Program} {w : World} {A : Around} {E : Value → Shared → Prop} {s : Shared} {K : Frag} {x C f L : Addr} {ox : Obj} {od : Option Obj} {h₀ : Heap} {m : Str → Option Value}
theorem kco_codeF {a : Args} {R : Result → Shared → Prop} (F : Fr h₀ L s.heap m) (X₀ : K.In h₀) (I : InstAt s.heap x ox C od) (hd : ox.data = .plain) (hs : findIn K (.ref C) "__call__" = some (some (.ref f))) (hf : isFn K (.ref f) = true) (hfn : fnIn K f = true)
    (hq : codeAny (model prog w) A (.call (.ref f) { a with pos := .ref x :: a.pos }) R s) : codeAny (model prog w) A (.call (.ref x) a) R s := kco_code (X₀.keeps F.keep) I hd hs hf hfn hq
end
section
variable {prog : Program} {w : World} {A : Around} {E : Value → Shared → Prop} {s : Shared} {Q : Value → Shared → Prop}
theorem mod65 {k : Int} {t u : Tok} (h : ∀ r : Int, 0 ≤ r → r ≤ 64 → Q (.int r s.toks) { s with toks := s.toks + 1 }) : wpAny (model prog w) A (binaryOp .Mod (.int k t) (.int 65 u)) Q E s :=
  mod_int' (by decide) (h _ (fmod_lo k (by decide)) (by have := fmod_hi k (n := 65) (by decide); omega))
variable {h₀ : Heap} {L D : Addr} {m : Str → Option Value} {news : List (Addr × Obj)} {vs : List Value} {ns : List Int}
theorem make_seed (F : Fr h₀ L s.heap m) (N : News h₀ L s.heap news) (hh : A.handled = none) (hl : s.heap.IsList D vs.toArray) (hi : IntsAre vs ns) (hr : KBa.In ns) (hn : ns.length ≤ 8)
    (h : ∀ (b : Array UInt8) (ss : List Int) h' t' k, KBw.bInts b = ss → ss.length ≤ 8 → KBa.In ss → Fr h₀ L h' m → News h₀ L h' news → Q (.bytes b t') { s with heap := h', toks := k }) : wpAny (model prog w) A (call (.type "bytes") [.ref D]) Q E s :=
  KBa.make_K F N hh hl hi hr (by omega) fun h' t' k F' N' hr' => h _ _ h' t' k (KBa.ints_make hr') hn hr' F' N'
end
theorem len_take8 {ns : List Int} {a : Nat} (ha : a ≤ 8) : (List.take a ns).length ≤ 8 := by rw [List.length_take]; omega
theorem len_small {ns : List Int} (h : ns.length ≤ 8) : ns.length ≤ 2 ^ 24 := by omega
theorem len_run8 {ns : List Int} {a b c : Nat} (ha : a ≤ 8) : (List.take (min a b - c) ns).length ≤ 8 := by rw [List.length_take]; omega
theorem ne_new {a b : Addr} {o : Obj} {news : List (Addr × Obj)} (h : ∀ p ∈ news, p.1 < b) (hm : (a, o) ∈ news) : a ≠ b := Nat.ne_of_lt (h _ hm)
theorem ne_old {a b : Addr} {o : Obj} {news : List (Addr × Obj)} (h : ∀ p ∈ news, p.1 < a) (hm : (b, o) ∈ news) : a ≠ b := Nat.ne_of_gt (h _ hm)
end Mine
end
section
namespace Mine
def oct (ks : List Int) (k : Nat) : Int := ks.getD k 0
structure Nxt (f : Nat → Int) (i : Int) (t r : Nat) : Prop where
  le : t ≤ r
  here : f r ≤ i
  bef : ∀ q : Nat, t ≤ q → q < r → i < f q
def nx (f : Nat → Int) (i : Int) : Nat → Nat → Nat
  | 0, t => t
  | d + 1, t => if f t ≤ i then t else nx f i d (t + 1)
theorem nx_of {f : Nat → Int} {i : Int} {r : Nat} : ∀ {d t : Nat}, Nxt f i t r → r - t ≤ d → nx f i d t = r
  | 0, t, h, hd => by
    have := h.le
    show t = r
    omega
  | d + 1, t, h, hd => by
    show (if f t ≤ i then t else nx f i d (t + 1)) = r
    by_cases e : f t ≤ i
    · rw [if_pos e]
      rcases Nat.lt_or_ge t r with hl | hl
      · have := h.bef t (Nat.le_refl _) hl
        omega
      · have := h.le
        omega
    · rw [if_neg e]
      have hne : t ≠ r := fun e' => e (e' ▸ h.here)
      have := h.le
      exact nx_of ⟨by omega, h.here, fun q h1 h2 => h.bef q (by omega) h2⟩ (by omega)
theorem nx_is {f : Nat → Int} {i : Int} {n : Nat} (hz : ∀ q, n ≤ q → f q ≤ i) : ∀ {d t : Nat}, n - t ≤ d → Nxt f i t (nx f i d t) ∧ (nx f i d t ≤ t ∨ nx f i d t ≤ n)
  | 0, t, hd => ⟨⟨Nat.le_refl _, hz t (by omega), fun q h1 h2 => absurd h1 (by show ¬ t ≤ q; have : q < t := h2; omega)⟩, .inl (Nat.le_refl _)⟩
  | d + 1, t, hd => by
    show Nxt f i t (if f t ≤ i then t else nx f i d (t + 1)) ∧ ((if f t ≤ i then t else nx f i d (t + 1)) ≤ t ∨ (if f t ≤ i then t else nx f i d (t + 1)) ≤ n)
    by_cases e : f t ≤ i
    · rw [if_pos e]
      exact ⟨⟨Nat.le_refl _, e, fun q h1 h2 => absurd h1 (by omega)⟩, .inl (Nat.le_refl _)⟩
    · rw [if_neg e]
      have htn : t < n := by
        rcases Nat.lt_or_ge t n with h | h
        · exact h
        · exact absurd (hz t h) e
      obtain ⟨h1, h2⟩ := nx_is (i := i) hz (d := d) (t := t + 1) (by omega)
      refine ⟨⟨by have := h1.le; omega, h1.here, fun q a b => ?_⟩, .inr (by omega)⟩
      rcases Nat.eq_or_lt_of_le a with rfl | a
      · omega
      · exact h1.bef q a b

/-- the place in the stream ahead of the k-th turn -/
def st (f : Nat → Int) (b : Int) : Nat → Nat
  | 0 => 8
  | k + 1 => nx f (b + k) 300 (st f b k) + 1
/-- the octet that the k-th turn takes -/
def jj (f : Nat → Int) (b : Int) (k : Nat) : Int := f (st f b (k + 1) - 1)
def sg (S : Int) (k : Nat) : Int := 1 - 2 * (S / 2 ^ k % 2)
def cz (f : Nat → Int) (b S : Int) : Nat → List Int
  | 0 => List.replicate 256 0
  | k + 1 => ((cz f b S k).set (b + k).toNat ((cz f b S k).getD (jj f b k).toNat 0)).set (jj f b k).toNat (sg S k)
def pz (f : Nat → Int) (b : Int) : Nat → List Int
  | 0 => []
  | k + 1 => (pz f b k).map (fun p => if p = jj f b k then b + k else p) ++ [jj f b k]

section
variable {f : Nat → Int} {b S : Int} {n : Nat}
theorem st_step (hz : ∀ q, n ≤ q → f q = 0) (hn : n ≤ 200) (hb : 0 ≤ b) {k t r : Nat} (ht : st f b k = t) (h : Nxt f (b + k) t r) : st f b (k + 1) = r + 1 ∧ jj f b k = f r := by
  have hr : r ≤ t ∨ r ≤ n := by
    rcases Nat.lt_or_ge n r with h1 | h1
    · rcases Nat.lt_or_ge t r with h2 | h2
      · have := h.bef (r - 1) (by omega) (by omega)
        rw [hz (r - 1) (by omega)] at this
        omega
      · exact .inl h2
    · exact .inr h1
  have e : st f b (k + 1) = r + 1 := by
    show nx f (b + k) 300 (st f b k) + 1 = r + 1
    rw [ht, nx_of h (by omega)]
  refine ⟨e, ?_⟩
  unfold jj
  rw [e]
  rfl
theorem st_le (hz : ∀ q, n ≤ q → f q = 0) (hn : n ≤ 200) (hb : 0 ≤ b) : ∀ k : Nat, 8 ≤ st f b k ∧ st f b k ≤ max 8 n + k
  | 0 => by show 8 ≤ 8 ∧ 8 ≤ max 8 n + 0; omega
  | k + 1 => by
    obtain ⟨h1, h2⟩ := st_le hz hn hb k
    obtain ⟨h3, h4⟩ := nx_is (f := f) (i := b + k) (n := n) (fun q hq => by rw [hz q hq]; omega) (d := 300) (t := st f b k) (by omega)
    have := h3.le
    show 8 ≤ nx f (b + k) 300 (st f b k) + 1 ∧ nx f (b + k) 300 (st f b k) + 1 ≤ max 8 n + (k + 1)
    omega
theorem jj_in (hz : ∀ q, n ≤ q → f q = 0) (hn : n ≤ 200) (hb : 0 ≤ b) (h0 : ∀ q, 0 ≤ f q) (k : Nat) : 0 ≤ jj f b k ∧ jj f b k ≤ b + k := by
  obtain ⟨h3, h4⟩ := nx_is (f := f) (i := b + k) (n := n) (fun q hq => by rw [hz q hq]; omega) (d := 300) (t := st f b k) (by omega)
  have e : jj f b k = f (nx f (b + k) 300 (st f b k)) := rfl
  rw [e]
  exact ⟨h0 _, h3.here⟩

structure Inv (f : Nat → Int) (b S : Int) (k : Nat) : Prop where
  len : (pz f b k).length = k
  clen : (cz f b S k).length = 256
  nodup : (pz f b k).Nodup
  low : ∀ p ∈ pz f b k, 0 ≤ p ∧ p < b + k
  at' : ∀ t p, (pz f b k)[t]? = some p → (cz f b S k).getD p.toNat 0 = sg S t
  off : ∀ q : Nat, (q : Int) ∉ pz f b k → (cz f b S k).getD q 0 = 0

theorem getD_set {l : List Int} {i j : Nat} {v : Int} (h : i < l.length) : (l.set i v).getD j 0 = if i = j then v else l.getD j 0 := by
  rw [List.getD_eq_getElem?_getD, List.getElem?_set]
  by_cases e : i = j
  · subst e; simp [h]
  · simp [e]

theorem inv_all (hz : ∀ q, n ≤ q → f q = 0) (hn : n ≤ 200) (hb : 0 ≤ b) (h0 : ∀ q, 0 ≤ f q) : ∀ k : Nat, b + k ≤ 256 → Inv f b S k
  | 0, _ => ⟨rfl, by show (List.replicate 256 (0 : Int)).length = 256; simp, List.nodup_nil, (fun p h => nomatch h), (fun t p h => by simp [pz] at h), fun q _ => by
      show (List.replicate 256 (0 : Int)).getD q 0 = 0
      rw [List.getD_eq_getElem?_getD, List.getElem?_replicate]
      split <;> rfl⟩
  | k + 1, hk => by
    have I := inv_all hz hn hb h0 k (by omega)
    obtain ⟨hj0, hj1⟩ := jj_in (b := b) hz hn hb h0 k
    generalize hj : jj f b k = j at hj0 hj1
    have ep : pz f b (k + 1) = (pz f b k).map (fun p => if p = j then b + k else p) ++ [j] := by rw [← hj]; rfl
    have ec : cz f b S (k + 1) = ((cz f b S k).set (b + k).toNat ((cz f b S k).getD j.toNat 0)).set j.toNat (sg S k) := by rw [← hj]; rfl
    have hg : ∀ q : Nat, (cz f b S (k + 1)).getD q 0 = if j.toNat = q then sg S k else if (b + k).toNat = q then (cz f b S k).getD j.toNat 0 else (cz f b S k).getD q 0 := by
      intro q
      rw [ec, getD_set (by rw [List.length_set, I.clen]; omega), getD_set (by rw [I.clen]; omega)]
    have hmem : ∀ p ∈ (pz f b k).map (fun p => if p = j then b + k else p), p ≠ j ∧ 0 ≤ p ∧ p ≤ b + k := by
      intro p hp
      obtain ⟨p0, hp0, rfl⟩ := List.mem_map.mp hp
      have := I.low p0 hp0
      show (if p0 = j then b + k else p0) ≠ j ∧ 0 ≤ (if p0 = j then b + k else p0) ∧ (if p0 = j then b + k else p0) ≤ b + k
      split <;> omega
    refine ⟨?_, ?_, ?_, ?_, ?_, ?_⟩
    · rw [ep, List.length_append, List.length_map, I.len]; rfl
    · rw [ec, List.length_set, List.length_set, I.clen]
    · rw [ep]
      refine List.nodup_append.mpr ⟨?_, by simp, ?_⟩
      · refine List.pairwise_map.mpr (List.Pairwise.imp_of_mem ?_ I.nodup)
        intro x y hx hy hxy
        have h1 := I.low x hx
        have h2 := I.low y hy
        show (if x = j then b + k else x) ≠ (if y = j then b + k else y)
        split <;> split <;> omega
      · intro x hx y hy
        rw [List.mem_singleton.mp hy]
        exact (hmem x hx).1
    · intro p hp
      rw [ep] at hp
      rcases List.mem_append.mp hp with hp | hp
      · have := hmem p hp
        push_cast
        omega
      · rw [List.mem_singleton.mp hp]
        push_cast
        omega
    · intro t p ht
      rw [ep] at ht
      rw [hg]
      rcases Nat.lt_or_ge t k with hlt | hge
      · rw [List.getElem?_append_left (by rw [List.length_map, I.len]; exact hlt), List.getElem?_map] at ht
        cases h0 : (pz f b k)[t]? with
        | none => rw [h0] at ht; cases ht
        | some p0 =>
          rw [h0] at ht
          have e : (if p0 = j then b + k else p0) = p := Option.some.inj ht
          have hl := I.low p0 (List.mem_of_getElem? h0)
          have ha := I.at' t p0 h0
          by_cases e0 : p0 = j
          · rw [if_pos e0] at e
            rw [if_neg (by omega), if_pos (by omega), ← e0]
            exact ha
          · rw [if_neg e0] at e
            rw [if_neg (by omega), if_neg (by omega), ← e]
            exact ha
      · have htk : t = k := by
          have := (List.getElem?_eq_some_iff.mp ht).1
          rw [List.length_append, List.length_map, I.len] at this
          simp at this
          omega
        subst htk
        rw [List.getElem?_append_right (by rw [List.length_map, I.len]; exact Nat.le_refl _), List.length_map, I.len, Nat.sub_self] at ht
        have e : j = p := Option.some.inj ht
        rw [if_pos (by rw [e])]
    · intro q hq
      rw [ep] at hq
      have hqj : ¬ (j.toNat = q) := by
        intro e
        apply hq
        refine List.mem_append.mpr (.inr ?_)
        have : (q : Int) = j := by omega
        rw [this]; exact List.mem_singleton.mpr rfl
      rw [hg, if_neg hqj]
      split
      · rename_i e
        refine I.off j.toNat fun hj' => hq (List.mem_append.mpr (.inl (List.mem_map.mpr ⟨j, ?_, ?_⟩)))
        · have : ((j.toNat : Nat) : Int) = j := by omega
          rw [← this]; exact hj'
        · show (if j = j then b + k else j) = (q : Int)
          rw [if_pos rfl]; omega
      · refine I.off q fun hq' => hq (List.mem_append.mpr (.inl (List.mem_map.mpr ⟨q, hq', ?_⟩)))
        show (if (q : Int) = j then b + k else (q : Int)) = q
        rw [if_neg (by omega)]

def setAll (l : List (Int × Int)) (row : List Int) : List Int := l.foldl (fun row x => row.set x.1.toNat x.2) row
theorem setAll_len : ∀ (l : List (Int × Int)) (row : List Int), (setAll l row).length = row.length
  | [], _ => rfl
  | x :: l, row => by
    show (setAll l (row.set x.1.toNat x.2)).length = _
    rw [setAll_len l, List.length_set]
theorem setAll_off : ∀ (l : List (Int × Int)) (row : List Int) (q : Nat), (∀ x ∈ l, 0 ≤ x.1 ∧ x.1 ≠ (q : Int)) → (∀ x ∈ l, x.1 < row.length) → (setAll l row).getD q 0 = row.getD q 0
  | [], _, _, _, _ => rfl
  | x :: l, row, q, h, hl => by
    show (setAll l (row.set x.1.toNat x.2)).getD q 0 = _
    have h1 := h x List.mem_cons_self
    have h2 := hl x List.mem_cons_self
    rw [setAll_off l _ q (fun y hy => h y (List.mem_cons_of_mem _ hy)) (fun y hy => by rw [List.length_set]; exact hl y (List.mem_cons_of_mem _ hy)), getD_set (by omega), if_neg (by omega)]
theorem setAll_at : ∀ (l : List (Int × Int)) (row : List Int), (l.map (·.1)).Nodup → (∀ x ∈ l, 0 ≤ x.1 ∧ x.1 < row.length) → ∀ x ∈ l, (setAll l row).getD x.1.toNat 0 = x.2
  | [], _, _, _, _, hx => nomatch hx
  | y :: l, row, hn, hl, x, hx => by
    show (setAll l (row.set y.1.toNat y.2)).getD x.1.toNat 0 = _
    have hn' := List.nodup_cons.mp hn
    have hy := hl y List.mem_cons_self
    rcases List.mem_cons.mp hx with rfl | hx'
    · rw [setAll_off l _ _ (fun z hz => ⟨(hl z (List.mem_cons_of_mem _ hz)).1, fun e => hn'.1 (List.mem_map.mpr ⟨z, hz, by show z.1 = x.1; omega⟩)⟩) (fun z hz => by rw [List.length_set]; exact (hl z (List.mem_cons_of_mem _ hz)).2), getD_set (by omega), if_pos rfl]
    · exact setAll_at l _ hn'.2 (fun z hz => by rw [List.length_set]; exact hl z (List.mem_cons_of_mem _ hz)) x hx'

theorem ball (hz : ∀ q, n ≤ q → f q = 0) (hn : n ≤ 200) (hb : 0 ≤ b) (h0 : ∀ q, 0 ≤ f q) {k : Nat} (hk : b + k = 256) {ss : List Int} (hs : ∀ t : Nat, t < k → ss[t]? = some (sg S t)) :
    setAll ((pz f b k).zip ss) (List.replicate 256 0) = cz f b S k := by
  have I := inv_all (S := S) hz hn hb h0 k (by omega)
  have hlen : k ≤ ss.length := by
    rcases Nat.eq_zero_or_pos k with e | e
    · omega
    · have := (List.getElem?_eq_some_iff.mp (hs (k - 1) (by omega))).1
      omega
  have hfst : ((pz f b k).zip ss).map (·.1) = pz f b k := List.map_fst_zip (by rw [I.len]; exact hlen)
  have hin : ∀ x ∈ (pz f b k).zip ss, 0 ≤ x.1 ∧ x.1 < 256 := fun x hx => by
    have : x.1 ∈ pz f b k := by rw [← hfst]; exact List.mem_map.mpr ⟨x, hx, rfl⟩
    have := I.low _ this
    omega
  have hrl : (List.replicate 256 (0 : Int)).length = 256 := List.length_replicate
  apply List.ext_getElem?
  intro q
  rcases Nat.lt_or_ge q 256 with hq | hq
  · have key : (setAll ((pz f b k).zip ss) (List.replicate 256 0)).getD q 0 = (cz f b S k).getD q 0 := by
      by_cases hm : (q : Int) ∈ pz f b k
      · obtain ⟨t, ht, he⟩ := List.mem_iff_getElem.mp hm
        have htk : t < k := by rw [I.len] at ht; exact ht
        have hg : (pz f b k)[t]? = some (q : Int) := by rw [List.getElem?_eq_getElem ht, he]
        have hx : ((q : Int), sg S t) ∈ (pz f b k).zip ss := by
          refine List.mem_of_getElem? (i := t) ?_
          rw [List.getElem?_zip_eq_some]
          exact ⟨hg, hs t htk⟩
        have h1 := setAll_at _ (List.replicate 256 0) (by rw [hfst]; exact I.nodup) (fun x hx => by rw [hrl]; exact hin x hx) _ hx
        have h2 := I.at' t q hg
        have e : ((q : Int)).toNat = q := by omega
        rw [e] at h1 h2
        rw [h1, h2]
      · rw [I.off q hm, setAll_off _ _ q (fun x hx => ⟨(hin x hx).1, fun e => hm (by rw [← e, ← hfst]; exact List.mem_map.mpr ⟨x, hx, rfl⟩)⟩) (fun x hx => by rw [hrl]; exact (hin x hx).2), List.getD_eq_getElem?_getD, List.getElem?_replicate, if_pos hq]
        rfl
    have l1 : q < (setAll ((pz f b k).zip ss) (List.replicate 256 0)).length := by rw [setAll_len, hrl]; exact hq
    have l2 : q < (cz f b S k).length := by rw [I.clen]; exact hq
    rw [List.getD_eq_getElem?_getD, List.getD_eq_getElem?_getD, List.getElem?_eq_getElem l1, List.getElem?_eq_getElem l2] at key
    rw [List.getElem?_eq_getElem l1, List.getElem?_eq_getElem l2]
    exact congrArg some key
  · rw [List.getElem?_eq_none (by rw [setAll_len, hrl]; exact hq), List.getElem?_eq_none (by rw [I.clen]; exact hq)]
end
end Mine
end
section
namespace Mine
/-- the stream that the bytes bear -/
def FF (b : Array UInt8) : Nat → Int := oct (KBw.bInts b)
theorem FF_in (b : Array UInt8) (q : Nat) : 0 ≤ FF b q ∧ FF b q < 256 := by
  unfold FF oct
  rw [List.getD_eq_getElem?_getD]
  cases h : (KBw.bInts b)[q]? with
  | none => exact ⟨Int.le_refl _, by decide⟩
  | some v => exact KBw.ints_in (List.mem_of_getElem? h)
structure Buf (ss tl : List Int) (b : Array UInt8) : Prop where
  size : (KBw.bInts b).length = 680
  eq : FF b = oct (ss ++ tl)
  hs : ss.length ≤ 8
  ht : tl.length ≤ 120
theorem oct_app {a c : List Int} {k : Nat} (hc : ∀ x ∈ c, x = 0) : oct (a ++ c) k = oct a k := by
  unfold oct
  rw [List.getD_eq_getElem?_getD, List.getD_eq_getElem?_getD]
  rcases Nat.lt_or_ge k a.length with h | h
  · rw [List.getElem?_append_left h]
  · rw [List.getElem?_append_right h, List.getElem?_eq_none h]
    cases e : c[k - a.length]? with
    | none => rfl
    | some v => exact hc v (List.mem_of_getElem? e)
theorem oct_take {a : List Int} {n k : Nat} (h : k < n) : oct (List.take n a) k = oct a k := by
  unfold oct
  rw [List.getD_eq_getElem?_getD, List.getD_eq_getElem?_getD, List.getElem?_take, if_pos h]
theorem oct_out {a : List Int} {k : Nat} (h : a.length ≤ k) : oct a k = 0 := by
  unfold oct
  rw [List.getD_eq_getElem?_getD, List.getElem?_eq_none h]
  rfl
theorem Buf.zero {ss tl : List Int} {b : Array UInt8} (B : Buf ss tl b) (q : Nat) (hq : ss.length + tl.length ≤ q) : FF b q = 0 := by
  rw [B.eq]
  exact oct_out (by rw [List.length_append]; exact hq)
theorem Buf.z {ss tl : List Int} {b : Array UInt8} (B : Buf ss tl b) (q : Nat) (hq : 128 ≤ q) : FF b q = 0 := B.zero q (by have := B.hs; have := B.ht; omega)

/-- the inner loop's word: from t0 on, up to t, no octet will do -/
structure RejW (b : Array UInt8) (i t0 t : Int) : Prop where
  lo : 0 ≤ t0
  le : t0 ≤ t
  hi : t ≤ 600
  i0 : 0 ≤ i
  z : ∀ q : Nat, 128 ≤ q → FF b q = 0
  bef : ∀ q : Nat, t0 ≤ (q : Int) → (q : Int) < t → i < FF b q
theorem RejW.step {b : Array UInt8} {i t0 t : Int} (R : RejW b i t0 t) (h : i < FF b t.toNat) : RejW b i t0 (t + 1) := by
  have h1 := R.lo; have h2 := R.le; have h3 := R.i0
  have h4 : t.toNat < 128 := by
    rcases Nat.lt_or_ge t.toNat 128 with h | h'
    · exact h
    · rw [R.z _ h'] at h; omega
  refine ⟨h1, by omega, by omega, h3, R.z, fun q ha hb => ?_⟩
  rcases Int.lt_or_le (q : Int) t with hq | hq
  · exact R.bef q ha hq
  · have e : q = t.toNat := by omega
    rw [e]; exact h
theorem RejW.nxt {b : Array UInt8} {i t0 t : Int} (R : RejW b i t0 t) (h : FF b t.toNat ≤ i) : Nxt (FF b) i t0.toNat t.toNat := by
  have h1 := R.lo; have h2 := R.le
  exact ⟨by omega, h, fun q ha hb => R.bef q (by omega) (by omega)⟩
theorem RejW.room {b : Array UInt8} {i t0 t : Int} (R : RejW b i t0 t) : 0 ≤ t ∧ t ≤ 600 := by
  have h1 := R.lo; have h2 := R.le; have h3 := R.hi; omega

/-- the outer loop's word -/
structure BallW (b : Array UInt8) (r S : Int) (pre : List Int) (co : List Int) (sg ix : Int) : Prop where
  r0 : 0 ≤ r
  r1 : r ≤ 64
  S0 : 0 ≤ S
  S1 : S < 2 ^ 64
  z : ∀ q : Nat, 128 ≤ q → FF b q = 0
  co : co = cz (FF b) (256 - r) S pre.length
  sg : sg = S / 2 ^ pre.length
  ix : ix = (st (FF b) (256 - r) pre.length : Nat)
theorem cz_len {f : Nat → Int} {b S : Int} : ∀ k : Nat, (cz f b S k).length = 256
  | 0 => by show (List.replicate 256 (0 : Int)).length = 256; exact List.length_replicate
  | k + 1 => by
    show (((cz f b S k).set _ _).set _ _).length = 256
    rw [List.length_set, List.length_set, cz_len k]
theorem BallW.facts {b : Array UInt8} {r S : Int} {pre co : List Int} {sg ix : Int} (B : BallW b r S pre co sg ix) : co.length = 256 ∧ 0 ≤ sg ∧ sg < 2 ^ 64 ∧ 8 ≤ ix ∧ ix ≤ 128 + pre.length := by
  have h1 := B.r0; have h2 := B.r1
  obtain ⟨h3, h4⟩ := st_le (f := FF b) (b := 256 - r) (n := 128) B.z (by omega) (by omega) pre.length
  refine ⟨by rw [B.co]; exact cz_len _, ?_, ?_, by rw [B.ix]; omega, by rw [B.ix]; omega⟩
  · rw [B.sg]; exact Int.ediv_nonneg B.S0 (by have : (0 : Int) < 2 ^ pre.length := Int.pow_pos (by decide); omega)
  · rw [B.sg]
    have := B.S1; have := B.S0
    refine Int.lt_of_le_of_lt (Int.ediv_le_self _ B.S0) B.S1
theorem BallW.start {b : Array UInt8} {r S : Int} (hr0 : 0 ≤ r) (hr1 : r ≤ 64) (h0 : 0 ≤ S) (h1 : S < 2 ^ 64) (z : ∀ q : Nat, 128 ≤ q → FF b q = 0) : BallW b r S [] (List.replicate 256 0) S 8 :=
  ⟨hr0, hr1, h0, h1, z, rfl, by show S = S / 2 ^ 0; simp, rfl⟩
theorem BallW.rej {b : Array UInt8} {r S : Int} {pre co : List Int} {sg ix i : Int} (B : BallW b r S pre co sg ix) (hi : i = 256 - r + pre.length) (hl : pre.length < 257) : RejW b i ix ix := by
  obtain ⟨_, _, _, h1, h2⟩ := B.facts
  have := B.r1
  exact ⟨by omega, Int.le_refl _, by omega, by omega, B.z, fun q ha hb => by omega⟩
theorem BallW.turn {b : Array UInt8} {r S : Int} {pre co : List Int} {sg ix i t v : Int} (B : BallW b r S pre co sg ix) (R : RejW b i ix t) (hi : i = 256 - r + pre.length) (hv : v = FF b t.toNat) (hle : v ≤ i) :
    BallW b r S (pre ++ [i]) ((co.set i.toNat (co.getD v.toNat 0)).set v.toNat (1 - 2 * (sg % 2))) (sg / 2) (t + 1) := by
  have h1 := B.r0; have h2 := B.r1
  subst hv
  have hn := R.nxt hle
  rw [hi] at hn
  have e0 : ix.toNat = st (FF b) (256 - r) pre.length := by rw [B.ix]; omega
  rw [e0] at hn
  obtain ⟨e1, e2⟩ := st_step (n := 128) B.z (by omega) (by omega) rfl hn
  have hlen : (pre ++ [i]).length = pre.length + 1 := by simp
  refine ⟨h1, h2, B.S0, B.S1, B.z, ?_, ?_, ?_⟩
  · rw [hlen]
    show _ = ((cz (FF b) (256 - r) S pre.length).set (256 - r + pre.length).toNat ((cz (FF b) (256 - r) S pre.length).getD (jj (FF b) (256 - r) pre.length).toNat 0)).set (jj (FF b) (256 - r) pre.length).toNat (Mine.sg S pre.length)
    rw [e2, ← B.co, ← hi]
    unfold Mine.sg
    rw [← B.sg]
  · rw [hlen, B.sg, Int.ediv_ediv_of_nonneg (by have : (0 : Int) < 2 ^ pre.length := Int.pow_pos (by decide); omega), Int.pow_succ]
  · rw [hlen, e1]
    have := R.room.1
    omega

/-- the law's list of octets: nothing but noughts from n on, eighty of them -/
structure Oc (ob : List Int) (n : Nat) : Prop where
  nle : n ≤ 128
  len : ob.length = n + 80
  pos : ∀ q : Nat, 0 ≤ oct ob q ∧ oct ob q < 256
  z : ∀ q : Nat, n ≤ q → oct ob q = 0
structure WhW (ob : List Int) (n : Nat) (i t0 t : Int) : Prop where
  oc : Oc ob n
  lo : 0 ≤ t0
  le : t0 ≤ t
  hi : t < n + 80
  room : t0 + 1 < n + 80
  i0 : 0 ≤ i
  bef : ∀ q : Nat, t0 ≤ (q : Int) → (q : Int) < t → i < oct ob q
theorem WhW.idx {ob : List Int} {n : Nat} {i t0 t : Int} (W : WhW ob n i t0 t) : 0 ≤ t ∧ t < ob.length := by
  have h1 := W.lo; have h2 := W.le; have h3 := W.hi; have h4 := W.oc.len
  omega
theorem WhW.step {ob : List Int} {n : Nat} {i t0 t : Int} (W : WhW ob n i t0 t) (h : i < ob.getD t.toNat 0) : WhW ob n i t0 (t + 1) := by
  have h1 := W.lo; have h2 := W.le; have h3 := W.i0
  have h4 : t.toNat < n := by
    rcases Nat.lt_or_ge t.toNat n with h' | h'
    · exact h'
    · have e := W.oc.z _ h'
      unfold oct at e
      rw [e] at h; omega
  refine ⟨W.oc, h1, by omega, by omega, W.room, h3, fun q ha hb => ?_⟩
  rcases Int.lt_or_le (q : Int) t with hq | hq
  · exact W.bef q ha hq
  · have e : q = t.toNat := by omega
    rw [e]; exact h
theorem WhW.less {ob : List Int} {n : Nat} {i t0 t : Int} (W : WhW ob n i t0 t) (h : i < ob.getD t.toNat 0) : (400 - (t + 1)).toNat < (400 - t).toNat := by
  have h1 := W.hi; have h2 := W.oc.nle; omega
theorem RejW.less {b : Array UInt8} {i t0 t : Int} (R : RejW b i t0 t) : (700 - (t + 1)).toNat < (700 - t).toNat := by
  have h1 := R.hi; omega
theorem WhW.nxt {ob : List Int} {n : Nat} {i t0 t : Int} (W : WhW ob n i t0 t) (h : ob.getD t.toNat 0 ≤ i) : Nxt (oct ob) i t0.toNat t.toNat := by
  have h1 := W.lo; have h2 := W.le
  exact ⟨by omega, h, fun q ha hb => W.bef q (by omega) (by omega)⟩
structure LawW (ob : List Int) (n : Nat) (r : Int) (pre : List Int) (tk : Int) (pl : List Int) : Prop where
  oc : Oc ob n
  r0 : 0 ≤ r
  r1 : r ≤ 64
  tk : tk = (st (oct ob) (256 - r) pre.length : Nat)
  pl : pl = pz (oct ob) (256 - r) pre.length
theorem LawW.start {ob : List Int} {n : Nat} {r : Int} (O : Oc ob n) (h0 : 0 ≤ r) (h1 : r ≤ 64) : LawW ob n r [] 8 [] := ⟨O, h0, h1, rfl, rfl⟩
theorem LawW.wh {ob : List Int} {n : Nat} {r : Int} {pre : List Int} {tk i : Int} {pl : List Int} (W : LawW ob n r pre tk pl) (hi : i = 256 - r + pre.length) (hl : (pre.length : Int) < r) : WhW ob n i tk tk := by
  have h1 := W.r0; have h2 := W.r1; have h3 := W.oc.nle
  obtain ⟨h4, h5⟩ := st_le (f := oct ob) (b := 256 - r) (n := n) W.oc.z (by omega) (by omega) pre.length
  have e := W.tk
  exact ⟨W.oc, by omega, Int.le_refl _, by omega, by omega, by omega, fun q ha hb => by omega⟩
theorem pz_len {f : Nat → Int} {b : Int} : ∀ k : Nat, (pz f b k).length = k
  | 0 => rfl
  | k + 1 => by
    show ((pz f b k).map _ ++ [_]).length = k + 1
    rw [List.length_append, List.length_map, pz_len k]; rfl
theorem LawW.turn {ob : List Int} {n : Nat} {r : Int} {pre : List Int} {tk i t v : Int} {pl : List Int} (W : LawW ob n r pre tk pl) (R : WhW ob n i tk t) (hi : i = 256 - r + pre.length) (hv : v = ob.getD t.toNat 0) (hle : v ≤ i) :
    LawW ob n r (pre ++ [i]) (t + 1) (pl.map (fun p => if p = v then i else p) ++ [v]) := by
  have h1 := W.r0; have h2 := W.r1
  subst hv
  have hn := R.nxt hle
  rw [hi] at hn
  have e0 : tk.toNat = st (oct ob) (256 - r) pre.length := by rw [W.tk]; omega
  rw [e0] at hn
  obtain ⟨e1, e2⟩ := st_step (n := n) W.oc.z (by have := W.oc.nle; omega) (by omega) rfl hn
  have hlen : (pre ++ [i]).length = pre.length + 1 := by simp
  refine ⟨W.oc, h1, h2, ?_, ?_⟩
  · rw [hlen, e1]
    have := R.idx.1
    omega
  · rw [hlen]
    show _ = (pz (oct ob) (256 - r) pre.length).map (fun p => if p = jj (oct ob) (256 - r) pre.length then 256 - r + pre.length else p) ++ [jj (oct ob) (256 - r) pre.length]
    rw [e2, ← W.pl, ← hi]
    rfl

/-- the signs -/
def sig (ob : List Int) (t : Int) : Int := 1 - 2 * ((ob.getD (t.fdiv 8).toNat 0).fdiv (2 ^ (t.fmod 8).toNat)).fmod 2
def vl : List Int → Int
  | [] => 0
  | a :: l => a + 256 * vl l
theorem vl_digit : ∀ {l : List Int}, (∀ x ∈ l, 0 ≤ x ∧ x < 256) → ∀ {t : Nat}, t < 8 * l.length → vl l / 2 ^ t % 2 = l.getD (t / 8) 0 / 2 ^ (t % 8) % 2
  | [], _, t, ht => by simp at ht
  | a :: l, h, t, ht => by
    have ha := h a List.mem_cons_self
    rcases Nat.lt_or_ge t 8 with h8 | h8
    · have e1 : t / 8 = 0 := by omega
      have e2 : t % 8 = t := by omega
      rw [e1, e2]
      show (a + 256 * vl l) / 2 ^ t % 2 = a / 2 ^ t % 2
      have hp : (256 : Int) = 2 ^ t * (2 * 2 ^ (7 - t)) := by
        have : ∀ t : Nat, t < 8 → (256 : Int) = 2 ^ t * (2 * 2 ^ (7 - t)) := by decide
        exact this t h8
      have hpos : (2 : Int) ^ t ≠ 0 := by have : (0 : Int) < 2 ^ t := Int.pow_pos (by decide); omega
      rw [hp, Int.mul_assoc, Int.add_mul_ediv_left _ _ hpos, Int.mul_assoc, Int.add_mul_emod_self_left]
    · have e1 : t / 8 = (t - 8) / 8 + 1 := by omega
      have e2 : t % 8 = (t - 8) % 8 := by omega
      have ih := vl_digit (l := l) (fun x hx => h x (List.mem_cons_of_mem _ hx)) (t := t - 8) (by simp at ht; omega)
      rw [e1, e2]
      show (a + 256 * vl l) / 2 ^ t % 2 = l.getD ((t - 8) / 8) 0 / 2 ^ ((t - 8) % 8) % 2
      rw [← ih]
      have e3 : (2 : Int) ^ t = 256 * 2 ^ (t - 8) := by
        have : t = 8 + (t - 8) := by omega
        rw [this, Int.pow_add]; simp
      rw [e3, ← Int.ediv_ediv_of_nonneg (by decide), Int.add_mul_ediv_left _ _ (by decide), Int.ediv_eq_zero_of_lt ha.1 ha.2, Int.zero_add]
theorem vl_bound : ∀ {l : List Int}, (∀ x ∈ l, 0 ≤ x ∧ x < 256) → 0 ≤ vl l ∧ vl l < 256 ^ l.length
  | [], _ => by simp [vl]
  | a :: l, h => by
    have ha := h a List.mem_cons_self
    obtain ⟨h1, h2⟩ := vl_bound (l := l) fun x hx => h x (List.mem_cons_of_mem _ hx)
    show 0 ≤ a + 256 * vl l ∧ a + 256 * vl l < 256 ^ (l.length + 1)
    rw [Int.pow_succ]
    omega
theorem foldr_vl : ∀ (l : List Int) (a : Int), (l.reverse.foldl (fun a k => a * 256 + k) a) = a * 256 ^ l.length + vl l
  | [], a => by simp [vl]
  | x :: l, a => by
    rw [List.reverse_cons, List.foldl_append, foldr_vl l a]
    show (a * 256 ^ l.length + vl l) * 256 + x = a * 256 ^ (l.length + 1) + (x + 256 * vl l)
    rw [Int.pow_succ, Int.add_mul, Int.mul_assoc]
    omega
theorem value_vl (l : List Int) : KFB.value l.reverse = vl l := by
  unfold KFB.value
  rw [foldr_vl]; simp

theorem sig_sg {ob l : List Int} {t : Nat} (ht : t < 64) (hl : l.length = 8) (hb : ∀ x ∈ l, 0 ≤ x ∧ x < 256) (he : ∀ q : Nat, q < 8 → ob.getD q 0 = l.getD q 0) : sig ob t = sg (vl l) t := by
  unfold sig sg
  rw [vl_digit hb (by omega)]
  have e1 : ((t : Int).fdiv 8).toNat = t / 8 := by
    rw [Int.fdiv_eq_ediv_of_nonneg _ (by decide)]; omega
  have e2 : ((t : Int).fmod 8).toNat = t % 8 := by
    rw [Int.fmod_eq_emod_of_nonneg _ (by decide)]; omega
  have hp : (0 : Int) < 2 ^ (t % 8) := Int.pow_pos (by decide)
  rw [e1, e2, he _ (by omega), Int.fmod_eq_emod_of_nonneg _ (by decide), Int.fdiv_eq_ediv_of_nonneg _ (Int.le_of_lt hp)]
end Mine
end
section
namespace Mine
theorem lt_bytes {value : Expr} {x : Array UInt8} {t : Tok} (r : Value) : letTemporaryGo value (.bytes x t) r = pure () := by
  cases value <;> rfl
theorem sub_bytes {l u : Option Expr} {p : Pos} {x : Array UInt8} {t : Tok} {a : Addr} : subscripted (Expr.Slice l u none p) false (.bytes x t) (.ref a) = operate [.ref a, .bytes x t] (getItem (.bytes x t) (.ref a)) := by with_unfolding_all rfl
theorem clip_at {n i : Nat} (h : i ≤ n) : clipAt n (i : Int) = i := by
  unfold clipAt
  rw [if_neg (by omega)]
  omega
theorem range_map_getD {l : List Int} {a n : Nat} (h : a + n ≤ l.length) : (List.drop a l).take n = (List.range n).map (fun k => l.getD (a + k) 0) := by
  apply List.ext_getElem?
  intro q
  rw [List.getElem?_take, List.getElem?_map, List.getElem?_drop]
  rcases Nat.lt_or_ge q n with hq | hq
  · rw [if_pos hq, List.getElem?_range hq, Option.map_some, List.getD_eq_getElem?_getD]
    have : a + q < l.length := by omega
    rw [List.getElem?_eq_getElem this]; rfl
  · rw [if_neg (by omega), List.getElem?_eq_none (by rw [List.length_range]; exact hq)]; rfl
section
variable {prog : Program} {w : World} {A : Around} {E : Value → Shared → Prop} {s : Shared} {h₀ : Heap} {L : Addr} {m : Str → Option Value} {news : List (Addr × Obj)} {Q : Value → Shared → Prop} {value : Expr} {l u : Option Expr} {p : Pos} {b : Array UInt8} {t ta tb : Tok} {ss tl : List Int}
theorem cutN {i j : Int} (n : Nat) (F : Fr h₀ L s.heap m) (N : News h₀ L s.heap news) (B : Buf ss tl b) (h0 : 0 ≤ i) (hj : j = i + n) (hi : i + n ≤ 680)
    (h : ∀ (c : Array UInt8) h' t' k, KBw.bInts c = (List.range n).map (fun k => FF b (i.toNat + k)) → Fr h₀ L h' m → News h₀ L h' news → Q (.bytes c t') { s with heap := h', toks := k }) :
    wpAny (model prog w) A (subscriptTail value (Expr.Slice l u none p) (.bytes b t) (.ref s.heap.objs.size)) Q E { s with heap := s.heap.push { cls := .type "slice", data := .fields #[.int i ta, .int j tb, .none] } } := by
  have hz := B.size
  refine KBc.slice_K F N rfl (.int i ta) (.int j tb) (by rw [hz]; omega) (fun h' t' k F' N' hk => h _ h' t' k ?_ F' N') sub_bytes lt_bytes
  rw [hk]
  show (List.drop (clipAt _ i) (KBw.bInts b)).take (clipAt _ j - clipAt _ i) = _
  obtain ⟨a, rfl⟩ := Int.eq_ofNat_of_zero_le h0
  subst hj
  have e1 : clipAt (KBw.bInts b).length (a : Int) = a := clip_at (by omega)
  have e2 : clipAt (KBw.bInts b).length ((a : Int) + n) = a + n := clip_at (i := a + n) (by omega)
  rw [e1, e2, show a + n - a = n by omega, range_map_getD (by omega)]
  rfl
theorem cut1 {i : Int} (F : Fr h₀ L s.heap m) (N : News h₀ L s.heap news) (B : Buf ss tl b) (R : 0 ≤ i ∧ i ≤ 600)
    (h : ∀ (c : Array UInt8) h' t' k, KBw.bInts c = [FF b i.toNat] → Fr h₀ L h' m → News h₀ L h' news → Q (.bytes c t') { s with heap := h', toks := k }) :
    wpAny (model prog w) A (subscriptTail value (Expr.Slice l u none p) (.bytes b t) (.ref s.heap.objs.size)) Q E { s with heap := s.heap.push { cls := .type "slice", data := .fields #[.int i ta, .int (i + 1) tb, .none] } } :=
  cutN 1 F N B R.1 rfl (by have := R.2; omega) h
theorem cut8 {i j : Int} (hi : i = 0) (hj : j = 8) (F : Fr h₀ L s.heap m) (N : News h₀ L s.heap news) (B : Buf ss tl b)
    (h : ∀ (c : Array UInt8) (l8 : List Int) h' t' k, KBw.bInts c = l8 → l8.length = 8 → KBa.In l8 → (∀ q : Nat, q < 8 → FF b q = l8.getD q 0) → Fr h₀ L h' m → News h₀ L h' news → Q (.bytes c t') { s with heap := h', toks := k }) :
    wpAny (model prog w) A (subscriptTail value (Expr.Slice l u none p) (.bytes b t) (.ref s.heap.objs.size)) Q E { s with heap := s.heap.push { cls := .type "slice", data := .fields #[.int i ta, .int j tb, .none] } } := by
  subst hi hj
  refine cutN 8 F N B (by decide) rfl (by decide) fun c h' t' k hk F' N' => h c _ h' t' k hk (by simp) (fun x hx => ?_) (fun q hq => ?_) F' N'
  · obtain ⟨k, _, rfl⟩ := List.mem_map.mp hx
    exact FF_in b _
  · rw [List.getD_eq_getElem?_getD, List.getElem?_map, List.getElem?_range hq]
    show FF b q = FF b (0 + q)
    rw [Nat.zero_add]
theorem item0 {slice : Expr} {c : Array UInt8} {v : Int} {u : Tok} (hk : KBw.bInts c = [v])
    (h : ∀ (x : Int) t' k, x = v → 0 ≤ x → x < 256 → Q (.int x t') { s with toks := k })
    (hs : subscripted slice false (.bytes c t) (.int 0 u) = operate [.bytes c t, .int 0 u] (getItem (.bytes c t) (.int 0 u)) := by with_unfolding_all rfl) :
    wpAny (model prog w) A (subscriptTail value slice (.bytes c t) (.int 0 u)) Q E s :=
  KBw.item_K hk (by simp) (by decide) (by simp) (fun t' k h0 h1 => h _ t' k rfl h0 h1) hs lt_bytes
theorem from_little {x : Addr} {ks : List Int} {o : Tok} (N : News h₀ L s.heap news) (hm : (x, KFB.bound) ∈ news) (hb : KBw.bInts b = ks) (hl : ks.length = 8) (hi : KBa.In ks)
    (h : ∀ (S : Int) t' k, S = vl ks → 0 ≤ S → S < 2 ^ 64 → Q (.int S t') { s with toks := k }) : wpAny (model prog w) A (call (.ref x) [.bytes b t, .str (PySem.Str.ofString "little") o]) Q E s := by
  refine KFB.call_little N hm hb (by omega) fun t' k => ?_
  rw [value_vl]
  obtain ⟨h1, h2⟩ := vl_bound hi
  exact h _ t' k rfl h1 (by rw [hl] at h2; exact Int.lt_of_lt_of_le h2 (by decide))
variable {D : Addr} {vs : List Value} {ns : List Int}
theorem make_buf (F : Fr h₀ L s.heap m) (N : News h₀ L s.heap news) (hh : A.handled = none) (hl : s.heap.IsList D vs.toArray) (hi : IntsAre vs ns) (hr : KBa.In ns) (hn : ns.length = 680) (he : oct ns = oct (ss ++ tl)) (h1 : ss.length ≤ 8) (h2 : tl.length ≤ 120)
    (h : ∀ (b : Array UInt8) h' t' k, Buf ss tl b → Fr h₀ L h' m → News h₀ L h' news → Q (.bytes b t') { s with heap := h', toks := k }) : wpAny (model prog w) A (call (.type "bytes") [.ref D]) Q E s :=
  KBa.make_K F N hh hl hi hr (by omega) fun h' t' k F' N' hr' => h _ h' t' k ⟨by rw [KBa.ints_make hr']; exact hn, by unfold FF; rw [KBa.ints_make hr']; exact he, h1, h2⟩ F' N'
end
end Mine
end
section
namespace Mine
theorem AllObj.mono : ∀ {ws : List (Addr × String)} {k k' : List (Addr × Obj) → Prop}, (∀ its, k its → k' its) → AllObj ws k → AllObj ws k'
  | [], _, _, h, x => h [] x
  | w :: _, _, _, h, x => fun o ho => AllObj.mono (fun its => h ((w.1, o) :: its)) (x o ho)
def ZEnd (D : Addr) (post : List (Addr × Obj)) (x y : Str) (m : Str → Option Value) (ro : List Int) (m' : Str → Option Value) (n' : List (Addr × Obj)) : Prop :=
  ∃ (us : List Value) (n : Nat), n' = (D, listOf us.toArray n) :: post ∧ IntsAre us ro ∧ ∀ z, z ≠ x → z ≠ y → m' z = m z
section
variable {prog : Program} {w : World} {A : Around} {E : Value → Shared → Prop} {s : Shared} {env : Env} {h₀ : Heap} {target : Expr} {body : List Stmt} {Q : Flow → Shared → Prop} {ws : List (Addr × String)} {keep post : List (Addr × Obj)} {D : Addr} {m : Str → Option Value}
abbrev uv (x y : Str) (u m : Str → Option Value) : Str → Option Value := fun z => if z = x then u z else if z = y then u z else m z
theorem uv_eq {x y : Str} {u m : Str → Option Value} (h : ∀ z, z ≠ x → z ≠ y → u z = m z) : uv x y u m = u := by
  funext z
  show (if z = x then u z else if z = y then u z else m z) = u z
  by_cases h1 : z = x
  · rw [if_pos h1]
  · rw [if_neg h1]
    by_cases h2 : z = y
    · rw [if_pos h2]
    · rw [if_neg h2, h z h1 h2]
theorem zip_rest (x y : Str) (len : Nat)
    (turn : ∀ (p q : Int) tp tq (us : List Value) (ro : List Int) n (u : Str → Option Value) T h tk, 0 ≤ p → p < len → ro.length = len → IntsAre us ro → IsTup h T #[.int p tp, .int q tq] → Fr h₀ env.locals h (fun z => if z = x then u z else if z = y then u z else m z) →
      AllObj ws (fun its => News h₀ env.locals h (its ++ ((D, listOf us.toArray n) :: post)) →
        wpAny (model prog w) A (assign target env (.ref T)) (fun _ s₂ => wpAny (model prog w) A (execs body env) (UnrPostW h₀ env.locals { s with heap := h, toks := tk } its (fun m' n' => SubL keep n' ∧ ZEnd D post x y m (ro.set p.toNat q) m' n') Q) E s₂) E { s with heap := h, toks := tk })) :
    ∀ {xs ys : List Value} {ps ss : List Int}, IntsAre xs ps → IntsAre ys ss → (∀ p ∈ ps, 0 ≤ p ∧ p < len) → ∀ {us : List Value} {ro : List Int} {n : Nat} {m₁ : Str → Option Value}, IntsAre us ro → ro.length = len → (∀ z, z ≠ x → z ≠ y → m₁ z = m z) →
      (∀ (u : Str → Option Value) (us : List Value) n h tk, IntsAre us (setAll (ps.zip ss) ro) → Fr h₀ env.locals h (fun z => if z = x then u z else if z = y then u z else m z) → News h₀ env.locals h ((D, listOf us.toArray n) :: post) → Q .next { s with heap := h, toks := tk }) →
      ItemsRest prog w A E h₀ env target body Q s ws keep (zipItems xs ys) m₁ ((D, listOf us.toArray n) :: post)
  | [], ys, _, ss, .nil, _, _, us, ro, n, m₁, hu, _, hm, done => by
    have e : zipItems [] ys = [] := by unfold zipItems; rfl
    rw [e]
    intro h tk F N
    refine done m₁ us n h tk hu ?_ N
    have := uv_eq hm
    show Fr h₀ env.locals h (uv x y m₁ m)
    rw [this]; exact F
  | _, _, _, _, .cons i t hx, .nil, _, us, ro, n, m₁, hu, _, hm, done => by
    have e : ∀ v l, zipItems (v :: l) [] = [] := fun v l => by unfold zipItems; rfl
    rw [e]
    intro h tk F N
    refine done m₁ us n h tk (by rw [List.zip_nil_right]; exact hu) ?_ N
    have := uv_eq hm
    show Fr h₀ env.locals h (uv x y m₁ m)
    rw [this]; exact F
  | _, _, _, _, .cons (vs := xs) (ns := ps) p tp hx, .cons (vs := ys) (ns := ss) q tq hy, hp, us, ro, n, m₁, hu, hl, hm, done => by
    refine ItemsRest.pair fun T t h tk hT F => ?_
    have F' : Fr h₀ env.locals h (uv x y m₁ m) := by rw [uv_eq hm]; exact F
    have hp0 := hp p List.mem_cons_self
    refine AllObj.mono (fun its hk N => ?_) (turn p q tp tq us ro n m₁ T h tk hp0.1 hp0.2 hl hu hT F')
    refine wpAny_mono (hk N) (fun _ s₂ h₂ => wpAny_mono h₂ (fun f s₃ r => ?_) fun _ _ e => e) fun _ _ e => e
    have fin : UnrEndW h₀ env.locals { s with heap := h, toks := tk } its (fun m' n' => SubL keep n' ∧ ZEnd D post x y m (ro.set p.toNat q) m' n') s₃ →
        UnrEndW h₀ env.locals { s with heap := h, toks := tk } its (fun m' n' => SubL keep n' ∧ ItemsRest prog w A E h₀ env target body Q s ws keep (zipItems xs ys) m' n') s₃ := by
      rintro ⟨h', tk', m', n', e, F3, N3, ho, hk3, us', n1, rfl, hu', hm'⟩
      refine ⟨h', tk', m', _, e, F3, N3, ho, hk3, ?_⟩
      exact zip_rest x y len turn hx hy (fun p' hp' => hp p' (List.mem_cons_of_mem _ hp')) hu' (by rw [List.length_set]; exact hl) hm' done
    cases f with
    | ret v => exact r
    | brk => exact r
    | next => exact fin r
    | cont => exact fin r
end

section
variable {prog : Program} {w : World} {A : Around} {E : Value → Shared → Prop} {s : Shared} {h₀ : Heap} {L l D : Addr} {m : Str → Option Value} {news : List (Addr × Obj)} {Q : Value → Shared → Prop}
theorem mul680 {t u : Tok} (h : Q (.int 680 s.toks) { s with toks := s.toks + 1 }) : wpAny (model prog w) A (binaryOp .Mult (.int 5 t) (.int 136 u)) Q E s :=
  mul_int h (IntMulOk.of_left (intBits_le_64 (by decide) (by decide)))
theorem rep0 {c : Int} {t u : Tok} (F : Fr h₀ L s.heap m) (N : News h₀ L s.heap news) (hl : s.heap.IsList l [Value.int 0 t].toArray) (h0 : 0 ≤ c) (h1 : c ≤ 1048576)
    (h : ∀ D us h', Fr h₀ L h' m → News h₀ L h' ((D, listOf (List.toArray us) 0) :: news) → (∀ p ∈ news, p.1 < D) → IntsAre us (List.replicate c.toNat 0) → Q (.ref D) { s with heap := h' }) :
    wpAny (model prog w) A (binaryOp .Mult (.ref l) (.int c u)) Q E s :=
  KM.mul F N hl (.cons 0 t .nil) (by omega) (by omega) (by show 1 * c.toNat ≤ 2 ^ 24; omega) fun D h' F' N' l1 hi n _ _ _ _ => h D _ h' F' N' l1 (by rw [krep_flat] at hi; exact hi)
theorem ne_same {a b : Addr} {vs us : List Value} {ns ms : List Int} (hl : s.heap.IsList a vs.toArray) (hi : IntsAre vs ns) (hl' : s.heap.IsList b us.toArray) (hi' : IntsAre us ms) (hu : A.units + 64 < cLine) (e : ns = ms)
    (h : Q (.bool false) s) : wpAny (model prog w) A (compareOp .NotEq (.ref a) (.ref b)) Q E s :=
  ne_intsK hl hi hl' hi' hu (by subst e; simpa using h)
end
theorem buf_eq {ss tl : List Int} {a c k : Nat} (h1 : ss.length ≤ 8) (h2 : tl.length ≤ 120) (ha : a = 680) (hc : c = 0) : oct (List.take a (ss ++ List.replicate c 0 ++ tl ++ List.replicate k 0)) = oct (ss ++ tl) := by
  subst ha hc
  funext q
  rw [List.replicate_zero, List.append_nil]
  rcases Nat.lt_or_ge q 680 with h | h
  · rw [oct_take h, oct_app (fun x hx => (List.mem_replicate.mp hx).2)]
  · rw [oct_out (by rw [List.length_take]; omega), oct_out (by rw [List.length_append]; omega)]
theorem in_app {a c : List Int} (ha : KBa.In a) (hc : KBa.In c) : KBa.In (a ++ c) := fun x hx => (List.mem_append.mp hx).elim (ha x) (hc x)
theorem in_rep {k : Nat} : KBa.In (List.replicate k 0) := fun x hx => by rw [(List.mem_replicate.mp hx).2]; decide
theorem buf_in {ss tl : List Int} {a c k : Nat} (h1 : KBa.In ss) (h2 : KBa.In tl) : KBa.In (List.take a (ss ++ List.replicate c 0 ++ tl ++ List.replicate k 0)) :=
  fun x hx => in_app (in_app (in_app h1 in_rep) h2) in_rep x (List.mem_of_mem_take hx)
theorem buf_len {ss tl : List Int} {a c k : Nat} (ha : a = 680) (hk : k = 680) : (List.take a (ss ++ List.replicate c 0 ++ tl ++ List.replicate k 0)).length = 680 := by
  subst ha hk
  rw [List.length_take, List.length_append, List.length_replicate]
  omega
theorem gen_ob {us : List Value} {ss tl : List Int} {k : Nat} (h : IntsAre us (ss ++ tl ++ List.replicate k 0)) (hk : k = 80) (h1 : ss.length ≤ 8) (h2 : tl.length ≤ 120) (i1 : KBa.In ss) (i2 : KBa.In tl) :
    ∃ (ob : List Int) (n : Nat), IntsAre us ob ∧ Oc ob n ∧ oct ob = oct (ss ++ tl) ∧ 80 ≤ ob.length ∧ ob.length ≤ 208 := by
  subst hk
  have e : oct (ss ++ tl ++ List.replicate 80 0) = oct (ss ++ tl) := by
    funext q
    exact oct_app (fun x hx => (List.mem_replicate.mp hx).2)
  have hl : (ss ++ tl ++ List.replicate 80 0).length = ss.length + tl.length + 80 := by rw [List.length_append, List.length_append, List.length_replicate]
  refine ⟨_, ss.length + tl.length, h, ⟨by omega, hl, fun q => ?_, fun q hq => ?_⟩, e, by omega, by omega⟩
  · have hi := in_app (in_app i1 i2) (in_rep (k := 80))
    unfold oct
    rw [List.getD_eq_getElem?_getD]
    cases hq : (ss ++ tl ++ List.replicate 80 0)[q]? with
    | none => exact ⟨Int.le_refl _, by decide⟩
    | some v => exact hi v (List.mem_of_getElem? hq)
  · rw [e]
    exact oct_out (by rw [List.length_append]; omega)
theorem law_end {b : Array UInt8} {ss tl ob : List Int} {n : Nat} {r S : Int} {pre co : List Int} {sg ix : Int} {pre' pl sl l8 : List Int} {tk : Int} (B : BallW b r S pre co sg ix) (hB : Buf ss tl b) (W : LawW ob n r pre' tk pl) (hO : oct ob = oct (ss ++ tl))
    (h1 : (pre.length : Int) = r) (h2 : (pre'.length : Int) = r) (hS : S = vl l8) (h8 : l8.length = 8) (hi8 : KBa.In l8) (he8 : ∀ q : Nat, q < 8 → FF b q = l8.getD q 0) (hs : ∀ t : Nat, t < 64 → sl[t]? = some (sig ob t)) :
    co = setAll (pl.zip sl) (List.replicate 256 0) := by
  have hf : FF b = oct ob := by rw [hB.eq, hO]
  have hlen : pre'.length = pre.length := by omega
  rw [B.co, W.pl, hlen, ← hf]
  have hr := B.r1
  refine (ball (n := 128) B.z (by decide) (by have := B.r0; omega) (fun q => (FF_in b q).1) (by omega) fun t ht => ?_).symm
  rw [hs t (by omega), sig_sg (by omega) h8 hi8 fun q hq => by rw [← he8 q hq, hf]; rfl, hS]
end Mine
end
section
namespace Mine
abbrev rn (r : Int) : Nat := (256 - (256 - r)).toNat
theorem sub64_lo {r : Int} (h : r ≤ 64) : 0 ≤ 64 - r := by omega
theorem sub64_hi {r : Int} (h : 0 ≤ r) : 64 - r ≤ 64 := by omega
theorem small_r {r : Int} (h0 : 0 ≤ r) (h1 : r ≤ 64) : Builtin.Range.small (256 - r) 256 1 = true := small_one (by omega) (by omega) (by omega) (by omega)
theorem BallW.start2 {b : Array UInt8} {r S ix : Int} {co ss tl : List Int} (hB : Buf ss tl b) (h0 : 0 ≤ r) (h1 : r ≤ 64) (s0 : 0 ≤ S) (s1 : S < 2 ^ 64) (hco : co = List.replicate 256 0) (hix : ix = 8) : BallW b r S [] co S ix := by
  subst hco hix
  exact BallW.start h0 h1 s0 s1 hB.z
theorem BallW.rej2 {b : Array UInt8} {r S : Int} {pre co : List Int} {sg ix i : Int} (B : BallW b r S pre co sg ix) (hi : i = 256 - r + pre.length) (hl : pre.length < rn r) : RejW b i ix ix :=
  B.rej hi (by have := B.r1; have := B.r0; unfold rn at hl; omega)
theorem BallW.ilt {b : Array UInt8} {r S : Int} {pre co : List Int} {sg ix i : Int} (B : BallW b r S pre co sg ix) (hi : i = 256 - r + pre.length) (hl : pre.length < rn r) : 0 ≤ i ∧ i < co.length ∧ co.length = 256 := by
  have h := B.facts.1
  have h0 := B.r0
  have h1 := B.r1
  unfold rn at hl
  rw [h]
  omega
theorem LawW.wh2 {ob : List Int} {n : Nat} {r : Int} {pre : List Int} {tk i : Int} {pl : List Int} (W : LawW ob n r pre tk pl) (hi : i = 256 - r + pre.length) (hl : pre.length < rn r) : WhW ob n i tk tk :=
  W.wh hi (by have := W.r0; unfold rn at hl; omega)
theorem rn_len {r : Int} (h0 : 0 ≤ r) : ((rangeKs (256 - r) (rn r)).length : Int) = r := by
  rw [rangeKs_length]; unfold rn; omega
theorem pz_in {f : Nat → Int} {r : Int} {n : Nat} (hz : ∀ q, n ≤ q → f q = 0) (hn : n ≤ 200) (h0 : ∀ q, 0 ≤ f q) (hr0 : 0 ≤ r) (hr : r ≤ 64) {k : Nat} (hk : (k : Int) ≤ r) : ∀ p ∈ pz f (256 - r) k, 0 ≤ p ∧ p < (256 : Nat) := by
  have I := inv_all (f := f) (b := 256 - r) (S := 0) hz hn (by omega) h0 k (by omega)
  intro p hp
  have := I.low p hp
  omega
theorem LawW.places {ob : List Int} {n : Nat} {r : Int} {tk : Int} {pl : List Int} (W : LawW ob n r (rangeKs (256 - r) (rn r)) tk pl) : ∀ p ∈ pl, 0 ≤ p ∧ p < (256 : Nat) := by
  have h := rn_len W.r0
  rw [W.pl]
  exact pz_in W.oc.z (by have := W.oc.nle; omega) (fun q => (W.oc.pos q).1) W.r0 W.r1 (by omega)
theorem law_end2 {b : Array UInt8} {ss tl ob : List Int} {n : Nat} {r S : Int} {co : List Int} {sg ix : Int} {pl sl l8 : List Int} {tk : Int} (B : BallW b r S (rangeKs (256 - r) (rn r)) co sg ix) (hB : Buf ss tl b) (W : LawW ob n r (rangeKs (256 - r) (rn r)) tk pl) (hO : oct ob = oct (ss ++ tl))
    (hS : S = vl l8) (h8 : l8.length = 8) (hi8 : KBa.In l8) (he8 : ∀ q : Nat, q < 8 → FF b q = l8.getD q 0) (hs : sl = (rangeKs 0 64).map (sig ob)) :
    co = setAll (pl.zip sl) (List.replicate 256 0) :=
  law_end B hB W hO (rn_len B.r0) (rn_len B.r0) hS h8 hi8 he8 fun t ht => by
    rw [hs, List.getElem?_map]
    have : (rangeKs 0 64)[t]? = some ((t : Nat) : Int) := by simp [rangeKs, ht]
    rw [this]; rfl
theorem fd8_lo {k : Int} (h : 0 ≤ k) : 0 ≤ k.fdiv 8 := by rw [Int.fdiv_eq_ediv_of_nonneg _ (by decide)]; omega
theorem fd8_hi {k a : Int} {c : Nat} {l : List Int} (h0 : a ≤ k) (h : k < a + (c : Int)) (ha : a = 0) (hc : c = 64) (hl : 80 ≤ l.length) : k.fdiv 8 < l.length := by
  rw [Int.fdiv_eq_ediv_of_nonneg _ (by decide)]; omega
theorem fd8_fit {k a : Int} {c : Nat} (h0 : a ≤ k) (h : k < a + (c : Int)) (ha : a = 0) (hc : c = 64) : k.fdiv 8 < 2 ^ 63 := by
  rw [Int.fdiv_eq_ediv_of_nonneg _ (by decide)]; omega
theorem WhW.fit {ob : List Int} {n : Nat} {i t0 t : Int} (W : WhW ob n i t0 t) : t < 2 ^ 63 := by
  have h1 := W.hi; have h2 := W.oc.nle; omega
theorem gen_ob2 {us : List Value} {ss tl : List Int} {k : Nat} (h : IntsAre us (ss ++ tl ++ List.replicate k 0)) (hk : k = 80) (h1 : ss.length ≤ 8) (h2 : tl.length ≤ 120) (i1 : KBa.In ss) (i2 : KBa.In tl) :
    ∃ ob : List Int, IntsAre us ob ∧ Oc ob (ob.length - 80) ∧ oct ob = oct (ss ++ tl) ∧ 80 ≤ ob.length ∧ ob.length ≤ 208 := by
  obtain ⟨ob, n, a, b, c, d, e⟩ := gen_ob h hk h1 h2 i1 i2
  have : ob.length - 80 = n := by have := b.len; omega
  exact ⟨ob, a, by rw [this]; exact b, c, d, e⟩
theorem lenle_app {a b : List Int} {m n : Nat} (h1 : a.length ≤ m) (h2 : b.length ≤ n) : (a ++ b).length ≤ m + n := by rw [List.length_append]; omega
theorem lenle_rep {k : Nat} {v : Int} : (List.replicate k v).length ≤ k := by rw [List.length_replicate]; exact Nat.le_refl _
theorem lenle_one {v : Int} : [v].length ≤ 1 := Nat.le_refl _
theorem lenle_map {ob : List Int} {n : Nat} {r : Int} {pre : List Int} {tk : Int} {pl : List Int} (W : LawW ob n r pre tk pl) (hl : pre.length < rn r) {g : Int → Int} : (pl.map g).length ≤ 64 := by
  have h1 := W.r1
  have h0 := W.r0
  rw [List.length_map, W.pl, pz_len]; unfold rn at hl; omega
section
variable {prog : Program} {w : World} {A : Around} {E : Value → Shared → Prop} {s : Shared} {h₀ : Heap} {L a b : Addr} {m : Str → Option Value} {news : List (Addr × Obj)} {vs us : List Value} {ns ms : List Int} {Q : Value → Shared → Prop}
theorem add_fit {j k : Nat} (F : Fr h₀ L s.heap m) (N : News h₀ L s.heap news) (ha : s.heap.IsList a vs.toArray) (hb : s.heap.IsList b us.toArray) (hi : IntsAre vs ns) (hj : IntsAre us ms) (h1 : ns.length ≤ j) (h2 : ms.length ≤ k) (h3 : j + k ≤ 2000)
    (h : ∀ D us h', Fr h₀ L h' m → News h₀ L h' ((D, listOf (List.toArray us) 0) :: news) → (∀ p ∈ news, p.1 < D) → IntsAre us (ns ++ ms) → Q (.ref D) { s with heap := h' }) :
    wpAny (model prog w) A (binaryOp .Add (.ref a) (.ref b)) Q E s :=
  kmk_add_ints F N ha hb hi hj h (by rw [sizeLine_eq]; omega)
end
end Mine
end
section
namespace Mine
theorem and1_eq {a : Int} (h : 0 ≤ a) : Builtin.bitAnd a 1 = a % 2 := by
  obtain ⟨n, rfl⟩ := Int.eq_ofNat_of_zero_le h
  unfold Builtin.bitAnd
  have h1 : decide (0 ≤ (n : Int)) = true := decide_eq_true (by omega)
  have h2 : decide ((0 : Int) ≤ 1) = true := by decide
  rw [h1, h2]
  show (((n : Int).toNat &&& (1 : Int).toNat : Nat) : Int) = (n : Int) % 2
  have e1 : (n : Int).toNat = n := by omega
  have e2 : (1 : Int).toNat = 1 := rfl
  rw [e1, e2, Nat.and_one_is_mod]
  omega
section
variable {prog : Program} {w : World} {A : Around} {E : Value → Shared → Prop} {s : Shared} {Q : Value → Shared → Prop} {b : Array UInt8} {r S : Int} {pre co : List Int} {sg ix : Int}
theorem and1 {t u : Tok} (B : BallW b r S pre co sg ix) (h : ∀ z : Int, z = sg % 2 → 0 ≤ z → z ≤ 1 → Q (.int z s.toks) { s with toks := s.toks + 1 }) : wpAny (model prog w) A (binaryOp .BitAnd (.int sg t) (.int 1 u)) Q E s :=
  and_int (by rw [and1_eq B.facts.2.1]; exact h _ rfl (by omega) (by omega))
theorem rsh1 {t u : Tok} (_B : BallW b r S pre co sg ix) (h : ∀ z : Int, z = sg / 2 → Q (.int z s.toks) { s with toks := s.toks + 1 }) : wpAny (model prog w) A (inplaceOp .RShift (.int sg t) (.int 1 u)) Q E s :=
  irshift_int (by decide) (by
    have e : sg.fdiv (2 ^ Int.toNat 1) = sg / 2 := Int.fdiv_eq_ediv_of_nonneg _ (by decide)
    rw [e]; exact h _ rfl)
theorem mul2 {z : Int} {t u : Tok} (h : Q (.int (2 * z) s.toks) { s with toks := s.toks + 1 }) : wpAny (model prog w) A (binaryOp .Mult (.int 2 t) (.int z u)) Q E s :=
  mul_int h (IntMulOk.of_left (intBits_le_64 (by decide) (by decide)))
end
theorem no680 {b : Array UInt8} {i t0 t : Int} (R : RejW b i t0 t) : decide (680 < t + 1) = false := decide_eq_false (by have := R.room; omega)
theorem RejW.step2 {b : Array UInt8} {i t0 t v : Int} (R : RejW b i t0 t) (hv : v = FF b t.toNat) (hn : ¬ v ≤ i) : RejW b i t0 (t + 1) := R.step (by omega)
theorem WhW.step2 {ob : List Int} {n : Nat} {i t0 t : Int} (W : WhW ob n i t0 t) (h : ob.getD t.toNat 0 > i) : WhW ob n i t0 (t + 1) := W.step h
theorem BallW.turn2 {b : Array UInt8} {r S : Int} {pre co : List Int} {sg ix i t v z q : Int} (B : BallW b r S pre co sg ix) (R : RejW b i ix t) (hi : i = 256 - r + pre.length) (hv : v = FF b t.toNat) (hle : v ≤ i) (hz : z = sg % 2) (hq : q = sg / 2) :
    BallW b r S (pre ++ [i]) ((co.set i.toNat (co.getD v.toNat 0)).set v.toNat (1 - 2 * z)) q (t + 1) := by
  subst hz hq
  exact B.turn R hi hv hle
theorem ball_lt {b : Array UInt8} {r S : Int} {pre co : List Int} {sg ix v : Int} (B : BallW b r S pre co sg ix) (h : v < 256) : v < co.length := by rw [B.facts.1]; exact h
theorem ball_lt2 {b : Array UInt8} {r S : Int} {pre co : List Int} {sg ix v y : Int} {k : Nat} (B : BallW b r S pre co sg ix) (h : v < 256) : v < (co.set k y).length := by rw [List.length_set, B.facts.1]; exact h
theorem fit63 {v : Int} (h : v < 256) : v < 2 ^ 63 := by omega
theorem BallW.ifit {b : Array UInt8} {r S : Int} {pre co : List Int} {sg ix i : Int} (B : BallW b r S pre co sg ix) (hi : i = 256 - r + pre.length) (hl : pre.length < rn r) : i < 2 ^ 63 := by
  have := B.ilt hi hl; omega
end Mine
end
section
namespace Mine
section
variable {prog : Program} {w : World} {A : Around} {E : Value → Shared → Prop} {s : Shared} {h₀ : Heap} {L l : Addr} {m : Str → Option Value} {news : List (Addr × Obj)} {Q : Value → Shared → Prop} {value : Expr} {x u : Option Expr} {p : Pos} {vs : List Value} {ns : List Int} {t : Tok}
theorem cut_top {c : Int} {n : Nat} (F : Fr h₀ L s.heap m) (N : News h₀ L s.heap news) (hl : s.heap.IsList l vs.toArray) (hi : IntsAre vs ns) (h0 : 0 ≤ c) (hn : ns.length ≤ n) (hz : n ≤ 4000)
    (h : ∀ D ws h', Fr h₀ L h' m → News h₀ L h' ((D, listOf (List.toArray ws) 0) :: news) → (∀ p ∈ news, p.1 < D) → IntsAre ws (List.take c.toNat ns) → Q (.ref D) { s with heap := h' }) (ht : ∀ r, letTemporaryGo value (.ref l) r = pure ()) :
    wpAny (model prog w) A (subscriptTail value (Expr.Slice x u none p) (.ref l) (.ref s.heap.objs.size)) Q E { s with heap := s.heap.push { cls := .type "slice", data := .fields #[.none, .int c t, .none] } } :=
  kmk_slice_ints F N hl .none (.int c t) hi (kmk_upto hi h0) rfl (fun D ws h' F' N' l1 hi' _ _ => h D ws h' F' N' l1 hi') (by with_unfolding_all rfl) ht (by rw [List.size_toArray, hi.length, sizeLine_eq]; omega)
theorem len256 {b : Array UInt8} {r S sg ix : Int} {pre co : List Int} (hl : s.heap.IsList l vs.toArray) (hi : IntsAre vs co) (B : BallW b r S pre co sg ix) (h : Q (.int 256 (s.toks + 1)) { s with toks := s.toks + 1 + 1 }) : wpAny (model prog w) A (call (.builtin "len") [.ref l]) Q E s := by
  have e : co.length = 256 := B.facts.1
  refine len_ints_fit hl hi (by omega) ?_
  rw [e]
  exact h
theorem pow8 {k : Int} {t u : Tok} (h : Q (.int (2 ^ (k.fmod 8).toNat) s.toks) { s with toks := s.toks + 1 }) : wpAny (model prog w) A (binaryOp .Pow (.int 2 t) (.int (k.fmod 8) u)) Q E s := by
  have h0 : 0 ≤ k.fmod 8 := Int.fmod_nonneg_of_pos _ (by decide)
  have h1 : k.fmod 8 < 8 := Int.fmod_lt_of_pos _ (by decide)
  refine pow_int h0 ?_ h
  have : Builtin.Int.intBits 2 = 2 := by decide
  rw [this]
  omega
theorem div8 {a k : Int} {t u : Tok} (h : Q (.int (a.fdiv (2 ^ (k.fmod 8).toNat)) s.toks) { s with toks := s.toks + 1 }) : wpAny (model prog w) A (binaryOp .FloorDiv (.int a t) (.int (2 ^ (k.fmod 8).toNat) u)) Q E s := by
  have h1 : k.fmod 8 < 8 := Int.fmod_lt_of_pos _ (by decide)
  refine floordiv_int ?_ h (Or.inl (PyProof.noPylong_of_log2 (kbt_py (by omega))))
  exact Int.ne_of_gt (Int.pow_pos (by decide))
end
end Mine
end
section
namespace Mine
def LtAll (d : Nat) (l : List Nat) : Prop := ∀ b ∈ l, b < d
def NeAll (d : Nat) (l : List Nat) : Prop := ∀ b ∈ l, b ≠ d
inductive Nd : List Nat → Prop
  | nil : Nd []
  | cons {a : Nat} {l : List Nat} : NeAll a l → Nd l → Nd (a :: l)
theorem ltAll_of {l : List (Addr × Obj)} {d : Addr} (h : ∀ p ∈ l, p.1 < d) : LtAll d (l.map (·.1)) := fun b hb => by
  obtain ⟨p, hp, rfl⟩ := List.mem_map.mp hb
  exact h p hp
theorem LtAll.ne {d : Nat} {l : List Nat} (h : LtAll d l) : NeAll d l := fun b hb => Nat.ne_of_lt (h b hb)
theorem LtAll.up {d x : Nat} {l : List Nat} (h1 : d < x) (h : LtAll d l) : LtAll x (d :: l) := fun b hb => by
  rcases List.mem_cons.mp hb with rfl | hb
  · exact h1
  · exact Nat.lt_trans (h b hb) h1
theorem LtAll.suc {d : Nat} {l : List Nat} (h : LtAll d l) : LtAll (d + 1) l := fun b hb => Nat.lt_succ_of_lt (h b hb)
theorem LtAll.add {d k : Nat} {l : List Nat} (h : LtAll d l) : LtAll (d + k) l := fun b hb => Nat.lt_of_lt_of_le (h b hb) (Nat.le_add_right d k)
theorem add_ne {i j k : Nat} (h : j ≠ k) : i + j ≠ i + k := fun e => h (Nat.add_left_cancel e)
theorem add_ne0 {i k : Nat} (h : 0 ≠ k) : i ≠ i + k := fun e => h (Nat.add_left_cancel (m := 0) e)
theorem add_ne1 {i k : Nat} (h : k ≠ 0) : i + k ≠ i := fun e => h (Nat.add_left_cancel (k := 0) e)
theorem lt_suc (d : Nat) : d < d + 1 := Nat.lt_succ_self d
theorem NeAll.nil {d : Nat} : NeAll d [] := fun _ h => nomatch h
theorem NeAll.cons {d b : Nat} {l : List Nat} (h1 : b ≠ d) (h : NeAll d l) : NeAll d (b :: l) := fun c hc => by
  rcases List.mem_cons.mp hc with rfl | hc
  · exact h1
  · exact h c hc
theorem neAll_off {D : Addr} : ∀ {l : List (Addr × Obj)}, LCg.Off1 D l → NeAll D (l.map (·.1))
  | [], _ => .nil
  | _ :: _, h => .cons h.1 (neAll_off h.2)
theorem lt_ne1 {a b : Nat} {l : List Nat} (h : LtAll a l) (hb : b ∈ l) : a ≠ b := Nat.ne_of_gt (h b hb)
theorem lt_ne2 {a b : Nat} {l : List Nat} (h : LtAll b l) (ha : a ∈ l) : a ≠ b := Nat.ne_of_lt (h a ha)
theorem ne_ne1 {a b : Nat} {l : List Nat} (h : NeAll a l) (hb : b ∈ l) : a ≠ b := (h b hb).symm
theorem ne_ne2 {a b : Nat} {l : List Nat} (h : NeAll b l) (ha : a ∈ l) : a ≠ b := h a ha
/-- a ledger: written entries, their addresses, and what lies behind them -/
inductive Lit (own : List (Addr × Obj)) : List (Addr × Obj) → List Nat → Prop
  | nil : Lit own own []
  | cons {p : Addr × Obj} {r : List (Addr × Obj)} {as : List Nat} : Lit own r as → Lit own (p :: r) (p.1 :: as)
theorem Lit.mem {own l : List (Addr × Obj)} {as : List Nat} (h : Lit own l as) : ∀ a ∈ as, ∃ p ∈ l, p.1 = a := by
  induction h with
  | nil => exact fun _ h => nomatch h
  | cons _ ih =>
      intro a ha
      rcases List.mem_cons.mp ha with rfl | ha
      · exact ⟨_, List.mem_cons_self, rfl⟩
      · obtain ⟨p, hp, e⟩ := ih a ha
        exact ⟨p, List.mem_cons_of_mem _ hp, e⟩
theorem Lit.all {own l : List (Addr × Obj)} {as : List Nat} {d : Nat} (h : Lit own l as) (ho : ∀ p ∈ own, p.1 ≠ d) : NeAll d as → ∀ p ∈ l, p.1 ≠ d := by
  induction h with
  | nil => exact fun _ => ho
  | cons _ ih =>
      intro hn p hp
      rcases List.mem_cons.mp hp with rfl | hp
      · exact hn _ List.mem_cons_self
      · exact ih (fun b hb => hn b (List.mem_cons_of_mem _ hb)) p hp
theorem ltAll_lit {own l : List (Addr × Obj)} {as : List Nat} {d : Addr} (h : ∀ p ∈ l, p.1 < d) (t : Lit own l as) : LtAll d as := fun a ha => by
  obtain ⟨p, hp, rfl⟩ := t.mem a ha
  exact h p hp
theorem off_all {D : Addr} : ∀ {l : List (Addr × Obj)}, LCg.Off1 D l → ∀ p ∈ l, p.1 ≠ D
  | [], _ => fun _ h => nomatch h
  | _ :: _, h => fun p hp => by
    rcases List.mem_cons.mp hp with rfl | hp
    · exact h.1
    · exact off_all h.2 p hp
theorem neAll_lit {own l : List (Addr × Obj)} {as : List Nat} {D : Addr} (h : LCg.Off1 D l) (t : Lit own l as) : NeAll D as := fun a ha => by
  obtain ⟨p, hp, rfl⟩ := t.mem a ha
  exact off_all h p hp
inductive PosU (d : Addr) (o o' : Obj) (own : List (Addr × Obj)) : List (Addr × Obj) → List (Addr × Obj) → List Nat → Prop
  | head {r : List (Addr × Obj)} {as : List Nat} : Lit own r as → PosU d o o' own ((d, o) :: r) ((d, o') :: r) (d :: as)
  | tail {p : Addr × Obj} {r r' : List (Addr × Obj)} {as : List Nat} : PosU d o o' own r r' as → PosU d o o' own (p :: r) (p :: r') (p.1 :: as)
theorem PosU.mem {d : Addr} {o o' : Obj} {own l l' : List (Addr × Obj)} {as : List Nat} (h : PosU d o o' own l l' as) : d ∈ as := by
  induction h with
  | head => exact List.mem_cons_self
  | tail _ ih => exact List.mem_cons_of_mem _ ih
theorem Nd.hd {a : Nat} {l : List Nat} : Nd (a :: l) → NeAll a l | .cons h _ => h
theorem Nd.tl {a : Nat} {l : List Nat} : Nd (a :: l) → Nd l | .cons _ h => h
theorem upd_nd {d : Addr} {o o' : Obj} {own l l' : List (Addr × Obj)} {as : List Nat} (h : PosU d o o' own l l' as) : Nd as → (∀ p ∈ own, p.1 ≠ d) → Upd d o o' l l' := by
  induction h with
  | head t => exact fun D ho => .head (t.all ho D.hd)
  | tail h ih => exact fun D ho => .tail (Ne.symm (D.hd d h.mem)) (ih D.tl ho)
inductive PosF (d : Addr) (o : Obj) (own : List (Addr × Obj)) : List (Addr × Obj) → (Obj → List (Addr × Obj)) → List Nat → Prop
  | head {r as} : Lit own r as → PosF d o own ((d, o) :: r) (fun o' => (d, o') :: r) (d :: as)
  | tail {p r g as} : PosF d o own r g as → PosF d o own (p :: r) (fun o' => p :: g o') (p.1 :: as)
theorem PosF.mem {d : Addr} {o : Obj} {own l : List (Addr × Obj)} {g : Obj → List (Addr × Obj)} {as : List Nat} (h : PosF d o own l g as) : d ∈ as := by
  induction h with
  | head => exact List.mem_cons_self
  | tail _ ih => exact List.mem_cons_of_mem _ ih
theorem updF_nd {d : Addr} {o : Obj} {own l : List (Addr × Obj)} {g : Obj → List (Addr × Obj)} {as : List Nat} (h : PosF d o own l g as) : Nd as → (∀ p ∈ own, p.1 ≠ d) → UpdF d o l g := by
  induction h with
  | head t => exact fun D ho => .head (t.all ho D.hd)
  | tail h ih => exact fun D ho => .tail (Ne.symm (D.hd d h.mem)) (ih D.tl ho)
inductive MkL (L : Addr) : Prop | mk
theorem mkOf {h₀ h : Heap} {L : Addr} {m : Str → Option Value} (_ : Fr h₀ L h m) : MkL L := .mk
theorem mkSeen {h₀ h : Heap} {L : Addr} {m : Str → Option Value} (_ : Fr h₀ L h m) (_ : MkL L) : True := trivial
theorem News.cut {h₀ h : Heap} {L : Addr} {news : List (Addr × Obj)} (n : Nat) (N : News h₀ L h news) : News h₀ L h (news.drop n) := fun p hp => N p (List.mem_of_mem_drop hp)
/-- an ordered part of a row of addresses -/
inductive SubN : List Nat → List Nat → Prop
  | nil {l : List Nat} : SubN [] l
  | keep {p : Nat} {r l : List Nat} : SubN r l → SubN (p :: r) (p :: l)
  | skip {q : Nat} {r l : List Nat} : SubN r l → SubN r (q :: l)
theorem SubN.mem {r l : List Nat} (h : SubN r l) : ∀ p ∈ r, p ∈ l := by
  induction h with
  | nil => exact fun _ h => nomatch h
  | keep _ ih =>
    intro p hp
    rcases List.mem_cons.mp hp with rfl | hp
    · exact List.mem_cons_self
    · exact List.mem_cons_of_mem _ (ih p hp)
  | skip _ ih => exact fun p hp => List.mem_cons_of_mem _ (ih p hp)
theorem NeAll.sub {d : Nat} {r l : List Nat} (h : NeAll d l) (s : SubN r l) : NeAll d r := fun b hb => h b (s.mem b hb)
theorem nd_of {h₀ h : Heap} {L : Addr} {own news : List (Addr × Obj)} {as : List Nat} (_ : News h₀ L h news) (_ : Lit own news as) (D : Nd as) : Nd as := D
theorem Nd.tl2 {a : Nat} {l : List Nat} (h : Nd (a :: l)) : Nd l := h.tl
theorem suc1_ne {b : Nat} : b ≠ b + 1 := Nat.ne_of_lt (Nat.lt_succ_self b)
theorem suc2_ne {b : Nat} : b ≠ b + 1 + 1 := fun e => by omega
theorem suc3_ne {b : Nat} : b ≠ b + 1 + 1 + 1 := fun e => by omega
end Mine
end
section
namespace Mine
/-- a ledger with two cells that turn -/
inductive Two (a b : Addr) (oa ob : Obj) (own : List (Addr × Obj)) : List (Addr × Obj) → (Obj → Obj → List (Addr × Obj)) → List Nat → Prop
  | nil : Two a b oa ob own own (fun _ _ => own) []
  | hitA {r : List (Addr × Obj)} {g : Obj → Obj → List (Addr × Obj)} {as : List Nat} : Two a b oa ob own r g as → Two a b oa ob own ((a, oa) :: r) (fun x y => (a, x) :: g x y) (a :: as)
  | hitB {r : List (Addr × Obj)} {g : Obj → Obj → List (Addr × Obj)} {as : List Nat} : Two a b oa ob own r g as → Two a b oa ob own ((b, ob) :: r) (fun x y => (b, y) :: g x y) (b :: as)
  | skip {p : Addr × Obj} {r : List (Addr × Obj)} {g : Obj → Obj → List (Addr × Obj)} {as : List Nat} : Two a b oa ob own r g as → Two a b oa ob own (p :: r) (fun x y => p :: g x y) (p.1 :: as)
section
variable {a b : Addr} {oa ob : Obj} {own l : List (Addr × Obj)} {g : Obj → Obj → List (Addr × Obj)} {as : List Nat}
theorem Two.eq (T : Two a b oa ob own l g as) : l = g oa ob := by
  induction T with
  | nil => rfl
  | hitA _ ih => rw [ih]
  | hitB _ ih => rw [ih]
  | skip _ ih => rw [ih]
theorem Two.mem (T : Two a b oa ob own l g as) (x y : Obj) : ∀ p ∈ g x y, ∃ q ∈ l, q.1 = p.1 := by
  induction T with
  | nil => exact fun p hp => ⟨p, hp, rfl⟩
  | hitA _ ih =>
    intro p hp
    rcases List.mem_cons.mp hp with rfl | hp
    · exact ⟨_, List.mem_cons_self, rfl⟩
    · obtain ⟨q, hq, e⟩ := ih p hp
      exact ⟨q, List.mem_cons_of_mem _ hq, e⟩
  | hitB _ ih =>
    intro p hp
    rcases List.mem_cons.mp hp with rfl | hp
    · exact ⟨_, List.mem_cons_self, rfl⟩
    · obtain ⟨q, hq, e⟩ := ih p hp
      exact ⟨q, List.mem_cons_of_mem _ hq, e⟩
  | skip _ ih =>
    intro p hp
    rcases List.mem_cons.mp hp with rfl | hp
    · exact ⟨_, List.mem_cons_self, rfl⟩
    · obtain ⟨q, hq, e⟩ := ih p hp
      exact ⟨q, List.mem_cons_of_mem _ hq, e⟩
theorem Two.adr (T : Two a b oa ob own l g as) : ∀ c ∈ as, ∃ q ∈ l, q.1 = c := by
  induction T with
  | nil => exact fun _ h => nomatch h
  | hitA _ ih =>
    intro c hc
    rcases List.mem_cons.mp hc with rfl | hc
    · exact ⟨_, List.mem_cons_self, rfl⟩
    · obtain ⟨q, hq, e⟩ := ih c hc
      exact ⟨q, List.mem_cons_of_mem _ hq, e⟩
  | hitB _ ih =>
    intro c hc
    rcases List.mem_cons.mp hc with rfl | hc
    · exact ⟨_, List.mem_cons_self, rfl⟩
    · obtain ⟨q, hq, e⟩ := ih c hc
      exact ⟨q, List.mem_cons_of_mem _ hq, e⟩
  | skip _ ih =>
    intro c hc
    rcases List.mem_cons.mp hc with rfl | hc
    · exact ⟨_, List.mem_cons_self, rfl⟩
    · obtain ⟨q, hq, e⟩ := ih c hc
      exact ⟨q, List.mem_cons_of_mem _ hq, e⟩
end
inductive Suf (as : List Nat) : List Nat → Prop
  | refl : Suf as as
  | cons {a : Nat} {l : List Nat} : Suf as l → Suf as (a :: l)
theorem Suf.mem {as l : List Nat} (h : Suf as l) : ∀ b ∈ as, b ∈ l := by
  induction h with
  | refl => exact fun _ h => h
  | cons _ ih => exact fun b hb => List.mem_cons_of_mem _ (ih b hb)
theorem NeAll.suf {d : Nat} {as l : List Nat} (h : NeAll d l) (s : Suf as l) : NeAll d as := fun b hb => h b (s.mem b hb)

def REnd2 (h₀ : Heap) (L I : Addr) (o : Obj) (g : Obj → Obj → List (Addr × Obj)) (as : List Nat) (y : Str) (m₀ : Str → Option Value) (P : Int → List Int → Prop) (s₁ s₂ : Shared) : Prop :=
  ∃ (h' : Heap) (tk : Nat) (m' : Str → Option Value) (c : Int) (tc : Tok) (pl : List Int) (vs : List Value) (n : Nat) (D : Addr) (ot oi : Obj) (v : Option Value), s₂ = { s₁ with heap := h', toks := tk } ∧ Fr h₀ L h' m' ∧ News h₀ L h' ((I, o) :: (D, listOf vs.toArray n) :: g ot oi) ∧ D ≠ I ∧ NeAll D as ∧ IntsAre vs pl ∧
    ot.data = .cell (some (.int c tc)) ∧ oi.data = .cell v ∧ m' y = some (.ref D) ∧ (∀ z, z ≠ y → m' z = m₀ z) ∧ P c pl
def RPost2 (h₀ : Heap) (L I : Addr) (o : Obj) (g : Obj → Obj → List (Addr × Obj)) (as : List Nat) (y : Str) (m₀ : Str → Option Value) (P : Int → List Int → Prop) (s₁ : Shared) (Q : Flow → Shared → Prop) (f : Flow) (s₂ : Shared) : Prop :=
  match f with
  | .ret v => Q (.ret v) s₂
  | .brk => Q .next s₂
  | _ => REnd2 h₀ L I o g as y m₀ P s₁ s₂
theorem REnd2.intro {h₀ : Heap} {L I : Addr} {o : Obj} {g : Obj → Obj → List (Addr × Obj)} {as : List Nat} {all : List (Addr × Obj)} {y : Str} {m₀ m' : Str → Option Value} {P : Int → List Int → Prop} {s₁ : Shared} {h' : Heap} {tk : Nat} {c : Int} {tc : Tok} {pl : List Int} {vs : List Value} {n : Nat} {D : Addr} {ot oi : Obj} {v : Option Value}
    (F : Fr h₀ L h' m') (N : News h₀ L h' all) (h2 : m' y = some (.ref D)) (hs : SubL ((I, o) :: (D, listOf vs.toArray n) :: g ot oi) all) (hD : D ≠ I) (hA : NeAll D as) (hi : IntsAre vs pl) (d1 : ot.data = .cell (some (.int c tc))) (d2 : oi.data = .cell v) (h3 : ∀ z, z ≠ y → m' z = m₀ z) (hP : P c pl) :
    REnd2 h₀ L I o g as y m₀ P s₁ { s₁ with heap := h', toks := tk } := ⟨h', tk, m', c, tc, pl, vs, n, D, ot, oi, v, rfl, F, fun p hp => N p (hs.mem p hp), hD, hA, hi, d1, d2, h2, h3, hP⟩
theorem y_eq {y : Str} {u m : Str → Option Value} {v : Value} (h1 : u y = some v) (h : ∀ z, z ≠ y → u z = m z) : (fun z => if z = y then some v else m z) = u := by
  funext z
  by_cases e : z = y
  · rw [if_pos e, e, h1]
  · rw [if_neg e, h z e]
section
variable {prog : Program} {w : World} {A : Around} {E : Value → Shared → Prop} {s : Shared} {env : Env} {h₀ : Heap} {body : List Stmt} {Q : Flow → Shared → Prop} {base own : List (Addr × Obj)}
theorem law_rangeT (y xt : Str) (rr : Int) {ct ci : Addr} {ot0 oi0 : Obj} {g : Obj → Obj → List (Addr × Obj)} {as : List Nat} {x : Str} {px : Pos} {r D0 : Addr} {a₀ b₀ c0 : Int} {t₀ u₀ v₀ t0 : Tok} {nn n0 : Nat} {m₀ : Str → Option Value} {vs0 : List Value} {pl0 : List Int} {vi0 : Option Value} (P : List Int → Int → List Int → Prop)
    (hh : A.handled = none) (hr : IsRange s.heap r a₀ b₀ 1 t₀ u₀ v₀) (hsmall : Builtin.Range.small a₀ b₀ 1 = true) (hn : Builtin.Range.rangeSize a₀ b₀ 1 = (nn : Int)) (F : Fr h₀ env.locals s.heap m₀) (N : News h₀ env.locals s.heap ((D0, listOf vs0.toArray n0) :: base)) (_e0 : a₀ = 256 - rr) (_e1 : env.cells.lookup xt = some ct) (_e2 : env.cells.lookup x = some ci)
    (T : Two ct ci ot0 oi0 own base g as) (hD0 : NeAll D0 as) (hi0 : IntsAre vs0 pl0) (d1 : ot0.data = .cell (some (.int c0 t0))) (d2 : oi0.data = .cell vi0) (h2 : m₀ y = some (.ref D0)) (hP : P [] c0 pl0)
    (turn : ∀ (pre : List Int) (k : Int) t (c : Int) tc (pl : List Int) (vs : List Value) n D ot oi v h tk (I : Addr) o, k = a₀ + (pre.length : Int) → pre.length < nn → P pre c pl → IntsAre vs pl → ot.data = .cell (some (.int c tc)) → oi.data = .cell v → NeAll I (D :: as) → LtAll I as → NeAll D as →
      Fr h₀ env.locals h (fun z => if z = y then some (.ref D) else m₀ z) → News h₀ env.locals h ((I, o) :: (D, listOf vs.toArray n) :: g ot oi) →
      wpAny (model prog w) A (assign (.Name x px) env (.int k t)) (fun _ s₃ => wpAny (model prog w) A (execs body env) (RPost2 h₀ env.locals I o g as y m₀ (P (pre ++ [k])) { s with heap := h, toks := tk } Q) E s₃) E { s with heap := h, toks := tk })
    (done : ∀ (c : Int) tc (pl : List Int) (vs : List Value) n D ot oi v h tk, P (rangeKs a₀ nn) c pl → IntsAre vs pl → ot.data = .cell (some (.int c tc)) → oi.data = .cell v → NeAll D as → Fr h₀ env.locals h (fun z => if z = y then some (.ref D) else m₀ z) → News h₀ env.locals h ((D, listOf vs.toArray n) :: g ot oi) → Q .next { s with heap := h, toks := tk }) :
    wpAny (model prog w) A (pyIter (.ref r)) (fun it s₂ => TurnsAt prog w A h₀ env (.Name x px) body Q E it s₂) E s := by
  refine wpAny_pyIter_range hr hsmall ?_
  have W : Walks prog w A s.heap.objs.size [s.heap.objs.size] [s.heap.objs.size] nn (fun i v => i < nn ∧ ∃ t, v = .int (a₀ + i * 1) t)
      (fun i h => IsRangeIter h s.heap.objs.size (a₀ + (i : Nat) * 1) ((nn : Int) - (i : Nat)) 1) := (Walks.range hh _ a₀ 1 nn).bound
  have hbase : ∀ p ∈ base, p.1 < s.heap.objs.size := fun p hp => Heap.lt_size (N p (List.mem_cons_of_mem _ hp)).1
  have hg : ∀ x y, ∀ p ∈ g x y, p.1 < s.heap.objs.size := fun x y p hp => by
    obtain ⟨q, hq, e⟩ := T.mem x y p hp
    rw [← e]; exact hbase q hq
  have has : ∀ c ∈ as, c < s.heap.objs.size := fun c hc => by
    obtain ⟨q, hq, e⟩ := T.adr c hc
    rw [← e]; exact hbase q hq
  let J : Nat → (Str → Option Value) → List (Addr × Obj) → Prop := fun i m₁ news₁ => ∃ (c : Int) (tc : Tok) (pl : List Int) (vs : List Value) (n : Nat) (D : Addr) (ot oi : Obj) (v : Option Value), news₁ = (D, listOf vs.toArray n) :: g ot oi ∧ IntsAre vs pl ∧ ot.data = .cell (some (.int c tc)) ∧ oi.data = .cell v ∧ NeAll D as ∧ m₁ y = some (.ref D) ∧ (∀ z, z ≠ y → m₁ z = m₀ z) ∧ P ((rangeKs a₀ nn).take i) c pl
  refine ⟨s.heap.objs.size, _, _, nn, _, _, _, m₀, (D0, listOf vs0.toArray n0) :: base, J, rfl, KTurns.ofWalks W (fun i v s Q E _ q => wpAny_pure q), ?_, ?_, ?_, (by show IsRangeIter _ _ _ _ _; rw [hn]; simpa using Heap.get?_push_size _ rfl), F.push _, (fun p hp => ⟨Heap.get?_push_of_some _ (N p hp).1, (N p hp).2⟩), ⟨c0, t0, pl0, vs0, n0, D0, ot0, oi0, vi0, by rw [T.eq], hi0, d1, d2, hD0, h2, fun _ _ => rfl, by simpa using hP⟩, ?_, ?_⟩
  · intro hm
    exact absurd F.ns.lt ((List.mem_singleton.mp hm) ▸ Nat.lt_irrefl _)
  · intro b hb
    rw [List.mem_singleton.mp hb]
    exact next_is_new F
  · intro p hp hI
    exact absurd (Heap.lt_size (N p hp).1) ((List.mem_singleton.mp hI) ▸ Nat.lt_irrefl _)
  · rintro i v m₁ news₁ hh' tk' own' _ ⟨hin, t, rfl⟩ ⟨c, tc, pl, vs, n, D, ot, oi, vi, rfl, hi, e1, e2, hDa, q2, q3, hP'⟩ hoff hown _ hall hst' F₁ N₁
    have hio : ∃ o, hh'.get? s.heap.objs.size = some o := ⟨_, hst'⟩
    obtain ⟨o, ho⟩ := hio
    have hio' : (s.heap.objs.size, o) ∈ own' := hall _ (List.mem_singleton.mpr rfl) (next_is_new F) o ho
    have hone := own_one (fun p hp => hown p hp) (fun b hb => .inl (List.mem_singleton.mp hb)) ho N₁
    have e1' : a₀ + (i : Int) * 1 = a₀ + (i : Int) := by omega
    have hk' : (rangeKs a₀ nn)[i]? = some (a₀ + (i : Int)) := by simp [rangeKs, hin]
    have hs : (rangeKs a₀ nn).take (i + 1) = (rangeKs a₀ nn).take i ++ [a₀ + (i : Int)] := by simp [List.take_add_one, hk']
    have hlen : ((rangeKs a₀ nn).take i).length = i := by rw [List.length_take, rangeKs_length]; omega
    have F₂ : Fr h₀ env.locals hh' (fun z => if z = y then some (Value.ref D) else m₀ z) := by
      rw [y_eq q2 q3]; exact F₁
    rw [e1']
    have hDI : D ≠ s.heap.objs.size := fun e => hoff _ List.mem_cons_self (List.mem_singleton.mpr e)
    have X := turn ((rangeKs a₀ nn).take i) (a₀ + (i : Int)) t c tc pl vs n D ot oi vi hh' tk' s.heap.objs.size o (by rw [hlen]) (by rw [hlen]; exact hin) hP' hi e1 e2
      (.cons hDI fun b hb => Nat.ne_of_lt (has b hb)) has hDa F₂ (news_one hio' N₁)
    refine wpAny_mono X (fun _ s₃ X₃ => wpAny_mono X₃ (fun f s₂ p => ?_) fun _ _ e => e) fun _ _ e => e
    have fin : REnd2 h₀ env.locals s.heap.objs.size o g as y m₀ (P ((rangeKs a₀ nn).take i ++ [a₀ + (i : Int)])) { s with heap := hh', toks := tk' } s₂ → LoopStepU h₀ env.locals [s.heap.objs.size] own' (J (i + 1)) { s with heap := hh', toks := tk' } .next s₂ := by
      rintro ⟨h', tk, m', c', tc', pl', vs', n', D', ot', oi', v', e, F', N', hD, hDa', hi', z1, z2, z3, z4, hP2⟩
      refine ⟨rfl, h', tk, m', (D', listOf vs'.toArray n') :: g ot' oi', e, F', fun p hp => N' p (need_one hone (fun q hq => hq) p hp), ?_, c', tc', pl', vs', n', D', ot', oi', v', rfl, hi', z1, z2, hDa', z3, z4, ?_⟩
      · intro p hp hI
        have hI' := List.mem_singleton.mp hI
        rcases List.mem_cons.mp hp with rfl | hp
        · exact hD hI'
        · exact Nat.ne_of_lt (hg _ _ p hp) hI'
      · rw [hs]; exact hP2
    cases f with
    | ret v => exact .ret p
    | brk => exact .brk p
    | next => exact .next (fin p)
    | cont => exact .cont (fin p)
  · rintro h' tk m' news' F' N' _ ⟨c, tc, pl, vs, n, D, ot, oi, vi, rfl, hi, e1, e2, hDa, q2, q3, hP'⟩
    have hl : (rangeKs a₀ nn).take nn = rangeKs a₀ nn := List.take_of_length_le (Nat.le_of_eq (rangeKs_length _ _))
    rw [hl] at hP'
    refine done c tc pl vs n D ot oi vi h' tk hP' hi e1 e2 hDa ?_ N'
    rw [y_eq q2 q3]; exact F'
theorem law_rangeU (y xt : Str) (rr : Int) {ct ci : Addr} {ot0 oi0 : Obj} {g : Obj → Obj → List (Addr × Obj)} {as : List Nat} {x : Str} {px : Pos} {r D0 : Addr} {a₀ b₀ c0 : Int} {t₀ u₀ v₀ t0 : Tok} {nn n0 : Nat} {m₀ : Str → Option Value} {vs0 : List Value} {pl0 : List Int} {vi0 : Option Value} (P : Int → List Int → Int → List Int → Prop)
    (hh : A.handled = none) (hr : IsRange s.heap r a₀ b₀ 1 t₀ u₀ v₀) (hsmall : Builtin.Range.small a₀ b₀ 1 = true) (hn : Builtin.Range.rangeSize a₀ b₀ 1 = (nn : Int)) (F : Fr h₀ env.locals s.heap m₀) (N : News h₀ env.locals s.heap ((D0, listOf vs0.toArray n0) :: base)) (_e0 : a₀ = 256 - rr) (_e1 : env.cells.lookup xt = some ct) (_e2 : env.cells.lookup x = some ci)
    (T : Two ct ci ot0 oi0 own base g as) (hD0 : NeAll D0 as) (hi0 : IntsAre vs0 pl0) (d1 : ot0.data = .cell (some (.int c0 t0))) (d2 : oi0.data = .cell vi0) (h2 : m₀ y = some (.ref D0)) (hP : P rr [] c0 pl0)
    (turn : ∀ (pre : List Int) (k : Int) t (c : Int) tc (pl : List Int) (vs : List Value) n D ot oi v h tk (I : Addr) o, k = a₀ + (pre.length : Int) → pre.length < nn → P rr pre c pl → IntsAre vs pl → ot.data = .cell (some (.int c tc)) → oi.data = .cell v → NeAll I (D :: as) → LtAll I as → NeAll D as →
      Fr h₀ env.locals h (fun z => if z = y then some (.ref D) else m₀ z) → News h₀ env.locals h ((I, o) :: (D, listOf vs.toArray n) :: g ot oi) →
      wpAny (model prog w) A (assign (.Name x px) env (.int k t)) (fun _ s₃ => wpAny (model prog w) A (execs body env) (RPost2 h₀ env.locals I o g as y m₀ (P rr (pre ++ [k])) { s with heap := h, toks := tk } Q) E s₃) E { s with heap := h, toks := tk })
    (done : ∀ (c : Int) tc (pl : List Int) (vs : List Value) n D ot oi v h tk, P rr (rangeKs a₀ nn) c pl → IntsAre vs pl → ot.data = .cell (some (.int c tc)) → oi.data = .cell v → NeAll D as → Fr h₀ env.locals h (fun z => if z = y then some (.ref D) else m₀ z) → News h₀ env.locals h ((D, listOf vs.toArray n) :: g ot oi) → Q .next { s with heap := h, toks := tk }) :
    wpAny (model prog w) A (pyIter (.ref r)) (fun it s₂ => TurnsAt prog w A h₀ env (.Name x px) body Q E it s₂) E s :=
  law_rangeT y xt rr (P rr) hh hr hsmall hn F N _e0 _e1 _e2 T hD0 hi0 d1 d2 h2 hP turn done
end
/-- a while whose letter lies in a cell -/
def WEnd (h₀ : Heap) (L : Addr) (g : Obj → List (Addr × Obj)) (m₀ : Str → Option Value) (P : Int → Prop) (μ : Int → Nat) (c : Int) (s₁ s₂ : Shared) : Prop :=
  ∃ (h' : Heap) (tk : Nat) (c' : Int) (tc : Tok) (o : Obj), s₂ = { s₁ with heap := h', toks := tk } ∧ Fr h₀ L h' m₀ ∧ News h₀ L h' (g o) ∧ o.data = .cell (some (.int c' tc)) ∧ P c' ∧ μ c' < μ c
def WPost (h₀ : Heap) (L : Addr) (g : Obj → List (Addr × Obj)) (m₀ : Str → Option Value) (P : Int → Prop) (μ : Int → Nat) (c : Int) (s₁ : Shared) (Q : Flow → Shared → Prop) (f : Flow) (s₂ : Shared) : Prop :=
  match f with
  | .ret v => Q (.ret v) s₂
  | .brk => Q .next s₂
  | _ => WEnd h₀ L g m₀ P μ c s₁ s₂
theorem WEnd.intro {h₀ : Heap} {L : Addr} {g : Obj → List (Addr × Obj)} {all : List (Addr × Obj)} {m₀ : Str → Option Value} {P : Int → Prop} {μ : Int → Nat} {c : Int} {s₁ : Shared} {h' : Heap} {tk : Nat} {c' : Int} {tc : Tok} {o : Obj}
    (F : Fr h₀ L h' m₀) (N : News h₀ L h' all) (hs : SubL (g o) all) (d : o.data = .cell (some (.int c' tc))) (hP : P c') (hm : μ c' < μ c) : WEnd h₀ L g m₀ P μ c s₁ { s₁ with heap := h', toks := tk } :=
  ⟨h', tk, c', tc, o, rfl, F, fun p hp => N p (hs.mem p hp), d, hP, hm⟩
theorem PosF.eq {d : Addr} {o : Obj} {own l : List (Addr × Obj)} {g : Obj → List (Addr × Obj)} {as : List Nat} (T : PosF d o own l g as) : l = g o := by
  induction T with
  | head => rfl
  | tail _ ih => rw [ih]
section
variable {prog : Program} {w : World} {A : Around} {E : Value → Shared → Prop} {s : Shared} {env : Env} {h₀ : Heap} {L : Addr} {body : List Stmt} {Q : Flow → Shared → Prop} {base own : List (Addr × Obj)}
theorem wh_cell (xt : Str) {test : Expr} {pos : Pos} {ct : Addr} {o0 : Obj} {g : Obj → List (Addr × Obj)} {as : List Nat} {m₀ : Str → Option Value} {c0 : Int} {t0 : Tok} (P : Int → Prop) (μ : Int → Nat)
    (F : Fr h₀ L s.heap m₀) (N : News h₀ L s.heap base) (_e1 : env.cells.lookup xt = some ct) (U : PosF ct o0 own base g as) (hd : o0.data = .cell (some (.int c0 t0))) (hP : P c0)
    (turn : ∀ (c : Int) tc o h tk, o.data = .cell (some (.int c tc)) → P c → Fr h₀ L h m₀ → News h₀ L h (g o) →
      wpAny (model prog w) A (isTrue test env (eval test env)) (fun b s₂ => if b = true then wpAny (model prog w) A (execs body env) (WPost h₀ L g m₀ P μ c { s with heap := h, toks := tk } Q) E s₂ else Q .next s₂) E { s with heap := h, toks := tk })
    (hE : PassesOwn (model prog w) A env E := by passes_own) :
    wpAny (model prog w) A (exec (.While test body [] pos) env) Q E s := by
  refine While_inv2 (fun n m nx => ∃ (c : Int) (tc : Tok) (o : Obj), m = m₀ ∧ nx = g o ∧ o.data = .cell (some (.int c tc)) ∧ P c ∧ μ c = n) F N ⟨c0, t0, o0, rfl, U.eq, hd, hP, rfl⟩ ?_ hE
  rintro n m₁ nx h tk F₁ N₁ ⟨c, tc, o, rfl, rfl, hd', hP', rfl⟩
  refine wpAny_mono (turn c tc o h tk hd' hP' F₁ N₁) (fun b s₂ p => ?_) fun _ _ x => x
  cases b with
  | false => simpa using p
  | true =>
    simp only [if_true] at p ⊢
    refine wpAny_mono p (fun f s₃ q => ?_) fun _ _ x => x
    have fin : WEnd h₀ L g m₁ P μ c { s with heap := h, toks := tk } s₃ → ∃ h' tk' m₂ news₂ n', s₃ = { s with heap := h', toks := tk' } ∧ Fr h₀ L h' m₂ ∧ News h₀ L h' news₂ ∧ n' < μ c ∧ (∃ (c : Int) (tc : Tok) (o : Obj), m₂ = m₁ ∧ news₂ = g o ∧ o.data = .cell (some (.int c tc)) ∧ P c ∧ μ c = n') := by
      rintro ⟨h', tk', c', tc', o', e, F', N', d', p', m'⟩
      exact ⟨h', tk', m₁, g o', μ c', e, F', N', m', c', tc', o', rfl, rfl, d', p', rfl⟩
    cases f with
    | ret v => exact q
    | brk => exact q
    | next => exact fin q
    | cont => exact fin q
end
theorem LawW.turn3 {ob : List Int} {n : Nat} {r : Int} {pre : List Int} {tk i t : Int} {pl : List Int} (W : LawW ob n r pre tk pl) (R : WhW ob n i tk t) (hi : i = 256 - r + pre.length) (hn : ¬ ob.getD t.toNat 0 > i) :
    LawW ob n r (pre ++ [i]) (t + 1) (pl.map (fun p => if p = ob.getD t.toNat 0 then i else p) ++ [ob.getD t.toNat 0]) := W.turn R hi rfl (by omega)
theorem row_lt {ro : List Int} {p : Int} (h : ro.length = 256) (hp : p < ((256 : Nat) : Int)) : p < ro.length := by rw [h]; exact hp
theorem row63 {p : Int} (hp : p < ((256 : Nat) : Int)) : p < 2 ^ 63 := by omega
/-- where a place goes when the octet is taken -/
def gOf {ob : List Int} {n : Nat} {i t0 t : Int} (_R : WhW ob n i t0 t) : Int → Int := fun p => if p = ob.getD t.toNat 0 then i else p
theorem gOf_pos {ob : List Int} {n : Nat} {i t0 t k : Int} (R : WhW ob n i t0 t) (h : k = ob.getD t.toNat 0) : gOf R k = i := if_pos h
theorem gOf_neg {ob : List Int} {n : Nat} {i t0 t k : Int} (R : WhW ob n i t0 t) (h : ¬ k = ob.getD t.toNat 0) : gOf R k = k := if_neg h
theorem law_size {ob : List Int} {n : Nat} {r : Int} {pre : List Int} {tk : Int} {pl : List Int} {vs : List Value} (hi : IntsAre vs pl) (W : LawW ob n r pre tk pl) (hl : pre.length < rn r) : vs.toArray.size ≤ sizeLine := by
  have h := lenle_map W hl (g := fun x => x)
  rw [List.length_map] at h
  rw [List.size_toArray, hi.length, sizeLine_eq]
  omega
/-- an ordered part of a ledger -/
inductive SubO : List (Addr × Obj) → List (Addr × Obj) → Prop
  | nil {l : List (Addr × Obj)} : SubO [] l
  | keep {p : Addr × Obj} {r l : List (Addr × Obj)} : SubO r l → SubO (p :: r) (p :: l)
  | skip {q : Addr × Obj} {r l : List (Addr × Obj)} : SubO r l → SubO r (q :: l)
theorem SubO.mem {r l : List (Addr × Obj)} (h : SubO r l) : ∀ p ∈ r, p ∈ l := by
  induction h with
  | nil => exact fun _ h => nomatch h
  | keep _ ih =>
    intro p hp
    rcases List.mem_cons.mp hp with rfl | hp
    · exact List.mem_cons_self
    · exact List.mem_cons_of_mem _ (ih p hp)
  | skip _ ih => exact fun p hp => List.mem_cons_of_mem _ (ih p hp)
theorem subL_mem : ∀ {r l : List (Addr × Obj)}, (∀ p ∈ r, p ∈ l) → SubL r l
  | [], _, _ => trivial
  | p :: _, _, h => ⟨h p List.mem_cons_self, subL_mem fun q hq => h q (List.mem_cons_of_mem _ hq)⟩
theorem subL_of {r l : List (Addr × Obj)} (h : SubO r l) : SubL r l := subL_mem h.mem
theorem subL_cons {p : Addr × Obj} {r l : List (Addr × Obj)} (h1 : p ∈ l) (h : SubL r l) : SubL (p :: r) l := ⟨h1, h⟩
inductive OffAll (as : List Nat) : List (Addr × Obj) → Prop
  | nil : OffAll as []
  | cons {q : Addr × Obj} {r : List (Addr × Obj)} : NeAll q.1 as → OffAll as r → OffAll as (q :: r)
theorem OffAll.at {as : List Nat} {its : List (Addr × Obj)} (h : OffAll as its) : ∀ q ∈ its, NeAll q.1 as := by
  induction h with
  | nil => exact fun _ h => nomatch h
  | cons h1 _ ih =>
    intro q hq
    rcases List.mem_cons.mp hq with rfl | hq
    · exact h1
    · exact ih q hq
theorem offW1_of {p : Addr × Obj} : ∀ {its : List (Addr × Obj)}, (∀ q ∈ its, p.1 ≠ q.1) → OffW1 p its
  | [], _ => trivial
  | q :: _, h => ⟨.inl (h q List.mem_cons_self), offW1_of fun r hr => h r (List.mem_cons_of_mem _ hr)⟩
theorem offW_all {its : List (Addr × Obj)} : ∀ {l : List (Addr × Obj)}, (∀ p ∈ l, ∀ q ∈ its, p.1 ≠ q.1) → OffW its l
  | [], _ => trivial
  | p :: _, h => ⟨offW1_of (h p List.mem_cons_self), offW_all fun q hq => h q (List.mem_cons_of_mem _ hq)⟩
theorem offW_of {its l : List (Addr × Obj)} {as : List Nat} (t : Lit [] l as) (h : OffAll as its) : OffW its l :=
  offW_all fun p hp q hq => Lit.all t (d := q.1) (fun _ h => nomatch h) (h.at q hq) p hp
theorem SubO.refl : ∀ {l : List (Addr × Obj)}, SubO l l
  | [] => .nil
  | _ :: _ => .keep SubO.refl
abbrev LawP (ob : List Int) : Int → List Int → Int → List Int → Prop := fun r pre c pl => LawW ob (ob.length - 80) r pre c pl
abbrev WhP (ob : List Int) (i t0 : Int) : Int → Prop := fun t => WhW ob (ob.length - 80) i t0 t
end Mine
end
section
namespace Mine
/-- the goal's answer under a short name: what the walk must show at the block's end is kept in one fact, and the goals between are small -/
def AbsQ {α : Type} (Q0 Q : α → Shared → Prop) : Prop := Q0 = Q
section
variable {α : Type} {M : Model} {A : Around} {t : Sem α} {Q0 Q : α → Shared → Prop} {E : Value → Shared → Prop} {s : Shared}
theorem abs_chk (_h : AbsQ Q0 Q) (H : wpAny M A t Q E s) : wpAny M A t Q E s := H
theorem abs_QE (H : ∀ Q', AbsQ Q Q' → wpAny M A t Q' (fun _ _ => False) s) : wpAny M A t Q E s :=
  wpAny_mono (H Q rfl) (fun _ _ x => x) (fun _ _ x => x.elim)
theorem of_abs {v : α} (h : AbsQ Q0 Q) (H : Q0 v s) : Q v s := by
  unfold AbsQ at h
  rw [← h]; exact H
theorem gen_tk {h : Heap} {g : Array GenState} {d : Drawn} {k : Nat} {o : OsState} (H : ∀ k', wpAny M A t Q E ⟨h, g, d, k', o⟩) : wpAny M A t Q E ⟨h, g, d, k, o⟩ := H k
end
end Mine
namespace Mine
/-- the ledger without the entries that are not asked again -/
theorem News.prune {h₀ h : Heap} {L : Addr} {r l : List (Addr × Obj)} (N : News h₀ L h l) (s : SubO r l) : News h₀ L h r := fun p hp => N p (s.mem p hp)
-- k_lt without a nested by
theorem ltAll_litK {own l : List (Addr × Obj)} {as : List Nat} {d : Addr} {G : Prop} (h : ∀ p ∈ l, p.1 < d) (t : Lit own l as) (k : LtAll d as → G) : G := k (ltAll_lit h t)
theorem ltUpK {d x : Nat} {l : List Nat} {G : Prop} (h1 : d < x) (h : LtAll d l) (k : LtAll x (d :: l) → G) : G := k (LtAll.up h1 h)
-- membership, four entries at a time (under with_reducible)
theorem mem0 {α : Type} {a : α} {l : List α} : a ∈ a :: l := .head _
theorem mem1 {α : Type} {a x : α} {l : List α} : a ∈ x :: a :: l := .tail _ (.head _)
theorem mem2 {α : Type} {a x y : α} {l : List α} : a ∈ x :: y :: a :: l := .tail _ (.tail _ (.head _))
theorem mem3 {α : Type} {a x y z : α} {l : List α} : a ∈ x :: y :: z :: a :: l := .tail _ (.tail _ (.tail _ (.head _)))
theorem mem4 {α : Type} {a x y z u : α} {l : List α} (h : a ∈ l) : a ∈ x :: y :: z :: u :: l := .tail _ (.tail _ (.tail _ (.tail _ h)))
theorem codeRec_newsQ {h₀ h : Heap} {L c : Addr} {oc : Obj} {vs : Array Value} {qual q : Str} {t : Tok} {news : List (Addr × Obj)} (N : News h₀ L h news) (hm : (c, oc) ∈ news) (hd : oc.data = .fields vs)
    (hv : vs[1]? = some (.str q t)) (hq : q = qual) : h.CodeRec (.ref c) qual := codeRec_news N hm hd (hq ▸ hv)
end Mine
end
open Mine
local macro_rules | `(tactic| walk_at $s:str) => `(tactic| k_extra $s)
local macro_rules | `(tactic| k_lt $h:ident) => `(tactic| ((refine' ltAll_litK $h ?kltl ?_; (case kltl => k_extra "LIT")); clear $h; intro $h:ident; (try dsimp only at $h:ident)))
local macro_rules | `(tactic| k_lt2 $h:ident) => `(tactic| first | (refine' ltUpK $h ?kltu ?_; (case kltu => with_reducible assumption); clear $h; intro $h:ident) | (replace $h := ltN $h))
local macro_rules | `(tactic| k_upd) => `(tactic| k_extra "T_K_UPD")
local macro_rules | `(tactic| k_updF) => `(tactic| k_extra "T_K_UPDF")
local macro_rules | `(tactic| k_ne) => `(tactic| k_extra "T_K_NE")
local macro_rules | `(tactic| lcg_off) => `(tactic| k_extra "T_LCG_OFF")
local macro_rules | `(tactic| k_subL) => `(tactic| k_extra "T_K_SUBL")
local macro_rules | `(tactic| ktu_offL) => `(tactic| k_extra "T_KTU_OFFL")
local macro_rules | `(tactic| kst_allIn) => `(tactic| k_extra "T_KST_ALLIN")
local macro_rules | `(tactic| k_in) => `(tactic| k_extra "T_K_IN")
local macro_rules | `(tactic| k_mem) => `(tactic| k_extra "T_K_MEM")
local macro_rules | `(tactic| k_inst) => `(tactic| k_extra "T_K_INST")
namespace Mine
theorem hd.tw10024716035694756283 : True := trivial
theorem hd.tw10030107230732127627 : True := trivial
theorem hd.tw100483095206116625 : True := trivial
theorem hd.tw1005483496087919985 : True := trivial
theorem hd.tw10098268173465320503 : True := trivial
theorem hd.tw10111801491309104144 : True := trivial
theorem hd.tw10117440562283002822 : True := trivial
theorem hd.tw1013155817946168525 : True := trivial
theorem hd.tw10170382586518783626 : True := trivial
theorem hd.tw10203026625882799534 : True := trivial
theorem hd.tw10246146449241189800 : True := trivial
theorem hd.tw10258999931320997221 : True := trivial
theorem hd.tw10264135568141901301 : True := trivial
theorem hd.tw10292235466723388172 : True := trivial
theorem hd.tw1033889070964956483 : True := trivial
theorem hd.tw10403243965636340961 : True := trivial
theorem hd.tw10404513684093684653 : True := trivial
theorem hd.tw10409065472786389249 : True := trivial
theorem hd.tw10424393626065333798 : True := trivial
theorem hd.tw1043307727769730188 : True := trivial
theorem hd.tw10458740792067480800 : True := trivial
theorem hd.tw10465514089279642386 : True := trivial
theorem hd.tw10491609206876299696 : True := trivial
theorem hd.tw10583446816852156582 : True := trivial
theorem hd.tw10601615944963115059 : True := trivial
theorem hd.tw10603584201595350602 : True := trivial
theorem hd.tw10614716105012338702 : True := trivial
theorem hd.tw10678649693572172417 : True := trivial
theorem hd.tw10727248033764811480 : True := trivial
theorem hd.tw10738003575532504788 : True := trivial
theorem hd.tw10743916045514856203 : True := trivial
theorem hd.tw10752148897807903841 : True := trivial
theorem hd.tw10772546034069785438 : True := trivial
theorem hd.tw10781468475247234061 : True := trivial
theorem hd.tw10784824025267889561 : True := trivial
theorem hd.tw10788059911547816233 : True := trivial
theorem hd.tw10792051664901133789 : True := trivial
theorem hd.tw10806950440038215891 : True := trivial
theorem hd.tw10844753989422098599 : True := trivial
theorem hd.tw10847404155465417027 : True := trivial
theorem hd.tw10879034167726328663 : True := trivial
theorem hd.tw1088296927520436173 : True := trivial
theorem hd.tw10905682514733158466 : True := trivial
theorem hd.tw10919297434634762262 : True := trivial
theorem hd.tw10949625832625181284 : True := trivial
theorem hd.tw1097998534492414930 : True := trivial
theorem hd.tw11011131195910976488 : True := trivial
theorem hd.tw11032806212648032379 : True := trivial
theorem hd.tw11034497122203965937 : True := trivial
theorem hd.tw11054480109507316185 : True := trivial
theorem hd.tw11117797201346649052 : True := trivial
theorem hd.tw11128854368766332075 : True := trivial
theorem hd.tw11136197038861592535 : True := trivial
theorem hd.tw11151547217846952531 : True := trivial
theorem hd.tw11162318198679636149 : True := trivial
theorem hd.tw11210553801493137410 : True := trivial
theorem hd.tw11213053971927718326 : True := trivial
theorem hd.tw11232374478483605306 : True := trivial
theorem hd.tw11249132867342737325 : True := trivial
theorem hd.tw11251137523995926341 : True := trivial
theorem hd.tw11256106856564762260 : True := trivial
theorem hd.tw1129884963351977449 : True := trivial
theorem hd.tw11319097763535126812 : True := trivial
theorem hd.tw11319892378374348655 : True := trivial
theorem hd.tw11364443708160879001 : True := trivial
theorem hd.tw11375277706881905925 : True := trivial
theorem hd.tw11389486352061984695 : True := trivial
theorem hd.tw11399449904127653305 : True := trivial
theorem hd.tw11402939732021071671 : True := trivial
theorem hd.tw11465210709893060100 : True := trivial
theorem hd.tw1147470481896660410 : True := trivial
theorem hd.tw11513968764499736323 : True := trivial
theorem hd.tw11551083187376567056 : True := trivial
theorem hd.tw11587034568685482758 : True := trivial
theorem hd.tw11631869004601391166 : True := trivial
theorem hd.tw11631947586910100387 : True := trivial
theorem hd.tw11663481321943121269 : True := trivial
theorem hd.tw11672842613191775419 : True := trivial
theorem hd.tw11709330566771433103 : True := trivial
theorem hd.tw11713075325732132258 : True := trivial
theorem hd.tw11754176132448286083 : True := trivial
theorem hd.tw11905163887095721015 : True := trivial
theorem hd.tw11912922877643110818 : True := trivial
theorem hd.tw11917015161858427179 : True := trivial
theorem hd.tw1194904439430580092 : True := trivial
theorem hd.tw11953376511379268794 : True := trivial
theorem hd.tw11968265576560266318 : True := trivial
theorem hd.tw1197925565968671727 : True := trivial
theorem hd.tw12023040214023829324 : True := trivial
theorem hd.tw12058812876911547015 : True := trivial
theorem hd.tw12070051907170230399 : True := trivial
theorem hd.tw12070654863422294720 : True := trivial
theorem hd.tw12092154237167983948 : True := trivial
theorem hd.tw12112201142124510154 : True := trivial
theorem hd.tw12113243949977362033 : True := trivial
theorem hd.tw12131494931117144662 : True := trivial
theorem hd.tw12173100003817136821 : True := trivial
theorem hd.tw1222794163293265305 : True := trivial
theorem hd.tw12271959270614036898 : True := trivial
theorem hd.tw12337632362937886050 : True := trivial
theorem hd.tw12350410155528471161 : True := trivial
theorem hd.tw12364972598781006883 : True := trivial
theorem hd.tw12394076208661396346 : True := trivial
theorem hd.tw12399718760709695909 : True := trivial
theorem hd.tw12414669353804360901 : True := trivial
theorem hd.tw12459740579856956213 : True := trivial
theorem hd.tw12466765086073231767 : True := trivial
theorem hd.tw12487502673411948298 : True := trivial
theorem hd.tw12521463284412890351 : True := trivial
theorem hd.tw12575139184659369484 : True := trivial
theorem hd.tw12590977762386282803 : True := trivial
theorem hd.tw12602439190401603521 : True := trivial
theorem hd.tw12611767792052310623 : True := trivial
theorem hd.tw12614811148066621264 : True := trivial
theorem hd.tw12629568148972539762 : True := trivial
theorem hd.tw12647368939536790636 : True := trivial
theorem hd.tw12659318050587179527 : True := trivial
theorem hd.tw12685813987229840507 : True := trivial
theorem hd.tw12736428759040340287 : True := trivial
theorem hd.tw12744807935193187038 : True := trivial
theorem hd.tw12832683148521936107 : True := trivial
theorem hd.tw128412058910260475 : True := trivial
theorem hd.tw12870888531099404533 : True := trivial
theorem hd.tw12901994302517312135 : True := trivial
theorem hd.tw12936449754285732098 : True := trivial
theorem hd.tw12940713784782232206 : True := trivial
theorem hd.tw12949589719889679912 : True := trivial
theorem hd.tw12952509933414984302 : True := trivial
theorem hd.tw1299046323782801668 : True := trivial
theorem hd.tw12994019391074448376 : True := trivial
theorem hd.tw13038990169509382042 : True := trivial
theorem hd.tw13047593935725612058 : True := trivial
theorem hd.tw13122850982685727845 : True := trivial
theorem hd.tw13132618709999183898 : True := trivial
theorem hd.tw13181700845877081190 : True := trivial
theorem hd.tw13217827037086042188 : True := trivial
theorem hd.tw13220430256171166289 : True := trivial
theorem hd.tw13225837485096350037 : True := trivial
theorem hd.tw13267510147771200024 : True := trivial
theorem hd.tw13277076834127875243 : True := trivial
theorem hd.tw13280443560766958183 : True := trivial
theorem hd.tw13285133528070534704 : True := trivial
theorem hd.tw13289513938125300765 : True := trivial
theorem hd.tw13293453174229064190 : True := trivial
theorem hd.tw1331086792558400476 : True := trivial
theorem hd.tw13315533130655954831 : True := trivial
theorem hd.tw13321331477185743149 : True := trivial
theorem hd.tw13322179722446271537 : True := trivial
theorem hd.tw13330244855972007585 : True := trivial
theorem hd.tw13342606739435360313 : True := trivial
theorem hd.tw13363553139645760527 : True := trivial
theorem hd.tw13365295217650922812 : True := trivial
theorem hd.tw13372043803930879067 : True := trivial
theorem hd.tw13431754692932380062 : True := trivial
theorem hd.tw13466754112058979494 : True := trivial
theorem hd.tw13483081372092288885 : True := trivial
theorem hd.tw13518370688599389936 : True := trivial
theorem hd.tw13531707123254989501 : True := trivial
theorem hd.tw13532847315355080253 : True := trivial
theorem hd.tw13566260322249332789 : True := trivial
theorem hd.tw1359830224848277088 : True := trivial
theorem hd.tw13609717118414637909 : True := trivial
theorem hd.tw13619402905963910902 : True := trivial
theorem hd.tw13638418597567726942 : True := trivial
theorem hd.tw13642289790063256904 : True := trivial
theorem hd.tw13770079208771991547 : True := trivial
theorem hd.tw13783031573616600631 : True := trivial
theorem hd.tw13788691991788022840 : True := trivial
theorem hd.tw13790719812936386609 : True := trivial
theorem hd.tw13828106393651249627 : True := trivial
theorem hd.tw13855946660403688772 : True := trivial
theorem hd.tw13866372431405929976 : True := trivial
theorem hd.tw13893168526513508166 : True := trivial
theorem hd.tw13903934854276604550 : True := trivial
theorem hd.tw13919464512627920130 : True := trivial
theorem hd.tw13929354066492186541 : True := trivial
theorem hd.tw13931416462566266981 : True := trivial
theorem hd.tw13994979335412520660 : True := trivial
theorem hd.tw14055545924929928160 : True := trivial
theorem hd.tw14060154772996877548 : True := trivial
theorem hd.tw14103535550066685397 : True := trivial
theorem hd.tw1413172679324656950 : True := trivial
theorem hd.tw14137390275340422267 : True := trivial
theorem hd.tw14176624398918483544 : True := trivial
theorem hd.tw1425423193147277237 : True := trivial
theorem hd.tw14294001040229213422 : True := trivial
theorem hd.tw14353793391729792155 : True := trivial
theorem hd.tw1439246655266547700 : True := trivial
theorem hd.tw14400467628812073631 : True := trivial
theorem hd.tw14438451200097066615 : True := trivial
theorem hd.tw14439243815434019604 : True := trivial
theorem hd.tw14478148883734587675 : True := trivial
theorem hd.tw14492701947808656938 : True := trivial
theorem hd.tw1452849714261714991 : True := trivial
theorem hd.tw14553816603554493358 : True := trivial
theorem hd.tw14560493823538711346 : True := trivial
theorem hd.tw14567429538950270057 : True := trivial
theorem hd.tw14598272352848978880 : True := trivial
theorem hd.tw14620637471214046174 : True := trivial
theorem hd.tw14667805832236412624 : True := trivial
theorem hd.tw14685462170515437407 : True := trivial
theorem hd.tw14705683404202351889 : True := trivial
theorem hd.tw14745743045033390146 : True := trivial
theorem hd.tw14768889098011018680 : True := trivial
theorem hd.tw14772383043592177042 : True := trivial
theorem hd.tw14859038896228082724 : True := trivial
theorem hd.tw14892549342360969540 : True := trivial
theorem hd.tw14896477498954680388 : True := trivial
theorem hd.tw14906377314874228009 : True := trivial
theorem hd.tw14960593345356199642 : True := trivial
theorem hd.tw14984183105004643987 : True := trivial
theorem hd.tw14991384322417631237 : True := trivial
theorem hd.tw15042006015671813226 : True := trivial
theorem hd.tw15043168886218598503 : True := trivial
theorem hd.tw15048261121198461528 : True := trivial
theorem hd.tw15083628210047938546 : True := trivial
theorem hd.tw15089522573102190283 : True := trivial
theorem hd.tw15103106377680225435 : True := trivial
theorem hd.tw15152743547302097792 : True := trivial
theorem hd.tw15166520500009309586 : True := trivial
theorem hd.tw15179676742415161110 : True := trivial
theorem hd.tw15207398651663016943 : True := trivial
theorem hd.tw15213948185873263833 : True := trivial
theorem hd.tw15220180469806662145 : True := trivial
theorem hd.tw15279998641719260112 : True := trivial
theorem hd.tw15344866539931968096 : True := trivial
theorem hd.tw15367242080415987702 : True := trivial
theorem hd.tw15368132723985388332 : True := trivial
theorem hd.tw15411387601460861337 : True := trivial
theorem hd.tw15422856539912107476 : True := trivial
theorem hd.tw15463257786427224491 : True := trivial
theorem hd.tw15508949281206285077 : True := trivial
theorem hd.tw15527848837575444561 : True := trivial
theorem hd.tw15529170255622000948 : True := trivial
theorem hd.tw15578025631644234493 : True := trivial
theorem hd.tw15595854959937240912 : True := trivial
theorem hd.tw15610959940260225430 : True := trivial
theorem hd.tw15615420239508185596 : True := trivial
theorem hd.tw15615537253650120727 : True := trivial
theorem hd.tw15616948245753086127 : True := trivial
theorem hd.tw1563692795949630186 : True := trivial
theorem hd.tw15642763164714097627 : True := trivial
theorem hd.tw15643275761693703936 : True := trivial
theorem hd.tw15675198926951892251 : True := trivial
theorem hd.tw15683763237869141255 : True := trivial
theorem hd.tw15687388767607454252 : True := trivial
theorem hd.tw15759970867653108152 : True := trivial
theorem hd.tw1580110805410547442 : True := trivial
theorem hd.tw15813434630575017362 : True := trivial
theorem hd.tw15833661619300960221 : True := trivial
theorem hd.tw15852365999677673905 : True := trivial
theorem hd.tw1588505670450824345 : True := trivial
theorem hd.tw15910714762333108613 : True := trivial
theorem hd.tw15946388913382835224 : True := trivial
theorem hd.tw15967140613478806237 : True := trivial
theorem hd.tw15987713032478767096 : True := trivial
theorem hd.tw15992342658441690333 : True := trivial
theorem hd.tw1600037746751723098 : True := trivial
theorem hd.tw16007149819294483003 : True := trivial
theorem hd.tw16011055738799735888 : True := trivial
theorem hd.tw16027967260591485269 : True := trivial
theorem hd.tw16029623286316568529 : True := trivial
theorem hd.tw16037735763661986305 : True := trivial
theorem hd.tw16053994301053490033 : True := trivial
theorem hd.tw16064382804478563927 : True := trivial
theorem hd.tw16091413853298234908 : True := trivial
theorem hd.tw1610171440888473627 : True := trivial
theorem hd.tw16154546982801380032 : True := trivial
theorem hd.tw16155205043701107222 : True := trivial
theorem hd.tw16157073509204512506 : True := trivial
theorem hd.tw16171809288044610508 : True := trivial
theorem hd.tw16178712458983371728 : True := trivial
theorem hd.tw16194383521188589630 : True := trivial
theorem hd.tw16211521421427940678 : True := trivial
theorem hd.tw16240987189780228909 : True := trivial
theorem hd.tw16257038226119295666 : True := trivial
theorem hd.tw16259696140248634718 : True := trivial
theorem hd.tw162610821266807592 : True := trivial
theorem hd.tw16299908979028503884 : True := trivial
theorem hd.tw16332348944364537037 : True := trivial
theorem hd.tw16357263729072622229 : True := trivial
theorem hd.tw16376525773666504680 : True := trivial
theorem hd.tw16412773359747925120 : True := trivial
theorem hd.tw16432713993328977331 : True := trivial
theorem hd.tw16456969618363192440 : True := trivial
theorem hd.tw16473244170626142550 : True := trivial
theorem hd.tw16477043939570097188 : True := trivial
theorem hd.tw16502264421070913907 : True := trivial
theorem hd.tw16634568088961857937 : True := trivial
theorem hd.tw1666387254794493845 : True := trivial
theorem hd.tw16684818696116721337 : True := trivial
theorem hd.tw16713699803418581334 : True := trivial
theorem hd.tw16772102934027710169 : True := trivial
theorem hd.tw16794629799341752650 : True := trivial
theorem hd.tw16828841361933241965 : True := trivial
theorem hd.tw16853341256802265648 : True := trivial
theorem hd.tw16858285156579221889 : True := trivial
theorem hd.tw16868993833207775613 : True := trivial
theorem hd.tw16904818350239718627 : True := trivial
theorem hd.tw16919406825032445293 : True := trivial
theorem hd.tw16920754564084929960 : True := trivial
theorem hd.tw16945582573551092051 : True := trivial
theorem hd.tw1699103778626983548 : True := trivial
theorem hd.tw17001982702790524580 : True := trivial
theorem hd.tw17047115858639842297 : True := trivial
theorem hd.tw17062030032774818151 : True := trivial
theorem hd.tw17070941380808615275 : True := trivial
theorem hd.tw17076082267592564974 : True := trivial
theorem hd.tw17087091549796120035 : True := trivial
theorem hd.tw1712922718373300912 : True := trivial
theorem hd.tw17130151131035750659 : True := trivial
theorem hd.tw17177331786930743035 : True := trivial
theorem hd.tw17183224562656869120 : True := trivial
theorem hd.tw17213754286329925777 : True := trivial
theorem hd.tw17234923516513369237 : True := trivial
theorem hd.tw17258206423299326598 : True := trivial
theorem hd.tw17293056930812310174 : True := trivial
theorem hd.tw17325209927041812611 : True := trivial
theorem hd.tw17330945745186091897 : True := trivial
theorem hd.tw17336936450418997793 : True := trivial
theorem hd.tw17377529257436501650 : True := trivial
theorem hd.tw17387473266821786944 : True := trivial
theorem hd.tw17420951861521290806 : True := trivial
theorem hd.tw17429513623812275283 : True := trivial
theorem hd.tw17447410573909459338 : True := trivial
theorem hd.tw17454471701868102899 : True := trivial
theorem hd.tw17471934795394947791 : True := trivial
theorem hd.tw17491280204586788870 : True := trivial
theorem hd.tw17491317419825422843 : True := trivial
theorem hd.tw17542962492245011380 : True := trivial
theorem hd.tw17562767543260142214 : True := trivial
theorem hd.tw17574625026820762457 : True := trivial
theorem hd.tw17599816209265215132 : True := trivial
theorem hd.tw1760603350576429475 : True := trivial
theorem hd.tw17606422857730326317 : True := trivial
theorem hd.tw17628472586750557451 : True := trivial
theorem hd.tw17672654358674132775 : True := trivial
theorem hd.tw17673860158736603733 : True := trivial
theorem hd.tw17681399029576232318 : True := trivial
theorem hd.tw17696971302532935780 : True := trivial
theorem hd.tw17711083657039698284 : True := trivial
theorem hd.tw17714235663813219645 : True := trivial
theorem hd.tw17739348878880393726 : True := trivial
theorem hd.tw1781861727890032366 : True := trivial
theorem hd.tw17893044597097874663 : True := trivial
theorem hd.tw17895171251205151618 : True := trivial
theorem hd.tw17901334829092211166 : True := trivial
theorem hd.tw17902569758825723728 : True := trivial
theorem hd.tw17903497710992402801 : True := trivial
theorem hd.tw17904925833372954808 : True := trivial
theorem hd.tw17925215291927510665 : True := trivial
theorem hd.tw17948085552500728524 : True := trivial
theorem hd.tw17950676927832955104 : True := trivial
theorem hd.tw17975533764899295144 : True := trivial
theorem hd.tw17986969038992634876 : True := trivial
theorem hd.tw17989097746536338734 : True := trivial
theorem hd.tw1800889605409440832 : True := trivial
theorem hd.tw18103342009636024947 : True := trivial
theorem hd.tw18103420901670897651 : True := trivial
theorem hd.tw18163647496604598072 : True := trivial
theorem hd.tw18166333605607142505 : True := trivial
theorem hd.tw18176940659606848779 : True := trivial
theorem hd.tw18185175575083235020 : True := trivial
theorem hd.tw18219297243305740317 : True := trivial
theorem hd.tw18241275227582772068 : True := trivial
theorem hd.tw18264374347568628810 : True := trivial
theorem hd.tw18268791191939849864 : True := trivial
theorem hd.tw18291419657060728153 : True := trivial
theorem hd.tw18293732401869909652 : True := trivial
theorem hd.tw18293851220164018083 : True := trivial
theorem hd.tw18322514126500204803 : True := trivial
theorem hd.tw18343703819029505601 : True := trivial
theorem hd.tw18358800413957953924 : True := trivial
theorem hd.tw1847840615245081061 : True := trivial
theorem hd.tw1848646778235469078 : True := trivial
theorem hd.tw185848376630758926 : True := trivial
theorem hd.tw1882180444382439491 : True := trivial
theorem hd.tw189712035060473897 : True := trivial
theorem hd.tw190519026028168232 : True := trivial
theorem hd.tw1954109241102656831 : True := trivial
theorem hd.tw1997569388931296116 : True := trivial
theorem hd.tw2000490053193787569 : True := trivial
theorem hd.tw2040990291671593033 : True := trivial
theorem hd.tw2051048951616859547 : True := trivial
theorem hd.tw2068664650715991707 : True := trivial
theorem hd.tw2101469004524951375 : True := trivial
theorem hd.tw2114630138375439770 : True := trivial
theorem hd.tw212345690472687942 : True := trivial
theorem hd.tw2167537188350426706 : True := trivial
theorem hd.tw2195365466389143174 : True := trivial
theorem hd.tw2216850387143573719 : True := trivial
theorem hd.tw2252305205657439004 : True := trivial
theorem hd.tw226724450230711188 : True := trivial
theorem hd.tw2274498078352570744 : True := trivial
theorem hd.tw2295870552580634182 : True := trivial
theorem hd.tw2304311442786299043 : True := trivial
theorem hd.tw2323474266016966308 : True := trivial
theorem hd.tw2329189449893159454 : True := trivial
theorem hd.tw2386827423013361158 : True := trivial
theorem hd.tw243823211424636713 : True := trivial
theorem hd.tw2442259710966052079 : True := trivial
theorem hd.tw2448417245163862455 : True := trivial
theorem hd.tw2457190517430149469 : True := trivial
theorem hd.tw2480057099694739299 : True := trivial
theorem hd.tw2502866573005156581 : True := trivial
theorem hd.tw250903467453971090 : True := trivial
theorem hd.tw257007361410690125 : True := trivial
theorem hd.tw2595994805191909183 : True := trivial
theorem hd.tw2603259988358896889 : True := trivial
theorem hd.tw2608437505485318709 : True := trivial
theorem hd.tw262745018181394680 : True := trivial
theorem hd.tw26425463804135960 : True := trivial
theorem hd.tw2658526732547218105 : True := trivial
theorem hd.tw2708950531961675432 : True := trivial
theorem hd.tw2739504486584576224 : True := trivial
theorem hd.tw2781682124601125471 : True := trivial
theorem hd.tw2783992281797965187 : True := trivial
theorem hd.tw2788664435532181463 : True := trivial
theorem hd.tw2799067240506288376 : True := trivial
theorem hd.tw280609765759037681 : True := trivial
theorem hd.tw2845679848157327705 : True := trivial
theorem hd.tw2867327485932766208 : True := trivial
theorem hd.tw2887051446865420828 : True := trivial
theorem hd.tw2999033326186475339 : True := trivial
theorem hd.tw3008623586974134963 : True := trivial
theorem hd.tw307737655149646647 : True := trivial
theorem hd.tw3085183777334472315 : True := trivial
theorem hd.tw3109861748172591687 : True := trivial
theorem hd.tw3182187488490625086 : True := trivial
theorem hd.tw3196399650302076718 : True := trivial
theorem hd.tw3219085151875037572 : True := trivial
theorem hd.tw3229955645248102723 : True := trivial
theorem hd.tw3259873300814134281 : True := trivial
theorem hd.tw3309697970292668127 : True := trivial
theorem hd.tw3310731293184615908 : True := trivial
theorem hd.tw3350844169311001129 : True := trivial
theorem hd.tw3350930974749635488 : True := trivial
theorem hd.tw3404104791013757517 : True := trivial
theorem hd.tw3429492842335990350 : True := trivial
theorem hd.tw3434918251397683217 : True := trivial
theorem hd.tw3442329435671937591 : True := trivial
theorem hd.tw3443669649825651883 : True := trivial
theorem hd.tw3451239065008710300 : True := trivial
theorem hd.tw3480954088277226078 : True := trivial
theorem hd.tw3571134770919094901 : True := trivial
theorem hd.tw3646829019195819677 : True := trivial
theorem hd.tw3673020696563887462 : True := trivial
theorem hd.tw368366308016060594 : True := trivial
theorem hd.tw3694398316872202419 : True := trivial
theorem hd.tw3704167492566942397 : True := trivial
theorem hd.tw3759623122121258479 : True := trivial
theorem hd.tw3789350110615891812 : True := trivial
theorem hd.tw3795277891434052102 : True := trivial
theorem hd.tw380244312416134054 : True := trivial
theorem hd.tw3828038474966422129 : True := trivial
theorem hd.tw3915529967508079626 : True := trivial
theorem hd.tw3919010098100093602 : True := trivial
theorem hd.tw3922637787740509324 : True := trivial
theorem hd.tw3941438180925939637 : True := trivial
theorem hd.tw395138700845864316 : True := trivial
theorem hd.tw3953601041324332601 : True := trivial
theorem hd.tw4014540891139286612 : True := trivial
theorem hd.tw4015398097383911347 : True := trivial
theorem hd.tw4021928978595405253 : True := trivial
theorem hd.tw402640490398009360 : True := trivial
theorem hd.tw4065347644161347641 : True := trivial
theorem hd.tw4068527845204499245 : True := trivial
theorem hd.tw4091639524402994376 : True := trivial
theorem hd.tw4115565904173853331 : True := trivial
theorem hd.tw4138081844389336918 : True := trivial
theorem hd.tw4182648748547736412 : True := trivial
theorem hd.tw4225703048834024713 : True := trivial
theorem hd.tw4272726840584523970 : True := trivial
theorem hd.tw4282304852377368616 : True := trivial
theorem hd.tw4297731678662094536 : True := trivial
theorem hd.tw4315991029959535628 : True := trivial
theorem hd.tw432457690288141553 : True := trivial
theorem hd.tw4365409018781482717 : True := trivial
theorem hd.tw4367231431732253908 : True := trivial
theorem hd.tw4377701919642642989 : True := trivial
theorem hd.tw4383666589626881386 : True := trivial
theorem hd.tw4402725079659364252 : True := trivial
theorem hd.tw4425926697756232486 : True := trivial
theorem hd.tw442638132926106271 : True := trivial
theorem hd.tw4478166936697009375 : True := trivial
theorem hd.tw4478177076189095293 : True := trivial
theorem hd.tw4523669819894539328 : True := trivial
theorem hd.tw461538923250603899 : True := trivial
theorem hd.tw4642405928176397000 : True := trivial
theorem hd.tw4643362625855044894 : True := trivial
theorem hd.tw464777395874653626 : True := trivial
theorem hd.tw4654797750381630734 : True := trivial
theorem hd.tw4702841417184801058 : True := trivial
theorem hd.tw4706079058837389440 : True := trivial
theorem hd.tw4788038989552484473 : True := trivial
theorem hd.tw4817003022231809500 : True := trivial
theorem hd.tw4819202231147424091 : True := trivial
theorem hd.tw4851647983119433812 : True := trivial
theorem hd.tw4856431653887292112 : True := trivial
theorem hd.tw4870687313549177768 : True := trivial
theorem hd.tw4971549296188076032 : True := trivial
theorem hd.tw4990156530697904881 : True := trivial
theorem hd.tw4993660671451451078 : True := trivial
theorem hd.tw5009564483982726761 : True := trivial
theorem hd.tw5054737718236178183 : True := trivial
theorem hd.tw5138769234217329475 : True := trivial
theorem hd.tw5148922909946612681 : True := trivial
theorem hd.tw5167245352685981253 : True := trivial
theorem hd.tw5174551420813472067 : True := trivial
theorem hd.tw5190246844813560578 : True := trivial
theorem hd.tw519851828213033955 : True := trivial
theorem hd.tw5245234834050458271 : True := trivial
theorem hd.tw5247051413645994129 : True := trivial
theorem hd.tw526207354791536317 : True := trivial
theorem hd.tw5278057926702712004 : True := trivial
theorem hd.tw5282504435634884242 : True := trivial
theorem hd.tw5283464899586487735 : True := trivial
theorem hd.tw5292301768408028288 : True := trivial
theorem hd.tw5318216170032084099 : True := trivial
theorem hd.tw5343241284826551009 : True := trivial
theorem hd.tw5363564295841288755 : True := trivial
theorem hd.tw5366084841770067474 : True := trivial
theorem hd.tw5373601922739893978 : True := trivial
theorem hd.tw5388632664720090651 : True := trivial
theorem hd.tw541196102884509978 : True := trivial
theorem hd.tw5433107678231618845 : True := trivial
theorem hd.tw5505005885091257285 : True := trivial
theorem hd.tw5505332120971382143 : True := trivial
theorem hd.tw5511420028821071320 : True := trivial
theorem hd.tw5549315172176941698 : True := trivial
theorem hd.tw5592360268479517082 : True := trivial
theorem hd.tw5629675986466331604 : True := trivial
theorem hd.tw5635641802508607975 : True := trivial
theorem hd.tw5657824000916062451 : True := trivial
theorem hd.tw5715356086224469760 : True := trivial
theorem hd.tw5716766192118558609 : True := trivial
theorem hd.tw5781342201191254626 : True := trivial
theorem hd.tw5902613922787404954 : True := trivial
theorem hd.tw5961118342813265553 : True := trivial
theorem hd.tw5976792059365374437 : True := trivial
theorem hd.tw5978321128707920903 : True := trivial
theorem hd.tw5987830557187376847 : True := trivial
theorem hd.tw6046454685291232161 : True := trivial
theorem hd.tw6060742912462422084 : True := trivial
theorem hd.tw6082411064634330575 : True := trivial
theorem hd.tw6123773746684550334 : True := trivial
theorem hd.tw6136932545381038964 : True := trivial
theorem hd.tw6140570298594658328 : True := trivial
theorem hd.tw6164396464334811476 : True := trivial
theorem hd.tw6184208073178115725 : True := trivial
theorem hd.tw6184460063843016694 : True := trivial
theorem hd.tw6186238094035137676 : True := trivial
theorem hd.tw6264232113106981867 : True := trivial
theorem hd.tw6276725880618359904 : True := trivial
theorem hd.tw6291416237084387574 : True := trivial
theorem hd.tw6293948785866598258 : True := trivial
theorem hd.tw6308581086252854402 : True := trivial
theorem hd.tw6324589003567309517 : True := trivial
theorem hd.tw6394381022753523788 : True := trivial
theorem hd.tw6411954120941647267 : True := trivial
theorem hd.tw6423634429210846174 : True := trivial
theorem hd.tw6438293893037913957 : True := trivial
theorem hd.tw6449127861642672459 : True := trivial
theorem hd.tw6465913693859258597 : True := trivial
theorem hd.tw6469175993241445255 : True := trivial
theorem hd.tw6528754448969337418 : True := trivial
theorem hd.tw6547078798241139092 : True := trivial
theorem hd.tw6555240042291301478 : True := trivial
theorem hd.tw6578402527460240241 : True := trivial
theorem hd.tw6627881031435992008 : True := trivial
theorem hd.tw663384727985864361 : True := trivial
theorem hd.tw6683769817339685419 : True := trivial
theorem hd.tw6755925336976613232 : True := trivial
theorem hd.tw6759412095888398321 : True := trivial
theorem hd.tw6761669909254768831 : True := trivial
theorem hd.tw6767318904944593275 : True := trivial
theorem hd.tw6785817131721698500 : True := trivial
theorem hd.tw6818987989461384207 : True := trivial
theorem hd.tw6819123309680001836 : True := trivial
theorem hd.tw6820862383352777685 : True := trivial
theorem hd.tw6830512106363814048 : True := trivial
theorem hd.tw6868836192036940282 : True := trivial
theorem hd.tw6882427118574961969 : True := trivial
theorem hd.tw6898005170327248138 : True := trivial
theorem hd.tw6906073325868019850 : True := trivial
theorem hd.tw6931407450589930559 : True := trivial
theorem hd.tw6957150274394394060 : True := trivial
theorem hd.tw6965799899956892507 : True := trivial
theorem hd.tw697623264460660564 : True := trivial
theorem hd.tw6990203504111849199 : True := trivial
theorem hd.tw6998783941825042932 : True := trivial
theorem hd.tw701787995468756871 : True := trivial
theorem hd.tw7023726343779634624 : True := trivial
theorem hd.tw7028611270464810887 : True := trivial
theorem hd.tw7031273417212677730 : True := trivial
theorem hd.tw7068711184596962023 : True := trivial
theorem hd.tw7080932558258925280 : True := trivial
theorem hd.tw7082855905992002993 : True := trivial
theorem hd.tw7085514621470718492 : True := trivial
theorem hd.tw7120233287515763914 : True := trivial
theorem hd.tw7152984921513172624 : True := trivial
theorem hd.tw7153062008950511462 : True := trivial
theorem hd.tw7270182246851987180 : True := trivial
theorem hd.tw728884934406724761 : True := trivial
theorem hd.tw7289634563603522867 : True := trivial
theorem hd.tw7292484366425897655 : True := trivial
theorem hd.tw7296583596125217682 : True := trivial
theorem hd.tw732345407407602841 : True := trivial
theorem hd.tw7354087734392854552 : True := trivial
theorem hd.tw7355570028127101125 : True := trivial
theorem hd.tw7366208706002141716 : True := trivial
theorem hd.tw7369741819223213686 : True := trivial
theorem hd.tw7379015992945566340 : True := trivial
theorem hd.tw7382370116671421104 : True := trivial
theorem hd.tw7492773218913965947 : True := trivial
theorem hd.tw7510230149288206974 : True := trivial
theorem hd.tw7512474625130614241 : True := trivial
theorem hd.tw7519716089354478335 : True := trivial
theorem hd.tw7523672394736509286 : True := trivial
theorem hd.tw7525542149764818722 : True := trivial
theorem hd.tw7534799579077118603 : True := trivial
theorem hd.tw7540655947842036084 : True := trivial
theorem hd.tw7541792107247259296 : True := trivial
theorem hd.tw7578210074245671484 : True := trivial
theorem hd.tw758273949599710562 : True := trivial
theorem hd.tw7598622570094877466 : True := trivial
theorem hd.tw7610815399733428385 : True := trivial
theorem hd.tw7654286748164834634 : True := trivial
theorem hd.tw7698358502638924378 : True := trivial
theorem hd.tw7721951785955056133 : True := trivial
theorem hd.tw7746578258024575070 : True := trivial
theorem hd.tw7752569895197466512 : True := trivial
theorem hd.tw7752767780024739350 : True := trivial
theorem hd.tw7754304195085646258 : True := trivial
theorem hd.tw7763873220885509757 : True := trivial
theorem hd.tw7854228177987924090 : True := trivial
theorem hd.tw7880807054014371918 : True := trivial
theorem hd.tw7914949630228597729 : True := trivial
theorem hd.tw7927469264209771579 : True := trivial
theorem hd.tw8004679753235328684 : True := trivial
theorem hd.tw8015326511298524721 : True := trivial
theorem hd.tw8025032847418708242 : True := trivial
theorem hd.tw8047900516022102942 : True := trivial
theorem hd.tw8053944837975664402 : True := trivial
theorem hd.tw8068729725432388964 : True := trivial
theorem hd.tw8112040973832200146 : True := trivial
theorem hd.tw8134915037123179040 : True := trivial
theorem hd.tw8226494294326810461 : True := trivial
theorem hd.tw8228950375871286339 : True := trivial
theorem hd.tw8242931771332617035 : True := trivial
theorem hd.tw8268277133935991078 : True := trivial
theorem hd.tw8273930003744585626 : True := trivial
theorem hd.tw8317466277049474617 : True := trivial
theorem hd.tw8343274005884668182 : True := trivial
theorem hd.tw8351282476255451920 : True := trivial
theorem hd.tw8356816923877370021 : True := trivial
theorem hd.tw8428860471423672150 : True := trivial
theorem hd.tw845060206244984605 : True := trivial
theorem hd.tw8457440626546761165 : True := trivial
theorem hd.tw8458067239894703972 : True := trivial
theorem hd.tw8493152586797012548 : True := trivial
theorem hd.tw8516288146210602744 : True := trivial
theorem hd.tw8538877666451538035 : True := trivial
theorem hd.tw8545014587354053640 : True := trivial
theorem hd.tw8587404781116728655 : True := trivial
theorem hd.tw8589211134812392127 : True := trivial
theorem hd.tw8609351116199087170 : True := trivial
theorem hd.tw8652628183442184457 : True := trivial
theorem hd.tw8664936974563722654 : True := trivial
theorem hd.tw8668723539883848799 : True := trivial
theorem hd.tw8671608845466749128 : True := trivial
theorem hd.tw8683856772340465682 : True := trivial
theorem hd.tw8684328023851190084 : True := trivial
theorem hd.tw8716120427605611371 : True := trivial
theorem hd.tw8727321023445011275 : True := trivial
theorem hd.tw8735263284916673568 : True := trivial
theorem hd.tw876933089483189297 : True := trivial
theorem hd.tw8770205317985620760 : True := trivial
theorem hd.tw8789358453043137523 : True := trivial
theorem hd.tw8801323125487838256 : True := trivial
theorem hd.tw881544763273948857 : True := trivial
theorem hd.tw8934143017859847078 : True := trivial
theorem hd.tw8965841893048198262 : True := trivial
theorem hd.tw9131607905817354932 : True := trivial
theorem hd.tw9132557439983319658 : True := trivial
theorem hd.tw9153386212771759811 : True := trivial
theorem hd.tw9155422001095189878 : True := trivial
theorem hd.tw9170477692918782315 : True := trivial
theorem hd.tw9184186324627900627 : True := trivial
theorem hd.tw922143313871775805 : True := trivial
theorem hd.tw9228397985900620932 : True := trivial
theorem hd.tw9244321171653502345 : True := trivial
theorem hd.tw9271970288684553227 : True := trivial
theorem hd.tw9277588360372424766 : True := trivial
theorem hd.tw9298403506768410418 : True := trivial
theorem hd.tw9325612240067072397 : True := trivial
theorem hd.tw9330943631129107780 : True := trivial
theorem hd.tw9345676750909349944 : True := trivial
theorem hd.tw9345929723534960622 : True := trivial
theorem hd.tw9386895884608548742 : True := trivial
theorem hd.tw9398405308114057262 : True := trivial
theorem hd.tw940617070666608080 : True := trivial
theorem hd.tw9406673726873002282 : True := trivial
theorem hd.tw9421340871869096474 : True := trivial
theorem hd.tw9427301549700849589 : True := trivial
theorem hd.tw9430268157657104642 : True := trivial
theorem hd.tw9449672872311958731 : True := trivial
theorem hd.tw9496365245306024149 : True := trivial
theorem hd.tw9499510787657705874 : True := trivial
theorem hd.tw9533747618267967006 : True := trivial
theorem hd.tw9555612238305686254 : True := trivial
theorem hd.tw9566141503761928105 : True := trivial
theorem hd.tw9577689765879766989 : True := trivial
theorem hd.tw9617658007855726926 : True := trivial
theorem hd.tw9641152695372364146 : True := trivial
theorem hd.tw9653751418590077562 : True := trivial
theorem hd.tw9702936160620672325 : True := trivial
theorem hd.tw9719896912496429819 : True := trivial
theorem hd.tw9731375825926819010 : True := trivial
theorem hd.tw9741134391959003819 : True := trivial
theorem hd.tw9748044761591592747 : True := trivial
theorem hd.tw9783614193127449063 : True := trivial
theorem hd.tw978945382295711627 : True := trivial
theorem hd.tw9908193460736022307 : True := trivial
theorem hd.tw991583007596301734 : True := trivial
theorem hd.tw9960721518486171458 : True := trivial
theorem hd.tw9983995961361265002 : True := trivial
end Mine
set_option Elab.async true
set_option maxHeartbeats 40000000 in
theorem Mine.hd : PySem.Challenge.rw_iu0004_03.Holds := by
  k_with "pyIter ref" => k_state_given ["xof.buf", "tau", "sign_int!"] (fun buf tau S pre co sg ix => BallW buf tau S pre co sg ix) "coeffs" "sign_int" "xof.index"
  k_with "state" => first | (refine' BallW.start2 ?dbw1_1 ?dbw1_3 ?dbw1_5 ?dbw1_6 ?dbw1_7 ?dbw1_8 ?dbw1_9; (case dbw1_1 => k_asm); (case dbw1_3 => first | with_reducible assumption | (refine' sub64_lo ?dbw1_2; (case dbw1_2 => k_asm))); (case dbw1_5 => first | with_reducible assumption | (refine' sub64_hi ?dbw1_4; (case dbw1_4 => k_asm))); (case dbw1_6 => k_asm); (case dbw1_7 => k_asm); (case dbw1_8 => first | rfl | decide); (case dbw1_9 => first | rfl | decide)) | (refine' BallW.rej2 ?dbw1_10 ?dbw1_11 ?dbw1_12; (case dbw1_10 => k_asm); (case dbw1_11 => k_asm); (case dbw1_12 => k_asm)) | (refine' RejW.step2 ?dbw1_13 ?dbw1_14 ?dbw1_15; (case dbw1_13 => k_asm); (case dbw1_14 => k_asm); (case dbw1_15 => k_asm)) | (refine' BallW.turn2 ?dbw1_16 ?dbw1_17 ?dbw1_18 ?dbw1_19 ?dbw1_20 ?dbw1_21 ?dbw1_22; (case dbw1_16 => k_asm); (case dbw1_17 => k_asm); (case dbw1_18 => k_asm); (case dbw1_19 => k_asm); (case dbw1_20 => k_asm); (case dbw1_21 => k_asm); (case dbw1_22 => k_asm)) | (refine' LawW.wh2 ?dbw1_23 ?dbw1_24 ?dbw1_25; (case dbw1_23 => k_asm); (case dbw1_24 => k_asm); (case dbw1_25 => k_asm)) | (refine' WhW.step2 ?dbw1_26 ?dbw1_27; (case dbw1_26 => k_asm); (case dbw1_27 => k_asm))
  k_with "measure" => first | (refine' RejW.less ?dbw2_1; (case dbw2_1 => k_asm)) | (refine' WhW.less ?dbw2_2 ?dbw2_3; (case dbw2_2 => k_asm); (case dbw2_3 => k_asm))
  k_with "eval IfExp" => (k_here; (with_reducible show wpAny _ _ (eval (Expr.IfExp (Expr.Name _ _) _ _ _) _) _ _ _); (first | (with_reducible refine if_join ?k1w0 ?_) | k_dflt refine if_join ?k1w0 ?_); k_dflt ((case k1w0 => (refine IfExp_ ?_; k_steps; all_goals exact ⟨_, _, _, rfl, rfl⟩)); intro _ _ _))
  k_with "binaryOp Mult ref int" => (k_here; (with_reducible show wpAny _ _ (binaryOp Operator.Mult (Value.ref _) (Value.int _ _)) _ _ _); k_dflt (((refine' KM.mul ?dby1w1 ?dby2w1 ?dby3w1 ?dby4w1 ?dby5w1 ?dby6w1 (size40 ?dby7w1 ?dby8w1) ?_; (case dby1w1 => k_asm); (case dby2w1 => k_asm); (case dby3w1 => is_list); (case dby4w1 => k_asm); (case dby5w1 => decide); (case dby6w1 => decide); (case dby7w1 => k_asm); (case dby8w1 => k_asm))); (intro D' h' F' N' l1 i1 n1 s1 e1 e2 e3); (try k_lt l1)))
  k_with "callWith ref" => (k_here; kco_any "__call__"; kco_here; (first | (with_reducible refine' kco_callWithF ?k0w2 ?k1w2 ?k2w2 ?k3w2 ?k4w2 ?_) | k_dflt refine' kco_callWithF ?k0w2 ?k1w2 ?k2w2 ?k3w2 ?k4w2 ?_); k_dflt ((case k0w2 => k_asm); (case k1w2 => k_asm); (case k2w2 => k_inst); (case k3w2 => rfl); (case k4w2 => k_is); k_whole))
  k_with "callWith ref nil nil" => (k_here; kco_any "__call__"; kco_here; (first | (with_reducible refine' kco_callWithF ?k0w3 ?k1w3 ?k2w3 ?k3w3 ?k4w3 ?_) | k_dflt refine' kco_callWithF ?k0w3 ?k1w3 ?k2w3 ?k3w3 ?k4w3 ?_); k_dflt ((case k0w3 => k_asm); (case k1w3 => k_asm); (case k2w3 => k_inst); (case k3w3 => rfl); (case k4w3 => k_is); k_whole))
  k_with "call ref" => (k_here; kco_any "__call__"; kco_here; (first | (with_reducible refine wpAny_call ?_) | k_dflt refine wpAny_call ?_); k_dflt (refine' kco_codeF ?k0w4 ?k1w4 ?k2w4 ?k3w4 ?k4w4 ?k5w4 ?k6w4 ?_; (case k0w4 => k_asm); (case k1w4 => k_asm); (case k2w4 => k_inst); (case k3w4 => rfl); (case k4w4 => k_is); (case k5w4 => k_is); (case k6w4 => k_is); (try dsimp only); k_enter))
  k_with "call ref cons nil" => (k_here; kco_any "__call__"; kco_here; (first | (with_reducible refine wpAny_call ?_) | k_dflt refine wpAny_call ?_); k_dflt (refine' kco_codeF ?k0w5 ?k1w5 ?k2w5 ?k3w5 ?k4w5 ?k5w5 ?k6w5 ?_; (case k0w5 => k_asm); (case k1w5 => k_asm); (case k2w5 => k_inst); (case k3w5 => rfl); (case k4w5 => k_is); (case k5w5 => k_is); (case k6w5 => k_is); (try dsimp only); k_enter))
  k_with "binaryOp Mod int int" => (k_here; (with_reducible show wpAny _ _ (binaryOp _ (Value.int _ _) (Value.int 65 _)) _ _ _); (refine mod65 ?_); intro r9 hr0 hr1)
  k_with "call type:list" => (k_here; (with_reducible show wpAny _ _ (call (Value.type "list") [Value.bytes _ _]) _ _ _); (first | (with_reducible refine' list_bytesK ?k1w7 ?k2w7 ?k3w7 ?k4w7 ?k5w7 ?_) | k_dflt refine' list_bytesK ?k1w7 ?k2w7 ?k3w7 ?k4w7 ?k5w7 ?_); k_dflt ((case k1w7 => k_asm); (case k2w7 => k_asm); (case k3w7 => rfl); (case k4w7 => k_asm); (case k5w7 => (refine' len_small ?dby1w7; (case dby1w7 => k_asm)))); intro D' c' ws' h' tk' F' N' l1 hI'; (try k_lt l1); (try k_sweep))
  k_with "call type:list cons nil" => (k_here; (with_reducible show wpAny _ _ (call (Value.type "list") [Value.bytes _ _]) _ _ _); (first | (with_reducible refine' list_bytesK ?k1w8 ?k2w8 ?k3w8 ?k4w8 ?k5w8 ?_) | k_dflt refine' list_bytesK ?k1w8 ?k2w8 ?k3w8 ?k4w8 ?k5w8 ?_); k_dflt ((case k1w8 => k_asm); (case k2w8 => k_asm); (case k3w8 => rfl); (case k4w8 => k_asm); (case k5w8 => (refine' len_small ?dby1w8; (case dby1w8 => k_asm)))); intro D' c' ws' h' tk' F' N' l1 hI'; (try k_lt l1); (try k_sweep))
  k_with "EXB" => (k_here; (with_reducible show wpAny _ _ (execs (Stmt.Assign [Expr.Name (Str.ofString "tail") _] _ _ :: _) _) _ _ _); (fail_if_success (with_reducible rename Mk 1 => mk1)); (have mk1 : Mk 1 := Mk.mk); (with_reducible rename IntsAre _ _ => hI8); (obtain ⟨nums, hI9, hlen9, hb9⟩ := gen_nums hI8); clear hI8)
  k_with "EXB" => (k_here; (with_reducible show wpAny _ _ (execs (Stmt.Assign [Expr.Name (Str.ofString "ring") _] _ _ :: _) _) _ _ _); (fail_if_success (with_reducible rename Mk 2 => mk1)); (have mk1 : Mk 2 := Mk.mk); (with_reducible rename IntsAre _ _ => hI8); (obtain ⟨tl, hI9, hlen9, hb9⟩ := gen_tail hI8 (by decide) (by k_asm)); clear hI8)
  k_with "call type:bytes" => (k_here; (with_reducible show wpAny _ _ (call (Value.type "bytes") [Value.ref _]) _ _ _); (first | (with_reducible refine' make_seed ?kbaFw11 ?kbaNw11 ?kbahw11 ?kbalw11 ?kbaiw11 ?kbarw11 ?kbanw11 ?_) | k_dflt refine' make_seed ?kbaFw11 ?kbaNw11 ?kbahw11 ?kbalw11 ?kbaiw11 ?kbarw11 ?kbanw11 ?_); k_dflt ((case kbaFw11 => k_asm); (case kbaNw11 => k_asm); (case kbahw11 => rfl); (case kbalw11 => kba_isList); (case kbaiw11 => kba_listInts); (case kbarw11 => first | (refine' in_take ?dby1w11; (case dby1w11 => k_asm)) | (refine' in_run ?dby2w11; (case dby2w11 => k_asm))); (case kbanw11 => first | (refine' len_take8 ?dby3w11; (case dby3w11 => decide)) | (refine' len_run8 ?dby4w11; (case dby4w11 => decide)))); intro b9 ss9 _ _ _ hb9 hs9 hi9 F' N' )
  k_with "call type:bytes cons nil" => (k_here; (with_reducible show wpAny _ _ (call (Value.type "bytes") [Value.ref _]) _ _ _); (first | (with_reducible refine' make_seed ?kbaFw12 ?kbaNw12 ?kbahw12 ?kbalw12 ?kbaiw12 ?kbarw12 ?kbanw12 ?_) | k_dflt refine' make_seed ?kbaFw12 ?kbaNw12 ?kbahw12 ?kbalw12 ?kbaiw12 ?kbarw12 ?kbanw12 ?_); k_dflt ((case kbaFw12 => k_asm); (case kbaNw12 => k_asm); (case kbahw12 => rfl); (case kbalw12 => kba_isList); (case kbaiw12 => kba_listInts); (case kbarw12 => first | (refine' in_take ?dby1w12; (case dby1w12 => k_asm)) | (refine' in_run ?dby2w12; (case dby2w12 => k_asm))); (case kbanw12 => first | (refine' len_take8 ?dby3w12; (case dby3w12 => decide)) | (refine' len_run8 ?dby4w12; (case dby4w12 => decide)))); intro b9 ss9 _ _ _ hb9 hs9 hi9 F' N' )
  k_with "call builtin:bin" => (k_here; (refine' bin_K ?k1w13 ?k2w13 ?k3w13 ?k4w13 ?_); (case k1w13 => k_asm); (case k2w13 => k_asm); (case k3w13 => rfl); (case k4w13 => decide); intro hn9)
  k_with "call builtin:bin cons nil" => (k_here; (refine' bin_K ?k1w14 ?k2w14 ?k3w14 ?k4w14 ?_); (case k1w14 => k_asm); (case k2w14 => k_asm); (case k3w14 => rfl); (case k4w14 => decide); intro hn9)
  k_with "call builtin:str.zfill" => (k_here; (with_reducible show wpAny _ _ (call _ [Value.str (S2 _) _, _]) _ _ _); (refine zfill_K ?_); intro _ _)
  k_with "call builtin:str.zfill cons nil" => (k_here; (with_reducible show wpAny _ _ (call _ [Value.str (S2 _) _, _]) _ _ _); (refine zfill_K ?_); intro _ _)
  k_with "call type:int" => (k_here; (with_reducible show wpAny _ _ (call _ [Value.str (S4 _) _, _]) _ _ _); (refine int2_K ?k1w17 ?_); (case k1w17 => with_reducible assumption))
  k_with "call type:int cons nil" => (k_here; (with_reducible show wpAny _ _ (call _ [Value.str (S4 _) _, _]) _ _ _); (refine int2_K ?k1w18 ?_); (case k1w18 => with_reducible assumption))
  k_with "subscriptTail" => (k_here; (with_reducible show wpAny _ _ (subscriptTail _ _ (Value.str (S1 _) _) (Value.ref _)) _ _ _); (first | (with_reducible refine' slice_K (s := ⟨_, _, _, _, _⟩) ?k1w19 ?k2w19 ?k3w19 ?_) | k_dflt refine' slice_K (s := ⟨_, _, _, _, _⟩) ?k1w19 ?k2w19 ?k3w19 ?_); k_dflt ((case k1w19 => with_reducible assumption); (case k2w19 => k_asm); (case k3w19 => k_asm)); intro h' t' k' F' N'; (try k_sweep))
  k_with "subscriptTail Call Name cons nil Slice str ref" => (k_here; (with_reducible show wpAny _ _ (subscriptTail _ _ (Value.str (S1 _) _) (Value.ref _)) _ _ _); (first | (with_reducible refine' slice_K (s := ⟨_, _, _, _, _⟩) ?k1w20 ?k2w20 ?k3w20 ?_) | k_dflt refine' slice_K (s := ⟨_, _, _, _, _⟩) ?k1w20 ?k2w20 ?k3w20 ?_); k_dflt ((case k1w20 => with_reducible assumption); (case k2w20 => k_asm); (case k3w20 => k_asm)); intro h' t' k' F' N'; (try k_sweep))
  k_with "subscriptTail" => (k_here; (with_reducible show wpAny _ _ (subscriptTail _ _ (Value.str (S3 _) _) (Value.ref _)) _ _ _); (first | (with_reducible refine' rev_K (s := ⟨_, _, _, _, _⟩) ?k1w21 ?k2w21 ?k3w21 ?_) | k_dflt refine' rev_K (s := ⟨_, _, _, _, _⟩) ?k1w21 ?k2w21 ?k3w21 ?_); k_dflt ((case k1w21 => with_reducible assumption); (case k2w21 => k_asm); (case k3w21 => k_asm)); intro h' t' k' F' N'; (try k_sweep))
  k_with "subscriptTail Name Slice str ref" => (k_here; (with_reducible show wpAny _ _ (subscriptTail _ _ (Value.str (S3 _) _) (Value.ref _)) _ _ _); (first | (with_reducible refine' rev_K (s := ⟨_, _, _, _, _⟩) ?k1w22 ?k2w22 ?k3w22 ?_) | k_dflt refine' rev_K (s := ⟨_, _, _, _, _⟩) ?k1w22 ?k2w22 ?k3w22 ?_); k_dflt ((case k1w22 => with_reducible assumption); (case k2w22 => k_asm); (case k3w22 => k_asm)); intro h' t' k' F' N'; (try k_sweep))
  k_with "call builtin:pow" => ((with_reducible show wpAny _ _ (call (Value.builtin "pow") [Value.int _ _, Value.int _ _, Value.int _ _]) _ _ _); first | (refine Mine.call_pow3 (Mine.gives_pow_inv _ _ _) ?_) | (refine Mine.pow_K ?_))
  k_with "call builtin:pow cons nil" => ((with_reducible show wpAny _ _ (call (Value.builtin "pow") [Value.int _ _, Value.int _ _, Value.int _ _]) _ _ _); first | (refine Mine.call_pow3 (Mine.gives_pow_inv _ _ _) ?_) | (refine Mine.pow_K ?_))
  k_with "callWith ref" => (k_here; kn_here; (first | (with_reducible refine' callWith_F ?k1w25 ?_) | k_dflt refine' callWith_F ?k1w25 ?_); k_dflt ((case k1w25 => (refine' FnAt.of ?dby1w25 ?dby2w25; (case dby1w25 => k_asm); (case dby2w25 => k_mem))); k_whole))
  k_with "callWith ref nil nil" => (k_here; kn_here; (first | (with_reducible refine' callWith_F ?k1w26 ?_) | k_dflt refine' callWith_F ?k1w26 ?_); k_dflt ((case k1w26 => (refine' FnAt.of ?dby1w26 ?dby2w26; (case dby1w26 => k_asm); (case dby2w26 => k_mem))); k_whole))
  k_with "exec While" => (k_here; (with_reducible show wpAny _ _ (exec (Stmt.While (Expr.Constant _ _ _) _ _ _) _) _ _ _); k_dflt (k_while_given ["xof.buf", "i", "xof.index!"] (fun buf i t0 _ t => RejW buf i t0 t) (fun _ _ _ _ t => (700 - t).toNat) "xof.index"))
  k_with "exec While Constant cons nil" => (k_here; (with_reducible show wpAny _ _ (exec (Stmt.While (Expr.Constant _ _ _) _ _ _) _) _ _ _); k_dflt (k_while_given ["xof.buf", "i", "xof.index!"] (fun buf i t0 _ t => RejW buf i t0 t) (fun _ _ _ _ t => (700 - t).toNat) "xof.index"))
  k_with "exec While" => (k_here; (with_reducible show wpAny _ _ (exec (Stmt.While (Expr.Compare (Expr.BinOp _ _ _ _) _ _ _) _ _ _) _) _ _ _); (first | (with_reducible refine whl_start 1 ?_) | k_dflt refine whl_start 1 ?_))
  k_with "exec While Compare cons nil" => (k_here; (with_reducible show wpAny _ _ (exec (Stmt.While (Expr.Compare (Expr.BinOp _ _ _ _) _ _ _) _ _ _) _) _ _ _); (first | (with_reducible refine whl_start 1 ?_) | k_dflt refine whl_start 1 ?_))
  k_with "call type:bytes" => (k_here; (with_reducible show wpAny _ _ (call (Value.type "bytes") [Value.ref _]) _ _ _); (first | (with_reducible refine' make_buf ?kbaFw31 ?kbaNw31 ?kbahw31 ?kbalw31 ?kbaiw31 ?kbarw31 ?kbanw31 ?kbaew31 ?kba1w31 ?kba2w31 ?_) | k_dflt refine' make_buf ?kbaFw31 ?kbaNw31 ?kbahw31 ?kbalw31 ?kbaiw31 ?kbarw31 ?kbanw31 ?kbaew31 ?kba1w31 ?kba2w31 ?_); k_dflt ((case kbaFw31 => k_asm); (case kbaNw31 => k_asm); (case kbahw31 => rfl); (case kbalw31 => kba_isList); (case kbaiw31 => kba_listInts); (case kbaew31 => (refine' buf_eq ?dby1w31 ?dby2w31 rfl rfl; (case dby1w31 => k_asm); (case dby2w31 => k_asm))); (case kbarw31 => (refine' buf_in ?dby3w31 ?dby4w31; (case dby3w31 => k_asm); (case dby4w31 => k_asm))); (case kbanw31 => exact buf_len rfl rfl); (case kba1w31 => k_asm); (case kba2w31 => k_asm)); intro b9 _ _ _ hB9 F' N' )
  k_with "call type:bytes cons nil" => (k_here; (with_reducible show wpAny _ _ (call (Value.type "bytes") [Value.ref _]) _ _ _); (first | (with_reducible refine' make_buf ?kbaFw32 ?kbaNw32 ?kbahw32 ?kbalw32 ?kbaiw32 ?kbarw32 ?kbanw32 ?kbaew32 ?kba1w32 ?kba2w32 ?_) | k_dflt refine' make_buf ?kbaFw32 ?kbaNw32 ?kbahw32 ?kbalw32 ?kbaiw32 ?kbarw32 ?kbanw32 ?kbaew32 ?kba1w32 ?kba2w32 ?_); k_dflt ((case kbaFw32 => k_asm); (case kbaNw32 => k_asm); (case kbahw32 => rfl); (case kbalw32 => kba_isList); (case kbaiw32 => kba_listInts); (case kbaew32 => (refine' buf_eq ?dby1w32 ?dby2w32 rfl rfl; (case dby1w32 => k_asm); (case dby2w32 => k_asm))); (case kbarw32 => (refine' buf_in ?dby3w32 ?dby4w32; (case dby3w32 => k_asm); (case dby4w32 => k_asm))); (case kbanw32 => exact buf_len rfl rfl); (case kba1w32 => k_asm); (case kba2w32 => k_asm)); intro b9 _ _ _ hB9 F' N' )
  k_with "subscriptTail" => (k_here; (with_reducible show wpAny _ _ (subscriptTail _ (Expr.Slice _ _ none _) (Value.bytes _ _) (Value.ref _)) _ _ _); k_dflt (first | (refine' cut1 (s := ⟨_, _, _, _, _⟩) ?k1w33 ?k2w33 ?k3w33 ?k4w33 ?_; (case k1w33 => k_asm); (case k2w33 => k_asm); (case k3w33 => k_asm); (case k4w33 => (refine' RejW.room ?dby1w33; (case dby1w33 => k_asm))); intro c9 h' t' k' hc9 F' N'; (try k_sweep)) | (refine' cut8 (s := ⟨_, _, _, _, _⟩) ?k0w33 ?k00w33 ?k1w33 ?k2w33 ?k3w33 ?_; (case k0w33 => rfl); (case k00w33 => rfl); (case k1w33 => k_asm); (case k2w33 => k_asm); (case k3w33 => k_asm); intro c9 l9 h' t' k' hc9 hl9 hi9 he9 F' N'; (try k_sweep))))
  k_with "subscriptTail Attribute Name Slice bytes ref" => (k_here; (with_reducible show wpAny _ _ (subscriptTail _ (Expr.Slice _ _ none _) (Value.bytes _ _) (Value.ref _)) _ _ _); k_dflt (first | (refine' cut1 (s := ⟨_, _, _, _, _⟩) ?k1w34 ?k2w34 ?k3w34 ?k4w34 ?_; (case k1w34 => k_asm); (case k2w34 => k_asm); (case k3w34 => k_asm); (case k4w34 => (refine' RejW.room ?dby1w34; (case dby1w34 => k_asm))); intro c9 h' t' k' hc9 F' N'; (try k_sweep)) | (refine' cut8 (s := ⟨_, _, _, _, _⟩) ?k0w34 ?k00w34 ?k1w34 ?k2w34 ?k3w34 ?_; (case k0w34 => rfl); (case k00w34 => rfl); (case k1w34 => k_asm); (case k2w34 => k_asm); (case k3w34 => k_asm); intro c9 l9 h' t' k' hc9 hl9 hi9 he9 F' N'; (try k_sweep))))
  k_with "call ref" => (k_here; (with_reducible show wpAny _ _ (call (Value.ref _) [Value.bytes _ _, Value.str _ _]) _ _ _); kfb_any; (first | (with_reducible refine' from_little ?dby1w35 ?dby2w35 ?dby3w35 ?dby4w35 ?dby5w35 ?_) | k_dflt refine' from_little ?dby1w35 ?dby2w35 ?dby3w35 ?dby4w35 ?dby5w35 ?_); k_dflt ((case dby1w35 => k_asm); (case dby2w35 => k_mem); (case dby3w35 => k_asm); (case dby4w35 => k_asm); (case dby5w35 => k_asm)); intro S9 _ _ hS9 hS0 hS1)
  k_with "call ref cons nil" => (k_here; (with_reducible show wpAny _ _ (call (Value.ref _) [Value.bytes _ _, Value.str _ _]) _ _ _); kfb_any; (first | (with_reducible refine' from_little ?dby1w36 ?dby2w36 ?dby3w36 ?dby4w36 ?dby5w36 ?_) | k_dflt refine' from_little ?dby1w36 ?dby2w36 ?dby3w36 ?dby4w36 ?dby5w36 ?_); k_dflt ((case dby1w36 => k_asm); (case dby2w36 => k_mem); (case dby3w36 => k_asm); (case dby4w36 => k_asm); (case dby5w36 => k_asm)); intro S9 _ _ hS9 hS0 hS1)
  k_with "binaryOp Mult int int" => (k_here; (with_reducible show wpAny _ _ (binaryOp _ (Value.int 5 _) (Value.int 136 _)) _ _ _); (refine mul680 ?_))
  k_with "binaryOp Mult ref int" => (k_here; (with_reducible show wpAny _ _ (binaryOp Operator.Mult (Value.ref _) (Value.int _ _)) _ _ _); (first | (with_reducible refine' rep0 ?k1w38 ?k2w38 ?k3w38 ?k4w38 ?k5w38 ?_) | k_dflt refine' rep0 ?k1w38 ?k2w38 ?k3w38 ?k4w38 ?k5w38 ?_); k_dflt ((case k1w38 => k_asm); (case k2w38 => k_asm); (case k3w38 => is_list); (case k4w38 => decide); (case k5w38 => decide)); intro D' us' h' F' N' l1 hI'; (try k_lt l1); (try k_sweep))
  k_with "EXB" => (k_here; (with_reducible show wpAny _ _ (execs (Stmt.Assign [Expr.Name (Str.ofString "signs") _] _ _ :: _) _) _ _ _); (with_reducible rename IntsAre _ (_ ++ _ ++ List.replicate _ _) => hI8); (obtain ⟨ob, hI9, hO9, hoe9, hol9, hou9⟩ := gen_ob2 hI8 rfl (by k_asm) (by k_asm) (by k_asm) (by k_asm)); clear hI8)
  k_with "subscriptTail" => (k_here; (with_reducible show wpAny _ _ (subscriptTail _ _ (Value.ref _) (Value.int (Int.fdiv _ 8) _)) _ _ _); (first | (with_reducible refine' ksa_sub ?k1w40 ?k2w40 ?k3w40 ?k4w40 ?k5w40 ?k6w40 ?_ ?k7w40) | k_dflt refine' ksa_sub ?k1w40 ?k2w40 ?k3w40 ?k4w40 ?k5w40 ?k6w40 ?_ ?k7w40); k_dflt ((case k1w40 => k_asm); (case k2w40 => k_mem); (case k3w40 => with_reducible assumption); (case k4w40 => (refine' fd8_lo ?dby1w40; (case dby1w40 => k_asm))); (case k5w40 => (refine' fd8_hi ?dby2w40 ?dby3w40 rfl rfl ?dby4w40; (case dby2w40 => k_asm); (case dby3w40 => k_asm); (case dby4w40 => k_asm))); (case k6w40 => (refine' fd8_fit ?dby5w40 ?dby6w40 rfl rfl; (case dby5w40 => k_asm); (case dby6w40 => k_asm))); (case k7w40 => with_unfolding_all rfl); k_whole); intro _)
  k_with "subscriptTail Name BinOp ref int" => (k_here; (with_reducible show wpAny _ _ (subscriptTail _ _ (Value.ref _) (Value.int (Int.fdiv _ 8) _)) _ _ _); (first | (with_reducible refine' ksa_sub ?k1w41 ?k2w41 ?k3w41 ?k4w41 ?k5w41 ?k6w41 ?_ ?k7w41) | k_dflt refine' ksa_sub ?k1w41 ?k2w41 ?k3w41 ?k4w41 ?k5w41 ?k6w41 ?_ ?k7w41); k_dflt ((case k1w41 => k_asm); (case k2w41 => k_mem); (case k3w41 => with_reducible assumption); (case k4w41 => (refine' fd8_lo ?dby1w41; (case dby1w41 => k_asm))); (case k5w41 => (refine' fd8_hi ?dby2w41 ?dby3w41 rfl rfl ?dby4w41; (case dby2w41 => k_asm); (case dby3w41 => k_asm); (case dby4w41 => k_asm))); (case k6w41 => (refine' fd8_fit ?dby5w41 ?dby6w41 rfl rfl; (case dby5w41 => k_asm); (case dby6w41 => k_asm))); (case k7w41 => with_unfolding_all rfl); k_whole); intro _)
  k_with "subscriptTail" => (k_here; (with_reducible show wpAny _ _ (subscriptTail _ _ (Value.ref _) (Value.int _ _)) _ _ _); (first | (with_reducible refine' ksa_sub ?k1w42 ?k2w42 ?k3w42 ?k4w42 ?k5w42 ?k6w42 ?_ ?k7w42) | k_dflt refine' ksa_sub ?k1w42 ?k2w42 ?k3w42 ?k4w42 ?k5w42 ?k6w42 ?_ ?k7w42); k_dflt ((case k1w42 => k_asm); (case k2w42 => k_mem); (case k3w42 => with_reducible assumption); (case k4w42 => (refine' (WhW.idx ?dby1w42).1; (case dby1w42 => k_asm))); (case k5w42 => (refine' (WhW.idx ?dby2w42).2; (case dby2w42 => k_asm))); (case k6w42 => (refine' WhW.fit ?dby3w42; (case dby3w42 => k_asm))); (case k7w42 => with_unfolding_all rfl); k_whole); intro _)
  k_with "subscriptTail Name Name ref int" => (k_here; (with_reducible show wpAny _ _ (subscriptTail _ _ (Value.ref _) (Value.int _ _)) _ _ _); (first | (with_reducible refine' ksa_sub ?k1w43 ?k2w43 ?k3w43 ?k4w43 ?k5w43 ?k6w43 ?_ ?k7w43) | k_dflt refine' ksa_sub ?k1w43 ?k2w43 ?k3w43 ?k4w43 ?k5w43 ?k6w43 ?_ ?k7w43); k_dflt ((case k1w43 => k_asm); (case k2w43 => k_mem); (case k3w43 => with_reducible assumption); (case k4w43 => (refine' (WhW.idx ?dby1w43).1; (case dby1w43 => k_asm))); (case k5w43 => (refine' (WhW.idx ?dby2w43).2; (case dby2w43 => k_asm))); (case k6w43 => (refine' WhW.fit ?dby3w43; (case dby3w43 => k_asm))); (case k7w43 => with_unfolding_all rfl); k_whole); intro _)
  k_with "exec For Tuple Call cons nil" => (k_here; (rename Fr _ _ _ _ => lF'); (with_unfolding_all refine' For_turns lF' ?_; k_whole))
  k_with "call type:zip" => (k_here; (rename Fr _ _ _ _ => lF'); (rename News _ _ _ _ => lN'); (first | (with_reducible refine' ktu_zip ?dby1w45 lF' lN' ?k1w45 ?k2w45 ?k3w45 ?k4w45 ?k5w45 ?k6w45 ?_) | k_dflt refine' ktu_zip ?dby1w45 lF' lN' ?k1w45 ?k2w45 ?k3w45 ?k4w45 ?k5w45 ?k6w45 ?_); k_dflt ((case dby1w45 => rfl); (case k1w45 => k_mem); (case k4w45 => k_mem); (case k2w45 => rfl); (case k3w45 => rfl); (case k5w45 => rfl); (case k6w45 => rfl)); clear lF' lN'; intro i' l1; (try k_lt l1))
  k_with "call type:zip cons nil" => (k_here; (rename Fr _ _ _ _ => lF'); (rename News _ _ _ _ => lN'); (first | (with_reducible refine' ktu_zip ?dby1w46 lF' lN' ?k1w46 ?k2w46 ?k3w46 ?k4w46 ?k5w46 ?k6w46 ?_) | k_dflt refine' ktu_zip ?dby1w46 lF' lN' ?k1w46 ?k2w46 ?k3w46 ?k4w46 ?k5w46 ?k6w46 ?_); k_dflt ((case dby1w46 => rfl); (case k1w46 => k_mem); (case k4w46 => k_mem); (case k2w46 => rfl); (case k3w46 => rfl); (case k5w46 => rfl); (case k6w46 => rfl)); clear lF' lN'; intro i' l1; (try k_lt l1))
  k_with "compareOp NotEq ref ref" => (k_here; (with_reducible show wpAny _ _ (compareOp CmpOp.NotEq (Value.ref _) (Value.ref _)) _ _ _); (first | (with_reducible refine' ne_same ?k1w47 ?k2w47 ?k3w47 ?k4w47 ?k5w47 ?k6w47 ?_) | k_dflt refine' ne_same ?k1w47 ?k2w47 ?k3w47 ?k4w47 ?k5w47 ?k6w47 ?_); k_dflt ((case k1w47 => (refine' News.isList ?dby1w47 ?dby2w47; (case dby1w47 => k_asm); (case dby2w47 => k_mem))); (case k2w47 => with_reducible assumption); (case k3w47 => (refine' News.isList ?dby3w47 ?dby4w47; (case dby3w47 => k_asm); (case dby4w47 => k_mem))); (case k4w47 => with_reducible assumption); (case k5w47 => units_room); (case k6w47 => (refine' law_end2 ?dby5w47 ?dby6w47 ?dby7w47 ?dby8w47 ?dby9w47 ?dby10w47 ?dby11w47 ?dby12w47 ?dby13w47; (case dby5w47 => k_asm); (case dby6w47 => k_asm); (case dby7w47 => k_asm); (case dby8w47 => k_asm); (case dby9w47 => k_asm); (case dby10w47 => k_asm); (case dby11w47 => k_asm); (case dby12w47 => k_asm); (case dby13w47 => rfl))); k_whole))
  k_with "LENLE" => with_reducible (first | exact lenle_rep | exact lenle_one | assumption | (refine' lenle_map ?dby1w48 ?dby2w48; (case dby1w48 => k_asm); (case dby2w48 => k_asm)) | (apply lenle_app <;> k_extra "LENLE"))
  k_with "binaryOp Add ref ref" => (k_here; (with_reducible show wpAny _ _ (binaryOp _ (Value.ref _) (Value.ref _)) _ _ _); (first | (with_reducible refine' add_fit ?Fw49 ?Nw49 ?k1w49 ?k2w49 ?k3w49 ?k4w49 ?k5w49 ?k6w49 ?k7w49 ?_) | k_dflt refine' add_fit ?Fw49 ?Nw49 ?k1w49 ?k2w49 ?k3w49 ?k4w49 ?k5w49 ?k6w49 ?k7w49 ?_); k_dflt ((case Fw49 => k_asm); (case Nw49 => k_asm); (case k1w49 => kmk_list); (case k2w49 => kmk_list); (case k3w49 => l_ints); (case k4w49 => l_ints); (case k5w49 => k_extra "LENLE"); (case k6w49 => k_extra "LENLE"); (case k7w49 => decide)); intro D' ws' h' F' N' l1 hI'; (try k_lt l1); (try k_sweep))
  k_with "getMethod ref" => (k_here; (with_reducible show wpAny _ _ (getMethod (Value.ref _) (Str.ofString "shake256") _) _ _ _); (first | (with_reducible refine' kmu_own ?k1w50 ?k2w50 ?k3w50 ?k4w50 ?k5w50 ?_) | k_dflt refine' kmu_own ?k1w50 ?k2w50 ?k3w50 ?k4w50 ?k5w50 ?_); k_dflt ((case k1w50 => k_asm); (case k2w50 => k_asm); (case k3w50 => k_inst); (case k4w50 => k_is); (case k5w50 => k_is); k_whole))
  k_with "getMethod ref" => (k_here; (with_reducible show wpAny _ _ (getMethod (Value.ref _) (Str.ofString "algorithm") _) _ _ _); (first | (with_reducible refine' kmu_own ?k1w51 ?k2w51 ?k3w51 ?k4w51 ?k5w51 ?_) | k_dflt refine' kmu_own ?k1w51 ?k2w51 ?k3w51 ?k4w51 ?k5w51 ?_); k_dflt ((case k1w51 => k_asm); (case k2w51 => k_asm); (case k3w51 => k_inst); (case k4w51 => k_is); (case k5w51 => k_is); k_whole))
  k_with "getMethod ref" => (k_here; (with_reducible show wpAny _ _ (getMethod (Value.ref _) (Str.ofString "br") _) _ _ _); (first | (with_reducible refine' kmu_sm ?k1w52 ?k2w52 ?k4w52 ?k5w52 ?k6w52 ?k7w52 ?k8w52 ?k9w52 ?k10w52 ?k11w52 ?k12w52 ?k13w52 ?k14w52 ?_) | k_dflt refine' kmu_sm ?k1w52 ?k2w52 ?k4w52 ?k5w52 ?k6w52 ?k7w52 ?k8w52 ?k9w52 ?k10w52 ?k11w52 ?k12w52 ?k13w52 ?k14w52 ?_); k_dflt ((case k1w52 => k_asm); (case k2w52 => k_asm); (case k4w52 => k_inst); (case k5w52 => k_is); (case k6w52 => k_is); (case k7w52 => k_is); (case k8w52 => k_is); (case k9w52 => k_is); (case k10w52 => k_is); (case k11w52 => decide +kernel); (case k12w52 => k_get); (case k13w52 => k_is); (case k14w52 => k_handed); k_whole))
  k_with "WhlIf" => ((first | (with_reducible refine WhlIf.no ?k1w53 ?_) | k_dflt refine WhlIf.no ?k1w53 ?_); k_dflt ((case k1w53 => (refine' no680 ?dby1w53; (case dby1w53 => k_asm)))))
  k_with "subscriptTail" => (k_here; (with_reducible show wpAny _ _ (subscriptTail _ _ (Value.bytes _ _) (Value.int _ _)) _ _ _); (first | (with_reducible refine' item0 ?k1w54 ?_ ?k2w54) | k_dflt refine' item0 ?k1w54 ?_ ?k2w54); k_dflt ((case k1w54 => k_asm); (case k2w54 => with_unfolding_all rfl)); intro x9 _ _ hx9 hx0 hx1)
  k_with "subscriptTail Call Attribute cons nil Constant bytes int" => (k_here; (with_reducible show wpAny _ _ (subscriptTail _ _ (Value.bytes _ _) (Value.int _ _)) _ _ _); (first | (with_reducible refine' item0 ?k1w55 ?_ ?k2w55) | k_dflt refine' item0 ?k1w55 ?_ ?k2w55); k_dflt ((case k1w55 => k_asm); (case k2w55 => with_unfolding_all rfl)); intro x9 _ _ hx9 hx0 hx1)
  k_with "binaryOp BitAnd int int" => (k_here; (with_reducible show wpAny _ _ (binaryOp _ (Value.int _ _) (Value.int 1 _)) _ _ _); ((refine' and1 ?dby1w56 ?_; (case dby1w56 => k_asm))); intro z9 hz9 hz0 hz1)
  k_with "inplaceOp RShift int int" => (k_here; (with_reducible show wpAny _ _ (inplaceOp _ (Value.int _ _) (Value.int 1 _)) _ _ _); ((refine' rsh1 ?dby1w57 ?_; (case dby1w57 => k_asm))); intro q9 hq9)
  k_with "binaryOp Mult int int" => (k_here; (with_reducible show wpAny _ _ (binaryOp _ (Value.int 2 _) (Value.int _ _)) _ _ _); (refine mul2 ?_))
  k_with "subscriptTail" => (k_here; (with_reducible show wpAny _ _ (subscriptTail _ _ (Value.ref _) (Value.int _ _)) _ _ _); (first | (with_reducible refine' ksa_sub ?k1w59 ?k2w59 ?k3w59 ?k4w59 ?k5w59 ?k6w59 ?_ ?k7w59) | k_dflt refine' ksa_sub ?k1w59 ?k2w59 ?k3w59 ?k4w59 ?k5w59 ?k6w59 ?_ ?k7w59); k_dflt ((case k1w59 => k_asm); (case k2w59 => k_mem); (case k3w59 => with_reducible assumption); (case k5w59 => (refine' ball_lt ?dby1w59 ?dby2w59; (case dby1w59 => k_asm); (case dby2w59 => k_asm))); (case k4w59 => k_asm); (case k6w59 => (refine' fit63 ?dby3w59; (case dby3w59 => k_asm))); (case k7w59 => with_unfolding_all rfl); k_whole); intro _)
  k_with "subscriptTail Name Name ref int" => (k_here; (with_reducible show wpAny _ _ (subscriptTail _ _ (Value.ref _) (Value.int _ _)) _ _ _); (first | (with_reducible refine' ksa_sub ?k1w60 ?k2w60 ?k3w60 ?k4w60 ?k5w60 ?k6w60 ?_ ?k7w60) | k_dflt refine' ksa_sub ?k1w60 ?k2w60 ?k3w60 ?k4w60 ?k5w60 ?k6w60 ?_ ?k7w60); k_dflt ((case k1w60 => k_asm); (case k2w60 => k_mem); (case k3w60 => with_reducible assumption); (case k5w60 => (refine' ball_lt ?dby1w60 ?dby2w60; (case dby1w60 => k_asm); (case dby2w60 => k_asm))); (case k4w60 => k_asm); (case k6w60 => (refine' fit63 ?dby3w60; (case dby3w60 => k_asm))); (case k7w60 => with_unfolding_all rfl); k_whole); intro _)
  k_with "setItem ref int" => (k_here; (with_reducible show wpAny _ _ (setItem (Value.ref _) (Value.int _ _) (Value.int _ _)) _ _ _); (first | (with_reducible refine' ksa_set ?k1w61 ?k2w61 ?k3w61 ?k4w61 ?k5w61 ?k6w61 ?k7w61 ?_) | k_dflt refine' ksa_set ?k1w61 ?k2w61 ?k3w61 ?k4w61 ?k5w61 ?k6w61 ?k7w61 ?_); k_dflt ((case k1w61 => k_asm); (case k2w61 => k_asm); (case k3w61 => k_upd); (case k4w61 => with_reducible assumption); (case k6w61 => first | (refine' (BallW.ilt ?dby1w61 ?dby2w61 ?dby3w61).2.1; (case dby1w61 => k_asm); (case dby2w61 => k_asm); (case dby3w61 => k_asm)) | (refine' ball_lt2 ?dby4w61 ?dby5w61; (case dby4w61 => k_asm); (case dby5w61 => k_asm)) | (refine' row_lt ?dby6w61 ?dby7w61; (case dby6w61 => k_asm); (case dby7w61 => k_asm))); (case k5w61 => first | with_reducible assumption | (refine' (BallW.ilt ?dby8w61 ?dby9w61 ?dby10w61).1; (case dby8w61 => k_asm); (case dby9w61 => k_asm); (case dby10w61 => k_asm))); (case k7w61 => first | (refine' fit63 ?dby11w61; (case dby11w61 => k_asm)) | (refine' BallW.ifit ?dby12w61 ?dby13w61 ?dby14w61; (case dby12w61 => k_asm); (case dby13w61 => k_asm); (case dby14w61 => k_asm)) | (refine' row63 ?dby15w61; (case dby15w61 => k_asm))); k_whole); intro h' F' N' hi' hl' hs'; (try k_sweep))
  k_with "setItem ref int int" => (k_here; (with_reducible show wpAny _ _ (setItem (Value.ref _) (Value.int _ _) (Value.int _ _)) _ _ _); (first | (with_reducible refine' ksa_set ?k1w62 ?k2w62 ?k3w62 ?k4w62 ?k5w62 ?k6w62 ?k7w62 ?_) | k_dflt refine' ksa_set ?k1w62 ?k2w62 ?k3w62 ?k4w62 ?k5w62 ?k6w62 ?k7w62 ?_); k_dflt ((case k1w62 => k_asm); (case k2w62 => k_asm); (case k3w62 => k_upd); (case k4w62 => with_reducible assumption); (case k6w62 => first | (refine' (BallW.ilt ?dby1w62 ?dby2w62 ?dby3w62).2.1; (case dby1w62 => k_asm); (case dby2w62 => k_asm); (case dby3w62 => k_asm)) | (refine' ball_lt2 ?dby4w62 ?dby5w62; (case dby4w62 => k_asm); (case dby5w62 => k_asm)) | (refine' row_lt ?dby6w62 ?dby7w62; (case dby6w62 => k_asm); (case dby7w62 => k_asm))); (case k5w62 => first | with_reducible assumption | (refine' (BallW.ilt ?dby8w62 ?dby9w62 ?dby10w62).1; (case dby8w62 => k_asm); (case dby9w62 => k_asm); (case dby10w62 => k_asm))); (case k7w62 => first | (refine' fit63 ?dby11w62; (case dby11w62 => k_asm)) | (refine' BallW.ifit ?dby12w62 ?dby13w62 ?dby14w62; (case dby12w62 => k_asm); (case dby13w62 => k_asm); (case dby14w62 => k_asm)) | (refine' row63 ?dby15w62; (case dby15w62 => k_asm))); k_whole); intro h' F' N' hi' hl' hs'; (try k_sweep))
  k_with "LIT" => first | (refine' Lit.cons ?klcw64; (case klcw64 => k_extra "LIT")) | exact Lit.nil
  k_with "LTALL" => first | with_reducible assumption | ((refine' LtAll.up ?dby1w66 ?_; (case dby1w66 => first | with_reducible assumption | exact lt_suc _)); k_extra "LTALL") | (refine LtAll.suc ?_; k_extra "LTALL")
  k_with "SUBN" => first | exact SubN.nil | (apply SubN.keep; k_extra "SUBN") | (apply SubN.skip; k_extra "SUBN")
  k_with "NELIT" => first | exact NeAll.nil | (refine' LtAll.ne ?dby1w68; (case dby1w68 => with_reducible assumption)) | ((refine' NeAll.cons ?dby22w68 ?_; (case dby22w68 => first | (refine' lt_ne1 ?dby2w68 ?dby3w68; (case dby2w68 => with_reducible assumption); (case dby3w68 => k_extra "MEMN")) | (refine' lt_ne2 ?dby4w68 ?dby5w68; (case dby4w68 => with_reducible assumption); (case dby5w68 => k_extra "MEMN")) | (refine' ne_ne1 ?dby6w68 ?dby7w68; (case dby6w68 => with_reducible assumption); (case dby7w68 => k_extra "MEMN")) | (refine' ne_ne2 ?dby8w68 ?dby9w68; (case dby8w68 => with_reducible assumption); (case dby9w68 => k_extra "MEMN")) | (refine' lt_ne1 (LtAll.suc ?dby10w68) ?dby11w68; (case dby10w68 => with_reducible assumption); (case dby11w68 => k_extra "MEMN")) | (refine' lt_ne1 (LtAll.suc (LtAll.suc ?dby12w68)) ?dby13w68; (case dby12w68 => with_reducible assumption); (case dby13w68 => k_extra "MEMN")) | (refine' lt_ne1 (LtAll.suc (LtAll.suc (LtAll.suc ?dby14w68))) ?dby15w68; (case dby14w68 => with_reducible assumption); (case dby15w68 => k_extra "MEMN")) | (refine' lt_ne2 (LtAll.suc ?dby16w68) ?dby17w68; (case dby16w68 => with_reducible assumption); (case dby17w68 => k_extra "MEMN")) | (refine' lt_ne2 (LtAll.suc (LtAll.suc ?dby18w68)) ?dby19w68; (case dby18w68 => with_reducible assumption); (case dby19w68 => k_extra "MEMN")) | (refine' lt_ne2 (LtAll.suc (LtAll.suc (LtAll.suc ?dby20w68))) ?dby21w68; (case dby20w68 => with_reducible assumption); (case dby21w68 => k_extra "MEMN")) | decide | omega)); k_extra "NELIT")
  k_with "NEALL" => first | with_reducible assumption | (refine' LtAll.ne ?dby1w69; (case dby1w69 => with_reducible assumption)) | (refine' NeAll.cons ?dby2w69 NeAll.nil; (case dby2w69 => decide)) | exact NeAll.nil | (refine' LtAll.ne (LtAll.add ?dby3w69); (case dby3w69 => with_reducible assumption)) | (refine' LtAll.ne (LtAll.suc ?dby4w69); (case dby4w69 => with_reducible assumption)) | (refine' LtAll.ne (LtAll.suc (LtAll.suc ?dby5w69)); (case dby5w69 => with_reducible assumption)) | (refine' LtAll.ne (LtAll.suc (LtAll.suc (LtAll.suc ?dby6w69))); (case dby6w69 => with_reducible assumption)) | ((refine' NeAll.cons ?dby10w69 ?_; (case dby10w69 => first | (refine' add_ne ?dby7w69; (case dby7w69 => decide)) | (refine' add_ne0 ?dby8w69; (case dby8w69 => decide)) | (refine' add_ne1 ?dby9w69; (case dby9w69 => decide)) | exact suc1_ne | exact suc2_ne | exact suc3_ne)); k_extra "NEALL") | (refine' NeAll.sub (LtAll.ne ?dby11w69) ?dby12w69; (case dby11w69 => with_reducible assumption); (case dby12w69 => k_extra "SUBN")) | (refine' NeAll.sub ?dby13w69 ?dby14w69; (case dby13w69 => with_reducible assumption); (case dby14w69 => k_extra "SUBN")) | (refine' NeAll.sub (LtAll.ne (LtAll.suc ?dby15w69)) ?dby16w69; (case dby15w69 => with_reducible assumption); (case dby16w69 => k_extra "SUBN")) | (refine' NeAll.sub (LtAll.ne (LtAll.suc (LtAll.suc ?dby17w69))) ?dby18w69; (case dby17w69 => with_reducible assumption); (case dby18w69 => k_extra "SUBN")) | (refine' NeAll.sub (LtAll.ne (LtAll.suc (LtAll.suc (LtAll.suc ?dby19w69)))) ?dby20w69; (case dby19w69 => with_reducible assumption); (case dby20w69 => k_extra "SUBN")) | k_extra "NELIT"
  k_with "NODUP" => first | with_reducible assumption | exact Nd.nil | ((refine' Nd.cons ?dby1w70 ?_; (case dby1w70 => k_extra "NEALL")); k_extra "NODUP")
  k_with "POS" => first | (refine' PosU.head ?kplw71; (case kplw71 => k_extra "LIT")) | (refine' PosU.tail ?kptw71; (case kptw71 => k_extra "POS"))
  k_with "POSF" => first | (refine' PosF.head ?kplw72; (case kplw72 => k_extra "LIT")) | (refine' PosF.tail ?kptw72; (case kptw72 => k_extra "POSF"))
  k_with "T_K_UPD" => (refine' upd_nd ?kuaw73 ?kubw73 ?kucw73; (case kuaw73 => k_extra "POS"); (case kubw73 => ((try dsimp only); k_extra "NODUP")); (case kucw73 => k_all))
  k_with "T_K_UPDF" => (refine' updF_nd ?kuaw74 ?kubw74 ?kucw74; (case kuaw74 => k_extra "POSF"); (case kubw74 => ((try dsimp only); k_extra "NODUP")); (case kucw74 => k_all))
  k_with "MEMN" => first | exact List.Mem.head _ | (refine List.Mem.tail _ ?_; k_extra "MEMN")
  k_with "T_K_NE" => ((refine neN ?_); (try dsimp only); first | (refine' lt_ne1 ?dby1w76 ?dby2w76; (case dby1w76 => with_reducible assumption); (case dby2w76 => k_extra "MEMN")) | (refine' lt_ne2 ?dby3w76 ?dby4w76; (case dby3w76 => with_reducible assumption); (case dby4w76 => k_extra "MEMN")) | (refine' ne_ne1 ?dby5w76 ?dby6w76; (case dby5w76 => with_reducible assumption); (case dby6w76 => k_extra "MEMN")) | (refine' ne_ne2 ?dby7w76 ?dby8w76; (case dby7w76 => with_reducible assumption); (case dby8w76 => k_extra "MEMN")) | (refine' lt_ne1 (LtAll.add ?dby9w76) ?dby10w76; (case dby9w76 => with_reducible assumption); (case dby10w76 => k_extra "MEMN")) | (refine' lt_ne2 (LtAll.add ?dby11w76) ?dby12w76; (case dby11w76 => with_reducible assumption); (case dby12w76 => k_extra "MEMN")) | (refine' lt_ne1 (LtAll.suc ?dby13w76) ?dby14w76; (case dby13w76 => with_reducible assumption); (case dby14w76 => k_extra "MEMN")) | (refine' lt_ne2 (LtAll.suc ?dby15w76) ?dby16w76; (case dby15w76 => with_reducible assumption); (case dby16w76 => k_extra "MEMN")) | (refine' lt_ne1 (LtAll.suc (LtAll.suc ?dby17w76)) ?dby18w76; (case dby17w76 => with_reducible assumption); (case dby18w76 => k_extra "MEMN")) | (refine' lt_ne2 (LtAll.suc (LtAll.suc ?dby19w76)) ?dby20w76; (case dby19w76 => with_reducible assumption); (case dby20w76 => k_extra "MEMN")) | (refine' lt_ne1 (LtAll.suc (LtAll.suc (LtAll.suc ?dby21w76))) ?dby22w76; (case dby21w76 => with_reducible assumption); (case dby22w76 => k_extra "MEMN")) | (refine' lt_ne2 (LtAll.suc (LtAll.suc (LtAll.suc ?dby23w76))) ?dby24w76; (case dby23w76 => with_reducible assumption); (case dby24w76 => k_extra "MEMN")) | omega)
  k_with "FinE" => ((unfold LCg.FinE); intro D' h' tk' F' N' o1'; (try simp only [List.nil_append, List.cons_append] at o1'); (replace o1' := neAll_lit o1' (by k_extra "LIT")); (try dsimp only at o1'); (try simp only [List.nil_append, List.cons_append] at N'); (try dsimp only))
  k_with "FinA" => ((unfold LCg.FinA); intro D' h' tk' F' N' o1'; (try simp only [List.nil_append, List.cons_append] at o1'); (replace o1' := neAll_lit o1' (by k_extra "LIT")); (try dsimp only at o1'); (try simp only [List.nil_append, List.cons_append] at N'); (try dsimp only))
  k_with "subscriptTail" => (k_here; (with_reducible show wpAny _ _ (subscriptTail _ (Expr.Slice none _ none _) (Value.ref _) (Value.ref _)) _ _ _); (first | (with_reducible refine' cut_top (s := ⟨_, _, _, _, _⟩) ?ctFw79 ?ctNw79 ?ctlw79 ?ctiw79 ?ct0w79 ?ctnw79 ?ctzw79 ?_ ?cttw79) | k_dflt refine' cut_top (s := ⟨_, _, _, _, _⟩) ?ctFw79 ?ctNw79 ?ctlw79 ?ctiw79 ?ct0w79 ?ctnw79 ?ctzw79 ?_ ?cttw79); k_dflt ((case ctFw79 => k_asm); (case ctNw79 => k_asm); (case ctlw79 => (refine' News.isList ?dby1w79 ?dby2w79; (case dby1w79 => k_asm); (case dby2w79 => k_mem))); (case ctiw79 => with_reducible assumption); (case ct0w79 => decide); (case ctnw79 => k_extra "LENLE"); (case ctzw79 => decide); (case cttw79 => (intro _; with_unfolding_all rfl))); intro D' ws' h' F' N' l1 hI'; (try simp only [Int.reduceToNat] at hI'); (try k_lt l1); (try k_sweep))
  k_with "subscriptTail Name Slice ref ref" => (k_here; (with_reducible show wpAny _ _ (subscriptTail _ (Expr.Slice none _ none _) (Value.ref _) (Value.ref _)) _ _ _); (first | (with_reducible refine' cut_top (s := ⟨_, _, _, _, _⟩) ?ctFw80 ?ctNw80 ?ctlw80 ?ctiw80 ?ct0w80 ?ctnw80 ?ctzw80 ?_ ?cttw80) | k_dflt refine' cut_top (s := ⟨_, _, _, _, _⟩) ?ctFw80 ?ctNw80 ?ctlw80 ?ctiw80 ?ct0w80 ?ctnw80 ?ctzw80 ?_ ?cttw80); k_dflt ((case ctFw80 => k_asm); (case ctNw80 => k_asm); (case ctlw80 => (refine' News.isList ?dby1w80 ?dby2w80; (case dby1w80 => k_asm); (case dby2w80 => k_mem))); (case ctiw80 => with_reducible assumption); (case ct0w80 => decide); (case ctnw80 => k_extra "LENLE"); (case ctzw80 => decide); (case cttw80 => (intro _; with_unfolding_all rfl))); intro D' ws' h' F' N' l1 hI'; (try simp only [Int.reduceToNat] at hI'); (try k_lt l1); (try k_sweep))
  k_with "call builtin:len" => (k_here; (with_reducible show wpAny _ _ (call (Value.builtin "len") [Value.ref _]) _ _ _); (first | (with_reducible refine' len256 ?ll1w81 ?ll2w81 ?ll3w81 ?_) | k_dflt refine' len256 ?ll1w81 ?ll2w81 ?ll3w81 ?_); k_dflt ((case ll1w81 => (refine' News.isList ?dby1w81 ?dby2w81; (case dby1w81 => k_asm); (case dby2w81 => k_mem))); (case ll2w81 => with_reducible assumption); (case ll3w81 => with_reducible assumption)))
  k_with "call builtin:len cons nil" => (k_here; (with_reducible show wpAny _ _ (call (Value.builtin "len") [Value.ref _]) _ _ _); (first | (with_reducible refine' len256 ?ll1w82 ?ll2w82 ?ll3w82 ?_) | k_dflt refine' len256 ?ll1w82 ?ll2w82 ?ll3w82 ?_); k_dflt ((case ll1w82 => (refine' News.isList ?dby1w82 ?dby2w82; (case dby1w82 => k_asm); (case dby2w82 => k_mem))); (case ll2w82 => with_reducible assumption); (case ll3w82 => with_reducible assumption)))
  k_with "InvEndN" => (k_dflt kst_close)
  k_with "KswEnd" => (k_dflt ksw_close)
  k_with "binaryOp Pow int int" => (k_here; (with_reducible show wpAny _ _ (binaryOp _ (Value.int 2 _) (Value.int (Int.fmod _ 8) _)) _ _ _); (refine pow8 ?_))
  k_with "binaryOp FloorDiv int int" => (k_here; (with_reducible show wpAny _ _ (binaryOp _ (Value.int _ _) (Value.int (2 ^ Int.toNat (Int.fmod _ 8)) _)) _ _ _); (refine div8 ?_))
  k_with "call builtin:isinstance" => (k_here; (with_reducible show wpAny _ _ (call _ [Value.ref _, Value.type _]) _ _ _); kit_cont; (first | (with_reducible refine' kia_one kitx_list ?kiXw87 ?kicw87 ?kiew87 ?kinw87 ?_) | k_dflt refine' kia_one kitx_list ?kiXw87 ?kicw87 ?kiew87 ?kinw87 ?_); k_dflt ((case kicw87 => (refine' kitAt_N ?kiNw87 ?kimw87 ?kiiw87; (case kiNw87 => k_asm); (case kimw87 => k_mem); (case kiiw87 => first | with_reducible rfl | rfl))); (case kiXw87 => k_in); (case kiew87 => kit_is); (case kinw87 => kit_nb); k_whole; intro _))
  k_with "call builtin:isinstance cons nil" => (k_here; (with_reducible show wpAny _ _ (call _ [Value.ref _, Value.type _]) _ _ _); kit_cont; (first | (with_reducible refine' kia_one kitx_list ?kiXw88 ?kicw88 ?kiew88 ?kinw88 ?_) | k_dflt refine' kia_one kitx_list ?kiXw88 ?kicw88 ?kiew88 ?kinw88 ?_); k_dflt ((case kicw88 => (refine' kitAt_N ?kiNw88 ?kimw88 ?kiiw88; (case kiNw88 => k_asm); (case kimw88 => k_mem); (case kiiw88 => first | with_reducible rfl | rfl))); (case kiXw88 => k_in); (case kiew88 => kit_is); (case kinw88 => kit_nb); k_whole; intro _))
  k_with "TWO" => first | (refine' Two.hitA ?ktww89; (case ktww89 => k_extra "TWO")) | (refine' Two.hitB ?ktww89; (case ktww89 => k_extra "TWO")) | (refine' Two.skip ?ktww89; (case ktww89 => k_extra "TWO")) | exact Two.nil
  k_with "SUF" => first | with_reducible exact Suf.refl | (refine Suf.cons ?_; k_extra "SUF")
  k_with "exec For" => (k_here; (with_reducible show wpAny _ _ (exec (Stmt.For (Expr.Name _ _) (Expr.Call _ _ _ _) (Stmt.While _ _ _ _ :: _) _ _) _) _ _ _); (rename Fr _ _ _ _ => lF'); (first | (with_reducible refine' For_turns lF' ?_) | k_dflt refine' For_turns lF' ?_); k_dflt (k_whole))
  k_with "exec For Name Call cons nil" => (k_here; (with_reducible show wpAny _ _ (exec (Stmt.For (Expr.Name _ _) (Expr.Call _ _ _ _) (Stmt.While _ _ _ _ :: _) _ _) _) _ _ _); (rename Fr _ _ _ _ => lF'); (first | (with_reducible refine' For_turns lF' ?_) | k_dflt refine' For_turns lF' ?_); k_dflt (k_whole))
  k_with "exec For Name Call cons nil nil" => (k_here; (with_reducible show wpAny _ _ (exec (Stmt.For (Expr.Name _ _) (Expr.Call _ _ _ _) (Stmt.While _ _ _ _ :: _) _ _) _) _ _ _); (rename Fr _ _ _ _ => lF'); (first | (with_reducible refine' For_turns lF' ?_) | k_dflt refine' For_turns lF' ?_); k_dflt (k_whole))
  k_with "pyIter ref" => (k_here; (with_reducible show wpAny _ _ (pyIter (Value.ref _)) (fun it s₂ => TurnsAt _ _ _ _ _ (Expr.Name _ _) _ _ _ it s₂) _ _); (rename Fr _ _ _ _ => lF'); (rename News _ _ _ _ => lN'); (rename IsRange _ _ _ _ _ _ _ _ => rgX); (first | (with_reducible refine' law_rangeU (Str.ofString "places") (Str.ofString "taken") _ (LawP _) ?dby1w94 rgX ?k1w94 ?k2w94 lF' lN' ?ke0w94 ?ke1w94 ?ke2w94 ?kTw94 ?kDw94 IntsAre.nil ?kd1w94 ?kd2w94 ?kh2w94 ?kPw94 ?_ ?_) | k_dflt refine' law_rangeU (Str.ofString "places") (Str.ofString "taken") _ (LawP _) ?dby1w94 rgX ?k1w94 ?k2w94 lF' lN' ?ke0w94 ?ke1w94 ?ke2w94 ?kTw94 ?kDw94 IntsAre.nil ?kd1w94 ?kd2w94 ?kh2w94 ?kPw94 ?_ ?_); k_dflt ((case dby1w94 => rfl); (case ke0w94 => exact rfl); (case ke1w94 => rfl); (case ke2w94 => rfl); (case kPw94 => (refine' LawW.start ?dby2w94 ?dby4w94 ?dby6w94; (case dby2w94 => with_reducible assumption); (case dby4w94 => first | with_reducible assumption | (refine' sub64_lo ?dby3w94; (case dby3w94 => k_asm))); (case dby6w94 => first | with_reducible assumption | (refine' sub64_hi ?dby5w94; (case dby5w94 => k_asm))))); (case k1w94 => (refine' small_r ?dby8w94 ?dby10w94; (case dby8w94 => first | with_reducible assumption | (refine' sub64_lo ?dby7w94; (case dby7w94 => k_asm))); (case dby10w94 => first | with_reducible assumption | (refine' sub64_hi ?dby9w94; (case dby9w94 => k_asm))))); (case k2w94 => exact rangeSize_nat _ _); (case kTw94 => k_extra "TWO"); (case kDw94 => ((try dsimp only); k_extra "NEALL")); (case kd1w94 => k_asm); (case kd2w94 => k_asm); (case kh2w94 => with_unfolding_all rfl)); (all_goals (try clear lF' lN' rgX)); (all_goals (first | (intro pre' k' t' c' tc' pl' vs' n' D' ot' oi' v' h' tk' I' o' hk' hlt' hW' hI' d1' d2' hn1' hn2' hn3' F' N'; (try dsimp only at hn1' hn2' hn3'); (try dsimp only [LawP] at hW')) | (intro c' tc' pl' vs' n' D' ot' oi' v' h' tk' hW' hI' d1' d2' hn3' F' N'; (try dsimp only at hn3'); (try dsimp only [LawP] at hW')))))
  k_with "RPost2" => (dsimp only [RPost2])
  k_with "WPost" => (dsimp only [WPost])
  k_with "exec While" => (k_here; (with_reducible show wpAny _ _ (exec (Stmt.While (Expr.Compare (Expr.Subscript _ _ _) _ _ _) _ _ _) _) _ _ _); (rename Fr _ _ _ _ => lF'); (rename News _ _ _ _ => lN'); (first | (with_reducible refine' wh_cell (Str.ofString "taken") (WhP _ _ _) (fun t => (400 - t).toNat) lF' lN' ?ke1w97 ?kUw97 ?kdw97 ?kPw97 ?_) | k_dflt refine' wh_cell (Str.ofString "taken") (WhP _ _ _) (fun t => (400 - t).toNat) lF' lN' ?ke1w97 ?kUw97 ?kdw97 ?kPw97 ?_); k_dflt ((case ke1w97 => rfl); (case kUw97 => k_extra "POSF"); (case kdw97 => k_asm); (case kPw97 => (refine' LawW.wh2 ?dby1w97 ?dby2w97 ?dby3w97; (case dby1w97 => k_asm); (case dby2w97 => k_asm); (case dby3w97 => k_asm)))); (all_goals (try clear lF' lN')); (intro c' tc' o' h' tk' d1' hW' F' N'; (try dsimp only [WhP] at hW')))
  k_with "exec While Compare cons nil" => (k_here; (with_reducible show wpAny _ _ (exec (Stmt.While (Expr.Compare (Expr.Subscript _ _ _) _ _ _) _ _ _) _) _ _ _); (rename Fr _ _ _ _ => lF'); (rename News _ _ _ _ => lN'); (first | (with_reducible refine' wh_cell (Str.ofString "taken") (WhP _ _ _) (fun t => (400 - t).toNat) lF' lN' ?ke1w98 ?kUw98 ?kdw98 ?kPw98 ?_) | k_dflt refine' wh_cell (Str.ofString "taken") (WhP _ _ _) (fun t => (400 - t).toNat) lF' lN' ?ke1w98 ?kUw98 ?kdw98 ?kPw98 ?_); k_dflt ((case ke1w98 => rfl); (case kUw98 => k_extra "POSF"); (case kdw98 => k_asm); (case kPw98 => (refine' LawW.wh2 ?dby1w98 ?dby2w98 ?dby3w98; (case dby1w98 => k_asm); (case dby2w98 => k_asm); (case dby3w98 => k_asm)))); (all_goals (try clear lF' lN')); (intro c' tc' o' h' tk' d1' hW' F' N'; (try dsimp only [WhP] at hW')))
  k_with "WEnd" => ((first | (with_reducible refine' WEnd.intro ?kFw99 ?kNw99 ?kSw99 ?kdw99 ?kPw99 ?kmw99) | k_dflt refine' WEnd.intro ?kFw99 ?kNw99 ?kSw99 ?kdw99 ?kPw99 ?kmw99); k_dflt ((case kFw99 => k_asm); (case kNw99 => k_asm); (case kSw99 => k_subL); (case kdw99 => k_asm); (case kPw99 => (refine' WhW.step2 ?dby1w99 ?dby2w99; (case dby1w99 => k_asm); (case dby2w99 => k_asm))); (case kmw99 => (refine' WhW.less ?dby3w99 ?dby4w99; (case dby3w99 => k_asm); (case dby4w99 => k_asm)))))
  k_with "REnd2" => ((first | (with_reducible refine' REnd2.intro ?kFw100 ?kNw100 ?kh2w100 ?kSw100 ?kDw100 ?kAw100 ?kiw100 ?kd1w100 ?kd2w100 ?kh3w100 ?kPw100) | k_dflt refine' REnd2.intro ?kFw100 ?kNw100 ?kh2w100 ?kSw100 ?kDw100 ?kAw100 ?kiw100 ?kd1w100 ?kd2w100 ?kh3w100 ?kPw100); k_dflt ((case kFw100 => k_asm); (case kNw100 => k_asm); (case kh2w100 => with_unfolding_all rfl); (case kSw100 => (refine' subL_cons ?ksmw100 ?kslw100; (case ksmw100 => k_extra "MEMN"); (case kslw100 => (refine subL_of ?ksow100; (case ksow100 => k_extra "SUBO"))))); (case kDw100 => k_ne); (case kAw100 => (refine' NeAll.suf ?dby2w100 ?dby3w100; (case dby2w100 => first | with_reducible assumption | (refine' LtAll.ne ?dby1w100; (case dby1w100 => with_reducible assumption))); (case dby3w100 => k_extra "SUF"))); (case kiw100 => first | with_reducible assumption | l_ints); (case kd1w100 => k_asm); (case kd2w100 => k_asm); (case kh3w100 => (intro z h1; simp [h1])); (case kPw100 => (refine' LawW.turn3 ?dby4w100 ?dby5w100 ?dby6w100 ?dby7w100; (case dby4w100 => k_asm); (case dby5w100 => k_asm); (case dby6w100 => k_asm); (case dby7w100 => k_asm)))))
  k_with "ItemsRest" => ((first | (with_reducible refine' zip_rest (Str.ofString "place") (Str.ofString "sign") 256 ?_ ?k1w101 ?k2w101 ?k3w101 ?k4w101 ?k5w101 ?k6w101 ?_) | k_dflt refine' zip_rest (Str.ofString "place") (Str.ofString "sign") 256 ?_ ?k1w101 ?k2w101 ?k3w101 ?k4w101 ?k5w101 ?k6w101 ?_); k_dflt ((case k1w101 => with_reducible assumption); (case k2w101 => with_reducible assumption); (case k3w101 => (refine' LawW.places ?dby1w101; (case dby1w101 => with_reducible assumption))); (case k4w101 => with_reducible assumption); (case k5w101 => exact List.length_replicate); (case k6w101 => exact fun _ _ _ => rfl); (all_goals (first | (intro p' q' tp' tq' us' ro' n' u' T' h' tk' hp0' hp1' hl' hI' hT' F'; (try dsimp only at hT'); ktu_objs) | (intro u' us' n' h' tk' hI' F' N')))))
  k_with "ZEnd" => ((first | (with_reducible refine ⟨_, _, rfl, ?kz1w102, ?kz2w102⟩) | k_dflt refine ⟨_, _, rfl, ?kz1w102, ?kz2w102⟩); k_dflt ((case kz1w102 => with_reducible assumption); (case kz2w102 => (intro z h1 h2; simp [h1, h2]))))
  k_with "T_LCG_OFF" => with_reducible assumption
  k_with "CompSrc" => (k_here; k_dflt (((refine' LCg.CompSrc.ledger ?dby1w104 ?dby2w104 ?dby3w104 ?dby4w104 (law_size ?dby5w104 ?dby6w104 ?dby7w104) ?_; (case dby1w104 => rfl); (case dby2w104 => k_asm); (case dby3w104 => k_asm); (case dby4w104 => k_mem); (case dby5w104 => with_reducible assumption); (case dby6w104 => with_reducible assumption); (case dby7w104 => with_reducible assumption))); intro g'; ((refine' kcf_list (gOf ?dby8w104) ?dby9w104 (fun k' t' I' oI' C' oC' D' m' ys' h' tk' E' hk' hC' hx' F' N' off' ne' hMark' => ?_) ?_; (case dby8w104 => with_reducible assumption); (case dby9w104 => with_reducible assumption))); kcf_last))
  k_with "KCfEl" => (k_whole; (with_reducible show KCfEl _ (gOf _ _) _ _); (first | (with_reducible refine' kcf_el (r := gOf _ _) ?kcew105 ?dby1w105 ?dby2w105) | k_dflt refine' kcf_el (r := gOf _ _) ?kcew105 ?dby1w105 ?dby2w105); k_dflt ((case dby1w105 => with_unfolding_all rfl); (case dby2w105 => with_unfolding_all rfl); (case kcew105 => first | (refine' gOf_pos _ ?dby3w105; (case dby3w105 => k_asm)) | (refine' gOf_neg _ ?dby4w105; (case dby4w105 => k_asm)))))
  k_with "SUBO" => first | exact SubO.nil | (refine' SubO.keep ?kskw106; (case kskw106 => k_extra "SUBO")) | (refine' SubO.skip ?kssw106; (case kssw106 => k_extra "SUBO"))
  k_with "SUBL" => first | (refine subL_of ?ksow107; (case ksow107 => k_extra "SUBO")) | (refine' subL_cons ?ksmw107 ?kslw107; (case ksmw107 => k_extra "MEMN"); (case kslw107 => k_extra "SUBL"))
  k_with "T_K_SUBL" => k_extra "SUBL"
  k_with "OFFA" => first | exact OffAll.nil | ((refine' OffAll.cons (LtAll.ne (LtAll.add ?dby1w109)) ?_; (case dby1w109 => with_reducible assumption)); k_extra "OFFA") | ((refine' OffAll.cons (LtAll.ne ?dby2w109) ?_; (case dby2w109 => with_reducible assumption)); k_extra "OFFA")
  k_with "LITX" => first | (apply Lit.cons; k_extra "LITX") | exact Lit.nil
  k_with "T_KTU_OFFL" => ((with_reducible show OffW ((_ + 4, _) :: _) _); (refine' offW_of ?dby1w111 ?dby2w111; (case dby1w111 => k_extra "LITX"); (case dby2w111 => ((try dsimp only); k_extra "OFFA"))))
  k_with "exec FunctionDef" => (k_here; kn_here; (first | (with_reducible refine' nestDef_K ?d0w112 ?k0w112 ?a0w112 ?_) | k_dflt refine' nestDef_K ?d0w112 ?k0w112 ?a0w112 ?_); k_dflt ((case d0w112 => exact rfl); (case k0w112 => exact rfl); (case a0w112 => exact rfl)); ((first | (with_reducible refine' nestHit_K ?Fw112 ?Nw112 ?Tw112 ?Cw112 ?cdw112 ?memw112 ?tw112 ?nw112 ?clw112 ?_) | k_dflt refine' nestHit_K ?Fw112 ?Nw112 ?Tw112 ?Cw112 ?cdw112 ?memw112 ?tw112 ?nw112 ?clw112 ?_); k_dflt ((case Fw112 => k_asm); (case Nw112 => k_asm); (case Tw112 => k_asm); (case cdw112 => exact rfl); (case Cw112 => kn_code); (case memw112 => k_mem); (case tw112 => kn_triples); (case nw112 => kn_hit); (case clw112 => exact rfl); k_whole); intro f' ct' dc' h' tk' F' N' l1; (try dsimp only at N'); (try k_lt l1)))
  k_with "EXB" => (k_here; (with_reducible show wpAny _ _ (execs (Stmt.Assign [Expr.Name (Str.ofString "xof") _] _ _ :: _) _) _ _ _); k_dflt ((with_reducible rename Fr _ _ _ _ => kF9); (fail_if_success (have := mkSeen kF9 (by with_reducible assumption))); (have mkl9 := mkOf kF9); (with_reducible rename News _ _ _ _ => kN9); (have kNd9 := nd_of kN9 (by k_extra "LITX") (by ((try dsimp only); k_extra "NODUP"))); (try dsimp only at kNd9)))
  k_with "EXB" => (k_here; (with_reducible show wpAny _ _ (execs (Stmt.Assign [Expr.Name (Str.ofString "taken") _] _ _ :: _) _) _ _ _); k_dflt ((with_reducible rename Fr _ _ _ _ => kF9); (fail_if_success (have := mkSeen kF9 (by with_reducible assumption))); (have mkl9 := mkOf kF9); (with_reducible rename News _ _ _ _ => kN9); (have kNd9 := nd_of kN9 (by k_extra "LITX") (by ((try dsimp only); k_extra "NODUP"))); (try dsimp only at kNd9)))
  k_with "SUBOX" => first | exact SubO.nil | (apply SubO.keep; k_extra "SUBOX") | exact SubO.refl | (apply SubO.skip; k_extra "SUBOX")
  k_with "T_KST_ALLIN" => (refine' SubO.mem ?dby1w116; (case dby1w116 => k_extra "SUBOX"))
  k_with "T_K_IN" => first | with_reducible assumption | (refine' Frag.In.keeps ?dby1w117 (Fr.keep ?dby2w117); (case dby1w117 => with_reducible assumption); (case dby2w117 => with_reducible assumption))
  k_with "getAttr ref" => (k_here; (first | (with_reducible refine' get_own ?k1w118 ?k2w118 ?k3w118 ?k4w118 ?k5w118 ?k6w118 ?k7w118 ?k8w118 ?k9w118 ?_) | k_dflt refine' get_own ?k1w118 ?k2w118 ?k3w118 ?k4w118 ?k5w118 ?k6w118 ?k7w118 ?k8w118 ?k9w118 ?_); k_dflt ((case k1w118 => with_reducible assumption); (case k2w118 => with_reducible assumption); (case k3w118 => k_inst); (case k4w118 => k_is); (case k5w118 => k_is); (case k6w118 => k_is); (case k7w118 => k_is); (case k8w118 => k_get); (case k9w118 => k_handed); k_whole))
  k_with "eval Name" => (k_here; (fail_if_success (with_reducible show wpAny _ _ (eval _ (compEnvC _ _ _ _)) _ _ _)); name_kind "local"; (with_reducible show wpAny _ _ (eval _ (envOf _ _ _ _ _)) _ _ _); (first | (with_reducible refine' ld ?k1w119 ?k2w119 ?_) | k_dflt refine' ld ?k1w119 ?k2w119 ?_); k_dflt ((case k1w119 => with_reducible assumption); (case k2w119 => exact rfl); k_whole))
  k_with "eval Name" => (k_here; (fail_if_success (with_reducible show wpAny _ _ (eval _ (compEnvC _ _ _ _)) _ _ _)); name_kind "local"; (fail_if_success (with_reducible show wpAny _ _ (eval _ (envOf _ _ _ _ _)) _ _ _)); (first | (with_reducible refine' nameX_L ?Fw120 ?vw120 ?_ ?aw120 ?bw120) | k_dflt refine' nameX_L ?Fw120 ?vw120 ?_ ?aw120 ?bw120); k_dflt ((case Fw120 => with_reducible assumption); (case aw120 => rfl); (case bw120 => rfl); (case vw120 => rfl); k_whole))
  k_with "eval Name" => (k_here; (fail_if_success (with_reducible show wpAny _ _ (eval _ (compEnvC _ _ _ _)) _ _ _)); name_kind "cell"; (first | (with_reducible refine' nameX_C ?Nw121 ?cw121 ?mw121 ?dw121 ?_ ?aw121 ?bw121) | k_dflt refine' nameX_C ?Nw121 ?cw121 ?mw121 ?dw121 ?_ ?aw121 ?bw121); k_dflt ((case aw121 => rfl); (case bw121 => rfl); (case Nw121 => with_reducible assumption); (case cw121 => rfl); (case mw121 => k_mem); (case dw121 => k_asm); k_whole))
  k_with "eval Name" => (k_here; (fail_if_success (with_reducible show wpAny _ _ (eval _ (compEnvC _ _ _ _)) _ _ _)); name_kind "free"; (first | (with_reducible refine' nameX_F ?Nw122 ?cw122 ?mw122 ?dw122 ?_ ?aw122 ?bw122) | k_dflt refine' nameX_F ?Nw122 ?cw122 ?mw122 ?dw122 ?_ ?aw122 ?bw122); k_dflt ((case aw122 => rfl); (case bw122 => rfl); (case Nw122 => with_reducible assumption); (case cw122 => rfl); (case mw122 => k_mem); (case dw122 => k_asm); k_whole))
  k_with "callWith ref" => (k_here; (first | (with_reducible refine' callWith_K ?k1w123 ?k2w123 ?_) | k_dflt refine' callWith_K ?k1w123 ?k2w123 ?_); k_dflt ((case k1w123 => with_reducible assumption); (case k2w123 => k_is); k_whole))
  k_with "callWith ref nil nil" => (k_here; (first | (with_reducible refine' callWith_K ?k1w124 ?k2w124 ?_) | k_dflt refine' callWith_K ?k1w124 ?k2w124 ?_); k_dflt ((case k1w124 => with_reducible assumption); (case k2w124 => k_is); k_whole))
  k_with "execs cons" => (k_here; (with_reducible show wpAny _ _ (execs (Stmt.Assign [Expr.Name _ _] _ _ :: _) _) _ _ _); k_extra "EXB")
  k_with "execs cons" => (k_here; (with_reducible show wpAny _ _ _ _ _ (Shared.mk _ _ _ (_ + _) _)); (refine gen_tk ?_); intro tk')
  k_with "execs nil" => (k_here; (with_reducible show wpAny _ _ _ _ _ (Shared.mk _ _ _ (_ + _) _)); (refine gen_tk ?_); intro tk')
  k_with "execs cons" => (k_here; (fail_if_success (with_reducible (refine' abs_chk ?dby1w128 ?_; (case dby1w128 => with_reducible assumption)))); (refine abs_QE ?_); intro Q' hQ')
  k_with "EXA" => (k_here; (with_reducible show wpAny _ _ (execs (Stmt.For (Expr.Tuple _ _ _) (Expr.Tuple _ _ _) _ _ _ :: _) _) _ _ _); (fail_if_success (with_reducible rename Mk 4 => mk1)); (have mk1 : Mk 4 := Mk.mk); ((with_reducible rename News _ _ _ _ => kN9); (have kN8 := News.prune kN9 (SubO.skip (SubO.skip (SubO.skip (SubO.keep (SubO.keep (SubO.skip (SubO.skip (SubO.skip (SubO.skip (SubO.keep (SubO.keep (SubO.keep (SubO.keep (SubO.keep (SubO.skip (SubO.keep (SubO.skip (SubO.skip (SubO.keep (SubO.skip (SubO.skip (SubO.skip (SubO.keep (SubO.keep (SubO.nil)))))))))))))))))))))))))); clear kN9))
  k_with "EXA" => (k_here; (with_reducible show wpAny _ _ (execs (Stmt.If (Expr.BoolOp _ _ _) _ _ _ :: _) _) _ _ _); (fail_if_success (with_reducible rename Mk 5 => mk1)); (have mk1 : Mk 5 := Mk.mk); ((with_reducible rename News _ _ _ _ => kN9); (have kN8 := News.prune kN9 (SubO.keep (SubO.keep (SubO.keep (SubO.skip (SubO.skip (SubO.skip (SubO.skip (SubO.skip (SubO.skip (SubO.skip (SubO.skip (SubO.skip (SubO.skip (SubO.skip (SubO.keep (SubO.keep (SubO.keep (SubO.keep (SubO.keep (SubO.keep (SubO.keep (SubO.keep (SubO.keep (SubO.keep (SubO.keep (SubO.keep (SubO.keep (SubO.keep (SubO.keep (SubO.keep (SubO.nil)))))))))))))))))))))))))))))))); clear kN9))
  k_with "EXA" => (k_here; (with_reducible show wpAny _ _ (execs (Stmt.Assign [Expr.Name (Str.ofString "told") _] _ _ :: _) _) _ _ _); (with_reducible rename Mk 5 => mk5); (fail_if_success (with_reducible rename Mk 6 => mk1)); (have mk1 : Mk 6 := Mk.mk); ((with_reducible rename News _ _ _ _ => kN9); (have kN8 := News.prune kN9 (SubO.keep (SubO.skip (SubO.skip (SubO.skip (SubO.skip (SubO.skip (SubO.skip (SubO.skip (SubO.skip (SubO.skip (SubO.skip (SubO.skip (SubO.skip (SubO.skip (SubO.skip (SubO.skip (SubO.keep (SubO.keep (SubO.keep (SubO.keep (SubO.keep (SubO.keep (SubO.keep (SubO.keep (SubO.keep (SubO.keep (SubO.keep (SubO.keep (SubO.keep (SubO.keep (SubO.keep (SubO.nil))))))))))))))))))))))))))))))))); clear kN9))
  k_with "EXA" => (k_here; (with_reducible show wpAny _ _ (execs (Stmt.If (Expr.BoolOp _ _ _) _ _ _ :: _) _) _ _ _); (with_reducible rename Mk 6 => mk6); (fail_if_success (with_reducible rename Mk 7 => mk1)); (have mk1 : Mk 7 := Mk.mk); ((with_reducible rename News _ _ _ _ => kN9); (have kN8 := News.prune kN9 (SubO.keep (SubO.keep (SubO.keep (SubO.skip (SubO.skip (SubO.skip (SubO.skip (SubO.skip (SubO.skip (SubO.skip (SubO.skip (SubO.skip (SubO.skip (SubO.skip (SubO.keep (SubO.keep (SubO.keep (SubO.keep (SubO.keep (SubO.skip (SubO.skip (SubO.skip (SubO.skip (SubO.skip (SubO.skip (SubO.skip (SubO.keep (SubO.keep (SubO.keep (SubO.keep (SubO.nil)))))))))))))))))))))))))))))))); clear kN9))
  k_with "MEMR" => first | exact mem0 | exact mem1 | exact mem2 | exact mem3 | (refine mem4 ?_; k_extra "MEMR")
  k_with "T_K_MEM" => with_reducible (k_extra "MEMR")
  k_with "T_K_INST" => first | (refine' InstAt.of_news ?inNw135 ?inhw135 ?iniw135; (case inNw135 => with_reducible assumption); (case inhw135 => with_reducible (k_extra "MEMR")); (case iniw135 => with_reducible (k_extra "MEMR"))) | (refine' InstAt.of_K ?inXw135 ?inhw135 ?iniw135; (case inXw135 => first | with_reducible assumption | (refine' Frag.In.keeps ?inxw135 (Fr.keep ?inyw135); (case inyw135 => with_reducible assumption); (case inxw135 => with_reducible assumption))); (case inhw135 => k_is); (case iniw135 => k_is))
  k_with "callWith ref" => (k_here; kfb_any; (first | (with_reducible refine' KFB.callWith_bound ?fbNw136 ?fbMw136 ?_) | k_dflt refine' KFB.callWith_bound ?fbNw136 ?fbMw136 ?_); k_dflt ((case fbNw136 => with_reducible assumption); (case fbMw136 => with_reducible (k_extra "MEMR")); k_whole))
  k_with "callWith ref nil nil" => (k_here; kfb_any; (first | (with_reducible refine' KFB.callWith_bound ?fbNw137 ?fbMw137 ?_) | k_dflt refine' KFB.callWith_bound ?fbNw137 ?fbMw137 ?_); k_dflt ((case fbNw137 => with_reducible assumption); (case fbMw137 => with_reducible (k_extra "MEMR")); k_whole))
  k_with "callWith ref" => (k_here; kn_here; (first | (with_reducible refine' callWith_F ?k1w138 ?_) | k_dflt refine' callWith_F ?k1w138 ?_); k_dflt ((case k1w138 => (refine' FnAt.of ?fnNw138 ?fnMw138; (case fnNw138 => with_reducible assumption); (case fnMw138 => with_reducible (k_extra "MEMR")))); k_whole))
  k_with "callWith ref nil nil" => (k_here; kn_here; (first | (with_reducible refine' callWith_F ?k1w139 ?_) | k_dflt refine' callWith_F ?k1w139 ?_); k_dflt ((case k1w139 => (refine' FnAt.of ?fnNw139 ?fnMw139; (case fnNw139 => with_reducible assumption); (case fnMw139 => with_reducible (k_extra "MEMR")))); k_whole))
  k_with "call ref" => (k_here; kn_here; (first | (with_reducible refine wpAny_call ?_) | k_dflt refine wpAny_call ?_); k_dflt (first | ((first | (with_reducible refine' kdv_codeE ?k1w140 ?k2w140 ?k3w140 ?k4w140 ?k5w140 ?kAw140 ?kFw140 ?kKw140 ?k6w140 ?k7w140 ?k8w140 ?k9w140 ?kBw140 ?_ ?c2w140 ?c3w140 ?c4w140 ?c5w140) | (refine' kdv_codeE ?k1w140 ?k2w140 ?k3w140 ?k4w140 ?k5w140 ?kAw140 ?kFw140 ?kKw140 ?k6w140 ?k7w140 ?k8w140 ?k9w140 ?kBw140 ?_ ?c2w140 ?c3w140 ?c4w140 ?c5w140)); (case k4w140 => with_reducible assumption); (case k3w140 => with_reducible assumption); (case k6w140 => with_reducible (k_extra "MEMR")); (case kAw140 => exact rfl); (case kFw140 => exact rfl); (case kKw140 => exact rfl); (case k1w140 => with_reducible assumption); (case k2w140 => with_reducible assumption); (case k5w140 => with_reducible assumption); (case k7w140 => (refine' codeRec_newsQ ?crNw140 ?crMw140 ?crDw140 ?crVw140 ?crQw140; (case crNw140 => with_reducible assumption); (case crMw140 => with_reducible (k_extra "MEMR")); (case crDw140 => with_reducible assumption); (case crVw140 => with_reducible assumption); (case crQw140 => exact rfl))); (case k8w140 => k_room); (case k9w140 => kdv_bind); (case c5w140 => decide); (case kBw140 => exact locs rfl); (case c2w140 => exact rfl); (case c3w140 => exact rfl); (case c4w140 => exact rfl); k_whole; intro g' L' h' FG' F' N' B' X' T'; (try dsimp only); (try k_lift B'); (try k_fold)) | ((first | (with_reducible refine' kdv_code ?k1w140 ?k2w140 ?k3w140 ?k4w140 ?k5w140 ?kAw140 ?kFw140 ?kKw140 ?k6w140 ?k7w140 ?k8w140 ?k9w140 ?kBw140 ?_ ?c2w140 ?c3w140 ?c4w140 ?c5w140) | (refine' kdv_code ?k1w140 ?k2w140 ?k3w140 ?k4w140 ?k5w140 ?kAw140 ?kFw140 ?kKw140 ?k6w140 ?k7w140 ?k8w140 ?k9w140 ?kBw140 ?_ ?c2w140 ?c3w140 ?c4w140 ?c5w140)); (case k4w140 => with_reducible assumption); (case k3w140 => with_reducible assumption); (case k6w140 => with_reducible (k_extra "MEMR")); (case kAw140 => exact rfl); (case kFw140 => exact rfl); (case kKw140 => exact rfl); (case k1w140 => with_reducible assumption); (case k2w140 => with_reducible assumption); (case k5w140 => with_reducible assumption); (case k7w140 => (refine' codeRec_newsQ ?crNw140 ?crMw140 ?crDw140 ?crVw140 ?crQw140; (case crNw140 => with_reducible assumption); (case crMw140 => with_reducible (k_extra "MEMR")); (case crDw140 => with_reducible assumption); (case crVw140 => with_reducible assumption); (case crQw140 => exact rfl))); (case k8w140 => k_room); (case k9w140 => kdv_bind); (case c5w140 => decide); (case kBw140 => exact locs rfl); (case c2w140 => exact rfl); (case c3w140 => exact rfl); (case c4w140 => exact rfl); k_whole; intro g' L' h' FG' F' N' B' X' T'; (try dsimp only); (try k_lift B'); (try k_fold))))
  k_with "call ref cons nil" => (k_here; kn_here; (first | (with_reducible refine wpAny_call ?_) | k_dflt refine wpAny_call ?_); k_dflt (first | ((first | (with_reducible refine' kdv_codeE ?k1w141 ?k2w141 ?k3w141 ?k4w141 ?k5w141 ?kAw141 ?kFw141 ?kKw141 ?k6w141 ?k7w141 ?k8w141 ?k9w141 ?kBw141 ?_ ?c2w141 ?c3w141 ?c4w141 ?c5w141) | (refine' kdv_codeE ?k1w141 ?k2w141 ?k3w141 ?k4w141 ?k5w141 ?kAw141 ?kFw141 ?kKw141 ?k6w141 ?k7w141 ?k8w141 ?k9w141 ?kBw141 ?_ ?c2w141 ?c3w141 ?c4w141 ?c5w141)); (case k4w141 => with_reducible assumption); (case k3w141 => with_reducible assumption); (case k6w141 => with_reducible (k_extra "MEMR")); (case kAw141 => exact rfl); (case kFw141 => exact rfl); (case kKw141 => exact rfl); (case k1w141 => with_reducible assumption); (case k2w141 => with_reducible assumption); (case k5w141 => with_reducible assumption); (case k7w141 => (refine' codeRec_newsQ ?crNw141 ?crMw141 ?crDw141 ?crVw141 ?crQw141; (case crNw141 => with_reducible assumption); (case crMw141 => with_reducible (k_extra "MEMR")); (case crDw141 => with_reducible assumption); (case crVw141 => with_reducible assumption); (case crQw141 => exact rfl))); (case k8w141 => k_room); (case k9w141 => kdv_bind); (case c5w141 => decide); (case kBw141 => exact locs rfl); (case c2w141 => exact rfl); (case c3w141 => exact rfl); (case c4w141 => exact rfl); k_whole; intro g' L' h' FG' F' N' B' X' T'; (try dsimp only); (try k_lift B'); (try k_fold)) | ((first | (with_reducible refine' kdv_code ?k1w141 ?k2w141 ?k3w141 ?k4w141 ?k5w141 ?kAw141 ?kFw141 ?kKw141 ?k6w141 ?k7w141 ?k8w141 ?k9w141 ?kBw141 ?_ ?c2w141 ?c3w141 ?c4w141 ?c5w141) | (refine' kdv_code ?k1w141 ?k2w141 ?k3w141 ?k4w141 ?k5w141 ?kAw141 ?kFw141 ?kKw141 ?k6w141 ?k7w141 ?k8w141 ?k9w141 ?kBw141 ?_ ?c2w141 ?c3w141 ?c4w141 ?c5w141)); (case k4w141 => with_reducible assumption); (case k3w141 => with_reducible assumption); (case k6w141 => with_reducible (k_extra "MEMR")); (case kAw141 => exact rfl); (case kFw141 => exact rfl); (case kKw141 => exact rfl); (case k1w141 => with_reducible assumption); (case k2w141 => with_reducible assumption); (case k5w141 => with_reducible assumption); (case k7w141 => (refine' codeRec_newsQ ?crNw141 ?crMw141 ?crDw141 ?crVw141 ?crQw141; (case crNw141 => with_reducible assumption); (case crMw141 => with_reducible (k_extra "MEMR")); (case crDw141 => with_reducible assumption); (case crVw141 => with_reducible assumption); (case crQw141 => exact rfl))); (case k8w141 => k_room); (case k9w141 => kdv_bind); (case c5w141 => decide); (case kBw141 => exact locs rfl); (case c2w141 => exact rfl); (case c3w141 => exact rfl); (case c4w141 => exact rfl); k_whole; intro g' L' h' FG' F' N' B' X' T'; (try dsimp only); (try k_lift B'); (try k_fold))))
  k_with "call ref" => (k_here; (fail_if_success k_inElt); (first | (with_reducible refine wpAny_call ?_) | k_dflt refine wpAny_call ?_); k_dflt (((first | (with_reducible refine' code_def ?k1w142 ?k2w142 ?k3w142 ?k4w142 ?k5w142 ?kAw142 ?kFw142 ?kKw142 ?k6w142 ?k7w142 ?k8w142 ?k9w142 ?kBw142 ?_ ?c2w142 ?c3w142 ?c4w142 ?c5w142) | (refine' code_def ?k1w142 ?k2w142 ?k3w142 ?k4w142 ?k5w142 ?kAw142 ?kFw142 ?kKw142 ?k6w142 ?k7w142 ?k8w142 ?k9w142 ?kBw142 ?_ ?c2w142 ?c3w142 ?c4w142 ?c5w142)); (case k4w142 => with_reducible assumption); (case k3w142 => with_reducible assumption); (case k6w142 => k_is); (case kAw142 => exact rfl); (case kFw142 => exact rfl); (case kKw142 => exact rfl); (case k1w142 => with_reducible assumption); (case k2w142 => with_reducible assumption); (case k5w142 => with_reducible assumption); (case k7w142 => k_is); (case k8w142 => k_room); (case k9w142 => first | exact BindsTo.of_eq rfl | (refine' binds_K ?bkXw142 rfl ?bkIw142 rfl rfl rfl; (case bkXw142 => k_in); (case bkIw142 => k_is))); (case c5w142 => decide); (case kBw142 => exact locs rfl); (case c2w142 => exact rfl); (case c3w142 => exact rfl); (case c4w142 => exact rfl); k_whole; intro g' L' h' FG' F' N' B' X' T'; (try dsimp only); (try k_lift B'); (try k_fold))))
  k_with "call ref cons nil" => (k_here; (fail_if_success k_inElt); (first | (with_reducible refine wpAny_call ?_) | k_dflt refine wpAny_call ?_); k_dflt (((first | (with_reducible refine' code_def ?k1w143 ?k2w143 ?k3w143 ?k4w143 ?k5w143 ?kAw143 ?kFw143 ?kKw143 ?k6w143 ?k7w143 ?k8w143 ?k9w143 ?kBw143 ?_ ?c2w143 ?c3w143 ?c4w143 ?c5w143) | (refine' code_def ?k1w143 ?k2w143 ?k3w143 ?k4w143 ?k5w143 ?kAw143 ?kFw143 ?kKw143 ?k6w143 ?k7w143 ?k8w143 ?k9w143 ?kBw143 ?_ ?c2w143 ?c3w143 ?c4w143 ?c5w143)); (case k4w143 => with_reducible assumption); (case k3w143 => with_reducible assumption); (case k6w143 => k_is); (case kAw143 => exact rfl); (case kFw143 => exact rfl); (case kKw143 => exact rfl); (case k1w143 => with_reducible assumption); (case k2w143 => with_reducible assumption); (case k5w143 => with_reducible assumption); (case k7w143 => k_is); (case k8w143 => k_room); (case k9w143 => first | exact BindsTo.of_eq rfl | (refine' binds_K ?bkXw143 rfl ?bkIw143 rfl rfl rfl; (case bkXw143 => k_in); (case bkIw143 => k_is))); (case c5w143 => decide); (case kBw143 => exact locs rfl); (case c2w143 => exact rfl); (case c3w143 => exact rfl); (case c4w143 => exact rfl); k_whole; intro g' L' h' FG' F' N' B' X' T'; (try dsimp only); (try k_lift B'); (try k_fold))))
  k_with "eval Name" => (k_here; (with_reducible show wpAny _ _ (eval _ (envOf _ _ _ _ _)) _ _ _); name_kind "globalImplicit"; (with_reducible rename Fr _ _ _ _ => kF); k_dflt (first | (refine' name_K kF ?k1w144 ?k2w144 ?k3w144 ?_ ?g1w144 ?g2w144 ?g3w144; (case k1w144 => with_reducible assumption); (case k2w144 => (refine' topRead_of ?ktw144; (case ktw144 => with_reducible assumption))); (case k3w144 => k_is); (case g1w144 => exact rfl); (case g2w144 => exact rfl); (case g3w144 => decide); k_whole) | (refine' name_B kF ?k1w144 ?k2w144 ?k3w144 ?k4w144 ?k5w144 ?_ ?g1w144 ?g2w144 ?g3w144; (case k1w144 => with_reducible assumption); (case k2w144 => (refine' topRead_of ?ktw144; (case ktw144 => with_reducible assumption))); (case k3w144 => k_is); (case k4w144 => boot_by_name); (case k5w144 => decide); (case g1w144 => exact rfl); (case g2w144 => exact rfl); (case g3w144 => decide); k_whole)))
  k_with "eval Name" => (k_here; (fail_if_success (with_reducible show wpAny _ _ (eval _ (compEnvC _ _ _ _)) _ _ _)); name_kind "local"; (with_reducible show wpAny _ _ (eval _ (envOf _ _ _ _ _)) _ _ _); (first | (with_reducible refine' ld ?k1w145 ?k2w145 ?_ ?khw145 ?kxw145 ?kdw145) | k_dflt refine' ld ?k1w145 ?k2w145 ?_ ?khw145 ?kxw145 ?kdw145); k_dflt ((case k1w145 => with_reducible assumption); (case k2w145 => exact rfl); (case khw145 => exact rfl); (case kxw145 => exact rfl); (case kdw145 => decide); k_whole))
  k_with "subscriptTail" => (k_here; (with_reducible show wpAny _ _ (subscriptTail _ (Expr.Slice _ _ none _) (Value.bytes _ _) (Value.ref _)) _ _ _); k_dflt (first | (refine' cut1 (s := ⟨_, _, _, _, _⟩) ?k1w146 ?k2w146 ?k3w146 ?k4w146 ?_; (case k1w146 => with_reducible assumption); (case k2w146 => with_reducible assumption); (case k3w146 => with_reducible assumption); (case k4w146 => (refine' RejW.room ?krw146; (case krw146 => with_reducible assumption))); intro c9 h' t' k' hc9 F' N'; (try k_sweep)) | (refine' cut8 (s := ⟨_, _, _, _, _⟩) ?k0w146 ?k00w146 ?k1w146 ?k2w146 ?k3w146 ?_; (case k0w146 => rfl); (case k00w146 => rfl); (case k1w146 => with_reducible assumption); (case k2w146 => with_reducible assumption); (case k3w146 => with_reducible assumption); intro c9 l9 h' t' k' hc9 hl9 hi9 he9 F' N'; (try k_sweep))))
  k_with "subscriptTail Attribute Name Slice bytes ref" => (k_here; (with_reducible show wpAny _ _ (subscriptTail _ (Expr.Slice _ _ none _) (Value.bytes _ _) (Value.ref _)) _ _ _); k_dflt (first | (refine' cut1 (s := ⟨_, _, _, _, _⟩) ?k1w147 ?k2w147 ?k3w147 ?k4w147 ?_; (case k1w147 => with_reducible assumption); (case k2w147 => with_reducible assumption); (case k3w147 => with_reducible assumption); (case k4w147 => (refine' RejW.room ?krw147; (case krw147 => with_reducible assumption))); intro c9 h' t' k' hc9 F' N'; (try k_sweep)) | (refine' cut8 (s := ⟨_, _, _, _, _⟩) ?k0w147 ?k00w147 ?k1w147 ?k2w147 ?k3w147 ?_; (case k0w147 => rfl); (case k00w147 => rfl); (case k1w147 => with_reducible assumption); (case k2w147 => with_reducible assumption); (case k3w147 => with_reducible assumption); intro c9 l9 h' t' k' hc9 hl9 hi9 he9 F' N'; (try k_sweep))))
  k_with "getMethod type:int" => (k_here; (first | (with_reducible refine' KFB.getm ?kfbFw148 ?kfbNw148 ?kfbXw148 ?kfbEw148 ?_) | k_dflt refine' KFB.getm ?kfbFw148 ?kfbNw148 ?kfbXw148 ?kfbEw148 ?_); k_dflt ((case kfbFw148 => with_reducible assumption); (case kfbNw148 => with_reducible assumption); (case kfbXw148 => with_reducible assumption); (case kfbEw148 => first | kernel_rfl! | k_is); k_whole; intro x' h' F' N' l1; (try k_lt l1); (try k_sweep)))
  k_with "call ref" => (k_here; (fail_if_success k_inElt); (first | (with_reducible refine' call_cls ?k1w149 ?k2w149 ?k3w149 ?k4w149 ?k5w149 ?k6w149 ?_) | k_dflt refine' call_cls ?k1w149 ?k2w149 ?k3w149 ?k4w149 ?k5w149 ?k6w149 ?_); k_dflt ((case k1w149 => with_reducible assumption); (case k2w149 => with_reducible assumption); (case k3w149 => with_reducible assumption); (case k4w149 => k_is); (case k5w149 => k_is); (case k6w149 => k_is); k_whole; intro x' d' h' F' N' l1 l2; (try k_lt l1); (try k_lt2 l2); (try k_sweep); ((first | (with_reducible refine' code_def ?n1w149 ?n2w149 ?n3w149 ?n4w149 ?n5w149 ?nAw149 ?nFw149 ?nKw149 ?n6w149 ?n7w149 ?n8w149 ?n9w149 ?nBw149 ?_ ?c2w149 ?c3w149 ?c4w149 ?c5w149) | (refine' code_def ?n1w149 ?n2w149 ?n3w149 ?n4w149 ?n5w149 ?nAw149 ?nFw149 ?nKw149 ?n6w149 ?n7w149 ?n8w149 ?n9w149 ?nBw149 ?_ ?c2w149 ?c3w149 ?c4w149 ?c5w149)); (case n4w149 => with_reducible assumption); (case n3w149 => with_reducible assumption); (case n6w149 => k_is); (case nAw149 => exact rfl); (case nFw149 => exact rfl); (case nKw149 => exact rfl); (case n1w149 => with_reducible assumption); (case n2w149 => with_reducible assumption); (case n5w149 => with_reducible assumption); (case n7w149 => k_is); (case n8w149 => k_room); (case n9w149 => first | exact BindsTo.of_eq rfl | (refine' binds_K ?bkXw149 rfl ?bkIw149 rfl rfl rfl; (case bkXw149 => k_in); (case bkIw149 => k_is))); (case c5w149 => decide); (case nBw149 => exact locs rfl); (case c2w149 => exact rfl); (case c3w149 => exact rfl); (case c4w149 => exact rfl); k_whole; intro g' L' h' FG' F' N' B' X' T'; (try dsimp only); (try k_lift B'); (try k_fold))))
  k_with "call ref cons nil" => (k_here; (fail_if_success k_inElt); (first | (with_reducible refine' call_cls ?k1w150 ?k2w150 ?k3w150 ?k4w150 ?k5w150 ?k6w150 ?_) | k_dflt refine' call_cls ?k1w150 ?k2w150 ?k3w150 ?k4w150 ?k5w150 ?k6w150 ?_); k_dflt ((case k1w150 => with_reducible assumption); (case k2w150 => with_reducible assumption); (case k3w150 => with_reducible assumption); (case k4w150 => k_is); (case k5w150 => k_is); (case k6w150 => k_is); k_whole; intro x' d' h' F' N' l1 l2; (try k_lt l1); (try k_lt2 l2); (try k_sweep); ((first | (with_reducible refine' code_def ?n1w150 ?n2w150 ?n3w150 ?n4w150 ?n5w150 ?nAw150 ?nFw150 ?nKw150 ?n6w150 ?n7w150 ?n8w150 ?n9w150 ?nBw150 ?_ ?c2w150 ?c3w150 ?c4w150 ?c5w150) | (refine' code_def ?n1w150 ?n2w150 ?n3w150 ?n4w150 ?n5w150 ?nAw150 ?nFw150 ?nKw150 ?n6w150 ?n7w150 ?n8w150 ?n9w150 ?nBw150 ?_ ?c2w150 ?c3w150 ?c4w150 ?c5w150)); (case n4w150 => with_reducible assumption); (case n3w150 => with_reducible assumption); (case n6w150 => k_is); (case nAw150 => exact rfl); (case nFw150 => exact rfl); (case nKw150 => exact rfl); (case n1w150 => with_reducible assumption); (case n2w150 => with_reducible assumption); (case n5w150 => with_reducible assumption); (case n7w150 => k_is); (case n8w150 => k_room); (case n9w150 => first | exact BindsTo.of_eq rfl | (refine' binds_K ?bkXw150 rfl ?bkIw150 rfl rfl rfl; (case bkXw150 => k_in); (case bkIw150 => k_is))); (case c5w150 => decide); (case nBw150 => exact locs rfl); (case c2w150 => exact rfl); (case c3w150 => exact rfl); (case c4w150 => exact rfl); k_whole; intro g' L' h' FG' F' N' B' X' T'; (try dsimp only); (try k_lift B'); (try k_fold))))
  k_with "execs cons Assign cons" => (k_here; (with_reducible show wpAny _ _ (execs (Stmt.Assign [Expr.Name (Str.ofString "seed") _] _ _ :: _) _) _ _ _); (fail_if_success (with_reducible rename Mk 101 => mkn)); (rename_i y1 z1x2 y3 y4 y5 y6 y7 y8 z1x9 y10 z1x11 y12 y13 y14 z1x15 z1x16 z1x17 z1x18 z1x19 y20 y21 z1x22 z1x23 y24 y25 y26 z1x27 y28 y29 y30 z1x31 y32 y33 y34 y35 y36 y37 y38 z1x39 z1x40 y41 y42 y43 y44 y45 y46 z1x47 z1x48 z1x49 z1x50 z1x51 z1x52 y53 z1x54 y55 y56 z1x57 z1x58 z1x59 y60 y61 y62 y63 z1x64 y65 y66 y67 y68 y69 y70 z1x71 z1x72 z1x73 z1x74 z1x75 y76 y77 y78 y79 z1x80 z1x81 y82 y83 y84 y85 z1x86 y87 y88 z1x89 z1x90 y91 z1x92 z1x93 y94 z1x95 y96 z1x97 y98 y99 y100 y101 y102 z1x103 y104 y105 y106 y107 y108 y109 z1x110 y111 z1x112 z1x113 z1x114 y115 y116 y117 y118 y119 y120 y121 y122 y123 y124 y125 y126 y127 y128 z1x129 y130 z1x131 y132 z1x133 y134 z1x135 y136 y137 y138 z1x139 y140 y141 y142 z1x143 y144 y145 z1x146 y147 z1x148 y149 z1x150 y151 z1x152 y153 y154 y155 z1x156 y157 y158 y159 y160 z1x161 z1x162 y163 z1x164 z1x165 y166 y167 y168 y169 y170 z1x171 y172 y173 y174 y175 y176 z1x177 y178 z1x179 z1x180 z1x181 z1x182 y183 y184 z1x185 z1x186 z1x187 z1x188 z1x189); (clear y1 y3 y4 y5 y6 y7 y8 y10 y12 y13 y14 y20 i1 s1 e1 y21 y24 y25 y26 y28 y29 y30 y32 y33 y34 y35 y36 y37 y38 y41 y42 y43 y44 y45 y46 y53 y55 y56 y60 y61 y62 y63 y65 y66 y67 y68 y69 y70 y76 y77 y78 y79 y82 y83 y84 y85 y87 y88 y91 y94 y96 y98 y99 y100 y101 y102 y104 y105 y106 y107 y108 y109 y111 y115 y116 y117 y118 y119 y120 y121 y122 y123 y124 y125 y126 y127 y128 y130 y132 y134 y136 y137 y138 y140 y141 y142 y144 g' L' y145 B' X' T' lifted qk ek Q' hQ' y147 y149 y151 y153 y154 y155 y157 y158 y159 y160 y163 y166 y167 y168 y169 y170 y172 y173 y174 y175 y176 y178 o1' y183 y184); (have mkc1 : Mk 101 := Mk.mk))
  k_with "execs cons For" => (k_here; (with_reducible show wpAny _ _ (execs (Stmt.For (Expr.Tuple _ _ _) (Expr.Tuple _ _ _) _ _ _ :: _) _) _ _ _); (with_reducible rename Mk 101 => mkb); (fail_if_success (with_reducible rename Mk 102 => mkn)); (rename_i z2x1 z2x2 z2x3 z2x4 y5 y6 z2x7 z2x8 y9 z2x10 y11 z2x12 z2x13 z2x14 y15 z2x16 z2x17 z2x18 z2x19 y20 y21 y22 z2x23 z2x24 z2x25 z2x26 z2x27 z2x28); (clear z1x17 z1x18 z1x182 y5 z1x187 y6 h' l1 y9 y11 y15 y20 y21 y22); (have mkc2 : Mk 102 := Mk.mk); k_dflt (as_aux_lemma => w_strict (repeat' ((first | (k_unfold; (try dsimp only)) | (k_end; kc_close) | walk1 | (dsimp only; walk1) | ((refine' of_abs ?oabw152 ?_; (case oabw152 => with_reducible assumption)); (try dsimp only)) | (leave1; (try dsimp only)))))))
  k_with "execs cons Assign cons" => (k_here; (with_reducible show wpAny _ _ (execs (Stmt.Assign [Expr.Name (Str.ofString "sign_bytes") _] _ _ :: _) _) _ _ _); (with_reducible rename Mk 102 => mkb); (fail_if_success (with_reducible rename Mk 103 => mkn)); (rename_i z3x1 y2 z3x3 z3x4 y5 z3x6 z3x7 z3x8 y9 z3x10 z3x11 z3x12 z3x13 z3x14 z3x15 z3x16 z3x17 z3x18 z3x19 z3x20 z3x21 z3x22 y23 y24 y25 y26 y27 y28 y29 z3x30 z3x31 y32 z3x33 z3x34 y35 y36 z3x37 y38 y39 y40 z3x41 y42 z3x43 z3x44 y45 z3x46 z3x47 z3x48 z3x49 z3x50 z3x51 z3x52 y53 y54 z3x55 z3x56 z3x57 y58 y59 y60 y61 y62 y63 y64 y65 y66 y67 y68 y69 y70 y71 y72 y73 y74 y75 y76 z3x77 y78 y79 y80 y81 y82 y83 y84 y85 y86 z3x87 z3x88 z3x89 y90 y91 y92 y93 y94 y95 y96 y97 y98 y99 y100 y101 y102 y103 y104 z3x105 z3x106 y107 z3x108 z3x109 z3x110 z3x111 y112 z3x113 z3x114 z3x115 y116 z3x117 z3x118 z3x119 z3x120 y121 z3x122 z3x123 z3x124 z3x125 y126 z3x127 z3x128 z3x129 y130 z3x131 z3x132 y133 z3x134 z3x135 z3x136 z3x137 y138 z3x139 z3x140 y141 y142 y143 z3x144 y145 y146 y147 y148 y149 y150 y151 z3x152 z3x153 z3x154 y155 y156 y157 y158 y159 y160 z3x161 z3x162 z3x163 z3x164 z3x165); (clear z1x39 z1x40 z1x52 z1x103 z1x112 z1x129 z1x131 z1x133 z1x135 z1x162 z2x4 z1x180 y2 y5 z2x16 z2x18 z2x23 z2x25 z2x26 y9 y23 y24 y25 y26 y27 y28 y29 y32 y35 y36 y38 y39 y40 y42 y45 y53 y54 y58 y59 y60 y61 y62 y63 y64 y65 y66 y67 y68 y69 y70 y71 y72 y73 y74 y75 y76 y78 y79 y80 y81 y82 y83 y84 y85 y86 y90 y91 y92 y93 y94 y95 y96 y97 y98 y99 y100 y101 y102 Q' hQ' y103 g' L' y104 FG' B' X' T' lifted qk ek y107 y112 y116 y121 y126 y130 y133 y138 h' y141 y142 y143 y145 F' N' y146 y147 y148 y149 y150 y151 y155 y156 y157 y158 y159 y160); (have mkc3 : Mk 103 := Mk.mk))
  k_with "execs cons Assign cons" => (k_here; (with_reducible show wpAny _ _ (execs (Stmt.Assign [Expr.Name (Str.ofString "coeffs") _] _ _ :: _) _) _ _ _); (with_reducible rename Mk 103 => mkb); (fail_if_success (with_reducible rename Mk 104 => mkn)); (rename_i y1 y2 y3 y4 y5 y6 z4x7 z4x8 y9 y10 y11 y12 z4x13 z4x14 y15 z4x16 z4x17 z4x18 z4x19 z4x20); (clear z3x154 y1 z3x161 z3x162 z3x163 y2 g' L' y3 B' X' T' lifted qk ek Q' hQ' y4 y5 y6 k' hc9 y9 y10 y11 y12 y15); (have mkc4 : Mk 104 := Mk.mk))
  k_with "execs cons If" => (k_here; (with_reducible show wpAny _ _ (execs (Stmt.If (Expr.Call _ _ _ _) _ _ _ :: _) (envOf (Str.ofString "PolynomialRing.__call__") _ _ _ _)) _ _ _); (with_reducible rename Mk 104 => mkb); (fail_if_success (with_reducible rename Mk 105 => mkn)); (rename_i z5x1 z5x2 z5x3 y4 y5 z5x6 y7 y8 y9 y10 y11 y12 y13 z5x14 y15 y16 y17 y18 y19 y20 y21 y22 y23 y24 y25 y26 y27 y28 y29 z5x30 y31 y32 y33 z5x34 y35 y36 y37 y38 y39 z5x40 z5x41 z5x42 z5x43 z5x44 z5x45 z5x46 z5x47 y48 y49 y50 y51 y52 y53 y54 y55 y56 y57 y58 y59 y60 y61 y62 y63 z5x64 z5x65 z5x66 y67 z5x68 z5x69 z5x70 z5x71 z5x72); (clear z3x37 z3x77 z3x88 z3x152 z4x7 z4x8 y4 y5 hS0 hS1 y7 y8 y9 y10 y11 y12 y13 y15 y16 y17 y18 y19 y20 y21 y22 y23 y24 y25 y26 y27 y28 y29 y31 y32 y33 y35 y36 y37 y38 y39 kH kFr kNews y48 y49 y50 y51 y52 y53 y54 y55 y56 y57 y58 y59 y60 y61 y62 y63 kLen y67 lifted); (have mkc5 : Mk 105 := Mk.mk))
  k_with "execs cons If" => (k_here; (with_reducible show wpAny _ _ (execs (Stmt.If (Expr.BoolOp _ _ _) _ _ _ :: _) _) _ _ _); (with_reducible rename Mk 105 => mkb); (fail_if_success (with_reducible rename Mk 106 => mkn)); (rename_i z6x1 z6x2 z6x3 y4 z6x5 z6x6 z6x7 y8 y9 y10 y11 y12 y13 y14 y15 y16 y17 y18 y19 y20 y21 z6x22 y23 y24 y25 y26 y27 y28 y29 y30 z6x31 y32 y33 y34 y35 y36 z6x37 y38 y39 y40 y41 z6x42 y43 y44 z6x45 y46 y47 y48 y49 y50 y51 y52 y53 y54 y55 z6x56 z6x57 z6x58 z6x59 z6x60); (clear z1x185 z1x186 z3x33 z3x41 z3x43 z3x44 kNd9 z3x110 z3x113 z3x118 z3x123 z3x128 z3x131 z3x135 z3x140 z5x2 c9 t' z4x13 z4x14 y4 z4x16 z5x45 kU kTk z5x64 z5x65 z5x66 z5x70 z5x71 z5x72 y8 y9 y10 y11 y12 y13 y14 y15 y16 y17 y18 y19 F' N' y20 y21 FG' y23 y24 y25 y26 y27 y28 y29 y30 y32 y33 g' L' h' B' X' T' lifted qk ek y34 y35 y36 y38 y39 y40 Q' hQ' y41 y43 y44 y46 y47 y48 y49 y50 y51 y52 y53 y54 y55); (have mkc6 : Mk 106 := Mk.mk))
  k_with "execs cons For" => (k_here; (with_reducible show wpAny _ _ (execs (Stmt.For (Expr.Name _ _) (Expr.Call _ _ _ _) (Stmt.While _ _ _ _ :: _) _ _ :: _) _) _ _ _); (with_reducible rename Mk 106 => mkb); (fail_if_success (with_reducible rename Mk 107 => mkn)); (rename_i z7x1 z7x2 y3 z7x4 z7x5 z7x6 z7x7 z7x8 y9 z7x10 y11 y12 y13 z7x14 z7x15 y16 z7x17 z7x18 y19 z7x20 z7x21 y22 z7x23 y24 z7x25 y26 y27 z7x28 y29 y30 z7x31 y32 z7x33 z7x34 z7x35 z7x36 y37 y38 z7x39 z7x40 z7x41 z7x42 y43 z7x44 z7x45 y46 z7x47 z7x48 y49 y50 y51 y52 y53 z7x54 y55 y56 y57 y58 y59 y60 y61 y62 y63 y64 y65 y66 y67 y68 y69 y70 y71 y72 y73 y74 y75 z7x76 y77 z7x78 z7x79 z7x80 z7x81 z7x82 z7x83 z7x84 z7x85 z7x86); (clear z2x12 z2x13 z2x14 z3x46 z3x51 z3x52 z3x105 y3 z3x108 z3x111 z3x114 z3x119 z3x124 z3x129 z3x132 z3x136 z5x1 z6x3 y9 y11 l2 z6x22 z6x37 z6x45 y12 z6x58 y13 y16 y19 y22 y24 y26 y27 y29 y30 y32 F' N' l1 y37 y38 y43 y46 lifted hol9 hou9 y49 y50 y51 y52 y53 y55 y56 y57 y58 y59 y60 y61 y62 y63 y64 y65 y66 y67 y68 y69 y70 y71 y72 y73 y74 y75 y77 o1'); (have mkc7 : Mk 107 := Mk.mk))
  k_with "execs cons For" => (k_here; (with_reducible show wpAny _ _ (execs (Stmt.For (Expr.Tuple _ _ _) (Expr.Call _ _ _ _) _ _ _ :: _) _) _ _ _); (with_reducible rename Mk 107 => mkb); (fail_if_success (with_reducible rename Mk 108 => mkn)); (rename_i z8x1 y2 y3 z8x4 z8x5 y6 y7 y8 y9 z8x10 z8x11 z8x12 z8x13 z8x14 z8x15 z8x16 z8x17 z8x18 z8x19); (clear z7x42 z7x45 z7x47 hO9 y2 y3 z7x78 z7x79 z7x80 z7x82 z7x83 y6 y7 y8 y9 tc' v' d1' d2' F' N'); (have mkc8 : Mk 108 := Mk.mk))
  k_with "execs cons Assign cons" => (k_here; (with_reducible show wpAny _ _ (execs (Stmt.Assign [Expr.Name (Str.ofString "told") _] _ _ :: _) _) _ _ _); (with_reducible rename Mk 108 => mkb); (fail_if_success (with_reducible rename Mk 109 => mkn)); (rename_i z9x1 z9x2 z9x3 z9x4 z9x5 z9x6 z9x7 z9x8 y9 z9x10 y11 y12 z9x13 z9x14 z9x15 z9x16 z9x17 z9x18 z9x19 y20 y21 z9x22 z9x23 z9x24 z9x25); (clear z3x12 z3x19 z3x20 z3x21 z3x22 z3x30 z3x31 hB9 hl9 hi9 hS9 z5x44 kInv z6x56 z6x57 z7x33 z7x39 z7x40 z7x41 Q' hQ' hoe9 kNd9 z7x81 c' z8x12 hW' hn3' z8x15 z8x16 y9 y11 z8x17 y12 i' l1 u' h' tk' F' N' y20 y21); (have mkc9 : Mk 109 := Mk.mk); k_dflt (as_aux_lemma => w_strict (repeat' ((first | (k_unfold; (try dsimp only)) | (k_end; kc_close) | walk1 | (dsimp only; walk1) | ((refine' of_abs ?oabw159 ?_; (case oabw159 => with_reducible assumption)); (try dsimp only)) | (leave1; (try dsimp only)))))))
  k_with "execs cons Assign cons" => (k_here; (with_reducible show wpAny _ _ (execs (Stmt.Assign [Expr.Name (Str.ofString "sign_bytes") _] _ _ :: _) _) _ _ _); (with_reducible rename Mk 109 => mkb); (fail_if_success (with_reducible rename Mk 110 => mkn)); (rename_i z10x1 z10x2 z10x3 z10x4 z10x5 z10x6 y7 z10x8 z10x9 z10x10 z10x11 z10x12 y13 z10x14 z10x15 y16 y17 z10x18 y19 y20 y21 z10x22 y23 z10x24 z10x25 y26 y27 y28 y29 y30 y31 y32 y33 y34 y35 y36 y37 y38 y39 y40 y41 y42 y43 y44 y45 y46 y47 z10x48 y49 y50 y51 y52 y53 y54 y55 y56 y57 z10x58 y59 y60 y61 y62 y63 y64 y65 y66 y67 y68 y69 y70 y71 y72 y73 y74 y75 z10x76 z10x77 y78 z10x79 z10x80 z10x81 z10x82 y83 z10x84 z10x85 z10x86 y87 z10x88 z10x89 z10x90 z10x91 y92 z10x93 z10x94 z10x95 z10x96 y97 z10x98 z10x99 z10x100 y101 z10x102 z10x103 y104 z10x105 z10x106 z10x107 z10x108 y109 z10x110 z10x111 y112 y113 y114 z10x115 y116 y117 y118 y119 y120 y121 y122 z10x123 z10x124 z10x125 y126 y127 y128 y129 y130 y131 z10x132 z10x133 z10x134 z10x135 z10x136); (clear z1x47 z1x50 z1x51 z1x57 z1x58 z1x71 z1x74 z1x75 z1x86 z1x92 z1x93 z1x95 z1x114 z2x2 l2 z3x144 z3x153 z7x8 z5x43 z5x46 z5x47 d' z6x31 z6x42 z7x14 z9x2 z7x17 z7x20 z7x25 z7x28 z7x31 z7x44 z8x1 z9x6 z8x11 ot' oi' z9x7 z8x14 y7 n' z9x19 z9x22 z9x23 z9x24 kN8 y13 y16 y17 y19 y20 y21 y23 y26 y27 y28 y29 y30 y31 y32 y33 y34 y35 y36 y37 y38 y39 y40 y41 y42 y43 y44 y45 y46 y47 y49 y50 y51 y52 y53 y54 y55 y56 y57 y59 y60 y61 y62 y63 y64 y65 y66 y67 y68 y69 y70 y71 y72 y73 Q' hQ' y74 g' L' y75 FG' B' X' T' lifted qk ek y78 y83 y87 y92 y97 y101 y104 y109 h' y112 y113 y114 y116 F' N' y117 y118 y119 y120 y121 y122 y126 y127 y128 y129 y130 y131); (have mkc10 : Mk 110 := Mk.mk))
  k_with "execs cons Assign cons" => (k_here; (with_reducible show wpAny _ _ (execs (Stmt.Assign [Expr.Name (Str.ofString "coeffs") _] _ _ :: _) _) _ _ _); (with_reducible rename Mk 110 => mkb); (fail_if_success (with_reducible rename Mk 111 => mkn)); (rename_i z11x1 y2 y3 y4 y5 y6 y7 z11x8 z11x9 y10 y11 y12 y13 z11x14 z11x15 y16 z11x17 z11x18 z11x19 z11x20 z11x21); (clear z10x48 z10x58 z10x125 y2 z10x132 z10x133 z10x134 y3 g' L' y4 B' X' T' lifted qk ek Q' hQ' y5 y6 y7 k' hc9 y10 y11 y12 y13 y16); (have mkc11 : Mk 111 := Mk.mk))
  k_with "execs cons If" => (k_here; (with_reducible show wpAny _ _ (execs (Stmt.If (Expr.Call _ _ _ _) _ _ _ :: _) (envOf (Str.ofString "PolynomialRing.__call__") _ _ _ _)) _ _ _); (with_reducible rename Mk 111 => mkb); (fail_if_success (with_reducible rename Mk 112 => mkn)); (rename_i z12x1 z12x2 z12x3 z12x4 z12x5 z12x6 z12x7 z12x8 z12x9 z12x10 y11 y12 z12x13 y14 y15 y16 y17 y18 y19 y20 z12x21 y22 y23 y24 y25 y26 y27 y28 y29 y30 y31 y32 y33 y34 y35 y36 y37 y38 y39 y40 y41 y42 y43 y44 y45 y46 y47 y48 y49 y50 y51 y52 y53 z12x54 y55 y56 y57 z12x58 y59 y60 y61 y62 y63 z12x64 z12x65 z12x66 z12x67 z12x68 z12x69 z12x70 z12x71 y72 y73 y74 y75 y76 y77 y78 y79 y80 y81 y82 y83 y84 y85 y86 y87 y88 y89 y90 y91 y92 y93 y94 y95 y96 y97 y98 y99 y100 y101 y102 y103 y104 z12x105 z12x106 z12x107 y108 z12x109 z12x110 z12x111 z12x112 z12x113); (clear z3x49 z3x50 z3x55 z3x56 z10x18 z10x123 z11x8 z11x9 y11 y12 hS0 hS1 y14 y15 y16 y17 y18 y19 y20 y22 y23 y24 y25 y26 y27 y28 y29 y30 y31 y32 y33 y34 y35 y36 y37 y38 y39 y40 y41 y42 y43 y44 y45 y46 y47 y48 y49 y50 y51 y52 y53 y55 y56 y57 y59 y60 y61 y62 y63 kH kFr kNews y72 y73 y74 y75 y76 y77 y78 y79 y80 y81 y82 y83 y84 y85 y86 y87 y88 y89 y90 y91 y92 y93 y94 y95 y96 y97 y98 y99 y100 y101 y102 y103 y104 kLen y108 lifted); (have mkc12 : Mk 112 := Mk.mk))
  k_with "execs cons If" => (k_here; (with_reducible show wpAny _ _ (execs (Stmt.If (Expr.BoolOp _ _ _) _ _ _ :: _) _) _ _ _); (with_reducible rename Mk 112 => mkb); (fail_if_success (with_reducible rename Mk 113 => mkn)); (rename_i z13x1 y2 z13x3 z13x4 z13x5 y6 y7 y8 y9 y10 y11 y12 y13 y14 y15 y16 y17 y18 y19 z13x20 y21 y22 y23 y24 y25 y26 y27 y28 z13x29 y30 y31 y32 y33 y34 z13x35 y36 y37 y38 y39 z13x40 y41 y42 z13x43 y44 y45 y46 y47 y48 y49 y50 y51 y52 y53 z13x54 z13x55 z13x56 z13x57 z13x58); (clear z9x13 z9x14 z10x14 z10x22 z10x24 z10x25 kNd9 z10x81 z10x84 z10x89 z10x94 z10x99 z10x102 z10x106 z10x111 z11x1 c9 t' z11x14 z11x15 y2 z11x17 z12x69 kU kTk z12x105 z12x106 z12x107 z12x111 z12x112 z12x113 y6 y7 y8 y9 y10 y11 y12 y13 y14 y15 y16 y17 F' N' y18 y19 FG' y21 y22 y23 y24 y25 y26 y27 y28 y30 y31 g' L' h' B' X' T' lifted qk ek y32 y33 y34 y36 y37 y38 Q' hQ' y39 y41 y42 y44 y45 y46 y47 y48 y49 y50 y51 y52 y53); (have mkc13 : Mk 113 := Mk.mk))
  k_with "execs cons For" => (k_here; (with_reducible show wpAny _ _ (execs (Stmt.For (Expr.Name _ _) (Expr.Call _ _ _ _) (Stmt.While _ _ _ _ :: _) _ _ :: _) _) _ _ _); (with_reducible rename Mk 113 => mkb); (fail_if_success (with_reducible rename Mk 114 => mkn)); (rename_i y1 z14x2 z14x3 y4 z14x5 y6 z14x7 y8 z14x9 z14x10 y11 z14x12 z14x13 y14 z14x15 y16 y17 y18 z14x19 z14x20 y21 z14x22 y23 y24 z14x25 z14x26 y27 y28 y29 z14x30 y31 y32 z14x33 y34 y35 z14x36 y37 z14x38 z14x39 z14x40 z14x41 y42 y43 z14x44 z14x45 z14x46 z14x47 y48 z14x49 z14x50 y51 z14x52 z14x53 y54 y55 y56 y57 y58 z14x59 y60 y61 y62 y63 y64 y65 y66 y67 y68 y69 y70 y71 y72 y73 y74 y75 y76 y77 y78 y79 y80 y81 y82 y83 y84 y85 y86 y87 y88 y89 y90 y91 y92 y93 y94 y95 y96 y97 z14x98 y99 z14x100 z14x101 z14x102 z14x103 z14x104 z14x105 z14x106 z14x107 z14x108); (clear y1 z1x2 z1x16 z1x19 z1x27 y4 hlen9 z2x1 z1x31 z1x54 z1x59 z1x72 z1x73 z1x81 z1x97 z1x110 z1x113 z1x139 z1x143 z1x146 z1x148 z1x150 z1x152 z1x156 z1x177 z2x3 z1x179 z1x181 z3x4 z2x19 hb9 hs9 z6x1 z3x10 z3x13 z3x16 z3x87 z3x89 z3x109 z3x117 z3x122 z3x127 z3x134 z3x139 z7x6 z5x30 z12x4 z7x18 z7x23 z9x4 y6 z7x76 z8x13 z9x10 z10x10 f' ct' dc' z10x76 y8 z10x79 z10x80 z10x82 z10x85 z10x88 z10x90 z10x93 z10x95 z10x98 z10x100 z10x103 z10x105 z10x107 z10x110 z12x9 y11 z10x115 z10x124 z13x1 z12x54 y14 z12x71 y16 l2 z13x20 z13x35 z13x43 y17 z13x56 y18 y21 y23 y24 y27 y28 y29 y31 y32 y34 hI' y35 y37 F' N' l1 y42 y43 y48 y51 lifted hol9 hou9 y54 y55 y56 y57 y58 y60 y61 y62 y63 y64 y65 y66 y67 y68 y69 y70 y71 y72 y73 y74 y75 y76 y77 y78 y79 y80 y81 y82 y83 y84 y85 y86 y87 y88 y89 y90 y91 y92 y93 y94 y95 y96 y97 y99 o1'); (have mkc14 : Mk 114 := Mk.mk))
  k_with "execs cons For" => (k_here; (with_reducible show wpAny _ _ (execs (Stmt.For (Expr.Tuple _ _ _) (Expr.Call _ _ _ _) _ _ _ :: _) _) _ _ _); (with_reducible rename Mk 114 => mkb); (fail_if_success (with_reducible rename Mk 115 => mkn)); (rename_i y1 y2 z15x3 z15x4 z15x5 z15x6 y7 y8 z15x9 z15x10 y11 y12 y13 y14 z15x15 z15x16 z15x17 z15x18 z15x19 z15x20 z15x21 z15x22 z15x23 z15x24); (clear z14x2 z1x9 z10x3 z3x3 z2x8 z2x17 z3x106 z3x115 z3x120 z3x125 z7x4 z3x137 z7x5 z12x3 z7x7 z5x41 z5x42 z7x15 z7x21 z9x3 z10x5 z14x5 z12x7 y1 y2 z9x8 z10x9 z10x77 z10x86 z10x91 z10x96 z14x9 z10x108 z14x10 z14x12 z14x47 z14x50 z14x52 hI9 hO9 y7 y8 z14x100 z14x101 z14x102 z14x104 z14x105 y11 y12 y13 y14 tc' v' d1' d2' F' N'); (have mkc15 : Mk 115 := Mk.mk))
  k_with "execs cons Assign cons" => (k_here; (with_reducible show wpAny _ _ (execs (Stmt.Assign [Expr.Name (Str.ofString "j") _] _ _ :: _) (envOf (Str.ofString "PolynomialRing.sample_in_ball") _ _ _ _)) _ _ _); (with_reducible rename Mk 104 => mkb); (fail_if_success (with_reducible rename Mk 121 => mkn)); (fail_if_success (with_reducible rename Mk 105 => mkn)); (rename_i y1 y2 z21x3 z21x4 y5 y6 z21x7 z21x8 z21x9 z21x10 y11 y12 z21x13 y14 y15 y16 y17 y18 y19 y20 z21x21 y22 y23 y24 y25 y26 y27 y28 y29 y30 y31 y32 y33 y34 y35 y36 y37 y38 y39 y40 z21x41 z21x42 y43 y44 y45 y46 z21x47 z21x48 z21x49 z21x50 z21x51 z21x52 z21x53 z21x54 y55 y56 y57 y58 y59 y60 y61 y62 y63 y64 y65 y66 y67 y68 y69 y70); (clear y1 y2 z1x2 z1x9 z1x11 z1x16 z1x19 z1x27 hI9 hlen9 z2x1 z1x31 z1x47 z1x50 z1x51 z1x57 z1x58 z1x59 z1x71 z1x74 z1x75 z1x86 z1x92 z1x93 z1x95 z1x114 z2x2 l2 y5 z1x177 z1x185 z1x186 z3x3 z3x4 z2x12 z2x13 z2x14 z2x17 z2x19 ss9 hb9 hs9 y6 z3x10 z3x12 z3x13 z3x15 z3x16 z3x18 z3x19 z3x20 z3x22 z3x30 z3x31 z3x41 z3x44 z3x57 z3x77 z3x88 z3x109 z3x117 z3x122 z3x127 z3x134 z3x139 hI' z3x152 hl9 hi9 z4x7 y11 y12 hS9 hS0 hS1 y14 y15 y16 y17 y18 y19 y20 y22 y23 y24 y25 y26 y27 y28 y29 y30 y31 y32 y33 y34 y35 y36 y37 y38 y39 y40 y43 y44 y45 y46 y55 y56 y57 y58 y59 y60 y61 y62 y63 y64 y65 y66 y67 y68 y69 y70 kLen); (have mkc21 : Mk 121 := Mk.mk))
  k_with "execs cons Assign cons" => (k_here; (with_reducible show wpAny _ _ (execs (Stmt.Assign [Expr.Subscript _ _ _] _ _ :: _) (envOf (Str.ofString "PolynomialRing.sample_in_ball") _ _ _ _)) _ _ _); (with_reducible rename Mk 121 => mkb); (fail_if_success (with_reducible rename Mk 122 => mkn)); (fail_if_success (with_reducible rename Mk 105 => mkn)); (rename_i z22x1 z22x2 z22x3 z22x4 z22x5 z22x6 z22x7 z22x8 z22x9 z22x10 z22x11 z22x12 z22x13 y14 y15 y16 y17 y18 y19 y20 y21 y22 y23 y24 y25 z22x26 y27 y28 y29 y30 y31 y32 y33 y34 y35 y36 z22x37 z22x38 y39 y40 y41 y42 y43 y44 z22x45 y46 z22x47 y48 y49 z22x50 y51 y52 y53 y54 z22x55 z22x56 z22x57); (clear tl z2x8 z3x37 z3x49 z3x50 z3x55 z3x56 hB9 z4x13 z4x14 z21x54 kFr kNews y14 y15 y16 FG' y17 y18 y19 y20 y21 y22 y23 y24 y25 y27 kU kH kTk y28 y29 kLen y30 y31 g' L' y32 B' X' T' lifted qk ek y33 y34 y35 y36 c9 h' t' k' hc9 y39 y40 y41 y42 y43 y44 y46 y48 y49 Q' hQ' y51 y52 y53 y54); (have mkc22 : Mk 122 := Mk.mk))
  k_with "execs cons While" => (k_here; (with_reducible show wpAny _ _ (execs (Stmt.While (Expr.Compare (Expr.Subscript _ _ _) _ _ _) _ _ _ :: _) _) _ _ _); (with_reducible rename Mk 107 => mkb); (fail_if_success (with_reducible rename Mk 123 => mkn)); (fail_if_success (with_reducible rename Mk 108 => mkn)); (rename_i y1 z23x2 z23x3 y4 z23x5 z23x6 z23x7 z23x8 z23x9 y10 z23x11 y12 y13 z23x14 z23x15 z23x16 y17 y18 y19 z23x20 z23x21 z23x22 z23x23 z23x24 z23x25); (clear y1 z1x2 z1x11 z1x16 z1x19 z1x27 y4 hlen9 z2x1 z1x31 z1x47 z1x50 z1x51 z1x54 z1x57 z1x58 z1x59 z1x71 z1x74 z1x75 z1x86 z1x92 z1x93 z1x95 z1x114 z2x2 l2 z1x177 z3x4 z2x19 hb9 hs9 z6x1 z3x10 z3x12 z3x13 z3x15 z3x16 z3x18 z3x19 z3x20 z3x22 z3x30 z3x31 z3x49 z3x50 z3x55 z3x56 z3x57 z3x109 z3x117 z3x122 z3x127 z3x134 z3x139 z7x6 hB9 hl9 hi9 hS9 z5x30 z5x44 kFacts kInv z6x56 z6x57 z7x18 z7x23 y10 z7x39 z7x40 z7x41 z7x42 z7x45 hQ' hO9 hoe9 z7x76 y12 y13 z7x78 z7x79 z7x80 z7x82 z7x83 y17 y18 y19 oi' v' d2' hn2' F' N'); (have mkc23 : Mk 123 := Mk.mk))
  k_with "execs cons Assign cons" => (k_here; (with_reducible show wpAny _ _ (execs (Stmt.Assign [Expr.Name (Str.ofString "j") _] _ _ :: _) (envOf (Str.ofString "PolynomialRing.sample_in_ball") _ _ _ _)) _ _ _); (with_reducible rename Mk 111 => mkb); (fail_if_success (with_reducible rename Mk 124 => mkn)); (fail_if_success (with_reducible rename Mk 112 => mkn)); (rename_i y1 y2 z24x3 y4 z24x5 z24x6 y7 y8 z24x9 y10 y11 z24x12 z24x13 z24x14 y15 y16 z24x17 y18 y19 y20 y21 y22 y23 y24 z24x25 y26 y27 y28 y29 y30 y31 y32 y33 y34 y35 y36 y37 y38 y39 y40 y41 y42 y43 y44 y45 y46 y47 y48 y49 y50 y51 y52 y53 y54 y55 y56 y57 y58 y59 y60 y61 z24x62 z24x63 y64 y65 y66 y67 z24x68 z24x69 z24x70 z24x71 z24x72 z24x73 z24x74 z24x75 y76 y77 y78 y79 y80 y81 y82 y83 y84 y85 y86 y87 y88 y89 y90 y91 y92 y93 y94 y95 y96 y97 y98 y99 y100 y101 y102 y103 y104 y105 y106 y107 y108); (clear y1 y2 z1x2 z1x9 z1x11 z1x16 z1x19 z1x27 y4 hlen9 z2x1 z1x31 z1x59 z10x3 z1x177 z3x3 z3x4 z2x8 z2x17 z2x19 hb9 hs9 z6x1 z3x10 z3x13 z3x15 z3x16 z3x18 z3x57 z3x106 z3x109 z3x115 z3x117 z3x120 z3x122 z3x125 z3x127 z7x4 z3x134 z3x137 z3x139 z7x5 z7x6 y7 z7x7 z5x30 z5x41 z5x42 y8 y10 z7x15 z7x18 z7x21 z7x23 z9x3 z9x4 z10x5 ob hI9 y11 z7x76 pl' vs' z8x13 z9x8 z9x10 z10x9 z10x10 z9x13 z9x14 z9x15 z9x16 z9x18 z10x11 z10x12 z10x22 z10x25 z10x80 z10x88 z10x93 z10x98 z10x105 z10x110 hI' z10x123 hl9 hi9 z11x8 y15 y16 hS9 hS0 hS1 y18 y19 y20 y21 y22 y23 y24 y26 y27 y28 y29 y30 y31 y32 y33 y34 y35 y36 y37 y38 y39 y40 y41 y42 y43 y44 y45 y46 y47 y48 y49 y50 y51 y52 y53 y54 y55 y56 y57 y58 y59 y60 y61 y64 y65 y66 y67 y76 y77 y78 y79 y80 y81 y82 y83 y84 y85 y86 y87 y88 y89 y90 y91 y92 y93 y94 y95 y96 y97 y98 y99 y100 y101 y102 y103 y104 y105 y106 y107 y108 kLen); (have mkc24 : Mk 124 := Mk.mk))
  k_with "execs cons Assign cons" => (k_here; (with_reducible show wpAny _ _ (execs (Stmt.Assign [Expr.Subscript _ _ _] _ _ :: _) (envOf (Str.ofString "PolynomialRing.sample_in_ball") _ _ _ _)) _ _ _); (with_reducible rename Mk 124 => mkb); (fail_if_success (with_reducible rename Mk 125 => mkn)); (fail_if_success (with_reducible rename Mk 112 => mkn)); (rename_i z25x1 z25x2 z25x3 z25x4 z25x5 z25x6 z25x7 z25x8 z25x9 z25x10 z25x11 z25x12 z25x13 z25x14 y15 y16 y17 y18 y19 y20 y21 y22 y23 y24 y25 z25x26 y27 y28 y29 y30 y31 y32 y33 y34 y35 y36 z25x37 z25x38 y39 y40 y41 y42 y43 y44 z25x45 y46 z25x47 y48 y49 z25x50 z25x51 z25x52 y53 y54 z25x55 z25x56 z25x57); (clear tl ss9 z3x49 z3x50 z3x55 z3x56 z10x18 hB9 z11x14 z11x15 z24x75 kFr kNews y15 y16 y17 y18 y19 y20 y21 y22 y23 y24 y25 y27 kU kH kTk y28 y29 kLen y30 y31 g' L' y32 B' X' T' lifted qk ek y33 y34 y35 y36 c9 h' t' k' hc9 y39 y40 y41 y42 y43 y44 y46 y48 y49 Q' hQ' y53 y54); (have mkc25 : Mk 125 := Mk.mk))
  k_with "execs cons While" => (k_here; (with_reducible show wpAny _ _ (execs (Stmt.While (Expr.Compare (Expr.Subscript _ _ _) _ _ _) _ _ _ :: _) _) _ _ _); (with_reducible rename Mk 114 => mkb); (fail_if_success (with_reducible rename Mk 126 => mkn)); (fail_if_success (with_reducible rename Mk 115 => mkn)); (rename_i z26x1 z26x2 z26x3 z26x4 z26x5 y6 y7 z26x8 z26x9 z26x10 y11 y12 y13 z26x14 z26x15 z26x16 z26x17 z26x18 z26x19); (clear z1x11 z1x64 z1x80 z1x90 z10x1 z10x2 z3x15 z3x18 z3x57 z12x6 z9x15 z9x16 z9x18 z10x11 z10x12 hB9 hl9 hi9 hS9 z12x68 z12x70 kFacts kInv z13x54 z13x55 z14x44 z14x45 z14x46 z14x47 z14x50 hQ' hO9 hoe9 z14x98 y6 y7 z14x100 z14x101 z14x102 z14x104 z14x105 y11 y12 y13 oi' v' d2' hn2' F' N'); (have mkc26 : Mk 126 := Mk.mk))
  k_with "execs cons" => (k_here; (with_reducible show wpAny _ _ (execs _ (envOf (Str.ofString "law") _ _ _ _)) _ _ _); k_extra "EXA")
  k_with "exec Assign" => ((with_reducible show wpAny _ _ (exec (Stmt.Assign [Expr.Name _ _] _ _) _) _ _ _); (first | (with_reducible refine wpAny_Assign_Name ?_) | k_dflt refine wpAny_Assign_Name ?_))
  k_with "subscriptTail" => (k_here; (with_reducible show wpAny _ _ (subscriptTail _ (Expr.Slice _ _ none _) (Value.bytes _ _) (Value.ref _)) _ _ _); first | ((with_reducible refine' cut1 (s := ⟨_, _, _, _, _⟩) ?k1w174 ?k2w174 ?k3w174 ?k4w174 ?_); k_dflt ((case k1w174 => with_reducible assumption); (case k2w174 => with_reducible assumption); (case k3w174 => with_reducible assumption); (case k4w174 => (refine' RejW.room ?krw174; (case krw174 => with_reducible assumption))); intro c9 h' t' k' hc9 F' N'; (try k_sweep))) | ((with_reducible refine' cut8 (s := ⟨_, _, _, _, _⟩) ?k0w174 ?k00w174 ?k1w174 ?k2w174 ?k3w174 ?_); k_dflt ((case k0w174 => rfl); (case k00w174 => rfl); (case k1w174 => with_reducible assumption); (case k2w174 => with_reducible assumption); (case k3w174 => with_reducible assumption); intro c9 l9 h' t' k' hc9 hl9 hi9 he9 F' N'; (try k_sweep))))
  k_with "subscriptTail Attribute Name Slice bytes ref" => (k_here; (with_reducible show wpAny _ _ (subscriptTail _ (Expr.Slice _ _ none _) (Value.bytes _ _) (Value.ref _)) _ _ _); first | ((with_reducible refine' cut1 (s := ⟨_, _, _, _, _⟩) ?k1w175 ?k2w175 ?k3w175 ?k4w175 ?_); k_dflt ((case k1w175 => with_reducible assumption); (case k2w175 => with_reducible assumption); (case k3w175 => with_reducible assumption); (case k4w175 => (refine' RejW.room ?krw175; (case krw175 => with_reducible assumption))); intro c9 h' t' k' hc9 F' N'; (try k_sweep))) | ((with_reducible refine' cut8 (s := ⟨_, _, _, _, _⟩) ?k0w175 ?k00w175 ?k1w175 ?k2w175 ?k3w175 ?_); k_dflt ((case k0w175 => rfl); (case k00w175 => rfl); (case k1w175 => with_reducible assumption); (case k2w175 => with_reducible assumption); (case k3w175 => with_reducible assumption); intro c9 l9 h' t' k' hc9 hl9 hi9 he9 F' N'; (try k_sweep))))
  k_with "exec Assign" => ((with_reducible show wpAny _ _ (exec (Stmt.Assign [Expr.Attribute _ _ _] _ _) _) _ _ _); (first | (with_reducible refine' plainObj_wpAny_Assign_Attribute ?_ ?hsw176) | k_dflt refine' plainObj_wpAny_Assign_Attribute ?_ ?hsw176); k_dflt ((case hsw176 => with_unfolding_all rfl)))
  k_with "exec Assign cons ListComp" => ((with_reducible show wpAny _ _ (exec (Stmt.Assign [Expr.Attribute _ _ _] _ _) _) _ _ _); (first | (with_reducible refine' plainObj_wpAny_Assign_Attribute ?_ ?hsw177) | k_dflt refine' plainObj_wpAny_Assign_Attribute ?_ ?hsw177); k_dflt ((case hsw177 => with_unfolding_all rfl)))
  (w_on; o_law; k_head; (case hw => w_witness2); w_strict (k_go0; (all_goals try k_fold); (repeat' (first | (k_unfold; (try dsimp only)) | (k_end; kc_close) | walk1 | (dsimp only; walk1) | ((refine of_abs (by with_reducible assumption) ?_); (try dsimp only)) | (leave1; (try dsimp only))))))
theorem PySem.Challenge.cw_iu0004_03_holds : PySem.Challenge.rw_iu0004_03.Holds :=
  Mine.hd
