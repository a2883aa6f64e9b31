import PyProof.Rows.All
import Wide.All
import OpenK.AllK
import KE.KDictOf
import PyProof.IsiH_list
import KE.KItem
import KE.KListMore
import KE.KExtendNil
import Wide.FinOn
import KE.KParC
import KE.LcTurns
import KE.KOwnIter
import KE.KLcTest
import PyProof.Draws
import PyProof.EnumMake
import PyProof.Rows.TupIter
import PySem.Challenge.RW_io0015_03
set_option Elab.async false
set_option genInjectivity false
set_option genSizeOf false
set_option maxRecDepth 100000
set_option maxHeartbeats 400000
set_option linter.unusedVariables false
namespace Mini
open PySem PySem.W PySem.Calls PyProof.Rows PySem.Builtin PySem.Builtin.Str
namespace FK
theorem if_no {α : Type} {M : Model} {A : Around} {E : Value → Shared → Prop} {s : Shared} {c : Bool} {a b : Sem α} {Q : α → Shared → Prop} (hc : c = false) (h : wpAny M A b Q E s) : wpAny M A (if c = true then a else b) Q E s := by
  subst hc; exact h
theorem if_yes {α : Type} {M : Model} {A : Around} {E : Value → Shared → Prop} {s : Shared} {c : Bool} {a b : Sem α} {Q : α → Shared → Prop} (hc : c = true) (h : wpAny M A a Q E s) : wpAny M A (if c = true then a else b) Q E s := by
  subst hc; exact h
theorem entry_fk : entryFor table "dict.fromkeys" = some Builtin.«dict.fromkeys» := entryFor_of_tree (by kernel_rfl)
theorem entry_lp : entryFor table "dict.fromkeys.loop" = some Builtin.«dict.fromkeys.loop» := entryFor_of_tree (by kernel_rfl)
theorem quiet_fk {as : Args} : (Code.builtin "dict.fromkeys" as).quiet = true := Code.quiet_builtin _ (by decide +kernel)
theorem quiet_lp {as : Args} : (Code.builtin "dict.fromkeys.loop" as).quiet = true := Code.quiet_builtin _ (by decide +kernel)
theorem type_dict : isType (.type "dict") = pure true := by first | rfl | kernel_rfl
theorem sub_dict : isSubtype (.type "dict") (.type "dict") = pure true := by rw [isSubtype_type]; kernel_rfl
theorem newCall0 : checkBuiltinCall "dict.__new__" ⟨[.type "dict"], []⟩ = pure () := by kernel_rfl
theorem typeCall0 : checkTypeCall "dict" ⟨[], []⟩ = pure () := by kernel_rfl
theorem args_init1 (a : Value) : argsOk "dict.__init__" ⟨[a], []⟩ := by unfold argsOk; kernel_rfl
section
variable {prog : Program} {w : World} {A : Around} {E : Value → Shared → Prop} {s : Shared}
theorem code_new {Q₁ : Value → Shared → Prop} (h : Q₁ (.ref s.heap.objs.size) { s with heap := s.heap.push { cls := .type "dict", data := .dict #[] } }) :
    codeAny (model prog w) A (.call (.builtin "dict.__new__") ⟨[.type "dict"], []⟩) (wants Q₁ E) s := by
  refine codeAny_call_builtin F.kt_plain_dict_new F.kt_entry_dict_new (wpAny_of_eq newCall0 ?_)
  have hsub := F.kt_sub_dict
  have hmro := F.kt_mro_dict
  obtain ⟨hp, g, d, tk, os⟩ := s
  unfold Builtin.«dict.__new__»
  wp_walk
  exact h
theorem call_dict {Q : Value → Shared → Prop} (h : Q (.ref s.heap.objs.size) { s with heap := s.heap.push { cls := .type "dict", data := .dict #[] } }) :
    wpAny (model prog w) A (call (.type "dict") []) Q E s := by
  refine callType_codes (Q₁ := fun obj s₁ => obj = .ref s.heap.objs.size ∧ s₁ = { s with heap := s.heap.push { cls := .type "dict", data := .dict #[] } }) F.kt_called_dict typeCall0 F.entry_dict_init (code_new ⟨rfl, rfl⟩) ?_
  rintro obj s₁ ⟨rfl, rfl⟩
  have hnew : (s.heap.push { cls := .type "dict", data := .dict #[] }).DictOf (strKind prog w) s.heap.objs.size [] := Heap.DictOf.new s.heap
  refine ⟨hnew.typeIs, args_init1 _, ?_⟩
  unfold Builtin.«dict.__init__»
  refine wpAny_bind ?_
  unfold Builtin.Dict.selfAndRest
  refine wpAny_bind (wpAny_notOrdered_dict hnew.typeIs ?_)
  refine wpAny_pure ?_
  exact wpAny_bind (wpAny_pure (wpAny_pure ⟨rfl, h⟩))
noncomputable def IsSt (T : String) : Prop := T = "str_ascii_iterator" ∨ T = "str_iterator"
theorem next_item {T : String} (hT : IsSt T) {it : Addr} {x : Str} {t : Tok} {i c : Nat} {Q : Option Value → Shared → Prop} (hit : s.heap.IsStrIter it T x t i) (hx : x.cps[i]? = some c)
    (hQ : ∀ h', h'.IsStrIter it T x t (i + 1) → Heap.SameBut it s.heap h' → Q (some (.str ⟨#[c]⟩ s.toks)) { s with heap := h', toks := s.toks + 1 }) : wpAny (model prog w) A (pyNext (.ref it)) Q E s := by
  rcases hT with rfl | rfl
  · exact wpAny_pyNext_ascii_item hit hx hQ
  · exact wpAny_pyNext_wide_item hit hx hQ
theorem next_end {T : String} (hT : IsSt T) {it : Addr} {x : Str} {t : Tok} {i : Nat} {Q : Option Value → Shared → Prop} (hh : A.handled = none) (hit : s.heap.IsStrIter it T x t i) (hx : x.cps[i]? = none)
    (hQ : ∀ h', Heap.ExtBut it s.heap h' → Q none { s with heap := h' }) : wpAny (model prog w) A (pyNext (.ref it)) Q E s := by
  rcases hT with rfl | rfl
  · exact wpAny_pyNext_ascii_end hh hit hx hQ
  · exact wpAny_pyNext_wide_end hh hit hx hQ
theorem mk_iter {x : Str} {t : Tok} {Q : Value → Shared → Prop} (hQ : ∀ T h', IsSt T → h'.IsStrIter s.heap.objs.size T x t 0 → (∀ o, s.heap.get? s.heap.objs.size = some o → False) → (∃ o, h' = s.heap.push o) → Q (.ref s.heap.objs.size) { s with heap := h' }) :
    wpAny (model prog w) A (pyIter (.str x t)) Q E s := by
  have no : ∀ o, s.heap.get? s.heap.objs.size = some o → False := fun o e => absurd (Heap.lt_size e) (Nat.lt_irrefl _)
  cases ha : x.cps.all (· < 128) with
  | true => exact wpAny_pyIter_ascii ha (hQ _ _ (.inl rfl) ⟨_, Heap.get?_push_size _ rfl, rfl, rfl⟩ no ⟨_, rfl⟩)
  | false => exact wpAny_pyIter_wide ha (hQ _ _ (.inr rfl) ⟨_, Heap.get?_push_size _ rfl, rfl, rfl⟩ no ⟨_, rfl⟩)
theorem isStr_same {h h' : Heap} {T : String} {it b : Addr} {x : Str} {t : Tok} {i : Nat} (hit : h.IsStrIter it T x t i) (hs : Heap.SameBut b h h') (hne : it ≠ b) : h'.IsStrIter it T x t i := by
  obtain ⟨o, ho, r⟩ := hit
  exact ⟨o, (hs.2 it hne).trans ho, r⟩
noncomputable def kNone (l : List Nat) : List (Str × Value) := l.map fun c => (⟨#[c]⟩, .none)
theorem kNone_in {l : List Nat} {c : Nat} : (⟨#[c]⟩ : Str) ∈ (kNone l).map (·.1) → c ∈ l := fun h => by
  obtain ⟨p, hp, e⟩ := List.mem_map.mp h
  obtain ⟨c', hc, rfl⟩ := List.mem_map.mp hp
  have e : (⟨#[c']⟩ : Str) = ⟨#[c]⟩ := e
  have : #[c'] = #[c] := congrArg Str.cps e
  have : c' = c := by simpa using this
  exact this ▸ hc
theorem stored_new {K : Type} [DecidableEq K] {kvs : List (K × Value)} {k : K} {v : Value} (h : k ∉ kvs.map (·.1)) : stored kvs k v = kvs ++ [(k, v)] := by
  unfold stored
  rw [if_neg]
  intro q
  obtain ⟨p, hp, e⟩ := List.any_eq_true.mp q
  exact h (List.mem_map.mpr ⟨p, hp, of_decide_eq_true e⟩)
noncomputable def Two (a b : Addr) (h h' : Heap) : Prop := ∀ c o, h.get? c = some o → c ≠ a → c ≠ b → h'.get? c = some o
theorem loop {d it : Addr} {T : String} {x : Str} {t : Tok} (hT : IsSt T) (hne : d ≠ it) (hnd : x.cps.toList.Nodup) (hsz : x.cps.size ≤ 1000) : ∀ (n i : Nat) (A : Around) (s : Shared), A.handled = none → i + n = x.cps.size → s.heap.IsStrIter it T x t i → s.heap.DictOf (PySem.strKind prog w) d (kNone (x.cps.toList.take i)) →
    ∀ {Q : Value → Shared → Prop}, (∀ h' tk, h'.DictOf (PySem.strKind prog w) d (kNone x.cps.toList) → Two d it s.heap h' → Q (.ref d) { s with heap := h', toks := tk }) →
    codeAny (model prog w) A (.builtin "dict.fromkeys.loop" ⟨[.ref d, .ref it, .none], []⟩) (wants Q E) s := by
  intro n
  induction n with
  | zero =>
    intro i A s hh hi hit hd Q hQ
    refine codeAny_builtin entry_lp ?_
    rw [Around.under_plain rfl rfl]
    show wpAny _ _ (pyNext (.ref it) >>= _) _ _ s
    refine wpAny_bind (next_end hT hh hit (by rw [Array.getElem?_eq_none_iff]; omega) fun h' he => ?_)
    rw [List.take_of_length_le (by rw [Array.length_toList]; omega)] at hd
    exact wpAny_pure (hQ h' _ (hd.extBut he hne) fun c o ho _ h2 => he c o h2 ho)
  | succ n ih =>
    intro i A s hh hi hit hd Q hQ
    have hlt : i < x.cps.size := by omega
    have hx : x.cps[i]? = some x.cps[i] := Array.getElem?_eq_getElem hlt
    refine codeAny_builtin entry_lp ?_
    rw [Around.under_plain rfl rfl]
    show wpAny _ _ (pyNext (.ref it) >>= _) _ _ s
    refine wpAny_bind (next_item hT hit hx fun h₁ hit₁ hs₁ => ?_)
    have hd₁ := hd.sameBut hs₁ hne
    show wpAny _ _ (typeOf (.ref d) >>= _) _ _ _
    refine wpAny_bind (wpAny_typeOf hd₁.typeIs ?_)
    refine if_yes rfl ?_
    refine wpAny_bind (wpAny_of_eq (a := d) rfl ?_)
    refine wpAny_bind (wpAny_holding ?_)
    show wpAny _ _ (dictSet d (.str ⟨#[x.cps[i]]⟩ s.toks) .none) _ _ _
    refine wpAny_dictSet_pairs (PySem.strKind_is prog w ⟨#[x.cps[i]]⟩ s.toks) hd₁ (fun h₂ hd₂ hs₂ => ?_) (by unfold kNone; rw [List.length_map, List.length_take, Array.length_toList]; exact Nat.le_trans (Nat.min_le_right _ _) (Nat.le_trans hsz (by decide)))
    have hget : x.cps.toList[i]? = some x.cps[i] := by rw [Array.getElem?_toList]; exact hx
    have hnew : (⟨#[x.cps[i]]⟩ : Str) ∉ (kNone (x.cps.toList.take i)).map (·.1) := fun q => by
      have q := kNone_in q
      obtain ⟨j, hj⟩ := List.getElem?_of_mem q
      have hj' := (List.getElem?_eq_some_iff.mp hj).1
      rw [List.length_take] at hj'
      have hji : j < i := by omega
      rw [List.getElem?_take_of_lt hji] at hj
      have := (List.getElem?_inj (by rw [Array.length_toList]; omega) hnd).mp (hj.trans hget.symm)
      omega
    rw [stored_new hnew] at hd₂
    have e : kNone (x.cps.toList.take i) ++ [((⟨#[x.cps[i]]⟩ : Str), Value.none)] = kNone (x.cps.toList.take (i + 1)) := by
      unfold kNone
      rw [List.take_add_one, hget, Option.toList_some, List.map_append]; rfl
    rw [e] at hd₂
    refine wpAny_pure ⟨quiet_lp, ?_⟩
    refine ih (i + 1) A { s with heap := h₂, toks := s.toks + 1 + 1 } hh (by omega) (by exact isStr_same hit₁ hs₂ (Ne.symm hne)) (by exact hd₂) fun h' tk hd' h2 => ?_
    refine hQ h' tk hd' fun c o ho n1 n2 => h2 c o ?_ n1 n2
    exact (hs₂.2 c n1).trans ((hs₁.2 c n2).trans ho)
theorem run_fk {x : Str} {t : Tok} (hh : A.handled = none) (hnd : x.cps.toList.Nodup) (hsz : x.cps.size ≤ 1000) {Q : Value → Shared → Prop}
    (hQ : ∀ h' tk, h'.DictOf (PySem.strKind prog w) s.heap.objs.size (kNone x.cps.toList) → s.heap.StaysIn h' → Q (.ref s.heap.objs.size) { s with heap := h', toks := tk }) :
    codeAny (model prog w) A (.builtin "dict.fromkeys" ⟨[.type "dict", .str x t], []⟩) (wants Q E) s := by
  refine codeAny_builtin entry_fk ?_
  rw [Around.under_plain rfl rfl]
  unfold Builtin.«dict.fromkeys»
  refine wpAny_bind (wpAny_of_eq (a := true) type_dict ?_)
  refine if_no rfl ?_
  refine wpAny_bind (wpAny_of_eq (a := true) sub_dict ?_)
  refine if_no rfl ?_
  refine if_no rfl ?_
  refine wpAny_bind (wpAny_rule (wpAny_bind (wpAny_pure ?_)))
  dsimp only
  refine wpAny_bind (call_dict ?_)
  refine wpAny_holding ?_
  have hnew : (s.heap.push { cls := .type "dict", data := .dict #[] }).DictOf (PySem.strKind prog w) s.heap.objs.size [] := Heap.DictOf.new s.heap
  refine wpAny_bind (wpAny_typeOf (typeIs_str _ _ _) ?_)
  refine wpAny_bind (wpAny_typeOf hnew.typeIs ?_)
  refine if_no (by decide) ?_
  refine wpAny_bind (wpAny_typeOf hnew.typeIs ?_)
  refine if_no (by decide) ?_
  refine wpAny_bind (mk_iter fun T h' hT hit no hp => ?_)
  obtain ⟨o, rfl⟩ := hp
  have hlt : s.heap.objs.size < (s.heap.push { cls := .type "dict", data := .dict #[] }).objs.size := by rw [Heap.size_push]; exact Nat.lt_succ_self _
  refine wpAny_pure ⟨quiet_lp, ?_⟩
  refine loop hT (Nat.ne_of_lt hlt) hnd hsz x.cps.size 0 A { s with heap := (s.heap.push { cls := .type "dict", data := .dict #[] }).push o } hh (Nat.zero_add _) (by exact hit) (by exact hnew.push _) fun h' tk hd h2 => ?_
  refine hQ h' tk hd fun b o' hb => h2 b o' (Heap.get?_push_of_some _ (Heap.get?_push_of_some _ hb)) (Nat.ne_of_lt (Heap.lt_size hb)) (Nat.ne_of_lt (Nat.lt_trans (Heap.lt_size hb) hlt))
end
end FK
end Mini
namespace Mini
open PySem PySem.W PySem.Calls PyProof.Rows PySem.Builtin PySem.Builtin.Str
namespace FK
theorem entry_mt : entryFor table "str.maketrans" = some Builtin.«str.maketrans» := entryFor_of_tree (by kernel_rfl)
theorem plain_mt : plainId "str.maketrans" = true := by decide +kernel
theorem check_mt (d : Addr) : checkBuiltinCall "str.maketrans" ⟨[.ref d], []⟩ = pure () := by kernel_rfl
section
variable {prog : Program} {w : World} {A : Around} {E : Value → Shared → Prop} {s : Shared}
noncomputable def iNone (l : List Nat) : List (Int × Value) := l.map fun (c : Nat) => ((c : Int), Value.none)
theorem for_inv {M : Model} {β : Type} {f : β → PUnit → Sem (ForInStep PUnit)} (I : List β → Shared → Prop) {Q : PUnit → Shared → Prop} (step : ∀ e es s, I (e :: es) s → wpAny M A (f e PUnit.unit) (fun r s' => r = .yield PUnit.unit ∧ I es s') E s) : ∀ (es : List β) (s : Shared), I es s → (∀ s', I [] s' → Q PUnit.unit s') → wpAny M A (forIn es PUnit.unit f) Q E s
  | [], s, h, q => by rw [List.forIn_nil]; exact wpAny_pure (q s h)
  | e :: es, s, h, q => by
    rw [List.forIn_cons]
    refine wpAny_bind (wpAny_mono (step e es s h) (fun r s' hr => ?_) fun _ _ x => x)
    obtain ⟨rfl, hI⟩ := hr
    exact for_inv I step es s' hI q
theorem iNone_in {l : List Nat} {c : Nat} : ((c : Int)) ∈ (iNone l).map (·.1) → c ∈ l := fun h => by
  obtain ⟨p, hp, e⟩ := List.mem_map.mp h
  obtain ⟨c', hc, rfl⟩ := List.mem_map.mp hp
  have e : ((c' : Nat) : Int) = ((c : Nat) : Int) := e
  exact Int.ofNat.inj e ▸ hc
theorem iNone_len (l : List Nat) : (iNone l).length = l.length := List.length_map ..
inductive MtI (prog : Program) (w : World) (s : Shared) (l : List Nat) : List DictEntry → Shared → Prop
  | mk {es done rest h tk} : l = done ++ rest → Pairs (PySem.strKind prog w) es (kNone rest) → h.DictOf (intKind prog w) s.heap.objs.size (iNone done) → s.heap.StaysIn h → MtI prog w s l es { s with heap := h, toks := tk }
theorem call_mt {d : Addr} {l : List Nat} (hlo : (d == sysModules) = false) (hd : s.heap.DictOf (PySem.strKind prog w) d (kNone l)) (hnd : l.Nodup) (hsz : l.length ≤ 1000) {Q : Value → Shared → Prop}
    (hQ : ∀ h' tk, h'.DictOf (intKind prog w) s.heap.objs.size (iNone l) → s.heap.StaysIn h' → Q (.ref s.heap.objs.size) { s with heap := h', toks := tk }) :
    wpAny (model prog w) A (call (.builtin "str.maketrans") [.ref d]) Q E s := by
  have hT : s.TypeIs (.ref d) "dict" := hd.typeIs
  obtain ⟨o, es, ep, ho, hx, hda, hk, hp, hn⟩ := hd
  refine wpAny_call (codeAny_call_builtin plain_mt entry_mt (wpAny_of_eq (check_mt d) ?_))
  unfold Builtin.«str.maketrans»
  refine wpAny_bind (wpAny_of_eq (a := ()) (by kernel_rfl) ?_)
  refine wpAny_bind (wpAny_of_eq (a := ()) (by kernel_rfl) ?_)
  refine wpAny_bind (wpAny_of_eq (a := none) (by kernel_rfl) ?_)
  refine wpAny_bind (wpAny_of_eq (a := none) (by kernel_rfl) ?_)
  refine wpAny_bind ?_
  unfold newDict
  refine wpAny_newObj_type ?_ (by first | decide | size_fits)
  dsimp only
  have hnew : (s.heap.push { cls := .type "dict", data := .dict #[] }).DictOf (intKind prog w) s.heap.objs.size [] := Heap.DictOf.new s.heap
  have ho₁ : (s.heap.push { cls := .type "dict", data := .dict #[] }).get? d = some o := Heap.get?_push_of_some _ ho
  refine wpAny_bind (wpAny_holding ?_)
  show wpAny _ _ (typeOf (.ref d) >>= _) _ _ _
  have hT₁ : Shared.TypeIs { s with heap := s.heap.push { cls := .type "dict", data := .dict #[] } } (.ref d) "dict" := by
    obtain ⟨o', h1, h2⟩ := (show ∃ o, s.heap.get? d = some o ∧ o.cls = .type "dict" from hT)
    exact ⟨o', Heap.get?_push_of_some _ h1, h2⟩
  refine wpAny_bind (wpAny_typeOf hT₁ ?_)
  refine wpAny_bind (wpAny_of_eq (a := ()) rfl ?_)
  refine wpAny_bind (wpAny_typeOf hT₁ ?_)
  refine if_no (by decide) ?_
  refine wpAny_bind ?_
  unfold notTheModulesDict
  rw [hlo]
  refine if_no rfl (wpAny_pure ?_)
  refine wpAny_bind (wpAny_dictEntries ho₁ hda ?_)
  rw [← Array.forIn_toList]
  refine wpAny_bind (for_inv (MtI prog w s l) (fun e es' s' hI => ?_) es.toList _ (.mk (done := []) rfl hp hnew fun b o hb => Heap.get?_push_of_some _ hb) fun s' hI => ?_)
  · obtain ⟨hl, hP, hD, hS⟩ := hI
    rename_i done rest h tk
    cases rest with
    | nil => exact nomatch hP
    | cons c rest =>
      obtain ⟨hk1, hv1, hP⟩ : (PySem.strKind prog w).is (⟨#[c]⟩ : Str) e.key = true ∧ e.val = .none ∧ Pairs (PySem.strKind prog w) es' (kNone rest) := by
        have hP : Pairs (PySem.strKind prog w) (e :: es') (((⟨#[c]⟩ : Str), Value.none) :: kNone rest) := hP
        cases hP with
        | cons a b c => exact ⟨a, b, c⟩
      obtain ⟨t, hkey⟩ := PySem.Value.isStrOf_shape hk1
      rw [hkey, hv1]
      refine wpAny_bind (wpAny_pure ?_)
      dsimp only
      refine wpAny_bind (wpAny_mkInt ?_)
      have hcn : ((c : Nat) : Int) ∉ (iNone done).map (·.1) := fun q => by
        rw [hl] at hnd
        exact (List.nodup_append.mp hnd).2.2 c (iNone_in q) c (.head _) rfl
      refine wpAny_bind (wpAny_dictSet_pairs (intKind_is prog w (c : Int) tk) hD (fun h₂ hd₂ hs₂ => ?_) (by rw [iNone_len]; have := congrArg List.length hl; rw [List.length_append] at this; exact Nat.le_trans (by omega) (Nat.le_trans hsz (by decide))))
      rw [stored_new hcn] at hd₂
      refine wpAny_pure ⟨rfl, .mk (done := done ++ [c]) (by rw [hl, List.append_assoc]; rfl) hP ?_ fun b o hb => (hs₂.2 b ?_).trans (hS b o hb)⟩
      · unfold iNone at hd₂ ⊢
        rw [List.map_append]; exact hd₂
      · exact Nat.ne_of_lt (Heap.lt_size hb)
  · obtain ⟨hl, hP, hD, hS⟩ := hI
    rename_i done rest h tk
    have hr : rest = [] := by
      cases rest with
      | nil => rfl
      | cons c r => exact nomatch hP
    subst hr
    rw [List.append_nil] at hl
    subst hl
    exact wpAny_pure (wpAny_pure (hQ h tk hD hS))
end
end FK
end Mini
namespace Mini
open PySem PySem.W PySem.Calls PyProof.Rows PySem.Builtin PySem.Builtin.Str
namespace FK
theorem entry_tr : entryFor table "str.translate" = some Builtin.«str.translate» := entryFor_of_tree (by kernel_rfl)
theorem plain_tr : plainId "str.translate" = true := by decide +kernel
theorem check_tr (x : Str) (t : Tok) (d : Addr) : checkBuiltinCall "str.translate" ⟨[.str x t, .ref d], []⟩ = pure () := by kernel_rfl
section
variable {prog : Program} {w : World} {A : Around} {E : Value → Shared → Prop} {s : Shared}
theorem at_none : ∀ {l : List Nat} {c : Nat}, c ∈ l → valueAt (iNone l) (c : Int) = some .none := by
  intro l
  induction l with
  | nil => exact fun h => nomatch h
  | cons a r ih =>
    intro c h
    unfold valueAt iNone
    rw [List.map_cons, List.find?_cons]
    by_cases e : a = c
    · subst e; rw [decide_eq_true rfl]; rfl
    · rw [show decide (((a : Nat) : Int) = ((c : Nat) : Int)) = false from decide_eq_false fun q => e (Int.ofNat.inj q)]
      exact ih ((List.mem_cons.mp h).resolve_left (Ne.symm e))
theorem at_no : ∀ {l : List Nat} {c : Nat}, c ∉ l → valueAt (iNone l) (c : Int) = none := by
  intro l
  induction l with
  | nil => exact fun _ => rfl
  | cons a r ih =>
    intro c h
    unfold valueAt iNone
    rw [List.map_cons, List.find?_cons, show decide (((a : Nat) : Int) = ((c : Nat) : Int)) = false from decide_eq_false fun q => h (by rw [← Int.ofNat.inj q]; exact .head _)]
    exact ih fun q => h (.tail _ q)
theorem sub_lk : isSubtype (.type "KeyError") (.type "LookupError") = pure true := by rw [isSubtype_type]; kernel_rfl
theorem lookup {tb : Addr} {l : List Nat} {c : Nat} (hlo : (tb == sysModules) = false) (hh : A.handled = none) (hd : s.heap.DictOf (intKind prog w) tb (iNone l)) {Q : Str.Mapped → Shared → Prop}
    (hQ : ∀ h' tk, s.heap.StaysIn h' → Q (if c ∈ l then .drop else .keep) { s with heap := h', toks := tk }) : wpAny (model prog w) A (Str.tableLookup (.ref tb) c) Q E s := by
  unfold Str.tableLookup
  refine wpAny_bind (wpAny_attempt (wpAny_bind (wpAny_mkInt ?_)))
  have hm := Heap.DictOf.mapOf hd
  by_cases h : c ∈ l
  · rw [if_pos h] at hQ
    refine wpAny_getItem_of (intKind_is prog w (c : Int) s.toks) hm (at_none h) ?_
    exact wpAny_pure (hQ _ _ fun b o e => e)
  · rw [if_neg h] at hQ
    refine wpAny_getItem_missing_of (intKind_is prog w (c : Int) s.toks) hlo hh hm (at_no h) fun h' e ne => ?_
    exact wpAny_bind (wpAny_isInstance (T := "KeyError") (by obtain ⟨ob, _, h1, h2, _⟩ := ne.there; exact ⟨ob, h1, h2⟩) sub_lk (wpAny_bind (wpAny_rule (wpAny_pure (hQ _ _ fun b o hb => ne.keeps b o hb)))))
theorem for_st {M : Model} {σ β : Type} {f : β → σ → Sem (ForInStep σ)} (I : List β → σ → Shared → Prop) {Q : σ → Shared → Prop} (step : ∀ e es st s, I (e :: es) st s → wpAny M A (f e st) (fun r s' => ∃ st', r = .yield st' ∧ I es st' s') E s) : ∀ (es : List β) (st : σ) (s : Shared), I es st s → (∀ st' s', I [] st' s' → Q st' s') → wpAny M A (forIn es st f) Q E s
  | [], st, s, h, q => by rw [List.forIn_nil]; exact wpAny_pure (q st s h)
  | e :: es, st, s, h, q => by
    rw [List.forIn_cons]
    refine wpAny_bind (wpAny_mono (step e es st s h) (fun r s' hr => ?_) fun _ _ x => x)
    obtain ⟨st', rfl, hI⟩ := hr
    exact for_st I step es st' s' hI q
noncomputable def kp (l p : List Nat) : List Nat := p.filter fun c => decide (c ∉ l)
theorem kp_in {l p : List Nat} {c : Nat} (h : c ∈ l) : kp l (p ++ [c]) = kp l p := by
  unfold kp
  rw [List.filter_append, List.filter_cons, decide_eq_false (fun q => q h), if_neg (by decide), List.filter_nil, List.append_nil]
theorem kp_no {l p : List Nat} {c : Nat} (h : c ∉ l) : kp l (p ++ [c]) = kp l p ++ [c] := by
  unfold kp
  rw [List.filter_append, List.filter_cons, decide_eq_true h, if_pos rfl, List.filter_nil]
noncomputable def mks (l : List Nat) : List Str := l.reverse.map fun c => ⟨#[c]⟩
theorem mks_snoc (l : List Nat) (c : Nat) : mks (l ++ [c]) = (⟨#[c]⟩ : Str) :: mks l := by
  unfold mks
  rw [List.reverse_append]; rfl
theorem glue_mks : ∀ (l : List Nat) (a : Array Nat), ((mks l).reverse.foldl (fun (acc : Array Nat) (p : Str) => acc ++ p.cps) a).toList = a.toList ++ l := by
  intro l
  unfold mks
  rw [List.map_reverse, List.reverse_reverse]
  induction l with
  | nil => exact fun a => (List.append_nil _).symm
  | cons c r ih =>
    intro a
    show (List.foldl _ (a ++ #[c]) _).toList = _
    rw [ih, Array.toList_append]; simp
noncomputable def KnOk (l : List Nat) (kn : List (Nat × Option Nat)) : Prop := ∀ c a, kn.lookup c = some a → a = if c ∈ l then none else some c
theorem KnOk.cons {l : List Nat} {kn : List (Nat × Option Nat)} {c : Nat} {a : Option Nat} (h : KnOk l kn) (ha : a = if c ∈ l then none else some c) : KnOk l ((c, a) :: kn) := fun c' a' e => by
  rw [List.lookup_cons] at e
  cases hc : c' == c with
  | true => rw [hc] at e; cases e; rw [beq_iff_eq.mp hc]; exact ha
  | false => rw [hc] at e; exact h c' a' e
theorem for_tr {M : Model} {l : List Nat} {N : Nat} {f : Nat → List Str × Nat × Bool × List (Nat × Option Nat) × Bool → Sem (ForInStep (List Str × Nat × Bool × List (Nat × Option Nat) × Bool))} {Q : List Str × Nat × Bool × List (Nat × Option Nat) × Bool → Shared → Prop}
    (step : ∀ c p h tk fast known after, p.length ≤ N → s.heap.StaysIn h → KnOk l known → ∀ Q' : ForInStep (List Str × Nat × Bool × List (Nat × Option Nat) × Bool) → Shared → Prop,
      (∀ fast' known' after' h' tk', s.heap.StaysIn h' → KnOk l known' → Q' (.yield (mks (if c ∈ l then kp l p else kp l p ++ [c]), (if c ∈ l then (kp l p).length else (kp l p).length + 1), fast', known', after')) { s with heap := h', toks := tk' }) → wpAny M A (f c (mks (kp l p), (kp l p).length, fast, known, after)) Q' E { s with heap := h, toks := tk }) :
    ∀ (es p : List Nat) h tk fast known after, p.length + es.length ≤ N → s.heap.StaysIn h → KnOk l known → (∀ fast' known' after' h' tk', s.heap.StaysIn h' → Q (mks (kp l (p ++ es)), (kp l (p ++ es)).length, fast', known', after') { s with heap := h', toks := tk' }) →
      wpAny M A (forIn es (mks (kp l p), (kp l p).length, fast, known, after) f) Q E { s with heap := h, toks := tk }
  | [], p, h, tk, fast, known, after, hl, hs, hk, q => by
    rw [List.append_nil] at q
    rw [List.forIn_nil]; exact wpAny_pure (q _ _ _ _ _ hs)
  | c :: es, p, h, tk, fast, known, after, hl, hs, hk, q => by
    rw [List.forIn_cons]
    have e1 : (if c ∈ l then kp l p else kp l p ++ [c]) = kp l (p ++ [c]) := by
      by_cases hc : c ∈ l
      · rw [if_pos hc, kp_in hc]
      · rw [if_neg hc, kp_no hc]
    have e2 : (if c ∈ l then (kp l p).length else (kp l p).length + 1) = (kp l (p ++ [c])).length := by
      by_cases hc : c ∈ l
      · rw [if_pos hc, kp_in hc]
      · rw [if_neg hc, kp_no hc, List.length_append]; rfl
    refine wpAny_bind (step c p h tk fast known after (Nat.le_trans (Nat.le_add_right _ _) hl) hs hk _ fun fast' known' after' h' tk' hs' hk' => ?_)
    rw [e1, e2]
    refine for_tr step es (p ++ [c]) h' tk' fast' known' after' (by rw [List.length_append]; exact Nat.le_trans (Nat.le_of_eq (Nat.add_right_comm p.length 1 es.length)) hl) hs' hk' fun a b d e g hs => ?_
    rw [List.append_assoc]
    exact q a b d e g hs
theorem call_tr {x : Str} {t : Tok} {tb : Addr} {l : List Nat} (hx : x.cps.size ≤ 1000) (h0 : x.cps.size ≠ 0) (hlo : (tb == sysModules) = false) (hh : A.handled = none) (hd : s.heap.DictOf (intKind prog w) tb (iNone l)) {Q : Value → Shared → Prop}
    (hQ : ∀ h' tk u, s.heap.StaysIn h' → Q (.str ⟨(kp l x.cps.toList).toArray⟩ u) { s with heap := h', toks := tk }) : wpAny (model prog w) A (call (.builtin "str.translate") [.str x t, .ref tb]) Q E s := by
  refine wpAny_call (codeAny_call_builtin plain_tr entry_tr (wpAny_of_eq (check_tr x t tb) ?_))
  unfold Builtin.«str.translate»
  refine wpAny_bind (wpAny_of_eq (a := (.str x t, x, .ref tb)) (by kernel_rfl) ?_)
  dsimp only
  refine if_no (beq_eq_false_iff_ne.mpr h0) ?_
  rw [← Array.forIn_toList]
  have hlen : ∀ p : List Nat, p.length ≤ 1000 → tooLong (kp l p).length = false := fun p hp =>
    decide_eq_false (Nat.not_lt.mpr (Nat.le_trans (List.length_filter_le (fun c => decide (c ∉ l)) p) (Nat.le_trans hp (by decide))))
  have hxl : x.cps.toList.length ≤ 1000 := by rw [Array.length_toList]; exact hx
  refine wpAny_bind (for_tr (s := s) (l := l) (N := 1000) (fun c p h tk fast known after hp hS hK Q' fin => ?_) x.cps.toList [] s.heap s.toks _ _ _ (by rw [List.length_nil, Nat.zero_add]; exact hxl) (fun b o e => e) (fun _ _ e => nomatch e) fun fast known after h tk hS => ?_)
  · refine if_no (hlen p hp) ?_
    have lk : ∀ {Q : Mapped → Shared → Prop} {h : Heap} {tk : Nat}, s.heap.StaysIn h → (∀ h' tk', s.heap.StaysIn h' → Q (if c ∈ l then .drop else .keep) { s with heap := h', toks := tk' }) → wpAny (model prog w) A.in1 (Str.tableLookup (.ref tb) c) Q E { s with heap := h, toks := tk } := fun {Q h tk} hs k =>
      lookup (A := A.in1) (s := { s with heap := h, toks := tk }) hlo hh (by
        obtain ⟨o, es, ep, ho, r⟩ := hd
        exact ⟨o, es, ep, hs _ _ ho, r⟩) fun h' tk' hs' => k h' tk' fun b o e => hs' b o (hs b o e)
    by_cases hc : c ∈ l
    · rw [if_pos hc, if_pos hc] at fin
      have lk : ∀ {Q : Mapped → Shared → Prop} {h : Heap} {tk : Nat}, s.heap.StaysIn h → (∀ h' tk', s.heap.StaysIn h' → Q .drop { s with heap := h', toks := tk' }) → wpAny (model prog w) A.in1 (Str.tableLookup (.ref tb) c) Q E { s with heap := h, toks := tk } := fun hs k => lk hs (by rw [if_pos hc]; exact k)
      by_cases hfa : fast = true
      · refine if_yes hfa ?_
        cases hk : known.lookup c with
        | some a =>
          have ha := hK c a hk
          rw [if_pos hc] at ha
          subst ha
          exact wpAny_bind (wpAny_pure (wpAny_pure (fin _ _ _ _ _ hS hK)))
        | none =>
          refine wpAny_bind (lk hS fun h' tk' hs' => ?_)
          exact wpAny_bind (wpAny_pure (wpAny_pure (fin _ _ _ _ _ hs' (hK.cons (by rw [if_pos hc])))))
      · refine if_no (Bool.eq_false_iff.mpr hfa) ?_
        by_cases haf : after = true
        · exact if_yes haf (wpAny_bind (lk hS fun h' tk' hs' => wpAny_pure (fin _ _ _ _ _ hs' hK)))
        · exact if_no (Bool.eq_false_iff.mpr haf) (wpAny_bind (lk hS fun h' tk' hs' => wpAny_pure (fin _ _ _ _ _ hs' hK)))
    · rw [if_neg hc, if_neg hc, mks_snoc] at fin
      have lk : ∀ {Q : Mapped → Shared → Prop} {h : Heap} {tk : Nat}, s.heap.StaysIn h → (∀ h' tk', s.heap.StaysIn h' → Q .keep { s with heap := h', toks := tk' }) → wpAny (model prog w) A.in1 (Str.tableLookup (.ref tb) c) Q E { s with heap := h, toks := tk } := fun hs k => lk hs (by rw [if_neg hc]; exact k)
      by_cases hfa : fast = true
      · refine if_yes hfa ?_
        cases hk : known.lookup c with
        | some a =>
          have ha := hK c a hk
          rw [if_neg hc] at ha
          subst ha
          exact wpAny_bind (wpAny_pure (wpAny_pure (fin _ _ _ _ _ hS hK)))
        | none =>
          refine wpAny_bind (lk hS fun h' tk' hs' => ?_)
          exact wpAny_bind (wpAny_pure (wpAny_pure (fin _ _ _ _ _ hs' (hK.cons (by rw [if_neg hc])))))
      · refine if_no (Bool.eq_false_iff.mpr hfa) ?_
        by_cases haf : after = true
        · exact if_yes haf (wpAny_bind (lk hS fun h' tk' hs' => wpAny_bind (lk hs' fun h' tk' hs' => wpAny_pure (fin _ _ _ _ _ hs' hK))))
        · exact if_no (Bool.eq_false_iff.mpr haf) (wpAny_bind (lk hS fun h' tk' hs' => wpAny_pure (fin _ _ _ _ _ hs' hK)))
  · rw [List.nil_append]
    refine if_no (hlen _ hxl) ?_
    have e : (⟨(mks (kp l x.cps.toList)).reverse.foldl (fun (acc : Array Nat) (p : Str) => acc ++ p.cps) #[]⟩ : Str) = ⟨(kp l x.cps.toList).toArray⟩ := by
      refine congrArg Str.mk (Array.toList_inj.mp ?_)
      rw [glue_mks]; simp
    unfold retStr
    rw [e]
    refine wpAny_bind (wpAny_mkStr (wpAny_pure (hQ _ _ _ hS)) ?_)
    show (kp l x.cps.toList).toArray.size ≤ _
    rw [List.size_toArray]
    exact Nat.le_trans (List.length_filter_le _ _) (Nat.le_trans hxl (by decide))
end
end FK
end Mini
namespace Mini
open PySem PySem.W PySem.Calls PyProof.Rows PySem.Builtin PySem.Builtin.Str
namespace FK
theorem entry_oga : entryFor table "object.__getattribute__" = some Builtin.«object.__getattribute__» := entryFor_of_tree (by kernel_rfl)
theorem args_oga (a b : Value) : argsOk "object.__getattribute__" ⟨[a, b], []⟩ := by unfold argsOk; kernel_rfl
theorem lk_mt : typeLookup (.type "str") (Str.ofString "maketrans") = pure (some (.builtin "str.maketrans")) := by rw [typeLookup_type, builtinLookup_eq_fast]; kernel_rfl
theorem type_mt : typeOf (.builtin "str.maketrans") = pure (.type "builtin_function_or_method") := by show builtinType _ = _; rw [builtinType_eq_fast]; kernel_rfl
theorem lk_bget : typeLookup (.type "builtin_function_or_method") (Str.ofString "__get__") = pure none := by rw [typeLookup_type, builtinLookup_eq_fast]; kernel_rfl
theorem lk_ga : typeLookup (.type "str") (Str.ofString "__getattribute__") = pure (some (.builtin "object.__getattribute__")) := by rw [typeLookup_type, builtinLookup_eq_fast]; kernel_rfl
section
variable {prog : Program} {w : World} {A : Around} {E : Value → Shared → Prop} {h : Heap} {g : Array GenState} {d : Drawn} {t : Nat} {os : OsState}
theorem run_ga {x : Str} {tx tk : Tok} {Q : Fin → Shared → Prop} (hq : Q (.done (.ret (.builtin "str.maketrans"))) ⟨h, g, d, t, os⟩) :
    wpAny (model prog w) A (Builtin.«object.__getattribute__» ⟨[.str x tx, .str (Str.ofString "maketrans") tk], []⟩) Q E ⟨h, g, d, t, os⟩ := by
  have hT : (⟨h, g, d, t, os⟩ : Shared).TypeIs (.str x tx) "str" := typeIs_str _ _ _
  have f4 := lk_mt
  have f5 := type_mt
  have f6 := lk_bget
  repeat (any_goals (first | assumption | wp_step))
theorem getattr_mt {x : Str} {tx : Tok} {b : Bool} {Q : Value → Shared → Prop} (hq : Q (.builtin "str.maketrans") ⟨h, g, d, t + 1, os⟩) : wpAny (model prog w) A (getAttr (.str x tx) (Str.ofString "maketrans") b) Q E ⟨h, g, d, t, os⟩ := by
  unfold getAttr
  have f2 := F.slot_str_getattribute.lookup
  have f3 := F.slot_str_getattribute.bind (.str x tx)
  repeat (any_goals (first | assumption | wp_step))
  rw [show (b && onTheHeap (.builtin "object.__getattribute__")) = false by cases b <;> rfl]
  refine if_no rfl ?_
  unfold boundAndCalled
  refine wpAny_bind (wpAny_of_eq f3 ?_)
  dsimp only
  refine wpAny_call_entry F.slot_str_getattribute (typeIs_str _ _ _) entry_oga (run_ga ⟨_, rfl, ?_⟩) (args_oga _ _)
  show wpAny _ _ (handedOut (.builtin "str.maketrans")) _ _ _
  rw [handedOut_of (by decide +kernel)]
  exact wpAny_pure hq
end
section
variable {prog : Program} {w : World} {A : Around} {E : Value → Shared → Prop} {s : Shared}
theorem getm_static {M : Model} {v : Value} {T : String} {name : Str} {id : String} {pl : Sem Bool} {Q : Value × List Value → Shared → Prop} (hT : s.TypeIs v T) (pa : PlainAttrs T) (lk : typeLookup (.type T) name = pure (some (.builtin id)))
    (hty : typeOf (.builtin id) = pure (.type "builtin_function_or_method")) (h : wpAny M A (getAttr v name) (fun r => Q (r, [])) E s) : wpAny M A (getMethod v name pl) Q E s := by
  obtain ⟨g, hg, hcan⟩ := pa.ga
  unfold getMethod
  refine wpAny_bind (wpAny_specialOf hT hg ?_)
  show wpAny M A (if (Manifest.canonical g != "object.__getattribute__") = true then _ else _) Q E s
  rw [hcan, if_neg Bool.false_ne_true]
  refine wpAny_bind (wpAny_specialOf hT pa.noGetattr ?_)
  refine wpAny_bind (wpAny_specialOf hT lk ?_)
  refine wpAny_bind (wpAny_of_eq hty ?_)
  show wpAny M A (if (Value.type "builtin_function_or_method" != .type "function" && Value.type "builtin_function_or_method" != .type "method_descriptor" && Value.type "builtin_function_or_method" != .type "wrapper_descriptor") = true then _ else _) _ _ _
  rw [if_pos (by decide)]
  exact wpAny_bind (wpAny_mono h (fun r s' z => wpAny_pure z) fun _ _ z => z)
theorem getm_mt {x : Str} {t : Tok} {pl : Sem Bool} {Q : Value × List Value → Shared → Prop} (h : Q (.builtin "str.maketrans", []) { s with toks := s.toks + 1 }) : wpAny (model prog w) A (getMethod (.str x t) (Str.ofString "maketrans") pl) Q E s := by
  have Z := @getm_static A E s (model prog w) (.str x t) "str" (Str.ofString "maketrans") "str.maketrans" pl Q (typeIs_str _ _ _) F.plainAttrs_str lk_mt type_mt
  have Y : wpAny (model prog w) A (getAttr (.str x t) (Str.ofString "maketrans")) (fun r => Q (r, [])) E s := by
    obtain ⟨hp, g, d, tk, os⟩ := s
    exact @getattr_mt prog w A E hp g d tk os x t false (fun r => Q (r, [])) h
  exact Z Y
noncomputable def bound : Obj := { cls := .type "builtin_function_or_method", data := .fields #[.builtin "dict.fromkeys", .type "dict"] }
theorem slot_get : Slot "classmethod_descriptor" "__get__" "classmethod_descriptor.__get__" :=
  .of (owner := "classmethod_descriptor") (n := "__get__") (by rw [typeLookup_type, builtinLookup_eq_fast]; kernel_rfl) (by decide +kernel) (by decide +kernel) (by decide +kernel)
    (by first | exact .inl (by decide +kernel) | exact .inr (by decide +kernel)) (by rw [isSubtype_type]; kernel_rfl)
theorem entry_get : entryFor table "classmethod_descriptor.__get__" = some Builtin.«classmethod_descriptor.__get__» := entryFor_of_tree (by kernel_rfl)
theorem args_get (a b c : Value) : argsOk "classmethod_descriptor.__get__" ⟨[a, b, c], []⟩ := by unfold argsOk; kernel_rfl
theorem type_fk : typeOf (.builtin "dict.fromkeys") = pure (.type "classmethod_descriptor") := by show builtinType _ = _; rw [builtinType_eq_fast]; kernel_rfl
theorem find_fk (K : Frag) : findCls K (.type "dict") (.type "type") (PySem.Str.ofString "fromkeys") = some (.get (.builtin "classmethod_descriptor.__get__") (.builtin "dict.fromkeys") .none (.type "dict")) := by kernel_rfl
theorem check_fk {x : Str} {t : Tok} : checkBoundCall "dict.fromkeys" ⟨[.type "dict", .str x t], []⟩ = pure () := by kernel_rfl
theorem run_get {P : Fin → Shared → Prop} (h : P (.done (.ret (.ref s.heap.objs.size))) { s with heap := s.heap.push bound }) :
    wpAny (model prog w) A (Builtin.«classmethod_descriptor.__get__» ⟨[.builtin "dict.fromkeys", .none, .type "dict"], []⟩) P E s := by
  unfold Builtin.«classmethod_descriptor.__get__»
  refine wpAny_bind (wpAny_of_eq (a := (.builtin "dict.fromkeys", none, some (.type "dict"))) (by first | rfl | kernel_rfl) ?_)
  dsimp only
  refine wpAny_bind (wpAny_of_eq (a := .type "dict") rfl ?_)
  refine wpAny_bind (wpAny_of_eq (a := true) type_dict ?_)
  refine if_no rfl ?_
  refine wpAny_bind (wpAny_of_eq (a := true) (by first | exact sub_dict | (rw [isSubtype_type]; kernel_rfl)) ?_)
  refine if_no rfl ?_
  exact wpAny_bind (wpAny_newObj_type (wpAny_pure h))
theorem call_fk {u : Addr} {x : Str} {t : Tok} (ho : s.heap.get? u = some bound) (hh : A.handled = none) (hnd : x.cps.toList.Nodup) (hsz : x.cps.size ≤ 1000) {Q : Value → Shared → Prop}
    (hQ : ∀ h' tk, h'.DictOf (PySem.strKind prog w) s.heap.objs.size (kNone x.cps.toList) → s.heap.StaysIn h' → Q (.ref s.heap.objs.size) { s with heap := h', toks := tk }) :
    wpAny (model prog w) A (call (.ref u) [.str x t]) Q E s := by
  refine wpAny_call (codeAny_of_tree ?_)
  show wpAny _ A.in1 (callAny (.ref u) ⟨[.str x t], []⟩) _ _ s
  simp only [callAny]
  refine wpAny_bind (wpAny_load ho ?_)
  simp only [bound, show (Value.type "builtin_function_or_method" == Value.type "method" || Value.type "builtin_function_or_method" == Value.type "builtin_function_or_method" || Value.type "builtin_function_or_method" == Value.type "method-wrapper") = true by decide, if_true]
  refine if_yes (by decide) ?_
  refine wpAny_bind (wpAny_of_eq (a := ()) check_fk ?_)
  refine wpAny_bind (wpAny_pure (wpAny_pure ?_))
  exact ⟨quiet_fk, run_fk hh hnd hsz hQ⟩
end
end FK
end Mini
namespace Mini
open PySem PySem.W PySem.Calls PyProof.Rows
inductive V where
  | none
  | bool (b : Bool)
  | int (i : Int)
  | str (s : Str)
  | tup (vs : List V)
  | obj (n : Nat)
  | ro (ns : List Int)
  | stat (v : Value)
  | exc (cls : String) (args : List V)
  | rng (a b : Int)
inductive LO where
  | list (vs : List V)
  | deque (vs : List V)
  | dict (es : List (Str × V))
  | inst (C : Addr) (es : List (Str × V))
  | iter (of : Nat) (at_ : Nat)
  | over
  | it (p : Obj → Prop)
  | tab (l : List Nat)
  | any (o : Obj)
structure St where
  loc : List (Str × V)
  hp : List LO
structure Pg where
  prog : Program
  w : World
  K : Frag
  vp : Program
  loose : List Str
  mg : Str → Option Value
  mb : Str → Option Value
structure Fm where
  name : Str
  scope : Scope
  f : Addr
  cd : Value
  hand : Bool
  far : Bool := false
structure Fx where
  A₀ : Around
  A : Around
  base : Heap
  h₀ : Heap
  outer : List Env
  L : Addr
  cl : List (Str × Addr)
noncomputable def envAt (fm : Fm) (X : Fx) : Env := envX fm.name fm.scope X.L fm.f fm.cd X.cl
structure Dy where
  m : Str → Option Value
  news : List (Addr × Obj)
  ad : List (Addr × Addr)
structure Cx (P : Pg) (fm : Fm) (n : Nat) (X : Fx) : Prop where
  hk : fm.scope.kind = .function
  hA : X.A.frames = some (envAt fm X :: X.outer)
  B : Below X.A₀ X.base X.outer X.h₀
  dep : X.A.depth + n < 1000
  uni : X.A.units + 20 * n < 9800
  hh : fm.hand = false → X.A.handled = none
  kin : P.K.In X.h₀
  top : TopRead P.vp P.loose P.mg P.mb X.h₀
noncomputable def Fixd (o : Obj) : Prop := (o.cls = .type "tuple" ∨ o.cls = .type "ValueError" ∨ o.cls = .type "range" ∨ o.cls = .type "builtin_function_or_method") ∧ ((∃ xs n, o.data = .seq xs n) ∨ ∃ fs, o.data = .fields fs)
theorem noCellD {d d' : Data} (h : d = d') (n : ∀ v, d' ≠ .cell v) : ∀ v, d ≠ .cell v := fun v q => n v (h ▸ q)
mutual
inductive VR (base : Heap) (ad : List (Addr × Addr)) (news : List (Addr × Obj)) : V → Value → Prop
  | none : VR base ad news .none .none
  | bool {b} : VR base ad news (.bool b) (.bool b)
  | int {i t} : VR base ad news (.int i) (.int i t)
  | str {s t} : VR base ad news (.str s) (.str s t)
  | stat {v} : VR base ad news (.stat v) v
  | tup {vs a o n xs} : (a, o) ∈ news → o.cls = .type "tuple" → o.data = .seq xs n → VRs base ad news vs xs.toList → VR base ad news (.tup vs) (.ref a)
  | obj {n p} : ad[n]? = some p → VR base ad news (.obj n) (.ref p.1)
  | ro {ns a items} : base.IsList a items → IntsAre items.toList ns → VR base ad news (.ro ns) (.ref a)
  | exc {cls vs e oe t ot ws nt xs} : (e, oe) ∈ news → Fixd oe → oe.cls = .type cls → oe.data = .fields ws → ws[0]? = some (.ref t) → (t, ot) ∈ news → ot.cls = .type "tuple" → ot.data = .seq xs nt → VRs base ad news vs xs.toList → VR base ad news (.exc cls vs) (.ref e)
  | rng {a x y t u v} : (a, ({ cls := .type "range", dict := none, data := .fields #[.int x t, .int y u, .int 1 v], slots := #[] } : Obj)) ∈ news → VR base ad news (.rng x y) (.ref a)
inductive VRs (base : Heap) (ad : List (Addr × Addr)) (news : List (Addr × Obj)) : List V → List Value → Prop
  | nil : VRs base ad news [] []
  | cons {v x vs xs} : VR base ad news v x → VRs base ad news vs xs → VRs base ad news (v :: vs) (x :: xs)
end
structure Gr (X : Fx) (D D' : Dy) : Prop where
  ad : ∀ (i : Nat) (p : Addr × Addr), D.ad[i]? = some p → D'.ad[i]? = some p
  nw : ∀ (a : Addr) (o : Obj), (a, o) ∈ D.news → (Fixd o ∨ ((∃ v, o.data = .cell v) ∧ ∀ x, X.cl.lookup x ≠ some a)) → (a, o) ∈ D'.news
theorem Gr.refl (X : Fx) (D : Dy) : Gr X D D := ⟨fun _ _ h => h, fun _ _ h _ => h⟩
theorem Gr.trans {X : Fx} {D D' D'' : Dy} (x : Gr X D D') (y : Gr X D' D'') : Gr X D D'' := ⟨fun i p h => y.ad i p (x.ad i p h), fun a o h c => y.nw a o (x.nw a o h c) c⟩
theorem VR.mono {X : Fx} {base : Heap} {D D' : Dy} (g : Gr X D D') {v : V} {x : Value} (h : VR base D.ad D.news v x) : VR base D'.ad D'.news v x :=
  VR.rec (motive_1 := fun v x _ => VR base D'.ad D'.news v x) (motive_2 := fun vs xs _ => VRs base D'.ad D'.news vs xs)
    .none .bool .int .str .stat (fun h c d _ r => .tup (g.nw _ _ h (.inl ⟨.inl c, .inl ⟨_, _, d⟩⟩)) c d r) (fun h => .obj (g.ad _ _ h)) (fun h i => .ro h i)
    (fun h f c d w h' c' d' _ r => .exc (g.nw _ _ h (.inl f)) f c d w (g.nw _ _ h' (.inl ⟨.inl c', .inl ⟨_, _, d'⟩⟩)) c' d' r) (fun h => .rng (g.nw _ _ h (.inl ⟨.inr (.inr (.inl rfl)), .inr ⟨_, rfl⟩⟩)))
    .nil (fun _ _ h r => .cons h r) h
theorem VRs.mono {X : Fx} {base : Heap} {D D' : Dy} (g : Gr X D D') {vs : List V} {xs : List Value} (h : VRs base D.ad D.news vs xs) : VRs base D'.ad D'.news vs xs :=
  VRs.rec (motive_1 := fun v x _ => VR base D'.ad D'.news v x) (motive_2 := fun vs xs _ => VRs base D'.ad D'.news vs xs)
    .none .bool .int .str .stat (fun h c d _ r => .tup (g.nw _ _ h (.inl ⟨.inl c, .inl ⟨_, _, d⟩⟩)) c d r) (fun h => .obj (g.ad _ _ h)) (fun h i => .ro h i)
    (fun h f c d w h' c' d' _ r => .exc (g.nw _ _ h (.inl f)) f c d w (g.nw _ _ h' (.inl ⟨.inl c', .inl ⟨_, _, d'⟩⟩)) c' d' r) (fun h => .rng (g.nw _ _ h (.inl ⟨.inr (.inr (.inl rfl)), .inr ⟨_, rfl⟩⟩)))
    .nil (fun _ _ h r => .cons h r) h
section
variable {base : Heap} {ad : List (Addr × Addr)} {news : List (Addr × Obj)}
theorem VRs.cons' {v : V} {vs : List V} {xs : List Value} (h : VRs base ad news (v :: vs) xs) : ∃ y ys, xs = y :: ys ∧ VR base ad news v y ∧ VRs base ad news vs ys := by
  cases h with | cons a b => exact ⟨_, _, rfl, a, b⟩
theorem VRs.nil' {xs : List Value} (h : VRs base ad news [] xs) : xs = [] := by cases h; rfl
theorem VR.int' {i : Int} {x : Value} (h : VR base ad news (.int i) x) : ∃ t, x = .int i t := by cases h; exact ⟨_, rfl⟩
theorem VR.str' {s : Str} {x : Value} (h : VR base ad news (.str s) x) : ∃ t, x = .str s t := by cases h; exact ⟨_, rfl⟩
theorem VR.bool' {b : Bool} {x : Value} (h : VR base ad news (.bool b) x) : x = .bool b := by cases h; rfl
theorem VR.none' {x : Value} (h : VR base ad news .none x) : x = .none := by cases h; rfl
theorem VR.stat' {v x : Value} (h : VR base ad news (.stat v) x) : x = v := by cases h; rfl
theorem VR.ro' {ns : List Int} {x : Value} (h : VR base ad news (.ro ns) x) : ∃ a items, x = .ref a ∧ base.IsList a items ∧ IntsAre items.toList ns := by cases h with | ro a b => exact ⟨_, _, rfl, a, b⟩
theorem VR.obj' {n : Nat} {x : Value} (h : VR base ad news (.obj n) x) : ∃ p, ad[n]? = some p ∧ x = .ref p.1 := by cases h with | obj h => exact ⟨_, h, rfl⟩
theorem VR.tup' {vs : List V} {x : Value} (h : VR base ad news (.tup vs) x) : ∃ a xs n d sl, x = .ref a ∧ (a, (⟨.type "tuple", d, .seq xs n, sl⟩ : Obj)) ∈ news ∧ VRs base ad news vs xs.toList := by
  cases h with
  | @tup _ a o n xs m c d r =>
    obtain ⟨oc, od, odt, osl⟩ := o
    cases c; cases d
    exact ⟨a, xs, n, od, osl, rfl, m, r⟩
theorem VRs.length {vs : List V} : ∀ {xs : List Value}, VRs base ad news vs xs → xs.length = vs.length := by
  induction vs with
  | nil => intro xs h; rw [h.nil']; rfl
  | cons v vs ih => intro xs h; obtain ⟨y, ys, rfl, _, r⟩ := h.cons'; exact congrArg (· + 1) (ih r)
theorem VRs.get {vs : List V} : ∀ {xs : List Value}, VRs base ad news vs xs → ∀ {i : Nat} {v : V}, vs[i]? = some v → ∃ x, xs[i]? = some x ∧ VR base ad news v x := by
  induction vs with
  | nil => intro xs h i v e; cases e
  | cons v vs ih =>
    intro xs h i v e
    obtain ⟨y, ys, rfl, a, r⟩ := h.cons'
    cases i with
    | zero => cases e; exact ⟨_, rfl, a⟩
    | succ i => exact ih (i := i) r e
theorem VRs.append {vs ws : List V} {xs ys : List Value} (h : VRs base ad news vs xs) (h' : VRs base ad news ws ys) : VRs base ad news (vs ++ ws) (xs ++ ys) := by
  induction vs generalizing xs with
  | nil => rw [h.nil']; exact h'
  | cons v vs ih => obtain ⟨y, ys, rfl, a, r⟩ := h.cons'; exact .cons a (ih r)
end
noncomputable abbrev dequeOf (xs : List Value) (k : Int) : Obj := { cls := .type "collections.deque", data := .fields (#[.none, rawInt k] ++ xs.toArray) }
inductive DR (P : Params) (base : Heap) (ad : List (Addr × Addr)) (news : List (Addr × Obj)) : List (Str × V) → List DictEntry → Prop
  | nil : DR P base ad news [] []
  | cons {x t v y es ds} : VR base ad news v y → DR P base ad news es ds → DR P base ad news ((x, v) :: es) (⟨PyData.keyHash P x, .str x t, y⟩ :: ds)
theorem DR.mono {X : Fx} {P : Params} {base : Heap} {D D' : Dy} (g : Gr X D D') {es ds} (h : DR P base D.ad D.news es ds) : DR P base D'.ad D'.news es ds := by
  induction h with
  | nil => exact .nil
  | cons h _ ih => exact .cons (h.mono g) ih
noncomputable def IsTab (o : Obj) (l : List Nat) : Prop := (∀ v, o.data ≠ .cell v) ∧ ∀ prog w, o.IsDictOf (intKind prog w) (FK.iNone l)
noncomputable def OR (P : Params) (base : Heap) (ad : List (Addr × Addr)) (news : List (Addr × Obj)) (p : Addr × Addr) : LO → Prop
  | .list vs => p.1 = p.2 ∧ ∃ xs n, (p.2, listOf xs n) ∈ news ∧ VRs base ad news vs xs.toList
  | .deque vs => p.1 = p.2 ∧ ∃ xs k, (p.2, dequeOf xs k) ∈ news ∧ VRs base ad news vs xs
  | .dict es => p.1 = p.2 ∧ ∃ ds n, (p.2, dictOf ds n) ∈ news ∧ DR P base ad news es ds ∧ (p.2 == sysModules) = false
  | .iter n i => p.1 = p.2 ∧ ∃ q o, ad[n]? = some q ∧ (p.2, o) ∈ news ∧ o.cls = .type "list_iterator" ∧ o.data = .fields #[.ref q.1, .int i 0]
  | .it q => p.1 = p.2 ∧ ∃ o, (p.2, o) ∈ news ∧ q o ∧ (∃ T, o.cls = .type T ∧ T ≠ "tuple" ∧ T ≠ "ValueError" ∧ T ≠ "range" ∧ T ≠ "builtin_function_or_method") ∧ ∃ fs, o.data = .fields fs
  | .tab l => p.1 = p.2 ∧ ∃ o, (p.2, o) ∈ news ∧ IsTab o l ∧ (p.2 == sysModules) = false
  | .any o => p.1 = p.2 ∧ (p.2, o) ∈ news
  | .over => p.1 = p.2 ∧ ∃ o fs, (p.2, o) ∈ news ∧ o.cls = .type "list_iterator" ∧ o.data = .fields fs
  | .inst C es => (∃ sl, (p.1, (⟨.ref C, some p.2, .plain, sl⟩ : Obj)) ∈ news) ∧ ∃ ds n, (p.2, dictOf ds n) ∈ news ∧ DR P base ad news es ds
noncomputable def LR (scope : Scope) (cl : List (Str × Addr)) (m : Str → Option Value) (base : Heap) (ad : List (Addr × Addr)) (news : List (Addr × Obj)) (x : Str) (v : V) : Prop :=
  (scope.names.lookup x = some .local ∧ ∃ y, m x = some y ∧ VR base ad news v y) ∨
  ((scope.names.lookup x = some .cell ∨ scope.names.lookup x = some .free) ∧ ∃ c o y, cl.lookup x = some c ∧ (c, o) ∈ news ∧ o.data = .cell (some y) ∧ VR base ad news v y)
structure Rp (P : Pg) (fm : Fm) (X : Fx) (D : Dy) (σ : St) (h : Heap) : Prop where
  F : Fr X.h₀ X.L h D.m
  N : News X.h₀ X.L h D.news
  nd : (D.news.map (·.1)).Nodup
  len : D.ad.length = σ.hp.length
  dis : (D.ad.map (·.2)).Nodup
  loc : ∀ x v, σ.loc.lookup x = some v → LR fm.scope X.cl D.m X.base D.ad D.news x v
  cel : ∀ x, fm.scope.names.lookup x = some .cell → ∃ c o v₀, X.cl.lookup x = some c ∧ (c, o) ∈ D.news ∧ o.data = .cell v₀
  inj : ∀ x y c, X.cl.lookup x = some c → X.cl.lookup y = some c → x = y
  hp : ∀ (i : Nat) o, σ.hp[i]? = some o → ∃ p, D.ad[i]? = some p ∧ OR P.w.params X.base D.ad D.news p o
structure Keep (s s' : Shared) : Prop where
  os : (s'.os, s'.drawn) = (s.os, s.drawn)
  gens : s'.gens = s.gens
theorem Keep.refl (s : Shared) : Keep s s := ⟨rfl, rfl⟩
theorem Keep.trans {s s' s'' : Shared} (a : Keep s s') (b : Keep s' s'') : Keep s s'' := ⟨b.os.trans a.os, b.gens.trans a.gens⟩
variable {α β γ δ : Type}
noncomputable def Go (P : Pg) (fm : Fm) (X : Fx) (D : Dy) (s : Shared) (σ' : St) (t : Sem β) (R : Dy → β → Prop) : Prop :=
  ∀ (Q : β → Shared → Prop) (E : Value → Shared → Prop), (∀ D' s' x, Rp P fm X D' σ' s'.heap → Gr X D D' → R D' x → Keep s s' → Q x s') → wpAny (model P.prog P.w) X.A t Q E s
inductive Fl where
  | next | brk | cont
  | ret (v : V)
inductive Ans where
  | t | f | go | dn | rc
  | fn (v : V) (hp : List LO)
  | fx (cls : String) (args : List V) (hp : List LO)
  | lp (f : Fl) (σ : St)
  | lx (cls : String) (args : List V) (σ : St)
structure Os where
  d : List Ans
  c : List Ans
inductive Res (α : Type) where
  | ok (a : α) (σ : St) (os : Os) (c : List Prop)
  | ex (cls : String) (args : List V) (σ : St) (os : Os) (c : List Prop)
  | no (why : String)
noncomputable abbrev Ev (α : Type) := St → Os → Res α
noncomputable def Ev.bind (m : Ev α) (k : α → Ev β) : Ev β := fun σ os => match m σ os with
  | .ok a σ os c => (match k a σ os with
    | .ok b σ os d => .ok b σ os (c ++ d)
    | .ex cls args σ os d => .ex cls args σ os (c ++ d)
    | .no w => .no w)
  | .ex cls args σ os c => .ex cls args σ os c
  | .no w => .no w
noncomputable def Ev.pure (a : α) : Ev α := fun σ os => .ok a σ os []
noncomputable instance : Monad Ev where
  pure := Ev.pure
  bind := Ev.bind
noncomputable def fail (w : String) : Ev α := fun _ _ => .no w
theorem ifF {M : Model} {A : Around} {c : Prop} [Decidable c] {a b : Sem β} {Q : β → Shared → Prop} {E : Value → Shared → Prop} {s : Shared} (h : ¬ c) (q : wpAny M A b Q E s) : wpAny M A (if c then a else b) Q E s := by rw [if_neg h]; exact q
theorem ff {b : Bool} (h : b = false) : ¬ b = true := fun e => nomatch h.symm.trans e
noncomputable def ExAt (P : Pg) (fm : Fm) (X : Fx) (D : Dy) (σ : St) (cls : String) (args : List V) (e : Value) (s' : Shared) : Prop :=
  ∃ ea vs h₁, e = .ref ea ∧ Rp P fm X D σ h₁ ∧ VRs X.base D.ad D.news args vs ∧
    ((fm.far = false ∧ Heap.MadeExcOf h₁ s'.heap ea (.type cls) vs) ∨ ∃ h t, Fr X.h₀ X.L h D.m ∧ h.UpToSlots s'.heap ∧ RaisedK X.base (envAt fm X :: X.outer) ea (.type cls) t vs D.news s'.heap)
noncomputable def Ok (P : Pg) (fm : Fm) (X : Fx) (D : Dy) (σ : St) (t : Sem β) (r : Res α) (R : α → Dy → β → Prop) : Prop :=
  match r with
  | .ok a σ' _ c => (∀ p ∈ c, p) → ∀ s, Rp P fm X D σ s.heap → Go P fm X D s σ' t (R a)
  | .ex cls args σ' _ c => (∀ p ∈ c, p) → ∀ s, Rp P fm X D σ s.heap → ∀ (Q : β → Shared → Prop) (E : Value → Shared → Prop), PassesOwn (model P.prog P.w) X.A (envAt fm X) E →
      (∀ D' s' e, ExAt P fm X D' σ' cls args e s' → Gr X D D' → Keep s s' → E e s') → wpAny (model P.prog P.w) X.A t Q E s
  | .no _ => True
section
variable {P : Pg} {fm : Fm} {X : Fx} {D : Dy} {σ : St}
theorem ok_bind {t : Sem β} {f : β → Sem δ} {m : Ev α} {k : α → Ev γ} {os : Os} {R : α → Dy → β → Prop} {R' : γ → Dy → δ → Prop}
    (h : Ok P fm X D σ t (m σ os) R) (h' : ∀ a σ₁ os₁ D₁ x, Gr X D D₁ → R a D₁ x → Ok P fm X D₁ σ₁ (f x) (k a σ₁ os₁) R') : Ok P fm X D σ (t >>= f) ((m >>= k) σ os) R' := by
  show Ok P fm X D σ (t >>= f) (Ev.bind m k σ os) R'
  unfold Ev.bind
  cases hm : m σ os with
  | no w => exact trivial
  | ex cls args σ₁ os₁ c =>
    rw [hm] at h
    intro hc s hs Q E hE hQ
    exact wpAny_bind (h hc s hs _ E hE hQ)
  | ok a σ₁ os₁ c =>
    rw [hm] at h
    dsimp only
    cases hk : k a σ₁ os₁ with
    | no w => exact trivial
    | ex cls args σ₂ os₂ d =>
      intro hc s hs Q E hE hQ
      refine wpAny_bind (h (fun p hp => hc p (List.mem_append_left _ hp)) s hs _ E fun D₁ s₁ x r₁ g₁ q₁ k₁ => ?_)
      have h2 := h' a σ₁ os₁ D₁ x g₁ q₁
      rw [hk] at h2
      exact h2 (fun p hp => hc p (List.mem_append_right _ hp)) s₁ r₁ Q E hE fun D₂ s₂ e x₂ g₂ k₂ => hQ D₂ s₂ e x₂ (g₁.trans g₂) (k₁.trans k₂)
    | ok b σ₂ os₂ d =>
      intro hc s hs Q E hQ
      refine wpAny_bind (h (fun p hp => hc p (List.mem_append_left _ hp)) s hs _ E fun D₁ s₁ x r₁ g₁ q₁ k₁ => ?_)
      have h2 := h' a σ₁ os₁ D₁ x g₁ q₁
      rw [hk] at h2
      exact h2 (fun p hp => hc p (List.mem_append_right _ hp)) s₁ r₁ Q E fun D₂ s₂ y r₂ g₂ q₂ k₂ => hQ D₂ s₂ y r₂ (g₁.trans g₂) q₂ (k₁.trans k₂)
theorem ok_pure {b : β} {a : α} {os : Os} {R : α → Dy → β → Prop} (h : R a D b) : Ok P fm X D σ (Pure.pure b) ((Pure.pure a : Ev α) σ os) R :=
  fun _ s hs Q E hQ => wpAny_pure (hQ D s b hs (Gr.refl X D) h (Keep.refl s))
theorem ok_of {t t' : Sem β} {r : Res α} {R : α → Dy → β → Prop} (h : Ok P fm X D σ t r R) (e : ∀ (Q : β → Shared → Prop) (E : Value → Shared → Prop) s, Rp P fm X D σ s.heap → wpAny (model P.prog P.w) X.A t Q E s → wpAny (model P.prog P.w) X.A t' Q E s) : Ok P fm X D σ t' r R := by
  cases r with
  | no w => exact trivial
  | ex cls args σ' os c => exact fun hc s hs Q E hE hQ => e Q E s hs (h hc s hs Q E hE hQ)
  | ok a σ' os c => exact fun hc s hs Q E hQ => e Q E s hs (h hc s hs Q E hQ)
theorem ok_holding {vs : List Value} {t : Sem β} {r : Res α} {R : α → Dy → β → Prop} (h : Ok P fm X D σ t r R) : Ok P fm X D σ (holding vs t) r R := ok_of h fun _ _ _ _ x => wpAny_holding x
theorem ok_standAt {pos : Pos} {t : Sem β} {r : Res α} {R : α → Dy → β → Prop} (h : Ok P fm X D σ t r R) : Ok P fm X D σ (standAt pos >>= fun _ => t) r R := ok_of h fun _ _ _ _ x => wpAny_bind (wpAny_standAt x)
theorem ok_same {t : Sem β} {a : α} {os : Os} {R : α → Dy → β → Prop}
    (h : ∀ (Q : β → Shared → Prop) (E : Value → Shared → Prop) s, Rp P fm X D σ s.heap → (∀ x tk, R a D x → Q x { s with toks := tk }) → wpAny (model P.prog P.w) X.A t Q E s) : Ok P fm X D σ t ((Pure.pure a : Ev α) σ os) R :=
  fun _ s hs Q E hQ => h Q E s hs fun x tk r => hQ D _ x hs (Gr.refl X D) r ⟨rfl, rfl⟩
end
end Mini
namespace Mini
open PySem PySem.W PySem.Calls PyProof.Rows
theorem nodup_uniq {news : List (Addr × Obj)} (h : (news.map (·.1)).Nodup) : ∀ {a : Addr} {o o' : Obj}, (a, o) ∈ news → (a, o') ∈ news → o = o' := by
  induction news with
  | nil => intro a o o' h1; cases h1
  | cons p r ih =>
    intro a o o' h1 h2
    rw [List.map_cons, List.nodup_cons] at h
    rcases List.mem_cons.mp h1 with e1 | h1 <;> rcases List.mem_cons.mp h2 with e2 | h2
    · rw [← e1] at e2; exact (Prod.mk.inj e2).2.symm
    · exact absurd (List.mem_map.mpr ⟨_, h2, by rw [← e1]⟩) h.1
    · exact absurd (List.mem_map.mpr ⟨_, h1, by rw [← e2]⟩) h.1
    · exact ih h.2 h1 h2
theorem upd_exists {d : Addr} {o o' : Obj} : ∀ {news : List (Addr × Obj)}, (news.map (·.1)).Nodup → (d, o) ∈ news →
    ∃ news', Upd d o o' news news' ∧ (d, o') ∈ news' ∧ (∀ a x, (a, x) ∈ news → a ≠ d → (a, x) ∈ news') ∧ news'.map (·.1) = news.map (·.1)
  | [], _, h => by cases h
  | p :: r, nd, h => by
    rw [List.map_cons, List.nodup_cons] at nd
    by_cases e : p.1 = d
    · have hp : p = (d, o) := by
        rcases List.mem_cons.mp h with e2 | h2
        · exact e2.symm
        · exact absurd (List.mem_map.mpr ⟨_, h2, e.symm⟩) nd.1
      subst hp
      refine ⟨(d, o') :: r, .head fun q hq e3 => nd.1 (List.mem_map.mpr ⟨q, hq, e3⟩), .head _, fun a x hx hne => ?_, rfl⟩
      rcases List.mem_cons.mp hx with e3 | h3
      · cases e3; exact absurd rfl hne
      · exact .tail _ h3
    · have h2 : (d, o) ∈ r := by
        rcases List.mem_cons.mp h with e2 | h2
        · rw [← e2] at e; exact absurd rfl e
        · exact h2
      obtain ⟨r', u, a1, a2, a3⟩ := upd_exists (o' := o') nd.2 h2
      refine ⟨p :: r', .tail e u, .tail _ a1, fun a x hx hne => ?_, by rw [List.map_cons, List.map_cons, a3]⟩
      rcases List.mem_cons.mp hx with e3 | h3
      · exact e3 ▸ .head _
      · exact .tail _ (a2 a x h3 hne)
noncomputable def Moves (o : Obj) : Prop := ¬ Fixd o ∧ (∀ v, o.data ≠ .cell v) ∧ o.data ≠ .plain
theorem notFixd {o : Obj} {T : String} (h : o.cls = .type T) (h1 : T ≠ "tuple" ∧ T ≠ "ValueError" ∧ T ≠ "range" ∧ T ≠ "builtin_function_or_method") : ¬ Fixd o := fun q => by
  rcases q.1 with q | q | q | q <;> rw [h] at q <;> cases q
  · exact h1.1 rfl
  · exact h1.2.1 rfl
  · exact h1.2.2.1 rfl
  · exact h1.2.2.2 rfl
section
variable {P : Pg} {fm : Fm} {X : Fx} {D : Dy} {σ : St} {h h' : Heap}
theorem OR.mono {P : Params} {base : Heap} {D D' : Dy} (g : Gr X D D') {p : Addr × Addr} {lo : LO}
    (keep : ∀ a o, (a, o) ∈ D.news → a = p.2 ∨ o.data = .plain → (a, o) ∈ D'.news) (x : OR P base D.ad D.news p lo) : OR P base D'.ad D'.news p lo := by
  cases lo with
  | list vs => obtain ⟨e, xs, n, hm, r⟩ := x; exact ⟨e, xs, n, keep _ _ hm (.inl rfl), r.mono g⟩
  | deque vs => obtain ⟨e, xs, n, hm, r⟩ := x; exact ⟨e, xs, n, keep _ _ hm (.inl rfl), r.mono g⟩
  | dict es => obtain ⟨e, xs, n, hm, r, lo⟩ := x; exact ⟨e, xs, n, keep _ _ hm (.inl rfl), r.mono g, lo⟩
  | iter n i => obtain ⟨e, q, o, hq, hm, h1, h2⟩ := x; exact ⟨e, q, o, g.ad _ _ hq, keep _ _ hm (.inl rfl), h1, h2⟩
  | it q => obtain ⟨e, o, hm, h1⟩ := x; exact ⟨e, o, keep _ _ hm (.inl rfl), h1⟩
  | any o => obtain ⟨e, hm⟩ := x; exact ⟨e, keep _ _ hm (.inl rfl)⟩
  | tab l => obtain ⟨e, o, hm, h⟩ := x; exact ⟨e, o, keep _ _ hm (.inl rfl), h⟩
  | over => obtain ⟨e, o, fs, hm, h1, h2⟩ := x; exact ⟨e, o, fs, keep _ _ hm (.inl rfl), h1, h2⟩
  | inst C es => obtain ⟨⟨sl, hx⟩, ds, n, hm, r⟩ := x; exact ⟨⟨sl, keep _ _ hx (.inr rfl)⟩, ds, n, keep _ _ hm (.inl rfl), r.mono g⟩
theorem LR.mono {scope : Scope} {cl : List (Str × Addr)} {m : Str → Option Value} {base : Heap} {D D' : Dy} (g : Gr X D D') {x : Str} {v : V}
    (keep : ∀ a o y, (a, o) ∈ D.news → o.data = .cell (some y) → (a, o) ∈ D'.news) (r : LR scope cl m base D.ad D.news x v) : LR scope cl m base D'.ad D'.news x v := by
  rcases r with ⟨k, y, hy, hv⟩ | ⟨k, c, o, y, hc, hm, hd, hv⟩
  · exact .inl ⟨k, y, hy, hv.mono g⟩
  · exact .inr ⟨k, c, o, y, hc, keep _ _ _ hm hd, hd, hv.mono g⟩
theorem Rp.change (r : Rp P fm X D σ h) {i : Nat} {p : Addr × Addr} (hp : D.ad[i]? = some p) {o : Obj} (ho : (p.2, o) ∈ D.news) (mv : Moves o) {news' : List (Addr × Obj)}
    (k1 : ∀ a x, (a, x) ∈ D.news → a ≠ p.2 → (a, x) ∈ news') (k2 : news'.map (·.1) = D.news.map (·.1)) (F' : Fr X.h₀ X.L h' D.m) (N' : News X.h₀ X.L h' news') {lo : LO}
    (R' : (∀ a x, (a, x) ∈ D.news → a ≠ p.2 → (a, x) ∈ news') → Gr X D { D with news := news' } → OR P.w.params X.base D.ad news' p lo) :
    Rp P fm X { D with news := news' } ⟨σ.loc, σ.hp.set i lo⟩ h' ∧ Gr X D { D with news := news' } := by
  have g : Gr X D { D with news := news' } := ⟨fun _ _ e => e, fun a x hm c => k1 a x hm fun e => by
    subst e
    rw [nodup_uniq r.nd hm ho] at c
    rcases c with c | ⟨⟨v, c⟩, _⟩
    · exact mv.1 c
    · exact mv.2.1 v c⟩
  refine ⟨⟨F', N', by rw [k2]; exact r.nd, by rw [List.length_set]; exact r.len, r.dis, fun x v e => ?_, fun x hx => ?_, r.inj, fun j lo' e => ?_⟩, g⟩
  · refine (r.loc x v e).mono g fun a o₁ y hm hd => k1 a o₁ hm fun e => ?_
    subst e; rw [nodup_uniq r.nd hm ho] at hd; exact mv.2.1 _ hd
  · obtain ⟨c, o₁, v₀, hc, hm, hd⟩ := r.cel x hx
    exact ⟨c, o₁, v₀, hc, k1 _ _ hm fun e => by subst e; rw [nodup_uniq r.nd hm ho] at hd; exact mv.2.1 _ hd, hd⟩
  · rw [List.getElem?_set] at e
    by_cases hij : i = j
    · subst hij
      rw [if_pos rfl] at e
      split at e
      · cases e; exact ⟨p, hp, R' k1 g⟩
      · cases e
    · rw [if_neg hij] at e
      obtain ⟨q, hq, hor⟩ := r.hp j lo' e
      refine ⟨q, hq, hor.mono g fun a o₁ hm ha => k1 a o₁ hm fun ea => ?_⟩
      rcases ha with ha | ha
      · have hne : q.2 ≠ p.2 := fun eq => by
          have h1 : (D.ad.map (·.2))[i]? = some p.2 := by rw [List.getElem?_map, hp]; rfl
          have h2 : (D.ad.map (·.2))[j]? = some p.2 := by rw [List.getElem?_map, hq, ← eq]; rfl
          have hi : i < (D.ad.map (·.2)).length := (List.getElem?_eq_some_iff.mp h1).1
          exact hij ((List.getElem?_inj hi r.dis).mp (h1.trans h2.symm))
        exact hne (ha ▸ ea)
      · subst ea; rw [nodup_uniq r.nd hm ho] at ha; exact mv.2.2 ha
theorem Rp.push (r : Rp P fm X D σ h) {a : Addr} {o : Obj} (ha : ∀ p ∈ D.news, p.1 ≠ a) (F' : Fr X.h₀ X.L h' D.m) (N' : News X.h₀ X.L h' ((a, o) :: D.news)) :
    Rp P fm X { D with news := (a, o) :: D.news } σ h' ∧ Gr X D { D with news := (a, o) :: D.news } := by
  have g : Gr X D { D with news := (a, o) :: D.news } := ⟨fun _ _ e => e, fun _ _ hm _ => .tail _ hm⟩
  refine ⟨⟨F', N', ?_, r.len, r.dis, fun x v e => (r.loc x v e).mono g fun _ _ _ hm _ => .tail _ hm, fun x hx => ?_, r.inj, fun j lo e => ?_⟩, g⟩
  · rw [List.map_cons, List.nodup_cons]
    exact ⟨fun hm => by obtain ⟨p, hp, e⟩ := List.mem_map.mp hm; exact ha p hp e, r.nd⟩
  · obtain ⟨c, o₁, v₀, hc, hm, hd⟩ := r.cel x hx; exact ⟨c, o₁, v₀, hc, .tail _ hm, hd⟩
  · obtain ⟨q, hq, hor⟩ := r.hp j lo e
    exact ⟨q, hq, hor.mono g fun _ _ hm _ => .tail _ hm⟩
theorem Rp.made (r : Rp P fm X D σ h) {q : Addr × Addr} {o : Obj} (hin : (q.2, o) ∈ D.news) (hq : ∀ p ∈ D.ad, p.2 ≠ q.2) {lo : LO} (R' : OR P.w.params X.base (D.ad ++ [q]) D.news q lo) :
    Rp P fm X { D with ad := D.ad ++ [q] } ⟨σ.loc, σ.hp ++ [lo]⟩ h ∧ Gr X D { D with ad := D.ad ++ [q] } := by
  have g : Gr X D { D with ad := D.ad ++ [q] } := ⟨fun i p e => by
    have hi : i < D.ad.length := (List.getElem?_eq_some_iff.mp e).1
    show (D.ad ++ [q])[i]? = some p
    rw [List.getElem?_append_left hi]; exact e, fun _ _ hm _ => hm⟩
  refine ⟨⟨r.F, r.N, r.nd, ?_, ?_, fun x v e => (r.loc x v e).mono g fun _ _ _ hm _ => hm, r.cel, r.inj, fun j lo' e => ?_⟩, g⟩
  · show (D.ad ++ [q]).length = (σ.hp ++ [lo]).length
    rw [List.length_append, List.length_append, r.len]; rfl
  · show ((D.ad ++ [q]).map (·.2)).Nodup
    rw [List.map_append, List.nodup_append]
    refine ⟨r.dis, by simp, fun a ha b hb => ?_⟩
    rw [List.map_cons, List.map_nil, List.mem_singleton] at hb
    obtain ⟨p, hp, rfl⟩ := List.mem_map.mp ha
    rw [hb]; exact hq p hp
  · rcases Nat.lt_or_ge j σ.hp.length with hj | hj
    · rw [List.getElem?_append_left hj] at e
      obtain ⟨p, hp, hor⟩ := r.hp j lo' e
      exact ⟨p, g.ad _ _ hp, hor.mono g fun _ _ hm _ => hm⟩
    · rw [List.getElem?_append_right hj] at e
      have hj0 : j - σ.hp.length = 0 := by
        have := (List.getElem?_eq_some_iff.mp e).1
        simp only [List.length_cons, List.length_nil] at this; omega
      rw [hj0] at e
      cases e
      refine ⟨q, ?_, R'⟩
      show (D.ad ++ [q])[j]? = some q
      rw [List.getElem?_append_right (by rw [r.len]; exact hj), r.len, hj0]; rfl
theorem Rp.fresh (r : Rp P fm X D σ h) {a : Addr} (ha : ∀ p ∈ D.news, p.1 ≠ a) : ∀ p ∈ D.ad, p.2 ≠ a := fun p hp e => by
  obtain ⟨i, hi⟩ := List.getElem?_of_mem hp
  have hl : i < σ.hp.length := by rw [← r.len]; exact (List.getElem?_eq_some_iff.mp hi).1
  obtain ⟨p', hp', hor⟩ := r.hp i σ.hp[i] (List.getElem?_eq_some_iff.mpr ⟨hl, rfl⟩)
  rw [hi] at hp'; cases hp'
  cases hlo : σ.hp[i] with
  | list vs => rw [hlo] at hor; obtain ⟨_, xs, n, hm, _⟩ := hor; exact ha _ hm e
  | deque vs => rw [hlo] at hor; obtain ⟨_, xs, n, hm, _⟩ := hor; exact ha _ hm e
  | dict vs => rw [hlo] at hor; obtain ⟨_, xs, n, hm, _⟩ := hor; exact ha _ hm e
  | iter n i => rw [hlo] at hor; obtain ⟨_, q, o, _, hm, _⟩ := hor; exact ha _ hm e
  | any o => rw [hlo] at hor; obtain ⟨_, hm⟩ := hor; exact ha _ hm e
  | tab l => rw [hlo] at hor; obtain ⟨_, o, hm, _⟩ := hor; exact ha _ hm e
  | over => rw [hlo] at hor; obtain ⟨_, o, fs, hm, _⟩ := hor; exact ha _ hm e
  | it q => rw [hlo] at hor; obtain ⟨_, o, hm, _⟩ := hor; exact ha _ hm e
  | inst C vs => rw [hlo] at hor; obtain ⟨_, xs, n, hm, _⟩ := hor; exact ha _ hm e
end
theorem beq_symm (x y : Str) : (x == y) = (y == x) := by
  by_cases h : x = y
  · rw [h]
  · rw [beq_eq_false_iff_ne.mpr h, beq_eq_false_iff_ne.mpr (Ne.symm h)]
section
variable {P : Params} {base : Heap} {ad : List (Addr × Addr)} {news : List (Addr × Obj)}
theorem DR.noRef : ∀ {es : List (Str × V)} {ds : List DictEntry}, DR P base ad news es ds → ds.any (·.refKey) = false
  | _, _, .nil => rfl
  | _, _, .cons h r => by rw [List.any_cons, r.noRef]; rfl
theorem DR.get : ∀ {es : List (Str × V)} {ds : List DictEntry}, DR P base ad news es ds → ∀ (name : Str),
    match es.lookup name with
    | some v => ∃ e : DictEntry, e ∈ ds ∧ ds.find? (·.key.isStr name) = some e ∧ VR base ad news v e.val
    | none => ds.find? (·.key.isStr name) = none
  | _, _, .nil, name => rfl
  | _, _, .cons (x := x) (t := t) (v := v) (y := y) (es := es) (ds := ds) h r, name => by
    rw [List.lookup_cons, List.find?_cons]
    have e : (Value.str x t).isStr name = (name == x) := beq_symm x name
    show match (match name == x with | true => some v | false => List.lookup name es) with
      | some v => ∃ e : DictEntry, e ∈ (⟨PyData.keyHash P x, .str x t, y⟩ :: ds : List DictEntry) ∧ (match (Value.str x t).isStr name with | true => some (⟨PyData.keyHash P x, .str x t, y⟩ : DictEntry) | false => ds.find? (·.key.isStr name)) = some e ∧ VR base ad news v e.val
      | none => (match (Value.str x t).isStr name with | true => some (⟨PyData.keyHash P x, .str x t, y⟩ : DictEntry) | false => ds.find? (·.key.isStr name)) = none
    rw [e]
    cases hx : name == x with
    | true => exact ⟨_, .head _, rfl, h⟩
    | false =>
      have ih := r.get name
      dsimp only
      cases hl : List.lookup name es with
      | some w => rw [hl] at ih; obtain ⟨e, he, h1, h2⟩ := ih; exact ⟨e, .tail _ he, h1, h2⟩
      | none => rw [hl] at ih; exact ih
theorem DR.getL_some {es : List (Str × V)} {ds : List DictEntry} (r : DR P base ad news es ds) {name : Str} {v : V} (h : es.lookup name = some v) : ∃ y, getL name ds = some (some y) ∧ VR base ad news v y := by
  have := r.get name
  rw [h] at this
  obtain ⟨e, _, h1, h2⟩ := this
  exact ⟨e.val, by unfold getL; rw [h1], h2⟩
theorem DR.getL_none {es : List (Str × V)} {ds : List DictEntry} (r : DR P base ad news es ds) {name : Str} (h : es.lookup name = none) : getL name ds = some none := by
  have := r.get name
  rw [h] at this
  unfold getL
  rw [this]
  dsimp only
  rw [r.noRef]; rfl
theorem DR.getL_isSome {es : List (Str × V)} {ds : List DictEntry} (r : DR P base ad news es ds) (name : Str) : (getL name ds).isSome = true := by
  cases h : es.lookup name with
  | some v => obtain ⟨y, e, _⟩ := r.getL_some h; rw [e]; rfl
  | none => rw [r.getL_none h]; rfl
noncomputable def putV (name : Str) (v : V) : List (Str × V) → List (Str × V)
  | [] => [(name, v)]
  | (x, w) :: es => if x == name then (x, v) :: es else (x, w) :: putV name v es
theorem DR.put {name : Str} {v : V} {y : Value} (hv : VR base ad news v y) (t : Tok) : ∀ {es : List (Str × V)} {ds : List DictEntry}, DR P base ad news es ds →
    DR P base ad news (putV name v es) (putL name (PyData.keyHash P name) (.str name t) y ds)
  | _, _, .nil => .cons hv .nil
  | _, _, .cons (x := x) (t := t') h r => by
    unfold putV putL
    rw [show (Value.str x t').isStr name = (x == name) from rfl]
    split
    · exact .cons hv r
    · exact .cons h (r.put hv t)
theorem DR.len : ∀ {es : List (Str × V)} {ds : List DictEntry}, DR P base ad news es ds → ds.length = es.length
  | _, _, .nil => rfl
  | _, _, .cons _ r => by rw [List.length_cons, List.length_cons, r.len]
end
end Mini
namespace Mini
variable {β : Type}
open PySem PySem.W PySem.Calls PyProof.Rows
noncomputable def addKw {α : Type} (ar : List Str) : List (Str × α) → List (Str × α) → Option (List (Str × α))
  | s, [] => some s
  | s, (k, v) :: r => if ar.contains k && (s.lookup k).isNone then addKw ar (s ++ [(k, v)]) r else none
noncomputable def fill {α : Type} : List (Str × α) → List (Str × α) → List (Str × α)
  | s, [] => s
  | s, (n, d) :: r => fill (if (s.lookup n).isNone then s ++ [(n, d)] else s) r
noncomputable def bindsOf {α : Type} (po ar : List Str) (xs : List α) (kw : List (Str × α)) (ds : List α) : Option (List (Str × α)) :=
  match addKw ar ((po ++ ar).zip xs) kw with
  | none => none
  | some sl =>
    let n := (po ++ ar).length
    let ds := ds.drop (ds.length - n)
    let fd := n - ds.length
    if decide (xs.length ≤ n) && (((po ++ ar).take fd).filter fun n => (sl.lookup n).isNone).isEmpty then
      some ((po ++ ar).filterMap fun n => ((fill sl (((po ++ ar).drop fd).zip ds)).lookup n).map (n, ·))
    else none
theorem forIn_kw (ar : List Str) (f : Str × Value → List (Str × Value) × List (Str × Value) → Sem (ForInStep (List (Str × Value) × List (Str × Value))))
    (hf : ∀ x s, ar.contains x.1 = true → (s.1.lookup x.1).isNone = true → f x s = pure (.yield (s.1 ++ [(x.1, x.2)], s.2))) :
    ∀ (kw : List (Str × Value)) (sl out ex : List (Str × Value)), addKw ar sl kw = some out → forIn kw (sl, ex) f = pure (out, ex)
  | [], sl, out, ex, h => by cases h; rw [List.forIn_nil]
  | (k, v) :: r, sl, out, ex, h => by
    unfold addKw at h
    split at h
    · rename_i hc
      obtain ⟨h1, h2⟩ := Bool.and_eq_true_iff.mp hc
      rw [List.forIn_cons, hf (k, v) (sl, ex) h1 h2]
      exact forIn_kw ar f hf r _ out ex h
    · cases h
theorem forIn_fill (f : Str × Value → List (Str × Value) → Sem (ForInStep (List (Str × Value))))
    (hf : ∀ x s, f x s = if (s.lookup x.1).isNone = true then pure (.yield (s ++ [(x.1, x.2)])) else pure (.yield s)) :
    ∀ (l : List (Str × Value)) (sl : List (Str × Value)), forIn l sl f = pure (fill sl l)
  | [], sl => by rw [List.forIn_nil]; rfl
  | (n, d) :: r, sl => by
    rw [List.forIn_cons, hf]
    unfold fill
    split
    · exact forIn_fill f hf r _
    · exact forIn_fill f hf r _
theorem look_of {m : Sem (Option (Array Value))} {K : Option (Array Value) → Sem β} {T : Sem β} {items : Array Value} {binds : β} (h : T = m >>= K) (main : ∀ o : Option (Array Value), o.getD #[] = items → K o = pure binds) :
    ∃ k : Option (Array Value) → Sem β, T = m >>= k ∧ k (some items) = pure binds ∧ (items = #[] → k none = pure binds) := ⟨K, h, main _ rfl, fun e => main none e.symm⟩
theorem bind_look (fd : FuncData) (po ar : List Arg) (d1 : List (Option Expr)) (d2 : List Expr) (hp : fd.params = ⟨po, ar, none, [], d1, none, d2⟩) (xs : List Value) (kw binds : List (Str × Value)) (items : Array Value)
   (h1 : bindsOf (po.map (·.arg)) (ar.map (·.arg)) xs kw items.toList = some binds) : ∃ k : Option (Array Value) → Sem (List (Str × Value)), bindArgs fd ⟨xs, kw⟩ = seqItems? fd.defaults >>= k ∧ k (some items) = pure binds ∧ (items = #[] → k none = pure binds) := by
  unfold bindsOf at h1
  cases hk : addKw (ar.map (·.arg)) (((po.map (·.arg)) ++ (ar.map (·.arg))).zip xs) kw with
  | none => rw [hk] at h1; cases h1
  | some slots =>
    rw [hk] at h1
    dsimp only at h1
    split at h1
    · rename_i hc
      obtain ⟨hc1, hc2⟩ := Bool.and_eq_true_iff.mp hc
      cases h1
      unfold bindArgs
      rw [hp]
      dsimp only
      rw [forIn_kw (ar.map (·.arg)) _ (fun x s a b => ?_) kw _ slots [] hk]
      · have hlen := of_decide_eq_true hc1
        refine look_of rfl fun o ho => ?_
        dsimp only
        rw [ho]
        rw [if_neg (fun h => absurd (of_decide_eq_true (Bool.and_eq_true_iff.mp h).1) (Nat.not_lt.mpr hlen)), hc2, if_neg (fun h => nomatch h), forIn_fill _ (fun x s => rfl)]
        rw [List.map_nil, List.append_nil]
        rfl
      · rw [show (List.map (fun x => x.arg) ar).contains x.fst = true from a, Bool.true_or, if_pos rfl, if_neg (by rw [← Option.not_isNone, b]; decide)]
    · cases h1
theorem lookup_map {α β : Type} (g : α → β) (n : Str) : ∀ l : List (Str × α), (l.map fun p => (p.1, g p.2)).lookup n = (l.lookup n).map g
  | [] => rfl
  | p :: r => by
    rw [List.map_cons, List.lookup_cons, List.lookup_cons, lookup_map g n r]
    cases n == p.1 <;> rfl
noncomputable abbrev mapS {α β : Type} (g : α → β) (l : List (Str × α)) : List (Str × β) := l.map fun p => (p.1, g p.2)
theorem zip_mapS {α β : Type} (g : α → β) : ∀ (ns : List Str) (xs : List α), ns.zip (xs.map g) = mapS g (ns.zip xs)
  | [], _ => rfl
  | _ :: _, [] => rfl
  | n :: ns, x :: xs => by rw [List.map_cons, List.zip_cons_cons, List.zip_cons_cons, zip_mapS g ns xs]; rfl
theorem addKw_map {α β : Type} (g : α → β) (ar : List Str) : ∀ (kw s : List (Str × α)), addKw ar (mapS g s) (mapS g kw) = (addKw ar s kw).map (mapS g)
  | [], s => rfl
  | (k, v) :: r, s => by
    show (if ar.contains k && (List.lookup k (mapS g s)).isNone then addKw ar (mapS g s ++ [(k, g v)]) (mapS g r) else none) = Option.map _ (if ar.contains k && (List.lookup k s).isNone then addKw ar (s ++ [(k, v)]) r else none)
    rw [lookup_map]
    have : mapS g s ++ [(k, g v)] = mapS g (s ++ [(k, v)]) := by simp [mapS]
    rw [this, addKw_map g ar r (s ++ [(k, v)])]
    have e : ((List.lookup k s).map g).isNone = (List.lookup k s).isNone := by cases List.lookup k s <;> rfl
    rw [e]
    split <;> rfl
theorem fill_map {α β : Type} (g : α → β) : ∀ (l s : List (Str × α)), fill (mapS g s) (mapS g l) = mapS g (fill s l)
  | [], s => rfl
  | (n, d) :: r, s => by
    show fill (if (List.lookup n (mapS g s)).isNone then mapS g s ++ [(n, g d)] else mapS g s) (mapS g r) = mapS g (fill (if (List.lookup n s).isNone then s ++ [(n, d)] else s) r)
    rw [lookup_map]
    have e : ((List.lookup n s).map g).isNone = (List.lookup n s).isNone := by cases List.lookup n s <;> rfl
    rw [e]
    split
    · have : mapS g s ++ [(n, g d)] = mapS g (s ++ [(n, d)]) := by simp [mapS]
      rw [this]; exact fill_map g r _
    · exact fill_map g r _
theorem mapS_filterMap {α β γ : Type} (g : α → β) (f : γ → Option (Str × α)) : ∀ l : List γ, mapS g (l.filterMap f) = l.filterMap fun x => (f x).map fun p => (p.1, g p.2)
  | [] => rfl
  | x :: r => by
    have ih := mapS_filterMap g f r
    rw [List.filterMap_cons, List.filterMap_cons]
    cases f x with
    | none => exact ih
    | some p => rw [Option.map_some]; dsimp only; rw [← ih]; rfl
theorem bindsOf_map {α β : Type} (g : α → β) (po ar : List Str) (xs : List α) (kw : List (Str × α)) (ds : List α) :
    bindsOf po ar (xs.map g) (mapS g kw) (ds.map g) = (bindsOf po ar xs kw ds).map (mapS g) := by
  unfold bindsOf
  rw [zip_mapS, addKw_map]
  cases addKw ar ((po ++ ar).zip xs) kw with
  | none => rfl
  | some sl =>
    dsimp only [Option.map_some]
    simp only [List.length_map, ← List.map_drop]
    have e1 : (fun n => (List.lookup n (mapS g sl)).isNone) = fun n => (List.lookup n sl).isNone := funext fun n => by
      rw [lookup_map]; cases List.lookup n sl <;> rfl
    rw [e1]
    split
    · rw [Option.map_some, zip_mapS, fill_map]
      congr 1
      rw [mapS_filterMap]
      congr 1
      funext n
      rw [lookup_map]
      cases List.lookup n (fill sl _) <;> rfl
    · rfl
theorem addKw_mem {α : Type} {ar : List Str} : ∀ {kw s out : List (Str × α)}, addKw ar s kw = some out → ∀ p ∈ out, p ∈ s ∨ p ∈ kw
  | [], s, out, h, p, hp => by cases h; exact .inl hp
  | (k, v) :: r, s, out, h, p, hp => by
    unfold addKw at h
    split at h
    · rcases addKw_mem h p hp with q | q
      · rcases List.mem_append.mp q with q | q
        · exact .inl q
        · rw [List.mem_singleton.mp q]; exact .inr (.head _)
      · exact .inr (.tail _ q)
    · cases h
theorem fill_mem {α : Type} : ∀ {l s : List (Str × α)}, ∀ p ∈ fill s l, p ∈ s ∨ p ∈ l
  | [], s, p, hp => .inl hp
  | (n, d) :: r, s, p, hp => by
    unfold fill at hp
    rcases fill_mem p hp with q | q
    · split at q
      · rcases List.mem_append.mp q with q | q
        · exact .inl q
        · rw [List.mem_singleton.mp q]; exact .inr (.head _)
      · exact .inl q
    · exact .inr (.tail _ q)
theorem lookup_mem {α : Type} {n : Str} {v : α} : ∀ {l : List (Str × α)}, l.lookup n = some v → (n, v) ∈ l
  | p :: r, h => by
    rw [List.lookup_cons] at h
    cases hb : n == p.1 with
    | true => rw [hb] at h; cases h; rw [beq_iff_eq.mp hb]; exact .head _
    | false => rw [hb] at h; exact .tail _ (lookup_mem h)
theorem bindsOf_mem {α : Type} {po ar : List Str} {xs : List α} {kw : List (Str × α)} {ds : List α} {out : List (Str × α)} (h : bindsOf po ar xs kw ds = some out) :
    ∀ p ∈ out, p.2 ∈ xs ∨ p.2 ∈ kw.map (·.2) ∨ p.2 ∈ ds := by
  unfold bindsOf at h
  cases hk : addKw ar ((po ++ ar).zip xs) kw with
  | none => rw [hk] at h; cases h
  | some sl =>
    rw [hk] at h
    dsimp only at h
    split at h
    · cases h
      intro p hp
      obtain ⟨n, hn, e⟩ := List.mem_filterMap.mp hp
      obtain ⟨v, hv, rfl⟩ := Option.map_eq_some_iff.mp e
      rcases fill_mem _ (lookup_mem hv) with q | q
      · rcases addKw_mem hk _ q with q | q
        · exact .inl (List.of_mem_zip q).2
        · exact .inr (.inl (List.mem_map.mpr ⟨_, q, rfl⟩))
      · exact .inr (.inr (List.mem_of_mem_drop (List.of_mem_zip q).2))
    · cases h
end Mini
namespace Mini
open PySem PySem.W PySem.Calls PyProof.Rows
noncomputable def VRel (X : Fx) : V → Dy → Value → Prop := fun v D x => VR X.base D.ad D.news v x
noncomputable def BRel : Bool → Dy → Bool → Prop := fun b _ x => x = b
noncomputable def dec (b : Bool) : Ev Bool := fun σ os => match os.d with
  | .t :: ds => .ok true σ ⟨ds, os.c⟩ [b = true]
  | .f :: ds => .ok false σ ⟨ds, os.c⟩ [b = false]
  | .rc :: _ => match b with
    | true => .ok true σ os [b = true]
    | false => .ok false σ os [b = false]
  | _ :: ds => match b with
    | true => .ok true σ ⟨ds, os.c⟩ []
    | false => .ok false σ ⟨ds, os.c⟩ []
  | [] => match b with
    | true => .ok true σ os []
    | false => .ok false σ os []
noncomputable def need (p : Prop) : Ev Unit := fun σ os => .ok () σ os [p]
variable {α β γ δ : Type}
section
variable {P : Pg} {fm : Fm} {X : Fx} {D : Dy} {σ : St}
theorem dec_cases (b : Bool) (σ : St) (os : Os) : ∃ b' os' c, dec b σ os = .ok b' σ os' c ∧ ((∀ p ∈ c, p) → b = b') := by
  unfold dec
  split
  · exact ⟨_, _, _, rfl, fun h => h _ (.head _)⟩
  · exact ⟨_, _, _, rfl, fun h => h _ (.head _)⟩
  · cases b <;> exact ⟨_, _, _, rfl, fun _ => rfl⟩
  · cases b <;> exact ⟨_, _, _, rfl, fun _ => rfl⟩
  · cases b <;> exact ⟨_, _, _, rfl, fun _ => rfl⟩
theorem ok_dec {b : Bool} {os : Os} {t : Sem β} {k : Bool → Ev α} {R : α → Dy → β → Prop}
    (h : ∀ b' os', b = b' → Ok P fm X D σ t (k b' σ os') R) : Ok P fm X D σ t ((dec b >>= k) σ os) R := by
  obtain ⟨b', os₁, c, e, hb⟩ := dec_cases b σ os
  show Ok P fm X D σ t (Ev.bind (dec b) k σ os) R
  unfold Ev.bind
  rw [e]
  dsimp only
  cases hk : k b' σ os₁ with
  | no w => exact trivial
  | ex cls args σ' os' d =>
    intro hc
    have := h b' os₁ (hb fun p hp => hc p (List.mem_append_left _ hp))
    rw [hk] at this
    exact this fun p hp => hc p (List.mem_append_right _ hp)
  | ok a σ' os' d =>
    intro hc
    have := h b' os₁ (hb fun p hp => hc p (List.mem_append_left _ hp))
    rw [hk] at this
    exact this fun p hp => hc p (List.mem_append_right _ hp)
theorem ok_need {p : Prop} {os : Os} {t : Sem β} {k : Unit → Ev α} {R : α → Dy → β → Prop}
    (h : ∀ os', p → Ok P fm X D σ t (k () σ os') R) : Ok P fm X D σ t ((need p >>= k) σ os) R := by
  show Ok P fm X D σ t (Ev.bind (need p) k σ os) R
  unfold Ev.bind need
  dsimp only
  cases hk : k () σ os with
  | no w => exact trivial
  | ex cls args σ' os' c =>
    intro hc
    have := h os (hc _ (.head _))
    rw [hk] at this
    exact this fun p hp => hc p (.tail _ hp)
  | ok a σ' os' c =>
    intro hc
    have := h os (hc _ (.head _))
    rw [hk] at this
    exact this fun p hp => hc p (.tail _ hp)
theorem ok_same_pure {t : Sem β} {a : α} {os : Os} {R : α → Dy → β → Prop}
    (h : ∀ (Q : β → Shared → Prop) (E : Value → Shared → Prop) s, Rp P fm X D σ s.heap → (∀ x tk, R a D x → Q x { s with toks := tk }) → wpAny (model P.prog P.w) X.A t Q E s) : Ok P fm X D σ t ((Pure.pure a : Ev α) σ os) R := ok_same h
noncomputable def onInt (v : V) (k : Int → Ev α) : Ev α := match v with
  | .int i => k i
  | _ => fail "no int"
noncomputable def onStr (v : V) (k : Str → Ev α) : Ev α := match v with
  | .str s => k s
  | _ => fail "no text"
noncomputable def onObj (v : V) (k : Nat → Ev α) : Ev α := match v with
  | .obj n => k n
  | _ => fail "no object"
noncomputable def onTup (v : V) (k : List V → Ev α) : Ev α := match v with
  | .tup vs => k vs
  | _ => fail "no tuple"
noncomputable def onSome (o : Option γ) (k : γ → Ev α) : Ev α := match o with
  | some x => k x
  | none => fail "none"
noncomputable def on0 (vs : List V) (k : Ev α) : Ev α := match vs with
  | [] => k
  | _ :: _ => fail "too many"
noncomputable def on1 (vs : List V) (k : V → Ev α) : Ev α := match vs with
  | [] => fail "too few"
  | v :: r => on0 r (k v)
noncomputable def on2 (vs : List V) (k : V → V → Ev α) : Ev α := match vs with
  | [] => fail "too few"
  | v :: r => on1 r (k v)
noncomputable def onLO (n : Nat) (k : LO → Ev α) : Ev α := fun σ os => match σ.hp[n]? with
  | some lo => k lo σ os
  | none => .no "no such object"
noncomputable def tell (C : V → Prop) : Ev V := fun σ os => match os.c with
  | [] => .no "untold"
  | a :: cs => match a with
    | .fn v _ => .ok v σ ⟨os.d, cs⟩ [C v]
    | _ => .no "untold"
noncomputable def LO.lst? : LO → Option (List V)
  | .list vs => some vs
  | _ => none
noncomputable def LO.dq? : LO → Option (List V)
  | .deque vs => some vs
  | _ => none
noncomputable def LO.inst? : LO → Option (Addr × List (Str × V))
  | .inst C es => some (C, es)
  | _ => none
noncomputable def onInst (n : Nat) (k : Addr → List (Str × V) → Ev α) : Ev α := onLO n fun lo => onSome lo.inst? fun p => k p.1 p.2
noncomputable def onLst (n : Nat) (k : List V → Ev α) : Ev α := onLO n fun lo => onSome lo.lst? k
noncomputable def onDq (n : Nat) (k : List V → Ev α) : Ev α := onLO n fun lo => onSome lo.dq? k
theorem band {a b : Bool} (h : (a && b) = true) : a = true ∧ b = true := Bool.and_eq_true_iff.mp h
noncomputable def iff (b : Bool) (k : Ev α) : Ev α := if b then k else fail "form"
section
variable {os : Os} {v : V} {x : Value} {vs : List V} {xs : List Value} {R : α → Dy → β → Prop} {T : Value → Sem β} {t : Sem β} {Ts : List Value → Sem β}
theorem ok_onInt {k : Int → Ev α} (hv : VR X.base D.ad D.news v x) (h : ∀ i t, Ok P fm X D σ (T (.int i t)) (k i σ os) R) : Ok P fm X D σ (T x) (onInt v k σ os) R := by
  cases v with
  | int i => obtain ⟨t, rfl⟩ := VR.int' hv; exact h i t
  | _ => exact trivial
theorem ok_onStr {k : Str → Ev α} (hv : VR X.base D.ad D.news v x) (h : ∀ i t, Ok P fm X D σ (T (.str i t)) (k i σ os) R) : Ok P fm X D σ (T x) (onStr v k σ os) R := by
  cases v with
  | str i => obtain ⟨t, rfl⟩ := VR.str' hv; exact h i t
  | _ => exact trivial
theorem ok_onObj {k : Nat → Ev α} (h : ∀ n, v = .obj n → Ok P fm X D σ t (k n σ os) R) : Ok P fm X D σ t (onObj v k σ os) R := by
  cases v with
  | obj n => exact h n rfl
  | _ => exact trivial
theorem ok_onTup {k : List V → Ev α} (h : ∀ vs, v = .tup vs → Ok P fm X D σ t (k vs σ os) R) : Ok P fm X D σ t (onTup v k σ os) R := by
  cases v with
  | tup n => exact h n rfl
  | _ => exact trivial
theorem ok_onSome {o : Option γ} {k : γ → Ev α} (h : ∀ x, o = some x → Ok P fm X D σ t (k x σ os) R) : Ok P fm X D σ t (onSome o k σ os) R := by
  cases o with
  | some x => exact h x rfl
  | none => exact trivial
theorem ok_on0 {k : Ev α} (hv : VRs X.base D.ad D.news vs xs) (h : Ok P fm X D σ (Ts []) (k σ os) R) : Ok P fm X D σ (Ts xs) (on0 vs k σ os) R := by
  cases vs with
  | nil => rw [hv.nil']; exact h
  | cons _ _ => exact trivial
theorem ok_on1 {k : V → Ev α} (hv : VRs X.base D.ad D.news vs xs) (h : ∀ v x, VR X.base D.ad D.news v x → Ok P fm X D σ (Ts [x]) (k v σ os) R) : Ok P fm X D σ (Ts xs) (on1 vs k σ os) R := by
  cases vs with
  | nil => exact trivial
  | cons v r => obtain ⟨y, ys, rfl, a, b⟩ := hv.cons'; exact ok_on0 (Ts := fun l => Ts (y :: l)) b (h v y a)
theorem ok_on2 {k : V → V → Ev α} (hv : VRs X.base D.ad D.news vs xs) (h : ∀ v x v' x', VR X.base D.ad D.news v x → VR X.base D.ad D.news v' x' → Ok P fm X D σ (Ts [x, x']) (k v v' σ os) R) : Ok P fm X D σ (Ts xs) (on2 vs k σ os) R := by
  cases vs with
  | nil => exact trivial
  | cons v r => obtain ⟨y, ys, rfl, a, b⟩ := hv.cons'; exact ok_on1 (Ts := fun l => Ts (y :: l)) b fun v' x' => h v y v' x' a
theorem ok_iff {b : Bool} {k : Ev α} (h : b = true → Ok P fm X D σ t (k σ os) R) : Ok P fm X D σ t (iff b k σ os) R := by
  cases b with
  | true => exact h rfl
  | false => exact trivial
theorem ok_onLO {n : Nat} {k : LO → Ev α} (h : ∀ lo, σ.hp[n]? = some lo → Ok P fm X D σ t (k lo σ os) R) : Ok P fm X D σ t (onLO n k σ os) R := by
  unfold onLO
  cases e : σ.hp[n]? with
  | none => exact trivial
  | some lo => exact h lo e
theorem ok_tell {C : V → Prop} {t : Sem Value} (h : ∀ v os', C v → Ok P fm X D σ t ((Pure.pure v : Ev V) σ os') (VRel X)) : Ok P fm X D σ t (tell C σ os) (VRel X) := by
  unfold tell
  cases os.c with
  | nil => exact trivial
  | cons a cs =>
    cases a with
    | fn v hp => exact fun hc s hs Q E hQ => h v ⟨os.d, cs⟩ (hc _ (.head _)) (fun _ q => nomatch q) s hs Q E hQ
    | _ => exact trivial
theorem LO.lst_is {lo : LO} (h : lo.lst? = some vs) : lo = .list vs := by
  cases lo with
  | list ws => rw [Option.some.inj h]
  | _ => cases h
theorem LO.dq_is {lo : LO} (h : lo.dq? = some vs) : lo = .deque vs := by
  cases lo with
  | deque ws => rw [Option.some.inj h]
  | _ => cases h
theorem LO.inst_is {lo : LO} {p : Addr × List (Str × V)} (h : lo.inst? = some p) : lo = .inst p.1 p.2 := by
  cases lo with
  | inst C es => rw [← Option.some.inj h]
  | _ => cases h
theorem ok_onInst {n : Nat} {k : Addr → List (Str × V) → Ev α} (h : ∀ C es, σ.hp[n]? = some (.inst C es) → Ok P fm X D σ t (k C es σ os) R) : Ok P fm X D σ t (onInst n k σ os) R :=
  ok_onLO fun lo e => ok_onSome fun p q => h p.1 p.2 (LO.inst_is q ▸ e)
theorem ok_onLst {n : Nat} {k : List V → Ev α} (h : ∀ vs, σ.hp[n]? = some (.list vs) → Ok P fm X D σ t (k vs σ os) R) : Ok P fm X D σ t (onLst n k σ os) R :=
  ok_onLO fun lo e => ok_onSome fun vs q => h vs (LO.lst_is q ▸ e)
theorem ok_onDq {n : Nat} {k : List V → Ev α} (h : ∀ vs, σ.hp[n]? = some (.deque vs) → Ok P fm X D σ t (k vs σ os) R) : Ok P fm X D σ t (onDq n k σ os) R :=
  ok_onLO fun lo e => ok_onSome fun vs q => h vs (LO.dq_is q ▸ e)
end
noncomputable def truth : V → Ev Bool
  | .none => pure false
  | .bool b => pure b
  | .int i => pure (i != 0)
  | .str s => do need (s.length ≤ 1048576); pure ((s.length : Int) != 0)
  | .obj n => onLO n fun lo => match lo with
    | .deque vs => do need (vs.length ≤ 1048576); pure (((vs.length : Nat) : Int) != 0)
    | .list vs => do need (vs.length ≤ 1048576); pure (((vs.length : Nat) : Int) != 0)
    | _ => fail "truth"
  | _ => fail "truth"
noncomputable def hasB (x y : Str) : Bool := !(Builtin.Str.occurrences x y 0 x.length 1).isEmpty
noncomputable def statNone : Value → Option Bool
  | .type _ => some false
  | .ref _ => some false
  | _ => none
noncomputable def isNone : V → Option Bool
  | .none => some true
  | .stat x => statNone x
  | _ => some false
noncomputable def typeV : V → Option String
  | .stat x => match x with
    | .type T => some T
    | _ => none
  | _ => none
noncomputable def refV : V → Option Addr
  | .stat x => match x with
    | .ref T => some T
    | _ => none
  | _ => none
noncomputable def isBool (y : Bool) : V → Option Bool
  | .bool x => some (x == y)
  | .str _ => some false
  | .int _ => some false
  | .none => some false
  | _ => none
noncomputable def isOp (a b : V) : Option Bool := match b with
  | .none => isNone a
  | .bool y => isBool y a
  | b => (typeV a).bind fun T => (typeV b).map fun U => T == U
noncomputable def strsOf : List V → Option (List Str)
  | [] => some []
  | v :: r => match v with
    | .str s => (strsOf r).map (s :: ·)
    | _ => none
noncomputable def anyStr (s : Str) : List Str → Bool
  | [] => false
  | y :: r => (y == s) || anyStr s r
noncomputable def intsOf : List V → Option (List Int)
  | [] => some []
  | v :: r => match v with
    | .int i => (intsOf r).map (i :: ·)
    | _ => none
noncomputable def anyInt (k : Int) : List Int → Bool
  | [] => false
  | y :: r => (y == k) || anyInt k r
noncomputable def flat : V → Bool
  | .none => true
  | .bool _ => true
  | .int _ => true
  | .str _ => true
  | _ => false
noncomputable def flat1 : V → Bool
  | .tup vs => vs.all flat
  | v => flat v
noncomputable def refIs (K : Frag) (a b : V) : Option Bool := (refV a).bind fun x => (refV b).bind fun y => if x == y then some true else
  (K.lookup x).bind fun ox => (K.lookup y).bind fun _ => if ox.cls == .type "type" then some false else none
noncomputable def isV (K : Frag) (a b : V) : Option Bool := (isOp a b).orElse fun _ => refIs K a b
noncomputable def eqVs (vs ws : List V) : Ev V := fun σ os => match os.d with
  | [] => .ok (.bool true) σ os [vs = ws ∧ ∀ v ∈ vs, flat1 v = true]
  | a :: d => match a with
    | .f => .ok (.bool false) σ ⟨d, os.c⟩ [vs.length ≠ ws.length]
    | _ => .ok (.bool true) σ os [vs = ws ∧ ∀ v ∈ vs, flat1 v = true]
noncomputable def eqLst (i j : Nat) : Ev V := onLst i fun vs => onLst j fun ws => eqVs vs ws
noncomputable def eqE (a b : V) : Ev V := match a with
  | .int x => onInt b fun y => pure (.bool (x == y))
  | .str x => (match b with
    | .str y => pure (.bool (x == y))
    | .none => pure (.bool false)
    | _ => fail "eq")
  | .none => (match b with
    | .str _ => pure (.bool false)
    | .none => pure (.bool true)
    | _ => fail "eq")
  | .obj i => onObj b fun j => eqLst i j
  | _ => fail "eq"
noncomputable def neE (a b : V) : Ev V := match a with
  | .int x => onInt b fun y => pure (.bool (x != y))
  | .str x => (match b with
    | .str y => pure (.bool (x != y))
    | .none => pure (.bool true)
    | _ => fail "ne")
  | _ => fail "ne"
noncomputable def onInts (b : V) (k : List Int → Ev α) : Ev α := match b with
  | .tup vs => onSome (intsOf vs) k
  | _ => fail "in"
noncomputable def inE (a b : V) : Ev V := match a with
  | .str y => (match b with
    | .str x => pure (.bool (hasB x y))
    | .tup vs => onSome (strsOf vs) fun ss => pure (.bool (anyStr y ss))
    | _ => fail "in")
  | .int k => onInts b fun ns => pure (.bool (anyInt k ns))
  | _ => fail "in"
noncomputable def ninE (a b : V) : Ev V := match a with
  | .str y => (match b with
    | .str x => pure (.bool (!(hasB x y)))
    | .tup vs => onSome (strsOf vs) fun ss => pure (.bool (!(anyStr y ss)))
    | _ => fail "in")
  | .int k => onInts b fun ns => pure (.bool (!(anyInt k ns)))
  | _ => fail "in"
noncomputable def cmpOp (K : Frag) (op : CmpOp) (a b : V) : Ev V := match op with
  | .Is => onSome (isV K a b) fun r => pure (.bool r)
  | .IsNot => onSome (isV K a b) fun r => pure (.bool (!r))
  | .Eq => eqE a b
  | .NotEq => neE a b
  | .Lt => onInt a fun x => onInt b fun y => pure (.bool (decide (x < y)))
  | .LtE => onInt a fun x => onInt b fun y => pure (.bool (decide (x ≤ y)))
  | .Gt => onInt a fun x => onInt b fun y => pure (.bool (decide (y < x)))
  | .GtE => onInt a fun x => onInt b fun y => pure (.bool (decide (y ≤ x)))
  | .In => inE a b
  | .NotIn => ninE a b
noncomputable def addE (a b : V) : Ev V := match a with
  | .int x => onInt b fun y => pure (.int (x + y))
  | .str x => onStr b fun y => do need (x.length + y.length ≤ sizeLine); pure (.str (x ++ y))
  | _ => fail "add"
noncomputable def modE (a b : V) : Ev V := onInt a fun x => onInt b fun y => do if ← dec (y == 0) then fail "mod" else pure (.int (Int.fmod x y))
end
end Mini
namespace Mini
open PySem PySem.W PySem.Calls PyProof.Rows PySem.SeqAt
namespace DQ
theorem noBool : typeLookup (.type "collections.deque") "__bool__" = pure none := by rw [typeLookup_type, builtinLookup_eq_fast]; kernel_rfl
theorem slot_len : Slot "collections.deque" "__len__" "collections.deque.__len__" :=
  .of (owner := "collections.deque") (n := "__len__") (by rw [typeLookup_type, builtinLookup_eq_fast]; kernel_rfl) (by decide +kernel) (by decide +kernel) (by decide +kernel)
    (by first | exact .inl (by decide +kernel) | exact .inr (by decide +kernel)) (by rw [isSubtype_type]; kernel_rfl)
theorem entry_len : entryFor table "collections.deque.__len__" = some Builtin.«collections.deque.__len__» := entryFor_of_tree (by kernel_rfl)
theorem args_len (a : Value) : argsOk "collections.deque.__len__" ⟨[a], []⟩ := by unfold argsOk; kernel_rfl
theorem slot_append : Slot "collections.deque" "append" "collections.deque.append" :=
  .of (owner := "collections.deque") (n := "append") (by rw [typeLookup_type, builtinLookup_eq_fast]; kernel_rfl) (by decide +kernel) (by decide +kernel) (by decide +kernel)
    (by first | exact .inl (by decide +kernel) | exact .inr (by decide +kernel)) (by rw [isSubtype_type]; kernel_rfl)
theorem type_append : typeOf (.builtin "collections.deque.append") = pure (.type "method_descriptor") := by show builtinType _ = _; rw [builtinType_eq_fast]; kernel_rfl
theorem entry_append : entryFor table "collections.deque.append" = some Builtin.«collections.deque.append» := entryFor_of_tree (by kernel_rfl)
theorem args_append (a b : Value) : argsOk "collections.deque.append" ⟨[a, b], []⟩ := by unfold argsOk; kernel_rfl
theorem slot_appendleft : Slot "collections.deque" "appendleft" "collections.deque.appendleft" :=
  .of (owner := "collections.deque") (n := "appendleft") (by rw [typeLookup_type, builtinLookup_eq_fast]; kernel_rfl) (by decide +kernel) (by decide +kernel) (by decide +kernel)
    (by first | exact .inl (by decide +kernel) | exact .inr (by decide +kernel)) (by rw [isSubtype_type]; kernel_rfl)
theorem type_appendleft : typeOf (.builtin "collections.deque.appendleft") = pure (.type "method_descriptor") := by show builtinType _ = _; rw [builtinType_eq_fast]; kernel_rfl
theorem entry_appendleft : entryFor table "collections.deque.appendleft" = some Builtin.«collections.deque.appendleft» := entryFor_of_tree (by kernel_rfl)
theorem args_appendleft (a b : Value) : argsOk "collections.deque.appendleft" ⟨[a, b], []⟩ := by unfold argsOk; kernel_rfl
theorem slot_pop : Slot "collections.deque" "pop" "collections.deque.pop" :=
  .of (owner := "collections.deque") (n := "pop") (by rw [typeLookup_type, builtinLookup_eq_fast]; kernel_rfl) (by decide +kernel) (by decide +kernel) (by decide +kernel)
    (by first | exact .inl (by decide +kernel) | exact .inr (by decide +kernel)) (by rw [isSubtype_type]; kernel_rfl)
theorem type_pop : typeOf (.builtin "collections.deque.pop") = pure (.type "method_descriptor") := by show builtinType _ = _; rw [builtinType_eq_fast]; kernel_rfl
theorem entry_pop : entryFor table "collections.deque.pop" = some Builtin.«collections.deque.pop» := entryFor_of_tree (by kernel_rfl)
theorem args_pop (a : Value) : argsOk "collections.deque.pop" ⟨[a], []⟩ := by unfold argsOk; kernel_rfl
theorem slot_popleft : Slot "collections.deque" "popleft" "collections.deque.popleft" :=
  .of (owner := "collections.deque") (n := "popleft") (by rw [typeLookup_type, builtinLookup_eq_fast]; kernel_rfl) (by decide +kernel) (by decide +kernel) (by decide +kernel)
    (by first | exact .inl (by decide +kernel) | exact .inr (by decide +kernel)) (by rw [isSubtype_type]; kernel_rfl)
theorem type_popleft : typeOf (.builtin "collections.deque.popleft") = pure (.type "method_descriptor") := by show builtinType _ = _; rw [builtinType_eq_fast]; kernel_rfl
theorem entry_popleft : entryFor table "collections.deque.popleft" = some Builtin.«collections.deque.popleft» := entryFor_of_tree (by kernel_rfl)
theorem args_popleft (a : Value) : argsOk "collections.deque.popleft" ⟨[a], []⟩ := by unfold argsOk; kernel_rfl
theorem plain : PlainAttrs "collections.deque" := ⟨⟨"collections.deque.__getattribute__", by rw [typeLookup_type, builtinLookup_eq_fast]; kernel_rfl, by decide +kernel⟩, by rw [typeLookup_type, builtinLookup_eq_fast]; kernel_rfl⟩
section
variable {prog : Program} {w : World} {A : Around} {E : Value → Shared → Prop} {s : Shared} {a : Addr} {xs : List Value} {k : Int}
theorem typeIs (h : s.heap.get? a = some (dequeOf xs k)) : s.TypeIs (.ref a) "collections.deque" := ⟨_, h, rfl⟩
theorem items_drop (xs : List Value) (k : Int) : ((#[Value.none, rawInt k] ++ xs.toArray : Array Value).extract 2 (#[Value.none, rawInt k] ++ xs.toArray : Array Value).size) = xs.toArray := by
  apply Array.ext'
  simp
theorem size_is (xs : List Value) (k : Int) : (#[Value.none, rawInt k] ++ xs.toArray : Array Value).size - 2 = xs.length := by simp
theorem truthy {Q : Bool → Shared → Prop} (h : s.heap.get? a = some (dequeOf xs k)) (hfit : xs.length ≤ 1048576) (q : ∀ tk, Q (((xs.length : Nat) : Int) != 0) { s with toks := tk }) : wpAny (model prog w) A (PySem.truthy (.ref a)) Q E s := by
  have key : wpAny (model prog w) A (runValue (.builtin "len" ⟨[.ref a], []⟩)) (fun r s' => r = .int xs.length (s.toks + 1) ∧ Q (((xs.length : Nat) : Int) != 0) s') E s := by
    refine wpAny_runValue (codeAny_builtin PySem.entry_len ?_)
    rw [Around.under_plainId plain_len _]
    unfold Builtin.«len»
    refine wpAny_bind (m := oneArg "len" _) (wpAny_pure ?_)
    refine wpAny_bind (m := callSpecial? (.ref a) (Str.ofString "__len__")) (wpAny_callSpecial?_slot (name := Str.ofString "__len__") (typeIs h) slot_len
      (wpAny_call_entry slot_len (typeIs h) entry_len ?_ (args_len _)))
    show wpAny _ _ (do retInt (← Builtin.Deque.size (.ref a))) _ _ s
    unfold Builtin.Deque.size
    refine wpAny_bind (wpAny_bind (wpAny_fieldsOf h rfl ?_))
    rw [size_is]
    refine wpAny_pure (wpAny_bind (wpAny_mkInt (wpAny_pure ⟨_, rfl, ?_⟩)))
    refine wpAny_bind (wpAny_holding (wpAny_pure ?_))
    refine wpAny_bind (wpAny_letGo ?_)
    show wpAny _ _ (if ((xs.length : Nat) : Int) < 0 then _ else _) _ _ _
    rw [if_neg (by omega)]
    show wpAny _ _ (if ((xs.length : Nat) : Int) ≥ 2 ^ 63 then _ else _) _ _ _
    rw [if_neg (by omega)]
    exact wpAny_bind (wpAny_mkInt (wpAny_pure ⟨rfl, q _⟩))
  unfold PySem.truthy
  first
    | refine wpAny_bind (wpAny_callSpecial?_none (name := Str.ofString "__bool__") (typeIs h) noBool ?_)
    | refine wpAny_bind (wpAny_pure (wpAny_bind (wpAny_callSpecial?_none (name := Str.ofString "__bool__") (typeIs h) noBool ?_)))
  first
    | refine wpAny_bind (wpAny_specialOf (name := Str.ofString "__len__") (typeIs h) slot_len.lookup ?_)
    | refine wpAny_bind (wpAny_pure (wpAny_bind (wpAny_specialOf (name := Str.ofString "__len__") (typeIs h) slot_len.lookup ?_)))
  first
    | exact wpAny_bind (wpAny_mono key (fun r s' h' => by obtain ⟨rfl, hq⟩ := h'; exact wpAny_pure hq) fun _ _ e => e)
    | exact wpAny_bind (wpAny_pure (wpAny_bind (wpAny_mono key (fun r s' h' => by obtain ⟨rfl, hq⟩ := h'; exact wpAny_pure hq) fun _ _ e => e)))
theorem change {Q : Unit → Shared → Prop} {f : Array Value → Array Value} {ys : List Value} (h : s.heap.get? a = some (dequeOf xs k)) (e : f xs.toArray = ys.toArray) (hz : ys.length ≤ 1048576)
    (q : Q () { s with heap := s.heap.update a (Obj.mapFields fun vs => #[vs.getD 0 .none, rawInt (k + 1)] ++ f (vs.extract 2 vs.size)) }) : wpAny (model prog w) A (Builtin.Deque.change (.ref a) f) Q E s := by
  unfold Builtin.Deque.change
  dsimp only
  unfold Builtin.Deque.state
  refine wpAny_bind (wpAny_bind (wpAny_field (i := 1) (x := rawInt k) h rfl (by simp) (wpAny_pure ?_)))
  simp only [if_true]
  refine wpAny_updateFields h rfl q ?_
  rw [items_drop, e]
  simp only [Array.size_append, List.size_toArray, List.length_cons, List.length_nil]
  rw [sizeLine_eq]
  omega
theorem changed {f : Array Value → Array Value} {ys : List Value} (e : f xs.toArray = ys.toArray) :
    Obj.mapFields (fun vs => #[vs.getD 0 .none, rawInt (k + 1)] ++ f (vs.extract 2 vs.size)) (dequeOf xs k) = dequeOf ys (k + 1) := by
  show ({ cls := .type "collections.deque", data := .fields (#[(#[Value.none, rawInt k] ++ xs.toArray).getD 0 .none, rawInt (k + 1)] ++ f ((#[Value.none, rawInt k] ++ xs.toArray).extract 2 (#[Value.none, rawInt k] ++ xs.toArray).size)) } : Obj) = _
  rw [items_drop, e]
  simp [dequeOf]
end
end DQ
section
variable {P : Pg} {fm : Fm} {X : Fx} {D : Dy} {σ : St} {os : Os}
theorem lst_at {h : Heap} (r : Rp P fm X D σ h) {n : Nat} {x : Value} {vs : List V} (hv : VR X.base D.ad D.news (.obj n) x) (hn : σ.hp[n]? = some (.list vs)) :
    ∃ a xs k, x = .ref a ∧ h.get? a = some (listOf xs k) ∧ VRs X.base D.ad D.news vs xs.toList ∧ (a, listOf xs k) ∈ D.news ∧ ∃ p, D.ad[n]? = some p ∧ p.1 = a ∧ p.2 = a := by
  cases hv with
  | obj hp =>
    rename_i p
    obtain ⟨q, hq, e, xs, k, hm, hr⟩ := r.hp n _ hn
    rw [hp] at hq; cases hq
    exact ⟨p.1, xs, k, rfl, by rw [e]; exact r.N.get hm, hr, e ▸ hm, p, hp, rfl, e.symm⟩
theorem dq_at {h : Heap} (r : Rp P fm X D σ h) {n : Nat} {x : Value} {vs : List V} (hv : VR X.base D.ad D.news (.obj n) x) (hn : σ.hp[n]? = some (.deque vs)) :
    ∃ a xs k, x = .ref a ∧ h.get? a = some (dequeOf xs k) ∧ VRs X.base D.ad D.news vs xs ∧ (a, dequeOf xs k) ∈ D.news ∧ ∃ p, D.ad[n]? = some p ∧ p.1 = a ∧ p.2 = a := by
  cases hv with
  | obj hp =>
    rename_i p
    obtain ⟨q, hq, e, xs, k, hm, hr⟩ := r.hp n _ hn
    rw [hp] at hq; cases hq
    exact ⟨p.1, xs, k, rfl, by rw [e]; exact r.N.get hm, hr, e ▸ hm, p, hp, rfl, e.symm⟩
theorem inst_at {h : Heap} (r : Rp P fm X D σ h) {n : Nat} {x : Value} {C : Addr} {es : List (Str × V)} (hv : VR X.base D.ad D.news (.obj n) x) (hn : σ.hp[n]? = some (.inst C es)) :
    ∃ a c sl ds k, x = .ref a ∧ InstAt h a ⟨.ref C, some c, .plain, sl⟩ C (some (dictOf ds k)) ∧ DR P.w.params X.base D.ad D.news es ds ∧ (a, (⟨.ref C, some c, .plain, sl⟩ : Obj)) ∈ D.news ∧ (c, dictOf ds k) ∈ D.news ∧ D.ad[n]? = some (a, c) := by
  cases hv with
  | obj hp =>
    rename_i p
    obtain ⟨q, hq, ⟨sl, hx⟩, ds, k, hm, hr⟩ := r.hp n _ hn
    rw [hp] at hq; cases hq
    exact ⟨p.1, p.2, sl, ds, k, rfl, InstAt.of_news r.N hx hm, hr, hx, hm, hp⟩
theorem big_lt {n : Nat} (h : n ≤ 1048576) : (n : Int) < 2 ^ 63 := Int.lt_of_le_of_lt (Int.ofNat_le.mpr h) (by decide)
theorem ok_truth {v : V} {x : Value} (hv : VRel X v D x) : Ok P fm X D σ (truthy x) (truth v σ os) BRel := by
  cases v with
  | none => rw [VR.none' hv]; exact ok_same_pure fun Q E s r k => truthy_none (k _ s.toks rfl)
  | bool b => rw [VR.bool' hv]; exact ok_same_pure fun Q E s r k => wpAny_truthy_bool (k _ s.toks rfl)
  | int i => obtain ⟨t, rfl⟩ := VR.int' hv; exact ok_same_pure fun Q E s r k => PyProof.Rows.truthy_int (k _ s.toks rfl)
  | str i => obtain ⟨t, rfl⟩ := VR.str' hv; exact ok_need fun os' hp => ok_same_pure fun Q E s r k => PySem.P.truthy_str (Int.not_le.mpr (big_lt hp)) (k _ _ rfl)
  | obj n =>
    refine ok_onLO fun lo hn => ?_
    cases lo with
    | deque vs =>
      refine ok_need fun os' hp => ok_same_pure fun Q E s r k => ?_
      obtain ⟨a, xs, k', e, h1, h2, _⟩ := dq_at r hv hn
      rw [e]
      refine DQ.truthy h1 (by rw [h2.length]; exact hp) fun tk => ?_
      rw [h2.length]; exact k _ tk rfl
    | list vs =>
      refine ok_need fun os' hp => ok_same_pure fun Q E s r k => ?_
      obtain ⟨a, xs, k', e, h1, h2, _⟩ := lst_at r hv hn
      have hl : xs.size = vs.length := by rw [← h2.length, Array.length_toList]
      rw [e]
      refine wpAny_truthy_list (items := xs) ⟨_, h1, rfl, _, rfl⟩ (big_lt (by rw [hl]; exact hp)) ?_
      have : (!xs.isEmpty) = (((vs.length : Nat) : Int) != 0) := by
        rw [← hl]
        unfold Array.isEmpty
        cases xs.size <;> rfl
      rw [this]; exact k _ _ rfl
    | _ => exact trivial
  | _ => exact trivial
theorem statNone_is {x : Value} {b : Bool} (h : statNone x = some b) : plainIs x .none = true ∧ (x == .none) = b := by
  cases x with
  | type T => exact ⟨rfl, Option.some.inj h⟩
  | ref T => exact ⟨rfl, Option.some.inj h⟩
  | _ => cases h
theorem plainIs_none {x : Value} {v : V} {b : Bool} (hv : VRel X v D x) (h : isNone v = some b) : plainIs x .none = true ∧ (x == .none) = b := by
  cases hv with
  | stat => exact statNone_is h
  | _ => exact ⟨rfl, Option.some.inj h⟩
theorem typeV_is {v : V} {x : Value} {T : String} (hv : VRel X v D x) (h : typeV v = some T) : x = .type T := by
  cases v with
  | stat y =>
    rw [VR.stat' hv]
    cases y with
    | type U => rw [Option.some.inj h]
    | _ => cases h
  | _ => cases h
theorem refV_is {v : V} {x : Value} {T : Addr} (hv : VRel X v D x) (h : refV v = some T) : x = .ref T := by
  cases v with
  | stat y =>
    rw [VR.stat' hv]
    cases y with
    | ref U => rw [Option.some.inj h]
    | _ => cases h
  | _ => cases h
theorem isBool_is {x : Value} {v : V} {y b : Bool} (hv : VRel X v D x) (h : isBool y v = some b) : plainIs x (.bool y) = true ∧ (x == .bool y) = b := by
  cases hv with
  | none => exact ⟨rfl, Option.some.inj h⟩
  | int => exact ⟨rfl, Option.some.inj h⟩
  | str => exact ⟨rfl, Option.some.inj h⟩
  | @bool z => rw [← Option.some.inj h]; cases z <;> cases y <;> exact ⟨rfl, rfl⟩
  | _ => cases h
theorem isOp_is {a b : V} {x y : Value} {r : Bool} (ha : VRel X a D x) (hb : VRel X b D y) (h : isOp a b = some r) : plainIs x y = true ∧ (x == y) = r := by
  have gen : ((typeV a).bind fun T => (typeV b).map fun U => T == U) = some r → plainIs x y = true ∧ (x == y) = r := fun h => by
    obtain ⟨T, h1, h⟩ := Option.bind_eq_some_iff.mp h
    obtain ⟨U, h2, h⟩ := Option.map_eq_some_iff.mp h
    rw [typeV_is ha h1, typeV_is hb h2, ← h]
    refine ⟨rfl, ?_⟩
    by_cases e : T = U
    · rw [e, beq_self_eq_true, beq_self_eq_true]
    · rw [beq_eq_false_iff_ne.mpr e, beq_eq_false_iff_ne]; exact fun q => e (Value.type.inj q)
  cases b with
  | none => rw [VR.none' hb]; exact plainIs_none ha h
  | bool y => rw [VR.bool' hb]; exact isBool_is ha h
  | _ => exact gen h
theorem refIs_is {a b : V} {x y : Value} {r : Bool} (ha : VRel X a D x) (hb : VRel X b D y) (h : refIs P.K a b = some r) : ∃ i j, x = .ref i ∧ y = .ref j ∧
    ((r = true ∧ i = j) ∨ (r = false ∧ i ≠ j ∧ ∃ oi oj, P.K.lookup i = some oi ∧ P.K.lookup j = some oj ∧ oi.cls ≠ .type "tuple")) := by
  obtain ⟨i, h1, h⟩ := Option.bind_eq_some_iff.mp h
  obtain ⟨j, h2, h⟩ := Option.bind_eq_some_iff.mp h
  refine ⟨i, j, refV_is ha h1, refV_is hb h2, ?_⟩
  split at h
  · rename_i e; exact .inl ⟨(Option.some.inj h).symm, beq_iff_eq.mp e⟩
  · rename_i e
    obtain ⟨oi, hi, h⟩ := Option.bind_eq_some_iff.mp h
    obtain ⟨oj, hj, h⟩ := Option.bind_eq_some_iff.mp h
    split at h
    · rename_i hc
      refine .inr ⟨(Option.some.inj h).symm, fun q => e (by rw [q]; exact beq_self_eq_true _), oi, oj, hi, hj, ?_⟩
      rw [beq_iff_eq.mp hc]; intro q; exact absurd (Value.type.inj q) (by decide)
    · cases h
theorem isV_is {a b : V} {x y : Value} {r : Bool} (ha : VRel X a D x) (hb : VRel X b D y) (h : isV P.K a b = some r) : (plainIs x y = true ∧ (x == y) = r) ∨ (∃ i j, x = .ref i ∧ y = .ref j ∧
    ((r = true ∧ i = j) ∨ (r = false ∧ i ≠ j ∧ ∃ oi oj, P.K.lookup i = some oi ∧ P.K.lookup j = some oj ∧ oi.cls ≠ .type "tuple"))) := by
  unfold isV at h
  cases e : isOp a b with
  | none => rw [e] at h; exact .inr (refIs_is ha hb h)
  | some q => rw [e] at h; rw [← Option.some.inj h]; exact .inl (isOp_is ha hb e)
theorem eqAt_flat {A : Around} {s : Shared} {base : Heap} {ad news} {v : V} {x y : Value} (hf : flat v = true) (hx : VR base ad news v x) (hy : VR base ad news v y) : EqAt A s x y true := by
  cases v with
  | none => rw [hx.none', hy.none']; exact EqAt.same _
  | bool b => rw [hx.bool', hy.bool']; exact EqAt.same _
  | int i => obtain ⟨t, rfl⟩ := hx.int'; obtain ⟨u, rfl⟩ := hy.int'; exact fun prog w E Q h => wpAny_eqBool_int (by rw [beq_self_eq_true]; exact h)
  | str z => obtain ⟨t, rfl⟩ := hx.str'; obtain ⟨u, rfl⟩ := hy.str'; exact fun prog w E Q h => wpAny_eqBool_str (by rw [decide_eq_true rfl]; exact h)
  | _ => cases hf
theorem all_true (k : Nat) : (List.range k).all (fun _ => true) = true := by simp
theorem vrs_at {base : Heap} {ad news} {vs : List V} {xs : Array Value} (h : VRs base ad news vs xs.toList) {j : Nat} (hj : j < xs.size) : ∃ v, vs[j]? = some v ∧ v ∈ vs ∧ VR base ad news v xs[j] := by
  have hl : j < vs.length := by rw [← h.length, Array.length_toList]; exact hj
  obtain ⟨x, hx, hr⟩ := h.get (List.getElem?_eq_getElem hl)
  rw [Array.getElem?_toList, Array.getElem?_eq_getElem hj] at hx
  cases hx
  exact ⟨vs[j], List.getElem?_eq_getElem hl, List.getElem_mem hl, hr⟩
theorem eqAt_flat1 {A : Around} {s : Shared} {base h₀ : Heap} {L : Addr} {ad news} (N : News h₀ L s.heap news) (hu : A.units < cLine) {v : V} {x y : Value} (hf : flat1 v = true) (hx : VR base ad news v x) (hy : VR base ad news v y) : EqAt A s x y true := by
  cases v with
  | tup vs =>
    obtain ⟨a, xs, na, d, sl, rfl, h1, h4⟩ := hx.tup'
    obtain ⟨b, ys, nb, d', sl', rfl, f1, f4⟩ := hy.tup'
    by_cases hab : a = b
    · rw [hab]; exact EqAt.same _
    · have hsz : xs.size = ys.size := by rw [← Array.length_toList, ← Array.length_toList, h4.length, f4.length]
      have := RcAt.tuples (A := A) (s := s) (e := fun _ => true) (items := xs) (items2 := ys) ⟨_, N.get h1, rfl, na, rfl⟩ ⟨_, N.get f1, rfl, nb, rfl⟩ hu fun j j1 j2 => by
        obtain ⟨v, e1, hv, r1⟩ := vrs_at h4 j1
        obtain ⟨u, e2, _, r2⟩ := vrs_at f4 j2
        rw [e1] at e2
        rw [← Option.some.inj e2] at r2
        exact eqAt_flat (List.all_eq_true.mp hf v hv) r1 r2
      rw [all_true, hsz, beq_self_eq_true, Bool.and_self] at this
      exact EqAt.of_refs hab this
  | none => exact eqAt_flat (v := .none) hf hx hy
  | bool b => exact eqAt_flat (v := .bool b) hf hx hy
  | int i => exact eqAt_flat (v := .int i) hf hx hy
  | str i => exact eqAt_flat (v := .str i) hf hx hy
  | _ => cases hf
theorem ok_eqLst {n : Nat} (c : Cx P fm n X) {i j : Nat} {x y : Value} (ha : VRel X (.obj i) D x) (hb : VRel X (.obj j) D y) : Ok P fm X D σ (compareOp .Eq x y) (eqLst i j σ os) (VRel X) := by
  refine ok_onLst fun vs hi => ok_onLst fun ws hj => ?_
  have hu : X.A.units + 1 < cLine := Nat.lt_of_le_of_lt (Nat.add_le_add_right (Nat.le_trans (Nat.le_add_right _ _) (Nat.le_of_lt c.uni)) 1) (by decide)
  have yes : Ok P fm X D σ (compareOp .Eq x y) (.ok (.bool true) σ os [vs = ws ∧ ∀ v ∈ vs, flat1 v = true]) (VRel X) := by
    intro hc s r Q E hQ
    obtain ⟨e, hf⟩ := hc _ (.head _)
    obtain ⟨a, xs, m, rfl, e2, e3, _⟩ := lst_at r ha hi
    obtain ⟨b, ys, m', rfl, f2, f3, _⟩ := lst_at r hb hj
    subst e
    have hsz : xs.size = ys.size := by rw [← Array.length_toList, ← Array.length_toList, e3.length, f3.length]
    refine eq_listAt (e := fun _ => true) ⟨_, e2, rfl, m, rfl⟩ ⟨_, f2, rfl, m', rfl⟩ hsz (Nat.lt_trans (Nat.lt_succ_self _) hu) (fun j j1 j2 => ?_) (by rw [all_true]; exact hQ D s _ r (Gr.refl X D) .bool (Keep.refl s))
    obtain ⟨v, g1, hv, r1⟩ := vrs_at e3 j1
    obtain ⟨u, g2, _, r2⟩ := vrs_at f3 j2
    rw [g1] at g2
    rw [← Option.some.inj g2] at r2
    exact eqAt_flat1 r.N hu (hf v hv) r1 r2
  unfold eqVs
  obtain ⟨d, cs⟩ := os
  cases d with
  | nil => exact yes
  | cons a d =>
    cases a with
    | f =>
      intro hc s r Q E hQ
      have hne : vs.length ≠ ws.length := hc _ (.head _)
      obtain ⟨a, xs, m, rfl, e2, e3, _⟩ := lst_at r ha hi
      obtain ⟨b, ys, m', rfl, f2, f3, _⟩ := lst_at r hb hj
      refine eq_list_lengthsAt ⟨_, e2, rfl, m, rfl⟩ ⟨_, f2, rfl, m', rfl⟩ (bne_iff_ne.mpr fun q => hne ?_) (Nat.lt_trans (Nat.lt_succ_self _) hu) (hQ D s _ r (Gr.refl X D) .bool (Keep.refl s))
      rw [← e3.length, ← f3.length, Array.length_toList, Array.length_toList, q]
    | _ => exact yes
theorem ok_eqE {n : Nat} (c : Cx P fm n X) {a b : V} {x y : Value} (ha : VRel X a D x) (hb : VRel X b D y) : Ok P fm X D σ (compareOp .Eq x y) (eqE a b σ os) (VRel X) := by
  cases a with
  | int i => obtain ⟨t, rfl⟩ := VR.int' ha; exact ok_onInt hb fun j u => ok_same_pure fun Q E s _ k => PyProof.Rows.eq_int (k _ s.toks .bool)
  | str i =>
    obtain ⟨t, rfl⟩ := VR.str' ha
    cases b with
    | str j => obtain ⟨t, rfl⟩ := VR.str' hb; exact ok_same_pure fun Q E s _ k => eq_str (k _ s.toks .bool)
    | none => rw [VR.none' hb]; exact ok_same_pure fun Q E s _ k => EqNone.eq_str_none (k _ s.toks .bool)
    | _ => exact trivial
  | none =>
    rw [VR.none' ha]
    cases b with
    | str j => obtain ⟨t, rfl⟩ := VR.str' hb; exact ok_same_pure fun Q E s _ k => EqNone.eq_none_str (k _ s.toks .bool)
    | none => rw [VR.none' hb]; exact ok_same_pure fun Q E s _ k => EqNone.eq_none_none (k _ s.toks .bool)
    | _ => exact trivial
  | obj i => exact ok_onObj fun j e => by subst e; exact ok_eqLst c ha hb
  | _ => exact trivial
theorem ok_neE {n : Nat} (c : Cx P fm n X) {a b : V} {x y : Value} (ha : VRel X a D x) (hb : VRel X b D y) : Ok P fm X D σ (compareOp .NotEq x y) (neE a b σ os) (VRel X) := by
  cases a with
  | int i => obtain ⟨t, rfl⟩ := VR.int' ha; exact ok_onInt hb fun j u => ok_same_pure fun Q E s _ k => PyProof.Rows.ne_int (k _ s.toks .bool)
  | str i =>
    obtain ⟨t, rfl⟩ := VR.str' ha
    cases b with
    | str j => obtain ⟨t, rfl⟩ := VR.str' hb; exact ok_same_pure fun Q E s _ k => ne_str (k _ s.toks .bool)
    | none => rw [VR.none' hb]; exact ok_same_pure fun Q E s _ k => EqNone.ne_str_none (k _ s.toks .bool)
    | _ => exact trivial
  | _ => exact trivial
theorem eqs_strs {A : Around} {s : Shared} {base : Heap} {ad news} {y : Str} {t : Tok} {vs : List V} : ∀ {xs : List Value} {ss : List Str}, VRs base ad news vs xs → strsOf vs = some ss →
    ∃ e : Value → Bool, (∀ z ∈ xs, EqAt A s z (.str y t) (e z)) ∧ xs.any e = anyStr y ss := by
  intro xs ss h hs
  refine ⟨fun z => match z with | .str x _ => decide (x = y) | _ => false, ?_⟩
  induction vs generalizing xs ss with
  | nil => rw [h.nil', ← Option.some.inj hs]; exact ⟨fun _ h => (nomatch h), rfl⟩
  | cons v vs ih =>
    obtain ⟨x, xs, rfl, a, r⟩ := h.cons'
    cases v with
    | str z =>
      obtain ⟨u, rfl⟩ := VR.str' a
      obtain ⟨zs, hs', rfl⟩ := Option.map_eq_some_iff.mp hs
      obtain ⟨i1, i2⟩ := ih r hs'
      refine ⟨List.forall_mem_cons.mpr ⟨fun prog w E Q h => wpAny_eqBool_str h, i1⟩, ?_⟩
      rw [List.any_cons, i2]
      show (decide (z = y) || anyStr y zs) = ((z == y) || anyStr y zs)
      by_cases e : z = y
      · rw [decide_eq_true e, e, beq_self_eq_true]
      · rw [decide_eq_false e, beq_eq_false_iff_ne.mpr e]
    | _ => cases hs
theorem eqs_ints {A : Around} {s : Shared} {base : Heap} {ad news} {y : Int} {t : Tok} {vs : List V} : ∀ {xs : List Value} {ss : List Int}, VRs base ad news vs xs → intsOf vs = some ss →
    ∃ e : Value → Bool, (∀ z ∈ xs, EqAt A s z (.int y t) (e z)) ∧ xs.any e = anyInt y ss := by
  intro xs ss h hs
  refine ⟨fun z => match z with | .int x _ => x == y | _ => false, ?_⟩
  induction vs generalizing xs ss with
  | nil => rw [h.nil', ← Option.some.inj hs]; exact ⟨fun _ h => (nomatch h), rfl⟩
  | cons v vs ih =>
    obtain ⟨x, xs, rfl, a, r⟩ := h.cons'
    cases v with
    | int z =>
      obtain ⟨u, rfl⟩ := VR.int' a
      obtain ⟨zs, hs', rfl⟩ := Option.map_eq_some_iff.mp hs
      obtain ⟨i1, i2⟩ := ih r hs'
      refine ⟨List.forall_mem_cons.mpr ⟨fun prog w E Q h => wpAny_eqBool_int h, i1⟩, ?_⟩
      rw [List.any_cons, i2]; rfl
    | _ => cases hs
theorem in_tup {vs : List V} {x y : Value} {b : Bool} (hb : VRel X (.tup vs) D y) (h : ∀ (s : Shared) (xs : List Value), VRs X.base D.ad D.news vs xs → ∃ e : Value → Bool, (∀ z ∈ xs, EqAt X.A.in1 s z x (e z)) ∧ xs.any e = b) :
    Ok P fm X D σ (compareOp .In x y) ((pure (.bool b) : Ev V) σ os) (VRel X) ∧ Ok P fm X D σ (compareOp .NotIn x y) ((pure (.bool (!b)) : Ev V) σ os) (VRel X) := by
  obtain ⟨a, ys, nb, d', sl', rfl, f1, f4⟩ := VR.tup' hb
  have key : ∀ s : Shared, ∃ e : Value → Bool, (∀ z, z ∈ ys → EqAt X.A.in1 s z x (e z)) ∧ ys.any e = b := fun s => by
    obtain ⟨e, he, hs⟩ := h s ys.toList f4
    exact ⟨e, fun z hz => he z (Array.mem_toList_iff.mpr hz), by rw [← Array.any_toList]; exact hs⟩
  constructor
  · exact ok_same_pure fun Q E s r k => by
      obtain ⟨e, he, rfl⟩ := key s
      exact in_tupleAt e ⟨_, r.N.get f1, rfl, _, rfl⟩ he (k _ s.toks .bool)
  · exact ok_same_pure fun Q E s r k => by
      obtain ⟨e, he, rfl⟩ := key s
      exact notIn_tupleAt e ⟨_, r.N.get f1, rfl, _, rfl⟩ he (k _ s.toks .bool)
theorem in_ints {b : V} {y : Value} {z : Int} {t : Tok} (hb : VRel X b D y) : Ok P fm X D σ (compareOp .In (.int z t) y) ((onInts b fun ns => pure (.bool (anyInt z ns)) : Ev V) σ os) (VRel X) ∧
    Ok P fm X D σ (compareOp .NotIn (.int z t) y) ((onInts b fun ns => pure (.bool (!(anyInt z ns))) : Ev V) σ os) (VRel X) := by
  cases b with
  | tup vs => exact ⟨ok_onSome fun ns hs => (in_tup hb fun s xs h => eqs_ints h hs).1, ok_onSome fun ns hs => (in_tup hb fun s xs h => eqs_ints h hs).2⟩
  | _ => exact ⟨trivial, trivial⟩
theorem ok_inE {a b : V} {x y : Value} (ha : VRel X a D x) (hb : VRel X b D y) : Ok P fm X D σ (compareOp .In x y) (inE a b σ os) (VRel X) := by
  cases a with
  | str z =>
    obtain ⟨t, rfl⟩ := VR.str' ha
    cases b with
    | str j => obtain ⟨t, rfl⟩ := VR.str' hb; exact ok_same_pure fun Q E s _ k => in_str (k _ s.toks .bool)
    | tup vs => exact ok_onSome fun ss hs => (in_tup hb fun s xs h => eqs_strs h hs).1
    | _ => exact trivial
  | int z =>
    obtain ⟨t, rfl⟩ := VR.int' ha
    exact (in_ints hb).1
  | _ => exact trivial
theorem ok_ninE {a b : V} {x y : Value} (ha : VRel X a D x) (hb : VRel X b D y) : Ok P fm X D σ (compareOp .NotIn x y) (ninE a b σ os) (VRel X) := by
  cases a with
  | str z =>
    obtain ⟨t, rfl⟩ := VR.str' ha
    cases b with
    | str j => obtain ⟨t, rfl⟩ := VR.str' hb; exact ok_same_pure fun Q E s _ k => notIn_str (k _ s.toks .bool)
    | tup vs => exact ok_onSome fun ss hs => (in_tup hb fun s xs h => eqs_strs h hs).2
    | _ => exact trivial
  | int z =>
    obtain ⟨t, rfl⟩ := VR.int' ha
    exact (in_ints hb).2
  | _ => exact trivial
theorem ok_cmp {n : Nat} (c : Cx P fm n X) {op : CmpOp} {a b : V} {x y : Value} (ha : VRel X a D x) (hb : VRel X b D y) : Ok P fm X D σ (compareOp op x y) (cmpOp P.K op a b σ os) (VRel X) := by
  cases op with
  | Is =>
    refine ok_onSome fun r h => ok_same_pure fun Q E s r' k => ?_
    rcases isV_is ha hb h with ⟨h1, h2⟩ | ⟨i, j, rfl, rfl, ⟨rfl, rfl⟩ | ⟨rfl, hne, oi, oj, hi, hj, hc⟩⟩
    · exact wpAny_is_plain h1 (k _ s.toks (h2 ▸ .bool))
    · exact wpAny_is_ref_self (k _ s.toks .bool)
    · exact wpAny_is_ref_other hne (c.kin.keeps r'.F.keep _ _ hi) (c.kin.keeps r'.F.keep _ _ hj) hc (k _ s.toks .bool)
  | IsNot =>
    refine ok_onSome fun r h => ok_same_pure fun Q E s r' k => ?_
    rcases isV_is ha hb h with ⟨h1, h2⟩ | ⟨i, j, rfl, rfl, ⟨rfl, rfl⟩ | ⟨rfl, hne, oi, oj, hi, hj, hc⟩⟩
    · exact wpAny_isNot_plain h1 (k _ s.toks (h2 ▸ .bool))
    · exact wpAny_isNot_ref_self (k _ s.toks .bool)
    · exact wpAny_isNot_ref_other hne (c.kin.keeps r'.F.keep _ _ hi) (c.kin.keeps r'.F.keep _ _ hj) hc (k _ s.toks .bool)
  | Eq => exact ok_eqE c ha hb
  | NotEq => exact ok_neE c ha hb
  | Lt => exact ok_onInt (T := fun x => compareOp .Lt x y) ha fun i t => ok_onInt hb fun j u => ok_same_pure fun Q E s _ k => PyProof.Rows.lt_int (k _ s.toks .bool)
  | LtE => exact ok_onInt (T := fun x => compareOp .LtE x y) ha fun i t => ok_onInt hb fun j u => ok_same_pure fun Q E s _ k => PyProof.Rows.le_int (k _ s.toks .bool)
  | Gt => exact ok_onInt (T := fun x => compareOp .Gt x y) ha fun i t => ok_onInt hb fun j u => ok_same_pure fun Q E s _ k => PyProof.Rows.gt_int (k _ s.toks .bool)
  | GtE => exact ok_onInt (T := fun x => compareOp .GtE x y) ha fun i t => ok_onInt hb fun j u => ok_same_pure fun Q E s _ k => PyProof.Rows.ge_int (k _ s.toks .bool)
  | In => exact ok_inE ha hb
  | NotIn => exact ok_ninE ha hb
theorem ok_addE {a b : V} {x y : Value} (ha : VRel X a D x) (hb : VRel X b D y) : Ok P fm X D σ (binaryOp .Add x y) (addE a b σ os) (VRel X) := by
  cases a with
  | int i => obtain ⟨t, rfl⟩ := VR.int' ha; exact ok_onInt hb fun j u => ok_same_pure fun Q E s _ k => PyProof.Rows.add_int (k _ _ .int)
  | str i => obtain ⟨t, rfl⟩ := VR.str' ha; exact ok_onStr hb fun j u => ok_need fun os' hp => ok_same_pure fun Q E s _ k => PyProof.Rows.add_str (fun t' tk => k _ _ .str) hp
  | _ => exact trivial
theorem ok_subE {a b : V} {x y : Value} (ha : VRel X a D x) (hb : VRel X b D y) : Ok P fm X D σ (binaryOp .Sub x y) ((onInt a fun x => onInt b fun y => pure (.int (x - y)) : Ev V) σ os) (VRel X) :=
  ok_onInt (T := fun x => binaryOp .Sub x y) ha fun i t => ok_onInt hb fun j u => ok_same_pure fun Q E s _ k => PyProof.Rows.sub_int (k _ _ .int)
theorem ok_modE {a b : V} {x y : Value} (ha : VRel X a D x) (hb : VRel X b D y) : Ok P fm X D σ (binaryOp .Mod x y) (modE a b σ os) (VRel X) :=
  ok_onInt (T := fun x => binaryOp .Mod x y) ha fun i t => ok_onInt hb fun j u => ok_dec fun b' os' e => by
    cases b' with
    | true => exact trivial
    | false => exact ok_same_pure fun Q E s _ k => mod_int' (beq_eq_false_iff_ne.mp e) (k _ _ .int)
end
end Mini
namespace Mini
open PySem PySem.W PySem.Calls PyProof.Rows
noncomputable def FRel (X : Fx) : Fl → Dy → Flow → Prop
  | .next, _, f => f = .next
  | .brk, _, f => f = .brk
  | .cont, _, f => f = .cont
  | .ret v, D, f => ∃ x, f = .ret x ∧ VRel X v D x
inductive KRel (X : Fx) : List (Str × V) → Dy → List (Str × Value) → Prop
  | nil {D} : KRel X [] D []
  | cons {n v x kw D ks} : VRel X v D x → KRel X kw D ks → KRel X ((n, v) :: kw) D ((n, x) :: ks)
noncomputable def VsRel (X : Fx) : List V → Dy → List Value → Prop := fun vs D xs => VRs X.base D.ad D.news vs xs
structure Lv where
  e : Fm → Expr → Ev V
  b : Fm → Expr → Ev Bool
  x : Fm → Stmt → Ev Fl
  call : Fm → V → List V → List (Str × V) → Ev V
  room : Nat
variable {α β γ δ : Type}
noncomputable def OkC (P : Pg) (fm : Fm) (X : Fx) (D : Dy) (σ : St) (c : Code) (r : Res α) (R : α → Dy → Flow → Prop) : Prop :=
  match r with
  | .ok a σ' _ cs => (∀ p ∈ cs, p) → ∀ s, Rp P fm X D σ s.heap → ∀ (K : Result → Shared → Prop), (∀ D' s' x, Rp P fm X D' σ' s'.heap → Gr X D D' → R a D' x → Keep s s' → K (.ok x) s') → codeAny (model P.prog P.w) X.A c K s
  | .ex cls args σ' _ cs => (∀ p ∈ cs, p) → ∀ s, Rp P fm X D σ s.heap → ∀ (K : Result → Shared → Prop), (∀ D' s' e, ExAt P fm X D' σ' cls args e s' → Gr X D D' → Keep s s' → K (.error e) s') → codeAny (model P.prog P.w) X.A c K s
  | .no _ => True
noncomputable def RetRel (X : Fx) (D₀ : Dy) : V → Dy → Flow → Prop := fun v D f => (∃ x, f = .ret x ∧ VRel X v D x) ∧ D.m = D₀.m
structure Snd (P : Pg) (n : Nat) (lv : Lv) : Prop where
  e : ∀ fm X D σ os e, Cx P fm n X → Ok P fm X D σ (eval e (envAt fm X)) (lv.e fm e σ os) (VRel X)
  b : ∀ fm X D σ os e, Cx P fm n X → Ok P fm X D σ (isTrue e (envAt fm X) (eval e (envAt fm X))) (lv.b fm e σ os) BRel
  x : ∀ fm X D σ os s, Cx P fm n X → Ok P fm X D σ (exec s (envAt fm X)) (lv.x fm s σ os) (FRel X)
  call : ∀ fm X D σ os f g args xs kw ks, Cx P fm n X → VRel X f D g → VsRel X args D xs → KRel X kw D ks → OkC P fm X D σ (.call g ⟨xs, ks⟩) (lv.call fm f args kw σ os) (RetRel X D)
  room : lv.room ≤ n
theorem Cx.le {P : Pg} {fm : Fm} {n k : Nat} {X : Fx} (c : Cx P fm n X) (h : k ≤ n) : Cx P fm k X :=
  ⟨c.hk, c.hA, c.B, Nat.lt_of_le_of_lt (Nat.add_le_add_left h _) c.dep, Nat.lt_of_le_of_lt (Nat.add_le_add_left (Nat.mul_le_mul_left 20 h) _) c.uni, c.hh, c.kin, c.top⟩
theorem Cx.less {P : Pg} {fm : Fm} {n : Nat} {X : Fx} (c : Cx P fm (n + 1) X) : Cx P fm n X := c.le (Nat.le_succ n)
section
variable {P : Pg} {fm : Fm} {X : Fx} {D : Dy} {σ : St} {os : Os} {n : Nat} {lv : Lv}
theorem rel_mono {v : V} {x : Value} {D' : Dy} (h : VRel X v D x) (g : Gr X D D') : VRel X v D' x := VR.mono g h
theorem rels_mono {v : List V} {x : List Value} {D' : Dy} (h : VsRel X v D x) (g : Gr X D D') : VsRel X v D' x := VRs.mono g h
theorem krel_mono {D' : Dy} (g : Gr X D D') {kw : List (Str × V)} {ks : List (Str × Value)} (h : KRel X kw D ks) : KRel X kw D' ks := by
  induction h with
  | nil => exact .nil
  | cons h _ ih => exact .cons (rel_mono h g) (ih g)
theorem ok_call {c : Code} {r : Res V} (h : OkC P fm X D σ c r (RetRel X D)) : Ok P fm X D σ (runValue c) r (VRel X) := by
  cases r with
  | no w => exact trivial
  | ex cls args σ' os c => exact fun hc s hs Q E hE hQ => wpAny_runValue (h hc s hs _ fun D' s' e x g k => hQ D' s' e x g k)
  | ok a σ' os c => exact fun hc s hs Q E hQ => wpAny_runValue (h hc s hs _ fun D' s' f r g q k => by obtain ⟨⟨x, rfl, q⟩, _⟩ := q; exact hQ D' s' x r g q k)
theorem ok_release {vs keep : List Value} {t : Sem β} {r : Res α} {R : α → Dy → β → Prop} (h : Ok P fm X D σ t r R) : Ok P fm X D σ (release vs keep >>= fun _ => t) r R :=
  ok_of h fun Q E s _ z => by
    refine wpAny_bind ?_
    exact wpAny_release' z
noncomputable def constE : Const → Ev V
  | .none => pure .none
  | .bool b => pure (.bool b)
  | .int i => pure (.int i)
  | .str s => pure (.str s)
  | _ => fail "const"
theorem ok_const {env : Env} (c : Const) : Ok P fm X D σ (constValue env c) (constE c σ os) (VRel X) := by
  cases c with
  | none => exact ok_pure .none
  | bool b => exact ok_pure .bool
  | int i => exact ok_same_pure fun Q E s _ k => wpAny_mkInt (k _ _ .int)
  | str s => exact ok_same_pure fun Q E s _ k => wpAny_mkText (k _ _ .str)
  | float _ => exact trivial
  | bytes _ => exact trivial
  | ellipsis => exact trivial
  | complex _ _ => exact trivial
noncomputable def locE (x : Str) : Ev V := fun σ os => match σ.loc.lookup x with
  | some v => .ok v σ os []
  | none => .no "unbound"
noncomputable def globE (P : Pg) (x : Str) : Ev V := onSome (nsIn P.K mainGlobals x) fun o => match o with
  | some v => pure (.stat v)
  | none => if x == ("__name__" : Str) then fail "name" else onSome (bootBuiltins x) fun v => pure (.stat v)
noncomputable def nameE (P : Pg) (fm : Fm) (x : Str) : Ev V := if x == ("__debug__" : Str) then fail "name" else
  match fm.scope.names.lookup x with
  | some k => (match k with
    | .local => locE x
    | .cell => locE x
    | .globalImplicit => globE P x
    | _ => fail "kind")
  | none => fail "kind"
theorem ok_locE {t : Sem Value} {x : Str} (h : ∀ v, σ.loc.lookup x = some v → ∀ (Q : Value → Shared → Prop) (E : Value → Shared → Prop) s, Rp P fm X D σ s.heap → (∀ y tk, VRel X v D y → Q y { s with toks := tk }) → LR fm.scope X.cl D.m X.base D.ad D.news x v → wpAny (model P.prog P.w) X.A t Q E s) :
    Ok P fm X D σ t (locE x σ os) (VRel X) := by
  unfold locE
  cases hv : σ.loc.lookup x with
  | none => exact trivial
  | some v => exact ok_same_pure (a := v) (os := os) fun Q E s r k => h v hv Q E s r k (r.loc x v hv)
theorem ok_name (c : Cx P fm n X) (x : Str) (pos : Pos) : Ok P fm X D σ (eval (.Name x pos) (envAt fm X)) (nameE P fm x σ os) (VRel X) := by
  unfold nameE
  by_cases hd : (x == ("__debug__" : Str)) = true
  · rw [if_pos hd]; exact trivial
  rw [if_neg hd]
  have hd := eq_false_of_ne_true hd
  cases hx : fm.scope.names.lookup x with
  | none => exact trivial
  | some kd =>
    cases kd with
    | «local» =>
        refine ok_locE fun v hv Q E s r k hl => ?_
        rcases hl with ⟨_, y, hy, hr⟩ | ⟨hk, _⟩
        · exact nameX_L r.F hy (k y s.toks hr) c.hk hx hd
        · rw [hx] at hk; rcases hk with hk | hk <;> cases hk
    | cell =>
        refine ok_locE fun v hv Q E s r k hl => ?_
        rcases hl with ⟨hk, _⟩ | ⟨_, cc, o, y, hc, hm, ho, hr⟩
        · rw [hx] at hk; cases hk
        · exact nameX_C r.N hc hm ho (k y s.toks hr) c.hk hx hd
    | globalImplicit =>
        refine ok_onSome fun o hv => ?_
        cases o with
        | some v => exact ok_same_pure (a := V.stat v) (os := os) fun Q E s r k => nameX_K r.F c.kin c.top hv (k _ s.toks .stat) c.hk hx hd
        | none =>
          show Ok P fm X D σ _ ((if x == ("__name__" : Str) then fail "name" else onSome (bootBuiltins x) fun v => pure (.stat v) : Ev V) σ os) (VRel X)
          by_cases hn : (x == ("__name__" : Str)) = true
          · rw [if_pos hn]; exact trivial
          · rw [if_neg hn]
            exact ok_onSome fun v hb => ok_same_pure (a := V.stat v) (os := os) fun Q E s r k => nameX_B r.F c.kin c.top hv hb (beq_eq_false_iff_ne.mp (eq_false_of_ne_true hn)) (k _ s.toks .stat) c.hk hx hd
    | _ => exact trivial
noncomputable def starred : Expr → Bool
  | .Starred _ _ => true
  | _ => false
theorem starEach_cons {e : Expr} {r : List Expr} (h : starred e = false) (env : Env) : starEach (e :: r) env = (false, eval e env) :: starEach r env := by
  cases e with
  | Starred a b => cases h
  | _ => rfl
noncomputable def exprsE (lv : Lv) (fm : Fm) : List Expr → Ev (List V)
  | [] => pure []
  | e :: r => if starred e then fail "star" else do
    let v ← lv.e fm e
    let vs ← exprsE lv fm r
    pure (v :: vs)
theorem backTo_cons (pos : Pos) (t : Sem Value) (l : List (Bool × Sem Value)) : backTo pos ((false, t) :: l) = (false, t) :: backTo pos l := rfl
theorem ok_exprs (S : Snd P n lv) (c : Cx P fm n X) (pos : Pos) (es : List Expr) : ∀ (D : Dy) (σ : St) (os : Os), Ok P fm X D σ (spliced (backTo pos (starEach es (envAt fm X)))) (exprsE lv fm es σ os) (VsRel X) := by
  induction es with
  | nil => exact fun D σ os => ok_pure VRs.nil
  | cons e r ih =>
    intro D σ os
    unfold exprsE
    by_cases hs : starred e = true
    · rw [if_pos hs]; exact trivial
    · rw [if_neg hs, starEach_cons (eq_false_of_ne_true hs), backTo_cons, spliced]
      refine ok_bind (S.e fm X D σ os e c) fun v σ₁ os₁ D₁ x g₁ r₁ => ?_
      rw [if_neg (fun h => nomatch h)]
      exact ok_of (ok_bind (ok_holding (ih D₁ σ₁ os₁)) fun vs σ₂ os₂ D₂ xs g₂ r₂ => ok_pure (R := VsRel X) (b := x :: xs) (VRs.cons (rel_mono r₁ g₂) r₂)) fun Q E s _ z => wpAny_bind (wpAny_pure z)
noncomputable def boolE (lv : Lv) (fm : Fm) (op : BoolOp) : List Expr → Ev V
  | [] => fail "bool"
  | [e] => lv.e fm e
  | e :: r => do
    let v ← lv.e fm e
    let b ← truth v
    if (← dec b) == (op == .Or) then pure v else boolE lv fm op r
theorem ok_boolOp (S : Snd P n lv) (c : Cx P fm n X) (pos : Pos) (op : BoolOp) : ∀ (es : List Expr) (D : Dy) (σ : St) (os : Os), Ok P fm X D σ (boolOp pos op (evalEach es (envAt fm X))) (boolE lv fm op es σ os) (VRel X)
  | [], D, σ, os => trivial
  | [e], D, σ, os => S.e fm X D σ os e c
  | e :: e' :: r, D, σ, os => by
    rw [arm_evalEach_cons]
    show Ok P fm X D σ (eval e (envAt fm X) >>= fun v => standAt pos >>= fun _ => holding [v] (truthy v) >>= fun t => match op, t with
      | .And, false | .Or, true => pure v
      | _, _ => boolOp pos op (evalEach (e' :: r) (envAt fm X))) ((do let v ← lv.e fm e; let b ← truth v; if (← dec b) == (op == .Or) then pure v else boolE lv fm op (e' :: r) : Ev V) σ os) (VRel X)
    refine ok_bind (S.e fm X D σ os e c) fun v σ₁ os₁ D₁ x g₁ r₁ => ok_standAt (ok_bind (ok_holding (ok_truth r₁)) fun b σ₂ os₂ D₂ t g₂ r₂ => ok_dec fun b' os' e => ?_)
    have ht : t = b' := (show t = b from r₂).trans e
    rw [ht]
    cases op <;> cases b'
    · exact ok_pure (rel_mono r₁ g₂)
    · exact ok_boolOp S c pos .And (e' :: r) D₂ σ₂ os'
    · exact ok_boolOp S c pos .Or (e' :: r) D₂ σ₂ os'
    · exact ok_pure (rel_mono r₁ g₂)
noncomputable def allE (lv : Lv) (fm : Fm) (op : BoolOp) : List Expr → Ev Bool
  | [] => pure (op == .And)
  | e :: r => do
    let b ← lv.b fm e
    let d ← dec b
    if d == (op == .Or) then pure d else allE lv fm op r
theorem ok_all (S : Snd P n lv) (c : Cx P fm n X) (op : BoolOp) : ∀ (es : List Expr) (D : Dy) (σ : St) (os : Os), Ok P fm X D σ (allTrue op es (envAt fm X)) (allE lv fm op es σ os) BRel
  | [], D, σ, os => ok_pure rfl
  | e :: r, D, σ, os => by
    rw [arm_allTrue_cons]
    refine ok_bind (S.b fm X D σ os e c) fun b σ₁ os₁ D₁ t g₁ r₁ => ok_dec fun b' os' e => ?_
    have ht : t = b' := (show t = b from r₁).trans e
    rw [ht]
    cases op <;> cases b'
    · exact ok_pure rfl
    · exact ok_all S c .And r D₁ σ₁ os'
    · exact ok_all S c .Or r D₁ σ₁ os'
    · exact ok_pure rfl
noncomputable def chainE (K : Frag) (lv : Lv) (fm : Fm) : List CmpOp → V → List Expr → Ev V
  | [], _, _ => fail "chain"
  | op :: ops, a, es => match es with
    | [] => fail "chain"
    | e :: r => match ops with
      | [] => (match r with
        | [] => do
          let b ← lv.e fm e
          cmpOp K op a b
        | _ :: _ => fail "chain")
      | _ :: _ => match r with
        | [] => fail "chain"
        | _ :: _ => do
          let b ← lv.e fm e
          let r' ← cmpOp K op a b
          let t ← truth r'
          if ← dec t then chainE K lv fm ops b r else pure r'
theorem ok_operate {vs : List Value} {t : Sem Value} {r : Res V} (h : Ok P fm X D σ t r (VRel X)) : Ok P fm X D σ (operate vs t) r (VRel X) :=
  ok_of h fun Q E s _ z => wpAny_operating z
theorem ok_chain (S : Snd P n lv) (c : Cx P fm n X) (pos : Pos) (ops : List CmpOp) : ∀ (es : List Expr) (a : V) (x : Value) (D : Dy) (σ : St) (os : Os), VRel X a D x →
    Ok P fm X D σ (compareChain pos x ops (evalEach es (envAt fm X))) (chainE P.K lv fm ops a es σ os) (VRel X) := by
  induction ops with
  | nil => exact fun _ _ _ _ _ _ _ => trivial
  | cons op ops ih =>
    intro es a x D σ os ha
    cases es with
    | nil => exact trivial
    | cons e r =>
      cases ops with
      | nil =>
        cases r with
        | cons _ _ => exact trivial
        | nil =>
          show Ok P fm X D σ (holding [x] (eval e (envAt fm X)) >>= fun rv => standAt pos >>= fun _ => operate [x, rv] (compareOp op x rv)) ((do let b ← lv.e fm e; cmpOp P.K op a b : Ev V) σ os) (VRel X)
          exact ok_bind (ok_holding (S.e fm X D σ os e c)) fun b σ₁ os₁ D₁ y g₁ r₁ => ok_standAt (ok_operate (ok_cmp c (rel_mono ha g₁) r₁))
      | cons op' ops =>
        cases r with
        | nil => exact trivial
        | cons e' es =>
          show Ok P fm X D σ (holding [x] (eval e (envAt fm X)) >>= fun rv => standAt pos >>= fun _ => holding [x, rv] (compareOp op x rv) >>= fun cc => release [x, rv] [cc] >>= fun _ => holding [cc, rv] (truthy cc) >>= fun t => if t then compareChain pos rv (op' :: ops) (evalEach (e' :: es) (envAt fm X)) else pure cc)
            ((do let b ← lv.e fm e; let r ← cmpOp P.K op a b; let t ← truth r; if ← dec t then chainE P.K lv fm (op' :: ops) b (e' :: es) else pure r : Ev V) σ os) (VRel X)
          refine ok_bind (ok_holding (S.e fm X D σ os e c)) fun b σ₁ os₁ D₁ y g₁ r₁ => ok_standAt (ok_bind (ok_holding (ok_cmp c (rel_mono ha g₁) r₁)) fun r σ₂ os₂ D₂ z g₂ r₂ => ok_release (ok_bind (ok_holding (ok_truth r₂)) fun t σ₃ os₃ D₃ w g₃ r₃ => ok_dec fun b' os' e => ?_))
          rw [show w = b' from (show w = t from r₃).trans e]
          cases b'
          · exact ok_pure (rel_mono r₂ g₃)
          · exact ih (e' :: es) b y D₃ σ₃ os' (rel_mono r₁ (g₂.trans g₃))
end
end Mini
namespace Mini
open PySem PySem.W PySem.Calls PyProof.Rows
variable {α β γ δ : Type}
section
variable {P : Pg} {fm : Fm} {X : Fx} {D : Dy} {σ : St} {os : Os} {n : Nat} {lv : Lv}
theorem ok_bind_of {T : Sem δ} {t : Sem β} {f : β → Sem δ} {m : Ev α} {k : α → Ev γ} {R : α → Dy → β → Prop} {R' : γ → Dy → δ → Prop}
    (e : ∀ (Q : δ → Shared → Prop) (E : Value → Shared → Prop) s, Rp P fm X D σ s.heap → wpAny (model P.prog P.w) X.A t (fun a s₁ => (∃ D₁ σ₁, Rp P fm X D₁ σ₁ s₁.heap ∧ Gr X D D₁) ∧ wpAny (model P.prog P.w) X.A (f a) Q E s₁) E s → wpAny (model P.prog P.w) X.A T Q E s)
    (h : Ok P fm X D σ t (m σ os) R) (h' : ∀ a σ₁ os₁ D₁ x, Gr X D D₁ → R a D₁ x → Ok P fm X D₁ σ₁ (f x) (k a σ₁ os₁) R') : Ok P fm X D σ T ((m >>= k) σ os) R' := by
  show Ok P fm X D σ T (Ev.bind m k σ os) R'
  unfold Ev.bind
  cases hm : m σ os with
  | no w => exact trivial
  | ex cls args σ₁ os₁ c =>
    rw [hm] at h
    intro hc s hs Q E hE hQ
    exact e Q E s hs (h hc s hs _ E hE hQ)
  | ok a σ₁ os₁ c =>
    rw [hm] at h
    dsimp only
    cases hk : k a σ₁ os₁ with
    | no w => exact trivial
    | ex cls args σ₂ os₂ d =>
      intro hc s hs Q E hE hQ
      refine e Q E s hs (h (fun p hp => hc p (List.mem_append_left _ hp)) s hs _ E fun D₁ s₁ x r₁ g₁ q₁ k₁ => ?_)
      have h2 := h' a σ₁ os₁ D₁ x g₁ q₁
      rw [hk] at h2
      exact ⟨⟨D₁, σ₁, r₁, g₁⟩, h2 (fun p hp => hc p (List.mem_append_right _ hp)) s₁ r₁ Q E hE fun D₂ s₂ e x₂ g₂ k₂ => hQ D₂ s₂ e x₂ (g₁.trans g₂) (k₁.trans k₂)⟩
    | ok b σ₂ os₂ d =>
      intro hc s hs Q E hQ
      refine e Q E s hs (h (fun p hp => hc p (List.mem_append_left _ hp)) s hs _ E fun D₁ s₁ x r₁ g₁ q₁ k₁ => ?_)
      have h2 := h' a σ₁ os₁ D₁ x g₁ q₁
      rw [hk] at h2
      exact ⟨⟨D₁, σ₁, r₁, g₁⟩, h2 (fun p hp => hc p (List.mem_append_right _ hp)) s₁ r₁ Q E fun D₂ s₂ y r₂ g₂ q₂ k₂ => hQ D₂ s₂ y r₂ (g₁.trans g₂) q₂ (k₁.trans k₂)⟩
theorem Rp.kin {h : Heap} (c : Cx P fm n X) (r : Rp P fm X D σ h) : P.K.In h := c.kin.keeps r.F.keep
noncomputable def testE (K : Frag) (lv : Lv) (fm : Fm) : List CmpOp → V → List Expr → Ev Bool
  | [], _, _ => fail "chain"
  | op :: ops, a, es => match es with
    | [] => fail "chain"
    | e :: r => match ops with
      | [] => (match r with
        | [] => do
          let b ← lv.e fm e
          let r ← cmpOp K op a b
          truth r
        | _ :: _ => fail "chain")
      | _ :: _ => match r with
        | [] => fail "chain"
        | _ :: _ => do
          let b ← lv.e fm e
          let r' ← cmpOp K op a b
          let t ← truth r'
          if ← dec t then testE K lv fm ops b r else pure false
theorem ok_test (S : Snd P n lv) (c : Cx P fm n X) (pos : Pos) (ops : List CmpOp) : ∀ (es : List Expr) (a : V) (x : Value) (D : Dy) (σ : St) (os : Os), VRel X a D x →
    Ok P fm X D σ (testChain pos x ops (evalEach es (envAt fm X))) (testE P.K lv fm ops a es σ os) BRel := by
  induction ops with
  | nil => exact fun _ _ _ _ _ _ _ => trivial
  | cons op ops ih =>
    intro es a x D σ os ha
    cases es with
    | nil => exact trivial
    | cons e r =>
      cases ops with
      | nil =>
        cases r with
        | cons _ _ => exact trivial
        | nil =>
          show Ok P fm X D σ (holding [x] (eval e (envAt fm X)) >>= fun rv => standAt pos >>= fun _ => operate [x, rv] (compareOp op x rv) >>= fun cc => holding [cc] (truthy cc)) ((do let b ← lv.e fm e; let r ← cmpOp P.K op a b; truth r : Ev Bool) σ os) BRel
          exact ok_bind (ok_holding (S.e fm X D σ os e c)) fun b σ₁ os₁ D₁ y g₁ r₁ => ok_standAt (ok_bind (ok_operate (ok_cmp c (rel_mono ha g₁) r₁)) fun r σ₂ os₂ D₂ z g₂ r₂ => ok_holding (ok_truth r₂))
      | cons op' ops =>
        cases r with
        | nil => exact trivial
        | cons e' es =>
          show Ok P fm X D σ (holding [x] (eval e (envAt fm X)) >>= fun rv => standAt pos >>= fun _ => holding [x, rv] (compareOp op x rv) >>= fun cc => release [x, rv] [cc] >>= fun _ => holding [cc, rv] (truthy cc) >>= fun t => if t then testChain pos rv (op' :: ops) (evalEach (e' :: es) (envAt fm X)) else pure false)
            ((do let b ← lv.e fm e; let r ← cmpOp P.K op a b; let t ← truth r; if ← dec t then testE P.K lv fm (op' :: ops) b (e' :: es) else pure false : Ev Bool) σ os) BRel
          refine ok_bind (ok_holding (S.e fm X D σ os e c)) fun b σ₁ os₁ D₁ y g₁ r₁ => ok_standAt (ok_bind (ok_holding (ok_cmp c (rel_mono ha g₁) r₁)) fun r σ₂ os₂ D₂ z g₂ r₂ => ok_release (ok_bind (ok_holding (ok_truth r₂)) fun t σ₃ os₃ D₃ w g₃ r₃ => ok_dec fun b' os' e => ?_))
          rw [show w = b' from (show w = t from r₃).trans e]
          cases b'
          · exact ok_pure rfl
          · exact ih (e' :: es) b y D₃ σ₃ os' (rel_mono r₁ (g₂.trans g₃))
noncomputable def handS : Value → Bool
  | .builtin _ => false
  | _ => true
noncomputable def handV : V → Bool
  | .stat v => handS v
  | _ => true
theorem handS_is {x : Value} (e : handS x = true) : handedIn x = true := by
  cases x with
  | builtin i => cases e
  | _ => rfl
theorem handed {v : V} {x : Value} (h : VRel X v D x) (e : handV v = true) : handedIn x = true := by
  cases h with
  | stat => exact handS_is e
  | _ => rfl
noncomputable def refO : Option Value → Option Addr
  | none => none
  | some v => match v with
    | .ref p => some p
    | _ => none
theorem refO_is {o : Option Value} {p : Addr} (h : refO o = some p) : o = some (.ref p) := by
  cases o with
  | none => cases h
  | some v =>
    cases v with
    | ref q => rw [Option.some.inj h]
    | _ => cases h
noncomputable def ownGet (K : Frag) (C : Addr) (x : Str) : Bool := plainGet K C x && (hasDictIn K C && (match findIn K (.ref C) x with
  | some attr => noGet K attr
  | none => false))
noncomputable def propGet (K : Frag) (C : Addr) (x : Str) : Option Addr := if plainGet K C x && hasDictIn K C then
    (findIn K (.ref C) x).bind fun o => (refO o).bind fun p => if specialIn K (.ref p) "__get__" == some (some (.builtin "property.__get__")) && takesIn K (.ref p) == some true then (recIn K p "property").bind fun l => refO l.head? else none
  else none
theorem ownGet_is {K : Frag} {C : Addr} {x : Str} (h : ownGet K C x = true) : plainGet K C x = true ∧ hasDictIn K C = true ∧ ∃ attr, findIn K (.ref C) x = some attr ∧ noGet K attr = true := by
  obtain ⟨a, h⟩ := band h
  obtain ⟨b, h⟩ := band h
  refine ⟨a, b, ?_⟩
  cases e : findIn K (.ref C) x with
  | none => rw [e] at h; cases h
  | some attr => rw [e] at h; exact ⟨_, rfl, h⟩
theorem propGet_is {K : Frag} {C f : Addr} {x : Str} (h : propGet K C x = some f) : plainGet K C x = true ∧ hasDictIn K C = true ∧ ∃ p rest, findIn K (.ref C) x = some (some (.ref p)) ∧ specialIn K (.ref p) "__get__" = some (some (.builtin "property.__get__")) ∧ takesIn K (.ref p) = some true ∧ recIn K p "property" = some (.ref f :: rest) := by
  unfold propGet at h
  split at h
  · rename_i hc
    obtain ⟨a, b⟩ := band hc
    obtain ⟨o, h1, h⟩ := Option.bind_eq_some_iff.mp h
    obtain ⟨p, h2, h⟩ := Option.bind_eq_some_iff.mp h
    split at h
    · rename_i hc
      obtain ⟨d, e⟩ := band hc
      obtain ⟨l, h3, h⟩ := Option.bind_eq_some_iff.mp h
      refine ⟨a, b, p, l.tail, by rw [h1, refO_is h2], beq_iff_eq.mp d, beq_iff_eq.mp e, ?_⟩
      cases l with
      | nil => cases h
      | cons y r => rw [h3, Option.some.inj (refO_is h)]; rfl
    · cases h
  · cases h
noncomputable def noEx (m : Ev α) : Ev α := fun σ os => match m σ os with
  | .ok a σ' os' c => .ok a σ' os' c
  | .ex _ _ _ _ _ => .no "raised"
  | .no w => .no w
noncomputable def getA (P : Pg) (lv : Lv) (fm : Fm) (o : V) (x : Str) : Ev V := onObj o fun n => onInst n fun C es =>
  if ownGet P.K C x then onSome (es.lookup x) fun v => iff (handV v) (pure v)
  else onSome (propGet P.K C x) fun f => do let v ← noEx (lv.call fm (.stat (.ref f)) [.obj n] []); iff (handV v) (pure v)
noncomputable def inA (X : Fx) : Fx := { X with A := X.A.in1 }
theorem Cx.in1 (c : Cx P fm (n + 1) X) : Cx P fm n (inA X) := ⟨c.hk, c.hA, c.B, c.less.dep, Nat.lt_of_le_of_lt (by
  rw [Nat.mul_succ, ← Nat.add_assoc, show (inA X).A.units = X.A.units + 1 from rfl, Nat.add_right_comm]
  exact Nat.add_le_add_left (by decide) _) c.uni, c.hh, c.kin, c.top⟩
theorem Rp.inA {h : Heap} (r : Rp P fm X D σ h) : Rp P fm (inA X) D σ h := ⟨r.F, r.N, r.nd, r.len, r.dis, r.loc, r.cel, r.inj, r.hp⟩
theorem Rp.outA {h : Heap} (r : Rp P fm (Mini.inA X) D σ h) : Rp P fm X D σ h := ⟨r.F, r.N, r.nd, r.len, r.dis, r.loc, r.cel, r.inj, r.hp⟩
theorem Gr.outA {D' : Dy} (g : Gr (Mini.inA X) D D') : Gr X D D' := ⟨g.ad, g.nw⟩
theorem ok_getProp (S : Snd P n lv) (c : Cx P fm (n + 1) X) {i : Nat} {y : Value} (ho : VRel X (.obj i) D y) {C f : Addr} {es : List (Str × V)} (hi : σ.hp[i]? = some (.inst C es)) {x : Str} (hf : propGet P.K C x = some f) (expr : Bool) :
    Ok P fm X D σ (getAttr y x expr) ((do let v ← noEx (lv.call fm (.stat (.ref f)) [.obj i] []); iff (handV v) (pure v) : Ev V) σ os) (VRel X) := by
  obtain ⟨h1, h2, p, rest, h3, h4, h5, h6⟩ := propGet_is hf
  have hcall := S.call fm (inA X) D σ os (.stat (.ref f)) (.ref f) [.obj i] [y] [] [] c.in1 .stat (.cons ho .nil) .nil
  show Ok P fm X D σ _ (Ev.bind _ _ σ os) (VRel X)
  unfold Ev.bind noEx
  cases hm : lv.call fm (.stat (.ref f)) [.obj i] [] σ os with
  | no w => exact trivial
  | ex cls args σ₁ os₁ cs => exact trivial
  | ok v σ₁ os₁ cs =>
    rw [hm] at hcall
    dsimp only
    unfold iff
    cases hh : handV v with
    | false => exact trivial
    | true =>
      intro hc s r Q E hQ
      obtain ⟨a, cc, sl, ds, kk, e, I, hd, _⟩ := inst_at r ho hi
      rw [e] at hcall ⊢
      refine get_prop r.F c.kin I h1 h2 h3 h4 h5 h6 ?_
      refine hcall (fun p hp => hc p (List.mem_append_left _ hp)) { s with toks := s.toks + 1 } r.inA _ fun D' s' fl r' g q k => ?_
      obtain ⟨⟨z, rfl, hz⟩, _⟩ := q
      dsimp only
      rw [handedOut_of (handed (X := X) hz hh)]
      exact wpAny_pure (hQ D' s' z r'.outA g.outA hz ⟨k.os, k.gens⟩)
theorem ok_getA (S : Snd P n lv) (c : Cx P fm (n + 1) X) {o : V} {y : Value} (ho : VRel X o D y) (x : Str) (expr : Bool) : Ok P fm X D σ (getAttr y x expr) (getA P lv fm o x σ os) (VRel X) := by
  refine ok_onObj fun i e => ok_onInst fun C es hi => ?_
  subst e
  by_cases hw : ownGet P.K C x = true
  · rw [if_pos hw]
    refine ok_onSome fun v hv => ok_iff fun hh => ok_same_pure (a := v) (os := os) fun Q E s r k => ?_
    obtain ⟨h1, h2, attr, h3, h4⟩ := ownGet_is hw
    obtain ⟨a, cc, sl, ds, kk, e, I, hd, _⟩ := inst_at r ho hi
    rw [e]
    obtain ⟨z, hz, hr⟩ := hd.getL_some hv
    exact get_own r.F c.kin I h1 h2 h3 h4 hz (handed hr hh) (k z _ hr)
  · rw [if_neg hw]
    exact ok_onSome fun f hf => ok_getProp S c ho hi hf expr
noncomputable def setOk (P : Pg) (C : Addr) (x : Str) : Bool := findIn P.K (.ref C) "__setattr__" == some (some (.builtin "object.__setattr__")) && (plainOver P.K C && (takerIn P.K C x == some none && hasDictIn P.K C))
noncomputable def setA (P : Pg) (o : V) (x : Str) (v : V) : Ev Unit := onObj o fun n => onInst n fun C es => iff (setOk P C x) (iff (decide ((putV x v es).length ≤ 1000)) fun σ os =>
  .ok () ⟨σ.loc, σ.hp.set n (.inst C (putV x v es))⟩ os [])
theorem ok_setA (c : Cx P fm n X) {o v : V} {y z : Value} (ho : VRel X o D y) (hv : VRel X v D z) (x : Str) : Ok P fm X D σ (setAttr y x z) (setA P o x v σ os) (fun _ _ _ => True) := by
  refine ok_onObj fun i ei => ok_onInst fun C es hi => ok_iff fun hc => ok_iff fun h5 => ?_
  subst ei
  obtain ⟨h1, hc⟩ := band hc
  obtain ⟨h2, hc⟩ := band hc
  obtain ⟨h3, h4⟩ := band hc
  intro _ s r Q E hQ
  obtain ⟨a, cc, sl, ds, kk, e, I, hd, hx, hm, hp⟩ := inst_at r ho hi
  rw [e]
  have mv : Moves (dictOf ds kk) := ⟨notFixd (T := "dict") rfl (by decide), (fun v q => nomatch q), (fun q => nomatch q)⟩
  obtain ⟨news', U, a1, a2, a3⟩ := upd_exists (o' := dictOf (putL x (PyData.keyHash P.w.params x) (.str x (s.toks + 1)) z ds) (putN x ds kk)) r.nd hm
  have hd' : DR P.w.params X.base D.ad D.news (putV x v es) (putL x (PyData.keyHash P.w.params x) (.str x (s.toks + 1)) z ds) := hd.put hv _
  refine set_dict r.F c.kin r.N I rfl (beq_iff_eq.mp h1) h2 (beq_iff_eq.mp h3) h4 (hd.getL_isSome x) rfl U (by rw [hd'.len]; exact of_decide_eq_true h5) fun h' F' N' => ?_
  obtain ⟨r', g⟩ := r.change hp hm mv a2 a3 F' N' (lo := .inst C (putV x v es)) fun k1 g => ⟨⟨sl, k1 _ _ hx fun q => by
    have q : a = cc := q
    subst q
    exact nomatch congrArg Obj.cls (nodup_uniq r.nd hx hm)⟩, _, _, a1, hd'.mono g⟩
  exact hQ _ _ () r' g trivial ⟨rfl, rfl⟩
end
end Mini
namespace Mini
open PySem PySem.W PySem.Calls PyProof.Rows
variable {α β γ δ : Type}
section
variable {P : Pg} {fm : Fm} {X : Fx} {D : Dy} {σ : St} {os : Os} {n : Nat} {lv : Lv}
theorem unmap {M : Model} {A : Around} {E : Value → Shared → Prop} {s : Shared} {m : Sem β} {g : β → δ} {Q : δ → Shared → Prop} (h : wpAny M A (m >>= fun x => pure (g x)) Q E s) : wpAny M A m (fun x s => Q (g x) s) E s := fun Γ p hΓ => by
  have := h Γ p hΓ
  rw [Sem.wp_bind'] at this
  exact this
noncomputable def kwless (k : Keyword) : Bool := k.arg.isNone
noncomputable def kwsE (lv : Lv) (fm : Fm) : List Keyword → Ev (List (Str × V))
  | [] => pure []
  | k :: r => onSome k.arg fun x => do
    let v ← lv.e fm k.value
    let vs ← kwsE lv fm r
    pure ((x, v) :: vs)
noncomputable def argsE (lv : Lv) (fm : Fm) (args : List Expr) (kws : List Keyword) : Ev (List V × List (Str × V)) :=
  if args.any starred || kws.any kwless then fail "args" else do
    let vs ← exprsE lv fm args
    let ks ← kwsE lv fm kws
    pure (vs, ks)
theorem star_no (env : Env) (pos : Pos) {args : List Expr} (h : args.any starred = false) : (backTo pos (starEach args env)).any (·.1) = false := by
  induction args with
  | nil => rfl
  | cons e r ih =>
    rw [List.any_cons, Bool.or_eq_false_iff] at h
    rw [starEach_cons h.1, backTo_cons, List.any_cons, ih h.2]; rfl
theorem kw_no (env : Env) (pos : Pos) {kws : List Keyword} (h : kws.any kwless = false) : (backToKw pos (keywordEach kws env)).any (·.1.isNone) = false := by
  induction kws with
  | nil => rfl
  | cons k r ih =>
    obtain ⟨x, e, _⟩ := k
    rw [List.any_cons, Bool.or_eq_false_iff] at h
    show (x.isNone || (backToKw pos (keywordEach r env)).any (·.1.isNone)) = false
    rw [ih h.2, Bool.or_false]
    cases x with
    | none => cases h.1
    | some _ => rfl
theorem kw_all (env : Env) (pos : Pos) {kws : List Keyword} (h : kws.any kwless = false) : (backToKw pos (keywordEach kws env)).all (·.1.isSome) = true := by
  induction kws with
  | nil => rfl
  | cons k r ih =>
    obtain ⟨x, e, _⟩ := k
    rw [List.any_cons, Bool.or_eq_false_iff] at h
    show (x.isSome && (backToKw pos (keywordEach r env)).all (·.1.isSome)) = true
    rw [ih h.2, Bool.and_true]
    cases x with
    | none => cases h.1
    | some _ => rfl
theorem evalArgs_of {M : Model} {A : Around} {E : Value → Shared → Prop} {s : Shared} {Q : Args → Shared → Prop} (g : Value) {S : List (Bool × Sem Value)} {kws : List (Option Str × Sem Value)} (h0 : S.any (·.1) = false) (hall : kws.all (·.1.isSome) = true)
    (z : wpAny M A (spliced S) (fun vs s₁ => wpAny M A (evalAll (kws.map (·.2))) (fun ks s₂ => Q ⟨vs, (kws.filterMap (·.1)).zip ks⟩ s₂) E s₁) E s) : wpAny M A (evalArgs g true S kws) Q E s := by
  unfold evalArgs
  have fin : ∀ (T : Sem Args) (jp : List Value × Option Value → Sem Args), T = (spliced S >>= fun l => pure (l, none) >>= jp) → (∀ vs s₁, wpAny M A (evalAll (kws.map (·.2))) (fun ks s₂ => Q ⟨vs, (kws.filterMap (·.1)).zip ks⟩ s₂) E s₁ → wpAny M A (jp (vs, none)) Q E s₁) → wpAny M A T Q E s :=
    fun T jp e h => by rw [e]; exact wpAny_bind (wpAny_mono z (fun vs s₁ q => wpAny_bind (wpAny_pure (h vs s₁ q))) fun _ _ y => y)
  refine fin _ _ (by
    cases S with
    | nil => rfl
    | cons a r =>
      obtain ⟨b, t⟩ := a
      cases b with
      | true => cases h0
      | false => rfl) fun vs s₁ q => ?_
  refine wpAny_holding ?_
  dsimp only
  rw [if_pos hall]
  exact wpAny_bind (wpAny_mono q (fun ks s₂ h₂ => wpAny_bind (wpAny_pure (wpAny_pure h₂))) fun _ _ y => y)
theorem ok_kws (S : Snd P n lv) (c : Cx P fm n X) (pos : Pos) (kws : List Keyword) : ∀ (D : Dy) (σ : St) (os : Os),
    Ok P fm X D σ (evalAll ((backToKw pos (keywordEach kws (envAt fm X))).map (·.2))) (kwsE lv fm kws σ os) (fun ks D xs => KRel X ks D (((backToKw pos (keywordEach kws (envAt fm X))).filterMap (·.1)).zip xs)) := by
  induction kws with
  | nil => exact fun D σ os => ok_pure KRel.nil
  | cons k r ih =>
    intro D σ os
    obtain ⟨x, e, p⟩ := k
    cases x with
    | none => exact trivial
    | some x =>
      show Ok P fm X D σ ((eval e (envAt fm X) >>= fun v => standAt pos >>= fun _ => pure v) >>= fun v => holding [v] (evalAll ((backToKw pos (keywordEach r (envAt fm X))).map (·.2))) >>= fun vs => pure (v :: vs))
        ((do let v ← lv.e fm e; let vs ← kwsE lv fm r; pure ((x, v) :: vs) : Ev _) σ os) _
      refine ok_bind (R := VRel X) (ok_of (S.e fm X D σ os e c) fun Q E s _ z => wpAny_bind (wpAny_mono z (fun _ _ q => wpAny_bind (wpAny_standAt (wpAny_pure q))) fun _ _ y => y)) fun v σ₁ os₁ D₁ y g₁ r₁ => ?_
      exact ok_bind (ok_holding (ih D₁ σ₁ os₁)) fun ks σ₂ os₂ D₂ xs g₂ r₂ => ok_pure (R := fun ks D xs => KRel X ks D (((backToKw pos (keywordEach (⟨some x, e, p⟩ :: r) (envAt fm X))).filterMap (·.1)).zip xs)) (KRel.cons (rel_mono r₁ g₂) r₂)
theorem ok_args (S : Snd P n lv) (c : Cx P fm n X) (pos : Pos) (g : Value) (args : List Expr) (kws : List Keyword) :
    Ok P fm X D σ (evalArgs g true (backTo pos (starEach args (envAt fm X))) (backToKw pos (keywordEach kws (envAt fm X)))) (argsE lv fm args kws σ os) (fun a D x => VsRel X a.1 D x.pos ∧ KRel X a.2 D x.kw) := by
  unfold argsE
  split
  · exact trivial
  rename_i hc
  obtain ⟨h1, h2⟩ := Bool.or_eq_false_iff.mp (eq_false_of_ne_true hc)
  refine ok_bind_of (t := spliced (backTo pos (starEach args (envAt fm X)))) (f := fun vs => evalAll ((backToKw pos (keywordEach kws (envAt fm X))).map (·.2)) >>= fun ks => pure (⟨vs, ((backToKw pos (keywordEach kws (envAt fm X))).filterMap (·.1)).zip ks⟩ : Args)) (fun Q E s _ z => ?_) (ok_exprs S c pos args D σ os) fun vs σ₁ os₁ D₁ xs g₁ r₁ => ok_bind (ok_kws S c pos kws D₁ σ₁ os₁) fun ks σ₂ os₂ D₂ ys g₂ r₂ => ok_pure (R := fun (a : List V × List (Str × V)) D (x : Args) => VsRel X a.1 D x.pos ∧ KRel X a.2 D x.kw) (a := (vs, ks)) ⟨rels_mono r₁ g₂, r₂⟩
  exact evalArgs_of g (star_no _ pos h1) (kw_all _ pos h2) (wpAny_mono z (fun vs s₁ q => unmap q.2) fun _ _ y => y)
end
end Mini
namespace Mini
open PySem PySem.W PySem.Calls PyProof.Rows
variable {α β γ δ : Type}
section
variable {P : Pg} {fm : Fm} {X : Fx} {D : Dy} {σ : St} {os : Os} {n : Nat} {lv : Lv}
theorem ok_callWith (S : Snd P n lv) (c : Cx P fm n X) (pos : Pos) {g : Value} {first : List Value} {args : List Expr} {kws : List Keyword} {k : List V × List (Str × V) → Ev V}
    (hk : ∀ h, P.K.In h → ∃ k, (k = Keeper.frame ∨ k = Keeper.machine ∨ k = Keeper.boundFrame) ∧ Looks (model P.prog P.w) h (keeperOf g) k)
    (h' : ∀ a σ₁ os₁ D₁ (x : Args), Gr X D D₁ → VsRel X a.1 D₁ x.pos → KRel X a.2 D₁ x.kw → Ok P fm X D₁ σ₁ (call g (first ++ x.pos) x.kw) (k a σ₁ os₁) (VRel X)) :
    Ok P fm X D σ (callWith pos g first (backTo pos (starEach args (envAt fm X))) (backToKw pos (keywordEach kws (envAt fm X)))) ((argsE lv fm args kws >>= k) σ os) (VRel X) := by
  by_cases hc : (args.any starred || kws.any kwless) = true
  · have : argsE lv fm args kws = fail "args" := by unfold argsE; rw [if_pos hc]
    rw [this]; exact trivial
  · have hc : (args.any starred || kws.any kwless) = false := by simpa using hc
    obtain ⟨h1, h2⟩ := Bool.or_eq_false_iff.mp hc
    refine ok_bind_of (fun Q E s r z => ?_) (ok_args S c pos g args kws) fun a σ₁ os₁ D₁ x g₁ r₁ => h' a σ₁ os₁ D₁ x g₁ r₁.1 r₁.2
    exact callWith_of (P := fun h => P.K.In h) (by rw [star_no _ pos h1, kw_no _ pos h2]; rfl) hk (wpAny_mono z (fun a s₁ q => ⟨by obtain ⟨⟨D₁, σ₁, r₁, _⟩, _⟩ := q; exact r₁.kin c, q.2⟩) fun _ _ y => y)
theorem keeps_machine {g : Value} (h : ∀ a, g ≠ .ref a) : ∀ hp, P.K.In hp → ∃ k, (k = Keeper.frame ∨ k = Keeper.machine ∨ k = Keeper.boundFrame) ∧ Looks (model P.prog P.w) hp (keeperOf g) k := fun hp _ => by
  refine ⟨.machine, .inr (.inl rfl), Looks.of_pure ?_⟩
  cases g <;> first | rfl | exact absurd rfl (h _)
inductive BI where
  | lstrip | partition | find | ends | join | lappend | dappend | dappendleft | dpop | dpopleft | lpop | lextend
inductive BT where
  | str | list | deque
noncomputable def BT.name : BT → String
  | .str => "str"
  | .list => "list"
  | .deque => "collections.deque"
noncomputable def BI.id : BI → String
  | .lstrip => "str.lstrip"
  | .partition => "str.partition"
  | .find => "str.find"
  | .ends => "str.endswith"
  | .join => "str.join"
  | .lappend => "list.append"
  | .dappend => "collections.deque.append"
  | .dappendleft => "collections.deque.appendleft"
  | .dpop => "collections.deque.pop"
  | .dpopleft => "collections.deque.popleft"
  | .lpop => "list.pop"
  | .lextend => "list.extend"
noncomputable def BI.ty : BI → BT
  | .lstrip => .str
  | .partition => .str
  | .find => .str
  | .ends => .str
  | .join => .str
  | .lappend => .list
  | .dappend => .deque
  | .dappendleft => .deque
  | .dpop => .deque
  | .dpopleft => .deque
  | .lpop => .list
  | .lextend => .list
noncomputable def BI.nm : BI → Str
  | .lstrip => "lstrip"
  | .partition => "partition"
  | .find => "find"
  | .ends => "endswith"
  | .join => "join"
  | .lappend => "append"
  | .dappend => "append"
  | .dappendleft => "appendleft"
  | .dpop => "pop"
  | .dpopleft => "popleft"
  | .lpop => "pop"
  | .lextend => "extend"
noncomputable def BT.code : BT → Nat
  | .str => 0
  | .list => 1
  | .deque => 2
theorem BT.code_name {t u : BT} (h : t.code = u.code) : t.name = u.name := by
  cases t <;> cases u <;> first | rfl | exact nomatch h
noncomputable def allB : List BI := [.lstrip, .partition, .find, .ends, .join, .lappend, .dappend, .dappendleft, .dpop, .dpopleft, .lpop, .lextend]
noncomputable def methOf (t : BT) (x : Str) : Option BI := allB.find? fun b => Nat.beq b.ty.code t.code && (x == b.nm)
theorem methOf_is {t : BT} {x : Str} {b : BI} (h : methOf t x = some b) : b.ty.name = t.name ∧ x = b.nm := by
  have h : (Nat.beq b.ty.code t.code && (x == b.nm)) = true := List.find?_some (p := fun b : BI => Nat.beq b.ty.code t.code && (x == b.nm)) (show allB.find? _ = some b from h)
  obtain ⟨h1, h2⟩ := band h
  exact ⟨BT.code_name (Nat.eq_of_beq_eq_true h1), beq_iff_eq.mp h2⟩
structure BMeth (b : BI) : Prop where
  slot : Slot b.ty.name b.nm b.id
  ty : typeOf (.builtin b.id) = pure (.type "method_descriptor")
  plain : PlainAttrs b.ty.name
theorem bmeth : ∀ b : BI, BMeth b
  | .lstrip => ⟨PySem.F.slot_str_lstrip, PySem.F.type_str_lstrip, PySem.F.plainAttrs_str⟩
  | .partition => ⟨PySem.F.slot_str_partition, PySem.F.type_str_partition, PySem.F.plainAttrs_str⟩
  | .find => ⟨PySem.F.slot_str_find, PySem.F.type_str_find, PySem.F.plainAttrs_str⟩
  | .ends => ⟨PySem.F.slot_str_endswith, PySem.F.type_str_endswith, PySem.F.plainAttrs_str⟩
  | .join => ⟨PySem.F.slot_str_join, PySem.F.type_str_join, PySem.F.plainAttrs_str⟩
  | .lappend => ⟨PySem.F.slot_list_append, PySem.F.type_list_append, PySem.F.plainAttrs_list⟩
  | .dappend => ⟨DQ.slot_append, DQ.type_append, DQ.plain⟩
  | .dappendleft => ⟨DQ.slot_appendleft, DQ.type_appendleft, DQ.plain⟩
  | .dpop => ⟨DQ.slot_pop, DQ.type_pop, DQ.plain⟩
  | .dpopleft => ⟨DQ.slot_popleft, DQ.type_popleft, DQ.plain⟩
  | .lpop => ⟨PySem.F.slot_list_pop, PySem.F.type_list_pop, PySem.F.plainAttrs_list⟩
  | .lextend => ⟨PySem.F.slot_list_extend, PySem.F.type_list_extend, PySem.F.plainAttrs_list⟩
noncomputable def LO.bt : LO → Option BT
  | .list _ => some .list
  | .deque _ => some .deque
  | _ => none
noncomputable def btype (σ : St) : V → Option BT
  | .str _ => some .str
  | .obj n => (σ.hp[n]?).bind LO.bt
  | _ => none
theorem btype_is {v : V} {x : Value} {t : BT} (hv : VRel X v D x) (h : btype σ v = some t) {s : Shared} (r : Rp P fm X D σ s.heap) : s.TypeIs x t.name ∧ ∀ a, x = .ref a → ∃ o, s.heap.get? a = some o ∧ o.dict = none := by
  cases v with
  | str z => obtain ⟨u, rfl⟩ := VR.str' hv; rw [← Option.some.inj h]; exact ⟨typeIs_str _ _ _, fun _ e => nomatch e⟩
  | obj n =>
    obtain ⟨lo, hn, h⟩ := Option.bind_eq_some_iff.mp h
    cases lo with
    | list vs =>
      obtain ⟨a, xs, k, rfl, h1, _⟩ := lst_at r hv hn
      rw [← Option.some.inj h]
      exact ⟨⟨_, h1, rfl⟩, fun _ e => Value.ref.inj e ▸ ⟨_, h1, rfl⟩⟩
    | deque vs =>
      obtain ⟨a, xs, k, rfl, h1, _⟩ := dq_at r hv hn
      rw [← Option.some.inj h]
      exact ⟨⟨_, h1, rfl⟩, fun _ e => Value.ref.inj e ▸ ⟨_, h1, rfl⟩⟩
    | _ => cases h
  | _ => cases h
noncomputable def find4 (x y : Str) (i j : Int) : Int := match Builtin.Str.occurrences x y (fromIndex x.length i) (min (fromIndex x.length j) x.length) 1 with | k :: _ => (k : Int) | [] => -1
noncomputable def findE (x : Str) (args : List V) : Ev V := match args with
  | [] => fail "find"
  | a :: r => onStr a fun y => match r with
    | [] => pure (.int (Txt.find x y))
    | i :: r => onInt i fun i => match r with
      | [] => pure (.int (Txt.find3 x y i))
      | j :: r => on0 r (onInt j fun j => pure (.int (find4 x y i j)))
noncomputable def changeLst (n : Nat) (cond : List V → Prop) (f : List V → List V) : Ev V := onLst n fun vs => fun σ os => .ok .none ⟨σ.loc, σ.hp.set n (.list (f vs))⟩ os [cond vs]
noncomputable def changeDq (n : Nat) (f : List V → List V) : Ev V := onDq n fun vs => fun σ os => .ok .none ⟨σ.loc, σ.hp.set n (.deque (f vs))⟩ os [vs.length ≤ 1000000]
noncomputable def JoinAt (x : Str) (vs : List V) (v : V) : Prop := ∃ ss, strsOf vs = some ss ∧ x.length ≤ 16 ∧ (ss.map (·.length)).sum + ss.length ≤ 1048576 ∧ v = .str (Txt.join x ss)
noncomputable def joinE (x : Str) (j : Nat) : Ev V := onLst j fun vs => tell (JoinAt x vs)
noncomputable def methB (b : BI) (self : V) (args : List V) : Ev V := match b with
  | .lstrip => fail "menu"
  | .find => onStr self fun x => findE x args
  | .ends => onStr self fun x => on1 args fun a => onStr a fun y => pure (.bool (Txt.endswith x y))
  | .partition => fail "menu"
  | .join => onStr self fun x => on1 args fun a => onObj a fun j => joinE x j
  | .lappend => onObj self fun n => on1 args fun v => changeLst n (fun vs => vs.length ≤ 1048576) fun vs => vs ++ [v]
  | .dappend => onObj self fun n => on1 args fun v => changeDq n fun vs => vs ++ [v]
  | .dappendleft => fail "menu"
  | .dpopleft => fail "menu"
  | .lpop => fail "menu"
  | .lextend => fail "menu"
  | .dpop => onObj self fun n => on0 args (onDq n fun vs => match vs with
    | [] => fail "pop"
    | v :: r => match r with
      | [] => fun σ os => .ok v ⟨σ.loc, σ.hp.set n (.deque [])⟩ os []
      | _ :: _ => fail "pop")
theorem gives_find4 (x y : Str) (i j : Int) (t u v w : Tok) : Gives (Builtin.«str.find» ⟨[.str x t, .str y u, .int i v, .int j w], []⟩) (.int (find4 x y i j)) := by
  show Gives (match Builtin.Str.occurrences x y (fromIndex x.length i) (min (fromIndex x.length j) x.length) 1 with | k :: _ => retInt k | [] => (do rule "str.find.not-found"; retInt (-1))) _
  unfold find4
  cases Builtin.Str.occurrences x y (fromIndex x.length i) (min (fromIndex x.length j) x.length) 1 with
  | nil => exact .rule (.of_eq rfl)
  | cons k _ => exact .of_eq rfl
theorem dq_moves (xs : List Value) (k : Int) : Moves (dequeOf xs k) := ⟨notFixd (T := "collections.deque") rfl (by decide), (fun v q => nomatch q), (fun q => nomatch q)⟩
theorem lst_moves (xs : Array Value) (k : Nat) : Moves (listOf xs k) := ⟨notFixd (T := "list") rfl (by decide), (fun v q => nomatch q), (fun q => nomatch q)⟩
theorem upd_frame {h : Heap} (r : Rp P fm X D σ h) {a : Addr} {o : Obj} (hm : (a, o) ∈ D.news) (f : Obj → Obj) (hf : (f o).isFreed = false) :
    ∃ news', Fr X.h₀ X.L (h.update a f) D.m ∧ News X.h₀ X.L (h.update a f) news' ∧ (a, f o) ∈ news' ∧ (∀ b x, (b, x) ∈ D.news → b ≠ a → (b, x) ∈ news') ∧ news'.map (·.1) = D.news.map (·.1) := by
  obtain ⟨news', U, a1, a2, a3⟩ := upd_exists (o' := f o) r.nd hm
  obtain ⟨pre, post, e1, e2, p1, p2⟩ := U.split
  have N := r.N
  rw [e1] at N
  obtain ⟨F', N'⟩ := news_upd (f := f) r.F N p1 p2 rfl hf
  exact ⟨news', F', by rw [e2]; exact N', a1, a2, a3⟩
theorem dq_change {s : Shared} (r : Rp P fm X D σ s.heap) {i : Nat} {x : Value} {vs ws : List V} (hv : VR X.base D.ad D.news (.obj i) x) (hn : σ.hp[i]? = some (.deque vs)) {f : Array Value → Array Value} (ys : List Value → List Value)
    (e : ∀ xs : List Value, VRs X.base D.ad D.news vs xs → f xs.toArray = (ys xs).toArray ∧ VRs X.base D.ad D.news ws (ys xs)) (hz : ws.length ≤ 1048576) {A : Around} {E : Value → Shared → Prop} {Q : Unit → Shared → Prop}
    (hQ : ∀ D' h', Rp P fm X D' ⟨σ.loc, σ.hp.set i (.deque ws)⟩ h' → Gr X D D' → Q () { s with heap := h' }) : wpAny (model P.prog P.w) A (Builtin.Deque.change x f) Q E s := by
  obtain ⟨a, xs, k, rfl, h1, h2, hm, p, hp, e1, e2⟩ := dq_at r hv hn
  obtain ⟨q1, q2⟩ := e xs h2
  refine DQ.change h1 q1 (by rw [q2.length]; exact hz) ?_
  obtain ⟨news', F', N', a1, a2, a3⟩ := upd_frame r hm (Obj.mapFields fun vs => #[vs.getD 0 .none, rawInt (k + 1)] ++ f (vs.extract 2 vs.size)) (by rw [DQ.changed q1]; rfl)
  rw [DQ.changed q1] at a1
  obtain ⟨r', g⟩ := r.change hp (by rw [e2]; exact hm) (dq_moves xs k) (by rw [e2]; exact a2) a3 F' N' (lo := .deque ws) fun k1 g => ⟨e1.trans e2.symm, _, _, by rw [e2]; exact a1, q2.mono g⟩
  exact hQ _ _ r' g
theorem maxlen_none {s : Shared} {a : Addr} {xs : List Value} {k : Int} {A : Around} {M : Model} {E : Value → Shared → Prop} {Q : Option Nat → Shared → Prop} (h : s.heap.get? a = some (dequeOf xs k)) (q : Q none s) : wpAny M A (Builtin.Deque.maxlen (.ref a)) Q E s := by
  unfold Builtin.Deque.maxlen
  exact wpAny_bind (wpAny_field (i := 0) (x := .none) h rfl (by simp) (wpAny_pure q))
theorem ok_entry {T : String} {name : Str} {id : String} {b : Builtin} {self : Value} {rest : List Value} {r : Res V}
    (slot : Slot T name id) (hT : ∀ s : Shared, Rp P fm X D σ s.heap → s.TypeIs self T) (hb : entryFor table id = some b) (ha : argsOk id ⟨self :: rest, []⟩)
    (h : Ok P fm (inA X) D σ (b ⟨self :: rest, []⟩) r (fun v D' fin => ∃ x, fin = .done (.ret x) ∧ VRel X v D' x)) (hx : ∀ cls args σ' os' c, r ≠ .ex cls args σ' os' c := by intros; intro q; cases q) : Ok P fm X D σ (call (.builtin id) (self :: rest)) r (VRel X) := by
  cases r with
  | no w => exact trivial
  | ex cls args σ' os' c => exact absurd rfl (hx cls args σ' os' c)
  | ok v σ' os' c =>
    intro hc s hs Q E hQ
    refine wpAny_call_entry slot (hT s hs) hb ?_ ha
    exact h hc s hs.inA _ E fun D' s' fin r' g q k => by
      obtain ⟨x, rfl, q⟩ := q
      exact ⟨x, rfl, hQ D' s' x r'.outA g.outA q k⟩
end
end Mini
namespace Mini
open PySem PySem.W PySem.Calls PyProof.Rows
variable {α β γ δ : Type}
section
variable {P : Pg} {fm : Fm} {X : Fx} {D : Dy} {σ : St} {os : Os} {n : Nat} {lv : Lv}
theorem VRs.one {base : Heap} {ad news} {v : V} {x : Value} (h : VR base ad news v x) : VRs base ad news [v] [x] := .cons h .nil
theorem ok_findE {x : Str} {t : Tok} {args : List V} {xs : List Value} (ha : VsRel X args D xs) : Ok P fm X D σ (call (.builtin "str.find") (.str x t :: xs)) (findE x args σ os) (VRel X) := by
  cases args with
  | nil => exact trivial
  | cons a r =>
    obtain ⟨y, ys, rfl, h1, hr⟩ := VRs.cons' ha
    refine ok_onStr (T := fun y => call (.builtin "str.find") (.str x t :: y :: ys)) h1 fun y u => ?_
    cases r with
    | nil => rw [hr.nil']; exact ok_same_pure fun Q E s _ k => SC.find (k _ _ .int)
    | cons b r =>
      obtain ⟨z, ys, rfl, h2, hr⟩ := hr.cons'
      refine ok_onInt (T := fun z => call (.builtin "str.find") (.str x t :: .str y u :: z :: ys)) h2 fun z v => ?_
      cases r with
      | nil => rw [hr.nil']; exact ok_same_pure fun Q E s _ k => SC.find3 (k _ _ .int)
      | cons b r =>
        obtain ⟨w, ys, rfl, h3, hr⟩ := hr.cons'
        refine ok_on0 (Ts := fun ys => call (.builtin "str.find") (.str x t :: .str y u :: .int z v :: w :: ys)) hr (ok_onInt (T := fun w => call (.builtin "str.find") [.str x t, .str y u, .int z v, w]) h3 fun w t' => ?_)
        exact ok_same_pure fun Q E s _ k => call_gives PySem.F.slot_str_find (typeIs_str _ _ _) PySem.F.entry_str_find (PySem.F.args_str_find_4 _ _ _ _) (gives_find4 _ _ _ _ _ _ _ _) (k _ _ .int)
theorem ok_chg {i : Nat} {x : Value} {vs ws : List V} (hs : VRel X (.obj i) D x) (hn : σ.hp[i]? = some (.list vs)) {t : Sem β} {c : List Prop} {a : α} {R : α → Dy → β → Prop}
    (run : (∀ p ∈ c, p) → ∀ xs n, VRs X.base D.ad D.news vs xs.toList → (∀ s : Shared, Rp P fm X D σ s.heap → ∀ A, x = .ref A → (A, listOf xs n) ∈ D.news → ∃ ys m y, VRs X.base D.ad D.news ws ys.toList ∧ (∀ D', Gr X D D' → R a D' y) ∧
      ∀ (Q : β → Shared → Prop) (E : Value → Shared → Prop) news', Upd A (listOf xs n) (listOf ys m) D.news news' → (∀ h', Fr X.h₀ X.L h' D.m → News X.h₀ X.L h' news' → Q y { s with heap := h' }) → wpAny (model P.prog P.w) X.A t Q E s)) :
    Ok P fm X D σ t (.ok a ⟨σ.loc, σ.hp.set i (.list ws)⟩ os c) R := by
  intro hc s r Q E hQ
  obtain ⟨A, xs, k, rfl, h2, h3, hm, p, hp, e1, e2⟩ := lst_at r hs hn
  obtain ⟨ys, m, y, h4, h5, run⟩ := run hc xs k h3 s r A rfl hm
  obtain ⟨news', U, a1, a2, a3⟩ := upd_exists (o' := listOf ys m) r.nd hm
  refine run Q E news' U fun h' F' N' => ?_
  obtain ⟨r', g⟩ := r.change hp (by rw [e2]; exact hm) (lst_moves xs k) (by rw [e2]; exact a2) a3 F' N' (lo := .list ws) fun k1 g => ⟨e1.trans e2.symm, _, _, by rw [e2]; exact a1, h4.mono g⟩
  exact hQ _ _ y r' g (h5 _ g) ⟨rfl, rfl⟩
theorem ok_lappend {i : Nat} {v : V} {x z : Value} (hs : VRel X (.obj i) D x) (h1 : VRel X v D z) :
    Ok P fm X D σ (call (.builtin "list.append") [x, z]) (changeLst i (fun vs => vs.length ≤ 1048576) (fun vs => vs ++ [v]) σ os) (VRel X) := by
  refine ok_onLst fun vs hn => ?_
  intro hc s r Q E hQ
  have hl : vs.length ≤ 1048576 := hc _ (.head _)
  obtain ⟨a, ys, k, rfl, h2, h3, hm, p, hp, e1, e2⟩ := lst_at r hs hn
  obtain ⟨news', U, a1, a2, a3⟩ := upd_exists (o' := listOf (ys.push z) (k + 1)) r.nd hm
  refine append_K r.F r.N U (fun h' F' N' => ?_) (by rw [← Array.length_toList, h3.length]; exact Nat.le_trans hl (by decide))
  obtain ⟨r', g⟩ := r.change hp (by rw [e2]; exact hm) (lst_moves ys k) (by rw [e2]; exact a2) a3 F' N' (lo := .list (vs ++ [v])) fun k1 g => ⟨e1.trans e2.symm, _, _, by rw [e2]; exact a1, by
    rw [Array.toList_push]; exact VRs.append (h3.mono g) (VRs.one (rel_mono h1 g))⟩
  exact hQ _ _ _ r' g .none ⟨rfl, rfl⟩
theorem ok_dpush {T : String} {name : Str} {id : String} {b : Builtin} (slot : Slot T name id) (hid : T = "collections.deque") (hb : entryFor table id = some b) {i : Nat} {v : V} {x z : Value} (ha : argsOk id ⟨[x, z], []⟩) {K : Option Nat → Sem Unit} (hK : K none = pure ())
    {f : Array Value → Array Value} (hT : b ⟨[x, z], []⟩ = ((Builtin.Deque.change x f >>= fun _ => Builtin.Deque.maxlen x >>= K) >>= fun _ => ret .none)) (hs : VRel X (.obj i) D x) {F : List V → List V} (ys : List Value → List Value)
    (hf : ∀ vs xs, VRs X.base D.ad D.news vs xs → f xs.toArray = (ys xs).toArray ∧ VRs X.base D.ad D.news (F vs) (ys xs)) (hl : ∀ vs, (F vs).length = vs.length + 1) :
    Ok P fm X D σ (call (.builtin id) [x, z]) (changeDq i F σ os) (VRel X) := by
  refine ok_onDq fun vs hn => ?_
  refine ok_entry slot (fun s r => by obtain ⟨a, ys, k, rfl, h2, _⟩ := dq_at r hs hn; rw [hid]; exact DQ.typeIs h2) hb ha ?_
  rw [hT]
  intro hc s r Q E hQ
  have hc : vs.length ≤ 1000000 := hc _ (.head _)
  refine wpAny_bind (wpAny_bind (dq_change r hs hn (ws := F vs) ys (hf vs) (by rw [hl]; exact Nat.le_trans (Nat.succ_le_succ hc) (by decide)) fun D' h' r' g => ?_))
  obtain ⟨p, hp, rfl⟩ := VR.obj' hs
  obtain ⟨p', hp', e1, xs, k, hm, hr⟩ := r'.hp i (.deque (F vs)) (by rw [List.getElem?_set, if_pos rfl, if_pos (List.getElem?_eq_some_iff.mp hn).1])
  rw [g.ad _ _ hp] at hp'
  have hp' := Option.some.inj hp'
  subst hp'
  have hh := r'.N.get hm
  rw [← e1] at hh
  refine wpAny_bind (maxlen_none (s := { s with heap := h' }) hh ?_)
  rw [hK]
  exact wpAny_pure (wpAny_pure (hQ D' { s with heap := h' } _ r' g ⟨_, rfl, .none⟩ ⟨rfl, rfl⟩))
theorem ok_dtake {name : Str} {id : String} {b : Builtin} (slot : Slot "collections.deque" name id) (hb : entryFor table id = some b) {i : Nat} {v : V} {x : Value} (ha : argsOk id ⟨[x], []⟩) (hs : VRel X (.obj i) D x) {vs ws : List V} (hn : σ.hp[i]? = some (.deque vs)) {c : List Prop}
    {f : Array Value → Array Value} (ys : List Value → List Value) (hc : (∀ p ∈ c, p) → ws.length ≤ 1048576)
    (hf : ∀ xs, VRs X.base D.ad D.news vs xs → f xs.toArray = (ys xs).toArray ∧ VRs X.base D.ad D.news ws (ys xs))
    (hT : ∀ xs : List Value, VRs X.base D.ad D.news vs xs → ∃ y K, VRel X v D y ∧ b ⟨[x], []⟩ = (Builtin.Deque.items x >>= K) ∧ K xs.toArray = (Builtin.Deque.change x f >>= fun _ => ret y)) :
    Ok P fm X D σ (call (.builtin id) [x]) (.ok v ⟨σ.loc, σ.hp.set i (.deque ws)⟩ os c) (VRel X) := by
  refine ok_entry slot (fun s r => by obtain ⟨a, ys, k, rfl, h2, _⟩ := dq_at r hs hn; exact DQ.typeIs h2) hb ha ?_
  intro hcs s r Q E hQ
  obtain ⟨a, xs, k, e0, h2, h3, _⟩ := dq_at r hs hn
  obtain ⟨y, K, hy, hb, hK⟩ := hT xs h3
  rw [hb]
  refine wpAny_bind ?_
  unfold Builtin.Deque.items
  rw [e0]
  refine wpAny_bind (wpAny_fieldsOf h2 rfl (wpAny_pure ?_))
  rw [DQ.items_drop, hK]
  refine wpAny_bind (dq_change r hs hn (ws := ws) ys hf (hc hcs) fun D' h' r' g => ?_)
  exact wpAny_pure (hQ D' { s with heap := h' } _ r' g ⟨_, rfl, rel_mono hy g.outA⟩ ⟨rfl, rfl⟩)
theorem strs_are {base : Heap} {ad news} {vs : List V} : ∀ {xs : List Value} {ss : List Str}, VRs base ad news vs xs → strsOf vs = some ss → StrsAre xs ss := by
  induction vs with
  | nil => intro xs ss h hs; rw [h.nil', ← Option.some.inj hs]; exact .nil
  | cons v vs ih =>
    intro xs ss h hs
    obtain ⟨x, xs, rfl, a, r⟩ := h.cons'
    cases v with
    | str z =>
      obtain ⟨u, rfl⟩ := VR.str' a
      obtain ⟨zs, hs', rfl⟩ := Option.map_eq_some_iff.mp hs
      exact .cons _ _ (ih r hs')
    | _ => cases hs
theorem ok_join {x : Str} {t : Tok} {j : Nat} {y : Value} (hs : VRel X (.obj j) D y) : Ok P fm X D σ (call (.builtin "str.join") [.str x t, y]) (joinE x j σ os) (VRel X) := by
  refine ok_onLst fun vs hj => ok_tell fun v os' hC => ok_same_pure fun Q E s r k => ?_
  obtain ⟨ss, h1, h2, h3, rfl⟩ := hC
  obtain ⟨a, xs, m, rfl, e2, e3, _⟩ := lst_at r hs hj
  exact join_listW (items := xs) ⟨_, e2, rfl, m, rfl⟩ (strs_are e3 h1) h2 h3 fun t' tk => k _ _ .str
theorem ok_methB (c : Cx P fm n X) (b : BI) {self : V} {x : Value} {args : List V} {xs : List Value} (hs : VRel X self D x) (ha : VsRel X args D xs) :
    Ok P fm X D σ (call (.builtin b.id) (x :: xs)) (methB b self args σ os) (VRel X) := by
  cases b with
  | lstrip => exact trivial
  | find => exact ok_onStr (T := fun x => call (.builtin "str.find") (x :: xs)) hs fun x t => ok_findE ha
  | ends => exact ok_onStr (T := fun x => call (.builtin "str.endswith") (x :: xs)) hs fun x t => ok_on1 (Ts := fun xs => call (.builtin "str.endswith") (.str x t :: xs)) ha fun a y h1 => ok_onStr (T := fun y => call (.builtin "str.endswith") [.str x t, y]) h1 fun y u => ok_same_pure fun Q E s _ k => SC.endswith (k _ _ .bool)
  | partition => exact trivial
  | join => exact ok_onStr (T := fun x => call (.builtin "str.join") (x :: xs)) hs fun x t => ok_on1 (Ts := fun xs => call (.builtin "str.join") (.str x t :: xs)) ha fun a y h1 => ok_onObj fun j e => by subst e; exact ok_join h1
  | lappend => exact ok_onObj fun i e => ok_on1 (Ts := fun xs => call (.builtin "list.append") (x :: xs)) ha fun v z h1 => by subst e; exact ok_lappend hs h1
  | dappend =>
      refine ok_onObj fun i e => ok_on1 (Ts := fun xs => call (.builtin "collections.deque.append") (x :: xs)) ha fun v z h1 => ?_
      subst e
      exact ok_dpush (v := v) DQ.slot_append rfl DQ.entry_append (DQ.args_append _ _) rfl (f := (·.push z)) rfl hs (fun xs => xs ++ [z]) (fun vs xs hx => ⟨List.push_toArray _ _, VRs.append hx (VRs.one h1)⟩) fun vs => List.length_append
  | dappendleft => exact trivial
  | lpop => exact trivial
  | lextend => exact trivial
  | dpopleft => exact trivial
  | dpop =>
      refine ok_onObj fun i e => ok_on0 (Ts := fun xs => call (.builtin "collections.deque.pop") (x :: xs)) ha (ok_onDq fun vs hn => ?_)
      subst e
      cases vs with
      | nil => exact trivial
      | cons v vs =>
        cases vs with
        | cons _ _ => exact trivial
        | nil =>
          refine ok_dtake DQ.slot_pop DQ.entry_pop (DQ.args_pop _) hs hn (ws := []) (f := (·.pop)) (fun _ => []) (fun h => Nat.zero_le _) (fun xs hx => ?_) fun xs hx => ?_
          · obtain ⟨y, ys, rfl, _, h⟩ := hx.cons'; rw [h.nil']; exact ⟨by simp, .nil⟩
          · obtain ⟨y, ys, rfl, h, h2⟩ := hx.cons'; rw [h2.nil']; exact ⟨y, _, h, rfl, rfl⟩
end
end Mini
namespace Mini
open PySem PySem.W PySem.Calls PyProof.Rows
variable {α β γ δ : Type}
section
variable {P : Pg} {fm : Fm} {X : Fx} {D : Dy} {σ : St} {os : Os} {n : Nat} {lv : Lv}
noncomputable def clsOk : Option Obj → Bool
  | none => false
  | some o => match o.data with
    | .cls cd => !cd.abstract && !cd.hasDel
    | _ => false
theorem clsOk_is {o : Option Obj} (h : clsOk o = true) : ∃ oc od cd sl, o = some ⟨oc, od, .cls cd, sl⟩ ∧ cd.abstract = false ∧ cd.hasDel = false := by
  cases o with
  | none => cases h
  | some o =>
    obtain ⟨oc, od, dt, sl⟩ := o
    cases dt with
    | cls cd =>
      obtain ⟨h1, h2⟩ := band h
      exact ⟨oc, od, cd, sl, rfl, Bool.not_eq_true' _ ▸ h1, Bool.not_eq_true' _ ▸ h2⟩
    | _ => cases h
noncomputable def newOk (P : Pg) (C : Addr) : Bool :=
  (peek P.K ⟨P.prog, P.w.params⟩ (checkBuiltinCall "object.__new__" ⟨[.ref C], []⟩)).isSome && ((peek P.K ⟨P.prog, P.w.params⟩ (isType (.ref C))) == some true && ((peek P.K ⟨P.prog, P.w.params⟩ (Bind.madeHere "object.__new__" (.ref C))).isSome && clsOk (P.K.lookup C)))
noncomputable def objNewE (P : Pg) (vs : List V) : Ev V := on1 vs fun v => onSome (refV v) fun C => iff (newOk P C) fun σ os => .ok (.obj σ.hp.length) ⟨σ.loc, σ.hp ++ [.inst C []]⟩ os []
theorem objnew_run {prog : Program} {w : World} {A : Around} {K : Frag} {C : Addr} {R : Result → Shared → Prop} {h : Heap} {g : Array GenState} {d : Drawn} {t : Nat} {os : OsState} (X : K.In h)
    (h1 : peek K ⟨prog, w.params⟩ (checkBuiltinCall "object.__new__" ⟨[.ref C], []⟩) = some ()) (h2 : peek K ⟨prog, w.params⟩ (isType (.ref C)) = some true) (h3 : peek K ⟨prog, w.params⟩ (Bind.madeHere "object.__new__" (.ref C)) = some ())
    {oc : Value} {od : Option Addr} {cd : ClassData} {sl : Array (Option Value)} (ho : K.lookup C = some ⟨oc, od, .cls cd, sl⟩) (ha : cd.abstract = false) (hdl : cd.hasDel = false)
    (hq : R (.ok (.ret (.ref (h.objs.size + 1)))) ⟨(h.push emptyDict).push (instObj C h.objs.size), g, d, t, os⟩) :
    codeAny (model prog w) A (.call (.builtin "object.__new__") ⟨[.ref C], []⟩) R ⟨h, g, d, t, os⟩ := by
  have F := PySem.F.objNew
  have hC := X _ _ ho
  refine codeAny_call_builtin_code (Code.quiet_builtin _ F.quiet) ?_
  refine (Looks.of_peek (M := model prog w) X h1).at ?_
  refine codeAny_builtin F.entry ?_
  unfold Builtin.«object.__new__»
  have L2 := Looks.of_peek (M := model prog w) X h2
  have L3 := Looks.of_peek (M := model prog w) X h3
  refine wpAny_bind (L2.at (ifF (ff rfl) (wpAny_bind (L3.at (ifF (ff rfl) ?_)))))
  have hcd : Looks (model prog w) h (classData C) cd := (Looks.ld hC).andThen .now
  refine wpAny_bind (hcd.at (ifF (ff ha) (wpAny_bind (wpAny_bind (wpAny_alloc (wpAny_pure (wpAny_bind ?_)))))))
  show wpAny _ _ (newObjAsIs _ _ _) _ _ _
  unfold newObjAsIs classHasDel
  refine wpAny_bind (wpAny_alloc (wpAny_bind (wpAny_bind (wpAny_load (Heap.get?_push_of_some _ (Heap.get?_push_of_some _ hC)) (wpAny_pure ?_)))))
  rw [hdl]
  refine wpAny_pure (wpAny_pure ?_)
  show R _ _
  rw [Heap.size_push]
  exact hq
theorem Rp.newInst {h : Heap} (r : Rp P fm X D σ h) (C : Addr) : ∃ D', Rp P fm X D' ⟨σ.loc, σ.hp ++ [.inst C []]⟩ ((h.push emptyDict).push (instObj C h.objs.size)) ∧ Gr X D D' ∧ VRel X (.obj σ.hp.length) D' (.ref (h.objs.size + 1)) := by
  have f1 : ∀ p ∈ D.news, p.1 < h.objs.size := fun p hp => Heap.lt_size (r.N p hp).1
  have Fd := r.F.push emptyDict
  have Nd := r.N.push r.F emptyDict
  obtain ⟨r1, g1⟩ := r.push (o := emptyDict) (fun p hp e => absurd (f1 p hp) (by rw [e]; exact Nat.lt_irrefl _)) Fd Nd
  have Fx := Fd.push (instObj C h.objs.size)
  have Nx := Nd.push Fd (instObj C h.objs.size)
  rw [Heap.size_push] at Nx
  obtain ⟨r2, g2⟩ := r1.push (o := instObj C h.objs.size) (a := h.objs.size + 1) (fun p hp e => by
    rcases List.mem_cons.mp hp with rfl | hp
    · exact absurd e (Nat.ne_of_lt (Nat.lt_succ_self _))
    · exact absurd (Nat.lt_succ_of_lt (f1 p hp)) (by rw [e]; exact Nat.lt_irrefl _)) Fx Nx
  obtain ⟨r3, g3⟩ := r2.made (q := (h.objs.size + 1, h.objs.size)) (lo := .inst C []) (.tail _ (.head _)) (fun p hp e => r.fresh (a := h.objs.size) (fun p hp e => absurd (f1 p hp) (by rw [e]; exact Nat.lt_irrefl _)) p hp e) ⟨⟨_, .head _⟩, [], 0, .tail _ (.head _), .nil⟩
  refine ⟨_, r3, (g1.trans g2).trans g3, ?_⟩
  refine VR.obj (p := (h.objs.size + 1, h.objs.size)) ?_
  show (D.ad ++ [(h.objs.size + 1, h.objs.size)])[σ.hp.length]? = some (h.objs.size + 1, h.objs.size)
  rw [← r.len, List.getElem?_append_right (Nat.le_refl _), Nat.sub_self]; rfl
theorem unit_some {o : Option Unit} (h : o.isSome = true) : o = some () := by cases o with | none => cases h | some u => rfl
theorem ok_objNew (c : Cx P fm n X) {vs : List V} {xs : List Value} (hv : VsRel X vs D xs) : Ok P fm X D σ (call (.builtin "object.__new__") xs) (objNewE P vs σ os) (VRel X) := by
  refine ok_on1 (Ts := fun xs => call (.builtin "object.__new__") xs) hv fun v x h => ok_onSome fun C hC => ok_iff fun hn => ?_
  rw [refV_is h hC]
  obtain ⟨h1, hn⟩ := band hn
  obtain ⟨h2, hn⟩ := band hn
  obtain ⟨h3, h4⟩ := band hn
  obtain ⟨oc, od, cd, sl, ho, ha, hd⟩ := clsOk_is h4
  intro _ s r Q E hQ
  obtain ⟨D', r', g, hx⟩ := r.newInst C
  refine wpAny_call ?_
  obtain ⟨hh, gg, d, tk, oss⟩ := s
  refine objnew_run (c.kin.keeps r.F.keep) (unit_some h1) (beq_iff_eq.mp h2) (unit_some h3) ho ha hd ?_
  exact hQ D' _ _ r' g hx ⟨rfl, rfl⟩
theorem obj_type : typeOf (.type "object") = pure (.type "type") := by kernel_rfl
theorem obj_opaque : opaqueClassAbove (.type "object") = pure none := by kernel_rfl
theorem obj_hook : hookBefore (.type "type") = pure none := by kernel_rfl
theorem obj_find (K : Frag) : findCls K (.type "object") (.type "type") "__new__" = some (.val (.builtin "object.__new__")) := by kernel_rfl
theorem obj_special : specialOf (.type "object") "__getattribute__" = pure (some (.builtin "type.__getattribute__")) := by
  unfold specialOf; rw [obj_type]; show typeLookup (.type "type") "__getattribute__" = _; rw [typeLookup_type, builtinLookup_eq_fast]; kernel_rfl
theorem method_object {M : Model} {prog : Program} {w : World} {A : Around} {E : Value → Shared → Prop} {s : Shared} {K : Frag} (X : K.In s.heap) {pl : Sem Bool} {Q : Value × List Value → Shared → Prop} (q : Q (.builtin "object.__new__", []) { s with toks := s.toks + 1 }) :
    wpAny (model prog w) A (getMethod (.type "object") "__new__" pl) Q E s := by
  unfold getMethod
  rw [obj_special]
  refine wpAny_bind (wpAny_pure ?_)
  dsimp only
  rw [if_pos canon_tga]
  refine wpAny_bind ?_
  refine cls_open (r := .val (.builtin "object.__new__")) X (Looks.of_pure obj_opaque) (Looks.of_pure obj_type) (by show fastLookup "type" "__getattribute__" = _; kernel_rfl) (Looks.of_pure obj_hook) (by kernel_rfl) (obj_find K) ?_
  refine wpAny_pure ?_
  show wpAny _ _ (handedOut (.builtin "object.__new__")) _ _ _
  rw [handedOut_of (by decide +kernel)]
  exact wpAny_pure (wpAny_pure q)
end
end Mini
namespace Mini
open PySem PySem.W PySem.Calls PyProof.Rows
variable {α β γ δ : Type}
section
variable {P : Pg} {fm : Fm} {X : Fx} {D : Dy} {σ : St} {os : Os} {n : Nat} {lv : Lv}
noncomputable def plainBase : Expr → Bool
  | .Name _ _ => true
  | .Attribute _ _ _ => true
  | .Constant _ _ _ => true
  | .Subscript _ _ _ => true
  | _ => false
theorem base_plain {o : Expr} (h : plainBase o = true) (attr : Str) (env : Env) (whole : Sem Value) : attributeBase o attr env whole = whole := by
  cases o <;> first | rfl | cases h
theorem form_true {env : Env} {pos : Pos} {args : List Expr} {kws : List Keyword} {k : Nat} (h1 : args.any starred = false) (h2 : kws.any kwless = false) (hk : k < 28) :
    methodCallForm k (backTo pos (starEach args env)) (backToKw pos (keywordEach kws env)) = true := by
  unfold methodCallForm
  rw [kw_all env pos h2, Bool.and_true, Bool.and_eq_true]
  refine ⟨List.all_eq_true.mpr fun x hx => ?_, by split <;> (simp; omega)⟩
  have := star_no env pos h1
  rw [List.any_eq_false] at this
  simpa using this x hx
theorem ok_toks {T t : Sem β} {r : Res α} {R : α → Dy → β → Prop} (h : Ok P fm X D σ t r R)
    (e : ∀ (Q : β → Shared → Prop) (E : Value → Shared → Prop) s, Rp P fm X D σ s.heap → (∀ tk, wpAny (model P.prog P.w) X.A t Q E { s with toks := tk }) → wpAny (model P.prog P.w) X.A T Q E s) : Ok P fm X D σ T r R := by
  cases r with
  | no w => exact trivial
  | ex cls args σ' os c => exact fun hc s hs Q E hE hQ => e Q E s hs fun tk => h hc { s with toks := tk } hs Q E hE fun D' s' ev x g k => hQ D' s' ev x g ⟨k.os, k.gens⟩
  | ok a σ' os c => exact fun hc s hs Q E hQ => e Q E s hs fun tk => h hc { s with toks := tk } hs Q E fun D' s' x r g q k => hQ D' s' x r g q ⟨k.os, k.gens⟩
theorem ok_methodCall {o : Expr} {name : Str} {apos pos : Pos} {args : List Expr} {kws : List Keyword} {k : Nat} {x g : Value} {first : List Value} {r : Res V}
    (h1 : args.any starred = false) (h2 : kws.any kwless = false) (hk : k < 28) (hp : (apos.endLine == pos.line) = true)
    (hg : ∀ (pl : Sem Bool) (Q : Value × List Value → Shared → Prop) (E : Value → Shared → Prop) s, Rp P fm X D σ s.heap → (∀ tk, Q (g, first) { s with toks := tk }) → wpAny (model P.prog P.w) X.A (getMethod x name pl) Q E s)
    (h : Ok P fm X D σ (callWith pos g first (backTo pos (starEach args (envAt fm X))) (backToKw pos (keywordEach kws (envAt fm X)))) r (VRel X)) :
    Ok P fm X D σ (methodCall o name apos pos (envAt fm X) x k (backTo pos (starEach args (envAt fm X))) (backToKw pos (keywordEach kws (envAt fm X)))) r (VRel X) := by
  refine ok_toks h fun Q E s hs z => ?_
  unfold methodCall
  rw [form_true h1 h2 hk]
  refine wpAny_bind (wpAny_holding ?_)
  unfold calleeOf
  simp only [if_true]
  refine hg _ _ E s hs fun tk => ?_
  unfold methodCallPos
  dsimp only
  rw [hp]
  exact wpAny_bind (wpAny_pure (z tk))
noncomputable def isObjT : V → Bool
  | .stat v => v == .type "object"
  | _ => false
theorem isObjT_is {v : V} {x : Value} (hv : VRel X v D x) (h : isObjT v = true) : x = .type "object" := by
  cases v with
  | stat y => rw [VR.stat' hv, beq_iff_eq.mp h]
  | _ => cases h
noncomputable def argsE0 (lv : Lv) (fm : Fm) (args : List Expr) (kws : List Keyword) (k : List V → Ev V) : Ev V := argsE lv fm args kws >>= fun a => iff a.2.isEmpty (k a.1)
noncomputable def methFn (P : Pg) (C : Addr) (es : List (Str × V)) (name : Str) : Option Addr :=
  if plainGet P.K C name && (es.lookup name).isNone then (findIn P.K (.ref C) name).bind fun o => (refO o).bind fun f => if isFn P.K (.ref f) && keepIn P.K (.ref f) then some f else none else none
noncomputable def methI (P : Pg) (lv : Lv) (fm : Fm) (ov : V) (name : Str) (args : List Expr) (kws : List Keyword) : Ev V := onObj ov fun i => onInst i fun C es => onSome (methFn P C es name) fun f =>
  argsE lv fm args kws >>= fun a => lv.call fm (.stat (.ref f)) (.obj i :: a.1) a.2
noncomputable def methS (P : Pg) (lv : Lv) (fm : Fm) (ov : V) (name : Str) (args : List Expr) (kws : List Keyword) : Ev V :=
  if isObjT ov && (name == ("__new__" : Str)) then argsE0 lv fm args kws (objNewE P) else fun σ os => match btype σ ov with
      | some t => onSome (methOf t name) (fun b => argsE0 lv fm args kws (methB b ov)) σ os
      | none => methI P lv fm ov name args kws σ os
noncomputable def methForm (o : Expr) (apos pos : Pos) (args : List Expr) (kws : List Keyword) : Bool :=
  plainBase o && (!(args.any starred) && (!(kws.any kwless) && ((apos.endLine == pos.line) && decide (args.length + kws.length < 28))))
noncomputable def methE (P : Pg) (lv : Lv) (fm : Fm) (o : Expr) (name : Str) (apos pos : Pos) (args : List Expr) (kws : List Keyword) : Ev V :=
  iff (methForm o apos pos args kws) do
    let ov ← lv.e fm o
    methS P lv fm ov name args kws
theorem krel_nil {kw : List (Str × V)} {ks : List (Str × Value)} (h : KRel X kw D ks) (e : kw.isEmpty = true) : ks = [] := by
  cases h with
  | nil => rfl
  | cons _ _ => cases e
theorem methFn_is {C f : Addr} {es : List (Str × V)} {name : Str} (h : methFn P C es name = some f) : plainGet P.K C name = true ∧ es.lookup name = none ∧ findIn P.K (.ref C) name = some (some (.ref f)) ∧ isFn P.K (.ref f) = true ∧ keepIn P.K (.ref f) = true := by
  unfold methFn at h
  split at h
  · rename_i hc
    obtain ⟨hg, hl⟩ := band hc
    obtain ⟨o, h1, h⟩ := Option.bind_eq_some_iff.mp h
    obtain ⟨p, h2, h⟩ := Option.bind_eq_some_iff.mp h
    split at h
    · rename_i hc
      obtain ⟨hfn, hkp⟩ := band hc
      rw [Option.some.inj h] at h2 hfn hkp
      exact ⟨hg, Option.isNone_iff_eq_none.mp hl, by rw [h1, refO_is h2], hfn, hkp⟩
    · cases h
  · cases h
theorem ok_methE (S : Snd P n lv) (c : Cx P fm n X) (o : Expr) (name : Str) (apos pos : Pos) (args : List Expr) (kws : List Keyword) :
    Ok P fm X D σ (eval (.Call (.Attribute o name apos) args kws pos) (envAt fm X)) (methE P lv fm o name apos pos args kws σ os) (VRel X) := by
  refine ok_iff fun hc => ?_
  obtain ⟨hb, hc⟩ := band hc
  obtain ⟨h1, hc⟩ := band hc
  obtain ⟨h2, hc⟩ := band hc
  obtain ⟨hp, hk⟩ := band hc
  have hk := of_decide_eq_true hk
  have h1 : args.any starred = false := Bool.not_eq_true' _ ▸ h1
  have h2 : kws.any kwless = false := Bool.not_eq_true' _ ▸ h2
  rw [arm_eval_Call, base_plain hb]
  refine ok_bind (S.e fm X D σ os o c) fun ov σ₁ os₁ D₁ x g₁ r₁ => ok_standAt ?_
  unfold methS
  by_cases ho : (isObjT ov && (name == ("__new__" : Str))) = true
  · rw [if_pos ho]
    obtain ⟨ho1, ho2⟩ := band ho
    rw [isObjT_is r₁ ho1, beq_iff_eq.mp ho2]
    refine ok_methodCall (g := .builtin "object.__new__") (first := []) h1 h2 hk hp (fun pl Q E s hs q => method_object (M := model P.prog P.w) (hs.kin c) (q _)) ?_
    exact ok_callWith S c pos (keeps_machine fun _ e => nomatch e) fun a σ₂ os₂ D₂ y g₂ r₂ r₃ => ok_iff fun he => by rw [krel_nil r₃ he]; exact ok_objNew c r₂
  rw [if_neg ho]
  cases ht : btype σ₁ ov with
  | some t =>
    refine ok_onSome fun b hm => ?_
    obtain ⟨e1, e2⟩ := methOf_is hm
    refine ok_methodCall (g := .builtin b.id) (first := [x]) h1 h2 hk hp (fun pl Q E s hs q => ?_) ?_
    · obtain ⟨hT, hd⟩ := btype_is r₁ ht hs
      rw [← e1] at hT
      rw [e2]
      exact getMethod_builtin hT (bmeth b).plain (bmeth b).slot (bmeth b).ty hd (q s.toks)
    · exact ok_callWith S c pos (keeps_machine fun _ e => nomatch e) fun a σ₂ os₂ D₂ y g₂ r₂ r₃ => ok_iff fun he => by rw [krel_nil r₃ he]; exact ok_methB c b (rel_mono r₁ g₂) r₂
  | none =>
    refine ok_onObj fun i ei => ok_onInst fun C es hi => ok_onSome fun f hf => ?_
    subst ei
    obtain ⟨hg, hl, hf, hfn, hkp⟩ := methFn_is hf
    refine ok_methodCall (g := .ref f) (first := [x]) h1 h2 hk hp (fun pl Q E s hs q => ?_) ?_
    · obtain ⟨a, cc, sl, ds, kk, e, I, hd, _⟩ := inst_at hs r₁ hi
      rw [e] at q ⊢
      exact method_inst hs.F c.kin I hg hf hfn (hd.getL_none hl) (q s.toks)
    · exact ok_callWith S c pos (keeps_K hkp) fun a σ₂ os₂ D₂ y g₂ r₂ r₃ => ok_call (S.call fm X D₂ σ₂ os₂ _ _ _ _ _ _ c .stat (.cons (rel_mono r₁ g₂) r₂) r₃)
noncomputable def calleeS (P : Pg) : Value → Bool
  | .ref f => keepIn P.K (.ref f)
  | .type _ => true
  | .builtin _ => true
  | _ => false
noncomputable def callee (P : Pg) : V → Bool
  | .stat v => calleeS P v
  | _ => false
theorem callee_keeps {v : V} {x : Value} (hv : VRel X v D x) (h : callee P v = true) : ∀ hp, P.K.In hp → ∃ k, (k = Keeper.frame ∨ k = Keeper.machine ∨ k = Keeper.boundFrame) ∧ Looks (model P.prog P.w) hp (keeperOf x) k := by
  cases v with
  | stat y =>
    rw [VR.stat' hv]
    cases y with
    | ref f => exact keeps_K h
    | type T => exact keeps_machine fun _ e => nomatch e
    | builtin i => exact keeps_machine fun _ e => nomatch e
    | _ => cases h
  | _ => cases h
end
end Mini
namespace Mini
open PySem PySem.W PySem.Calls PyProof.Rows
variable {α β γ δ : Type}
section
variable {P : Pg} {fm : Fm} {X : Fx} {D : Dy} {σ : St} {os : Os} {n : Nat} {lv : Lv}
noncomputable def execsE (lv : Lv) (fm : Fm) : List Stmt → Ev Fl
  | [] => pure .next
  | s :: r => do
    let f ← lv.x fm s
    match f with
    | .next => execsE lv fm r
    | f => pure f
theorem arm_execs_cons (s : Stmt) (r : List Stmt) (env : Env) : execs (s :: r) env = (do match ← exec s env with | .next => execs r env | f => pure f) := rfl
theorem ok_execs (S : Snd P n lv) (c : Cx P fm n X) (ss : List Stmt) : ∀ (D : Dy) (σ : St) (os : Os), Ok P fm X D σ (execs ss (envAt fm X)) (execsE lv fm ss σ os) (FRel X) := by
  induction ss with
  | nil => exact fun D σ os => ok_pure (R := FRel X) (a := Fl.next) (b := Flow.next) rfl
  | cons s r ih =>
    intro D σ os
    rw [arm_execs_cons]
    refine ok_bind (S.x fm X D σ os s c) fun f σ₁ os₁ D₁ fl g₁ r₁ => ?_
    cases f with
    | next => rw [show fl = Flow.next from r₁]; exact ih D₁ σ₁ os₁
    | brk => rw [show fl = Flow.brk from r₁]; exact ok_pure (R := FRel X) (a := Fl.brk) (b := Flow.brk) rfl
    | cont => rw [show fl = Flow.cont from r₁]; exact ok_pure (R := FRel X) (a := Fl.cont) (b := Flow.cont) rfl
    | ret v => obtain ⟨x, rfl, hx⟩ := (show ∃ x, fl = Flow.ret x ∧ VRel X v D₁ x from r₁); exact ok_pure (R := FRel X) (a := Fl.ret v) (b := Flow.ret x) ⟨x, rfl, hx⟩
noncomputable def valV : Value → Option V
  | .none => some .none
  | .bool b => some (.bool b)
  | .int i _ => some (.int i)
  | .str s _ => some (.str s)
  | .type T => some (.stat (.type T))
  | .ref a => some (.stat (.ref a))
  | .builtin i => some (.stat (.builtin i))
  | _ => none
theorem valV_is {base : Heap} {ad news} {y : Value} {v : V} (h : valV y = some v) : VR base ad news v y := by
  cases y with
  | none => rw [← Option.some.inj h]; exact .none
  | bool b => rw [← Option.some.inj h]; exact .bool
  | int i t => rw [← Option.some.inj h]; exact .int
  | str i t => rw [← Option.some.inj h]; exact .str
  | type T => rw [← Option.some.inj h]; exact .stat
  | ref T => rw [← Option.some.inj h]; exact .stat
  | builtin T => rw [← Option.some.inj h]; exact .stat
  | _ => cases h
noncomputable def valVs : List Value → Option (List V)
  | [] => some []
  | y :: r => (valV y).bind fun v => (valVs r).map (v :: ·)
theorem valVs_is {base : Heap} {ad news} {ys : List Value} : ∀ {vs : List V}, valVs ys = some vs → VRs base ad news vs ys := by
  induction ys with
  | nil => intro vs h; rw [← Option.some.inj h]; exact .nil
  | cons y r ih =>
    intro vs h
    obtain ⟨v, h1, h⟩ := Option.bind_eq_some_iff.mp h
    obtain ⟨ws, h2, rfl⟩ := Option.map_eq_some_iff.mp h
    exact .cons (valV_is h1) (ih h2)
noncomputable def seqOf : Option Obj → Option (List Value)
  | none => none
  | some o => match o.data with
    | .seq items _ => some items.toList
    | _ => none
theorem seqOf_is {o : Option Obj} {l : List Value} (h : seqOf o = some l) : ∃ oc od xs k sl, o = some ⟨oc, od, .seq xs k, sl⟩ ∧ l = xs.toList := by
  cases o with
  | none => cases h
  | some o =>
    obtain ⟨oc, od, dt, sl⟩ := o
    cases dt with
    | seq xs k => exact ⟨oc, od, xs, k, sl, rfl, (Option.some.inj h).symm⟩
    | _ => cases h
noncomputable def dfltItems (K : Frag) : Value → Option (List Value)
  | .none => some []
  | .ref T => seqOf (K.lookup T)
  | _ => none
theorem binds_phys {s : Shared} (X₀ : P.K.In s.heap) {fd : FuncData} {po ar : List Arg} {d1 : List (Option Expr)} {d2 : List Expr} (hp : fd.params = ⟨po, ar, none, [], d1, none, d2⟩) {items : List Value} (hd : dfltItems P.K fd.defaults = some items)
    {xs : List Value} {ks binds : List (Str × Value)} (h : bindsOf (po.map (·.arg)) (ar.map (·.arg)) xs ks items = some binds) : BindsTo s fd ⟨xs, ks⟩ binds := by
  obtain ⟨k, h1, h2, h3⟩ := bind_look fd po ar d1 d2 hp xs ks binds items.toArray h
  cases e : fd.defaults with
  | none =>
    rw [e] at hd
    refine BindsTo.of_eq ?_
    rw [h1, e]
    exact h3 (by rw [← Option.some.inj hd])
  | ref T =>
    rw [e] at hd
    obtain ⟨oc, od, ys, kk, sl, ho, rfl⟩ := seqOf_is hd
    exact BindsTo.of_defaults e (X₀ _ _ ho) rfl h1 h2
  | _ => rw [e] at hd; cases hd
theorem pairs_of {base : Heap} {ad news} {vs : List V} : ∀ {xs : List Value}, VRs base ad news vs xs → ∃ zs : List (V × Value), zs.map (·.1) = vs ∧ zs.map (·.2) = xs ∧ ∀ z ∈ zs, VR base ad news z.1 z.2 := by
  induction vs with
  | nil => intro xs h; rw [h.nil']; exact ⟨[], rfl, rfl, fun _ h => nomatch h⟩
  | cons v vs ih =>
    intro xs h
    obtain ⟨y, ys, rfl, h, r⟩ := h.cons'
    obtain ⟨zs, e1, e2, hz⟩ := ih r
    exact ⟨(v, y) :: zs, congrArg (v :: ·) e1, congrArg (y :: ·) e2, List.forall_mem_cons.mpr ⟨h, hz⟩⟩
theorem kpairs_of {kw : List (Str × V)} {ks : List (Str × Value)} (h : KRel X kw D ks) : ∃ zs : List (Str × V × Value), mapS (·.1) zs = kw ∧ mapS (·.2) zs = ks ∧ ∀ z ∈ zs, VR X.base D.ad D.news z.2.1 z.2.2 := by
  induction h with
  | nil => exact ⟨[], rfl, rfl, fun _ h => nomatch h⟩
  | @cons n v x kw D ks h _ ih =>
    obtain ⟨zs, e1, e2, hz⟩ := ih
    exact ⟨(n, v, x) :: zs, congrArg ((n, v) :: ·) e1, congrArg ((n, x) :: ·) e2, List.forall_mem_cons.mpr ⟨h, hz⟩⟩
theorem binds_pairs {vs : List V} {xs : List Value} {kw : List (Str × V)} {ks : List (Str × Value)} {ds : List V} {ys : List Value} (h1 : VsRel X vs D xs) (h2 : KRel X kw D ks) (h3 : VRs X.base D.ad D.news ds ys)
    {po ar : List Str} {binds : List (Str × V)} (h : bindsOf po ar vs kw ds = some binds) : ∃ zs : List (Str × V × Value), mapS (·.1) zs = binds ∧ bindsOf po ar xs ks ys = some (mapS (·.2) zs) ∧ ∀ z ∈ zs, VR X.base D.ad D.news z.2.1 z.2.2 := by
  obtain ⟨za, rfl, rfl, ha⟩ := pairs_of h1
  obtain ⟨zk, rfl, rfl, hk⟩ := kpairs_of h2
  obtain ⟨zd, rfl, rfl, hd⟩ := pairs_of h3
  rw [bindsOf_map (fun (z : V × Value) => z.1)] at h
  obtain ⟨zs, hz, rfl⟩ := Option.map_eq_some_iff.mp h
  refine ⟨zs, rfl, by rw [bindsOf_map (fun (z : V × Value) => z.2), hz]; rfl, fun z hm => ?_⟩
  rcases bindsOf_mem hz z hm with q | q | q
  · exact ha _ q
  · obtain ⟨p, hp, e⟩ := List.mem_map.mp q
    have := hk p hp
    rw [e] at this; exact this
  · exact hd _ q
noncomputable def retV : Fl → V
  | .ret v => v
  | _ => .none
noncomputable def fnIn (K : Frag) (f : Addr) : Option FuncData := (K.lookup f).bind fun o => match o.data with
  | .func fd => some fd
  | _ => none
theorem fnIn_is {K : Frag} {f : Addr} {fd : FuncData} (h : fnIn K f = some fd) : ∃ o, K.lookup f = some o ∧ o.data = .func fd := by
  obtain ⟨o, h1, h⟩ := Option.bind_eq_some_iff.mp h
  refine ⟨o, h1, ?_⟩
  obtain ⟨oc, od, dt, sl⟩ := o
  cases dt with
  | func fd => exact congrArg _ (Option.some.inj h)
  | _ => cases h
noncomputable def stmtsOf : FuncBody → Option (List Stmt)
  | .stmts b => some b
  | _ => none
theorem stmtsOf_is {b : FuncBody} {ss : List Stmt} (h : stmtsOf b = some ss) : b = .stmts ss := by
  cases b with
  | stmts b => rw [Option.some.inj h]
  | _ => cases h
noncomputable def isFun : ScopeKind → Bool
  | .function => true
  | _ => false
theorem isFun_is {k : ScopeKind} (h : isFun k = true) : k = .function := by
  cases k with
  | function => rfl
  | _ => cases h
noncomputable def fdOk (K : Frag) (fd : FuncData) : Bool :=
  fd.params.vararg.isNone && (fd.params.kwonlyargs.isEmpty && (fd.params.kwarg.isNone && (fd.closure.isEmpty && (fd.globals == mainGlobals && (fd.builtins == builtinsNs && (isFun fd.scope.kind &&
    (!fd.scope.isCoroutine && (!fd.scope.isGenerator && (fd.scope.names.all (fun x => x.2 != .cell) && codeIn K fd.code fd.qualname)))))))))
structure FdOk (K : Frag) (fd : FuncData) (body : List Stmt) : Prop where
  params : fd.params = ⟨fd.params.posonlyargs, fd.params.args, none, [], fd.params.kw_defaults, none, fd.params.defaults⟩
  eta : fd = fnX fd.name fd.qualname fd.params body fd.scope [] fd.defaults fd.kwdefaults fd.doc fd.pyModule fd.annotations fd.code fd.closureTuple
  kind : fd.scope.kind = .function
  co : fd.scope.isCoroutine = false
  gen : fd.scope.isGenerator = false
  cell : ∀ x ∈ fd.scope.names, x.2 ≠ .cell
  code : codeIn K fd.code fd.qualname = true
theorem no_t {b : Bool} (h : (!b) = true) : b = false := Bool.not_eq_true' _ ▸ h
theorem fdOk_is {K : Frag} {fd : FuncData} {body : List Stmt} (h : fdOk K fd = true) (hb : fd.body = .stmts body) : FdOk K fd body := by
  obtain ⟨h1, h⟩ := band h
  obtain ⟨h2, h⟩ := band h
  obtain ⟨h3, h⟩ := band h
  obtain ⟨h4, h⟩ := band h
  obtain ⟨h5, h⟩ := band h
  obtain ⟨h6, h⟩ := band h
  obtain ⟨h7, h⟩ := band h
  obtain ⟨h8, h⟩ := band h
  obtain ⟨h9, h⟩ := band h
  obtain ⟨h10, h11⟩ := band h
  have g1 := Option.isNone_iff_eq_none.mp h1
  have g2 := List.isEmpty_iff.mp h2
  have g3 := Option.isNone_iff_eq_none.mp h3
  refine ⟨?_, ?_, isFun_is h7, no_t h8, no_t h9, fun x hx e => ?_, h11⟩
  · have e : fd.params = ⟨fd.params.posonlyargs, fd.params.args, fd.params.vararg, fd.params.kwonlyargs, fd.params.kw_defaults, fd.params.kwarg, fd.params.defaults⟩ := by cases fd.params; rfl
    rw [g1, g2, g3] at e
    exact e
  · have g4 := List.isEmpty_iff.mp h4
    have g5 := beq_iff_eq.mp h5
    have g6 := beq_iff_eq.mp h6
    have e : fd = ⟨fd.name, fd.qualname, fd.params, fd.body, fd.scope, fd.globals, fd.closure, fd.defaults, fd.kwdefaults, fd.doc, fd.pyModule, fd.annotations, fd.code, fd.closureTuple, fd.builtins⟩ := rfl
    rw [g4, g5, g6, hb] at e
    exact e
  · have := List.all_eq_true.mp h10 x hx
    rw [e] at this
    exact nomatch this
noncomputable def enterE (lv : Lv) (fm' : Fm) (body : List Stmt) (loc : List (Str × V)) : Ev V := fun σ os => match execsE lv fm' body ⟨loc, σ.hp⟩ os with
  | .ok fl σ' os' c => .ok (retV fl) ⟨σ.loc, σ'.hp⟩ os' c
  | .ex cls as σ' os' c => .ex cls as ⟨σ.loc, σ'.hp⟩ os' c
  | .no w => .no w
noncomputable def callFn (P : Pg) (lv : Lv) (hand : Bool) (f : Addr) (args : List V) (kw : List (Str × V)) : Ev V :=
  onSome (fnIn P.K f) fun fd => onSome (stmtsOf fd.body) fun body => iff (fdOk P.K fd) (onSome (dfltItems P.K fd.defaults) fun items => onSome (valVs items) fun ds =>
    onSome (bindsOf (fd.params.posonlyargs.map (·.arg)) (fd.params.args.map (·.arg)) args kw ds) fun binds => iff (binds.all fun y => fd.scope.names.lookup y.1 == some .local) (enterE lv ⟨fd.qualname, fd.scope, f, fd.code, hand, false⟩ body binds.reverse))
theorem okC_onSome {cd : Code} {o : Option γ} {k : γ → Ev α} {R : α → Dy → Flow → Prop} (h : ∀ x, o = some x → OkC P fm X D σ cd (k x σ os) R) : OkC P fm X D σ cd (onSome o k σ os) R := by
  cases o with
  | none => exact trivial
  | some x => exact h x rfl
theorem okC_iff {cd : Code} {b : Bool} {k : Ev α} {R : α → Dy → Flow → Prop} (h : b = true → OkC P fm X D σ cd (k σ os) R) : OkC P fm X D σ cd (iff b k σ os) R := by
  cases b with
  | true => exact h rfl
  | false => exact trivial
theorem mapS_rev {g : V × Value → γ} (zs : List (Str × V × Value)) : (mapS g zs).reverse = mapS g zs.reverse := List.map_reverse.symm
noncomputable def inFx (fm : Fm) (X : Fx) (fm' : Fm) (g : Heap) (L' : Addr) : Fx := ⟨X.A, X.A.deeper (envX fm'.name fm'.scope L' fm'.f fm'.cd []), X.base, g, envAt fm X :: X.outer, L', []⟩
theorem enter (c : Cx P fm (n + 1) X) {f : Addr} {fd : FuncData} {o : Obj} (ho : P.K.lookup f = some o) (hod : o.data = .func fd) {body : List Stmt} (ok : FdOk P.K fd body) {xs : List Value} {ks : List (Str × Value)} {zs : List (Str × V × Value)}
    (hb : ∀ s : Shared, P.K.In s.heap → BindsTo s fd ⟨xs, ks⟩ (mapS (·.2) zs)) (hz : ∀ z ∈ zs, VR X.base D.ad D.news z.2.1 z.2.2) (hloc : ∀ y ∈ mapS (·.1) zs, fd.scope.names.lookup y.1 = some .local) {s : Shared} (r : Rp P fm X D σ s.heap) {K : Result → Shared → Prop}
    (go : ∀ g L' h₁ tk, Fr X.h₀ X.L g D.m → Below X.A X.base (envAt fm X :: X.outer) g → X.h₀.StaysIn g → Cx P ⟨fd.qualname, fd.scope, f, fd.code, fm.hand, false⟩ n (inFx fm X ⟨fd.qualname, fd.scope, f, fd.code, fm.hand, false⟩ g L') →
      Rp P ⟨fd.qualname, fd.scope, f, fd.code, fm.hand, false⟩ (inFx fm X ⟨fd.qualname, fd.scope, f, fd.code, fm.hand, false⟩ g L') ⟨fun y => (mapS (·.2) zs).reverse.lookup y, D.news, D.ad⟩ ⟨(mapS (·.1) zs).reverse, σ.hp⟩ h₁ →
      wpAny (model P.prog P.w) (X.A.deeper (envX fd.qualname fd.scope L' f fd.code [])) (execs body (envX fd.qualname fd.scope L' f fd.code []))
        (fun fl s' => LeaveK X.h₀ X.L D.m g K (match fl with | .ret v => v | _ => .none) s')
        (fun e s' => wpAny (model P.prog P.w) (X.A.deeper (envX fd.qualname fd.scope L' f fd.code [])) (leaving (envX fd.qualname fd.scope L' f fd.code []) e) (fun _ s'' => K (.error e) s'') (fun e' s'' => K (.error e') s'') s') { s with heap := h₁, toks := tk }) :
    codeAny (model P.prog P.w) X.A (.call (.ref f) ⟨xs, ks⟩) K s := by
  have X₀ := r.kin c
  have hlocp : ∀ y ∈ mapS (·.2) zs, fd.scope.names.lookup y.1 = some .local := fun y hy => by
    obtain ⟨z, hm, rfl⟩ := List.mem_map.mp hy
    exact hloc (z.1, z.2.1) (List.mem_map.mpr ⟨z, hm, rfl⟩)
  have hb := hb s X₀
  rw [ok.eta] at hod hb
  refine callX_plain (cl := []) c.B r.F r.N c.top.nolimit c.hA rfl c.hk (X₀ _ _ ho) hod (codeRec_of X₀ ok.code) (Nat.lt_of_le_of_lt (Nat.le_add_right _ _) c.dep) hb hlocp (fun g L' h₁ FG F' N' B' st lt => ?_) ok.cell ok.co ok.gen ok.kind
  refine go g L' h₁ _ FG B' st ⟨ok.kind, Around.frames_deeper c.hA, B', ?_, ?_, c.hh, c.kin.keeps st, c.top.keeps st⟩ ⟨F', N', r.nd, r.len, r.dis, fun x v e => ?_, fun x e => absurd rfl (ok.cell _ (lookup_mem e)), fun _ _ _ e => (nomatch e), r.hp⟩
  · show X.A.depth + 1 + n < 1000
    rw [Nat.add_assoc, Nat.add_comm 1 n]; exact c.dep
  · show X.A.units + 3 + 20 * n < 9800
    refine Nat.lt_of_le_of_lt ?_ c.uni
    rw [Nat.mul_succ, ← Nat.add_assoc, Nat.add_right_comm]
    exact Nat.add_le_add_left (by decide) _
  · have e : (mapS (·.1) zs).reverse.lookup x = some v := e
    rw [mapS_rev, lookup_map] at e
    obtain ⟨z, hz', rfl⟩ := Option.map_eq_some_iff.mp e
    have hm : (x, z) ∈ zs := List.mem_reverse.mp (lookup_mem hz')
    refine .inl ⟨hlocp _ (List.mem_map.mpr ⟨_, hm, rfl⟩), z.2, ?_, hz _ hm⟩
    show (mapS (·.2) zs).reverse.lookup x = some z.2
    rw [mapS_rev, lookup_map, hz']; rfl
theorem Rp.back {fm' : Fm} {g : Heap} {L' : Addr} {D'' : Dy} {σ' : St} {h h₂ : Heap} {m₁ : Str → Option Value} (r : Rp P fm X D σ h) (g'' : Gr (inFx fm X fm' g L') ⟨m₁, D.news, D.ad⟩ D'') (rr : Rp P fm' (inFx fm X fm' g L') D'' σ' h₂) (F2 : Fr X.h₀ X.L h₂ D.m) (N2 : News X.h₀ X.L h₂ D''.news) :
    Gr X D ⟨D.m, D''.news, D''.ad⟩ ∧ Rp P fm X ⟨D.m, D''.news, D''.ad⟩ ⟨σ.loc, σ'.hp⟩ h₂ := by
  have gr : Gr X D ⟨D.m, D''.news, D''.ad⟩ := ⟨g''.ad, fun a o hm hc => g''.nw a o hm (hc.imp id fun h => ⟨h.1, fun _ e => (nomatch e)⟩)⟩
  have all : ∀ a o, (a, o) ∈ D.news → (∃ v, o.data = .cell v) → (a, o) ∈ D''.news := fun a o hm hc => g''.nw a o hm (.inr ⟨hc, fun _ e => (nomatch e)⟩)
  refine ⟨gr, F2, N2, rr.nd, rr.len, rr.dis, fun y w e => (r.loc y w e).mono gr fun a o z hm hd => all a o hm ⟨_, hd⟩, fun y e => ?_, r.inj, rr.hp⟩
  obtain ⟨cc, o, v₀, a1, a2, a3⟩ := r.cel y e
  exact ⟨cc, o, v₀, a1, all _ _ a2 ⟨_, a3⟩, a3⟩
theorem news_out {fm' : Fm} {g : Heap} {L' : Addr} {D'' : Dy} {σ' : St} {h₂ : Heap} (FG : Fr X.h₀ X.L g D.m) (st : X.h₀.StaysIn g) (rr : Rp P fm' (inFx fm X fm' g L') D'' σ' h₂) : News X.h₀ X.L h₂ D''.news := fun p hp => by
  have hp3 := (rr.N p hp).2.2
  refine ⟨(rr.N p hp).1, fun q => ?_, ?_⟩
  · obtain ⟨oL, es, ep, hL, _⟩ := FG.ns
    rw [q] at hp3
    exact nomatch hL.symm.trans hp3
  · cases q : X.h₀.get? p.1 with
    | none => rfl
    | some o => exact nomatch (st _ _ q).symm.trans hp3
theorem ok_callFn (S : Snd P n lv) (c : Cx P fm (n + 1) X) (f : Addr) {args : List V} {xs : List Value} {kw : List (Str × V)} {ks : List (Str × Value)} (h1 : VsRel X args D xs) (h2 : KRel X kw D ks) :
    OkC P fm X D σ (.call (.ref f) ⟨xs, ks⟩) (callFn P lv fm.hand f args kw σ os) (RetRel X D) := by
  refine okC_onSome fun fd hf => okC_onSome fun body hbd => okC_iff fun hc => okC_onSome fun items hd => okC_onSome fun ds hds => okC_onSome fun binds hb => okC_iff fun hloc => ?_
  obtain ⟨o, ho, hod⟩ := fnIn_is hf
  have ok := fdOk_is hc (stmtsOf_is hbd)
  obtain ⟨zs, e1, e2, hz⟩ := binds_pairs h1 h2 (valVs_is hds) hb
  subst e1
  have hloc : ∀ y ∈ mapS (·.1) zs, fd.scope.names.lookup y.1 = some .local := fun y hy => beq_iff_eq.mp (List.all_eq_true.mp hloc y hy)
  have hin := fun (s : Shared) (X₀ : P.K.In s.heap) => binds_phys X₀ ok.params hd e2
  have main := fun X' D' (c' : Cx P ⟨fd.qualname, fd.scope, f, fd.code, fm.hand, false⟩ n X') => ok_execs S c' body D' ⟨(mapS (·.1) zs).reverse, σ.hp⟩ os
  unfold enterE
  cases hx : execsE lv ⟨fd.qualname, fd.scope, f, fd.code, fm.hand, false⟩ body ⟨(mapS (·.1) zs).reverse, σ.hp⟩ os with
  | no w => exact trivial
  | ex cls as σ' os' cs =>
    intro hcs s r K hK
    refine enter c ho hod ok hin hz hloc r fun g L' h₁ tk FG B' st c' r' => ?_
    have main := main _ ⟨fun y => (mapS (·.2) zs).reverse.lookup y, D.news, D.ad⟩ c'
    rw [hx] at main
    refine main hcs _ r' (fun fl' s' => LeaveK X.h₀ X.L D.m g K (match fl' with | .ret v => v | _ => .none) s') _ PassesOwn.leaving fun D'' s' e x g'' k => ?_
    obtain ⟨ea, vs, h₂, rfl, rr, hv, hor⟩ := x
    obtain ⟨gr, rr2⟩ := r.back g'' rr (FG.keeps rr.F.keep) (news_out FG st rr)
    rcases hor with ⟨_, hmade⟩ | ⟨h₃, t, F3, U3, R3⟩
    · exact leave_raiseK (name := fd.qualname) (scope := fd.scope) (L := L') (a := f) (cd := fd.code) B' hmade rr.F rr.N (fun h' t R' U' => hK ⟨D.m, D''.news, D''.ad⟩ { s' with heap := h' } (.ref ea) ⟨ea, vs, h₂, rfl, rr2, hv, .inr ⟨g, t, FG, U', R'⟩⟩ gr ⟨k.os, k.gens⟩) ok.kind
    · exact leave_onK (name := fd.qualname) (scope := fd.scope) (L := L') (a := f) (cd := fd.code) B' F3 R3 U3 (fun h' R' U' => hK ⟨D.m, D''.news, D''.ad⟩ { s' with heap := h' } (.ref ea) ⟨ea, vs, h₂, rfl, rr2, hv, .inr ⟨g, t, FG, U', R'⟩⟩ gr ⟨k.os, k.gens⟩)
  | ok fl σ' os' cs =>
    intro hcs s r K hK
    refine enter c ho hod ok hin hz hloc r fun g L' h₁ tk FG B' st c' r' => ?_
    have main := main _ ⟨fun y => (mapS (·.2) zs).reverse.lookup y, D.news, D.ad⟩ c'
    rw [hx] at main
    refine main hcs _ r' (fun fl' s' => LeaveK X.h₀ X.L D.m g K (match fl' with | .ret v => v | _ => .none) s') _ fun D'' s' fl' r'' g'' q k => ?_
    have fin : ∀ v x, VRel X v ⟨D.m, D''.news, D''.ad⟩ x → retV fl = v → LeaveK X.h₀ X.L D.m g K x s' := fun v x hv ev => ⟨L', D''.m, D''.news, r''.F, r''.N, fun F2 N2 => by
      obtain ⟨gr, rr2⟩ := r.back g'' r'' F2 N2
      exact hK ⟨D.m, D''.news, D''.ad⟩ s' (.ret x) rr2 gr ⟨⟨x, rfl, ev ▸ hv⟩, rfl⟩ ⟨k.os, k.gens⟩⟩
    cases fl with
    | ret v => obtain ⟨x, rfl, hx'⟩ := (show ∃ x, fl' = Flow.ret x ∧ VRel _ v D'' x from q); exact fin _ _ hx' rfl
    | next => rw [show fl' = Flow.next from q]; exact fin _ _ .none rfl
    | brk => rw [show fl' = Flow.brk from q]; exact fin _ _ .none rfl
    | cont => rw [show fl' = Flow.cont from q]; exact fin _ _ .none rfl
end
end Mini
namespace Mini
open PySem PySem.W PySem.Calls PyProof.Rows PyProof
section
variable {prog : Program} {w : World} {base : Heap} {ad : List (Addr × Addr)} {news : List (Addr × Obj)}
theorem DR.pairs {es : List (Str × V)} {ds : List DictEntry} (r : DR w.params base ad news es ds) : ∃ kvs : List (Str × Value), Pairs (PySem.strKind prog w) ds kvs ∧ (∀ e ∈ ds, ∃ k, (PySem.strKind prog w).is k e.key = true ∧ e.hash = (PySem.strKind prog w).hash k) ∧
    kvs.map (·.1) = es.map (·.1) ∧ VRs base ad news (es.map (·.2)) (kvs.map (·.2)) := by
  induction r with
  | nil => exact ⟨[], .nil, fun _ h => absurd h List.not_mem_nil, rfl, .nil⟩
  | @cons x t v y es ds h _ ih =>
    obtain ⟨kvs, h1, h2, h3, h4⟩ := ih
    exact ⟨(x, y) :: kvs, .cons (PySem.strKind_is prog w x t) rfl h1, List.forall_mem_cons.mpr ⟨⟨x, PySem.strKind_is prog w x t, rfl⟩, h2⟩, congrArg (x :: ·) h3, .cons h h4⟩
theorem DR.of {ds : List DictEntry} {kvs : List (Str × Value)} (p : Pairs (PySem.strKind prog w) ds kvs) : ∀ {es : List (Str × V)}, (∀ e ∈ ds, ∃ k, (PySem.strKind prog w).is k e.key = true ∧ e.hash = (PySem.strKind prog w).hash k) →
    kvs.map (·.1) = es.map (·.1) → VRs base ad news (es.map (·.2)) (kvs.map (·.2)) → DR w.params base ad news es ds := by
  induction p with
  | nil =>
    intro es _ h _
    cases es with
    | nil => exact .nil
    | cons a r => exact nomatch h
  | @cons e kv ds kvs h1 h2 p ih =>
    intro es hk h hv
    cases es with
    | nil => exact nomatch h
    | cons a r =>
      obtain ⟨hk, hks⟩ := List.forall_mem_cons.mp hk
      obtain ⟨k, q1, q2⟩ := hk
      have h3 : kv.1 = a.1 := (List.cons.inj h).1
      obtain ⟨y, ys, e1, e2, e3⟩ := VRs.cons' hv
      have e4 := (List.cons.inj e1).1
      have e5 := (List.cons.inj e1).2
      have d := ih (es := r) hks (List.cons.inj h).2 (e5 ▸ e3)
      obtain ⟨eh, ek, ev⟩ := e
      obtain ⟨t, rfl⟩ := PySem.Value.isStrOf_shape h1
      have hkk : k = kv.1 := (beq_iff_eq.mp (show (kv.1 == k) = true from q1)).symm
      have h2 : ev = kv.2 := h2
      have q2 : eh = _ := q2
      subst q2 h2
      obtain ⟨ax, av⟩ := a
      obtain ⟨kk, kvv⟩ := kv
      have h3 : kk = ax := h3
      subst h3
      have hkk : k = kk := hkk
      subst hkk
      have e4 : kvv = y := e4
      subst e4
      exact .cons e2 d
theorem DR.isDict {es : List (Str × V)} {ds : List DictEntry} {n : Nat} (r : DR w.params base ad news es ds) (hn : (es.map (·.1)).Nodup) : ∃ kvs : List (Str × Value), (dictOf ds n).IsDictOf (PySem.strKind prog w) kvs ∧ kvs.map (·.1) = es.map (·.1) ∧ VRs base ad news (es.map (·.2)) (kvs.map (·.2)) := by
  obtain ⟨kvs, h1, h2, h3, h4⟩ := r.pairs (prog := prog) (w := w)
  exact ⟨kvs, ⟨ds.toArray, n, ⟨rfl, rfl, rfl⟩, rfl, fun e he => h2 e (by simpa using he), by simpa using h1, by rw [h3]; exact hn⟩, h3, h4⟩
theorem isDict_of {o : Obj} {kvs : List (Str × Value)} (h : o.IsDictOf (PySem.strKind prog w) kvs) {es : List (Str × V)} (h3 : kvs.map (·.1) = es.map (·.1)) (h4 : VRs base ad news (es.map (·.2)) (kvs.map (·.2))) : ∃ ds n, o = dictOf ds n ∧ DR w.params base ad news es ds := by
  obtain ⟨as, n, ⟨c1, c2, c3⟩, hd, hk, hp, _⟩ := h
  refine ⟨as.toList, n, ?_, DR.of hp (fun e he => hk e (by simpa using he)) h3 h4⟩
  obtain ⟨oc, od, odt, osl⟩ := o
  cases c1; cases c2; cases c3; cases hd
  rfl
end
theorem updF_exists {l : List (Addr × Obj)} {a : Addr} {o : Obj} : (l.map (·.1)).Nodup → (a, o) ∈ l → ∃ g, UpdF a o l g ∧ ∀ o', (a, o') ∈ g o' ∧ (∀ b x, (b, x) ∈ l → b ≠ a → (b, x) ∈ g o') ∧ (g o').map (·.1) = l.map (·.1) := by
  induction l with
  | nil => exact fun _ h => nomatch h
  | cons p r ih =>
    intro nd hm
    obtain ⟨n1, n2⟩ := List.nodup_cons.mp nd
    rcases List.mem_cons.mp hm with rfl | hm
    · refine ⟨_, .head fun q hq e => n1 (show a ∈ _ from e ▸ List.mem_map_of_mem (f := (·.1)) hq), fun o' => ⟨.head _, fun b x hb hne => ?_, rfl⟩⟩
      rcases List.mem_cons.mp hb with e | hb
      · cases e; exact absurd rfl hne
      · exact .tail _ hb
    · obtain ⟨g, U, h⟩ := ih n2 hm
      refine ⟨_, .tail (fun e => n1 (by show p.1 ∈ _; rw [e]; exact List.mem_map_of_mem (f := (·.1)) hm)) U, fun o' => ?_⟩
      obtain ⟨h1, h2, h3⟩ := h o'
      refine ⟨.tail _ h1, fun b x hb hne => ?_, congrArg (p.1 :: ·) h3⟩
      rcases List.mem_cons.mp hb with rfl | hb
      · exact .head _
      · exact .tail _ (h2 b x hb hne)
variable {α β γ δ : Type}
section
variable {P : Pg} {fm : Fm} {X : Fx} {D : Dy} {σ : St} {os : Os} {n : Nat} {lv : Lv} {h : Heap} {R : α → Dy → β → Prop} {t : Sem β}
theorem dict_at (r : Rp P fm X D σ h) {i : Nat} {x : Value} {es : List (Str × V)} (hv : VRel X (.obj i) D x) (hn : σ.hp[i]? = some (.dict es)) :
    ∃ a ds m, x = .ref a ∧ (a, dictOf ds m) ∈ D.news ∧ DR P.w.params X.base D.ad D.news es ds ∧ ∃ p, D.ad[i]? = some p ∧ p.1 = a ∧ p.2 = a ∧ (a == sysModules) = false := by
  obtain ⟨p, hp, rfl⟩ := VR.obj' hv
  obtain ⟨p', hp', e, ds, m, hm, hd, lo⟩ := r.hp i _ hn
  rw [hp] at hp'
  cases hp'
  exact ⟨p.1, ds, m, rfl, e ▸ hm, hd, p, hp, rfl, e.symm, e ▸ lo⟩
end
end Mini
namespace Mini
open PySem PySem.W PySem.Calls PyProof.Rows
variable {α β γ δ : Type}
section
variable {P : Pg} {fm : Fm} {X : Fx} {D : Dy} {σ : St} {os : Os} {n : Nat} {lv : Lv}
theorem putV_lookup (x y : Str) (v : V) : ∀ l : List (Str × V), (putV x v l).lookup y = if y = x then some v else l.lookup y
  | [] => by
    show List.lookup y [(x, v)] = _
    rw [List.lookup_cons]
    by_cases h : y = x
    · rw [if_pos h, h, beq_self_eq_true]
    · rw [if_neg h, beq_eq_false_iff_ne.mpr h]
  | (z, w) :: r => by
    unfold putV
    by_cases hz : (z == x) = true
    · rw [if_pos hz]
      have hz := beq_iff_eq.mp hz
      subst hz
      rw [List.lookup_cons, List.lookup_cons]
      by_cases h : y = z
      · rw [if_pos h, h, beq_self_eq_true]
      · rw [if_neg h, beq_eq_false_iff_ne.mpr h]
    · rw [if_neg hz, List.lookup_cons, List.lookup_cons, putV_lookup x y v r]
      have hz : z ≠ x := fun e => hz (by rw [e]; exact beq_self_eq_true x)
      by_cases h : y = x
      · subst h; rw [if_pos rfl, if_pos rfl, beq_eq_false_iff_ne.mpr (Ne.symm hz)]
      · rw [if_neg h, if_neg h]
noncomputable def isLoc : Option NameKind → Bool
  | none => false
  | some k => match k with
    | .local => true
    | _ => false
theorem isLoc_is {o : Option NameKind} (h : isLoc o = true) : o = some .local := by
  cases o with
  | none => cases h
  | some k =>
    cases k with
    | «local» => rfl
    | _ => cases h
noncomputable def isSto : Option NameKind → Bool
  | none => false
  | some k => match k with
    | .local => true
    | .cell => true
    | _ => false
theorem isSto_is {o : Option NameKind} (h : isSto o = true) : o = some .local ∨ o = some .cell := by
  cases o with
  | none => cases h
  | some k =>
    cases k with
    | «local» => exact .inl rfl
    | cell => exact .inr rfl
    | _ => cases h
noncomputable def notAny : LO → Bool
  | .any _ => false
  | _ => true
noncomputable def stoOk (o : Option NameKind) (hp : List LO) : Bool := isSto o && (isLoc o || hp.all notAny)
theorem isLoc_sto {o : Option NameKind} {hp : List LO} (h : isLoc o = true) : stoOk o hp = true := by rw [isLoc_is h]; rfl
theorem ncSeq {xs : Array Value} {n : Nat} {v : Option Value} (q : Data.seq xs n = .cell v) : False := nomatch q
theorem ncFields {fs : Array Value} {v : Option Value} (q : Data.fields fs = .cell v) : False := nomatch q
theorem OR.noCell {P : Params} {base : Heap} {D : Dy} {p : Addr × Addr} {lo : LO} (nd : (D.news.map (·.1)).Nodup) (x : OR P base D.ad D.news p lo) (hna : notAny lo = true) {o : Obj} {v : Option Value} (hm : (p.2, o) ∈ D.news) (hd : o.data = .cell v) : False := by
  have key : ∀ {o' : Obj}, (p.2, o') ∈ D.news → (∀ v, o'.data ≠ .cell v) → False := fun {o'} h n => n v (nodup_uniq nd h hm ▸ hd)
  cases lo with
  | list vs => exact x.2.elim fun xs q => q.elim fun n q => key q.1 fun v e => ncSeq e
  | deque vs => obtain ⟨_, xs, n, h, _⟩ := x; exact key h nofun
  | dict es => obtain ⟨_, xs, n, h, _⟩ := x; exact key h nofun
  | iter n i => obtain ⟨_, q, o', _, h, _, h2⟩ := x; exact key h (noCellD h2 fun v e => ncFields e)
  | it q => obtain ⟨_, o', h, _, _, fs, h2⟩ := x; exact key h (noCellD h2 fun v e => ncFields e)
  | any o => exact nomatch hna
  | tab l => obtain ⟨_, o', h, h2, _⟩ := x; exact key h h2.1
  | over => obtain ⟨_, o', fs, h, _, h2⟩ := x; exact key h (noCellD h2 fun v e => ncFields e)
  | inst C es => obtain ⟨_, ds, n, h, _⟩ := x; exact key h nofun
theorem Rp.cell {h' : Heap} {x : Str} {c : Addr} {o o' : Obj} {v₀ : Option Value} {v : V} {y : Value} {news' : List (Addr × Obj)} (r : Rp P fm X D σ h') (hc : X.cl.lookup x = some c) (hm : (c, o) ∈ D.news) (hd : o.data = .cell v₀) (hx : fm.scope.names.lookup x = some .cell) (hv : VR X.base D.ad D.news v y)
    (hna : σ.hp.all notAny = true) {h : Heap} (k0 : (c, o') ∈ news') (k1 : ∀ a z, (a, z) ∈ D.news → a ≠ c → (a, z) ∈ news') (k2 : news'.map (·.1) = D.news.map (·.1)) (hd' : o'.data = .cell (some y)) (F' : Fr X.h₀ X.L h D.m) (N' : News X.h₀ X.L h news') :
    Rp P fm X { D with news := news' } ⟨putV x v σ.loc, σ.hp⟩ h ∧ Gr X D { D with news := news' } := by
  have uq : ∀ {z : Obj}, (c, z) ∈ D.news → z = o := fun hz => nodup_uniq r.nd hz hm
  have g : Gr X D { D with news := news' } := ⟨fun _ _ e => e, fun a z hz hor => k1 a z hz fun e => by
    subst e
    cases uq hz
    rcases hor with q | ⟨_, q⟩
    · rcases q.2 with ⟨_, _, e⟩ | ⟨_, e⟩ <;> rw [hd] at e <;> exact nomatch e
    · exact q x hc⟩
  refine ⟨⟨F', N', by rw [k2]; exact r.nd, r.len, r.dis, fun z w e => ?_, fun z hz => ?_, r.inj, fun j lo e => ?_⟩, g⟩
  · have e : (putV x v σ.loc).lookup z = some w := e
    rw [putV_lookup] at e
    by_cases hzx : z = x
    · rw [if_pos hzx] at e
      rw [← Option.some.inj e]
      subst hzx
      exact .inr ⟨.inl hx, c, o', y, hc, k0, hd', hv.mono g⟩
    · rw [if_neg hzx] at e
      rcases r.loc z w e with ⟨k, u, hu, hr⟩ | ⟨k, c', o₁, u, hc', hm', hd₁, hr⟩
      · exact .inl ⟨k, u, hu, hr.mono g⟩
      · exact .inr ⟨k, c', o₁, u, hc', k1 _ _ hm' fun e => hzx (r.inj z x c' hc' (e ▸ hc)), hd₁, hr.mono g⟩
  · obtain ⟨c', o₁, v₁, hc', hm', hd₁⟩ := r.cel z hz
    by_cases e : c' = c
    · subst e
      exact ⟨c', o', some y, hc', k0, hd'⟩
    · exact ⟨c', o₁, v₁, hc', k1 _ _ hm' e, hd₁⟩
  · obtain ⟨p, hp, hor⟩ := r.hp j lo e
    refine ⟨p, hp, hor.mono g fun a z hz ha => k1 a z hz fun e => ?_⟩
    subst e
    cases uq hz
    rcases ha with ha | ha
    · exact hor.noCell r.nd (List.all_eq_true.mp hna _ (List.mem_of_getElem? e)) (ha ▸ hm) hd
    · rw [hd] at ha; exact nomatch ha
noncomputable def storeE (fm : Fm) (x : Str) (v : V) : Ev Unit := fun σ os => iff (stoOk (fm.scope.names.lookup x) σ.hp) (fun σ os => .ok () ⟨putV x v σ.loc, σ.hp⟩ os []) σ os
theorem ok_store (c : Cx P fm n X) (x : Str) {v : V} {y : Value} (hv : VRel X v D y) : Ok P fm X D σ (storeName (envAt fm X) x y) (storeE fm x v σ os) (fun _ _ _ => True) := by
  refine ok_iff fun hx => ?_
  obtain ⟨hx, hor⟩ := band hx
  rcases isSto_is hx with hx | hx
  · intro _ s r Q E hQ
    refine storeX_L r.F r.N (fun h' F' N' => ?_) c.hk hx
    refine hQ ⟨fun z => if z = x then some y else D.m z, D.news, D.ad⟩ _ () ⟨F', N', r.nd, r.len, r.dis, fun z w e => ?_, r.cel, r.inj, r.hp⟩ ⟨fun _ _ h => h, fun _ _ h _ => h⟩ trivial ⟨rfl, rfl⟩
    have e : (putV x v σ.loc).lookup z = some w := e
    rw [putV_lookup] at e
    by_cases hz : z = x
    · rw [if_pos hz] at e
      rw [← Option.some.inj e]
      subst hz
      exact .inl ⟨hx, y, if_pos rfl, hv⟩
    · rw [if_neg hz] at e
      rcases r.loc z w e with ⟨k, u, hu, hr⟩ | q
      · exact .inl ⟨k, u, (if_neg hz).trans hu, hr⟩
      · exact .inr q
  · intro _ s r Q E hQ
    obtain ⟨cc, o, v₀, hc, hm, hd⟩ := r.cel x hx
    obtain ⟨g, U, hg⟩ := updF_exists r.nd hm
    refine storeX_C r.F r.N hc U hd (fun h' o' F' N' hd' => ?_) c.hk hx
    obtain ⟨a1, a2, a3⟩ := hg o'
    have hna : σ.hp.all notAny = true := by rw [hx] at hor; exact hor
    obtain ⟨r', gg⟩ := r.cell hc hm hd hx hv hna a1 a2 a3 hd' F' N'
    exact hQ _ _ () r' gg trivial ⟨rfl, rfl⟩
theorem ok_bindName (c : Cx P fm n X) (x : Str) {v : V} {y : Value} (hv : VRel X v D y) : Ok P fm X D σ (bindName (envAt fm X) x y) (storeE fm x v σ os) (fun _ _ _ => True) :=
  ok_of (ok_store c x hv) fun Q E s _ z => wpAny_bindName z
theorem ok_under {T t : Sem β} {r : Res α} {R : α → Dy → β → Prop} (h : Ok P fm X D σ t r R)
    (e : ∀ (Q : β → Shared → Prop) (E : Value → Shared → Prop) s, Rp P fm X D σ s.heap → (∀ h', Rp P fm X D σ h' → wpAny (model P.prog P.w) X.A t Q E { s with heap := h' }) → wpAny (model P.prog P.w) X.A T Q E s) : Ok P fm X D σ T r R := by
  cases r with
  | no w => exact trivial
  | ex cls args σ' os c => exact fun hc s hs Q E hE hQ => e Q E s hs fun h' r' => h hc { s with heap := h' } r' Q E hE fun D' s' ev x g k => hQ D' s' ev x g ⟨k.os, k.gens⟩
  | ok a σ' os c => exact fun hc s hs Q E hQ => e Q E s hs fun h' r' => h hc { s with heap := h' } r' Q E fun D' s' x r g q k => hQ D' s' x r g q ⟨k.os, k.gens⟩
noncomputable def ItemAt (vs : List V) (k : Int) (v : V) : Prop := -(2 ^ 63) ≤ k ∧ k < 2 ^ 63 ∧ ∃ j, seqIndex? k vs.length = some j ∧ vs[j]? = some v
noncomputable def setAtV (vs : List V) (k : Int) (v : V) : List V := match seqIndex? k vs.length with
  | some j => vs.set j v
  | none => vs
noncomputable def getI (n : Nat) (k : Int) : Ev V := onLst n fun vs => tell (ItemAt vs k)
noncomputable def setI (n : Nat) (k : Int) (v : V) : Ev Unit := onLst n fun vs => fun σ os => .ok () ⟨σ.loc, σ.hp.set n (.list (setAtV vs k v))⟩ os [-(2 ^ 63) ≤ k ∧ k < 2 ^ 63 ∧ (seqIndex? k vs.length).isSome = true]
theorem seq_pos {k : Int} {n j : Nat} (h : seqIndex? k n = some j) (h0 : 0 ≤ k) : k.toNat = j ∧ k < n ∧ j < n := by
  unfold seqIndex? at h
  dsimp only at h
  rw [if_neg (Int.not_lt.mpr h0)] at h
  split at h
  · rename_i hc
    obtain ⟨h1, h2⟩ := band hc
    have h2 := of_decide_eq_true h2
    have h := Option.some.inj h
    exact ⟨h, h2, by omega⟩
  · cases h
theorem seq_neg {k : Int} {n j : Nat} (h : seqIndex? k n = some j) (h0 : k < 0) : (k + n).toNat = j ∧ -(n : Int) ≤ k ∧ j < n := by
  unfold seqIndex? at h
  dsimp only at h
  rw [if_pos h0] at h
  split at h
  · rename_i hc
    obtain ⟨h1, h2⟩ := band hc
    have h1 := of_decide_eq_true h1
    have h := Option.some.inj h
    exact ⟨h, by omega, by omega⟩
  · cases h
theorem ok_getI {i : Nat} {k : Int} {x : Value} {t : Tok} (hs : VRel X (.obj i) D x) : Ok P fm X D σ (getItem x (.int k t)) (getI i k σ os) (VRel X) := by
  refine ok_onLst fun vs hn => ok_tell fun v os' hC => ok_same_pure fun Q E s r q => ?_
  obtain ⟨f1, f2, j, hj, hv⟩ := hC
  obtain ⟨a, xs, m, rfl, e2, e3, _⟩ := lst_at r hs hn
  obtain ⟨y, hy, hr⟩ := e3.get hv
  have hsz : vs.length = xs.size := by rw [← e3.length, Array.length_toList]
  rw [Array.getElem?_toList] at hy
  rw [hsz] at hj
  have hl : s.heap.IsList a xs := ⟨_, e2, rfl, m, rfl⟩
  rcases Int.lt_or_le k 0 with h0 | h0
  · obtain ⟨e, h1, _⟩ := seq_neg hj h0
    exact wpAny_getItem_list_neg hl h0 h1 f1 (by rw [e]; exact hy) (q y s.toks hr)
  · obtain ⟨e, _⟩ := seq_pos hj h0
    exact wpAny_getItem_list hl h0 f2 (by rw [e]; exact hy) (q y s.toks hr)
theorem setL_some : ∀ {l : List Value} {k : Nat} {v : Value}, k < l.length → ki_setL l k v = some (l.set k v) := by
  intro l
  induction l with
  | nil => intro k v h; exact absurd h (Nat.not_lt_zero _)
  | cons x r ih =>
    intro k v h
    cases k with
    | zero => rfl
    | succ k => unfold ki_setL; rw [ih (Nat.lt_of_succ_lt_succ h)]; rfl
theorem VRs.setAt {base : Heap} {ad news} {v : V} {x : Value} (hv : VR base ad news v x) {vs : List V} : ∀ {xs : List Value} {k : Nat}, VRs base ad news vs xs → VRs base ad news (vs.set k v) (xs.set k x) := by
  induction vs with
  | nil => intro xs k h; rw [h.nil', List.set_nil, List.set_nil]; exact .nil
  | cons u vs ih =>
    intro xs k h
    obtain ⟨y, ys, rfl, a, r⟩ := h.cons'
    cases k with
    | zero => exact .cons hv r
    | succ k => exact .cons a (ih r)
theorem ok_setI {i : Nat} {k : Int} {x z : Value} {v : V} {t : Tok} (hs : VRel X (.obj i) D x) (hv : VRel X v D z) : Ok P fm X D σ (setItem x (.int k t) z) (setI i k v σ os) (fun _ _ _ => True) := by
  refine ok_onLst fun vs hn => ok_chg hs hn fun hc xs n h3 s r A ex hm => ?_
  subst ex
  obtain ⟨f1, f2, hj⟩ := hc _ (.head _)
  obtain ⟨j, hj⟩ := Option.isSome_iff_exists.mp hj
  have hsz : vs.length = xs.toList.length := h3.length.symm
  have e : setAtV vs k v = vs.set j v := by unfold setAtV; rw [hj]
  refine ⟨(xs.toList.set j z).toArray, n, (), by rw [e]; exact VRs.setAt hv h3, fun _ _ => trivial, fun Q E news' U q => ?_⟩
  rcases Int.lt_or_le k 0 with h0 | h0
  · obtain ⟨e, h1, hl⟩ := seq_neg hj h0
    exact ki_setNeg r.F r.N h0 f1 (j := j) (by rw [← Array.length_toList, ← hsz]; exact hj) (setL_some (by rw [← hsz]; exact hl)) U q
  · obtain ⟨e, _, hl⟩ := seq_pos hj h0
    exact ki_set r.F r.N h0 f2 (by rw [e]; exact setL_some (by rw [← hsz]; exact hl)) U q
noncomputable def notSl : Expr → Bool
  | .Slice .. => false
  | _ => true
noncomputable def setE (n : Nat) (iv v : V) : Ev Unit := match iv with
  | .str k => fail "own dict"
  | iv => onInt iv fun k => setI n k v
theorem ok_setE {i : Nat} {iv v : V} {x z y : Value} (hs : VRel X (.obj i) D x) (hi : VRel X iv D z) (hv : VRel X v D y) : Ok P fm X D σ (setItem x z y) (setE i iv v σ os) (fun _ _ _ => True) := by
  have num := ok_onInt (P := P) (fm := fm) (X := X) (D := D) (σ := σ) (os := os) (T := fun z => setItem x z y) hi fun k t => ok_setI (k := k) (t := t) hs hv
  cases iv with
  | str k => exact trivial
  | _ => exact num
noncomputable def asg1E (P : Pg) (lv : Lv) (fm : Fm) (t : Expr) (v : V) : Ev Unit := match t with
  | .Name x _ => storeE fm x v
  | .Attribute o a _ => do
    let ov ← lv.e fm o
    setA P ov a v
  | .Subscript o i _ => do
    let ov ← lv.e fm o
    let iv ← lv.e fm i
    onObj ov fun n => setE n iv v
  | _ => fail "target"
theorem ok_asg1 (S : Snd P n lv) (c : Cx P fm n X) (t : Expr) {v : V} {y : Value} (hv : VRel X v D y) : Ok P fm X D σ (assign t (envAt fm X) y) (asg1E P lv fm t v σ os) (fun _ _ _ => True) := by
  cases t with
  | Name x p => rw [arm_assign_Name]; exact ok_standAt (ok_bindName c _ hv)
  | Attribute o a p =>
    rw [arm_assign_Attribute]
    refine ok_bind (k := fun ov => setA P ov a v) (ok_holding (S.e fm X D σ os o c)) fun ov σ₁ os₁ D₁ x g₁ r₁ => ok_standAt ?_
    refine ok_of (ok_setA c r₁ (rel_mono hv g₁) a) fun Q E s _ z => wpAny_bind (wpAny_holding (wpAny_mono z (fun _ _ q => wpAny_release' q) fun _ _ q => q))
  | Subscript o i p =>
    rw [arm_assign_Subscript]
    refine ok_bind (k := fun ov => lv.e fm i >>= fun iv => onObj ov fun n => setE n iv v) (ok_holding (S.e fm X D σ os o c)) fun ov σ₁ os₁ D₁ x g₁ r₁ => ok_bind (ok_holding (S.e fm X D₁ σ₁ os₁ i c)) fun iv σ₂ os₂ D₂ z g₂ r₂ => ok_standAt ?_
    refine ok_of (ok_onObj fun n e => ok_setE (e ▸ rel_mono r₁ g₂) r₂ (rel_mono hv (g₁.trans g₂))) fun Q E s _ z => wpAny_bind (wpAny_holding (wpAny_mono z (fun _ _ q => wpAny_release' q) fun _ _ q => q))
  | _ => exact trivial
noncomputable def asgsE (P : Pg) (lv : Lv) (fm : Fm) : List Expr → List V → Ev Unit
  | [], vs => on0 vs (pure ())
  | e :: es, vs => match vs with
    | [] => fail "unpack"
    | v :: vs => do
      asg1E P lv fm e v
      asgsE P lv fm es vs
theorem assignEach_cons {e : Expr} {r : List Expr} (h : starred e = false) (env : Env) : assignEach (e :: r) env = (false, assign e env) :: assignEach r env := by
  cases e with
  | Starred a b => cases h
  | _ => rfl
theorem ok_asgs (S : Snd P n lv) (c : Cx P fm n X) (es : List Expr) : ∀ (vs : List V) (ys : List Value) (D : Dy) (σ : St) (os : Os), es.any starred = false → VsRel X vs D ys →
    Ok P fm X D σ (assignInOrder ((assignEach es (envAt fm X)).map (·.2)) ys) (asgsE P lv fm es vs σ os) (fun _ _ _ => True) := by
  induction es with
  | nil => exact fun vs ys D σ os hs hv => ok_on0 (Ts := fun ys => assignInOrder [] ys) hv (ok_pure trivial)
  | cons e r ih =>
    intro vs ys D σ os hs hv
    rw [List.any_cons, Bool.or_eq_false_iff] at hs
    rw [assignEach_cons hs.1]
    cases vs with
    | nil => exact trivial
    | cons v vs =>
      obtain ⟨x, xs, rfl, h1, h2⟩ := VRs.cons' hv
      show Ok P fm X D σ (holding xs (assign e (envAt fm X) x) >>= fun _ => assignInOrder ((assignEach r (envAt fm X)).map (·.2)) xs) ((do asg1E P lv fm e v; asgsE P lv fm r vs : Ev Unit) σ os) _
      exact ok_bind (ok_holding (ok_asg1 S c e h1)) fun _ σ₁ os₁ D₁ _ g₁ _ => ih vs xs D₁ σ₁ os₁ hs.2 (rels_mono h2 g₁)
theorem assignEach_len (env : Env) {es : List Expr} (h : es.any starred = false) : (assignEach es env).length = es.length := by
  induction es with
  | nil => rfl
  | cons e r ih => rw [List.any_cons, Bool.or_eq_false_iff] at h; rw [assignEach_cons h.1, List.length_cons, ih h.2]; rfl
theorem star_find (env : Env) {es : List Expr} (h : es.any starred = false) : (assignEach es env).findIdx? (·.1) = none := by
  induction es with
  | nil => rfl
  | cons e r ih => rw [List.any_cons, Bool.or_eq_false_iff] at h; rw [assignEach_cons h.1, List.findIdx?_cons, ih h.2]; rfl
noncomputable def asgT (P : Pg) (lv : Lv) (fm : Fm) (es : List Expr) (v : V) : Ev Unit := iff (!fm.hand) (iff (!es.any starred) (onTup v fun vs => iff (vs.length == es.length) (asgsE P lv fm es vs)))
noncomputable def tupX : Expr → Option (List Expr)
  | .Tuple es _ _ => some es
  | _ => none
noncomputable def asgE (P : Pg) (lv : Lv) (fm : Fm) (t : Expr) (v : V) : Ev Unit := match tupX t with
  | some es => asgT P lv fm es v
  | none => asg1E P lv fm t v
theorem tupX_is {t : Expr} {es : List Expr} (h : tupX t = some es) : ∃ k p, t = .Tuple es k p := by
  cases t with
  | Tuple fs k p => exact ⟨k, p, by rw [Option.some.inj h]⟩
  | _ => cases h
theorem ok_asg (S : Snd P n lv) (c : Cx P fm n X) (t : Expr) {v : V} {y : Value} (hv : VRel X v D y) : Ok P fm X D σ (assign t (envAt fm X) y) (asgE P lv fm t v σ os) (fun _ _ _ => True) := by
  unfold asgE
  cases ht : tupX t with
  | none => exact ok_asg1 S c _ hv
  | some es =>
    obtain ⟨k, p, rfl⟩ := tupX_is ht
    refine ok_iff fun hh => ok_iff fun hs => ok_onTup fun vs ev => ok_iff fun hl => ?_
    have hs := no_t hs
    subst ev
    obtain ⟨a, xs, nn, d, sl, rfl, h1, h4⟩ := VR.tup' hv
    refine ok_under (ok_asgs S c es vs xs.toList D σ os hs h4) fun Q E s r z => ?_
    refine unpackN_ r.F r.N ⟨_, r.N.get h1, rfl, _, rfl⟩ (c.hh (no_t hh)) ?_ (star_find _ hs) fun h' F' N' => z h' ⟨F', N', r.nd, r.len, r.dis, r.loc, r.cel, r.inj, r.hp⟩
    rw [assignEach_len _ hs, ← Array.length_toList, h4.length]; exact (beq_iff_eq.mp hl).symm
noncomputable def isComp : Expr → Bool
  | .ListComp .. => true
  | .SetComp .. => true
  | .DictComp .. => true
  | _ => false
theorem swaps_no {e : Expr} (h : isComp e = false) (t : Option Expr) (k : Nat) (env : Env) : swapsWith e t k env = pure false := by
  cases e with
  | ListComp => cases h
  | SetComp => cases h
  | DictComp => cases h
  | _ => rfl
noncomputable def isDisp : Expr → Bool
  | .Tuple .. => true
  | .List .. => true
  | _ => false
noncomputable def isName : Expr → Bool
  | .Name .. => true
  | _ => false
theorem swapped_disp {t value : Expr} (h : isDisp value = false) (env : Env) : swappedStores [t] value env = pure none := by
  cases t with
  | Tuple =>
    cases value with
    | Tuple => cases h
    | _ => rfl
  | List =>
    cases value with
    | Tuple => cases h
    | _ => rfl
  | _ => rfl
theorem swapped_name {t value : Expr} (h : isName t = true) (env : Env) : swappedStores [t] value env = pure none := by
  cases t with
  | Name => rfl
  | _ => cases h
noncomputable def inplace (op : Operator) (a b : V) : Ev V := match op with
  | .Add => (match a with
    | .int x => onInt b fun y => pure (.int (x + y))
    | .str x => onStr b fun y => do need (x.length + y.length ≤ sizeLine); pure (.str (x ++ y))
    | _ => fail "inplace")
  | _ => fail "inplace"
theorem ok_inplace {op : Operator} {a b : V} {x y : Value} (ha : VRel X a D x) (hb : VRel X b D y) : Ok P fm X D σ (inplaceOp op x y) (inplace op a b σ os) (VRel X) := by
  cases op with
  | Add =>
    cases a with
    | int i => obtain ⟨t, rfl⟩ := VR.int' ha; exact ok_onInt hb fun j u => ok_same_pure fun Q E s _ k => wpAny_iadd_int (k _ _ .int)
    | str i => obtain ⟨t, rfl⟩ := VR.str' ha; exact ok_onStr hb fun j u => ok_need fun os' hp => ok_same_pure fun Q E s _ k => PyProof.Rows.iadd_str (fun t' tk => k _ _ .str) hp
    | _ => exact trivial
  | _ => exact trivial
noncomputable def loadE (fm : Fm) (x : Str) : Ev V := iff (isLoc (fm.scope.names.lookup x)) (locE x)
theorem ok_load (c : Cx P fm n X) (x : Str) : Ok P fm X D σ (loadName (envAt fm X) x) (loadE fm x σ os) (VRel X) := by
  refine ok_iff fun hx => ok_locE fun v hv Q E s r k hl => ?_
  have hx := isLoc_is hx
  rcases hl with ⟨_, y, hy, hr⟩ | ⟨hk, _⟩
  · exact wpAny_loadName_local c.hk hx r.F.ns hy (k y s.toks hr)
  · rw [hx] at hk; rcases hk with hk | hk <;> cases hk
structure StC (P : Pg) (k : Nat) (fm : Fm) (σ : St) (st : Stmt) (r : Res Fl) : Prop where
  out : ∀ X D, Cx P fm k X → Ok P fm X D σ (exec st (envAt fm X)) r (FRel X)
noncomputable def stE (P : Pg) (k : Nat) (fm : Fm) (st : Stmt) : Ev Fl := fun σ os => match os.c with
  | [] => .no "statement: untold"
  | a :: cs => match a with
    | .lp f σ' => .ok f σ' ⟨os.d, cs⟩ [StC P k fm σ st (.ok f σ' ⟨[], []⟩ [])]
    | .lx cls args σ' => .ex cls args σ' ⟨os.d, cs⟩ [StC P k fm σ st (.ex cls args σ' ⟨[], []⟩ [])]
    | _ => .no "statement: untold"
theorem ok_st {k : Nat} (hk : k ≤ n) (c : Cx P fm n X) (st : Stmt) : Ok P fm X D σ (exec st (envAt fm X)) (stE P k fm st σ os) (FRel X) := by
  unfold stE
  cases os.c with
  | nil => exact trivial
  | cons a cs =>
    cases a with
    | lp f σ' => exact fun hc => (hc _ (.head _) : StC P k fm σ st _).out X D (c.le hk) (fun _ h => nomatch h)
    | lx cls args σ' => exact fun hc => (hc _ (.head _) : StC P k fm σ st _).out X D (c.le hk) (fun _ h => nomatch h)
    | _ => exact trivial
noncomputable def valE (lv : Lv) (fm : Fm) : Option Expr → Ev V
  | none => pure .none
  | some e => lv.e fm e
noncomputable def assignE (P : Pg) (lv : Lv) (fm : Fm) (ts : List Expr) (value : Expr) : Ev Fl := match ts with
  | [] => fail "assign"
  | t :: r => match r with
    | [] => iff (!isComp value && (!isDisp value || isName t) && !starred t) do
      let v ← lv.e fm value
      asgE P lv fm t v
      pure .next
    | _ :: _ => fail "assign"
noncomputable def augN (P : Pg) (lv : Lv) (fm : Fm) (x : Str) (op : Operator) (value : Expr) : Ev Fl := do
    let old ← loadE fm x
    let v ← lv.e fm value
    let new ← inplace op old v
    storeE fm x new
    pure .next
noncomputable def augA (P : Pg) (lv : Lv) (fm : Fm) (o : Expr) (a : Str) (op : Operator) (value : Expr) : Ev Fl := do
    let ov ← lv.e fm o
    let new ← (do
      let old ← getA P lv fm ov a
      let v ← lv.e fm value
      inplace op old v : Ev V)
    setA P ov a new
    pure .next
noncomputable def augS (lv : Lv) (fm : Fm) (o i : Expr) (op : Operator) (value : Expr) : Ev Fl := iff (notSl i) do
    let ov ← lv.e fm o
    let iv ← lv.e fm i
    let new ← (do
      let old ← onObj ov fun n => onInt iv fun k => getI n k
      let v ← lv.e fm value
      inplace op old v : Ev V)
    onObj ov fun n => onInt iv fun k => setI n k new
    pure .next
noncomputable def augE (P : Pg) (lv : Lv) (fm : Fm) (t : Expr) (op : Operator) (value : Expr) : Ev Fl := match t with
  | .Name x _ => augN P lv fm x op value
  | .Attribute o a _ => augA P lv fm o a op value
  | .Subscript o i _ => augS lv fm o i op value
  | _ => fail "augment"
noncomputable def ifE (lv : Lv) (fm : Fm) (t : Expr) (b o : List Stmt) : Ev Fl := do
    let r ← lv.b fm t
    if ← dec r then execsE lv fm b else execsE lv fm o
noncomputable def isGlob : Option NameKind → Bool
  | none => false
  | some k => match k with
    | .globalImplicit => true
    | _ => false
noncomputable def execE (P : Pg) (lv : Lv) (fm : Fm) (st : Stmt) : Ev Fl := match st with
  | .Pass _ => pure .next
  | .Break _ => pure .brk
  | .Continue _ => pure .cont
  | .Return e _ => do
    let v ← valE lv fm e
    pure (.ret v)
  | .Expr e _ => iff (!isComp e) do
    let _ ← lv.e fm e
    pure .next
  | .Assign ts value _ => assignE P lv fm ts value
  | .AugAssign t op value _ => augE P lv fm t op value
  | .If t b o _ => ifE lv fm t b o
  | .While t b o p => stE P lv.room fm (.While t b o p)
  | .For t i b o p => stE P lv.room fm (.For t i b o p)
  | .Try b h o f p => stE P lv.room fm (.Try b h o f p)
  | .Raise _ _ _ => fail "raise"
  | _ => fail "statement"
theorem ok_assign (S : Snd P n lv) (c : Cx P fm n X) (ts : List Expr) (value : Expr) (p : Pos) : Ok P fm X D σ (exec (.Assign ts value p) (envAt fm X)) (assignE P lv fm ts value σ os) (FRel X) := by
  cases ts with
  | nil => exact trivial
  | cons t r =>
    cases r with
    | cons _ _ => exact trivial
    | nil =>
      refine ok_iff fun hc => ?_
      obtain ⟨hc, h3⟩ := band hc
      obtain ⟨h1, h2⟩ := band hc
      have hsw : swappedStores [t] value (envAt fm X) = pure none := by
        rcases Bool.or_eq_true_iff.mp h2 with h | h
        · exact swapped_disp (no_t h) _
        · exact swapped_name h _
      rw [arm_exec_Assign, show swapsWithSole [t] value p.line (envAt fm X) = pure false from swaps_no (no_t h1) _ _ _]
      refine ok_standAt ?_
      show Ok P fm X D σ (eval value (envAt fm X) >>= fun v => swappedStores [t] value (envAt fm X) >>= fun sw => assignStores (envAt fm X) v sw ((assignEach [t] (envAt fm X)).map (·.2))) _ _
      refine ok_bind (k := fun v => asgE P lv fm t v >>= fun _ => pure Fl.next) (S.e fm X D σ os value c) fun v σ₁ os₁ D₁ x g₁ r₁ => ?_
      rw [hsw, assignEach_cons (no_t h3)]
      show Ok P fm X D₁ σ₁ (assign t (envAt fm X) x >>= fun _ => pure Flow.next) ((do asgE P lv fm t v; pure Fl.next : Ev Fl) σ₁ os₁) (FRel X)
      exact ok_bind (ok_asg S c t r₁) fun _ _ _ _ _ _ _ => ok_pure (R := FRel X) (a := Fl.next) (b := Flow.next) rfl
theorem ok_augN (S : Snd P n lv) (c : Cx P fm n X) (x : Str) (q : Pos) (op : Operator) (value : Expr) (p : Pos) : Ok P fm X D σ (exec (.AugAssign (.Name x q) op value p) (envAt fm X)) (augN P lv fm x op value σ os) (FRel X) := by
  rw [arm_exec_AugAssign]
  refine ok_standAt (ok_bind (ok_load c x) fun old σ₁ os₁ D₁ y g₁ r₁ => ?_)
  refine ok_bind (ok_holding (S.e fm X D₁ σ₁ os₁ value c)) fun v σ₂ os₂ D₂ z g₂ r₂ => ok_standAt ?_
  refine ok_bind (ok_operate (ok_inplace (rel_mono r₁ g₂) r₂)) fun new σ₃ os₃ D₃ u g₃ r₃ => ok_standAt ?_
  exact ok_bind (ok_bindName c x r₃) fun _ _ _ _ _ _ _ => ok_pure (R := FRel X) (a := Fl.next) (b := Flow.next) rfl
theorem ok_augA (S : Snd P n lv) (c : Cx P fm (n + 1) X) (o : Expr) (a : Str) (tp : Pos) (op : Operator) (value : Expr) (q : Pos) : Ok P fm X D σ (exec (.AugAssign (.Attribute o a tp) op value q) (envAt fm X)) (augA P lv fm o a op value σ os) (FRel X) := by
  have c' := c.less
  rw [arm_exec_AugAssign_2]
  refine ok_standAt (ok_bind (S.e fm X D σ os o c') fun ov σ₁ os₁ D₁ x g₁ r₁ => ?_)
  have T : Ok P fm X D₁ σ₁ (holding [x] (standAt tp.atName >>= fun _ => getAttr x a true >>= fun old => holding [old] (eval value (envAt fm X)) >>= fun v => standAt q >>= fun _ => operate [old, v] (inplaceOp op old v)))
      ((do let old ← getA P lv fm ov a; let v ← lv.e fm value; inplace op old v : Ev V) σ₁ os₁) (VRel X) := by
    refine ok_holding (ok_standAt (ok_bind (ok_getA S c r₁ a true) fun old σ₂ os₂ D₂ y g₂ r₂ => ?_))
    exact ok_bind (ok_holding (S.e fm X D₂ σ₂ os₂ value c')) fun v σ₃ os₃ D₃ z g₃ r₃ => ok_standAt (ok_operate (ok_inplace (rel_mono r₂ g₃) r₃))
  refine ok_bind T fun new σ₂ os₂ D₂ y g₂ r₂ => ok_standAt ?_
  have A : Ok P fm X D₂ σ₂ (holding [y, x] (setAttr x a y) >>= fun _ => release [y, x] [] >>= fun _ => pure Flow.next) ((do setA P ov a new; pure Fl.next : Ev Fl) σ₂ os₂) (FRel X) :=
    ok_bind (ok_holding (ok_setA c' (rel_mono r₁ g₂) r₂ a)) fun _ _ _ _ _ _ _ => ok_release (ok_pure (R := FRel X) (a := Fl.next) (b := Flow.next) rfl)
  exact A
theorem aug_store {i : Expr} (h : notSl i = true) (ov iv new : Value) : augStore i ov iv new = (holding [new, ov, iv] (setItem ov iv new) >>= fun _ => release [new, ov, iv] [] >>= fun _ => pure .next) := by
  cases i with
  | Slice => cases h
  | _ => rfl
theorem ok_augS (S : Snd P n lv) (c : Cx P fm n X) (o i : Expr) (tp : Pos) (op : Operator) (value : Expr) (q : Pos) : Ok P fm X D σ (exec (.AugAssign (.Subscript o i tp) op value q) (envAt fm X)) (augS lv fm o i op value σ os) (FRel X) := by
  refine ok_iff fun hsl => ?_
  rw [arm_exec_AugAssign_3]
  refine ok_standAt (ok_bind (S.e fm X D σ os o c) fun ov σ₁ os₁ D₁ x g₁ r₁ => ok_bind (ok_holding (S.e fm X D₁ σ₁ os₁ i c)) fun iv σ₂ os₂ D₂ y g₂ r₂ => ?_)
  have T : Ok P fm X D₂ σ₂ (holding [x, y] (standAt tp >>= fun _ => getItem x y >>= fun old => holding [old] (eval value (envAt fm X)) >>= fun v => standAt q >>= fun _ => operate [old, v] (inplaceOp op old v)))
      ((do let old ← onObj ov fun n => onInt iv fun k => getI n k; let v ← lv.e fm value; inplace op old v : Ev V) σ₂ os₂) (VRel X) := by
    refine ok_holding (ok_standAt (ok_bind (ok_onObj fun n e => ok_onInt (T := fun y => getItem x y) r₂ fun k t => ok_getI (e ▸ rel_mono r₁ g₂)) fun old σ₃ os₃ D₃ z g₃ r₃ => ?_))
    exact ok_bind (ok_holding (S.e fm X D₃ σ₃ os₃ value c)) fun v σ₄ os₄ D₄ u g₄ r₄ => ok_standAt (ok_operate (ok_inplace (rel_mono r₃ g₄) r₄))
  refine ok_bind T fun new σ₃ os₃ D₃ z g₃ r₃ => ok_standAt ?_
  rw [aug_store hsl]
  have A : Ok P fm X D₃ σ₃ (holding [z, x, y] (setItem x y z) >>= fun _ => release [z, x, y] [] >>= fun _ => pure Flow.next) ((do onObj ov fun n => onInt iv fun k => setI n k new; pure Fl.next : Ev Fl) σ₃ os₃) (FRel X) :=
    ok_bind (ok_holding (ok_onObj fun n e => ok_onInt (T := fun y => setItem x y z) (rel_mono r₂ g₃) fun k t => ok_setI (e ▸ rel_mono r₁ (g₂.trans g₃)) r₃)) fun _ _ _ _ _ _ _ => ok_release (ok_pure (R := FRel X) (a := Fl.next) (b := Flow.next) rfl)
  exact A
theorem ok_ifE (S : Snd P n lv) (c : Cx P fm n X) (t : Expr) (b o : List Stmt) (p : Pos) : Ok P fm X D σ (exec (.If t b o p) (envAt fm X)) (ifE lv fm t b o σ os) (FRel X) := by
  rw [arm_exec_If]
  refine ok_standAt (ok_bind (S.b fm X D σ os t c) fun r σ₁ os₁ D₁ y g₁ r₁ => ok_dec fun b' os' e => ?_)
  rw [show y = b' from (show y = r from r₁).trans e]
  cases b'
  · exact ok_execs S c o D₁ σ₁ os'
  · exact ok_execs S c b D₁ σ₁ os'
theorem ok_exec (S : Snd P n lv) (c : Cx P fm (n + 1) X) (st : Stmt) : Ok P fm X D σ (exec st (envAt fm X)) (execE P lv fm st σ os) (FRel X) := by
  have c' := c.less
  cases st with
  | Pass p => rw [arm_exec_Pass]; exact ok_standAt (ok_pure (R := FRel X) (a := Fl.next) (b := Flow.next) rfl)
  | Break p => rw [arm_exec_Break]; exact ok_standAt (ok_pure (R := FRel X) (a := Fl.brk) (b := Flow.brk) rfl)
  | Continue p => rw [arm_exec_Continue]; exact ok_standAt (ok_pure (R := FRel X) (a := Fl.cont) (b := Flow.cont) rfl)
  | Return e p =>
    rw [arm_exec_Return]
    refine ok_standAt ?_
    cases e with
    | none => exact ok_pure (R := FRel X) (a := Fl.ret .none) (b := Flow.ret .none) ⟨_, rfl, .none⟩
    | some e =>
      show Ok P fm X D σ (eval e (envAt fm X) >>= fun v => pure (Flow.ret v)) ((lv.e fm e >>= fun v => pure (Fl.ret v) : Ev Fl) σ os) _
      exact ok_bind (S.e fm X D σ os e c') fun v σ₁ os₁ D₁ x g₁ r₁ => ok_pure (R := FRel X) (a := Fl.ret v) (b := Flow.ret x) ⟨_, rfl, r₁⟩
  | Expr e p =>
    refine ok_iff fun hc => ?_
    rw [exec_Expr (envAt fm X) e p (by unfold interactive; rw [show (envAt fm X).scope.kind = .function from c.hk]; rfl) (swaps_no (no_t hc) _ _ _)]
    refine ok_standAt (ok_bind (k := fun _ => pure Fl.next) (S.e fm X D σ os e c') fun v σ₁ os₁ D₁ x g₁ r₁ => ?_)
    exact ok_same_pure (a := Fl.next) fun Q E s _ k => wpAny_dropValue (k Flow.next s.toks rfl)
  | Assign ts value p => exact ok_assign S c' ts value p
  | AugAssign t op value p =>
    cases t with
    | Name x q => exact ok_augN S c' x q op value p
    | Attribute o a q => exact ok_augA S c o a q op value p
    | Subscript o i q => exact ok_augS S c' o i q op value p
    | _ => exact trivial
  | If t b o p => exact ok_ifE S c' t b o p
  | While t b o p => exact ok_st S.room c' _
  | For t i b o p => exact ok_st S.room c' _
  | Try b h o f p => exact ok_st S.room c' _
  | Raise e cz p => exact trivial
  | _ => exact trivial
end
end Mini
namespace Mini
open PySem PySem.W PySem.Calls PyProof.Rows PySem.Builtin.Str
variable {α β γ δ : Type}
section
variable {P : Pg} {fm : Fm} {X : Fx} {D : Dy} {σ : St} {os : Os} {n : Nat} {lv : Lv} {h h' : Heap}
theorem Rp.newObj (r : Rp P fm X D σ h) {a : Addr} {o : Obj} (ha : ∀ p ∈ D.news, p.1 ≠ a) (F' : Fr X.h₀ X.L h' D.m) (N' : News X.h₀ X.L h' ((a, o) :: D.news)) {lo : LO}
    (R' : ∀ D', Gr X D D' → (a, o) ∈ D'.news → OR P.w.params X.base D'.ad D'.news (a, a) lo) :
    ∃ D', Rp P fm X D' ⟨σ.loc, σ.hp ++ [lo]⟩ h' ∧ Gr X D D' ∧ VRel X (.obj σ.hp.length) D' (.ref a) := by
  obtain ⟨r1, g1⟩ := r.push ha F' N'
  have g2 : Gr X { D with news := (a, o) :: D.news } { D with news := (a, o) :: D.news, ad := D.ad ++ [(a, a)] } := ⟨fun i p e => by
    have hi : i < D.ad.length := (List.getElem?_eq_some_iff.mp e).1
    show (D.ad ++ [(a, a)])[i]? = some p
    rw [List.getElem?_append_left hi]; exact e, fun _ _ hm _ => hm⟩
  obtain ⟨r2, _⟩ := r1.made (q := (a, a)) (lo := lo) (.head _) (r.fresh ha) (R' { D with news := (a, o) :: D.news, ad := D.ad ++ [(a, a)] } (g1.trans g2) (.head _))
  refine ⟨_, r2, g1.trans g2, ?_⟩
  refine VR.obj (p := (a, a)) ?_
  show (D.ad ++ [(a, a)])[σ.hp.length]? = some (a, a)
  rw [← r.len, List.getElem?_append_right (Nat.le_refl _), Nat.sub_self]; rfl
noncomputable def newLo (lo : LO) : Ev V := fun σ os => .ok (.obj σ.hp.length) ⟨σ.loc, σ.hp ++ [lo]⟩ os []
theorem ok_made {t : Sem Value} {lo : LO}
    (hm : ∀ (Q : Value → Shared → Prop) (E : Value → Shared → Prop) s, Rp P fm X D σ s.heap →
      (∀ a o h' tk, Fr X.h₀ X.L h' D.m → News X.h₀ X.L h' ((a, o) :: D.news) → (∀ p ∈ D.news, p.1 < a) → (∀ D', Gr X D D' → (a, o) ∈ D'.news → OR P.w.params X.base D'.ad D'.news (a, a) lo) → Q (.ref a) { s with heap := h', toks := tk }) →
      wpAny (model P.prog P.w) X.A t Q E s) : Ok P fm X D σ t (newLo lo σ os) (VRel X) := by
  intro _ s r Q E hQ
  refine hm Q E s r fun a o h' tk F' N' hf R' => ?_
  obtain ⟨D', r', g, hv⟩ := r.newObj (fun p hp e => absurd (hf p hp) (by rw [e]; exact Nat.lt_irrefl _)) F' N' R'
  exact hQ D' { s with heap := h', toks := tk } _ r' g hv ⟨rfl, rfl⟩
theorem fresh_lt (r : Rp P fm X D σ h) : ∀ p ∈ D.news, p.1 < h.objs.size := fun p hp => Heap.lt_size (r.N p hp).1
noncomputable def listV (vs : List V) : Ev V := if vs.length ≤ 1000 then newLo (.list vs) else fail "list: long"
theorem ok_listV {vs : List V} {xs : List Value} (hv : VsRel X vs D xs) : Ok P fm X D σ (newList xs) (listV vs σ os) (VRel X) := by
  unfold listV
  split
  · rename_i hl
    refine ok_made fun Q E s r k => ?_
    refine newList_N r.F r.N (fun h' F' N' => k _ _ h' s.toks F' N' (fresh_lt r) fun D' g hm => ⟨rfl, xs.toArray, 0, hm, by rw [List.toList_toArray]; exact rels_mono hv g⟩) ?_
    rw [hv.length, sizeLine_eq]; omega
  · exact trivial
noncomputable def tupV (vs : List V) : Ev V := if vs.length ≤ 1000 then pure (.tup vs) else fail "tuple: long"
theorem ok_tupV {vs : List V} {xs : List Value} (hv : VsRel X vs D xs) : Ok P fm X D σ (newTuple xs) (tupV vs σ os) (VRel X) := by
  unfold tupV
  split
  · rename_i hl
    intro _ s r Q E hQ
    refine newTuple_N r.F r.N (fun h' F' N' => ?_) (by rw [hv.length, sizeLine_eq]; omega)
    obtain ⟨r', g⟩ := r.push (fun p hp e => absurd (fresh_lt r p hp) (by rw [e]; exact Nat.lt_irrefl _)) F' N'
    exact hQ _ { s with heap := h' } _ r' g (VR.tup (o := { cls := .type "tuple", data := .seq xs.toArray }) (.head _) rfl rfl (by rw [List.toList_toArray]; exact rels_mono hv g)) ⟨rfl, rfl⟩
  · exact trivial
noncomputable def pickL (vs : List α) (lo hi : Option Int) : List α := (sliceRange (sliceBounds lo hi none vs.length).1 (sliceBounds lo hi none vs.length).2.1 (sliceBounds lo hi none vs.length).2.2).filterMap fun k => vs[k]?
theorem VRs.pick {base : Heap} {ad news} {vs : List V} {xs : List Value} (hv : VRs base ad news vs xs) : ∀ ks : List Nat, VRs base ad news (ks.filterMap fun k => vs[k]?) (ks.filterMap fun k => xs[k]?)
  | [] => .nil
  | k :: ks => by
    rw [List.filterMap_cons, List.filterMap_cons]
    cases hk : vs[k]? with
    | some v =>
      obtain ⟨x, hx, hr⟩ := hv.get hk
      rw [hx]
      exact .cons hr (hv.pick ks)
    | none =>
      have : xs[k]? = none := by rw [List.getElem?_eq_none_iff] at hk ⊢; rw [hv.length]; exact hk
      rw [this]
      exact hv.pick ks
theorem IntsAre.vrs {base : Heap} {ad news} {xs : List Value} {ns : List Int} (h : IntsAre xs ns) : VRs base ad news (ns.map .int) xs := by
  induction h with
  | nil => exact .nil
  | cons n t _ ih => exact .cons .int ih
theorem slicePick_list (xs : Array Value) (lo hi : Option Int) : (slicePick xs lo hi none).toList = pickL xs.toList lo hi := by
  unfold slicePick pickL
  simp
noncomputable def partOf : V → Option (Option Int)
  | .none => some none
  | .int i => some (some i)
  | _ => none
theorem part_is {v : V} {x : Value} {p : Option Int} (hv : VRel X v D x) (e : partOf v = some p) : ∃ q : Option (Int × Tok), q.map (·.1) = p ∧ x = partValue q ∧ IsPart x p := by
  cases v with
  | none => rw [VR.none' hv, ← Option.some.inj e]; exact ⟨none, rfl, rfl, .none⟩
  | int i => obtain ⟨t, rfl⟩ := VR.int' hv; rw [← Option.some.inj e]; exact ⟨some (i, t), rfl, rfl, .int i t⟩
  | _ => cases e
noncomputable def rowOf (σ : St) : V → Option (List V)
  | .obj k => (σ.hp[k]?).bind LO.lst?
  | .ro ns => some (ns.map .int)
  | _ => none
theorem row_is (c : Cx P fm n X) (r : Rp P fm X D σ h) {v : V} {x : Value} {vs : List V} (hv : VRel X v D x) (e : rowOf σ v = some vs) :
    ∃ a items, x = .ref a ∧ h.IsList a items ∧ VsRel X vs D items.toList := by
  cases v with
  | obj k =>
    obtain ⟨lo, hk, e⟩ := Option.bind_eq_some_iff.mp e
    obtain ⟨a, xs, m, e1, e2, e3, _⟩ := lst_at r hv (LO.lst_is e ▸ hk)
    exact ⟨a, xs, e1, ⟨_, e2, rfl, m, rfl⟩, e3⟩
  | ro ns =>
    rw [← Option.some.inj e]
    obtain ⟨a, items, rfl, hl, hi⟩ := VR.ro' hv
    obtain ⟨o, ho, hc, m, hd⟩ := hl
    exact ⟨a, items, rfl, ⟨o, r.F.keep _ _ (c.B.stays _ _ ho), hc, m, hd⟩, IntsAre.vrs hi⟩
  | _ => cases e
noncomputable def onRow (o : V) (k : List V → Ev α) : Ev α := fun σ os => match rowOf σ o with
  | some vs => k vs σ os
  | none => .no "no row"
theorem ok_onRow (c : Cx P fm n X) {o : V} {x : Value} (hv : VRel X o D x) {t : Sem β} {k : List V → Ev α} {R : α → Dy → β → Prop}
    (h' : ∀ vs, (∀ h, Rp P fm X D σ h → ∃ a items, x = .ref a ∧ h.IsList a items ∧ VsRel X vs D items.toList) → Ok P fm X D σ t (k vs σ os) R) : Ok P fm X D σ t (onRow o k σ os) R := by
  unfold onRow
  cases e : rowOf σ o with
  | none => exact trivial
  | some vs => exact h' vs fun h r => row_is c r hv e
noncomputable def SlR (X : Fx) : V × V → Dy → Value → Prop := fun p D x => ∃ a o l u, x = .ref a ∧ (a, o) ∈ D.news ∧ o.cls = .type "slice" ∧ o.data = .fields #[l, u, .none] ∧ VRel X p.1 D l ∧ VRel X p.2 D u
noncomputable def optE (lv : Lv) (fm : Fm) : Option Expr → Ev V
  | none => pure .none
  | some e => lv.e fm e
theorem ok_opt (S : Snd P n lv) (c : Cx P fm n X) (e : Option Expr) : Ok P fm X D σ (valueOrNone (evalOpt e (envAt fm X))) (optE lv fm e σ os) (VRel X) := by
  cases e with
  | none => exact ok_pure .none
  | some e => exact S.e fm X D σ os e c
noncomputable def sliceE (lv : Lv) (fm : Fm) (lo hi : Option Expr) : Ev (V × V) := do
  let l ← optE lv fm lo
  let u ← optE lv fm hi
  pure (l, u)
theorem ok_slice (S : Snd P n lv) (c : Cx P fm n X) (lo hi : Option Expr) (p : Pos) : Ok P fm X D σ (eval (.Slice lo hi none p) (envAt fm X)) (sliceE lv fm lo hi σ os) (SlR X) := by
  rw [show eval (.Slice lo hi none p) (envAt fm X) = (do
    let l ← valueOrNone (evalOpt lo (envAt fm X))
    let u ← holding [l] (valueOrNone (evalOpt hi (envAt fm X)))
    let s ← holding [l, u] (valueOrNone (evalOpt none (envAt fm X)))
    newFields "slice" [l, u, s]) from rfl]
  refine ok_bind (ok_opt S c lo) fun l σ₁ os₁ D₁ x g₁ r₁ => ok_bind (ok_holding (ok_opt S c hi)) fun u σ₂ os₂ D₂ y g₂ r₂ => ?_
  intro _ s r Q E hQ
  refine wpAny_bind (wpAny_holding (wpAny_pure ?_))
  have F' := r.F.push { cls := .type "slice", data := .fields [x, y, .none].toArray }
  have N' := r.N.push r.F { cls := .type "slice", data := .fields [x, y, .none].toArray }
  obtain ⟨r', g⟩ := r.push (fun p hp e => absurd (fresh_lt r p hp) (by rw [e]; exact Nat.lt_irrefl _)) F' N'
  exact wpAny_newObj_type (hQ _ _ _ r' g ⟨_, _, x, y, rfl, .head _, rfl, rfl, rel_mono r₁ (g₂.trans g), rel_mono r₂ g⟩ ⟨rfl, rfl⟩)
noncomputable def cutV (o : V) (p : V × V) : Ev V := onSome (partOf p.1) fun lo => onSome (partOf p.2) fun hi => match o with
    | .str x => do need (x.length ≤ sizeLine); pure (.str (Txt.slice x lo hi))
    | o => onRow o fun vs => do need (vs.length ≤ sizeLine); newLo (.list (pickL vs lo hi))
theorem ok_cut (c : Cx P fm n X) {value : Expr} {lo hi : Option Expr} {q : Pos} {o : V} {x i : Value} {p : V × V} (ho : VRel X o D x) (hp : SlR X p D i) :
    Ok P fm X D σ (subscriptTail value (.Slice lo hi none q) x i) (cutV o p σ os) (VRel X) := by
  refine ok_onSome fun l hl => ok_onSome fun u hu => ?_
  obtain ⟨a, ob, vl, vu, rfl, hm, hcl, hda, h1, h2⟩ := hp
  obtain ⟨ql, e1, e2, pl⟩ := part_is h1 hl
  obtain ⟨qu, e3, e4, pu⟩ := part_is h2 hu
  have row : Ok P fm X D σ (subscriptTail value (.Slice lo hi none q) x (.ref a)) ((onRow o fun vs => do need (vs.length ≤ sizeLine); newLo (.list (pickL vs l u)) : Ev V) σ os) (VRel X) := ok_onRow c ho fun vs hr => by
    refine ok_need fun os' hz => ok_made fun Q E s r k => ?_
    obtain ⟨b, items, rfl, hL, hvs⟩ := hr _ r
    refine tail_any hL.typeIs list_getitem_lookup (wpAny_getItem_list_slice hL ⟨ob, r.N.get hm, hcl, hda⟩ pl pu .none nofun ?_ (by rw [← Array.length_toList, hvs.length]; exact hz)) rfl
    refine k _ _ _ s.toks (r.F.push _) (r.N.push r.F _) (fresh_lt r) fun D' g hm' => ⟨rfl, _, 0, hm', ?_⟩
    rw [slicePick_list]
    unfold pickL
    rw [hvs.length]
    exact (rels_mono hvs g).pick _
  cases o with
  | str z =>
    obtain ⟨tt, rfl⟩ := VR.str' ho
    refine ok_need fun os' hz => ok_same_pure fun Q E s r k => ?_
    refine tail_any (T := "str") (typeIs_str _ _ _) F.slot_str_getitem.lookup (wpAny_getItem_str_slice (l := ql) (u := qu) (st := none) ⟨ob, r.N.get hm, hcl, by rw [hda, e2, e4]; rfl⟩ rfl ?_) rfl
    have := post_val_or_str (s := s) (c := ((1 : Int) == 1 && (strSliceIndices l u 1 z.length).length == z.length) = true) (y := z) (z := ⟨((strSliceIndices l u 1 z.length).filterMap (z.cps[·]?)).toArray⟩) (t := tt) (Q := Q)
      ⟨Nat.le_trans (Txt.slice_le z l u) hz, fun t' tk => k _ tk .str⟩
    unfold sliceMade slicePicked
    rw [e1, e3]
    exact this
  | _ => exact row
noncomputable def itemT (vs : List V) (i : Int) : Ev V := iff (decide (-(2 ^ 63) ≤ i) && decide (i < 2 ^ 63)) (onSome (seqIndex? i vs.length) fun j => onSome vs[j]? fun v => pure v)
noncomputable def itemR (o : V) (i : Int) : Ev V := onRow o fun vs => tell fun v => 0 ≤ i ∧ i < 2 ^ 63 ∧ vs[i.toNat]? = some v
noncomputable def itemI (o i : V) : Ev V := onInt i fun i => match o with
  | .str x => do need (fitsSsize i = true ∧ -(x.length : Int) ≤ i ∧ i < x.length); pure (.str (Txt.item x i))
  | .tup vs => itemT vs i
  | .obj n => if i < 0 then getI n i else itemR (.obj n) i
  | o => itemR o i
noncomputable def itemV (o i : V) : Ev V := match i with
  | .str k => fail "own dict"
  | i => itemI o i
noncomputable def notSlice : Expr → Bool
  | .Slice .. => false
  | _ => true
theorem sub_plain {slice : Expr} (hs : notSlice slice = true) (o i : Value) : subscripted slice false o i = operate [o, i] (getItem o i) := by
  cases slice with
  | Slice => cases hs
  | _ => rfl
theorem ok_itemT {value slice : Expr} (hs : notSlice slice = true) {vs : List V} {x : Value} {i : Int} {u : Tok} (ho : VRel X (.tup vs) D x) : Ok P fm X D σ (subscriptTail value slice x (.int i u)) (itemT vs i σ os) (VRel X) := by
  refine ok_iff fun hb => ok_onSome fun j hj => ok_onSome fun v hv => ok_same_pure (a := v) (os := os) fun Q E s r k => ?_
  obtain ⟨hb1, hb2⟩ := band hb
  obtain ⟨a, xs, nn, d, sl, rfl, h1, h4⟩ := VR.tup' ho
  obtain ⟨w, hw, hr⟩ := h4.get hv
  have hT : IsTup s.heap a xs := ⟨_, r.N.get h1, rfl, _, rfl⟩
  exact tail_any hT.typeIs slot_tuple_getitem.lookup (getItem_tuple hT (of_decide_eq_true hb1) (of_decide_eq_true hb2) (j := j) (by rw [← Array.length_toList, h4.length]; exact hj) (by rw [← Array.getElem?_toList]; exact hw) (k _ s.toks hr)) (sub_plain hs _ _)
theorem ok_itemR (c : Cx P fm n X) {value slice : Expr} (hs : notSlice slice = true) {o : V} {x : Value} {i : Int} {u : Tok} (ho : VRel X o D x) : Ok P fm X D σ (subscriptTail value slice x (.int i u)) (itemR o i σ os) (VRel X) := by
  refine ok_onRow c ho fun vs hr => ok_tell fun v os' hz => ok_same_pure fun Q E s r k => ?_
  obtain ⟨b, items, rfl, hL, hvs⟩ := hr _ r
  obtain ⟨w, hw, hrr⟩ := hvs.get hz.2.2
  exact tail_any hL.typeIs list_getitem_lookup (wpAny_getItem_list hL hz.1 hz.2.1 (by rw [← Array.getElem?_toList]; exact hw) (k _ s.toks hrr)) (sub_plain hs _ _)
theorem ok_itemN {value slice : Expr} (hs : notSlice slice = true) {j : Nat} {x : Value} {i : Int} {u : Tok} (ho : VRel X (.obj j) D x) : Ok P fm X D σ (subscriptTail value slice x (.int i u)) (getI j i σ os) (VRel X) := by
  refine ok_onLst fun vs hn => ok_tell fun v os' hC => ok_same_pure fun Q E s r q => ?_
  obtain ⟨f1, f2, j, hj, hv⟩ := hC
  obtain ⟨a, xs, m, rfl, e2, e3, _⟩ := lst_at r ho hn
  obtain ⟨y, hy, hr⟩ := e3.get hv
  have hsz : vs.length = xs.size := by rw [← e3.length, Array.length_toList]
  rw [Array.getElem?_toList] at hy
  rw [hsz] at hj
  have hl : s.heap.IsList a xs := ⟨_, e2, rfl, m, rfl⟩
  refine tail_any hl.typeIs list_getitem_lookup ?_ (sub_plain hs _ _)
  rcases Int.lt_or_le i 0 with h0 | h0
  · obtain ⟨e, h1, _⟩ := seq_neg hj h0
    exact wpAny_getItem_list_neg hl h0 h1 f1 (by rw [e]; exact hy) (q y s.toks hr)
  · obtain ⟨e, _⟩ := seq_pos hj h0
    exact wpAny_getItem_list hl h0 f2 (by rw [e]; exact hy) (q y s.toks hr)
theorem ok_itemI (c : Cx P fm n X) {value slice : Expr} (hs : notSlice slice = true) {o i : V} {x y : Value} (ho : VRel X o D x) (hi : VRel X i D y) :
    Ok P fm X D σ (subscriptTail value slice x y) (itemI o i σ os) (VRel X) := by
  refine ok_onInt (T := fun y => subscriptTail value slice x y) hi fun i u => ?_
  cases o with
  | str z =>
    obtain ⟨tt, rfl⟩ := VR.str' ho
    refine ok_need fun os' hz => ok_same_pure fun Q E s r k => ?_
    exact tail_any (T := "str") (typeIs_str _ _ _) F.slot_str_getitem.lookup (SB.getItem hz.1 (charAt_isSome hz.2.1 hz.2.2) (k _ _ .str)) (sub_plain hs _ _)
  | tup vs => exact ok_itemT hs ho
  | obj j =>
    show Ok P fm X D σ _ ((if i < 0 then getI j i else itemR (.obj j) i : Ev V) σ os) _
    by_cases h : i < 0
    · rw [if_pos h]; exact ok_itemN hs ho
    · rw [if_neg h]; exact ok_itemR c hs ho
  | _ => exact ok_itemR c hs ho
theorem ok_item (c : Cx P fm n X) {value slice : Expr} (hs : notSlice slice = true) {o i : V} {x y : Value} (ho : VRel X o D x) (hi : VRel X i D y) :
    Ok P fm X D σ (subscriptTail value slice x y) (itemV o i σ os) (VRel X) := by
  have num := ok_itemI (σ := σ) (os := os) (value := value) c hs ho hi
  cases i with
  | str k => exact trivial
  | _ => exact num
end
end Mini
namespace Mini
open PySem PySem.W PySem.Calls PyProof.Rows PySem.Builtin.Str
namespace DQ
theorem mro : mroOf (.type "collections.deque") = pure [.type "collections.deque", .type "object"] := by rw [mroOf_type]; kernel_rfl
theorem lookup_new : typeLookup (.type "collections.deque") "__new__" = pure (some (.builtin "collections.deque.__new__")) := by rw [typeLookup_type, builtinLookup_eq_fast]; kernel_rfl
theorem slot_init : Slot "collections.deque" "__init__" "collections.deque.__init__" :=
  .of (owner := "collections.deque") (n := "__init__") (by rw [typeLookup_type, builtinLookup_eq_fast]; kernel_rfl) (by decide +kernel) (by decide +kernel) (by decide +kernel)
    (by first | exact .inl (by decide +kernel) | exact .inr (by decide +kernel)) (by rw [isSubtype_type]; kernel_rfl)
theorem called : TypeCalled "collections.deque" "collections.deque.__new__" "collections.deque.__init__" :=
  ⟨by decide +kernel, by decide +kernel, ⟨_, _, mro⟩, madeBy_type mro lookup_new (by decide +kernel), by decide +kernel, by rw [isSubtype_type]; kernel_rfl, slot_init⟩
theorem typeCall_0 : checkTypeCall "collections.deque" ⟨[], []⟩ = pure () := by kernel_rfl
theorem newCall_0 : checkBuiltinCall "collections.deque.__new__" ⟨[.type "collections.deque"], []⟩ = pure () := by kernel_rfl
theorem entry_new : entryFor table "collections.deque.__new__" = some Builtin.«collections.deque.__new__» := entryFor_of_tree (by kernel_rfl)
theorem plain_new : plainId "collections.deque.__new__" = true := by decide +kernel
theorem sub_self : isSubtype (.type "collections.deque") (.type "collections.deque") = pure true := by rw [isSubtype_type]; kernel_rfl
theorem entry_init : entryFor table "collections.deque.__init__" = some Builtin.«collections.deque.__init__» := entryFor_of_tree (by kernel_rfl)
theorem args_init (a : Value) : argsOk "collections.deque.__init__" ⟨[a], []⟩ := by unfold argsOk; kernel_rfl
theorem hasDict : typeHasDict (.type "collections.deque") = false := by kernel_rfl
section
variable {prog : Program} {w : World} {A : Around} {E : Value → Shared → Prop} {s : Shared}
theorem code_new {Q₁ : Value → Shared → Prop} (h : Q₁ (.ref s.heap.objs.size) { s with heap := s.heap.push (dequeOf [] 0) }) :
    codeAny (model prog w) A (.call (.builtin "collections.deque.__new__") ⟨[.type "collections.deque"], []⟩) (wants Q₁ E) s := by
  refine codeAny_of_tree ?_
  show wpAny _ A.in1 (do checkBuiltinCall "collections.deque.__new__" ⟨[.type "collections.deque"], []⟩; again (.builtin "collections.deque.__new__" ⟨[.type "collections.deque"], []⟩)) _ _ s
  refine wpAny_bind (wpAny_of_eq newCall_0 (wpAny_pure ⟨plainId_quiet plain_new _, codeAny_builtin entry_new ?_⟩))
  rw [Around.under_plainId plain_new _]
  unfold Builtin.«collections.deque.__new__» Builtin.Deque.newArgs Builtin.Deque.new Builtin.Deque.ty
  have hsub := sub_self
  have hd := hasDict
  obtain ⟨hp, g, d, tk, os⟩ := s
  dsimp only
  wp_walk
  exact h
theorem run_init {Q : Fin → Shared → Prop} {a : Addr} (ho : s.heap.get? a = some (dequeOf [] 0))
    (q : Q (.done (.ret .none)) { s with heap := s.heap.update a (Obj.mapFields (·.setIfInBounds 0 .none)) }) : wpAny (model prog w) A (Builtin.«collections.deque.__init__» ⟨[.ref a], []⟩) Q E s := by
  unfold Builtin.«collections.deque.__init__» Builtin.Deque.clear Builtin.Deque.items
  obtain ⟨hp, g, d, tk, os⟩ := s
  dsimp only
  have hu : (hp.update a (Obj.mapFields (·.setIfInBounds 0 Value.none))).get? a = some (dequeOf [] 0) := (Heap.get?_update_self _ ho rfl).trans rfl
  wp_walk
  exact q
theorem call_new {Q : Value → Shared → Prop}
    (h : Q (.ref s.heap.objs.size) { s with heap := (s.heap.push (dequeOf [] 0)).update s.heap.objs.size (Obj.mapFields (·.setIfInBounds 0 .none)) }) :
    wpAny (model prog w) A (call (.type "collections.deque") []) Q E s := by
  obtain ⟨c, tl, hmro⟩ := called.mro
  have hmade := called.made
  have hsub := called.sub
  refine wpAny_call (codeAny_of_tree ?_)
  show wpAny _ _ (callAny (.type "collections.deque") _) _ _ _
  refine wpAny_pure ⟨Code.quiet_builtin _ (by decide +kernel), codeAny_builtin F.entry_type_call ?_⟩
  rw [Around.under_plain (weight_type_call_type "collections.deque" [] []) rfl]
  have h1 := called.notType
  have h2 := called.canCreate
  have hct := typeCall_0
  repeat (any_goals (first | assumption | wp_step))
  refine codeAny_mono (code_new (E := E) (Q₁ := fun obj s₁ => obj = .ref s.heap.objs.size ∧ s₁ = { s with heap := s.heap.push (dequeOf [] 0) }) ⟨rfl, rfl⟩) fun r s₁ hr => ?_
  cases r with
  | error e => exact hr
  | ok fl =>
    cases fl with
    | ret obj =>
      obtain ⟨rfl, rfl⟩ := hr
      have hS : (s.heap.push (dequeOf [] 0)).get? s.heap.objs.size = some (dequeOf [] 0) := Heap.get?_push_size _ rfl
      have hT : Shared.TypeIs { s with heap := s.heap.push (dequeOf [] 0) } (.ref s.heap.objs.size) "collections.deque" := ⟨_, hS, rfl⟩
      have hli := called.init.lookup
      have hbi := called.init.bind (.ref s.heap.objs.size)
      repeat (any_goals (first | assumption | wp_step))
      refine codeAny_mono (codeAny_call_builtin (R := wants (fun r s₂ => r = .none ∧ Q (.ref s.heap.objs.size) s₂) E) called.init.plain entry_init (slot_init.check _ _ _ _ _ _ _ _ hT (args_init _) (run_init hS ⟨rfl, h⟩))) fun r₂ s₂ hr₂ => ?_
      cases r₂ with
      | error e => exact hr₂
      | ok fl₂ =>
        cases fl₂ with
        | ret r =>
          obtain ⟨rfl, hq⟩ := hr₂
          repeat (any_goals (first | assumption | wp_step))
        | _ => exact hr₂.elim
    | _ => exact hr.elim
end
end DQ
variable {α β γ δ : Type}
section
variable {P : Pg} {fm : Fm} {X : Fx} {D : Dy} {σ : St} {os : Os} {n : Nat} {lv : Lv} {h h' : Heap}
theorem ok_deque : Ok P fm X D σ (call (.type "collections.deque") []) (newLo (.deque []) σ os) (VRel X) := by
  refine ok_made fun Q E s r k => ?_
  refine DQ.call_new ?_
  have F' := r.F.push (dequeOf [] 0)
  have N' := r.N.push r.F (dequeOf [] 0)
  obtain ⟨F2, N2⟩ := news_upd (pre := []) (post := D.news) (f := Obj.mapFields (·.setIfInBounds 0 Value.none)) (o' := dequeOf [] 0) F' N' (fun _ q => nomatch q) (fun p hp e => absurd (fresh_lt r p hp) (by rw [e]; exact Nat.lt_irrefl _)) rfl rfl
  exact k _ _ _ s.toks F2 N2 (fresh_lt r) fun D' g hm => ⟨rfl, [], 0, hm, .nil⟩
end
end Mini
namespace Mini
open PySem PySem.W PySem.Calls PyProof.Rows PySem.Builtin.Str
variable {α β γ δ : Type}
section
variable {P : Pg} {fm : Fm} {X : Fx} {D : Dy} {σ : St} {os : Os} {n : Nat} {lv : Lv} {h h' : Heap}
inductive BF where
  | len | abs | divmod | chr | ord | isi | typ | int | deque | range | str
noncomputable def BF.val : BF → Value
  | .len => .builtin "len"
  | .abs => .builtin "abs"
  | .divmod => .builtin "divmod"
  | .chr => .builtin "chr"
  | .ord => .builtin "ord"
  | .isi => .builtin "isinstance"
  | .typ => .type "type"
  | .int => .type "int"
  | .deque => .type "collections.deque"
  | .range => .type "range"
  | .str => .type "str"
noncomputable def allF : List BF := [.len, .abs, .divmod, .chr, .ord, .isi, .typ, .int, .deque, .range, .str]
noncomputable def statV : V → Option Value
  | .stat x => some x
  | _ => none
noncomputable def bfOf (v : V) : Option BF := (statV v).bind fun x => allF.find? fun b => b.val == x
theorem statV_is {v : V} {x y : Value} (hv : VRel X v D x) (h : statV v = some y) : x = y := by
  cases v with
  | stat z => rw [VR.stat' hv, Option.some.inj h]
  | _ => cases h
theorem bfOf_is {v : V} {b : BF} {x : Value} (hv : VRel X v D x) (e : bfOf v = some b) : x = b.val := by
  obtain ⟨y, h1, h⟩ := Option.bind_eq_some_iff.mp e
  have h : (b.val == y) = true := List.find?_some (p := fun b : BF => b.val == y) (show allF.find? _ = some b from h)
  rw [statV_is hv h1, beq_iff_eq.mp h]
noncomputable def lenE (v : V) : Ev V := match v with
  | .str x => do need (x.length < 2 ^ 63); pure (.int x.length)
  | v => onRow v fun vs => do need (vs.length < 2 ^ 63); pure (.int vs.length)
noncomputable def typE (v : V) : Ev V := match v with
  | .int _ => pure (.stat (.type "int"))
  | .str _ => pure (.stat (.type "str"))
  | _ => fail "type"
noncomputable def isStrT : V → Bool
  | .stat v => v == .type "str"
  | _ => false
theorem isStrT_is {v : V} {x : Value} (hv : VRel X v D x) (h : isStrT v = true) : x = .type "str" := by
  cases v with
  | stat y => rw [VR.stat' hv, beq_iff_eq.mp h]
  | _ => cases h
noncomputable def bfE (b : BF) (args : List V) : Ev V := match b with
  | .len => on1 args lenE
  | .abs => on1 args fun v => onInt v fun i => pure (.int (if i < 0 then -i else i))
  | .divmod => on2 args fun a b => onInt a fun a => onInt b fun b => do
    need (b ≠ 0 ∧ Builtin.divisionGoesByPylong a b = false)
    pure (.tup [.int (a.fdiv b), .int (a.fmod b)])
  | .chr => on1 args fun v => onInt v fun i => do need (0 ≤ i ∧ i ≤ 1114111); pure (.str ⟨#[i.toNat]⟩)
  | .ord => on1 args fun v => onStr v fun x => do need (x.length = 1); pure (.int (x.cps.getD 0 0 : Nat))
  | .isi => on2 args fun a t => onStr a fun _ => iff (isStrT t) (pure (.bool true))
  | .typ => on1 args typE
  | .int => on1 args fun v => onInt v fun i => pure (.int i)
  | .deque => on0 args (newLo (.deque []))
  | .range => on1 args fun v => onInt v fun n => pure (.rng 0 n)
  | .str => fail "menu"
theorem ok_range {nn : Int} {tt : Tok} : Ok P fm X D σ (call (.type "range") [.int nn tt]) ((pure (.rng 0 nn) : Ev V) σ os) (VRel X) := by
  intro _ s r Q E hQ
  refine call_range_1 ?_
  have F' := r.F.push { cls := .type "range", data := .fields #[.int 0 s.toks, .int nn tt, .int 1 (s.toks + 1)] }
  have N' := r.N.push r.F { cls := .type "range", data := .fields #[.int 0 s.toks, .int nn tt, .int 1 (s.toks + 1)] }
  obtain ⟨r', g⟩ := r.push (fun p hp e => absurd (fresh_lt r p hp) (by rw [e]; exact Nat.lt_irrefl _)) F' N'
  exact hQ _ { s with heap := _, toks := s.toks + 1 + 1 } _ r' g (VR.rng (.head _)) ⟨rfl, rfl⟩
theorem nat_lt63 {n : Nat} (h : n < 2 ^ 63) : (n : Int) < 2 ^ 63 := Int.ofNat_lt.mpr h
theorem ok_bf (c : Cx P fm n X) {b : BF} {args : List V} {xs : List Value} (ha : VsRel X args D xs) : Ok P fm X D σ (call b.val xs) (bfE b args σ os) (VRel X) := by
  have one := fun {k : V → Ev V} (h : ∀ v x, VRel X v D x → Ok P fm X D σ (call b.val [x]) (k v σ os) (VRel X)) => ok_on1 (Ts := fun xs => call b.val xs) ha h
  cases b with
  | len =>
    refine one fun v x h => ?_
    have row : Ok P fm X D σ (call (.builtin "len") [x]) ((onRow v fun vs => do need (vs.length < 2 ^ 63); pure (.int vs.length) : Ev V) σ os) (VRel X) := ok_onRow c h fun vs hr => ok_need fun os' hp => ok_same_pure fun Q E s r k => by
      obtain ⟨a, items, rfl, hl, hvs⟩ := hr _ r
      have e : items.size = vs.length := by rw [← Array.length_toList, hvs.length]
      exact call_len_list hl (by rw [e]; exact nat_lt63 hp) (by rw [e]; exact k _ _ .int)
    cases v with
    | str z => obtain ⟨t, rfl⟩ := VR.str' h; exact ok_need fun os' hp => ok_same_pure fun Q E s _ k => PySem.P.len_str (Int.not_le.mpr (nat_lt63 hp)) (k _ _ .int)
    | _ => exact row
  | abs => exact one fun v x h => ok_onInt (T := fun x => call (.builtin "abs") [x]) h fun i t => ok_same_pure fun Q E s _ k => call_abs_int fun u tk => k _ tk .int
  | divmod =>
    refine ok_on2 (Ts := fun xs => call (.builtin "divmod") xs) ha fun v x v' x' h1 h2 => ok_onInt (T := fun x => call (.builtin "divmod") [x, x']) h1 fun i t => ok_onInt (T := fun x' => call (.builtin "divmod") [.int i t, x']) h2 fun j u => ok_need fun os' hp => ?_
    intro _ s r Q E hQ
    refine divmod_N r.F r.N hp.1 (fun h' F' N' => ?_) (.inl hp.2)
    obtain ⟨r', g⟩ := r.push (fun p hp e => absurd (fresh_lt r p hp) (by rw [e]; exact Nat.lt_irrefl _)) F' N'
    exact hQ _ { s with heap := h', toks := s.toks + 1 + 1 } _ r' g (VR.tup (.head _) rfl rfl (.cons .int (.cons .int .nil))) ⟨rfl, rfl⟩
  | chr => exact one fun v x h => ok_onInt (T := fun x => call (.builtin "chr") [x]) h fun i t => ok_need fun os' hp => ok_same_pure fun Q E s _ k => chr_of_range hp.1 hp.2 (k _ _ .str)
  | ord => exact one fun v x h => ok_onStr (T := fun x => call (.builtin "ord") [x]) h fun i t => ok_need fun os' hp => ok_same_pure fun Q E s _ k => ord_of_one hp (k _ _ .int)
  | isi => exact ok_on2 (Ts := fun xs => call (.builtin "isinstance") xs) ha fun v x v' x' h1 h2 => ok_onStr (T := fun x => call (.builtin "isinstance") [x, x']) h1 fun i t => ok_iff fun ht => by rw [isStrT_is h2 ht]; exact ok_same_pure fun Q E s _ k => PySem.IsiPair.str_str (k _ s.toks .bool)
  | typ =>
    refine one fun v x h => ?_
    cases v with
    | int i => obtain ⟨t, rfl⟩ := VR.int' h; exact ok_same_pure fun Q E s _ k => call_type_of (Tx := "int") rfl (by decide) (k _ s.toks .stat)
    | str i => obtain ⟨t, rfl⟩ := VR.str' h; exact ok_same_pure fun Q E s _ k => call_type_of (Tx := "str") rfl (by decide) (k _ s.toks .stat)
    | _ => exact trivial
  | int => exact one fun v x h => ok_onInt (T := fun x => call (.type "int") [x]) h fun i t => ok_same_pure fun Q E s _ k => call_int_int (k _ s.toks .int)
  | deque => exact ok_on0 (Ts := fun xs => call (.type "collections.deque") xs) ha ok_deque
  | range => exact one fun v x h => ok_onInt (T := fun x => call (.type "range") [x]) h fun i t => ok_range
  | str => exact trivial
noncomputable def callM (P : Pg) (lv : Lv) (fm : Fm) (f : Expr) (args : List Expr) (kws : List Keyword) : Ev V := do
  let g ← lv.e fm f
  iff (callee P g) do
    let a ← argsE lv fm args kws
    match bfOf g with
    | some b => iff a.2.isEmpty (bfE b a.1)
    | none => lv.call fm g a.1 a.2
theorem ok_callM (S : Snd P n lv) (c : Cx P fm n X) (x : Str) (p pos : Pos) (args : List Expr) (kws : List Keyword) :
    Ok P fm X D σ (eval (.Call (.Name x p) args kws pos) (envAt fm X)) (callM P lv fm (.Name x p) args kws σ os) (VRel X) := by
  unfold callM
  rw [arm_eval_Call_Name']
  refine ok_bind (S.e fm X D σ os _ c) fun g σ₁ os₁ D₁ y g₁ r₁ => ok_iff fun hc => ?_
  refine ok_callWith S c pos (callee_keeps r₁ hc) fun a σ₂ os₂ D₂ z g₂ r₂ r₃ => ?_
  cases hb : bfOf g with
  | none => exact ok_call (S.call fm X D₂ σ₂ os₂ _ _ _ _ _ _ c (rel_mono r₁ g₂) r₂ r₃)
  | some b => exact ok_iff fun he => by rw [krel_nil r₃ he, bfOf_is r₁ hb]; exact ok_bf c r₂
end
end Mini
namespace Mini
open PySem PySem.W PySem.Calls PyProof.Rows
noncomputable def fkEs (x : Str) : List (Str × V) := x.cps.toList.map fun c => ((⟨#[c]⟩ : Str), V.none)
noncomputable def FkAt (x : Str) (hp : List LO) (v : V) (hp' : List LO) : Prop := v = .obj hp.length ∧ hp' = hp ++ [.dict (fkEs x)] ∧ x.cps.toList.Nodup ∧ x.cps.size ≤ 1000
noncomputable def MtAt (j : Nat) (hp : List LO) (v : V) (hp' : List LO) : Prop := ∃ x : Str, hp[j]? = some (.dict (fkEs x)) ∧ x.cps.toList.Nodup ∧ x.cps.size ≤ 1000 ∧ v = .obj hp.length ∧ hp' = hp ++ [.tab x.cps.toList]
noncomputable def TrAt (x : Str) (j : Nat) (hp : List LO) (v : V) (hp' : List LO) : Prop := ∃ l, hp[j]? = some (.tab l) ∧ x.cps.size ≤ 1000 ∧ x.cps.size ≠ 0 ∧ v = .str ⟨(FK.kp l x.cps.toList).toArray⟩ ∧ hp' = hp
noncomputable def tellAt (A : List LO → V → List LO → Prop) : Ev V := fun σ os => match os.c with
  | [] => .no "untold"
  | a :: cs => match a with
    | .fn v hp' => .ok v ⟨σ.loc, hp'⟩ ⟨os.d, cs⟩ [A σ.hp v hp']
    | _ => .no "untold"
noncomputable def isDictT : V → Bool
  | .stat v => v == .type "dict"
  | _ => false
noncomputable def isDk (n : Str) : Bool := n == ("fromkeys" : Str) || (n == ("maketrans" : Str) || n == ("translate" : Str))
noncomputable def dkE (lv : Lv) (fm : Fm) (o : Expr) (n : Str) (apos pos : Pos) (args : List Expr) (kws : List Keyword) : Ev V := iff (methForm o apos pos args kws && isDk n) do
  let ov ← lv.e fm o
  if n == ("fromkeys" : Str) then iff (isDictT ov && !fm.hand) (argsE0 lv fm args kws fun as => on1 as fun a => onStr a fun x => tellAt (FkAt x))
  else onStr ov fun x => if n == ("maketrans" : Str) then argsE0 lv fm args kws fun as => on1 as fun a => onObj a fun j => tellAt (MtAt j)
    else argsE0 lv fm args kws fun as => on1 as fun a => onObj a fun j => iff (!fm.hand) (tellAt (TrAt x j))
section
variable {P : Pg} {fm : Fm} {X : Fx} {D : Dy} {σ : St} {os : Os} {n : Nat} {lv : Lv}
theorem ok_tellAt {A : List LO → V → List LO → Prop} {t : Sem Value} (h : ∀ v hp' os', A σ.hp v hp' → Ok P fm X D σ t (.ok v ⟨σ.loc, hp'⟩ os' []) (VRel X)) : Ok P fm X D σ t (tellAt A σ os) (VRel X) := by
  unfold tellAt
  cases os.c with
  | nil => exact trivial
  | cons a cs =>
    cases a with
    | fn v hp => exact fun hc s hs Q E hQ => h v hp ⟨os.d, cs⟩ (hc _ (.head _)) (fun _ q => nomatch q) s hs Q E hQ
    | _ => exact trivial
theorem Fr.stay {h₀ h h' : Heap} {L : Addr} {m : Str → Option Value} (F : Fr h₀ L h m) (hs : h.StaysIn h') : Fr h₀ L h' m := by
  obtain ⟨oL, es, ep, hL, rest⟩ := F.ns
  exact ⟨⟨oL, es, ep, hs _ _ hL, rest⟩, fun b o e => hs _ _ (F.keep b o e), F.above⟩
theorem News.stay {h₀ h h' : Heap} {L : Addr} {news : List (Addr × Obj)} (N : News h₀ L h news) (hs : h.StaysIn h') : News h₀ L h' news := fun p hp => ⟨hs _ _ (N p hp).1, (N p hp).2⟩
theorem News.at_end {h h' : Heap} (r : Rp P fm X D σ h) (hs : h.StaysIn h') {o : Obj} (ho : h'.get? h.objs.size = some o) : News X.h₀ X.L h' ((h.objs.size, o) :: D.news) := fun p hp => by
  rcases List.mem_cons.mp hp with rfl | hp
  · refine ⟨ho, fun e => ?_, ?_⟩
    · obtain ⟨oL, es, ep, hL, rest⟩ := r.F.ns
      exact absurd (Heap.lt_size hL) (by rw [← e]; exact Nat.lt_irrefl _)
    · cases q : X.h₀.get? h.objs.size with
      | none => rfl
      | some o' => exact absurd (Heap.lt_size (r.F.keep _ _ q)) (Nat.lt_irrefl _)
  · exact News.stay r.N hs p hp
theorem ok_fk (c : Cx P fm n X) (hf : fm.hand = false) {u : Addr} {x : Str} {t : Tok} (hu : (u, FK.bound) ∈ D.news) : Ok P fm X D σ (call (.ref u) [.str x t]) (tellAt (FkAt x) σ os) (VRel X) := by
  refine ok_tellAt fun v hp' os' hA _ s r Q E hQ => ?_
  obtain ⟨rfl, rfl, hnd, hsz⟩ := hA
  refine FK.call_fk (r.N _ hu).1 (c.hh hf) hnd hsz fun h' tk hd hs => ?_
  obtain ⟨o, ho, hd'⟩ := Heap.dictOf_iff.mp hd
  have e1 : (FK.kNone x.cps.toList).map (·.1) = (fkEs x).map (·.1) := by unfold FK.kNone fkEs; rw [List.map_map, List.map_map]; rfl
  obtain ⟨ds, m, rfl, hd₂⟩ := isDict_of (base := X.base) (ad := D.ad) (news := D.news) (es := fkEs x) hd' e1 (by
    unfold FK.kNone fkEs
    rw [List.map_map, List.map_map]
    generalize x.cps.toList = l
    induction l with
    | nil => exact .nil
    | cons a l ih => exact .cons .none ih)
  have fr : ∀ p ∈ D.news, p.1 ≠ s.heap.objs.size := fun p hp e => absurd (fresh_lt r p hp) (by rw [e]; exact Nat.lt_irrefl _)
  obtain ⟨D', r', g', hv'⟩ := Rp.newObj (σ := σ) (h := h') (h' := h') (D := D) (P := P) (fm := fm) (X := X) ⟨Fr.stay r.F hs, News.stay r.N hs, r.nd, r.len, r.dis, r.loc, r.cel, r.inj, r.hp⟩ fr (Fr.stay r.F hs) (News.at_end r hs ho) (lo := .dict (fkEs x)) fun D' g hm => ⟨rfl, ds, m, hm, hd₂.mono g, r.F.notModules (modules_low c.top.nolimit)⟩
  exact hQ D' _ _ r' g' hv' ⟨rfl, rfl⟩
theorem tab_move {prog prog' : Program} {w w' : World} {o : Obj} {kvs : List (Int × Value)} (h : o.IsDictOf (intKind prog w) kvs) : o.IsDictOf (intKind prog' w') kvs := by
  obtain ⟨es, ep, h1, h2, h3, h4, h5⟩ := h
  refine ⟨es, ep, h1, h2, h3, ?_, h5⟩
  clear h2 h3 h5
  generalize es.toList = l at h4
  induction h4 with
  | nil => exact .nil
  | cons a b _ ih => exact .cons a b ih
theorem ok_mt (c : Cx P fm n X) {j : Nat} {y : Value} (hy : VRel X (.obj j) D y) : Ok P fm X D σ (call (.builtin "str.maketrans") [y]) (tellAt (MtAt j) σ os) (VRel X) := by
  refine ok_tellAt fun v hp' os' hA _ s r Q E hQ => ?_
  obtain ⟨x, hj, hnd, hsz, rfl, rfl⟩ := hA
  obtain ⟨a, ds, m, rfl, hm, hd, p, hp, e1, e2, lo⟩ := dict_at r hy hj
  have nd : List.Pairwise (fun a b => a ≠ b) ((fkEs x).map (·.1)) := by
    unfold fkEs
    rw [List.map_map]
    refine List.pairwise_map.mpr (hnd.imp fun {a b} h e => h ?_)
    have e : (⟨#[a]⟩ : Str) = ⟨#[b]⟩ := e
    have : #[a] = #[b] := congrArg Str.cps e
    simpa using this
  obtain ⟨kvs, h1, h3, h4⟩ := hd.isDict (prog := P.prog) (n := m) nd
  have ek : kvs = FK.kNone x.cps.toList := by
    unfold FK.kNone
    unfold fkEs at h3 h4
    rw [List.map_map] at h3 h4
    clear h1 nd hd hm hj hnd hsz
    generalize x.cps.toList = l at h3 h4
    induction l generalizing kvs with
    | nil => exact List.map_eq_nil_iff.mp h3
    | cons a l ih =>
      cases kvs with
      | nil => exact nomatch h3
      | cons q kvs =>
        obtain ⟨k, z⟩ := q
        rw [List.map_cons, List.map_cons] at h3 h4
        obtain ⟨a1, a2⟩ := List.cons.inj h3
        obtain ⟨b, bs, e, b1, b2⟩ := VRs.cons' h4
        obtain ⟨c1, c2⟩ := List.cons.inj e
        subst c1 c2
        have a1 : k = ⟨#[a]⟩ := a1
        rw [show z = Value.none from VR.none' b1, a1, ih kvs a2 b2]; rfl
  subst ek
  refine FK.call_mt lo (Heap.dictOf_iff.mpr ⟨_, (r.N _ hm).1, h1⟩) hnd (by rw [Array.length_toList]; exact hsz) fun h' tk hd' hs => ?_
  obtain ⟨o, ho, hd'⟩ := Heap.dictOf_iff.mp hd'
  have fr : ∀ p ∈ D.news, p.1 ≠ s.heap.objs.size := fun p hp e => absurd (fresh_lt r p hp) (by rw [e]; exact Nat.lt_irrefl _)
  have tab : IsTab o x.cps.toList := by
    refine ⟨fun v q => ?_, fun prog w => ?_⟩
    · obtain ⟨es, ep, _, hda, _⟩ := hd'
      rw [hda] at q; exact nomatch q
    · exact tab_move hd'
  obtain ⟨D', r', g', hv'⟩ := Rp.newObj (σ := σ) (h := h') (h' := h') (D := D) (P := P) (fm := fm) (X := X) ⟨Fr.stay r.F hs, News.stay r.N hs, r.nd, r.len, r.dis, r.loc, r.cel, r.inj, r.hp⟩ fr (Fr.stay r.F hs) (News.at_end r hs ho) (lo := .tab x.cps.toList) fun D' g hm => ⟨rfl, o, hm, tab, r.F.notModules (modules_low c.top.nolimit)⟩
  exact hQ D' _ _ r' g' hv' ⟨rfl, rfl⟩
theorem ok_tr (c : Cx P fm n X) (hf : fm.hand = false) {x : Str} {t : Tok} {j : Nat} {y : Value} (hy : VRel X (.obj j) D y) : Ok P fm X D σ (call (.builtin "str.translate") [.str x t, y]) (tellAt (TrAt x j) σ os) (VRel X) := by
  refine ok_tellAt fun v hp' os' hA _ s r Q E hQ => ?_
  obtain ⟨l, hj, hsz, h0, rfl, rfl⟩ := hA
  obtain ⟨p, hp, rfl⟩ := VR.obj' hy
  obtain ⟨p', hp', hor⟩ := r.hp j _ hj
  rw [hp] at hp'
  cases hp'
  obtain ⟨e1, o, hm, ht, lo⟩ := hor
  rw [e1]
  refine FK.call_tr hsz h0 lo (c.hh hf) (Heap.dictOf_iff.mpr ⟨o, (r.N _ hm).1, ht.2 _ _⟩) fun h' tk u hs => ?_
  exact hQ D { s with heap := h', toks := tk } _ ⟨Fr.stay r.F hs, News.stay r.N hs, r.nd, r.len, r.dis, r.loc, r.cel, r.inj, r.hp⟩ (Gr.refl X D) .str ⟨rfl, rfl⟩
theorem isDictT_is {v : V} {x : Value} (hv : VRel X v D x) (h : isDictT v = true) : x = .type "dict" := by
  cases v with
  | stat y => rw [VR.stat' hv, beq_iff_eq.mp h]
  | _ => cases h
theorem slot_tr : Slot "str" "translate" "str.translate" := F.slot_str_translate
theorem type_tr : typeOf (.builtin "str.translate") = pure (.type "method_descriptor") := by show builtinType _ = _; rw [builtinType_eq_fast]; kernel_rfl
theorem getm_tr {s : Shared} {x : Str} {tk : Tok} {pl : Sem Bool} {Q : Value × List Value → Shared → Prop} {E : Value → Shared → Prop} {A : Around} (q : Q (.builtin "str.translate", [.str x tk]) s) : wpAny (model P.prog P.w) A (getMethod (.str x tk) (PySem.Str.ofString "translate") pl) Q E s := by
  have Z := getMethod_builtin (M := model P.prog P.w) (A := A) (E := E) (s := s) (v := .str x tk) (T := "str") (name := PySem.Str.ofString "translate") (id := "str.translate") (pl := pl) (Q := Q) (typeIs_str _ _ _) F.plainAttrs_str slot_tr type_tr
  exact Z (fun a e => nomatch e) q
theorem getm_fk {s : Shared} {pl : Sem Bool} {Q : Value × List Value → Shared → Prop} {E : Value → Shared → Prop} {A : Around} (r : Rp P fm X D σ s.heap) (c : Cx P fm n X)
    (h : ∀ u h', Fr X.h₀ X.L h' D.m → News X.h₀ X.L h' ((u, FK.bound) :: D.news) → (∀ p ∈ D.news, p.1 ≠ u) → Q (.ref u, []) { s with heap := h', toks := s.toks + 1 }) :
    wpAny (model P.prog P.w) A (getMethod (.type "dict") (PySem.Str.ofString "fromkeys") pl) Q E s := by
  have hstub : opaqueClassAbove (.type "dict") = pure none := by unfold opaqueClassAbove; dsimp only; rw [show Manifest.isStub "dict" = false by decide +kernel]; rfl
  have ht : typeOf (.type "dict") = pure (.type "type") := by first | rfl | kernel_rfl
  have K₀ := r.kin c
  have L0 : Looks (model P.prog P.w) s.heap (typeOf (.type "dict")) (.type "type") := Looks.of_pure ht
  have hg : findIn P.K (.type "type") "__getattribute__" = some (some (.builtin "type.__getattribute__")) := type_tga
  unfold getMethod specialOf
  refine wpAny_bind (wpAny_bind (L0.here ((looks_findIn K₀ hg).here ?_)))
  dsimp only
  rw [if_pos canon_tga]
  refine wpAny_bind (wpAny_mono (Q := fun v => Q (v, [])) (E := E) ?_ (fun _ _ z => wpAny_pure z) fun _ _ z => z)
  have LO : Looks (model P.prog P.w) s.heap (opaqueClassAbove (.type "dict")) none := Looks.of_pure hstub
  refine cls_open K₀ LO L0 hg (looks_hook K₀ (r := none) (by rfl)) (by show subIn P.K _ _ = _; rfl) (FK.find_fk P.K) ?_
  show wpAny _ _ (holding [.builtin "dict.fromkeys"] (call (.builtin "classmethod_descriptor.__get__") [.builtin "dict.fromkeys", .none, .type "dict"]) >>= fun v => ret v) _ _ _
  refine wpAny_bind (wpAny_holding (wpAny_call_entry FK.slot_get FK.type_fk FK.entry_get (FK.run_get ⟨_, rfl, wpAny_pure (wpAny_pure (h _ _ (r.F.push _) (r.N.push r.F _) fun p hp e => absurd (fresh_lt r p hp) (by rw [e]; exact Nat.lt_irrefl _)))⟩) (FK.args_get _ _ _)))
theorem ok_step {α β : Type} {t : Sem β} {t' : Addr → Sem β} {r : Res α} {R : α → Dy → β → Prop} {F : Addr → Dy → Prop} (pre : ∀ Q E s, Rp P fm X D σ s.heap → (∀ u D₂ h' tk, F u D₂ → Rp P fm X D₂ σ h' → Gr X D D₂ → wpAny (model P.prog P.w) X.A (t' u) Q E { s with heap := h', toks := tk }) → wpAny (model P.prog P.w) X.A t Q E s)
    (h : ∀ u D₂, Gr X D D₂ → F u D₂ → Ok P fm X D₂ σ (t' u) r R) : Ok P fm X D σ t r R := by
  cases r with
  | no w => exact trivial
  | ex cls args σ' os c => exact fun hc s hs Q E hE hQ => pre Q E s hs fun u D₂ h' tk f r₂ g₂ => h u D₂ g₂ f hc { s with heap := h', toks := tk } r₂ Q E hE fun D' s' ev x g k => hQ D' s' ev x (g₂.trans g) ⟨k.os, k.gens⟩
  | ok a σ' os c => exact fun hc s hs Q E hQ => pre Q E s hs fun u D₂ h' tk f r₂ g₂ => h u D₂ g₂ f hc { s with heap := h', toks := tk } r₂ Q E fun D' s' x r g q k => hQ D' s' x r (g₂.trans g) q ⟨k.os, k.gens⟩
theorem looks_bound {M : Model} {u : Addr} {h : Heap} (hu : h.get? u = some FK.bound) : Looks M h (keeperOf (.ref u)) .machine := fun A Q E s k q => by
  unfold keeperOf
  refine wpAny_bind (wpAny_load (k _ _ hu) ?_)
  exact wpAny_pure q
theorem ok_callFk (S : Snd P n lv) (c : Cx P fm n X) (pos : Pos) {u : Addr} {args : List Expr} {kws : List Keyword} {k : List V × List (Str × V) → Ev V} (hu : (u, FK.bound) ∈ D.news)
    (h' : ∀ a σ₁ os₁ D₁ (x : Args), Gr X D D₁ → (u, FK.bound) ∈ D₁.news → VsRel X a.1 D₁ x.pos → KRel X a.2 D₁ x.kw → Ok P fm X D₁ σ₁ (call (.ref u) ([] ++ x.pos) x.kw) (k a σ₁ os₁) (VRel X)) :
    Ok P fm X D σ (callWith pos (.ref u) [] (backTo pos (starEach args (envAt fm X))) (backToKw pos (keywordEach kws (envAt fm X)))) ((argsE lv fm args kws >>= k) σ os) (VRel X) := by
  have keep : ∀ {D₁ : Dy}, Gr X D D₁ → (u, FK.bound) ∈ D₁.news := fun g => g.nw _ _ hu (.inl ⟨.inr (.inr (.inr rfl)), .inr ⟨_, rfl⟩⟩)
  by_cases hc : (args.any starred || kws.any kwless) = true
  · have : argsE lv fm args kws = fail "args" := by unfold argsE; rw [if_pos hc]
    rw [this]; exact trivial
  · have hc : (args.any starred || kws.any kwless) = false := by simpa using hc
    obtain ⟨h1, h2⟩ := Bool.or_eq_false_iff.mp hc
    refine ok_bind_of (fun Q E s r z => ?_) (ok_args S c pos (.ref u) args kws) fun a σ₁ os₁ D₁ x g₁ r₁ => h' a σ₁ os₁ D₁ x g₁ (keep g₁) r₁.1 r₁.2
    refine callWith_of (P := fun h => h.get? u = some FK.bound) (by rw [star_no _ pos h1, kw_no _ pos h2]; rfl) (fun h hp => ⟨.machine, .inr (.inl rfl), looks_bound hp⟩) (wpAny_mono z (fun a s₁ q => ⟨?_, q.2⟩) fun _ _ y => y)
    obtain ⟨⟨D₁, σ₁, r₁, g₁⟩, _⟩ := q
    exact (r₁.N _ (keep g₁)).1
theorem ok_dkE (S : Snd P n lv) (c : Cx P fm n X) (o : Expr) (name : Str) (apos pos : Pos) (args : List Expr) (kws : List Keyword) :
    Ok P fm X D σ (eval (.Call (.Attribute o name apos) args kws pos) (envAt fm X)) (dkE lv fm o name apos pos args kws σ os) (VRel X) := by
  refine ok_iff fun hc => ?_
  obtain ⟨hc, hn⟩ := band hc
  obtain ⟨hb, hc⟩ := band hc
  obtain ⟨h1, hc⟩ := band hc
  obtain ⟨h2, hc⟩ := band hc
  obtain ⟨hp, hk⟩ := band hc
  have hk := of_decide_eq_true hk
  have h1 : args.any starred = false := Bool.not_eq_true' _ ▸ h1
  have h2 : kws.any kwless = false := Bool.not_eq_true' _ ▸ h2
  rw [arm_eval_Call, base_plain hb]
  refine ok_bind (S.e fm X D σ os o c) fun ov σ₁ os₁ D₁ x g₁ r₁ => ok_standAt ?_
  by_cases hf : (name == ("fromkeys" : Str)) = true
  · rw [if_pos hf]
    refine ok_iff fun hd => ?_
    obtain ⟨hd, hh⟩ := band hd
    have hh : fm.hand = false := Bool.not_eq_true' _ ▸ hh
    rw [isDictT_is r₁ hd, beq_iff_eq.mp hf]
    refine ok_step (F := fun u D₂ => (u, FK.bound) ∈ D₂.news) (t' := fun u => callWith pos (.ref u) [] (backTo pos (starEach args (envAt fm X))) (backToKw pos (keywordEach kws (envAt fm X)))) (fun Q E s hs z => ?_) fun u D₂ g₂ hu => ?_
    · unfold methodCall
      rw [form_true h1 h2 hk]
      refine wpAny_bind (wpAny_holding ?_)
      unfold calleeOf
      simp only [if_true]
      refine getm_fk hs c fun u h' F' N' hne => ?_
      unfold methodCallPos
      dsimp only
      rw [hp]
      obtain ⟨r₂, g₂⟩ := hs.push (fun p hp => hne p hp) F' N'
      exact wpAny_bind (wpAny_pure (z u _ h' _ (.head _) r₂ g₂))
    · exact ok_callFk S c pos hu fun a σ₂ os₂ D₃ y g₃ hu₃ r₂ r₃ => ok_iff fun he => by
        rw [krel_nil r₃ he]
        exact ok_on1 (Ts := fun l => call (.ref u) ([] ++ l)) r₂ fun v z hz => ok_onStr (T := fun z => call (.ref u) [z]) hz fun x t => ok_fk c hh hu₃
  · rw [if_neg hf]
    refine ok_onStr (T := fun z => methodCall o name apos pos (envAt fm X) z _ (backTo pos (starEach args (envAt fm X))) (backToKw pos (keywordEach kws (envAt fm X)))) r₁ fun x tk => ?_
    by_cases hm : (name == ("maketrans" : Str)) = true
    · show Ok P fm X D₁ σ₁ _ ((if (name == ("maketrans" : Str)) = true then _ else _ : Ev V) σ₁ os₁) (VRel X)
      rw [if_pos hm, beq_iff_eq.mp hm]
      refine ok_methodCall (g := .builtin "str.maketrans") (first := []) h1 h2 hk hp (fun pl Q E s hs q => FK.getm_mt (q _)) ?_
      exact ok_callWith S c pos (keeps_machine fun _ e => nomatch e) fun a σ₂ os₂ D₂ y g₂ r₂ r₃ => ok_iff fun he => by
        rw [krel_nil r₃ he]
        exact ok_on1 (Ts := fun l => call (.builtin "str.maketrans") ([] ++ l)) r₂ fun v z hz => ok_onObj fun j (e : v = .obj j) => ok_mt c (by rw [← e]; exact hz)
    · show Ok P fm X D₁ σ₁ _ ((if (name == ("maketrans" : Str)) = true then _ else _ : Ev V) σ₁ os₁) (VRel X)
      have ht : name = ("translate" : Str) := by
        unfold isDk at hn
        rw [eq_false_of_ne_true hf, eq_false_of_ne_true hm, Bool.false_or, Bool.false_or] at hn
        exact beq_iff_eq.mp hn
      rw [if_neg hm, ht]
      refine ok_methodCall (g := .builtin "str.translate") (first := [.str x tk]) h1 h2 hk hp (fun pl Q E s hs q => getm_tr (q s.toks)) ?_
      exact ok_callWith S c pos (keeps_machine fun _ e => nomatch e) fun a σ₂ os₂ D₂ y g₂ r₂ r₃ => ok_iff fun he => by
        rw [krel_nil r₃ he]
        exact ok_on1 (Ts := fun l => call (.builtin "str.translate") ([.str x tk] ++ l)) r₂ fun v z hz => ok_onObj fun j (e : v = .obj j) => ok_iff fun hh => ok_tr c (Bool.not_eq_true' _ ▸ hh) (by rw [← e]; exact hz)
end
end Mini
namespace Mini
open PySem PySem.W PySem.Calls PyProof.Rows PySem.Builtin.Str
variable {α β γ δ : Type}
section
variable {P : Pg} {fm : Fm} {X : Fx} {D : Dy} {σ : St} {os : Os} {n : Nat} {lv : Lv} {h h' : Heap}
theorem mulOk_is {a b : Int} (h : Builtin.Int.intBits a ≤ 64 ∨ Builtin.Int.intBits b ≤ 64) : IntMulOk a b := h.elim .of_left .of_right
noncomputable def addRow (a b : V) : Ev V := onRow a fun vs => onRow b fun ws => do need (vs.length + ws.length ≤ sizeLine); newLo (.list (vs ++ ws))
noncomputable def mulLst (i : Nat) (k : Int) : Ev V := onLst i fun vs => on1 vs fun v => do need (0 ≤ k ∧ k ≤ 1000000); newLo (.list (List.replicate k.toNat v))
noncomputable def binOpE (op : Operator) (a b : V) : Ev V := match op with
  | .Add => (match a with
    | .obj i => addRow (.obj i) b
    | .ro ns => addRow (.ro ns) b
    | a => addE a b)
  | .Mult => (match a with
    | .obj i => onInt b fun k => mulLst i k
    | a => onInt a fun x => onInt b fun y => do need (Builtin.Int.intBits x ≤ 64 ∨ Builtin.Int.intBits y ≤ 64); pure (.int (x * y)))
  | .Sub => onInt a fun x => onInt b fun y => pure (.int (x - y))
  | .Mod => modE a b
  | .Pow => onInt a fun x => onInt b fun y => do need (0 ≤ y ∧ (Builtin.Int.intBits x : Int) * y ≤ 2 ^ 27); pure (.int (x ^ y.toNat))
  | .FloorDiv => onInt a fun x => onInt b fun y => do need (y ≠ 0 ∧ Builtin.divisionGoesByPylong x y = false); pure (.int (x.fdiv y))
  | _ => fail "binop"
theorem foldl_one (x : Value) : ∀ (k : Nat) (acc : Array Value), List.foldl (fun x1 x2 => x1 ++ x2) acc (List.replicate k #[x]) = acc ++ (List.replicate k x).toArray
  | 0, acc => by simp
  | k + 1, acc => by
    rw [List.replicate_succ, List.foldl_cons, foldl_one x k, List.replicate_succ]
    apply Array.ext'
    simp
theorem vrs_replicate {base : Heap} {ad news} {v : V} {x : Value} (h : VR base ad news v x) : ∀ k, VRs base ad news (List.replicate k v) (List.replicate k x)
  | 0 => .nil
  | k + 1 => .cons h (vrs_replicate h k)
theorem ok_addRow (c : Cx P fm n X) {a b : V} {x y : Value} (ha : VRel X a D x) (hb : VRel X b D y) : Ok P fm X D σ (binaryOp .Add x y) (addRow a b σ os) (VRel X) := by
  refine ok_onRow c ha fun vs h1 => ok_onRow c hb fun ws h2 => ok_need fun os' hp => ok_made fun Q E s r k => ?_
  obtain ⟨a, xs, rfl, l1, e3⟩ := h1 _ r
  obtain ⟨b, ys, rfl, l2, f3⟩ := h2 _ r
  refine add_lists (vs := xs.toList) (ws := ys.toList) r.F r.N l1 l2 (fun h' F' N' => ?_) (by rw [e3.length, f3.length]; exact hp)
  refine k _ _ h' s.toks F' N' (fresh_lt r) fun D' g hm => ⟨rfl, _, 0, hm, ?_⟩
  rw [List.toList_toArray]
  exact (rels_mono e3 g).append (rels_mono f3 g)
theorem ok_mulLst {i : Nat} {kk : Int} {x : Value} {u : Tok} (ha : VRel X (.obj i) D x) : Ok P fm X D σ (binaryOp .Mult x (.int kk u)) (mulLst i kk σ os) (VRel X) := by
  refine ok_onLst fun vs hi => ?_
  cases vs with
  | nil => exact trivial
  | cons v r =>
    cases r with
    | cons _ _ => exact trivial
    | nil =>
      refine ok_need fun os' hp => ok_made fun Q E s r k => ?_
      obtain ⟨a, ⟨xs⟩, m, rfl, e2, e3, _⟩ := lst_at r ha hi
      obtain ⟨y, ys, e, h1, h2⟩ := VRs.cons' e3
      have e : xs = y :: ys := e
      rw [h2.nil'] at e
      subst e
      refine mul_list r.F r.N (items := #[y]) (k := m) e2 (Int.le_trans (show (-2 ^ 63 : Int) ≤ 0 by decide) hp.1) (Int.lt_of_le_of_lt hp.2 (show (1000000 : Int) < 2 ^ 63 by decide)) (by show 1 * kk.toNat ≤ _; rw [Nat.one_mul]; exact Nat.le_trans (Int.toNat_le.mpr hp.2) (by decide)) fun h' F' N' => ?_
      refine k _ _ h' s.toks F' N' (fresh_lt r) fun D' g hm => ⟨rfl, _, 0, hm, ?_⟩
      rw [if_neg (fun h => nomatch h), foldl_one y kk.toNat #[], Array.toList_append]
      exact vrs_replicate (rel_mono h1 g) kk.toNat
theorem ok_ints {op : Operator} {a b : V} {x y : Value} {k : Int → Int → Ev V} (ha : VRel X a D x) (hb : VRel X b D y) (h : ∀ i t j u, Ok P fm X D σ (binaryOp op (.int i t) (.int j u)) (k i j σ os) (VRel X)) :
    Ok P fm X D σ (binaryOp op x y) ((onInt a fun x => onInt b fun y => k x y : Ev V) σ os) (VRel X) :=
  ok_onInt (T := fun x => binaryOp op x y) ha fun i t => ok_onInt hb fun j u => h i t j u
theorem ok_binOpE (c : Cx P fm n X) {op : Operator} {a b : V} {x y : Value} (ha : VRel X a D x) (hb : VRel X b D y) : Ok P fm X D σ (binaryOp op x y) (binOpE op a b σ os) (VRel X) := by
  cases op with
  | Add =>
    cases a with
    | obj i => exact ok_addRow c ha hb
    | ro ns => exact ok_addRow c ha hb
    | _ => exact ok_addE (os := os) ha hb
  | Mult =>
    have num := ok_ints (P := P) (fm := fm) (σ := σ) (os := os) (op := .Mult) ha hb fun i t j u => ok_need (k := fun _ => pure (V.int (i * j))) (p := Builtin.Int.intBits i ≤ 64 ∨ Builtin.Int.intBits j ≤ 64) fun os' hp => ok_same_pure fun Q E s _ k => PyProof.Rows.mul_int (k _ _ VR.int) (mulOk_is hp)
    cases a with
    | obj i => exact ok_onInt hb fun j u => ok_mulLst ha
    | _ => exact num
  | Sub => exact ok_subE ha hb
  | Mod => exact ok_modE ha hb
  | Pow => exact ok_ints ha hb fun i t j u => ok_need fun os' hp => ok_same_pure fun Q E s _ k => PyProof.Rows.pow_int hp.1 hp.2 (k _ _ .int)
  | FloorDiv => exact ok_ints ha hb fun i t j u => ok_need fun os' hp => ok_same_pure fun Q E s _ k => PyProof.Rows.floordiv_int hp.1 (k _ _ .int) (.inl hp.2)
  | _ => exact trivial
noncomputable def notE (v : V) : Ev V := do
  let t ← truth v
  pure (.bool (!t))
noncomputable def negE (v : V) : Ev V := onInt v fun i => pure (.int (-i))
theorem ok_map_of {T : Sem δ} {t : Sem β} {f : β → δ} {m : Ev α} {k : α → γ} {R : α → Dy → β → Prop} {R' : γ → Dy → δ → Prop}
    (e : ∀ (Q : δ → Shared → Prop) (E : Value → Shared → Prop) s, wpAny (model P.prog P.w) X.A t (fun a s₁ => Q (f a) s₁) E s → wpAny (model P.prog P.w) X.A T Q E s)
    (h : Ok P fm X D σ t (m σ os) R) (h' : ∀ a D₁ x, R a D₁ x → R' (k a) D₁ (f x)) : Ok P fm X D σ T ((m >>= fun a => pure (k a)) σ os) R' := by
  show Ok P fm X D σ T (Ev.bind m (fun a => Ev.pure (k a)) σ os) R'
  unfold Ev.bind Ev.pure
  cases hm : m σ os with
  | no w => exact trivial
  | ex cls args σ₁ os₁ c =>
    rw [hm] at h
    intro hc s hs Q E hE hQ
    exact e Q E s (h hc s hs _ E hE hQ)
  | ok a σ₁ os₁ c =>
    rw [hm] at h
    intro hc s hs Q E hQ
    exact e Q E s (h (fun p hp => hc p (List.mem_append_left _ hp)) s hs _ E fun D₁ s₁ x r₁ g₁ q₁ k₁ => hQ D₁ s₁ _ r₁ g₁ (h' a D₁ x q₁) k₁)
noncomputable def unE (lv : Lv) (fm : Fm) (op : UnaryOp) (x : Expr) : Ev V := match op with
  | .Not => do
    let v ← lv.e fm x
    notE v
  | .USub => do
    let v ← lv.e fm x
    negE v
  | _ => fail "unary"
noncomputable def ifxE (lv : Lv) (fm : Fm) (t a b : Expr) : Ev V := do
    let r ← lv.b fm t
    if ← dec r then lv.e fm a else lv.e fm b
noncomputable def calE (P : Pg) (lv : Lv) (fm : Fm) (f : Expr) (args : List Expr) (kws : List Keyword) (pos : Pos) : Ev V := match f with
  | .Attribute o name apos => if isDk name then dkE lv fm o name apos pos args kws else methE P lv fm o name apos pos args kws
  | .Name x p => callM P lv fm (.Name x p) args kws
  | _ => fail "call"
noncomputable def sliceOf : Expr → Option (Option Expr × Option Expr)
  | .Slice lo hi st _ => match st with
    | none => some (lo, hi)
    | some _ => none
  | _ => none
noncomputable def subE (lv : Lv) (fm : Fm) (value slice : Expr) : Ev V := match sliceOf slice with
  | some q => do
    let o ← lv.e fm value
    let p ← sliceE lv fm q.1 q.2
    cutV o p
  | none => iff (notSlice slice) do
      let o ← lv.e fm value
      let i ← lv.e fm slice
      itemV o i
structure ComC (P : Pg) (k : Nat) (fm : Fm) (σ : St) (e : Expr) (v : V) (hp' : List LO) : Prop where
  out : ∀ X D, Cx P fm k X → Ok P fm X D σ (eval e (envAt fm X)) (.ok v ⟨σ.loc, hp'⟩ ⟨[], []⟩ []) (VRel X)
noncomputable def comE (P : Pg) (k : Nat) (fm : Fm) (e : Expr) : Ev V := fun σ os => match os.c with
  | [] => .no "expression: untold"
  | a :: cs => match a with
    | .fn v hp' => .ok v ⟨σ.loc, hp'⟩ ⟨os.d, cs⟩ [ComC P k fm σ e v hp']
    | _ => .no "expression: untold"
theorem ok_comE {k : Nat} (hk : k ≤ n) (c : Cx P fm n X) (e : Expr) : Ok P fm X D σ (eval e (envAt fm X)) (comE P k fm e σ os) (VRel X) := by
  unfold comE
  cases os.c with
  | nil => exact trivial
  | cons a cs =>
    cases a with
    | fn v hp' => exact fun hc => (hc _ (.head _) : ComC P k fm σ e v hp').out X D (c.le hk) (fun _ h => nomatch h)
    | _ => exact trivial
noncomputable def evE (P : Pg) (lv : Lv) (fm : Fm) (e : Expr) : Ev V := match e with
  | .Constant c _ _ => constE c
  | .Name x _ => nameE P fm x
  | .BinOp l op r _ => do
    let a ← lv.e fm l
    let b ← lv.e fm r
    binOpE op a b
  | .UnaryOp op x _ => unE lv fm op x
  | .BoolOp op vs _ => boolE lv fm op vs
  | .IfExp t a b _ => ifxE lv fm t a b
  | .Compare l ops cs _ => iff (!lastMarks ops cs) do
    let a ← lv.e fm l
    chainE P.K lv fm ops a cs
  | .Attribute o a _ => iff (plainBase o) do
      let ov ← lv.e fm o
      getA P lv fm ov a
  | .Call f args kws pos => calE P lv fm f args kws pos
  | .Subscript value slice _ => subE lv fm value slice
  | .List es _ => do
    let vs ← exprsE lv fm es
    listV vs
  | .Tuple es _ _ => do
    let vs ← exprsE lv fm es
    tupV vs
  | .Dict ks vs _ => iff (ks.isEmpty && vs.isEmpty) (newLo (.dict []))
  | .ListComp a b s p => comE P lv.room fm (.ListComp a b s p)
  | _ => fail "expression"
theorem sliceOf_is {e : Expr} {q : Option Expr × Option Expr} (h : sliceOf e = some q) : ∃ p, e = .Slice q.1 q.2 none p := by
  cases e with
  | Slice lo hi st p =>
    cases st with
    | none => rw [← Option.some.inj h]; exact ⟨p, rfl⟩
    | some _ => cases h
  | _ => cases h
theorem ok_ev (S : Snd P n lv) (c : Cx P fm (n + 1) X) (e : Expr) : Ok P fm X D σ (eval e (envAt fm X)) (evE P lv fm e σ os) (VRel X) := by
  have c' := c.less
  cases e with
  | Constant k _ _ => exact ok_const k
  | Name x p => exact ok_name c x p
  | BinOp l op r p =>
    rw [arm_eval_BinOp]
    exact ok_bind (k := fun a => lv.e fm r >>= fun b => binOpE op a b) (S.e fm X D σ os l c') fun a σ₁ os₁ D₁ x g₁ r₁ => ok_bind (ok_holding (S.e fm X D₁ σ₁ os₁ r c')) fun b σ₂ os₂ D₂ y g₂ r₂ => ok_standAt (ok_operate (ok_binOpE c' (rel_mono r₁ g₂) r₂))
  | UnaryOp op x p =>
    cases op with
    | Not =>
      rw [arm_eval_UnaryOp]
      refine ok_bind (k := notE) (S.e fm X D σ os x c') fun a σ₁ os₁ D₁ y g₁ r₁ => ok_standAt (ok_holding ?_)
      unfold notE
      refine ok_map_of (f := fun t => Value.bool (!t)) (fun Q E s z => not_of z) (ok_truth r₁) fun t D₂ z r₂ => ?_
      rw [show z = t from r₂]
      exact .bool
    | USub =>
      rw [arm_eval_UnaryOp]
      exact ok_bind (k := negE) (S.e fm X D σ os x c') fun a σ₁ os₁ D₁ y g₁ r₁ => ok_standAt (ok_holding (ok_onInt r₁ fun i t => ok_same_pure fun Q E s _ k => PyProof.Rows.neg_int (k _ _ .int)))
    | _ => exact trivial
  | BoolOp op vs p => rw [arm_eval_BoolOp]; exact ok_boolOp S c' p op vs D σ os
  | IfExp t a b p =>
    rw [arm_eval_IfExp]
    refine ok_bind (k := fun r => dec r >>= fun d => if d then lv.e fm a else lv.e fm b) (S.b fm X D σ os t c') fun r σ₁ os₁ D₁ y g₁ r₁ => ok_dec fun b' os' e => ?_
    rw [show y = b' from (show y = r from r₁).trans e]
    cases b'
    · exact S.e fm X D₁ σ₁ os' b c'
    · exact S.e fm X D₁ σ₁ os' a c'
  | Compare l ops cs p =>
    refine ok_iff fun hm => ?_
    rw [arm_eval_Compare, markedEach_of_false ops cs _ (no_t hm)]
    exact ok_bind (k := fun a => chainE P.K lv fm ops a cs) (S.e fm X D σ os l c') fun a σ₁ os₁ D₁ x g₁ r₁ => ok_chain S c' p ops cs a x D₁ σ₁ os₁ r₁
  | Attribute o a p =>
    refine ok_iff fun hb => ?_
    rw [arm_eval_Attribute, base_plain hb]
    refine ok_bind (k := fun ov => getA P lv fm ov a) (S.e fm X D σ os o c') fun ov σ₁ os₁ D₁ x g₁ r₁ => ok_standAt ?_
    refine ok_of (ok_getA S c r₁ a true) fun Q E s _ z => wpAny_bind (wpAny_holding (wpAny_mono z (fun v s' q => wpAny_bind (wpAny_letTemporaryGo (wpAny_pure q))) fun _ _ q => q))
  | Call f args kws pos =>
    cases f with
    | Attribute o name apos =>
      show Ok P fm X D σ _ ((if isDk name = true then dkE lv fm o name apos pos args kws else methE P lv fm o name apos pos args kws) σ os) (VRel X)
      by_cases hn : isDk name = true
      · rw [if_pos hn]; exact ok_dkE S c' _ _ _ _ _ _
      · rw [if_neg hn]; exact ok_methE S c' _ _ _ _ _ _
    | Name x p => exact ok_callM S c' _ _ _ _ _
    | _ => exact trivial
  | Subscript value slice p =>
    rw [arm_eval_Subscript]
    show Ok P fm X D σ _ (subE lv fm value slice σ os) _
    unfold subE
    cases hs : sliceOf slice with
    | some q =>
      obtain ⟨sp, rfl⟩ := sliceOf_is hs
      refine ok_bind (k := fun o => sliceE lv fm q.1 q.2 >>= fun p => cutV o p) (S.e fm X D σ os value c') fun o σ₁ os₁ D₁ x g₁ r₁ => ok_bind (ok_holding (ok_slice S c' q.1 q.2 sp)) fun i σ₂ os₂ D₂ y g₂ r₂ => ok_standAt ?_
      exact ok_cut c' (value := value) (rel_mono r₁ g₂) r₂
    | none =>
      refine ok_iff fun hs => ?_
      refine ok_bind (k := fun o => lv.e fm slice >>= fun i => itemV o i) (S.e fm X D σ os value c') fun o σ₁ os₁ D₁ x g₁ r₁ => ok_bind (ok_holding (S.e fm X D₁ σ₁ os₁ slice c')) fun i σ₂ os₂ D₂ y g₂ r₂ => ok_standAt ?_
      exact ok_item c' (value := value) hs (rel_mono r₁ g₂) r₂
  | List es p =>
    rw [arm_eval_List]
    exact ok_standAt (ok_bind (k := listV) (ok_exprs S c' p es D σ os) fun vs σ₁ os₁ D₁ xs g₁ r₁ => ok_listV r₁)
  | Tuple es k p =>
    rw [arm_eval_Tuple]
    exact ok_standAt (ok_bind (k := tupV) (ok_exprs S c' p es D σ os) fun vs σ₁ os₁ D₁ xs g₁ r₁ => ok_tupV r₁)
  | Dict ks vs p =>
    refine ok_iff fun h => ?_
    obtain ⟨h1, h2⟩ := band h
    rw [List.isEmpty_iff.mp h1, List.isEmpty_iff.mp h2]
    refine ok_made fun Q E s r k => newDict_K r.F r.N c'.top.nolimit fun d h' o F' N' hf lo hd _ _ _ => ?_
    obtain ⟨ds, m, rfl, hd'⟩ := isDict_of (base := X.base) (ad := D.ad) (news := D.news) (es := []) hd rfl .nil
    exact k d _ h' s.toks F' N' hf fun D' g hm => ⟨rfl, _, _, hm, hd'.mono g, lo⟩
  | ListComp a b s p => exact ok_comE S.room c' _
  | _ => exact trivial
noncomputable def isTest : Expr → Bool
  | .UnaryOp op _ _ => match op with
    | .Not => true
    | _ => false
  | .BoolOp .. => true
  | .IfExp .. => true
  | .Compare .. => true
  | _ => false
theorem isTrue_rest (env : Env) (whole : Sem Value) {e : Expr} (h : isTest e = false) : isTrue e env whole = (do let v ← whole; standAt e.pos; holding [v] (truthy v)) := by
  cases e with
  | UnaryOp op x p =>
    cases op with
    | Not => cases h
    | _ => rfl
  | BoolOp => cases h
  | IfExp => cases h
  | Compare => cases h
  | _ => rfl
noncomputable def bvR (lv : Lv) (fm : Fm) (e : Expr) : Ev Bool := iff (!isTest e) do
    let v ← lv.e fm e
    truth v
noncomputable def bvE (P : Pg) (lv : Lv) (fm : Fm) (e : Expr) : Ev Bool := match e with
  | .UnaryOp op x p => (match op with
    | .Not => do
      let b ← lv.b fm x
      pure (!b)
    | _ => bvR lv fm e)
  | .BoolOp op vs _ => allE lv fm op vs
  | .IfExp t a b _ => do
    let r ← lv.b fm t
    if ← dec r then lv.b fm a else lv.b fm b
  | .Compare l ops cs _ => iff (!lastMarks ops cs) do
    let a ← lv.e fm l
    testE P.K lv fm ops a cs
  | _ => bvR lv fm e
theorem ok_bvR (S : Snd P n lv) (c : Cx P fm n X) (e : Expr) : Ok P fm X D σ (isTrue e (envAt fm X) (eval e (envAt fm X))) (bvR lv fm e σ os) BRel := by
  refine ok_iff fun ht => ?_
  rw [isTrue_rest _ _ (no_t ht)]
  exact ok_bind (S.e fm X D σ os e c) fun v σ₁ os₁ D₁ x g₁ r₁ => ok_standAt (ok_holding (ok_truth r₁))
theorem ok_bv (S : Snd P n lv) (c : Cx P fm n X) (e : Expr) : Ok P fm X D σ (isTrue e (envAt fm X) (eval e (envAt fm X))) (bvE P lv fm e σ os) BRel := by
  cases e with
  | UnaryOp op x p =>
    cases op with
    | Not =>
      rw [arm_isTrue_UnaryOp]
      refine ok_bind (k := fun b => pure (!b)) (S.b fm X D σ os x c) fun b σ₁ os₁ D₁ y g₁ r₁ => ?_
      rw [show y = b from r₁]
      exact ok_pure rfl
    | _ => exact ok_bvR S c _
  | BoolOp op vs p => rw [arm_isTrue_BoolOp]; exact ok_all S c op vs D σ os
  | IfExp t a b p =>
    rw [arm_isTrue_IfExp]
    refine ok_bind (k := fun r => dec r >>= fun d => if d then lv.b fm a else lv.b fm b) (S.b fm X D σ os t c) fun r σ₁ os₁ D₁ y g₁ r₁ => ok_dec fun b' os' e => ?_
    rw [show y = b' from (show y = r from r₁).trans e]
    cases b'
    · exact S.b fm X D₁ σ₁ os' b c
    · exact S.b fm X D₁ σ₁ os' a c
  | Compare l ops cs p =>
    refine ok_iff fun hm => ?_
    rw [arm_isTrue_Compare, markedEach_of_false ops cs _ (no_t hm)]
    exact ok_bind (k := fun a => testE P.K lv fm ops a cs) (S.e fm X D σ os l c) fun a σ₁ os₁ D₁ x g₁ r₁ => ok_test S c p ops cs a x D₁ σ₁ os₁ r₁
  | _ => exact ok_bvR S c _
end
end Mini
namespace Mini
open PySem PySem.W PySem.Calls PyProof.Rows
variable {α β γ δ : Type}
structure CallC (P : Pg) (k : Nat) (hand : Bool) (f : Addr) (args : List V) (kw : List (Str × V)) (hp : List LO) (r : V ⊕ (String × List V)) (hp' : List LO) : Prop where
  out : ∀ fm X D loc xs ks, fm.hand = hand → Cx P fm k X → VsRel X args D xs → KRel X kw D ks → OkC P fm X D ⟨loc, hp⟩ (.call (.ref f) ⟨xs, ks⟩)
    (match r with | .inl v => .ok v ⟨loc, hp'⟩ ⟨[], []⟩ [] | .inr p => .ex p.1 p.2 ⟨loc, hp'⟩ ⟨[], []⟩ []) (RetRel X D)
noncomputable def atA (X : Fx) (B : Around) : Fx := { X with A := B }
section
variable {P : Pg} {fm : Fm} {X : Fx} {B : Around} {D : Dy} {σ : St} {os : Os} {n : Nat} {lv : Lv}
theorem Rp.atA {h : Heap} (r : Rp P fm X D σ h) : Rp P fm (atA X B) D σ h := ⟨r.F, r.N, r.nd, r.len, r.dis, r.loc, r.cel, r.inj, r.hp⟩
theorem Rp.unA {h : Heap} (r : Rp P fm (Mini.atA X B) D σ h) : Rp P fm X D σ h := ⟨r.F, r.N, r.nd, r.len, r.dis, r.loc, r.cel, r.inj, r.hp⟩
theorem Gr.unA {D' : Dy} (g : Gr (Mini.atA X B) D D') : Gr X D D' := ⟨g.ad, g.nw⟩
theorem Cx.under (c : Cx P fm (n + 1) X) (C : Addr) (vals : List Value) (kw : List (Str × Value)) : Cx P fm n (atA X (X.A.under (.builtin "type.__call__" ⟨.ref C :: vals, kw⟩))) :=
  ⟨c.hk, by
    have e : (X.A.under (.builtin "type.__call__" ⟨.ref C :: vals, kw⟩)).frames = X.A.frames := rfl
    exact e.trans c.hA, c.B, by have := c.dep; show X.A.depth + 1 + n < 1000; omega, by
    have := c.uni
    have e : (X.A.under (.builtin "type.__call__" ⟨.ref C :: vals, kw⟩)).units ≤ X.A.units + 20 := by
      have e : (X.A.under (.builtin "type.__call__" ⟨.ref C :: vals, kw⟩)).units = X.A.units + (Code.builtin "type.__call__" ⟨.ref C :: vals, kw⟩).cUnits := rfl
      have e2 : (Code.builtin "type.__call__" ⟨.ref C :: vals, kw⟩).cUnits = 1 := rfl
      omega
    show (X.A.under _).units + 20 * n < 9800
    omega, fun hh => c.hh hh, c.kin, c.top⟩
theorem krel_at {kw : List (Str × V)} {ks : List (Str × Value)} (h : KRel X kw D ks) : KRel (atA X B) kw D ks := by
  induction h with
  | nil => exact .nil
  | cons h _ ih => exact .cons h ih
noncomputable def initIn (P : Pg) (C : Addr) : Option Addr := (findIn P.K (.ref C) "__init__").bind fun o => (refO o).bind fun f => if isFn P.K (.ref f) then some f else none
theorem initIn_is {C f : Addr} (h : initIn P C = some f) : findIn P.K (.ref C) "__init__" = some (some (.ref f)) ∧ isFn P.K (.ref f) = true := by
  obtain ⟨o, h1, h⟩ := Option.bind_eq_some_iff.mp h
  obtain ⟨p, h2, h⟩ := Option.bind_eq_some_iff.mp h
  split at h
  · rename_i hf
    rw [Option.some.inj h] at h2 hf
    exact ⟨by rw [h1, refO_is h2], hf⟩
  · cases h
noncomputable def isNoneV : V → Bool
  | .none => true
  | _ => false
theorem isNoneV_is {v : V} (h : isNoneV v = true) : v = .none := by
  cases v with
  | none => rfl
  | _ => cases h
noncomputable def makeC (P : Pg) (lv : Lv) (fm : Fm) (C : Addr) (args : List V) (kw : List (Str × V)) : Ev V := onSome (initIn P C) fun fI => fun σ os =>
  match lv.call fm (.stat (.ref fI)) (.obj σ.hp.length :: args) kw ⟨σ.loc, σ.hp ++ [.inst C []]⟩ os with
  | .ok v σ' os' c => if isNoneV v then .ok (.obj σ.hp.length) σ' os' c else .no "class: init"
  | .ex _ _ _ _ _ => .no "class: init"
  | .no w => .no w
theorem ok_makeC (S : Snd P n lv) (c : Cx P fm (n + 1) X) {C : Addr} (hm : makesIn P.K C = true) {args : List V} {xs : List Value} {kw : List (Str × V)} {ks : List (Str × Value)} (h1 : VsRel X args D xs) (h2 : KRel X kw D ks) :
    OkC P fm X D σ (.call (.ref C) ⟨xs, ks⟩) (makeC P lv fm C args kw σ os) (RetRel X D) := by
  refine okC_onSome fun fI hfI => ?_
  obtain ⟨hi, hf⟩ := initIn_is hfI
  cases hr : lv.call fm (.stat (.ref fI)) (.obj σ.hp.length :: args) kw ⟨σ.loc, σ.hp ++ [.inst C []]⟩ os with
  | no w => exact trivial
  | ex a b c d e => exact trivial
  | ok v σ' os' cs =>
    dsimp only
    cases hv : isNoneV v with
    | false => exact trivial
    | true =>
        rw [if_pos rfl]
        rw [isNoneV_is hv] at hr
        intro hc s r K hK
        refine make_K r.F r.N (r.kin c) hm hi (beq_iff_eq.mp hf) fun x dx h' F' N' f1 f2 => ?_
        have cu := c.under C xs ks
        have hS := fun D' (hx : VRel X (.obj σ.hp.length) D' (.ref x)) (h1 : VsRel X args D' xs) (h2 : KRel (atA X (X.A.under (.builtin "type.__call__" ⟨.ref C :: xs, ks⟩))) kw D' ks) => S.call fm (atA X (X.A.under (.builtin "type.__call__" ⟨.ref C :: xs, ks⟩))) D' ⟨σ.loc, σ.hp ++ [.inst C []]⟩ os (.stat (.ref fI)) (.ref fI) (.obj σ.hp.length :: args) (.ref x :: xs) kw ks cu .stat (.cons hx h1) h2
        have Nd : News X.h₀ X.L h' ((dx, emptyDict) :: D.news) := fun p hp => N' p (.tail _ hp)
        obtain ⟨r1, g1⟩ := r.push (o := emptyDict) (fun p hp e => absurd (f1 p hp) (by rw [e]; exact Nat.lt_irrefl _)) F' Nd
        obtain ⟨r2, g2⟩ := r1.push (o := instObj C dx) (a := x) (fun p hp e => by
          rcases List.mem_cons.mp hp with rfl | hp
          · exact absurd f2 (by rw [show dx = x from e]; exact Nat.lt_irrefl _)
          · exact absurd (Nat.lt_trans (f1 p hp) f2) (by rw [e]; exact Nat.lt_irrefl _)) F' N'
        obtain ⟨r3, g3⟩ := r2.made (q := (x, dx)) (lo := .inst C []) (.tail _ (.head _)) (fun p hp e => r.fresh (a := dx) (fun p hp e => absurd (f1 p hp) (by rw [e]; exact Nat.lt_irrefl _)) p hp e) ⟨⟨_, .head _⟩, [], 0, .tail _ (.head _), .nil⟩
        have gg := (g1.trans g2).trans g3
        have hx : VRel X (.obj σ.hp.length) { m := D.m, news := (x, instObj C dx) :: (dx, emptyDict) :: D.news, ad := D.ad ++ [(x, dx)] } (.ref x) := by
          refine VR.obj (p := (x, dx)) ?_
          show (D.ad ++ [(x, dx)])[σ.hp.length]? = some (x, dx)
          rw [← r.len, List.getElem?_append_right (Nat.le_refl _), Nat.sub_self]; rfl
        have main := hS _ hx (rels_mono h1 gg) (krel_at (krel_mono gg h2))
        rw [hr] at main
        refine main hc { s with heap := h' } r3.atA _ fun D' s' fl r' g q k => ?_
        obtain ⟨⟨z, rfl, hz⟩, em⟩ := q
        rw [VR.none' hz]
        exact ⟨rfl, hK D' s' _ r'.unA (gg.trans g.unA) ⟨⟨_, rfl, rel_mono hx g.unA⟩, em⟩ ⟨k.os, k.gens⟩⟩
end
noncomputable def goC (P : Pg) (lv : Lv) (fm : Fm) (f : Addr) (args : List V) (kw : List (Str × V)) : Ev V := if makesIn P.K f then makeC P lv fm f args kw else callFn P lv fm.hand f args kw
noncomputable def tellE (P : Pg) (k : Nat) (hand : Bool) (f : Addr) (args : List V) (kw : List (Str × V)) (go : Ev V) : Ev V := fun σ os => match os.c with
    | [] => go σ os
    | a :: cs => match a with
      | .fn v hp' => .ok v ⟨σ.loc, hp'⟩ ⟨os.d, cs⟩ [CallC P k hand f args kw σ.hp (.inl v) hp']
      | .fx cls as hp' => .ex cls as ⟨σ.loc, hp'⟩ ⟨os.d, cs⟩ [CallC P k hand f args kw σ.hp (.inr (cls, as)) hp']
      | _ => go σ ⟨os.d, cs⟩
noncomputable def callE (P : Pg) (lv : Lv) (fm : Fm) (g : V) (args : List V) (kw : List (Str × V)) : Ev V := onSome (refV g) fun f => tellE P lv.room fm.hand f args kw (goC P lv fm f args kw)
section
variable {P : Pg} {fm : Fm} {X : Fx} {D : Dy} {σ : St} {os : Os} {n : Nat} {lv : Lv}
theorem ok_callE (S : Snd P n lv) (c : Cx P fm (n + 1) X) {f : V} {g : Value} {args : List V} {xs : List Value} {kw : List (Str × V)} {ks : List (Str × Value)} (hf : VRel X f D g) (h1 : VsRel X args D xs) (h2 : KRel X kw D ks) :
    OkC P fm X D σ (.call g ⟨xs, ks⟩) (callE P lv fm f args kw σ os) (RetRel X D) := by
  refine okC_onSome fun f hf' => ?_
  rw [refV_is hf hf']
  have go : ∀ os, OkC P fm X D σ (.call (.ref f) ⟨xs, ks⟩) (goC P lv fm f args kw σ os) (RetRel X D) := fun os => by
    unfold goC
    by_cases hm : makesIn P.K f = true
    · rw [if_pos hm]; exact ok_makeC S c hm h1 h2
    · rw [if_neg hm]; exact ok_callFn S c _ h1 h2
  unfold tellE
  cases os.c with
  | nil => exact go os
  | cons a cs =>
    cases a with
    | fn v hp' => exact fun hc => (hc _ (.head _) : CallC P lv.room fm.hand _ args kw σ.hp _ _).out fm X D σ.loc xs ks rfl (c.less.le S.room) h1 h2 (fun _ q => nomatch q)
    | fx cls as hp' => exact fun hc => (hc _ (.head _) : CallC P lv.room fm.hand _ args kw σ.hp _ _).out fm X D σ.loc xs ks rfl (c.less.le S.room) h1 h2 (fun _ q => nomatch q)
    | _ => exact go _
end
noncomputable def lvl (P : Pg) : Nat → Lv
  | 0 => ⟨fun _ _ => fail "deep", fun _ _ => fail "deep", fun _ _ => fail "deep", fun _ _ _ _ => fail "deep", 0⟩
  | n + 1 => ⟨fun fm e => evE P (lvl P n) fm e, fun fm e => bvE P (lvl P n) fm e, fun fm s => execE P (lvl P n) fm s, fun fm g a k => callE P (lvl P n) fm g a k, n + 1⟩
theorem snd (P : Pg) : ∀ n, Snd P n (lvl P n)
  | 0 => ⟨fun _ _ _ _ _ _ _ => trivial, fun _ _ _ _ _ _ _ => trivial, fun _ _ _ _ _ _ _ => trivial, fun _ _ _ _ _ _ _ _ _ _ _ _ _ _ _ => trivial, Nat.le_refl _⟩
  | n + 1 => ⟨fun fm X D σ os e c => ok_ev (snd P n) c e, fun fm X D σ os e c => ok_bv (snd P n) c.less e, fun fm X D σ os s c => ok_exec (snd P n) c s,
      fun fm X D σ os f g args xs kw ks c hf h1 h2 => ok_callE (snd P n) c hf h1 h2, Nat.le_refl _⟩
theorem run_execs {P : Pg} {fm : Fm} {n : Nat} {ss : List Stmt} {σ : St} {os : Os} {r : Res Fl} (e : execsE (lvl P n) fm ss σ os = r) {X : Fx} {D : Dy} (c : Cx P fm n X) : Ok P fm X D σ (execs ss (envAt fm X)) r (FRel X) := by
  rw [← e]; exact ok_execs (snd P n) c ss D σ os
theorem run_call {P : Pg} {fm : Fm} {n : Nat} {f : V} {args : List V} {kw : List (Str × V)} {σ : St} {os : Os} {r : Res V} (e : (lvl P n).call fm f args kw σ os = r) {X : Fx} {D : Dy} {g : Value} {xs : List Value} {ks : List (Str × Value)} (c : Cx P fm n X)
    (hf : VRel X f D g) (h1 : VsRel X args D xs) (h2 : KRel X kw D ks) : OkC P fm X D σ (.call g ⟨xs, ks⟩) r (RetRel X D) := by
  rw [← e]; exact (snd P n).call fm X D σ os f g args xs kw ks c hf h1 h2
end Mini
namespace Mini
open PySem PySem.W PySem.Calls PyProof.Rows
variable {α β γ δ : Type}
noncomputable def fmOf (K : Frag) (f : Addr) (hand : Bool) : Fm := match K.lookup f with
  | some ⟨_, _, .func ⟨_, qual, _, .stmts _, scope, _, _, _, _, _, _, _, cdv, _, _⟩, _⟩ => ⟨qual, scope, f, cdv, hand, false⟩
  | _ => ⟨"", ⟨.function, [], false, false, []⟩, 0, .none, hand, false⟩
noncomputable def bodyOf (K : Frag) (f : Addr) : List Stmt := match K.lookup f with
  | some ⟨_, _, .func ⟨_, _, _, .stmts body, _, _, _, _, _, _, _, _, _, _, _⟩, _⟩ => body
  | _ => []
noncomputable def loopIn : Stmt → List Stmt
  | .While _ b _ _ => b
  | .For _ _ b _ _ => b
  | _ => []
noncomputable def stmtAt (ss : List Stmt) (i : Nat) : Stmt := match ss[i]? with
  | some s => s
  | none => .Pass ⟨0, 0, 0, 0⟩
structure Runs (P : Pg) (n : Nat) (fm : Fm) (ss : List Stmt) (σ : St) (fl : Fl) (σ' : St) : Prop where
  out : ∃ os cs, execsE (lvl P n) fm ss σ os = .ok fl σ' ⟨[], []⟩ cs ∧ ∀ p ∈ cs, p
noncomputable def AllP : List Prop → Prop
  | [] => True
  | p :: r => p ∧ AllP r
theorem AllP.all : ∀ {cs : List Prop}, AllP cs → ∀ p ∈ cs, p
  | _ :: _, h, _, .head _ => h.1
  | _ :: r, h, p, .tail _ hm => AllP.all (cs := r) h.2 p hm
end Mini
namespace Mini
open PySem PySem.W PySem.Calls PyProof.Rows
variable {α β γ δ : Type}
noncomputable abbrev O0 : Os := ⟨[], []⟩
noncomputable def Ends (P : Pg) (fm : Fm) (X : Fx) (D : Dy) (s : Shared) (r : Res α) (R : α → Dy → β → Prop) (Q : β → Shared → Prop) (E : Value → Shared → Prop) : Prop := match r with
  | .ok a σ' _ _ => ∀ D' s' x, Rp P fm X D' σ' s'.heap → Gr X D D' → R a D' x → Keep s s' → Q x s'
  | .ex cls args σ' _ _ => PassesOwn (model P.prog P.w) X.A (envAt fm X) E ∧ ∀ D' s' e, ExAt P fm X D' σ' cls args e s' → Gr X D D' → Keep s s' → E e s'
  | .no _ => False
theorem ok_ends {P : Pg} {fm : Fm} {X : Fx} {D : Dy} {σ : St} {t : Sem β} {r : Res α} {R : α → Dy → β → Prop}
    (h : ∀ s Q E, Rp P fm X D σ s.heap → Ends P fm X D s r R Q E → wpAny (model P.prog P.w) X.A t Q E s) : Ok P fm X D σ t r R := by
  cases r with
  | no w => exact trivial
  | ex cls args σ' os c => exact fun _ s hs Q E hE hQ => h s Q E hs ⟨hE, hQ⟩
  | ok a σ' os c => exact fun _ s hs Q E hQ => h s Q E hs hQ
theorem Ends.trans {P : Pg} {fm : Fm} {X : Fx} {D D₁ : Dy} {s s₁ : Shared} {r : Res α} {R : α → Dy → β → Prop} {Q : β → Shared → Prop} {E : Value → Shared → Prop} (h : Ends P fm X D s r R Q E) (g : Gr X D D₁) (k : Keep s s₁) : Ends P fm X D₁ s₁ r R Q E := by
  cases r with
  | no w => exact h
  | ex cls args σ' os c => exact ⟨h.1, fun D' s' e x g' k' => h.2 D' s' e x (g.trans g') (k.trans k')⟩
  | ok a σ' os c => exact fun D' s' x r' g' q k' => h D' s' x r' (g.trans g') q (k.trans k')
structure ExC (P : Pg) (n : Nat) (fm : Fm) (ss : List Stmt) (σ : St) (r : Res Fl) : Prop where
  out : ∀ X D, Cx P fm n X → Ok P fm X D σ (execs ss (envAt fm X)) r (FRel X)
structure TeC (P : Pg) (n : Nat) (fm : Fm) (t : Expr) (σ : St) (b : Bool) (σ' : St) : Prop where
  out : ∀ X D, Cx P fm n X → Ok P fm X D σ (isTrue t (envAt fm X) (eval t (envAt fm X))) (.ok b σ' O0 []) BRel
inductive Loop (P : Pg) (n : Nat) (fm : Fm) (t : Expr) (b : List Stmt) : Nat → St → Res Fl → Prop
  | stop {k σ σ₁} : TeC P n fm t σ false σ₁ → Loop P n fm t b k σ (.ok .next σ₁ O0 [])
  | brk {k σ σ₁ σ₂} : TeC P n fm t σ true σ₁ → ExC P n fm b σ₁ (.ok .brk σ₂ O0 []) → Loop P n fm t b k σ (.ok .next σ₂ O0 [])
  | ret {k σ σ₁ σ₂ v} : TeC P n fm t σ true σ₁ → ExC P n fm b σ₁ (.ok (.ret v) σ₂ O0 []) → Loop P n fm t b k σ (.ok (.ret v) σ₂ O0 [])
  | next {k σ σ₁ σ₂ r} : TeC P n fm t σ true σ₁ → ExC P n fm b σ₁ (.ok .next σ₂ O0 []) → Loop P n fm t b k σ₂ r → Loop P n fm t b (k + 1) σ r
  | cont {k σ σ₁ σ₂ r} : TeC P n fm t σ true σ₁ → ExC P n fm b σ₁ (.ok .cont σ₂ O0 []) → Loop P n fm t b k σ₂ r → Loop P n fm t b (k + 1) σ r
  | raise {k σ σ₁ σ₂ cls args} : TeC P n fm t σ true σ₁ → ExC P n fm b σ₁ (.ex cls args σ₂ O0 []) → Loop P n fm t b k σ (.ex cls args σ₂ O0 [])
theorem while_ok {P : Pg} {n : Nat} {fm : Fm} {t : Expr} {b : List Stmt} {p : Pos} {k : Nat} {σ : St} {r : Res Fl} (L : Loop P n fm t b k σ r) {X : Fx} {D : Dy} (c : Cx P fm n X) :
    Ok P fm X D σ (exec (.While t b [] p) (envAt fm X)) r (FRel X) := by
  refine ok_ends fun s Q E hs hE => ?_
  refine wpAny_While (codeAny_whileLoop (fun k s₁ => ∃ D₁ σ₁, Rp P fm X D₁ σ₁ s₁.heap ∧ Gr X D D₁ ∧ Keep s s₁ ∧ Loop P n fm t b k σ₁ r) (fun k s₁ hI => ?_) k ⟨D, σ, hs, Gr.refl X D, Keep.refl s, L⟩)
  obtain ⟨D₁, σ₁, r₁, g₁, k₁, L₁⟩ := hI
  have he := hE.trans g₁ k₁
  cases L₁ with
  | stop h1 =>
    exact h1.out X D₁ c (fun _ q => nomatch q) s₁ r₁ _ _ fun D₂ s₂ x r₂ g₂ q₂ k₂ => by
      have q₂ : x = false := q₂
      subst q₂
      exact wpAny_pure (he D₂ s₂ .next r₂ g₂ rfl k₂)
  | brk h1 h2 =>
    exact h1.out X D₁ c (fun _ q => nomatch q) s₁ r₁ _ _ fun D₂ s₂ x r₂ g₂ q₂ k₂ => by
      have q₂ : x = true := q₂
      subst q₂
      exact h2.out X D₂ c (fun _ q => nomatch q) s₂ r₂ _ _ fun D₃ s₃ f r₃ g₃ q₃ k₃ => by
        rw [show f = Flow.brk from q₃]
        exact he D₃ s₃ .next r₃ (g₂.trans g₃) rfl (k₂.trans k₃)
  | ret h1 h2 =>
    exact h1.out X D₁ c (fun _ q => nomatch q) s₁ r₁ _ _ fun D₂ s₂ x r₂ g₂ q₂ k₂ => by
      have q₂ : x = true := q₂
      subst q₂
      exact h2.out X D₂ c (fun _ q => nomatch q) s₂ r₂ _ _ fun D₃ s₃ f r₃ g₃ q₃ k₃ => by
        obtain ⟨y, rfl, hy⟩ := q₃
        exact he D₃ s₃ (.ret y) r₃ (g₂.trans g₃) ⟨y, rfl, hy⟩ (k₂.trans k₃)
  | next h1 h2 h3 =>
    exact h1.out X D₁ c (fun _ q => nomatch q) s₁ r₁ _ _ fun D₂ s₂ x r₂ g₂ q₂ k₂ => by
      have q₂ : x = true := q₂
      subst q₂
      exact h2.out X D₂ c (fun _ q => nomatch q) s₂ r₂ _ _ fun D₃ s₃ f r₃ g₃ q₃ k₃ => by
        rw [show f = Flow.next from q₃]
        exact ⟨_, Nat.lt_succ_self _, D₃, _, r₃, (g₁.trans g₂).trans g₃, (k₁.trans k₂).trans k₃, h3⟩
  | cont h1 h2 h3 =>
    exact h1.out X D₁ c (fun _ q => nomatch q) s₁ r₁ _ _ fun D₂ s₂ x r₂ g₂ q₂ k₂ => by
      have q₂ : x = true := q₂
      subst q₂
      exact h2.out X D₂ c (fun _ q => nomatch q) s₂ r₂ _ _ fun D₃ s₃ f r₃ g₃ q₃ k₃ => by
        rw [show f = Flow.cont from q₃]
        exact ⟨_, Nat.lt_succ_self _, D₃, _, r₃, (g₁.trans g₂).trans g₃, (k₁.trans k₂).trans k₃, h3⟩
  | raise h1 h2 =>
    exact h1.out X D₁ c (fun _ q => nomatch q) s₁ r₁ _ _ fun D₂ s₂ x r₂ g₂ q₂ k₂ => by
      have q₂ : x = true := q₂
      subst q₂
      have hp := he.1
      refine wpAny_mono (h2.out X D₂ c (fun _ q => nomatch q) s₂ r₂ _ E hp fun D₃ s₃ e x₃ g₃ k₃ => he.2 D₃ s₃ e x₃ (g₂.trans g₃) (k₂.trans k₃)) (fun _ _ y => y) fun e s' q => hp e s' q
end Mini
namespace Mini
open PySem PySem.W PySem.Calls PyProof.Rows
section
variable {P : Pg} {fm : Fm} {X : Fx} {D : Dy} {σ : St} {n : Nat} {h h' : Heap}
theorem Rp.moved (r : Rp P fm X D σ h) {i : Nat} {p : Addr × Addr} (hp : D.ad[i]? = some p) {o o' : Obj} (ho : (p.2, o) ∈ D.news) (mv : Moves o) (hs : ∀ b x, b ≠ p.2 → h.get? b = some x → h'.get? b = some x)
    (hn : h'.get? p.2 = some o') {lo : LO} (R' : ∀ D', Gr X D D' → D'.ad = D.ad → (p.2, o') ∈ D'.news → OR P.w.params X.base D'.ad D'.news p lo) :
    ∃ D', Rp P fm X D' ⟨σ.loc, σ.hp.set i lo⟩ h' ∧ Gr X D D' := by
  obtain ⟨news', U, a1, a2, a3⟩ := upd_exists (o' := o') r.nd ho
  obtain ⟨b1, b2, b3⟩ := r.N _ ho
  have F' : Fr X.h₀ X.L h' D.m := by
    obtain ⟨⟨oL, es, ep, hL, rest⟩, keep, above⟩ := r.F
    refine ⟨⟨oL, es, ep, hs _ _ (fun q => b2 q.symm) hL, rest⟩, fun b x q => hs b x (fun z => ?_) (keep b x q), above⟩
    subst z
    rw [show X.h₀.get? p.2 = none from b3] at q; cases q
  have N' : News X.h₀ X.L h' news' := fun q hq => by
    have hm : q.1 ∈ D.news.map (·.1) := by rw [← a3]; exact List.mem_map.mpr ⟨q, hq, rfl⟩
    have nd' : (news'.map (·.1)).Nodup := by rw [a3]; exact r.nd
    obtain ⟨q', hq', e⟩ := List.mem_map.mp hm
    obtain ⟨c1, c2, c3⟩ := r.N _ hq'
    by_cases hd : q.1 = p.2
    · have : q.2 = o' := nodup_uniq nd' (show (p.2, q.2) ∈ news' from hd ▸ hq) a1
      exact ⟨by rw [hd, this]; exact hn, e ▸ c2, e ▸ c3⟩
    · have hq2 := a2 q'.1 q'.2 hq' (by rw [e]; exact hd)
      have : q.2 = q'.2 := nodup_uniq nd' (a := q.1) hq (by rw [← e]; exact hq2)
      exact ⟨by rw [this]; exact hs _ _ hd (e ▸ c1), e ▸ c2, e ▸ c3⟩
  obtain ⟨r', g⟩ := r.change hp ho mv a2 a3 F' N' (lo := lo) fun k1 g => R' _ g rfl a1
  exact ⟨_, r', g⟩
theorem iter_at (r : Rp P fm X D σ h) {j q i : Nat} {p : Addr × Addr} (hq : σ.hp[q]? = some (.iter j i)) (hp : D.ad[q]? = some p) :
    p.1 = p.2 ∧ ∃ pj o, D.ad[j]? = some pj ∧ (p.2, o) ∈ D.news ∧ h.get? p.2 = some o ∧ o.cls = .type "list_iterator" ∧ o.data = .fields #[.ref pj.1, .int i 0] ∧ h.IsListIter p.1 pj.1 i := by
  obtain ⟨p', hp', e, pj, o, hj, hm, h1, h2⟩ := r.hp q _ hq
  rw [hp] at hp'; cases hp'
  have hg := r.N.get hm
  exact ⟨e, pj, o, hj, hm, hg, h1, h2, o, by rw [e]; exact hg, h1, h2⟩
theorem it_moves {o : Obj} {fs : Array Value} (h1 : o.cls = .type "list_iterator") (h2 : o.data = .fields fs) : Moves o :=
  ⟨notFixd h1 (by decide), (fun v q => by rw [h2] at q; cases q), (fun q => by rw [h2] at q; cases q)⟩
theorem it_item {s : Shared} (r : Rp P fm X D σ s.heap) {j q i : Nat} {vs : List V} {p : Addr × Addr} {v : V} (hj : σ.hp[j]? = some (.list vs)) (hq : σ.hp[q]? = some (.iter j i)) (hp : D.ad[q]? = some p) (hv : vs[i]? = some v)
    {A : Around} {E : Value → Shared → Prop} {Q : Option Value → Shared → Prop}
    (k : ∀ D' h' x, Rp P fm X D' ⟨σ.loc, σ.hp.set q (.iter j (i + 1))⟩ h' → Gr X D D' → VRel X v D' x → Q (some x) { s with heap := h' }) : wpAny (model P.prog P.w) A (pyNext (.ref p.1)) Q E s := by
  obtain ⟨e, pj, o, hpj, hm, hg, h1, h2, hit⟩ := iter_at r hq hp
  obtain ⟨a, xs, n', e1, e2, e3, hm2, pj', hpj', e4, e5⟩ := lst_at r (VR.obj hpj) hj
  cases e1
  obtain ⟨x, hx, hr⟩ := e3.get hv
  refine wpAny_pyNext_list_item hit ⟨_, e2, rfl, n', rfl⟩ (by simpa using hx) fun h' hit' hs => ?_
  obtain ⟨o', ho', c1, d1⟩ := hit'
  obtain ⟨D', r', g⟩ := r.moved hp hm (it_moves h1 h2) (o' := o') (fun b y hb hy => (hs.2 b (by rw [e]; exact hb)).trans hy) (by rw [← e]; exact ho') (lo := .iter j (i + 1)) fun D' g ea hm' => ⟨e, pj, o', g.ad _ _ hpj, hm', c1, d1⟩
  exact k D' h' x r' g (rel_mono hr g)
theorem pyNext_over {prog : Program} {w : World} {s : Shared} {A : Around} {E : Value → Shared → Prop} {it l : Addr} {i : Nat} {items : Array Value} {o : Obj} {Q : Option Value → Shared → Prop} (hh : A.handled = none)
    (ho : s.heap.get? it = some o) (hc : o.cls = .type "list_iterator") (hd : o.data = .fields #[.ref l, .int i 0]) (hl : s.heap.IsList l items) (hx : items[i]? = none)
    (hQ : ∀ o1 o2 f, (∃ fs, (f o).data = .fields fs) ∧ (f o).cls = .type "list_iterator" → Q none { s with heap := ((s.heap.update it f).push o1).push o2 }) : wpAny (model prog w) A (pyNext (.ref it)) Q E s := by
  have hit : s.heap.IsListIter it l i := ⟨o, ho, hc, hd⟩
  obtain ⟨ol, hol, _, nl, hdl⟩ := hl
  unfold pyNext
  refine wpAny_bind (wpAny_attempt (wpAny_callSpecial?_slot (name := Str.ofString "__next__") hit.typeIs slot_listiter_next
    (wpAny_call_entry slot_listiter_next hit.typeIs entry_listiter_next ?_ (args_listiter_next _))))
  show wpAny _ _ (field (.ref it) 0 >>= _) _ _ s
  refine wpAny_bind (wpAny_field ho hd (x := .ref l) rfl ?_)
  show wpAny _ _ (if (Value.ref l == Value.none) = true then _ else _) _ _ s
  rw [if_neg (show ¬ ((Value.ref l == Value.none) = true) from Bool.false_ne_true)]
  show wpAny _ _ (field (.ref it) 1 >>= _) _ _ s
  refine wpAny_bind (wpAny_field ho hd (x := .int i 0) rfl ?_)
  show wpAny _ _ (seqItems? (.ref l) >>= _) _ _ s
  refine wpAny_bind (wpAny_seqItems hol hdl ?_)
  simp only [Int.toNat_natCast, hx]
  refine wpAny_bind (wpAny_rule (wpAny_bind (wpAny_setField ho hd (by simp) ?_)))
  show wpAny _ _ (newExc (.type "StopIteration") [] >>= _) _ _ _
  refine wpAny_bind ?_
  simp only [newExc, newTuple]
  refine wpAny_bind (wpAny_newObj_type ?_ (by size_fits))
  refine wpAny_bind (m := firstArgMember _ _) (wpAny_of_eq (a := Value.none) (by first | rfl | (simp only [firstArgMember]; rfl)) ?_)
  refine wpAny_newObj_type ?_ (by size_fits)
  simp only [raiseNew]
  refine wpAny_bind (wpAny_handled ?_)
  rw [show A.in1.handled = none from hh]
  refine wpAny_bind (wpAny_pure (wpAny_throw ?_))
  refine wpAny_bind (wpAny_isInstance (T := "StopIteration") (b := true) ⟨_, Heap.get?_push_size _ rfl, rfl⟩ isSubtype_stop ?_)
  exact wpAny_pure (hQ _ _ _ ⟨⟨_, Obj.data_mapFields hd _⟩, (Obj.cls_mapFields ..).trans hc⟩)
theorem it_over {s : Shared} (r : Rp P fm X D σ s.heap) {j q i : Nat} {vs : List V} {p : Addr × Addr} (hj : σ.hp[j]? = some (.list vs)) (hq : σ.hp[q]? = some (.iter j i)) (hp : D.ad[q]? = some p) (hv : vs[i]? = none)
    {A : Around} {E : Value → Shared → Prop} {Q : Option Value → Shared → Prop} (hh : A.handled = none)
    (k : ∀ D' h', Rp P fm X D' ⟨σ.loc, σ.hp.set q .over⟩ h' → Gr X D D' → Q none { s with heap := h' }) : wpAny (model P.prog P.w) A (pyNext (.ref p.1)) Q E s := by
  obtain ⟨e, pj, o, hpj, hm, hg, h1, h2, hit⟩ := iter_at r hq hp
  obtain ⟨a, xs, n', e1, e2, e3, hm2, pj', hpj', e4, e5⟩ := lst_at r (VR.obj hpj) hj
  cases e1
  have hx : xs[i]? = none := by
    rw [List.getElem?_eq_none_iff] at hv
    rw [Array.getElem?_eq_none_iff, ← Array.length_toList, e3.length]; exact hv
  refine pyNext_over hh (by rw [e]; exact hg) h1 h2 ⟨_, e2, rfl, n', rfl⟩ hx fun o1 o2 f hf => ?_
  obtain ⟨⟨fs, hfs⟩, hfc⟩ := hf
  obtain ⟨D', r', g⟩ := r.moved (h' := ((s.heap.update p.1 f).push o1).push o2) hp hm (it_moves h1 h2) (o' := f o)
    (fun b y hb hy => Heap.get?_push_of_some _ (Heap.get?_push_of_some _ ((Heap.get?_update_other _ _ (by rw [e]; exact Ne.symm hb)).trans hy)))
    (by rw [e]; exact Heap.get?_push_of_some _ (Heap.get?_push_of_some _ (Heap.get?_update_self _ hg (Obj.isFreed_of_fields hfs)))) (lo := .over) fun D' g ea hm' => ⟨e, f o, fs, hm', hfc, hfs⟩
  exact k D' _ r' g
end
end Mini
namespace Mini
open PySem PySem.W PySem.Calls PyProof.Rows
structure AsC (P : Pg) (n : Nat) (fm : Fm) (t : Expr) (v : V) (σ σ' : St) : Prop where
  out : ∀ X D x, Cx P fm n X → VRel X v D x → Ok P fm X D σ (assign t (envAt fm X) x) (.ok () σ' O0 []) (fun _ _ _ => True)
end Mini
namespace Mini
open PySem PySem.W PySem.Calls PyProof.Rows
structure EvC (P : Pg) (n : Nat) (fm : Fm) (e : Expr) (v : V) (σ σ' : St) : Prop where
  out : ∀ X D, Cx P fm n X → Ok P fm X D σ (eval e (envAt fm X)) (.ok v σ' O0 []) (VRel X)
end Mini
namespace Mini
open PySem PySem.W PySem.Calls PyProof.Rows
mutual
noncomputable def vb (k : Nat) : V → Bool
  | .obj n => decide (n < k)
  | .tup vs => vbs k vs
  | .exc _ vs => vbs k vs
  | _ => true
noncomputable def vbs (k : Nat) : List V → Bool
  | [] => true
  | v :: r => vb k v && vbs k r
end
noncomputable def lob (k : Nat) : LO → Bool
  | .list vs => vbs k vs
  | .deque vs => vbs k vs
  | .dict es => vbs k (es.map (·.2))
  | .inst _ es => vbs k (es.map (·.2))
  | .iter n _ => decide (n < k)
  | .tab _ => true
  | .any _ => true
  | .over => true
  | .it _ => true
noncomputable def lobs (k : Nat) : List LO → Bool
  | [] => true
  | o :: r => lob k o && lobs k r
noncomputable def flb (k : Nat) : Fl → Bool
  | .ret v => vb k v
  | _ => true
theorem take_get {α : Type} {l : List α} {k n : Nat} {p : α} (h : l[n]? = some p) (hk : n < k) : (l.take k)[n]? = some p := by
  rw [List.getElem?_take_of_lt hk]; exact h
section
variable {base : Heap} {ad : List (Addr × Addr)} {news : List (Addr × Obj)} {k : Nat}
theorem VR.trunc {v : V} {x : Value} (h : VR base ad news v x) : vb k v = true → VR base (ad.take k) news v x :=
  VR.rec (motive_1 := fun v x _ => vb k v = true → VR base (ad.take k) news v x) (motive_2 := fun vs xs _ => vbs k vs = true → VRs base (ad.take k) news vs xs)
    (fun _ => .none) (fun _ => .bool) (fun _ => .int) (fun _ => .str) (fun _ => .stat) (fun h c d _ ih e => .tup h c d (ih e)) (fun h e => .obj (take_get h (of_decide_eq_true e))) (fun h i _ => .ro h i)
    (fun h f c d w h' c' d' _ ih e => .exc h f c d w h' c' d' (ih e)) (fun h _ => .rng h) (fun _ => .nil) (fun _ _ h1 h2 e => .cons (h1 (band e).1) (h2 (band e).2)) h
theorem VRs.trunc {vs : List V} {xs : List Value} (h : VRs base ad news vs xs) : vbs k vs = true → VRs base (ad.take k) news vs xs :=
  VRs.rec (motive_1 := fun v x _ => vb k v = true → VR base (ad.take k) news v x) (motive_2 := fun vs xs _ => vbs k vs = true → VRs base (ad.take k) news vs xs)
    (fun _ => .none) (fun _ => .bool) (fun _ => .int) (fun _ => .str) (fun _ => .stat) (fun h c d _ ih e => .tup h c d (ih e)) (fun h e => .obj (take_get h (of_decide_eq_true e))) (fun h i _ => .ro h i)
    (fun h f c d w h' c' d' _ ih e => .exc h f c d w h' c' d' (ih e)) (fun h _ => .rng h) (fun _ => .nil) (fun _ _ h1 h2 e => .cons (h1 (band e).1) (h2 (band e).2)) h
theorem DR.trunc {P : Params} {es ds} (h : DR P base ad news es ds) : vbs k (es.map (·.2)) = true → DR P base (ad.take k) news es ds := by
  induction h with
  | nil => exact fun _ => .nil
  | cons h _ ih =>
    intro e
    rw [List.map_cons] at e
    exact .cons (h.trunc (band e).1) (ih (band e).2)
theorem OR.trunc {P : Params} {p : Addr × Addr} {lo : LO} (x : OR P base ad news p lo) (e : lob k lo = true) : OR P base (ad.take k) news p lo := by
  cases lo with
  | list vs => obtain ⟨e0, xs, n, hm, r⟩ := x; exact ⟨e0, xs, n, hm, r.trunc e⟩
  | deque vs => obtain ⟨e0, xs, n, hm, r⟩ := x; exact ⟨e0, xs, n, hm, r.trunc e⟩
  | dict es => obtain ⟨e0, xs, n, hm, r, lo⟩ := x; exact ⟨e0, xs, n, hm, r.trunc e, lo⟩
  | iter n i => obtain ⟨e0, q, o, hq, hm, h1, h2⟩ := x; exact ⟨e0, q, o, take_get hq (of_decide_eq_true e), hm, h1, h2⟩
  | it q => exact x
  | tab l => exact x
  | any o => exact x
  | over => exact x
  | inst C es => obtain ⟨⟨sl, hx⟩, ds, n, hm, r⟩ := x; exact ⟨⟨sl, hx⟩, ds, n, hm, r.trunc e⟩
end
theorem lobs_get {k : Nat} {l : List LO} : ∀ {i : Nat} {o : LO}, lobs k l = true → l[i]? = some o → lob k o = true := by
  induction l with
  | nil => exact fun _ e => nomatch e
  | cons a r ih =>
    intro i o h e
    have h : (lob k a && lobs k r) = true := h
    obtain ⟨h1, h2⟩ := Bool.and_eq_true_iff.mp h
    cases i with
    | zero => rw [← Option.some.inj e]; exact h1
    | succ i => exact ih h2 e
theorem vbs_get {k : Nat} : ∀ {l : List (Str × V)} {x : Str} {v : V}, vbs k (l.map (·.2)) = true → l.lookup x = some v → vb k v = true
  | (y, w) :: r, x, v, h, e => by
    rw [List.map_cons] at h; unfold vbs at h
    obtain ⟨h1, h2⟩ := Bool.and_eq_true_iff.mp h
    rw [List.lookup_cons] at e
    cases hx : x == y with
    | true => rw [hx] at e; cases e; exact h1
    | false => rw [hx] at e; exact vbs_get h2 e
noncomputable def Sub (loc' loc : List (Str × V)) : Prop := ∀ x v, loc'.lookup x = some v → loc.lookup x = some v
theorem Sub.refl (l : List (Str × V)) : Sub l l := fun _ _ h => h
theorem Sub.nil (l : List (Str × V)) : Sub [] l := fun _ _ h => nomatch h
structure Cut (k : Nat) (loc' : List (Str × V)) (hp' : List LO) (σ : St) : Prop where
  hp : hp' = σ.hp.take k
  sub : Sub loc' σ.loc
  lb : vbs k (loc'.map (·.2)) = true
  hb : lobs k hp' = true
section
variable {P : Pg} {fm : Fm} {X : Fx} {D : Dy} {σ : St} {h : Heap} {k n : Nat} {loc' : List (Str × V)} {hp' : List LO}
noncomputable abbrev cutD (k : Nat) (D : Dy) : Dy := { D with ad := D.ad.take k }
theorem LR.trunc {scope : Scope} {cl : List (Str × Addr)} {m : Str → Option Value} {base : Heap} {ad news} {x : Str} {v : V} (r : LR scope cl m base ad news x v) (e : vb k v = true) : LR scope cl m base (ad.take k) news x v := by
  rcases r with ⟨a, y, hy, hv⟩ | ⟨a, c, o, y, hc, hm, hd, hv⟩
  · exact .inl ⟨a, y, hy, hv.trunc e⟩
  · exact .inr ⟨a, c, o, y, hc, hm, hd, hv.trunc e⟩
theorem Rp.trunc (r : Rp P fm X D σ h) (c : Cut k loc' hp' σ) : Rp P fm X (cutD k D) ⟨loc', hp'⟩ h := by
  obtain ⟨c1, c2, c3, c4⟩ := c
  subst c1
  refine ⟨r.F, r.N, r.nd, ?_, ?_, fun x v e => (r.loc x v (c2 x v e)).trunc (vbs_get c3 e), r.cel, r.inj, fun i o e => ?_⟩
  · show (D.ad.take k).length = (σ.hp.take k).length
    rw [List.length_take, List.length_take, r.len]
  · show ((D.ad.take k).map (·.2)).Nodup
    rw [List.map_take]
    exact r.dis.sublist (List.take_sublist _ _)
  · have e' : (σ.hp.take k)[i]? = some o := e
    have hb := lobs_get c4 e'
    have hi : i < k := by
      have := (List.getElem?_eq_some_iff.mp e').1
      rw [List.length_take] at this; omega
    rw [List.getElem?_take_of_lt hi] at e'
    obtain ⟨p, hp, hor⟩ := r.hp i o e'
    exact ⟨p, take_get hp hi, hor.trunc hb⟩
theorem Gr.trunc {D' : Dy} (g : Gr X D D') (hk : D.ad.length ≤ k) : Gr X D (cutD k D') :=
  ⟨fun i p e => take_get (g.ad i p e) (by have := (List.getElem?_eq_some_iff.mp e).1; omega), g.nw⟩
variable {α β : Type}
theorem ok_trunc {t : Sem β} {a : α} {σ' : St} {os os' : Os} {c : List Prop} {R : α → Dy → β → Prop} (h : Ok P fm X D σ t (.ok a σ' os c) R) (hk : σ.hp.length ≤ k) (C : Cut k loc' hp' σ')
    (hR : ∀ D' x, R a D' x → R a (cutD k D') x) : Ok P fm X D σ t (.ok a ⟨loc', hp'⟩ os' c) R := by
  intro hc s hs Q E hQ
  exact h hc s hs Q E fun D' s' x r g q kp => hQ (cutD k D') s' x (r.trunc C) (g.trunc (by rw [hs.len]; exact hk)) (hR _ _ q) kp
theorem frel_trunc {f : Fl} (hf : flb k f = true) : ∀ D' x, FRel X f D' x → FRel X f (cutD k D') x := fun D' x q => by
  cases f with
  | ret v => obtain ⟨y, e, hy⟩ := q; exact ⟨y, e, hy.trunc hf⟩
  | _ => exact q
theorem ExC.trunc {ss : List Stmt} {f : Fl} {σ' : St} {os os' : Os} {c : List Prop} (h : ExC P n fm ss σ (.ok f σ' os c)) (hk : σ.hp.length ≤ k) (C : Cut k loc' hp' σ') (hf : flb k f = true) : ExC P n fm ss σ (.ok f ⟨loc', hp'⟩ os' c) :=
  ⟨fun X D cx => ok_trunc (h.out X D cx) hk C (frel_trunc hf)⟩
end
end Mini
namespace Mini
open PySem PySem.W PySem.Calls PyProof.Rows
structure Bel (k : Nat) (σ : St) : Prop where
  len : σ.hp.length = k
  lb : vbs k (σ.loc.map (·.2)) = true
  hb : lobs k σ.hp = true
theorem Bel.cut {k : Nat} {σ : St} {lo : LO} (b : Bel k σ) : Cut k σ.loc σ.hp ⟨σ.loc, σ.hp ++ [lo]⟩ :=
  ⟨by show σ.hp = (σ.hp ++ [lo]).take k; rw [← b.len, List.take_left'' rfl], Sub.refl _, b.lb, b.hb⟩
where List.take_left'' {α : Type} {l m : List α} {n : Nat} (h : l.length = n) : (l ++ m).take n = l := by rw [← h, List.take_left]
inductive ForI (P : Pg) (n : Nat) (fm : Fm) (t : Expr) (b : List Stmt) (vs : List V) (J : St → Prop) (k : Nat) : Nat → St → Res Fl → Prop
  | stop {i σ} : vs[i]? = none → J σ → Bel k σ → ForI P n fm t b vs J k i σ (.ok .next σ O0 [])
  | next {i σ v f σ' r} : vs[i]? = some v → J σ → σ.hp.length = k → (∀ lo, {_ : ∀ m, k ≤ m → lob m lo = true} → ∃ σ₁, AsC P n fm t v ⟨σ.loc, σ.hp ++ [lo]⟩ σ₁ ∧ ExC P n fm b σ₁ (.ok f ⟨σ'.loc, σ'.hp ++ [lo]⟩ O0 [])) →
      f = .next ∨ f = .cont → ForI P n fm t b vs J k (i + 1) σ' r → ForI P n fm t b vs J k i σ r
  | brk {i σ v σ'} : vs[i]? = some v → J σ → σ.hp.length = k → (∀ lo, {_ : ∀ m, k ≤ m → lob m lo = true} → ∃ σ₁, AsC P n fm t v ⟨σ.loc, σ.hp ++ [lo]⟩ σ₁ ∧ ExC P n fm b σ₁ (.ok .brk ⟨σ'.loc, σ'.hp ++ [lo]⟩ O0 [])) →
      Bel k σ' → ForI P n fm t b vs J k i σ (.ok .next σ' O0 [])
  | ret {i σ v σ' y} : vs[i]? = some v → J σ → σ.hp.length = k → (∀ lo, {_ : ∀ m, k ≤ m → lob m lo = true} → ∃ σ₁, AsC P n fm t v ⟨σ.loc, σ.hp ++ [lo]⟩ σ₁ ∧ ExC P n fm b σ₁ (.ok (.ret y) ⟨σ'.loc, σ'.hp ++ [lo]⟩ O0 [])) →
      Bel k σ' → vb k y = true → ForI P n fm t b vs J k i σ (.ok (.ret y) σ' O0 [])
  | raise {i σ v σ' cls args} : vs[i]? = some v → J σ → σ.hp.length = k → (∀ lo, {_ : ∀ m, k ≤ m → lob m lo = true} → ∃ σ₁, AsC P n fm t v ⟨σ.loc, σ.hp ++ [lo]⟩ σ₁ ∧ ExC P n fm b σ₁ (.ex cls args ⟨σ'.loc, σ'.hp ++ [lo]⟩ O0 [])) →
      Bel k σ' → vbs k args = true → ForI P n fm t b vs J k i σ (.ex cls args σ' O0 [])
noncomputable def keepsT (T : String) : Bool := ["enumerate", "zip", "dict_itemiterator", "dict_reverseitemiterator", "odict_iterator", "itertools.zip_longest", "itertools.pairwise"].contains T
theorem letgo_no {prog : Program} {w : World} {A : Around} {E : Value → Shared → Prop} {s : Shared} {Q : Unit → Shared → Prop} {I : Addr} {o : Obj} {T : String} {fs : Array Value} (ho : s.heap.get? I = some o) (hc : o.cls = .type T) (hd : o.data = .fields fs) (hT : keepsT T = false)
    (q : Q () s) (t : Expr) (v : Value) : wpAny (model prog w) A (letOwnedTupleGo t (.ref I) v) Q E s := by
  have body : ∀ a : Addr, wpAny (model prog w) A (load I >>= fun o => match o.cls, o.data with
      | .type n, .fields vs =>
        if ["enumerate", "zip", "dict_itemiterator", "dict_reverseitemiterator", "odict_iterator", "itertools.zip_longest", "itertools.pairwise"].contains n && vs[0]? == some (rawInt a) then do
          rule "for.unpacks-the-owned-tuple"
          updateField I 0 .none
        else pure ()
      | _, _ => pure ()) Q E s := fun a => by
    refine wpAny_bind (wpAny_load ho ?_)
    rw [hc, hd]
    exact ifF (ff (by show (keepsT T && _) = false; rw [hT, Bool.false_and])) (wpAny_pure q)
  cases t with
  | Tuple es k p =>
    cases v with
    | ref a => exact body a
    | _ => exact wpAny_pure q
  | List es p =>
    cases v with
    | ref a => exact body a
    | _ => exact wpAny_pure q
  | _ => exact wpAny_pure q
structure Gen (P : Pg) (fm : Fm) (vs : List V) (lo : Nat → LO) (J : St → Prop) : Prop where
  lb : ∀ (σ : St) (i m : Nat), J σ → σ.hp.length ≤ m → lob m (lo i) = true
  item : ∀ (X : Fx) (D : Dy) (s : Shared) (σ : St) (i : Nat) (v : V) (p : Addr × Addr) (A : Around) (Q : Option Value → Shared → Prop) (E : Value → Shared → Prop), J σ → Rp P fm X D ⟨σ.loc, σ.hp ++ [lo i]⟩ s.heap → vs[i]? = some v →
    D.ad[σ.hp.length]? = some p → A.handled = none → (∀ D' h' tk x, Rp P fm X D' ⟨σ.loc, σ.hp ++ [lo (i + 1)]⟩ h' → Gr X D D' → VRel X v D' x → Q (some x) { s with heap := h', toks := tk }) →
    wpAny (model P.prog P.w) A (pyNext (.ref p.1)) Q E s
  done : ∀ (X : Fx) (D : Dy) (s : Shared) (σ : St) (i : Nat) (p : Addr × Addr) (A : Around) (Q : Option Value → Shared → Prop) (E : Value → Shared → Prop), J σ → Rp P fm X D ⟨σ.loc, σ.hp ++ [lo i]⟩ s.heap → vs[i]? = none →
    D.ad[σ.hp.length]? = some p → A.handled = none → Bel σ.hp.length σ → (∀ D' h' tk, Rp P fm X (cutD σ.hp.length D') σ h' → Gr X D D' → Q none { s with heap := h', toks := tk }) →
    wpAny (model P.prog P.w) A (pyNext (.ref p.1)) Q E s
  cls : ∀ (X : Fx) (D : Dy) (h : Heap) (σ : St) (i : Nat) (p : Addr × Addr), Rp P fm X D ⟨σ.loc, σ.hp ++ [lo i]⟩ h → D.ad[σ.hp.length]? = some p → ∃ o T fs, h.get? p.1 = some o ∧ o.cls = .type T ∧ o.data = .fields fs ∧ keepsT T = false
inductive FgI (P : Pg) (n : Nat) (fm : Fm) (X : Fx) (D : Dy) (t : Expr) (b : List Stmt) (vs : List V) (lo : Nat → LO) (J : St → Prop) (k : Nat) (r : Res Fl) (s : Shared) : Nat → Shared → Prop
  | mk {D₁ σ₁ i s₁} : Rp P fm X D₁ ⟨σ₁.loc, σ₁.hp ++ [lo i]⟩ s₁.heap → Gr X D D₁ → Keep s s₁ → ForI P n fm t b vs J k i σ₁ r → FgI P n fm X D t b vs lo J k r s (vs.length - i) s₁
theorem for_gen {P : Pg} {n : Nat} {fm : Fm} {t : Expr} {b : List Stmt} {vs : List V} {lo : Nat → LO} {J : St → Prop} (G : Gen P fm vs lo J) {k i : Nat} {σ : St} {r : Res Fl} (L : ForI P n fm t b vs J k i σ r) {X : Fx} {D₀ D : Dy} (c : Cx P fm n X) (hh : X.A.handled = none)
    {p : Addr × Addr} (hp : D.ad[k]? = some p) (h0 : D₀.ad.length = k) (g0 : Gr X D₀ D)
    {s : Shared} {Q : Flow → Shared → Prop} {E : Value → Shared → Prop} (hs : Rp P fm X D ⟨σ.loc, σ.hp ++ [lo i]⟩ s.heap) (hE : Ends P fm X D₀ s r (FRel X) Q E) :
    codeAny (model P.prog P.w) X.A (.forLoop t (.ref p.1) b [] (envAt fm X)) (fun r s' => match r with | .ok f => Q f s' | .error e => cameBackBy (model P.prog P.w) X.A (envAt fm X) E e s') s := by
  refine codeAny_forLoop_any (FgI P n fm X D t b vs lo J k r s) ?_ (vs.length - i) (.mk hs (Gr.refl X D) (Keep.refl s) L)
  rintro m s₁ ⟨r₁, g₁, k₁, L₁⟩
  rename_i D₁ σ₁ i
  have he := hE
  have hp₁ := g₁.ad _ _ hp
  have cut : ∀ {D' : Dy}, Gr X D₁ D' → Gr X D₀ (cutD k D') := fun g => ((g0.trans g₁).trans g).trunc (Nat.le_of_eq h0)
  have go : ∀ {D₂ : Dy} {h₂ : Heap} {tk : Nat} {σ' : St} {k' : Nat} {x : Value} {Q' : Unit → Shared → Prop} {E' : Value → Shared → Prop}, Rp P fm X D₂ ⟨σ'.loc, σ'.hp ++ [lo k']⟩ h₂ → D₂.ad[σ'.hp.length]? = some p → Q' () { s₁ with heap := h₂, toks := tk } →
      wpAny (model P.prog P.w) X.A (letOwnedTupleGo t (.ref p.1) x) Q' E' { s₁ with heap := h₂, toks := tk } := fun r₂ hp₂ q => by
    obtain ⟨o, T, fs, g1, g2, g3, g4⟩ := G.cls X _ _ _ _ p r₂ hp₂
    exact letgo_no g1 g2 g3 g4 q t _
  cases L₁ with
  | stop a1 a2 a3 =>
    have hk := a3.len
    subst hk
    refine G.done X D₁ s₁ σ₁ i p X.A _ _ a2 r₁ a1 hp₁ hh a3 fun D₂ h₂ tk r₂ g₂ => ?_
    exact wpAny_pure (he (cutD _ D₂) { s₁ with heap := h₂, toks := tk } .next r₂ (cut g₂) rfl ⟨k₁.os, k₁.gens⟩)
  | next a1 a2 hk a3 hf h3 =>
    subst hk
    obtain ⟨σ₂, h1, h2⟩ := @a3 (lo (i + 1)) fun m hm => G.lb _ _ m a2 hm
    have hi : i < vs.length := (List.getElem?_eq_some_iff.mp a1).1
    refine G.item X D₁ s₁ σ₁ i _ p X.A _ _ a2 r₁ a1 hp₁ hh fun D₂ h₂ tk x r₂ g₂ hx => go r₂ (g₂.ad _ _ hp₁) ?_
    exact h1.out X D₂ x c hx (fun _ q => nomatch q) _ r₂ _ _ fun D₃ s₃ _ r₃ g₃ _ k₃ => h2.out X D₃ c (fun _ q => nomatch q) s₃ r₃ _ _ fun D₄ s₄ f r₄ g₄ q₄ k₄ => by
      rcases hf with rfl | rfl
      · rw [show f = Flow.next from q₄]; exact ⟨vs.length - (i + 1), Nat.sub_succ_lt_self _ _ hi, .mk r₄ (((g₁.trans g₂).trans g₃).trans g₄) (k₁.trans ((Keep.mk k₃.os k₃.gens : Keep s₁ s₃).trans k₄)) h3⟩
      · rw [show f = Flow.cont from q₄]; exact ⟨vs.length - (i + 1), Nat.sub_succ_lt_self _ _ hi, .mk r₄ (((g₁.trans g₂).trans g₃).trans g₄) (k₁.trans ((Keep.mk k₃.os k₃.gens : Keep s₁ s₃).trans k₄)) h3⟩
  | brk a1 a2 hk a3 hb =>
    subst hk
    obtain ⟨σ₂, h1, h2⟩ := @a3 (lo (i + 1)) fun m hm => G.lb _ _ m a2 hm
    refine G.item X D₁ s₁ σ₁ i _ p X.A _ _ a2 r₁ a1 hp₁ hh fun D₂ h₂ tk x r₂ g₂ hx => go r₂ (g₂.ad _ _ hp₁) ?_
    exact h1.out X D₂ x c hx (fun _ q => nomatch q) _ r₂ _ _ fun D₃ s₃ _ r₃ g₃ _ k₃ => h2.out X D₃ c (fun _ q => nomatch q) s₃ r₃ _ _ fun D₄ s₄ f r₄ g₄ q₄ k₄ => by
      rw [show f = Flow.brk from q₄]
      exact he (cutD _ D₄) s₄ .next (r₄.trunc hb.cut) (cut ((g₂.trans g₃).trans g₄)) rfl (k₁.trans ((Keep.mk k₃.os k₃.gens : Keep s₁ s₃).trans k₄))
  | ret a1 a2 hk a3 hb hy =>
    subst hk
    obtain ⟨σ₂, h1, h2⟩ := @a3 (lo (i + 1)) fun m hm => G.lb _ _ m a2 hm
    refine G.item X D₁ s₁ σ₁ i _ p X.A _ _ a2 r₁ a1 hp₁ hh fun D₂ h₂ tk x r₂ g₂ hx => go r₂ (g₂.ad _ _ hp₁) ?_
    exact h1.out X D₂ x c hx (fun _ q => nomatch q) _ r₂ _ _ fun D₃ s₃ _ r₃ g₃ _ k₃ => h2.out X D₃ c (fun _ q => nomatch q) s₃ r₃ _ _ fun D₄ s₄ f r₄ g₄ q₄ k₄ => by
      obtain ⟨y, rfl, hy'⟩ := q₄
      exact he (cutD _ D₄) s₄ (.ret y) (r₄.trunc hb.cut) (cut ((g₂.trans g₃).trans g₄)) ⟨y, rfl, hy'.trunc hy⟩ (k₁.trans ((Keep.mk k₃.os k₃.gens : Keep s₁ s₃).trans k₄))
  | raise a1 a2 hk a3 hb hy =>
    subst hk
    obtain ⟨σ₂, h1, h2⟩ := @a3 (lo (i + 1)) fun m hm => G.lb _ _ m a2 hm
    refine G.item X D₁ s₁ σ₁ i _ p X.A _ _ a2 r₁ a1 hp₁ hh fun D₂ h₂ tk x r₂ g₂ hx => go r₂ (g₂.ad _ _ hp₁) ?_
    have hpp := he.1
    exact h1.out X D₂ x c hx (fun _ q => nomatch q) _ r₂ _ _ fun D₃ s₃ _ r₃ g₃ _ k₃ =>
      wpAny_mono (h2.out X D₃ c (fun _ q => nomatch q) s₃ r₃ _ E hpp fun D₄ s₄ e x₄ g₄ k₄ => he.2 (cutD _ D₄) s₄ e (by
        obtain ⟨ea, ws, h₁, e1, r', v', o'⟩ := x₄
        exact ⟨ea, ws, h₁, e1, r'.trunc hb.cut, v'.trunc hy, o'⟩) (cut ((g₂.trans g₃).trans g₄)) (k₁.trans ((Keep.mk k₃.os k₃.gens : Keep s₁ s₃).trans k₄))) (fun _ _ y => y) fun e s' q => hpp e s' q
theorem app_get {α : Type} (l : List α) (a : α) : (l ++ [a])[l.length]? = some a := by simp
theorem app_set {α : Type} (l : List α) (a b : α) : (l ++ [a]).set l.length b = l ++ [b] := by simp
theorem Gen.list (P : Pg) (fm : Fm) (j : Nat) (vs : List V) : Gen P fm vs (fun i => .iter j i) (fun σ => σ.hp[j]? = some (.list vs)) where
  lb := fun σ i m hJ hm => decide_eq_true (Nat.lt_of_lt_of_le (List.getElem?_eq_some_iff.mp hJ).1 hm)
  item := fun X D s σ i v p A Q E hJ r hv hp hh k => by
    have hj : (σ.hp ++ [LO.iter j i])[j]? = some (.list vs) := by rw [List.getElem?_append_left (List.getElem?_eq_some_iff.mp hJ).1]; exact hJ
    refine it_item r (σ := ⟨σ.loc, σ.hp ++ [.iter j i]⟩) hj (app_get _ _) hp hv fun D' h' x r' g hx => ?_
    rw [show (⟨σ.loc, (σ.hp ++ [LO.iter j i]).set σ.hp.length (.iter j (i + 1))⟩ : St) = ⟨σ.loc, σ.hp ++ [.iter j (i + 1)]⟩ by rw [app_set]] at r'
    exact k D' h' s.toks x r' g hx
  done := fun X D s σ i p A Q E hJ r hv hp hh hb k => by
    have hj : (σ.hp ++ [LO.iter j i])[j]? = some (.list vs) := by rw [List.getElem?_append_left (List.getElem?_eq_some_iff.mp hJ).1]; exact hJ
    refine it_over r (σ := ⟨σ.loc, σ.hp ++ [.iter j i]⟩) hj (app_get _ _) hp hv hh fun D' h' r' g => ?_
    rw [show (⟨σ.loc, (σ.hp ++ [LO.iter j i]).set σ.hp.length .over⟩ : St) = ⟨σ.loc, σ.hp ++ [.over]⟩ by rw [app_set]] at r'
    exact k D' h' s.toks (r'.trunc hb.cut) g
  cls := fun X D h σ i p r hp => by
    obtain ⟨e, pj, o, _, _, hg, h1, h2, _⟩ := iter_at r (app_get _ _) hp
    exact ⟨o, _, _, by rw [e]; exact hg, h1, h2, by decide⟩
structure Itr (P : Pg) (vs : List V) (pr : Nat → Obj → Prop) : Prop where
  own : ∀ i o, pr i o → ∃ T, o.cls = .type T ∧ keepsT T = false
  shape : ∀ i o, pr i o → (∃ T, o.cls = .type T ∧ T ≠ "tuple" ∧ T ≠ "ValueError" ∧ T ≠ "range" ∧ T ≠ "builtin_function_or_method") ∧ ∃ fs, o.data = .fields fs
  item : ∀ (s : Shared) (I : Addr) (i : Nat) (v : V) (o : Obj) (A : Around) (Q : Option Value → Shared → Prop) (E : Value → Shared → Prop), vs[i]? = some v → s.heap.get? I = some o → pr i o → A.handled = none →
    (∀ h' tk x o', (∀ base ad news, VR base ad news v x) → h'.get? I = some o' → pr (i + 1) o' → (∀ b y, b ≠ I → s.heap.get? b = some y → h'.get? b = some y) → Q (some x) { s with heap := h', toks := tk }) →
    wpAny (model P.prog P.w) A (pyNext (.ref I)) Q E s
  done : ∀ (s : Shared) (I : Addr) (i : Nat) (o : Obj) (A : Around) (Q : Option Value → Shared → Prop) (E : Value → Shared → Prop), vs[i]? = none → s.heap.get? I = some o → pr i o → A.handled = none →
    (∀ h' tk, (∀ b y, b ≠ I → s.heap.get? b = some y → h'.get? b = some y) → Q none { s with heap := h', toks := tk }) →
    wpAny (model P.prog P.w) A (pyNext (.ref I)) Q E s
section
variable {P : Pg} {fm : Fm} {X : Fx} {D : Dy} {σ : St} {h h' : Heap}
theorem Rp.lost {lo : LO} (r : Rp P fm X D ⟨σ.loc, σ.hp ++ [lo]⟩ h) {p : Addr × Addr} (hp : D.ad[σ.hp.length]? = some p) {o : Obj} (ho : (p.2, o) ∈ D.news) (mv : Moves o) (hb : Bel σ.hp.length σ)
    (hs : ∀ b x, b ≠ p.2 → h.get? b = some x → h'.get? b = some x) : ∃ D', Rp P fm X (cutD σ.hp.length D') σ h' ∧ Gr X D D' ∧ D'.m = D.m ∧ ∀ q ∈ D'.news, q ∈ D.news ∧ q.1 ≠ p.2 := by
  obtain ⟨b1, b2, b3⟩ := r.N _ ho
  let news' := D.news.filter fun q => q.1 != p.2
  have kp : ∀ a x, (a, x) ∈ D.news → a ≠ p.2 → (a, x) ∈ news' := fun a x hm hne => List.mem_filter.mpr ⟨hm, by simpa using hne⟩
  have F' : Fr X.h₀ X.L h' D.m := by
    obtain ⟨⟨oL, es, ep, hL, rest⟩, keep, above⟩ := r.F
    refine ⟨⟨oL, es, ep, hs _ _ (fun q => b2 q.symm) hL, rest⟩, fun b x q => hs b x (fun z => ?_) (keep b x q), above⟩
    subst z
    rw [show X.h₀.get? p.2 = none from b3] at q; cases q
  have N' : News X.h₀ X.L h' news' := fun q hq => by
    obtain ⟨hm, hne⟩ := List.mem_filter.mp hq
    have hne : q.1 ≠ p.2 := by simpa using hne
    obtain ⟨c1, c2, c3⟩ := r.N _ hm
    exact ⟨hs _ _ hne c1, c2, c3⟩
  have g : Gr X D { D with news := news' } := ⟨fun _ _ e => e, fun a x hm c => kp a x hm fun e => by
    subst e
    rw [nodup_uniq r.nd hm ho] at c
    rcases c with c | ⟨⟨v, c⟩, _⟩
    · exact mv.1 c
    · exact mv.2.1 v c⟩
  refine ⟨{ D with news := news' }, ⟨F', N', ?_, ?_, ?_, fun x v e => ?_, fun x hx => ?_, r.inj, fun j lo' e => ?_⟩, g, rfl, fun q hq => ⟨(List.mem_filter.mp hq).1, by simpa using (List.mem_filter.mp hq).2⟩⟩
  · exact (List.Sublist.map _ List.filter_sublist).nodup r.nd
  · show (D.ad.take σ.hp.length).length = σ.hp.length
    have := r.len
    rw [List.length_append, List.length_singleton] at this
    rw [List.length_take, this]; omega
  · show ((D.ad.take σ.hp.length).map (·.2)).Nodup
    rw [List.map_take]
    exact r.dis.sublist (List.take_sublist _ _)
  · have q := (r.loc x v e).mono g fun a o₁ y hm hd => kp a o₁ hm fun e => by
      subst e; rw [nodup_uniq r.nd hm ho] at hd; exact mv.2.1 _ hd
    exact q.trunc (vbs_get hb.lb e)
  · obtain ⟨c, o₁, v₀, hc, hm, hd⟩ := r.cel x hx
    exact ⟨c, o₁, v₀, hc, kp _ _ hm fun e => by subst e; rw [nodup_uniq r.nd hm ho] at hd; exact mv.2.1 _ hd, hd⟩
  · have hj : j < σ.hp.length := (List.getElem?_eq_some_iff.mp e).1
    obtain ⟨q, hq, hor⟩ := r.hp j lo' (by show (σ.hp ++ [lo])[j]? = _; rw [List.getElem?_append_left hj]; exact e)
    refine ⟨q, take_get hq hj, OR.trunc ?_ (lobs_get hb.hb e)⟩
    refine hor.mono g fun a o₁ hm ha => kp a o₁ hm fun ea => ?_
    rcases ha with ha | ha
    · have hne : q.2 ≠ p.2 := fun eq => by
        have h1 : (D.ad.map (·.2))[σ.hp.length]? = some p.2 := by rw [List.getElem?_map, hp]; rfl
        have h2 : (D.ad.map (·.2))[j]? = some p.2 := by rw [List.getElem?_map, hq, ← eq]; rfl
        have hi : j < (D.ad.map (·.2)).length := (List.getElem?_eq_some_iff.mp h2).1
        exact absurd ((List.getElem?_inj hi r.dis).mp (h2.trans h1.symm)) (Nat.ne_of_lt hj)
      exact hne (ha ▸ ea)
    · subst ea; rw [nodup_uniq r.nd hm ho] at ha; exact mv.2.2 ha
end
theorem shape_moves {o : Obj} (h : (∃ T, o.cls = .type T ∧ T ≠ "tuple" ∧ T ≠ "ValueError" ∧ T ≠ "range" ∧ T ≠ "builtin_function_or_method") ∧ ∃ fs, o.data = .fields fs) : Moves o := by
  obtain ⟨⟨T, h1, h2⟩, fs, h4⟩ := h
  exact ⟨notFixd h1 h2, (fun v q => by rw [h4] at q; cases q), (fun q => by rw [h4] at q; cases q)⟩
theorem Gen.itr {P : Pg} {fm : Fm} {vs : List V} {pr : Nat → Obj → Prop} (I : Itr P vs pr) : Gen P fm vs (fun i => .it (pr i)) (fun _ => True) where
  lb := fun _ _ _ _ _ => rfl
  item := fun X D s σ i v p A Q E hJ r hv hp hh k => by
    obtain ⟨p', hp', e, o, hm, ho, hT, fs, hfs⟩ := r.hp σ.hp.length (.it (pr i)) (app_get _ _)
    rw [hp] at hp'; cases hp'
    refine I.item s p.1 i v o A Q E hv (by rw [e]; exact r.N.get hm) ho hh fun h' tk x o' hx hg ho' hs => ?_
    obtain ⟨D', r', g⟩ := r.moved hp hm (shape_moves (I.shape _ _ ho)) (o' := o') (fun b y hb hy => hs b y (by rw [e]; exact hb) hy) (by rw [← e]; exact hg) (lo := .it (pr (i + 1))) fun D' g ea hm' => ⟨e, o', hm', ho', I.shape _ _ ho'⟩
    rw [show (⟨σ.loc, (σ.hp ++ [LO.it (pr i)]).set σ.hp.length (.it (pr (i + 1)))⟩ : St) = ⟨σ.loc, σ.hp ++ [.it (pr (i + 1))]⟩ by rw [app_set]] at r'
    exact k D' h' tk x r' g (hx _ _ _)
  done := fun X D s σ i p A Q E hJ r hv hp hh hb k => by
    obtain ⟨p', hp', e, o, hm, ho, hT, fs, hfs⟩ := r.hp σ.hp.length (.it (pr i)) (app_get _ _)
    rw [hp] at hp'; cases hp'
    refine I.done s p.1 i o A Q E hv (by rw [e]; exact r.N.get hm) ho hh fun h' tk hs => ?_
    obtain ⟨D', r', g, _⟩ := r.lost hp hm (shape_moves (I.shape _ _ ho)) hb fun b y hb hy => hs b y (by rw [e]; exact hb) hy
    exact k D' h' tk r' g
  cls := fun X D h σ i p r hp => by
    obtain ⟨p', hp', e, o, hm, ho, _, fs, hfs⟩ := r.hp σ.hp.length (.it (pr i)) (app_get _ _)
    rw [hp] at hp'; cases hp'
    obtain ⟨T, hT, hk⟩ := I.own _ _ ho
    exact ⟨o, T, fs, by rw [e]; exact r.N.get hm, hT, hfs, hk⟩
end Mini
namespace Mini
open PySem PySem.W PySem.Calls PyProof.Rows
theorem for_stmt {P : Pg} {n : Nat} {fm : Fm} {t it : Expr} {b : List Stmt} {pos : Pos} {vs : List V} {J : St → Prop} {v : V} {σ σ₁ : St} {r : Res Fl} (hi : EvC P n fm it v σ σ₁)
    (mk : ∀ (X : Fx) (D : Dy) (s : Shared) (x : Value) (Q : Value → Shared → Prop) (E : Value → Shared → Prop), Rp P fm X D σ₁ s.heap → VRel X v D x →
      (∀ lo D' h' p, Gen P fm vs lo J → Rp P fm X D' ⟨σ₁.loc, σ₁.hp ++ [lo 0]⟩ h' → Gr X D D' → D'.ad[σ₁.hp.length]? = some p → Q (.ref p.1) { s with heap := h' }) → wpAny (model P.prog P.w) X.A (pyIter x) Q E s)
    (L : ForI P n fm t b vs J σ₁.hp.length 0 σ₁ r) (hf : fm.hand = false) (hs : ∀ env x, foldedSetIterable it env x = pure x) : StC P n fm σ (.For t it b [] pos) r := by
  refine ⟨fun X D c => ?_⟩
  refine ok_ends fun s Q E hr hE => ?_
  refine wpAny_For (hi.out X D c (fun _ q => nomatch q) s hr _ E fun D₁ s₁ x r₁ g₁ hx k₁ => ?_) (hs _)
  refine mk X D₁ s₁ x _ E r₁ hx fun lo D₂ h₂ p G r₂ g₂ hp => ?_
  exact for_gen G L c (c.hh hf) hp r₁.len g₂ r₂ (hE.trans g₁ ⟨k₁.os, k₁.gens⟩)
section
variable {P : Pg} {n : Nat} {fm : Fm} {t it : Expr} {b : List Stmt} {pos : Pos} {σ σ₁ : St} {r : Res Fl}
theorem for_list {j : Nat} {vs : List V} (hi : EvC P n fm it (.obj j) σ σ₁) (hj : σ₁.hp[j]? = some (.list vs)) (L : ForI P n fm t b vs (fun σ => σ.hp[j]? = some (.list vs)) σ₁.hp.length 0 σ₁ r)
    (hf : fm.hand = false := by rfl) (hs : ∀ env x, foldedSetIterable it env x = pure x := by intros; rfl) : StC P n fm σ (.For t it b [] pos) r := by
  refine for_stmt hi (fun X D₁ s₁ x Q E r₁ hx k => ?_) L hf hs
  obtain ⟨a, xs, m, rfl, e2, e3, hm, pj, hpj, e4, e5⟩ := lst_at r₁ hx hj
  refine wpAny_pyIter_list ⟨_, e2, rfl, m, rfl⟩ ?_
  have fr : ∀ p ∈ D₁.news, p.1 ≠ s₁.heap.objs.size := fun p hp e => absurd (fresh_lt r₁ p hp) (by rw [e]; exact Nat.lt_irrefl _)
  obtain ⟨D₂, r₂, g₂, hv⟩ := r₁.newObj (lo := .iter j 0) fr (r₁.F.push _) (r₁.N.push r₁.F { cls := .type "list_iterator", data := .fields #[.ref a, .int 0 0] })
    fun D' g hm' => ⟨rfl, pj, _, g.ad _ _ hpj, hm', rfl, by rw [e4]; rfl⟩
  generalize hA : (Value.ref s₁.heap.objs.size) = z at hv ⊢
  have hv : VR X.base D₂.ad D₂.news (.obj σ₁.hp.length) z := hv
  cases hv with
  | obj hp => exact k _ D₂ _ _ (Gen.list P fm j vs) r₂ g₂ hp
noncomputable def rngP (m : Nat) (i : Nat) (o : Obj) : Prop := o = { cls := .type "range_iterator", dict := none, data := .fields #[rawInt (0 + (i : Nat) * 1), rawInt ((m : Int) - (i : Nat)), rawInt 1], slots := #[] }
noncomputable def rngVs (m : Nat) : List V := (List.range m).map fun (i : Nat) => V.int (i : Int)
theorem rngVs_get {m i : Nat} (h : i < m) : (rngVs m)[i]? = some (.int i) := by unfold rngVs; simp [h]
theorem rngVs_none {m i : Nat} (h : m ≤ i) : (rngVs m)[i]? = none := by unfold rngVs; simp [h]
theorem Itr.range (P : Pg) (m : Nat) : Itr P (rngVs m) (rngP m) where
  own := fun i o h => by subst h; exact ⟨_, rfl, by decide⟩
  shape := fun i o h => by subst h; exact ⟨⟨_, rfl, by decide⟩, _, rfl⟩
  item := fun s I i v o A Q E hv ho hpr hh k => by
    subst hpr
    have hi : i < m := by
      have := (List.getElem?_eq_some_iff.mp hv).1
      unfold rngVs at this; simpa using this
    refine (Walks.range hh I 0 1 m).item i s Q E hi ho fun x h' tk hx hst hs => ?_
    obtain ⟨t, rfl⟩ := hx
    rw [rngVs_get hi] at hv
    cases hv
    refine k h' tk _ _ (fun base ad news => ?_) hst rfl fun b y hb hy => hs b y (by simpa using hb) hy
    rw [Int.mul_one, Int.zero_add]
    exact .int
  done := fun s I i o A Q E hv ho hpr hh k => by
    subst hpr
    have hi : m ≤ i := by rw [List.getElem?_eq_none_iff] at hv; unfold rngVs at hv; simpa using hv
    refine wpAny_pyNext_range_end hh ho (by omega) fun h' he' => ?_
    exact k h' s.toks fun b y hb hy => he' b y hb hy
theorem for_range {m : Nat} (hi : EvC P n fm it (.rng 0 (m : Int)) σ σ₁) (hm : (m : Int) < 2 ^ 62) (L : ForI P n fm t b (rngVs m) (fun _ => True) σ₁.hp.length 0 σ₁ r)
    (hf : fm.hand = false := by rfl) (hs : ∀ env x, foldedSetIterable it env x = pure x := by intros; rfl) : StC P n fm σ (.For t it b [] pos) r := by
  refine for_stmt hi (fun X D₁ s₁ x Q E r₁ hx k => ?_) L hf hs
  cases hx with
  | @rng a _ _ tt u w hm' =>
  refine wpAny_pyIter_range (r₁.N.get hm') (small_one (by omega) (by omega) (by omega) hm) ?_
  have hsz : Builtin.Range.rangeSize 0 (m : Int) 1 = (m : Int) := by
    rw [rangeSize_one]; split <;> omega
  rw [hsz]
  have fr : ∀ p ∈ D₁.news, p.1 ≠ s₁.heap.objs.size := fun p hp e => absurd (fresh_lt r₁ p hp) (by rw [e]; exact Nat.lt_irrefl _)
  obtain ⟨D₂, r₂, g₂, hv⟩ := r₁.newObj (lo := .it (rngP m 0)) fr (r₁.F.push _) (r₁.N.push r₁.F { cls := .type "range_iterator", data := .fields #[rawInt 0, rawInt (m : Int), rawInt 1] })
    fun D' g hm' => ⟨rfl, _, hm', by unfold rngP; simp, ⟨_, rfl, by decide⟩, _, rfl⟩
  generalize hA : (Value.ref s₁.heap.objs.size) = z at hv ⊢
  have hv : VR X.base D₂.ad D₂.news (.obj σ₁.hp.length) z := hv
  cases hv with
  | obj hp => exact k _ D₂ _ _ (Gen.itr (Itr.range P m)) r₂ g₂ hp
end
end Mini
namespace Mini
open PySem PySem.W PySem.Calls PyProof.Rows
section
variable {P : Pg} {fm : Fm} {X : Fx} {D : Dy} {σ : St} {h h' : Heap} {n : Nat}
end
end Mini
namespace Mini
open PySem PySem.W PyProof.Rows
noncomputable def stAt : List Stmt → Nat → Stmt
  | [], _ => .Pass ⟨0, 0, 0, 0⟩
  | s :: _, 0 => s
  | _ :: r, n + 1 => stAt r n
noncomputable def clsIn' : Stmt → List Stmt
  | .ClassDef _ _ _ b _ _ _ _ _ _ _ => b
  | _ => []
noncomputable def pwTop : List Stmt := PySem.Challenge.pw_io0015_03.main.body
noncomputable def fdAt : List Nat → Stmt
  | [i] => stAt pwTop i
  | [i, j] => stAt (clsIn' (stAt pwTop i)) j
  | _ => .Pass ⟨0, 0, 0, 0⟩
noncomputable def fo (p : List Nat) (q : Str) (g : Addr) (cl : List (Str × Addr)) (d k doc pm : Value) (an : Option Addr) (c ct : Value) (b : Addr) : Obj := match fdAt p with
  | .FunctionDef n a body _ _ _ sc _ _ _ => ⟨.type "function", none, .func ⟨n, q, a, .stmts body, sc, g, cl, d, k, doc, pm, an, c, ct, b⟩, #[]⟩
  | _ => ⟨.none, none, .plain, #[]⟩
noncomputable def de (P : Params) (k : Str) (t : Tok) (v : Value) : DictEntry := ⟨PyData.keyHash P k, .str k t, v⟩
noncomputable def myK (P : Params) : Frag := [
(2, ⟨.none, none, (.dict #[de P "\x69mport.loaded._collections" 185 (.bool true), de P "class._frozen_importlib.BuiltinImporter" 187 (.ref 15), de P "watched.\x69mport" 208 (.ref 19), de P "class._frozen_importlib.ModuleSpec" 218 (.ref 23), de P "sys.modules.booked-epoch" 247 (.int 3 0), de P "sys.modules.landed._collections" 248 (.bool true), de P "\x69mport.later-laid._collections" 263 (.bool true), de P "watched.library" 265 (.ref 28), de P "watched.library-objects" 0 (.str "\x0d" 0), de P "watched.library-deep._collections" 266 (.str "\x04\x00\x00\x0c\x04\x00\x00\x0c\x04\x00\x00\x03\x04\x00\x00\x0c\x08\x04dict\x02" 0), de P "type.__subclasses__.OSError.0" 322 (.int 63 0), de P "type.__subclasses__.OSError.n" 323 (.int 1 0)] 12), #[]⟩),
(3, ⟨(.type "dict"), none, (.dict #[de P "__name__" 165 (.str "law_io0015_03" 1142), de P "__doc__" 166 .none, de P "__package__" 167 .none, de P "__loader__" 168 (.builtin "__main__.__loader__#opaque"), de P "__spec__" 169 .none, de P "__annotations__" 170 (.ref 6), de P "__builtins__" 171 (.ref 4), de P "__file__" 173 (.str "/claim/cut.py" 172), de P "__cached__" 174 .none, de P "deque" 272 (.type "collections.deque"), de P "_wall" 285 (.ref 39), de P "_whence" 295 (.ref 46), de P "_index" 303 (.ref 53), de P "UnsupportedOperation" 325 (.ref 63), de P "IOBase" 357 (.ref 83), de P "BufferedIOBase" 375 (.ref 98), de P "TextIOBase" 393 (.ref 110), de P "BytesIO" 655 (.ref 340), de P "StringIO" 942 (.ref 587), de P "_kind" 953 (.ref 596), de P "_fspath" 962 (.ref 603), de P "_check_arg_types" 972 (.ref 610), de P "isabs" 979 (.ref 617), de P "join" 990 (.ref 624), de P "dirname" 1000 (.ref 631), de P "shlex" 1141 (.ref 722), de P "_law_sign" 1152 (.ref 733), de P "_law_kind" 1162 (.ref 740), de P "_law_double" 1172 (.ref 747), de P "_law_line" 1192 (.ref 754), de P "law" 1198 (.ref 759)] 31), #[]⟩),
(38, ⟨(.type "code"), none, (.fields #[(.str "_wall" 279), (.str "_wall" 280), (.str "/claim/cut.py" 281), (.int 2 0), (.int 1 0), (.int 0 0), (.int 0 0), (.int 3 0), (.ref 33), (.bool true), (.int 273 0), (.ref 34), .none, (.ref 35), (.ref 36), (.ref 37), (.int 283 0), (.int 2 0), (.str "/claim/cut.py" 284)]), #[]⟩),
(39, fo [1] "_wall" 3 [] .none .none .none (.str "__main__" 164) none (.ref 38) .none 0),
(45, ⟨(.type "code"), none, (.fields #[(.str "_whence" 288), (.str "_whence" 289), (.str "/claim/cut.py" 290), (.int 6 0), (.int 2 0), (.int 0 0), (.int 0 0), (.int 3 0), (.ref 40), (.bool true), (.int 273 0), (.ref 41), .none, (.ref 42), (.ref 43), (.ref 44), (.int 293 0), (.int 6 0), (.str "/claim/cut.py" 294)]), #[]⟩),
(46, fo [3] "_whence" 3 [] .none .none .none (.str "io" 286) none (.ref 45) .none 0),
(52, ⟨(.type "code"), none, (.fields #[(.str "_index" 296), (.str "_index" 297), (.str "/claim/cut.py" 298), (.int 11 0), (.int 2 0), (.int 0 0), (.int 0 0), (.int 3 0), (.ref 47), (.bool true), (.int 273 0), (.ref 48), .none, (.ref 49), (.ref 50), (.ref 51), (.int 301 0), (.int 11 0), (.str "/claim/cut.py" 302)]), #[]⟩),
(53, fo [4] "_index" 3 [] .none .none .none (.str "io" 286) none (.ref 52) .none 0),
(62, ⟨(.type "dict"), none, (.dict #[de P "__module__" 311 (.str "io" 316), de P "__firstlineno__" 315 (.int 18 314), de P "__static_attributes__" 318 (.ref 61), de P "__weakref__" 320 (.ref 64), de P "__doc__" 321 .none] 3), #[]⟩),
(63, ⟨(.type "type"), none, (.cls ⟨"UnsupportedOperation", [(.type "OSError"), (.type "ValueError")], [(.ref 63), (.type "OSError"), (.type "ValueError"), (.type "Exception"), (.type "BaseException"), (.type "object")], 62, "UnsupportedOperation", true, [], [], false, none, false⟩), #[(some (.ref 54)), none, (some (.str "UnsupportedOperation" 304)), (some (.str "UnsupportedOperation" 312)), (some (.builtin "OSError.__new__")), (some (.bool true))]⟩),
(64, ⟨(.type "getset_descriptor"), none, (.fields #[(.str "__weakref__" 319), (.ref 63), (.builtin "ExceptionGroup.__weakref__"), .none]), #[]⟩),
(79, ⟨(.type "code"), none, (.fields #[(.str "__new__" 340), (.str "IOBase.__new__" 341), (.str "/claim/cut.py" 342), (.int 23 0), (.int 1 0), (.int 1 0), (.int 0 0), (.int 15 0), (.ref 74), (.bool true), (.int 273 0), (.ref 75), .none, (.ref 76), (.ref 77), (.ref 78), (.int 346 0), (.int 23 0), (.str "/claim/cut.py" 347)]), #[]⟩),
(80, fo [6, 1] "IOBase.__new__" 3 [] .none .none .none (.str "io" 286) none (.ref 79) .none 0),
(82, ⟨(.type "dict"), none, (.dict #[de P "__module__" 333 (.str "io" 338), de P "__firstlineno__" 337 (.int 20 336), de P "__new__" 348 (.ref 84), de P "__static_attributes__" 349 (.ref 81), de P "__dict__" 352 (.ref 85), de P "__weakref__" 354 (.ref 86), de P "__doc__" 355 .none] 4), #[]⟩),
(83, ⟨(.type "type"), none, (.cls ⟨"IOBase", [(.type "object")], [(.ref 83), (.type "object")], 82, "IOBase", true, [], [(.ref 98), (.ref 110)], false, none, false⟩), #[none, none, (some (.str "IOBase" 326)), (some (.str "IOBase" 334)), (some .none), (some (.bool true))]⟩),
(84, ⟨(.type "staticmethod"), none, (.fields #[(.ref 80)]), #[]⟩),
(85, ⟨(.type "getset_descriptor"), none, (.fields #[(.str "__dict__" 351), (.ref 83), (.builtin "function.__dict__"), (.builtin "function.__dict__#set")]), #[]⟩),
(86, ⟨(.type "getset_descriptor"), none, (.fields #[(.str "__weakref__" 353), (.ref 83), (.builtin "ExceptionGroup.__weakref__"), .none]), #[]⟩),
(97, ⟨(.type "dict"), none, (.dict #[de P "__module__" 365 (.str "io" 370), de P "__firstlineno__" 369 (.int 27 368), de P "__static_attributes__" 372 (.ref 96), de P "__doc__" 373 .none] 2), #[]⟩),
(98, ⟨(.type "type"), none, (.cls ⟨"BufferedIOBase", [(.ref 83)], [(.ref 98), (.ref 83), (.type "object")], 97, "BufferedIOBase", true, [], [(.ref 340)], false, none, false⟩), #[(some (.ref 89)), none, (some (.str "BufferedIOBase" 358)), (some (.str "BufferedIOBase" 366)), (some .none), (some (.bool true))]⟩),
(109, ⟨(.type "dict"), none, (.dict #[de P "__module__" 383 (.str "io" 388), de P "__firstlineno__" 387 (.int 29 386), de P "__static_attributes__" 390 (.ref 108), de P "__doc__" 391 .none] 2), #[]⟩),
(110, ⟨(.type "type"), none, (.cls ⟨"TextIOBase", [(.ref 83)], [(.ref 110), (.ref 83), (.type "object")], 109, "TextIOBase", true, [], [(.ref 587)], false, none, false⟩), #[(some (.ref 101)), none, (some (.str "TextIOBase" 376)), (some (.str "TextIOBase" 384)), (some .none), (some (.bool true))]⟩),
(149, ⟨(.type "property"), none, (.fields #[(.ref 148), .none, .none, .none, (.str "closed" 441), (.bool false)]), #[]⟩),
(339, ⟨(.type "dict"), none, (.dict #[de P "__module__" 401 (.str "_io" 406), de P "__firstlineno__" 405 (.int 31 404), de P "__init__" 415 (.ref 127), de P "_BytesIO__check" 422 (.ref 134), de P "_BytesIO__line" 433 (.ref 141), de P "closed" 441 (.ref 149), de P "close" 448 (.ref 156), de P "__enter__" 455 (.ref 163), de P "__exit__" 463 (.ref 170), de P "readable" 470 (.ref 177), de P "writable" 477 (.ref 184), de P "seekable" 484 (.ref 191), de P "isatty" 491 (.ref 198), de P "flush" 498 (.ref 205), de P "fileno" 505 (.ref 212), de P "detach" 512 (.ref 219), de P "getvalue" 519 (.ref 226), de P "getbuffer" 526 (.ref 233), de P "tell" 533 (.ref 240), de P "seek" 543 (.ref 248), de P "truncate" 551 (.ref 256), de P "read" 563 (.ref 264), de P "read1" 573 (.ref 272), de P "readinto" 583 (.ref 279), de P "readinto1" 591 (.ref 286), de P "readline" 601 (.ref 294), de P "readlines" 609 (.ref 302), de P "__iter__" 616 (.ref 309), de P "__next__" 624 (.ref 316), de P "write" 634 (.ref 323), de P "writelines" 642 (.ref 330), de P "__repr__" 649 (.ref 337), de P "__static_attributes__" 652 (.ref 338), de P "__doc__" 653 .none] 2), #[]⟩),
(340, ⟨(.type "type"), none, (.cls ⟨"BytesIO", [(.ref 98)], [(.ref 340), (.ref 98), (.ref 83), (.type "object")], 339, "BytesIO", true, [], [], false, none, false⟩), #[(some (.ref 113)), none, (some (.str "BytesIO" 394)), (some (.str "BytesIO" 402)), (some .none), (some (.bool true))]⟩),
(350, ⟨(.type "tuple"), none, (.seq #[(.str "" 670), (.str "\n" 671)] 0), #[]⟩),
(356, ⟨(.type "code"), none, (.fields #[(.str "__init__" 672), (.str "StringIO.__init__" 673), (.str "/claim/cut.py" 674), (.int 204 0), (.int 3 0), (.int 0 0), (.int 0 0), (.int 3 0), (.ref 351), (.bool true), (.int 273 0), (.ref 352), .none, (.ref 353), (.ref 354), (.ref 355), (.int 678 0), (.int 204 0), (.str "/claim/cut.py" 679)]), #[]⟩),
(357, fo [10, 1] "StringIO.__init__" 3 [] (.ref 350) .none .none (.str "io" 286) none (.ref 356) .none 0),
(363, ⟨(.type "code"), none, (.fields #[(.str "__translated" 681), (.str "StringIO.__translated" 682), (.str "/claim/cut.py" 683), (.int 217 0), (.int 2 0), (.int 0 0), (.int 0 0), (.int 3 0), (.ref 358), (.bool true), (.int 273 0), (.ref 359), .none, (.ref 360), (.ref 361), (.ref 362), (.int 687 0), (.int 217 0), (.str "/claim/cut.py" 688)]), #[]⟩),
(364, fo [10, 2] "StringIO.__translated" 3 [] .none .none .none (.str "io" 286) none (.ref 363) .none 0),
(370, ⟨(.type "code"), none, (.fields #[(.str "__check" 690), (.str "StringIO.__check" 691), (.str "/claim/cut.py" 692), (.int 225 0), (.int 1 0), (.int 0 0), (.int 0 0), (.int 3 0), (.ref 365), (.bool true), (.int 273 0), (.ref 366), .none, (.ref 367), (.ref 368), (.ref 369), (.int 694 0), (.int 225 0), (.str "/claim/cut.py" 695)]), #[]⟩),
(371, fo [10, 3] "StringIO.__check" 3 [] .none .none .none (.str "io" 286) none (.ref 370) .none 0),
(377, ⟨(.type "code"), none, (.fields #[(.str "__check_dot" 697), (.str "StringIO.__check_dot" 698), (.str "/claim/cut.py" 699), (.int 229 0), (.int 1 0), (.int 0 0), (.int 0 0), (.int 3 0), (.ref 372), (.bool true), (.int 273 0), (.ref 373), .none, (.ref 374), (.ref 375), (.ref 376), (.int 701 0), (.int 229 0), (.str "/claim/cut.py" 702)]), #[]⟩),
(378, fo [10, 4] "StringIO.__check_dot" 3 [] .none .none .none (.str "io" 286) none (.ref 377) .none 0),
(384, ⟨(.type "code"), none, (.fields #[(.str "__line" 704), (.str "StringIO.__line" 705), (.str "/claim/cut.py" 706), (.int 233 0), (.int 2 0), (.int 0 0), (.int 0 0), (.int 3 0), (.ref 379), (.bool true), (.int 273 0), (.ref 380), .none, (.ref 381), (.ref 382), (.ref 383), (.int 716 0), (.int 233 0), (.str "/claim/cut.py" 717)]), #[]⟩),
(385, fo [10, 5] "StringIO.__line" 3 [] .none .none .none (.str "io" 286) none (.ref 384) .none 0),
(391, ⟨(.type "code"), none, (.fields #[(.str "closed" 719), (.str "StringIO.closed" 720), (.str "/claim/cut.py" 721), (.int 265 0), (.int 1 0), (.int 0 0), (.int 0 0), (.int 3 0), (.ref 386), (.bool true), (.int 273 0), (.ref 387), .none, (.ref 388), (.ref 389), (.ref 390), (.int 723 0), (.int 265 0), (.str "/claim/cut.py" 724)]), #[]⟩),
(392, fo [10, 6] "StringIO.closed" 3 [] .none .none .none (.str "io" 286) none (.ref 391) .none 0),
(393, ⟨(.type "property"), none, (.fields #[(.ref 392), .none, .none, .none, (.str "closed" 726), (.bool false)]), #[]⟩),
(399, ⟨(.type "code"), none, (.fields #[(.str "line_buffering" 727), (.str "StringIO.line_buffering" 728), (.str "/claim/cut.py" 729), (.int 269 0), (.int 1 0), (.int 0 0), (.int 0 0), (.int 3 0), (.ref 394), (.bool true), (.int 273 0), (.ref 395), .none, (.ref 396), (.ref 397), (.ref 398), (.int 731 0), (.int 269 0), (.str "/claim/cut.py" 732)]), #[]⟩),
(400, fo [10, 7] "StringIO.line_buffering" 3 [] .none .none .none (.str "io" 286) none (.ref 399) .none 0),
(401, ⟨(.type "property"), none, (.fields #[(.ref 400), .none, .none, .none, (.str "line_buffering" 734), (.bool false)]), #[]⟩),
(407, ⟨(.type "code"), none, (.fields #[(.str "newlines" 735), (.str "StringIO.newlines" 736), (.str "/claim/cut.py" 737), (.int 273 0), (.int 1 0), (.int 0 0), (.int 0 0), (.int 3 0), (.ref 402), (.bool true), (.int 273 0), (.ref 403), .none, (.ref 404), (.ref 405), (.ref 406), (.int 739 0), (.int 273 0), (.str "/claim/cut.py" 740)]), #[]⟩),
(408, fo [10, 8] "StringIO.newlines" 3 [] .none .none .none (.str "io" 286) none (.ref 407) .none 0),
(409, ⟨(.type "property"), none, (.fields #[(.ref 408), .none, .none, .none, (.str "newlines" 742), (.bool false)]), #[]⟩),
(415, ⟨(.type "code"), none, (.fields #[(.str "encoding" 743), (.str "StringIO.encoding" 744), (.str "/claim/cut.py" 745), (.int 277 0), (.int 1 0), (.int 0 0), (.int 0 0), (.int 3 0), (.ref 410), (.bool true), (.int 273 0), (.ref 411), .none, (.ref 412), (.ref 413), (.ref 414), (.int 747 0), (.int 277 0), (.str "/claim/cut.py" 748)]), #[]⟩),
(416, fo [10, 9] "StringIO.encoding" 3 [] .none .none .none (.str "io" 286) none (.ref 415) .none 0),
(417, ⟨(.type "property"), none, (.fields #[(.ref 416), .none, .none, .none, (.str "encoding" 750), (.bool false)]), #[]⟩),
(423, ⟨(.type "code"), none, (.fields #[(.str "errors" 751), (.str "StringIO.errors" 752), (.str "/claim/cut.py" 753), (.int 281 0), (.int 1 0), (.int 0 0), (.int 0 0), (.int 3 0), (.ref 418), (.bool true), (.int 273 0), (.ref 419), .none, (.ref 420), (.ref 421), (.ref 422), (.int 755 0), (.int 281 0), (.str "/claim/cut.py" 756)]), #[]⟩),
(424, fo [10, 10] "StringIO.errors" 3 [] .none .none .none (.str "io" 286) none (.ref 423) .none 0),
(425, ⟨(.type "property"), none, (.fields #[(.ref 424), .none, .none, .none, (.str "errors" 758), (.bool false)]), #[]⟩),
(431, ⟨(.type "code"), none, (.fields #[(.str "close" 759), (.str "StringIO.close" 760), (.str "/claim/cut.py" 761), (.int 285 0), (.int 1 0), (.int 0 0), (.int 0 0), (.int 3 0), (.ref 426), (.bool true), (.int 273 0), (.ref 427), .none, (.ref 428), (.ref 429), (.ref 430), (.int 763 0), (.int 285 0), (.str "/claim/cut.py" 764)]), #[]⟩),
(432, fo [10, 11] "StringIO.close" 3 [] .none .none .none (.str "io" 286) none (.ref 431) .none 0),
(438, ⟨(.type "code"), none, (.fields #[(.str "__enter__" 766), (.str "StringIO.__enter__" 767), (.str "/claim/cut.py" 768), (.int 288 0), (.int 1 0), (.int 0 0), (.int 0 0), (.int 3 0), (.ref 433), (.bool true), (.int 273 0), (.ref 434), .none, (.ref 435), (.ref 436), (.ref 437), (.int 770 0), (.int 288 0), (.str "/claim/cut.py" 771)]), #[]⟩),
(439, fo [10, 12] "StringIO.__enter__" 3 [] .none .none .none (.str "io" 286) none (.ref 438) .none 0),
(445, ⟨(.type "code"), none, (.fields #[(.str "__exit__" 773), (.str "StringIO.__exit__" 774), (.str "/claim/cut.py" 775), (.int 292 0), (.int 1 0), (.int 0 0), (.int 0 0), (.int 7 0), (.ref 440), (.bool true), (.int 273 0), (.ref 441), .none, (.ref 442), (.ref 443), (.ref 444), (.int 778 0), (.int 292 0), (.str "/claim/cut.py" 779)]), #[]⟩),
(446, fo [10, 13] "StringIO.__exit__" 3 [] .none .none .none (.str "io" 286) none (.ref 445) .none 0),
(452, ⟨(.type "code"), none, (.fields #[(.str "readable" 781), (.str "StringIO.readable" 782), (.str "/claim/cut.py" 783), (.int 295 0), (.int 1 0), (.int 0 0), (.int 0 0), (.int 3 0), (.ref 447), (.bool true), (.int 273 0), (.ref 448), .none, (.ref 449), (.ref 450), (.ref 451), (.int 785 0), (.int 295 0), (.str "/claim/cut.py" 786)]), #[]⟩),
(453, fo [10, 14] "StringIO.readable" 3 [] .none .none .none (.str "io" 286) none (.ref 452) .none 0),
(459, ⟨(.type "code"), none, (.fields #[(.str "writable" 788), (.str "StringIO.writable" 789), (.str "/claim/cut.py" 790), (.int 299 0), (.int 1 0), (.int 0 0), (.int 0 0), (.int 3 0), (.ref 454), (.bool true), (.int 273 0), (.ref 455), .none, (.ref 456), (.ref 457), (.ref 458), (.int 792 0), (.int 299 0), (.str "/claim/cut.py" 793)]), #[]⟩),
(460, fo [10, 15] "StringIO.writable" 3 [] .none .none .none (.str "io" 286) none (.ref 459) .none 0),
(466, ⟨(.type "code"), none, (.fields #[(.str "seekable" 795), (.str "StringIO.seekable" 796), (.str "/claim/cut.py" 797), (.int 303 0), (.int 1 0), (.int 0 0), (.int 0 0), (.int 3 0), (.ref 461), (.bool true), (.int 273 0), (.ref 462), .none, (.ref 463), (.ref 464), (.ref 465), (.int 799 0), (.int 303 0), (.str "/claim/cut.py" 800)]), #[]⟩),
(467, fo [10, 16] "StringIO.seekable" 3 [] .none .none .none (.str "io" 286) none (.ref 466) .none 0),
(473, ⟨(.type "code"), none, (.fields #[(.str "isatty" 802), (.str "StringIO.isatty" 803), (.str "/claim/cut.py" 804), (.int 307 0), (.int 1 0), (.int 0 0), (.int 0 0), (.int 3 0), (.ref 468), (.bool true), (.int 273 0), (.ref 469), .none, (.ref 470), (.ref 471), (.ref 472), (.int 806 0), (.int 307 0), (.str "/claim/cut.py" 807)]), #[]⟩),
(474, fo [10, 17] "StringIO.isatty" 3 [] .none .none .none (.str "io" 286) none (.ref 473) .none 0),
(480, ⟨(.type "code"), none, (.fields #[(.str "flush" 809), (.str "StringIO.flush" 810), (.str "/claim/cut.py" 811), (.int 311 0), (.int 1 0), (.int 0 0), (.int 0 0), (.int 3 0), (.ref 475), (.bool true), (.int 273 0), (.ref 476), .none, (.ref 477), (.ref 478), (.ref 479), (.int 813 0), (.int 311 0), (.str "/claim/cut.py" 814)]), #[]⟩),
(481, fo [10, 18] "StringIO.flush" 3 [] .none .none .none (.str "io" 286) none (.ref 480) .none 0),
(487, ⟨(.type "code"), none, (.fields #[(.str "fileno" 816), (.str "StringIO.fileno" 817), (.str "/claim/cut.py" 818), (.int 314 0), (.int 1 0), (.int 0 0), (.int 0 0), (.int 3 0), (.ref 482), (.bool true), (.int 273 0), (.ref 483), .none, (.ref 484), (.ref 485), (.ref 486), (.int 820 0), (.int 314 0), (.str "/claim/cut.py" 821)]), #[]⟩),
(488, fo [10, 19] "StringIO.fileno" 3 [] .none .none .none (.str "io" 286) none (.ref 487) .none 0),
(494, ⟨(.type "code"), none, (.fields #[(.str "detach" 823), (.str "StringIO.detach" 824), (.str "/claim/cut.py" 825), (.int 317 0), (.int 1 0), (.int 0 0), (.int 0 0), (.int 3 0), (.ref 489), (.bool true), (.int 273 0), (.ref 490), .none, (.ref 491), (.ref 492), (.ref 493), (.int 827 0), (.int 317 0), (.str "/claim/cut.py" 828)]), #[]⟩),
(495, fo [10, 20] "StringIO.detach" 3 [] .none .none .none (.str "io" 286) none (.ref 494) .none 0),
(501, ⟨(.type "code"), none, (.fields #[(.str "getvalue" 830), (.str "StringIO.getvalue" 831), (.str "/claim/cut.py" 832), (.int 320 0), (.int 1 0), (.int 0 0), (.int 0 0), (.int 3 0), (.ref 496), (.bool true), (.int 273 0), (.ref 497), .none, (.ref 498), (.ref 499), (.ref 500), (.int 834 0), (.int 320 0), (.str "/claim/cut.py" 835)]), #[]⟩),
(502, fo [10, 21] "StringIO.getvalue" 3 [] .none .none .none (.str "io" 286) none (.ref 501) .none 0),
(508, ⟨(.type "code"), none, (.fields #[(.str "tell" 837), (.str "StringIO.tell" 838), (.str "/claim/cut.py" 839), (.int 323 0), (.int 1 0), (.int 0 0), (.int 0 0), (.int 3 0), (.ref 503), (.bool true), (.int 273 0), (.ref 504), .none, (.ref 505), (.ref 506), (.ref 507), (.int 841 0), (.int 323 0), (.str "/claim/cut.py" 842)]), #[]⟩),
(509, fo [10, 22] "StringIO.tell" 3 [] .none .none .none (.str "io" 286) none (.ref 508) .none 0),
(510, ⟨(.type "tuple"), none, (.seq #[(.int 0 844)] 0), #[]⟩),
(516, ⟨(.type "code"), none, (.fields #[(.str "seek" 845), (.str "StringIO.seek" 846), (.str "/claim/cut.py" 847), (.int 327 0), (.int 3 0), (.int 3 0), (.int 0 0), (.int 3 0), (.ref 511), (.bool true), (.int 273 0), (.ref 512), .none, (.ref 513), (.ref 514), (.ref 515), (.int 851 0), (.int 327 0), (.str "/claim/cut.py" 852)]), #[]⟩),
(517, fo [10, 23] "StringIO.seek" 3 [] (.ref 510) .none .none (.str "io" 286) none (.ref 516) .none 0),
(518, ⟨(.type "tuple"), none, (.seq #[.none] 0), #[]⟩),
(524, ⟨(.type "code"), none, (.fields #[(.str "truncate" 854), (.str "StringIO.truncate" 855), (.str "/claim/cut.py" 856), (.int 344 0), (.int 2 0), (.int 2 0), (.int 0 0), (.int 3 0), (.ref 519), (.bool true), (.int 273 0), (.ref 520), .none, (.ref 521), (.ref 522), (.ref 523), (.int 859 0), (.int 344 0), (.str "/claim/cut.py" 860)]), #[]⟩),
(525, fo [10, 24] "StringIO.truncate" 3 [] (.ref 518) .none .none (.str "io" 286) none (.ref 524) .none 0),
(526, ⟨(.type "tuple"), none, (.seq #[(.int (-1) 863)] 0), #[]⟩),
(532, ⟨(.type "code"), none, (.fields #[(.str "read" 864), (.str "StringIO.read" 865), (.str "/claim/cut.py" 866), (.int 347 0), (.int 2 0), (.int 2 0), (.int 0 0), (.int 3 0), (.ref 527), (.bool true), (.int 273 0), (.ref 528), .none, (.ref 529), (.ref 530), (.ref 531), (.int 871 0), (.int 347 0), (.str "/claim/cut.py" 872)]), #[]⟩),
(533, fo [10, 25] "StringIO.read" 3 [] (.ref 526) .none .none (.str "io" 286) none (.ref 532) .none 0),
(534, ⟨(.type "tuple"), none, (.seq #[(.int (-1) 875)] 0), #[]⟩),
(540, ⟨(.type "code"), none, (.fields #[(.str "readline" 876), (.str "StringIO.readline" 877), (.str "/claim/cut.py" 878), (.int 361 0), (.int 2 0), (.int 2 0), (.int 0 0), (.int 3 0), (.ref 535), (.bool true), (.int 273 0), (.ref 536), .none, (.ref 537), (.ref 538), (.ref 539), (.int 881 0), (.int 361 0), (.str "/claim/cut.py" 882)]), #[]⟩),
(541, fo [10, 26] "StringIO.readline" 3 [] (.ref 534) .none .none (.str "io" 286) none (.ref 540) .none 0),
(542, ⟨(.type "tuple"), none, (.seq #[(.int (-1) 885)] 0), #[]⟩),
(548, ⟨(.type "code"), none, (.fields #[(.str "readlines" 886), (.str "StringIO.readlines" 887), (.str "/claim/cut.py" 888), (.int 368 0), (.int 2 0), (.int 2 0), (.int 0 0), (.int 3 0), (.ref 543), (.bool true), (.int 273 0), (.ref 544), .none, (.ref 545), (.ref 546), (.ref 547), (.int 891 0), (.int 368 0), (.str "/claim/cut.py" 892)]), #[]⟩),
(549, fo [10, 27] "StringIO.readlines" 3 [] (.ref 542) .none .none (.str "io" 286) none (.ref 548) .none 0),
(555, ⟨(.type "code"), none, (.fields #[(.str "__iter__" 894), (.str "StringIO.__iter__" 895), (.str "/claim/cut.py" 896), (.int 371 0), (.int 1 0), (.int 0 0), (.int 0 0), (.int 3 0), (.ref 550), (.bool true), (.int 273 0), (.ref 551), .none, (.ref 552), (.ref 553), (.ref 554), (.int 898 0), (.int 371 0), (.str "/claim/cut.py" 899)]), #[]⟩),
(556, fo [10, 28] "StringIO.__iter__" 3 [] .none .none .none (.str "io" 286) none (.ref 555) .none 0),
(562, ⟨(.type "code"), none, (.fields #[(.str "__next__" 901), (.str "StringIO.__next__" 902), (.str "/claim/cut.py" 903), (.int 375 0), (.int 1 0), (.int 0 0), (.int 0 0), (.int 3 0), (.ref 557), (.bool true), (.int 273 0), (.ref 558), .none, (.ref 559), (.ref 560), (.ref 561), (.int 906 0), (.int 375 0), (.str "/claim/cut.py" 907)]), #[]⟩),
(563, fo [10, 29] "StringIO.__next__" 3 [] .none .none .none (.str "io" 286) none (.ref 562) .none 0),
(569, ⟨(.type "code"), none, (.fields #[(.str "write" 909), (.str "StringIO.write" 910), (.str "/claim/cut.py" 911), (.int 382 0), (.int 2 0), (.int 2 0), (.int 0 0), (.int 3 0), (.ref 564), (.bool true), (.int 273 0), (.ref 565), .none, (.ref 566), (.ref 567), (.ref 568), (.int 918 0), (.int 382 0), (.str "/claim/cut.py" 919)]), #[]⟩),
(570, fo [10, 30] "StringIO.write" 3 [] .none .none .none (.str "io" 286) none (.ref 569) .none 0),
(576, ⟨(.type "code"), none, (.fields #[(.str "writelines" 921), (.str "StringIO.writelines" 922), (.str "/claim/cut.py" 923), (.int 401 0), (.int 2 0), (.int 2 0), (.int 0 0), (.int 3 0), (.ref 571), (.bool true), (.int 273 0), (.ref 572), .none, (.ref 573), (.ref 574), (.ref 575), (.int 926 0), (.int 401 0), (.str "/claim/cut.py" 927)]), #[]⟩),
(577, fo [10, 31] "StringIO.writelines" 3 [] .none .none .none (.str "io" 286) none (.ref 576) .none 0),
(583, ⟨(.type "code"), none, (.fields #[(.str "__repr__" 929), (.str "StringIO.__repr__" 930), (.str "/claim/cut.py" 931), (.int 404 0), (.int 1 0), (.int 0 0), (.int 0 0), (.int 3 0), (.ref 578), (.bool true), (.int 273 0), (.ref 579), .none, (.ref 580), (.ref 581), (.ref 582), (.int 933 0), (.int 404 0), (.str "/claim/cut.py" 934)]), #[]⟩),
(584, fo [10, 32] "StringIO.__repr__" 3 [] .none .none .none (.str "io" 286) none (.ref 583) .none 0),
(586, ⟨(.type "dict"), none, (.dict #[de P "__module__" 663 (.str "_io" 668), de P "__firstlineno__" 667 (.int 201 666), de P "__init__" 680 (.ref 357), de P "_StringIO__translated" 689 (.ref 364), de P "_StringIO__check" 696 (.ref 371), de P "_StringIO__check_dot" 703 (.ref 378), de P "_StringIO__line" 718 (.ref 385), de P "closed" 726 (.ref 393), de P "line_buffering" 734 (.ref 401), de P "newlines" 742 (.ref 409), de P "encoding" 750 (.ref 417), de P "errors" 758 (.ref 425), de P "close" 765 (.ref 432), de P "__enter__" 772 (.ref 439), de P "__exit__" 780 (.ref 446), de P "readable" 787 (.ref 453), de P "writable" 794 (.ref 460), de P "seekable" 801 (.ref 467), de P "isatty" 808 (.ref 474), de P "flush" 815 (.ref 481), de P "fileno" 822 (.ref 488), de P "detach" 829 (.ref 495), de P "getvalue" 836 (.ref 502), de P "tell" 843 (.ref 509), de P "seek" 853 (.ref 517), de P "truncate" 861 (.ref 525), de P "read" 873 (.ref 533), de P "readline" 883 (.ref 541), de P "readlines" 893 (.ref 549), de P "__iter__" 900 (.ref 556), de P "__next__" 908 (.ref 563), de P "write" 920 (.ref 570), de P "writelines" 928 (.ref 577), de P "__repr__" 935 (.ref 584), de P "__static_attributes__" 939 (.ref 585), de P "__doc__" 940 .none] 2), #[]⟩),
(587, ⟨(.type "type"), none, (.cls ⟨"StringIO", [(.ref 110)], [(.ref 587), (.ref 110), (.ref 83), (.type "object")], 586, "StringIO", true, [], [], false, none, false⟩), #[(some (.ref 343)), none, (some (.str "StringIO" 656)), (some (.str "StringIO" 664)), (some .none), (some (.bool true))]⟩),
(595, ⟨(.type "code"), none, (.fields #[(.str "_kind" 945), (.str "_kind" 946), (.str "/claim/cut.py" 947), (.int 407 0), (.int 2 0), (.int 0 0), (.int 0 0), (.int 3 0), (.ref 590), (.bool true), (.int 273 0), (.ref 591), .none, (.ref 592), (.ref 593), (.ref 594), (.int 951 0), (.int 407 0), (.str "/claim/cut.py" 952)]), #[]⟩),
(596, fo [12] "_kind" 3 [] .none .none .none (.str "os.path" 943) none (.ref 595) .none 0),
(602, ⟨(.type "code"), none, (.fields #[(.str "_fspath" 954), (.str "_fspath" 955), (.str "/claim/cut.py" 956), (.int 428 0), (.int 2 0), (.int 0 0), (.int 0 0), (.int 3 0), (.ref 597), (.bool true), (.int 273 0), (.ref 598), .none, (.ref 599), (.ref 600), (.ref 601), (.int 960 0), (.int 428 0), (.str "/claim/cut.py" 961)]), #[]⟩),
(603, fo [13] "_fspath" 3 [] .none .none .none (.str "os.path" 943) none (.ref 602) .none 0),
(609, ⟨(.type "code"), none, (.fields #[(.str "_check_arg_types" 963), (.str "_check_arg_types" 964), (.str "/claim/cut.py" 965), (.int 433 0), (.int 1 0), (.int 0 0), (.int 0 0), (.int 7 0), (.ref 604), (.bool true), (.int 273 0), (.ref 605), .none, (.ref 606), (.ref 607), (.ref 608), (.int 970 0), (.int 433 0), (.str "/claim/cut.py" 971)]), #[]⟩),
(610, fo [14] "_check_arg_types" 3 [] .none .none .none (.str "os.path" 943) none (.ref 609) .none 0),
(616, ⟨(.type "code"), none, (.fields #[(.str "isabs" 973), (.str "isabs" 974), (.str "/claim/cut.py" 975), (.int 438 0), (.int 1 0), (.int 0 0), (.int 0 0), (.int 3 0), (.ref 611), (.bool true), (.int 273 0), (.ref 612), .none, (.ref 613), (.ref 614), (.ref 615), (.int 977 0), (.int 438 0), (.str "/claim/cut.py" 978)]), #[]⟩),
(617, fo [15] "isabs" 3 [] .none .none .none (.str "os.path" 943) none (.ref 616) .none 0),
(623, ⟨(.type "code"), none, (.fields #[(.str "join" 980), (.str "join" 981), (.str "/claim/cut.py" 982), (.int 441 0), (.int 1 0), (.int 0 0), (.int 0 0), (.int 7 0), (.ref 618), (.bool true), (.int 273 0), (.ref 619), .none, (.ref 620), (.ref 621), (.ref 622), (.int 988 0), (.int 441 0), (.str "/claim/cut.py" 989)]), #[]⟩),
(624, fo [16] "join" 3 [] .none .none .none (.str "os.path" 943) none (.ref 623) .none 0),
(630, ⟨(.type "code"), none, (.fields #[(.str "dirname" 991), (.str "dirname" 992), (.str "/claim/cut.py" 993), (.int 461 0), (.int 1 0), (.int 0 0), (.int 0 0), (.int 3 0), (.ref 625), (.bool true), (.int 273 0), (.ref 626), .none, (.ref 627), (.ref 628), (.ref 629), (.int 998 0), (.int 461 0), (.str "/claim/cut.py" 999)]), #[]⟩),
(631, fo [17] "dirname" 3 [] .none .none .none (.str "os.path" 943) none (.ref 630) .none 0),
(639, ⟨(.type "tuple"), none, (.seq #[.none, .none, (.bool false), (.bool false)] 0), #[]⟩),
(645, ⟨(.type "code"), none, (.fields #[(.str "__init__" 1015), (.str "shlex.__init__" 1016), (.str "/claim/cut.py" 1017), (.int 472 0), (.int 5 0), (.int 0 0), (.int 0 0), (.int 3 0), (.ref 640), (.bool true), (.int 273 0), (.ref 641), .none, (.ref 642), (.ref 643), (.ref 644), (.int 1024 0), (.int 472 0), (.str "/claim/cut.py" 1025)]), #[]⟩),
(646, fo [19, 0] "shlex.__init__" 3 [] (.ref 639) .none .none (.str "cpy313.shlex" 1001) none (.ref 645) .none 0),
(652, ⟨(.type "code"), none, (.fields #[(.str "punctuation_chars" 1027), (.str "shlex.punctuation_chars" 1028), (.str "/claim/cut.py" 1029), (.int 513 0), (.int 1 0), (.int 0 0), (.int 0 0), (.int 3 0), (.ref 647), (.bool true), (.int 273 0), (.ref 648), .none, (.ref 649), (.ref 650), (.ref 651), (.int 1031 0), (.int 513 0), (.str "/claim/cut.py" 1032)]), #[]⟩),
(653, fo [19, 1] "shlex.punctuation_chars" 3 [] .none .none .none (.str "cpy313.shlex" 1001) none (.ref 652) .none 0),
(654, ⟨(.type "property"), none, (.fields #[(.ref 653), .none, .none, .none, (.str "punctuation_chars" 1034), (.bool false)]), #[]⟩),
(660, ⟨(.type "code"), none, (.fields #[(.str "push_token" 1035), (.str "shlex.push_token" 1036), (.str "/claim/cut.py" 1037), (.int 517 0), (.int 2 0), (.int 0 0), (.int 0 0), (.int 3 0), (.ref 655), (.bool true), (.int 273 0), (.ref 656), .none, (.ref 657), (.ref 658), (.ref 659), (.int 1040 0), (.int 517 0), (.str "/claim/cut.py" 1041)]), #[]⟩),
(661, fo [19, 2] "shlex.push_token" 3 [] .none .none .none (.str "cpy313.shlex" 1001) none (.ref 660) .none 0),
(662, ⟨(.type "tuple"), none, (.seq #[.none] 0), #[]⟩),
(668, ⟨(.type "code"), none, (.fields #[(.str "push_source" 1043), (.str "shlex.push_source" 1044), (.str "/claim/cut.py" 1045), (.int 520 0), (.int 3 0), (.int 0 0), (.int 0 0), (.int 3 0), (.ref 663), (.bool true), (.int 273 0), (.ref 664), .none, (.ref 665), (.ref 666), (.ref 667), (.int 1049 0), (.int 520 0), (.str "/claim/cut.py" 1050)]), #[]⟩),
(669, fo [19, 3] "shlex.push_source" 3 [] (.ref 662) .none .none (.str "cpy313.shlex" 1001) none (.ref 668) .none 0),
(675, ⟨(.type "code"), none, (.fields #[(.str "pop_source" 1052), (.str "shlex.pop_source" 1053), (.str "/claim/cut.py" 1054), (.int 533 0), (.int 1 0), (.int 0 0), (.int 0 0), (.int 3 0), (.ref 670), (.bool true), (.int 273 0), (.ref 671), .none, (.ref 672), (.ref 673), (.ref 674), (.int 1056 0), (.int 533 0), (.str "/claim/cut.py" 1057)]), #[]⟩),
(676, fo [19, 4] "shlex.pop_source" 3 [] .none .none .none (.str "cpy313.shlex" 1001) none (.ref 675) .none 0),
(682, ⟨(.type "code"), none, (.fields #[(.str "get_token" 1059), (.str "shlex.get_token" 1060), (.str "/claim/cut.py" 1061), (.int 540 0), (.int 1 0), (.int 0 0), (.int 0 0), (.int 3 0), (.ref 677), (.bool true), (.int 273 0), (.ref 678), .none, (.ref 679), (.ref 680), (.ref 681), (.int 1068 0), (.int 540 0), (.str "/claim/cut.py" 1069)]), #[]⟩),
(683, fo [19, 5] "shlex.get_token" 3 [] .none .none .none (.str "cpy313.shlex" 1001) none (.ref 682) .none 0),
(689, ⟨(.type "code"), none, (.fields #[(.str "read_token" 1071), (.str "shlex.read_token" 1072), (.str "/claim/cut.py" 1073), (.int 567 0), (.int 1 0), (.int 0 0), (.int 0 0), (.int 3 0), (.ref 684), (.bool true), (.int 273 0), (.ref 685), .none, (.ref 686), (.ref 687), (.ref 688), (.int 1079 0), (.int 567 0), (.str "/claim/cut.py" 1080)]), #[]⟩),
(690, fo [19, 6] "shlex.read_token" 3 [] .none .none .none (.str "cpy313.shlex" 1001) none (.ref 689) .none 0),
(696, ⟨(.type "code"), none, (.fields #[(.str "sourcehook" 1082), (.str "shlex.sourcehook" 1083), (.str "/claim/cut.py" 1084), (.int 704 0), (.int 2 0), (.int 0 0), (.int 0 0), (.int 3 0), (.ref 691), (.bool true), (.int 273 0), (.ref 692), .none, (.ref 693), (.ref 694), (.ref 695), (.int 1087 0), (.int 704 0), (.str "/claim/cut.py" 1088)]), #[]⟩),
(697, fo [19, 7] "shlex.sourcehook" 3 [] .none .none .none (.str "cpy313.shlex" 1001) none (.ref 696) .none 0),
(698, ⟨(.type "tuple"), none, (.seq #[.none, .none] 0), #[]⟩),
(704, ⟨(.type "code"), none, (.fields #[(.str "error_leader" 1090), (.str "shlex.error_leader" 1091), (.str "/claim/cut.py" 1092), (.int 711 0), (.int 3 0), (.int 0 0), (.int 0 0), (.int 3 0), (.ref 699), (.bool true), (.int 273 0), (.ref 700), .none, (.ref 701), (.ref 702), (.ref 703), (.int 1096 0), (.int 711 0), (.str "/claim/cut.py" 1097)]), #[]⟩),
(705, fo [19, 8] "shlex.error_leader" 3 [] (.ref 698) .none .none (.str "cpy313.shlex" 1001) none (.ref 704) .none 0),
(711, ⟨(.type "code"), none, (.fields #[(.str "__iter__" 1099), (.str "shlex.__iter__" 1100), (.str "/claim/cut.py" 1101), (.int 714 0), (.int 1 0), (.int 0 0), (.int 0 0), (.int 3 0), (.ref 706), (.bool true), (.int 273 0), (.ref 707), .none, (.ref 708), (.ref 709), (.ref 710), (.int 1103 0), (.int 714 0), (.str "/claim/cut.py" 1104)]), #[]⟩),
(712, fo [19, 9] "shlex.__iter__" 3 [] .none .none .none (.str "cpy313.shlex" 1001) none (.ref 711) .none 0),
(718, ⟨(.type "code"), none, (.fields #[(.str "__next__" 1106), (.str "shlex.__next__" 1107), (.str "/claim/cut.py" 1108), (.int 717 0), (.int 1 0), (.int 0 0), (.int 0 0), (.int 3 0), (.ref 713), (.bool true), (.int 273 0), (.ref 714), .none, (.ref 715), (.ref 716), (.ref 717), (.int 1111 0), (.int 717 0), (.str "/claim/cut.py" 1112)]), #[]⟩),
(719, fo [19, 10] "shlex.__next__" 3 [] .none .none .none (.str "cpy313.shlex" 1001) none (.ref 718) .none 0),
(721, ⟨(.type "dict"), none, (.dict #[de P "__module__" 1010 (.str "cpy313.shlex" 1001), de P "__firstlineno__" 1014 (.int 470 1013), de P "__init__" 1026 (.ref 646), de P "punctuation_chars" 1034 (.ref 654), de P "push_token" 1042 (.ref 661), de P "push_source" 1051 (.ref 669), de P "pop_source" 1058 (.ref 676), de P "get_token" 1070 (.ref 683), de P "read_token" 1081 (.ref 690), de P "sourcehook" 1089 (.ref 697), de P "error_leader" 1098 (.ref 705), de P "__iter__" 1105 (.ref 712), de P "__next__" 1113 (.ref 719), de P "__static_attributes__" 1134 (.ref 720), de P "__dict__" 1136 (.ref 723), de P "__weakref__" 1138 (.ref 724), de P "__doc__" 1139 .none] 4), #[]⟩),
(722, ⟨(.type "type"), none, (.cls ⟨"shlex", [(.type "object")], [(.ref 722), (.type "object")], 721, "shlex", true, [], [], false, none, false⟩), #[none, none, (some (.str "shlex" 1003)), (some (.str "shlex" 1011)), (some (.builtin "object.__new__")), (some (.bool true))]⟩),
(723, ⟨(.type "getset_descriptor"), none, (.fields #[(.str "__dict__" 1135), (.ref 722), (.builtin "function.__dict__"), (.builtin "function.__dict__#set")]), #[]⟩),
(724, ⟨(.type "getset_descriptor"), none, (.fields #[(.str "__weakref__" 1137), (.ref 722), (.builtin "ExceptionGroup.__weakref__"), .none]), #[]⟩),
(732, ⟨(.type "code"), none, (.fields #[(.str "_law_sign" 1144), (.str "_law_sign" 1145), (.str "/claim/cut.py" 1146), (.int 723 0), (.int 1 0), (.int 0 0), (.int 0 0), (.int 3 0), (.ref 727), (.bool true), (.int 273 0), (.ref 728), .none, (.ref 729), (.ref 730), (.ref 731), (.int 1150 0), (.int 723 0), (.str "/claim/cut.py" 1151)]), #[]⟩),
(733, fo [21] "_law_sign" 3 [] .none .none .none (.str "law_io0015_03" 1142) none (.ref 732) .none 0),
(739, ⟨(.type "code"), none, (.fields #[(.str "_law_kind" 1153), (.str "_law_kind" 1154), (.str "/claim/cut.py" 1155), (.int 729 0), (.int 3 0), (.int 0 0), (.int 0 0), (.int 3 0), (.ref 734), (.bool true), (.int 273 0), (.ref 735), .none, (.ref 736), (.ref 737), (.ref 738), (.int 1160 0), (.int 729 0), (.str "/claim/cut.py" 1161)]), #[]⟩),
(740, fo [22] "_law_kind" 3 [] .none .none .none (.str "law_io0015_03" 1142) none (.ref 739) .none 0),
(746, ⟨(.type "code"), none, (.fields #[(.str "_law_double" 1163), (.str "_law_double" 1164), (.str "/claim/cut.py" 1165), (.int 740 0), (.int 2 0), (.int 0 0), (.int 0 0), (.int 3 0), (.ref 741), (.bool true), (.int 273 0), (.ref 742), .none, (.ref 743), (.ref 744), (.ref 745), (.int 1170 0), (.int 740 0), (.str "/claim/cut.py" 1171)]), #[]⟩),
(747, fo [23] "_law_double" 3 [] .none .none .none (.str "law_io0015_03" 1142) none (.ref 746) .none 0),
(753, ⟨(.type "code"), none, (.fields #[(.str "_law_line" 1173), (.str "_law_line" 1174), (.str "/claim/cut.py" 1175), (.int 749 0), (.int 3 0), (.int 0 0), (.int 0 0), (.int 3 0), (.ref 748), (.bool true), (.int 273 0), (.ref 749), .none, (.ref 750), (.ref 751), (.ref 752), (.int 1190 0), (.int 749 0), (.str "/claim/cut.py" 1191)]), #[]⟩),
(754, fo [24] "_law_line" 3 [] .none .none .none (.str "law_io0015_03" 1142) none (.ref 753) .none 0),
(758, ⟨(.type "code"), none, (.fields #[(.str "law" 1193), (.str "law" 1194), (.str "/claim/cut.py" 1195), (.int 785 0), (.int 1 0), (.int 0 0), (.int 0 0), (.int 3 0), (.ref 755), (.bool true), (.int 273 0), (.ref 756), .none, .none, .none, (.ref 757), (.int 1196 0), (.int 785 0), (.str "/claim/cut.py" 1197)]), #[]⟩),
(759, fo [25] "law" 3 [] .none .none .none (.str "law_io0015_03" 1142) none (.ref 758) .none 0)]
noncomputable def myAs : List Addr := [2, 3, 38, 39, 45, 46, 52, 53, 62, 63, 64, 79, 80, 82, 83, 84, 85, 86, 97, 98, 109, 110, 149, 339, 340, 350, 356, 357, 363, 364, 370, 371, 377, 378, 384, 385, 391, 392, 393, 399, 400, 401, 407, 408, 409, 415, 416, 417, 423, 424, 425, 431, 432, 438, 439, 445, 446, 452, 453, 459, 460, 466, 467, 473, 474, 480, 481, 487, 488, 494, 495, 501, 502, 508, 509, 510, 516, 517, 518, 524, 525, 526, 532, 533, 534, 540, 541, 542, 548, 549, 555, 556, 562, 563, 569, 570, 576, 577, 583, 584, 586, 587, 595, 596, 602, 603, 609, 610, 616, 617, 623, 624, 630, 631, 639, 645, 646, 652, 653, 654, 660, 661, 662, 668, 669, 675, 676, 682, 683, 689, 690, 696, 697, 698, 704, 705, 711, 712, 718, 719, 721, 722, 723, 724, 732, 733, 739, 740, 746, 747, 753, 754, 758, 759]
theorem myAs_eq (P : Params) : myAs = (myK P).map (·.1) := rfl
noncomputable def myView : Program := { PySem.Challenge.pw_io0015_03 with main := { PySem.Challenge.pw_io0015_03.main with body := [0, 1, 3, 4, 5, 6, 7, 8, 9, 10, 12, 13, 14, 15, 16, 17, 19, 21, 22, 23, 24, 25].map (stAt pwTop) } }
noncomputable def myLoose : List Str := ["UnsupportedOperation", "IOBase", "BufferedIOBase", "TextIOBase", "BytesIO", "StringIO", "shlex"]
end Mini
namespace Mini
open PySem PySem.W PyProof.Rows
noncomputable def pg (w : World) (mg mb : Str → Option Value) : Pg := ⟨PySem.Challenge.rw_io0015_03.row.prog, w, myK w.params, myView, looseW myView myLoose, mg, mb⟩
end Mini
namespace Mini
open PySem PySem.W PySem.Calls PyProof.Rows
section
variable {prog : Program} {w : World} {A₀ A : Around} {s : Shared} {base h₀ : Heap} {outer : List Env} {L : Addr} {m : Str → Option Value} {env : Env} {news : List (Addr × Obj)} {K : Frag}
  {R : Result → Shared → Prop} {name qual : Str} {params : Arguments} {body : List Stmt} {scope : Scope} {dV kV doc pm cdv ct : Value} {an : Option Addr} {fo : Obj} {f : Addr} {args : Args}
theorem callB {o1 o2 : Obj} {g₁ : Addr → Sem (List (Str × Value))} {g₂ : Addr → Addr → Sem (List (Str × Value))} {binds : Addr → Addr → List (Str × Value)}
    (B : Below A₀ base outer h₀) (F : Fr h₀ L s.heap m) (N : News h₀ L s.heap news) (X : K.In h₀) (hlim : h₀.NoLimit) (hA : A.frames = some (env :: outer)) (hf : env.frame = some L) (hke : env.scope.kind = .function)
    (ho : s.heap.get? f = some fo) (hd : fo.data = .func (fnX name qual params body scope [] dV kV doc pm an cdv ct)) (hcd : s.heap.CodeRec cdv qual) (hroom : A.depth < recursionLimit)
    (hp : peekA K ⟨prog, w.params⟩ (bindArgs (fnX name qual params body scope [] dV kV doc pm an cdv ct) args) = some (o1, g₁)) (hp₂ : ∀ a, peekA K ⟨prog, w.params⟩ (g₁ a) = some (o2, g₂ a)) (hk₂ : ∀ a b, g₂ a b = pure (binds a b))
    (hf1 : o1.isFreed = false) (hf2 : o2.isFreed = false) (hloc : ∀ a b, ∀ y ∈ binds a b, scope.names.lookup y.1 = some .local)
    (h : ∀ a b g L' h₁, (∀ p ∈ news, p.1 < a) → a < b → Fr h₀ L g m → Fr g L' h₁ (fun y => (binds a b).reverse.lookup y) → News g L' h₁ ((b, o2) :: (a, o1) :: news) → Below A base (env :: outer) g → h₀.StaysIn g →
      wpAny (model prog w) (A.deeper (envX qual scope L' f cdv [])) (execs body (envX qual scope L' f cdv []))
        (fun fl s' => LeaveK h₀ L m g R (match fl with | .ret v => v | _ => .none) s')
        (fun e s' => wpAny (model prog w) (A.deeper (envX qual scope L' f cdv [])) (leaving (envX qual scope L' f cdv []) e) (fun _ s'' => R (.error e) s'') (fun e' s'' => R (.error e') s'') s')
        { s with heap := h₁, toks := s.toks + (binds a b).length })
    (hcell : ∀ x ∈ scope.names, x.2 ≠ .cell) (hco : scope.isCoroutine = false) (hgen : scope.isGenerator = false) (hk : scope.kind = .function) : codeAny (model prog w) A (.call (.ref f) args) R s := by
  refine codeAny_call_function (fd := fnX name qual params body scope [] dV kV doc pm an cdv ct) (body := body) hroom ho hd hco hgen rfl hcd ?_
  refine wp_of_peekA F N (X.keeps F.keep) hf1 _ g₁ hp fun h' F' N' l => ?_
  refine wp_of_peekA (s := { s with heap := h' }) F' N' (X.keeps F'.keep) hf2 _ (g₂ s.heap.objs.size) (hp₂ _) fun h'' F'' N'' l' => ?_
  rw [hk₂]
  refine wpAny_pure ?_
  exact kp_frame (cl := []) (s := { s with heap := h'' }) B F'' N'' hlim hA hf hke (hloc _ _)
    (fun g L' h₁ FG FL NG BG st => h _ _ g L' h₁ l (l' _ (.head _)) FG FL NG BG st) hcell hk
end
structure NewIn (P : Pg) (C f : Addr) (p : Addr) : Prop where
  cls : ∃ oc od cd sl, P.K.lookup C = some ⟨oc, od, .cls cd, sl⟩ ∧ cd.mro.isEmpty = false
  call : specialIn P.K (.ref C) "__call__" = some (some (.builtin "type.__call__"))
  typ : instIn P.K (.ref C) (.type "type") = some true
  made : peek P.K ⟨P.prog, P.w.params⟩ (Bind.madeBy (.ref C)) = some none
  reads : readsIn P.K C (.type "type") = true
  find : findCls P.K (.ref C) (.type "type") "__new__" = some (.get (.builtin "staticmethod.__get__") (.ref p) .none (.ref C))
  sm : ∃ rest, recIn P.K p "staticmethod" = some (.ref f :: rest)
  self : subIn P.K (.ref C) (.ref C) = some true
theorem make_own {P : Pg} {A : Around} {C f p fI : Addr} {rest : List Value} {s : Shared} {R : Result → Shared → Prop} (X : P.K.In s.heap) (Y : NewIn P C f p) (hi : findIn P.K (.ref C) "__init__" = some (some (.ref fI))) (hf : typeIn P.K (.ref fI) = some (.type "function"))
    (h : ∀ tk, codeAny (model P.prog P.w) (A.under (.builtin "type.__call__" ⟨.ref C :: rest, []⟩)) (.call (.ref f) ⟨.ref C :: rest, []⟩) (fun r s' => match r with
      | .ok (.ret v) => ∃ x ox, v = .ref x ∧ P.K.In s'.heap ∧ s'.heap.get? x = some ox ∧ ox.cls = .ref C ∧
          codeAny (model P.prog P.w) (A.under (.builtin "type.__call__" ⟨.ref C :: rest, []⟩)) (.call (.ref fI) ⟨.ref x :: rest, []⟩) (InitBack x R) s'
      | _ => False) { s with toks := tk }) :
    codeAny (model P.prog P.w) A (.call (.ref C) ⟨rest, []⟩) R s := by
  obtain ⟨hh, g, d, tk, os⟩ := s
  obtain ⟨oc, od, cd, sl, hC, hmro⟩ := Y.cls
  have hC' := X _ _ hC
  have call := looks_specialIn (M := model P.prog P.w) X Y.call
  have typ := looks_instIn (M := model P.prog P.w) X Y.typ
  have made := Looks.of_peek (M := model P.prog P.w) X Y.made
  refine codeAny_of_tree ?_
  show wpAny _ _ (callAny (.ref C) _) _ _ _
  refine nd_load hC' ?_
  show wpAny _ _ (callAny.viaDunder (.ref C) _) _ _ _
  unfold callAny.viaDunder
  refine wpAny_bind (call.at ?_)
  dsimp only
  rw [tc_bind]
  refine wpAny_bind (wpAny_pure (wpAny_bind (wpAny_pure ?_)))
  refine wpAny_pure (a := Fin.again (.call (.builtin "type.__call__") ⟨.ref C :: rest, []⟩)) (And.intro rfl ?_)
  refine codeAny_call_builtin_at (Code.quiet_builtin _ (by decide +kernel)) entry_typeCall (check_slot tc_kind tc_split typ (tc_args _ _ _) ?_)
  unfold Builtin.«type.__call__»
  have hm : Looks (model P.prog P.w) hh (mroOf (.ref C)) cd.mro := ((Looks.ld (part := none) hC').andThen .now).andThen .now
  dsimp only
  generalize hG : getAttr (Value.ref C) (Str.ofString "__new__") = G
  generalize hCall : @PySem.call = CC
  generalize hInst : @PySem.isInstance = II
  generalize hSp : @PySem.callSpecial? = SS
  repeat (first | simp only [hmro, Bool.false_eq_true, if_false] | lk)
  subst hG hCall hInst hSp
  obtain ⟨sr, hsm⟩ := Y.sm
  refine cls_bind X Y.reads Y.find ?_
  refine wpAny_call ?_
  refine sm_get (C := C) X hsm ?_
  show wpAny _ _ (handedOut (.ref f)) _ _ _
  rw [handedOut_of rfl]
  refine wpAny_pure ?_
  refine wpAny_bind (wpAny_holding (wpAny_call ?_))
  refine codeAny_mono (h _) fun r s' z => ?_
  rcases r with e | (v | _ | _ | _) <;> first | exact z.elim | skip
  obtain ⟨x, ox, rfl, X', hx, hcls, hc⟩ := z
  show wpAny _ _ _ _ _ _
  have self := looks_subIn (M := model P.prog P.w) X' Y.self
  have t1 : Looks (model P.prog P.w) s'.heap (typeOf (.ref x)) (.ref C) := hcls ▸ (Looks.ld hx).andThen .now
  have i1 := looks_findIn (M := model P.prog P.w) X' hi
  have b1 := bind_fn (M := model P.prog P.w) X' (.ref x) hf
  have inst : Looks (model P.prog P.w) s'.heap (isInstance (.ref x) (.ref C)) true := t1.andThen self
  refine wpAny_bind (inst.here ?_)
  simp only [Bool.not_true, Bool.false_eq_true, if_false]
  obtain ⟨hh', g', d', tk', os'⟩ := s'
  refine wpAny_bind (wpAny_holding ?_)
  unfold callSpecial? specialOf
  repeat (first | with_reducible refine wpAny_call ?_ | lk)
  refine codeAny_mono hc fun r s' z => ?_
  rcases r with e | (v | _ | _ | _) <;> first | exact z | exact z.elim | skip
  obtain ⟨rfl, z⟩ := z
  exact wpAny_pure (wpAny_pure z)
end Mini
namespace Mini
open PySem PySem.W PySem.Calls PyProof.Rows
noncomputable def pA {α : Type} (o : Option (Obj × (Addr → Sem α))) (a : Addr) : Sem α := match o with
  | some (_, g) => g a
  | none => unsupported ""
theorem pA_eq {α : Type} {o : Option (Obj × (Addr → Sem α))} {x : Obj} (h : o.map (·.1) = some x) : o = some (x, pA o) := by
  cases o with
  | none => cases h
  | some p => obtain ⟨y, g⟩ := p; cases h; rfl
theorem CallC.own {P : Pg} {k n : Nat} {hand : Bool} {C f p fI : Addr} {v : V} {hp hp' : List LO} {σ' : St} {name qual n0 n1 n2 : Str} {params : Arguments} {body : List Stmt} {scope : Scope} {dV kV doc pm cdv ct oc : Value} {od : Option Addr} {osl : Array (Option Value)} {an : Option Addr}
    (Y : NewIn P C f p) (hi : findIn P.K (.ref C) "__init__" = some (some (.ref fI))) (hfi : typeIn P.K (.ref fI) = some (.type "function"))
    (hf : P.K.lookup f = some ⟨oc, od, .func (fnX name qual params body scope [] dV kV doc pm an cdv ct), osl⟩) (hcode : codeIn P.K cdv qual = true)
    (h1 : ∀ x, (peekA P.K ⟨P.prog, P.w.params⟩ (bindArgs (fnX name qual params body scope [] dV kV doc pm an cdv ct) ⟨[.ref C, x], []⟩)).map (·.1) = some { cls := .type "tuple", data := .seq #[x] })
    (h2 : ∀ x a, (peekA P.K ⟨P.prog, P.w.params⟩ (pA (peekA P.K ⟨P.prog, P.w.params⟩ (bindArgs (fnX name qual params body scope [] dV kV doc pm an cdv ct) ⟨[.ref C, x], []⟩)) a)).map (·.1) = some (dictOf [] 0))
    (h3 : ∀ x a b, pA (peekA P.K ⟨P.prog, P.w.params⟩ (pA (peekA P.K ⟨P.prog, P.w.params⟩ (bindArgs (fnX name qual params body scope [] dV kV doc pm an cdv ct) ⟨[.ref C, x], []⟩)) a)) b = pure [(n0, .ref C), (n1, .ref a), (n2, .ref b)])
    (hl0 : scope.names.lookup n0 = some .local) (hl1 : scope.names.lookup n1 = some .local) (hl2 : scope.names.lookup n2 = some .local) (hne1 : (n0 == n1) = false) (hne2 : (n0 == n2) = false)
    (hcell : scope.names.all (fun x => x.2 != .cell) = true) (hco : scope.isCoroutine = false) (hgen : scope.isGenerator = false) (hk : scope.kind = .function)
    (hbody : ExC P n ⟨qual, scope, f, cdv, hand, false⟩ body ⟨[(n0, .stat (.ref C))], hp⟩ (.ok (.ret (.obj hp.length)) σ' O0 [])) (hσ : σ'.hp = hp ++ [.inst C []])
    (hinit : CallC P n hand fI [.obj hp.length, v] [] (hp ++ [.inst C []]) (.inl .none) hp') (hn : n + 2 ≤ k) : CallC P k hand C [v] [] hp (.inl (.obj hp.length)) hp' := by
  refine ⟨fun fm X D loc xs ks hhand c hxs hks => ?_⟩
  have hcellf : ∀ x ∈ scope.names, x.2 ≠ .cell := fun x hx e => by
    have := List.all_eq_true.mp hcell x hx
    rw [e] at this; exact absurd this (by decide)
  cases hks
  cases hxs with
  | @cons _ x _ xs' hx hxs =>
  cases hxs
  intro _ s r K hK
  have X₀ := r.kin c
  have c2 : Cx P fm (n + 2) X := c.le hn
  have cu := c2.under C [x] []
  refine make_own X₀ Y hi hfi fun tk => ?_
  refine callB (A₀ := X.A₀) c.B r.F r.N c.kin c.top.nolimit (outer := X.outer) (env := envAt fm X) c.hA rfl c.hk (X₀ _ _ hf) rfl (codeRec_of X₀ hcode) (by have := cu.dep; exact Nat.lt_of_le_of_lt (Nat.le_add_right _ _) this) (pA_eq (h1 x)) (fun a => pA_eq (h2 x a)) (h3 x) rfl rfl (fun a b y hy => ?_)
    (fun a b g L' h₁ fr lt FG F' N' B' st => ?_) hcellf hco hgen hk
  · rcases List.mem_cons.mp hy with rfl | hy
    · exact hl0
    · rcases List.mem_cons.mp hy with rfl | hy
      · exact hl1
      · rw [List.mem_singleton.mp hy]; exact hl2
  let B := X.A.under (.builtin "type.__call__" ⟨[.ref C, x], []⟩)
  let X' : Fx := ⟨B, B.deeper (envX qual scope L' f cdv []), X.base, g, envAt fm X :: X.outer, L', []⟩
  let o1 : Obj := { cls := .type "tuple", data := .seq #[x] }
  let D' : Dy := ⟨fun y => ([(n0, Value.ref C), (n1, .ref a), (n2, .ref b)] : List (Str × Value)).reverse.lookup y, (b, dictOf [] 0) :: (a, o1) :: D.news, D.ad⟩
  have c' : Cx P ⟨qual, scope, f, cdv, hand, false⟩ n X' := ⟨hk, Around.frames_deeper cu.hA, B', by have := cu.dep; show B.depth + 1 + n < 1000; have : B.depth + (n + 1) < 1000 := this; omega, by have := cu.uni; show B.units + 3 + 20 * n < 9800; have : B.units + 20 * (n + 1) < 9800 := this; omega, (fun q => cu.hh (by rw [hhand]; exact q)), c.kin.keeps st, c.top.keeps st⟩
  have gr0 : Gr X D ⟨D.m, (b, dictOf [] 0) :: (a, o1) :: D.news, D.ad⟩ := ⟨fun _ _ e => e, fun _ _ hm _ => .tail _ (.tail _ hm)⟩
  have r' : Rp P ⟨qual, scope, f, cdv, hand, false⟩ X' D' ⟨[(n0, .stat (.ref C))], hp⟩ h₁ := by
    refine ⟨F', N', ?_, r.len, r.dis, fun y w e => ?_, fun y e => ?_, fun _ _ _ e => (nomatch e), fun i o e => ?_⟩
    · show (List.map (fun q : Addr × Obj => q.1) ((b, dictOf [] 0) :: (a, o1) :: D.news)).Nodup
      rw [List.map_cons, List.map_cons, List.nodup_cons, List.nodup_cons]
      refine ⟨fun hm => ?_, fun hm => ?_, r.nd⟩
      · rcases List.mem_cons.mp hm with e | hm
        · exact absurd lt (by rw [show b = a from e]; exact Nat.lt_irrefl _)
        · obtain ⟨q, hq, e⟩ := List.mem_map.mp hm
          exact absurd (Nat.lt_trans (fr q hq) lt) (by rw [show q.1 = b from e]; exact Nat.lt_irrefl _)
      · obtain ⟨q, hq, e⟩ := List.mem_map.mp hm
        exact absurd (fr q hq) (by rw [show q.1 = a from e]; exact Nat.lt_irrefl _)
    · rw [List.lookup_cons] at e
      cases hy : y == n0 with
      | false => rw [hy] at e; cases e
      | true =>
        rw [hy] at e; cases e
        have hy := beq_iff_eq.mp hy
        subst hy
        refine .inl ⟨hl0, .ref C, ?_, .stat⟩
        show List.lookup y [(n2, Value.ref b), (n1, .ref a), (y, .ref C)] = _
        rw [List.lookup_cons, List.lookup_cons, List.lookup_cons, hne2, hne1, beq_self_eq_true]
    · exact absurd rfl (hcellf _ (lookup_mem e))
    · obtain ⟨q, hq, hor⟩ := r.hp i o e
      exact ⟨q, hq, OR.mono gr0 (fun _ _ hm _ => .tail _ (.tail _ hm)) hor⟩
  refine wpAny_mono (hbody.out X' D' c' (fun _ q => nomatch q) { s with heap := h₁, toks := tk + 3 } r' _ _ fun D'' s' fl r'' g'' q k => ?_) (fun _ _ y => y) fun _ _ y => y
  obtain ⟨y, rfl, hy⟩ := q
  have gr : Gr X D ⟨D.m, D''.news, D''.ad⟩ := ⟨g''.ad, fun a o hm hc => g''.nw a o (.tail _ (.tail _ hm)) (hc.imp id fun h => ⟨h.1, fun _ e => (nomatch e)⟩)⟩
  have all : ∀ a o, (a, o) ∈ D.news → (∃ v, o.data = .cell v) → (a, o) ∈ D''.news := fun a o hm hc => g''.nw a o (.tail _ (.tail _ hm)) (.inr ⟨hc, fun _ e => (nomatch e)⟩)
  refine ⟨L', D''.m, D''.news, r''.F, r''.N, fun F2 N2 => ?_⟩
  have r2 : Rp P fm X ⟨D.m, D''.news, D''.ad⟩ ⟨loc, hp ++ [.inst C []]⟩ s'.heap := by
    refine ⟨F2, N2, r''.nd, by rw [r''.len, hσ], r''.dis, fun y w e => (r.loc y w e).mono gr fun a o z hm hd => all a o hm ⟨_, hd⟩, fun y e => ?_, r.inj, by rw [← hσ]; exact r''.hp⟩
    obtain ⟨cc, o, v₀, a1, a2, a3⟩ := r.cel y e
    exact ⟨cc, o, v₀, a1, all _ _ a2 ⟨_, a3⟩, a3⟩
  have hy2 : VRel X (.obj hp.length) ⟨D.m, D''.news, D''.ad⟩ y := hy
  obtain ⟨ax, cx, sl, ds, kk, rfl, I, hd, hin, _⟩ := inst_at r2 hy2 (app_get _ _)
  refine ⟨ax, _, rfl, r2.kin c, I.at_, rfl, ?_⟩
  refine hinit.out fm (atA X B) ⟨D.m, D''.news, D''.ad⟩ loc [.ref ax, x] [] hhand (cu.le (Nat.le_succ n)) (.cons hy2 (.cons (show VRel X v _ x from rel_mono hx gr) .nil)) .nil (fun _ q => nomatch q) s' r2.atA _ fun D₃ s₃ fl₃ r₃ g₃ q₃ k₃ => ?_
  obtain ⟨⟨z, rfl, hz⟩, em⟩ := q₃
  cases hz
  exact ⟨rfl, hK D₃ s₃ _ r₃.unA (gr.trans g₃.unA) ⟨⟨_, rfl, rel_mono hy2 g₃.unA⟩, em⟩ ⟨k₃.os.trans k.os, k₃.gens.trans k.gens⟩⟩
end Mini
namespace Mini
open PySem PySem.W PySem.Calls PyProof.Rows
theorem CallC.le {P : Pg} {k k' : Nat} {hand : Bool} {f : Addr} {args : List V} {kw : List (Str × V)} {hp hp' : List LO} {r : V ⊕ (String × List V)} (h : CallC P k hand f args kw hp r hp') (hk : k ≤ k') : CallC P k' hand f args kw hp r hp' :=
  ⟨fun fm X D loc xs ks e c => h.out fm X D loc xs ks e (c.le hk)⟩
theorem StC.le {P : Pg} {k k' : Nat} {fm : Fm} {σ : St} {st : Stmt} {r : Res Fl} (h : StC P k fm σ st r) (hk : k ≤ k') : StC P k' fm σ st r := ⟨fun X D c => h.out X D (c.le hk)⟩
theorem ExC.le {P : Pg} {k k' : Nat} {fm : Fm} {σ : St} {ss : List Stmt} {r : Res Fl} (h : ExC P k fm ss σ r) (hk : k ≤ k') : ExC P k' fm ss σ r := ⟨fun X D c => h.out X D (c.le hk)⟩
noncomputable def fmH (hand : Bool) : Fm := ⟨"", ⟨.function, [], false, false, []⟩, 0, .none, hand, false⟩
theorem goC_hand {P : Pg} {lv : Lv} {fm fm' : Fm} (e : fm.hand = fm'.hand) (h : lv.call fm = lv.call fm') (f : Addr) (args : List V) (kw : List (Str × V)) : goC P lv fm f args kw = goC P lv fm' f args kw := by
  unfold goC makeC
  rw [h, e]
theorem call_hand {P : Pg} {fm fm' : Fm} (e : fm.hand = fm'.hand) (n : Nat) : (lvl P n).call fm = (lvl P n).call fm' := by
  induction n with
  | zero => rfl
  | succ n ih =>
    funext g a k
    show onSome (refV g) (fun f => tellE P (lvl P n).room fm.hand f a k (goC P (lvl P n) fm f a k)) = onSome (refV g) fun f => tellE P (lvl P n).room fm'.hand f a k (goC P (lvl P n) fm' f a k)
    exact congrArg (onSome (refV g)) (funext fun f => by rw [e, goC_hand (P := P) e ih f a k])
noncomputable def resC (r : V ⊕ (String × List V)) (loc : List (Str × V)) (hp : List LO) (cs : List Prop) : Res V := match r with
  | .inl v => .ok v ⟨loc, hp⟩ ⟨[], []⟩ cs
  | .inr p => .ex p.1 p.2 ⟨loc, hp⟩ ⟨[], []⟩ cs
theorem CallC.mk' {P : Pg} {n : Nat} {hand : Bool} {f : Addr} {args : List V} {kw : List (Str × V)} {hp hp' : List LO} {r : V ⊕ (String × List V)} {cs : List Prop} (os : Os) (h : AllP cs)
    (e : ∀ loc, (lvl P n).call (fmH hand) (.stat (.ref f)) args kw ⟨loc, hp⟩ os = resC r loc hp' cs) : CallC P n hand f args kw hp r hp' := by
  refine ⟨fun fm X D loc xs ks hh c h1 h2 => ?_⟩
  have main := run_call (fm := fm) (D := D) ((congrArg (fun c => c (.stat (.ref f)) args kw ⟨loc, hp⟩ os) (call_hand (P := P) (fm := fm) (fm' := fmH hand) hh n)).trans (e loc)) c .stat h1 h2
  cases r with
  | inl v => exact fun _ => main h.all
  | inr p => exact fun _ => main h.all
theorem StC.while_ {P : Pg} {n k : Nat} {fm : Fm} {t : Expr} {b : List Stmt} {p : Pos} {σ : St} {r : Res Fl} (L : Loop P n fm t b k σ r) : StC P n fm σ (.While t b [] p) r := ⟨fun _ _ c => while_ok L c⟩
noncomputable def resX (r : Fl ⊕ (String × List V)) (σ : St) (cs : List Prop) : Res Fl := match r with
  | .inl v => .ok v σ ⟨[], []⟩ cs
  | .inr p => .ex p.1 p.2 σ ⟨[], []⟩ cs
theorem ExC.mk' {P : Pg} {n : Nat} {fm : Fm} {ss : List Stmt} {σ σ' : St} {r : Fl ⊕ (String × List V)} {cs : List Prop} (os : Os) (h : AllP cs) (e : execsE (lvl P n) fm ss σ os = resX r σ' cs) : ExC P n fm ss σ (resX r σ' []) := by
  refine ⟨fun X D c => ?_⟩
  have main := run_execs e (D := D) c
  cases r with
  | inl v => exact fun _ => main h.all
  | inr p => exact fun _ => main h.all
theorem TeC.mk' {P : Pg} {n : Nat} {fm : Fm} {t : Expr} {σ σ' : St} {b : Bool} {cs : List Prop} (os : Os) (h : AllP cs) (e : (lvl P n).b fm t σ os = .ok b σ' ⟨[], []⟩ cs) : TeC P n fm t σ b σ' := by
  refine ⟨fun X D c => ?_⟩
  have main := (snd P n).b fm X D σ os t c
  rw [e] at main
  exact fun _ => main h.all
theorem EvC.mk' {P : Pg} {n : Nat} {fm : Fm} {t : Expr} {σ σ' : St} {v : V} {cs : List Prop} (os : Os) (h : AllP cs) (e : (lvl P n).e fm t σ os = .ok v σ' ⟨[], []⟩ cs) : EvC P n fm t v σ σ' := by
  refine ⟨fun X D c => ?_⟩
  have main := (snd P n).e fm X D σ os t c
  rw [e] at main
  exact fun _ => main h.all
theorem AsC.name {P : Pg} {n : Nat} {fm : Fm} {x : Str} {p : Pos} {v : V} {loc : List (Str × V)} {hp : List LO} (hx : fm.scope.names.lookup x = some .local) : AsC P n fm (.Name x p) v ⟨loc, hp⟩ ⟨putV x v loc, hp⟩ := by
  refine ⟨fun X D y c hv => ?_⟩
  have main := ok_asg (snd P n) c (.Name x p) hv (σ := ⟨loc, hp⟩) (os := ⟨[], []⟩)
  have e : asgE P (lvl P n) fm (.Name x p) v ⟨loc, hp⟩ ⟨[], []⟩ = .ok () ⟨putV x v loc, hp⟩ ⟨[], []⟩ [] := by
    show storeE fm x v ⟨loc, hp⟩ ⟨[], []⟩ = _
    unfold storeE; rw [hx]; rfl
  rw [e] at main
  exact main
noncomputable def Res.shut {α : Type} : Res α → Prop
  | .ok _ _ _ cs => ∀ p ∈ cs, p
  | .ex _ _ _ _ cs => ∀ p ∈ cs, p
  | .no _ => False
theorem ok_to {P : Pg} {fm : Fm} {X : Fx} {D : Dy} {σ : St} {α β : Type} {t : Sem β} {r : Res α} {R : α → Dy → β → Prop} (h : Ok P fm X D σ t r R) (hr : r.shut) {s : Shared} {Q : β → Shared → Prop} {E : Value → Shared → Prop} (hs : Rp P fm X D σ s.heap) (hE : Ends P fm X D s r R Q E) :
    wpAny (model P.prog P.w) X.A t Q E s := by
  cases r with
  | no w => exact hr.elim
  | ok a σ' os cs => exact h hr s hs Q E hE
  | ex cls args σ' os cs => exact h hr s hs Q E hE.1 hE.2
theorem execs_app (env : Env) (ts : List Stmt) : ∀ ss : List Stmt, execs (ss ++ ts) env = (execs ss env >>= fun f => match f with | .next => execs ts env | f => pure f)
  | [] => rfl
  | s :: r => by
    rw [List.cons_append, arm_execs_cons, arm_execs_cons, execs_app env ts r, bind_assoc]
    refine congrArg (fun k => exec s env >>= k) (funext fun f => ?_)
    cases f <;> rfl
theorem ExC.app {P : Pg} {n : Nat} {fm : Fm} {ss ts : List Stmt} {σ σ₁ : St} {r : Res Fl} (h1 : ExC P n fm ss σ (.ok .next σ₁ O0 [])) (h2 : ExC P n fm ts σ₁ r) (hr : r.shut) : ExC P n fm (ss ++ ts) σ r := by
  refine ⟨fun X D c => ?_⟩
  rw [execs_app]
  refine ok_ends fun s Q E hs hE => wpAny_bind ?_
  refine h1.out X D c (fun _ q => nomatch q) s hs _ E fun D₁ s₁ f r₁ g₁ q₁ k₁ => ?_
  rw [show f = Flow.next from q₁]
  exact ok_to (h2.out X D₁ c) hr r₁ (hE.trans g₁ k₁)
end Mini
namespace Mini
open PySem PySem.W PySem.Calls PyProof.Rows PySem.Builtin PySem.Builtin.Str PySem.StrLaws
noncomputable def tx (l : List Nat) : Str := ⟨l.toArray⟩
theorem tx_len (l : List Nat) : (tx l).length = l.length := by show l.toArray.size = _; simp
theorem tx_list (l : List Nat) : (tx l).cps.toList = l := by show l.toArray.toList = _; simp
theorem tx_app (a b : List Nat) : tx a ++ tx b = tx (a ++ b) := by
  show (⟨(tx a).cps ++ (tx b).cps⟩ : Str) = _
  unfold tx; simp
theorem tx_of (s : Str) : tx s.cps.toList = s := by cases s; unfold tx; simp
theorem tx_inj {a b : List Nat} (h : tx a = tx b) : a = b := by rw [← tx_list a, h, tx_list]
theorem tx_beq (a b : List Nat) : (tx a == tx b) = decide (a = b) := by
  by_cases h : a = b
  · subst h; simp
  · rw [decide_eq_false h, beq_eq_false_iff_ne]; exact fun q => h (tx_inj q)
theorem tx_one (k : Nat) : (⟨#[k]⟩ : Str) = tx [k] := rfl
theorem tx_nil : Str.ofString "" = tx [] := by decide +kernel
theorem has_one (l : List Nat) (c : Nat) : hasB (tx l) ⟨#[c]⟩ = decide (c ∈ l) := by
  unfold hasB; rw [found_one, tx_list]
theorem slice_butLast (l : List Nat) (c : Nat) : Txt.slice (tx (l ++ [c])) none (some (-1)) = tx l := by
  have hl : (tx (l ++ [c])).length = l.length + 1 := by rw [tx_len, List.length_append]; rfl
  refine (beq_iff_eq.mp (slice_closes_to_neg (x := tx (l ++ [c])) (j := -1) (k := (l.length : Int)) (by decide) (by rw [hl]; exact Int.neg_le_neg (Int.ofNat_le.mpr (Nat.succ_le_succ (Nat.zero_le _)))) (by rw [hl, Int.natCast_add, Int.add_comm, Int.add_assoc]; exact (Int.add_zero _).symm))).trans ?_
  rw [tx_list, Int.sub_zero, Int.toNat_natCast]
  show tx (List.take l.length (l ++ [c])) = _
  rw [List.take_left]
theorem slice_midK (l : List Nat) {i j : Nat} (h : i ≤ j) (h' : j ≤ l.length) : Txt.slice (tx l) (some (i : Int)) (some (j : Int)) = tx ((l.drop i).take (j - i)) := by
  refine (beq_iff_eq.mp (slice_closes (x := tx l) (i := i) (j := j) ⟨Int.natCast_nonneg _, Int.ofNat_le.mpr h, by rw [tx_list]; exact Int.ofNat_le.mpr h'⟩)).trans ?_
  rw [tx_list, Int.toNat_natCast, Int.toNat_sub]; rfl
theorem item_nat {l : List Nat} {i c : Nat} (h : l[i]? = some c) : Txt.item (tx l) (i : Int) = ⟨#[c]⟩ := by
  have hl := (List.getElem?_eq_some_iff.mp h).1
  unfold Txt.item Txt.charAt
  rw [tx_len]
  have : seqIndex? (i : Int) l.length = some i := by
    unfold seqIndex?
    have h1 : ¬ ((i : Int) < 0) := by omega
    dsimp only
    rw [if_neg h1, if_pos (by simp [hl]), Int.toNat_natCast]
  rw [this]
  show (⟨#[((tx l).cps[i]?).getD 0]⟩ : Str) = _
  rw [← Array.getElem?_toList, tx_list, h]; rfl
theorem occ_full (s sub : Str) (hi : Nat) : ∀ (l : List Nat) (a f : Nat), (forIn l ((#[a] : Array Nat), f) (occBody s sub hi 1)).run.fst.toList = [a]
  | [], a, f => rfl
  | x :: l, a, f => by
    rw [List.forIn_cons]
    unfold occBody
    rw [if_neg (by simp)]
    exact occ_full s sub hi l a f
theorem occ_go (l : List Nat) (c : Nat) : ∀ (k i free : Nat), free ≤ i → i + k = l.length + 1 →
    (forIn (List.range' i k) ((#[] : Array Nat), free) (occBody (tx l) ⟨#[c]⟩ l.length 1)).run.fst.toList = match (l.drop i).findIdx? (· == c) with | some j => [i + j] | none => []
  | 0, i, free, hf, h => by rw [List.drop_eq_nil_of_le (by omega)]; rfl
  | k + 1, i, free, hf, h => by
    rw [List.range'_succ, List.forIn_cons]
    unfold occBody
    have one := subAt_one (tx l) c i
    rw [tx_len, tx_list] at one
    by_cases hc : l[i]? = some c
    · obtain ⟨h1, h2⟩ := one.mpr hc
      rw [if_pos ⟨⟨⟨by simp, hf⟩, h1⟩, h2⟩]
      have hi := (List.getElem?_eq_some_iff.mp hc).1
      have e := (List.getElem?_eq_some_iff.mp hc).2
      rw [List.drop_eq_getElem_cons hi, e, List.findIdx?_cons, beq_self_eq_true]
      exact occ_full _ _ _ _ _ _
    · rw [if_neg fun h => hc (one.mp ⟨h.1.2, h.2⟩)]
      have ih := occ_go l c k (i + 1) free (by omega) (by omega)
      refine Eq.trans ih ?_
      by_cases hi : i < l.length
      · have hne : (l[i] == c) = false := by
          rw [List.getElem?_eq_getElem hi] at hc
          exact beq_eq_false_iff_ne.mpr fun q => hc (by rw [q])
        rw [List.drop_eq_getElem_cons hi, List.findIdx?_cons, hne]
        cases (l.drop (i + 1)).findIdx? (· == c) with
        | none => rfl
        | some j => show [i + 1 + j] = [i + (j + 1)]; rw [show i + 1 + j = i + (j + 1) by omega]
      · rw [List.drop_eq_nil_of_le (by omega), List.drop_eq_nil_of_le (by omega)]; rfl
theorem occ_one (l : List Nat) (c i : Nat) (hi : i ≤ l.length) : occurrences (tx l) ⟨#[c]⟩ i l.length 1 = match (l.drop i).findIdx? (· == c) with | some j => [i + j] | none => [] := by
  rw [occ_eq]
  exact occ_go l c (l.length + 1 - i) i i (Nat.le_refl _) (by omega)
theorem find4_one (l : List Nat) (c i : Nat) (hi : i ≤ l.length) : find4 (tx l) ⟨#[c]⟩ (i : Int) (l.length : Int) = match (l.drop i).findIdx? (· == c) with | some j => ((i + j : Nat) : Int) | none => -1 := by
  unfold find4
  rw [tx_len]
  have e1 : ∀ k : Nat, fromIndex l.length (k : Int) = k := fun k => by
    unfold fromIndex
    rw [if_neg (Int.not_lt.mpr (Int.natCast_nonneg k)), Int.max_eq_right (Int.natCast_nonneg k)]; rfl
  rw [e1, e1, Nat.min_self, occ_one l c i hi]
  cases (l.drop i).findIdx? (· == c) <;> rfl
end Mini
namespace Mini
open PySem PySem.W PySem.Calls PyProof.Rows
section
variable {P : Pg} {fm : Fm} {X : Fx} {D : Dy} {σ : St} {h : Heap} {n : Nat} {loc' : List (Str × V)}
theorem Rp.forget (r : Rp P fm X D σ h) (s : Sub loc' σ.loc) : Rp P fm X D ⟨loc', σ.hp⟩ h := ⟨r.F, r.N, r.nd, r.len, r.dis, fun x v e => r.loc x v (s x v e), r.cel, r.inj, r.hp⟩
theorem ExC.forget {ss : List Stmt} {f : Fl} {σ' : St} {os os' : Os} {c : List Prop} (h : ExC P n fm ss σ (.ok f σ' os c)) (s : Sub loc' σ'.loc) : ExC P n fm ss σ (.ok f ⟨loc', σ'.hp⟩ os' c) :=
  ⟨fun X D cx hc s₀ hs Q E hQ => h.out X D cx hc s₀ hs Q E fun D' s' x r g q kp => hQ D' s' x (r.forget s) g q kp⟩
theorem StC.forget {st : Stmt} {f : Fl} {σ' : St} {os os' : Os} {c : List Prop} (h : StC P n fm σ st (.ok f σ' os c)) (s : Sub loc' σ'.loc) : StC P n fm σ st (.ok f ⟨loc', σ'.hp⟩ os' c) :=
  ⟨fun X D cx hc s₀ hs Q E hQ => h.out X D cx hc s₀ hs Q E fun D' s' x r g q kp => hQ D' s' x (r.forget s) g q kp⟩
theorem Sub.head (l m : List (Str × V)) : Sub l (l ++ m) := by
  intro x v e
  rw [List.lookup_append, e]; rfl
end
end Mini
namespace Mini
open PySem PySem.W PySem.Calls PyProof.Rows
noncomputable def posOf : Stmt → Pos
  | .While _ _ _ p => p
  | .For _ _ _ _ p => p
  | .Try _ _ _ _ p => p
  | _ => ⟨0, 0, 0, 0⟩
noncomputable def targetOf : Stmt → Expr
  | .For t _ _ _ _ => t
  | _ => .Constant .none 0 ⟨0, 0, 0, 0⟩
noncomputable def epos : Expr → Pos
  | .Name _ p => p
  | _ => ⟨0, 0, 0, 0⟩
theorem vbs_map {α : Type} (f : α → V) (k : Nat) (hf : ∀ a, vb k (f a) = true) : ∀ l : List α, vbs k (l.map f) = true
  | [] => rfl
  | a :: l => by rw [List.map_cons]; unfold vbs; rw [hf, vbs_map f k hf l]; rfl
theorem pickL_map {α β : Type} (f : α → β) (l : List α) (lo hi : Option Int) : pickL (l.map f) lo hi = (pickL l lo hi).map f := by
  unfold pickL
  rw [List.length_map, List.map_filterMap]
  congr 1
  funext k
  exact List.getElem?_map
theorem pickL_int (l : List Int) (k : Nat) : pickL (l.map V.int) none (some (k : Int)) = (l.take k).map V.int := by
  rw [pickL_map]
  refine congrArg (List.map V.int) ?_
  have e := slicePick_list ((l.map fun i => Value.int i 0).toArray) none (some (k : Int))
  rw [slicePick_upto', List.toList_toArray, List.toList_toArray, pickL_map, ← List.map_take] at e
  exact (List.map_inj_right fun a b h => by cases h; rfl).mp e.symm
theorem AsC.le {P : Pg} {k k' : Nat} {fm : Fm} {t : Expr} {v : V} {σ σ' : St} (h : AsC P k fm t v σ σ') (hk : k ≤ k') : AsC P k' fm t v σ σ' := ⟨fun X D x c hv => h.out X D x (c.le hk) hv⟩
theorem EvC.le {P : Pg} {k k' : Nat} {fm : Fm} {t : Expr} {v : V} {σ σ' : St} (h : EvC P k fm t v σ σ') (hk : k ≤ k') : EvC P k' fm t v σ σ' := ⟨fun X D c => h.out X D (c.le hk)⟩
theorem ForI.le {P : Pg} {n n' : Nat} {fm : Fm} {t : Expr} {b : List Stmt} {vs : List V} {J : St → Prop} {k i : Nat} {σ : St} {r : Res Fl} (L : ForI P n fm t b vs J k i σ r) (h : n ≤ n') : ForI P n' fm t b vs J k i σ r := by
  induction L with
  | stop a b c => exact .stop a b c
  | next a b c d e _ ih => exact .next a b c (@fun lo hb => by obtain ⟨σ₁, x, y⟩ := @d lo hb; exact ⟨σ₁, x.le h, y.le h⟩) e ih
  | brk a b c d e => exact .brk a b c (@fun lo hb => by obtain ⟨σ₁, x, y⟩ := @d lo hb; exact ⟨σ₁, x.le h, y.le h⟩) e
  | ret a b c d e f => exact .ret a b c (@fun lo hb => by obtain ⟨σ₁, x, y⟩ := @d lo hb; exact ⟨σ₁, x.le h, y.le h⟩) e f
  | raise a b c d e f => exact .raise a b c (@fun lo hb => by obtain ⟨σ₁, x, y⟩ := @d lo hb; exact ⟨σ₁, x.le h, y.le h⟩) e f
end Mini
namespace Mini
open PySem PySem.W PySem.Calls PyProof.Rows PyProof.Rows.LCg
section
variable {P : Pg} {fm : Fm} {X : Fx} {D : Dy} {σ : St} {n : Nat}
theorem Rp.other {h h' : Heap} (r : Rp P fm X D σ h) (F : Fr X.h₀ X.L h' D.m) (N : News X.h₀ X.L h' D.news) : Rp P fm X D σ h' := ⟨F, N, r.nd, r.len, r.dis, r.loc, r.cel, r.inj, r.hp⟩
theorem spl_one {M : Model} {A : Around} {E : Value → Shared → Prop} {s : Shared} {Q : List Value → Shared → Prop} {t : Sem Value} {r : List (Bool × Sem Value)} (h : wpAny M A t (fun v s₁ => wpAny M A (spliced r) (fun vs s₂ => Q (v :: vs) s₂) E s₁) E s) : wpAny M A (spliced ((false, t) :: r)) Q E s := by
  rw [spliced]
  refine wpAny_bind (wpAny_mono h (fun v s₁ q => wpAny_bind ?_) fun _ _ y => y)
  exact wpAny_pure (wpAny_bind (wpAny_holding (wpAny_mono q (fun vs s₂ q' => wpAny_pure q') fun _ _ y => y)))
end
end Mini
namespace Mini
open PySem PySem.W PyProof.Rows
noncomputable def ch (k : Nat) : Str := ⟨#[k]⟩
noncomputable def ioOf (buf : Str) (pos : Int) : LO := .inst 587 [("_StringIO__newline", .str "\n"), ("_StringIO__buf", .str buf), ("_StringIO__pos", .int pos)]
structure CF where
  cm : Str
  wc : Str
  ws : Str
  split : Bool
  qu : Str
  es : Str
  eq : Str
  pu : Str
noncomputable def eofOf : Bool → V
  | true => .none
  | false => .str ""
noncomputable def lexP (posix : Bool) (c : CF) (io pb fs pc : Nat) (state : V) (token : Str) (line : Int) : LO := .inst 722 [("instream", .obj io), ("infile", .none), ("posix", .bool posix), ("eof", eofOf posix), ("commenters", .str c.cm),
  ("wordchars", .str c.wc), ("whitespace", .str c.ws), ("whitespace_split", .bool c.split), ("quotes", .str c.qu), ("escape", .str c.es),
  ("escapedquotes", .str c.eq), ("state", state), ("pushback", .obj pb), ("lineno", .int line), ("debug", .int 0), ("token", .str token), ("filestack", .obj fs), ("source", .none), ("_punctuation_chars", .str c.pu), ("_pushback_chars", .obj pc)]
noncomputable def rtBody (P : Pg) : List Stmt := loopIn (stmtAt (bodyOf P.K 690) 2)
noncomputable def rtSegA (P : Pg) : List Stmt := (rtBody P).take 3
noncomputable def rtSegB (P : Pg) : List Stmt := (rtBody P).drop 3
noncomputable def rtFm (P : Pg) : Fm := fmOf P.K 690 false
noncomputable def rtWhile (P : Pg) : Stmt := stmtAt (bodyOf P.K 690) 2
noncomputable def gtFm (P : Pg) : Fm := fmOf P.K 683 false
noncomputable def gtWhile (P : Pg) : Stmt := stmtAt (bodyOf P.K 683) 3
noncomputable def testOf : Stmt → Expr
  | .While t _ _ _ => t
  | .For _ i _ _ _ => i
  | s => .Constant .none 0 ⟨0, 0, 0, 0⟩
end Mini
namespace Mini
open PySem PySem.W PyProof.Rows
noncomputable def thenOf : Stmt → List Stmt
  | .If _ b _ _ => b
  | _ => []
noncomputable def elseOf : Stmt → List Stmt
  | .If _ _ o _ => o
  | _ => []
noncomputable def elifOf (s : Stmt) : Nat → Stmt
  | 0 => s
  | n + 1 => elifOf (stmtAt (elseOf s) 0) n
noncomputable def ifTest : Stmt → Expr
  | .If t _ _ _ => t
  | _ => .Constant .none 0 ⟨0, 0, 0, 0⟩
noncomputable def valOf : Stmt → Expr
  | .Assign _ v _ => v
  | _ => .Constant .none 0 ⟨0, 0, 0, 0⟩
noncomputable def argOf : Expr → Expr
  | .Call _ (e :: _) _ _ => e
  | e => e
noncomputable def cIt : Expr → Expr
  | .ListComp _ (⟨_, it, _, _⟩ :: _) _ _ => it
  | e => e
noncomputable def cSc : Expr → Scope
  | .ListComp _ _ sc _ => sc
  | _ => ⟨.function, [], false, false, []⟩
noncomputable def dbFor (P : Pg) : Stmt := stmtAt (bodyOf P.K 747) 1
noncomputable def liFor (P : Pg) : Stmt := stmtAt (bodyOf P.K 754) 3
noncomputable def liWhile (P : Pg) : Stmt := stmtAt (loopIn (liFor P)) 1
noncomputable def liSt (P : Pg) (i : Nat) : Stmt := stmtAt (loopIn (liWhile P)) i
noncomputable def liIn (P : Pg) (i n : Nat) : List Stmt := ((loopIn (liWhile P)).drop i).take n
noncomputable def siFor (P : Pg) : Stmt := liSt P 3
noncomputable def mnIf (P : Pg) : Stmt := liSt P 5
noncomputable def mnTh (P : Pg) (i : Nat) : List Stmt := thenOf (elifOf (mnIf P) i)
noncomputable def mnEl (P : Pg) (i : Nat) : List Stmt := elseOf (elifOf (mnIf P) i)
noncomputable def lawFm (P : Pg) (f : Addr) (cd : Value) : Fm := { fmOf P.K 759 false with f := f, cd := cd }
noncomputable def lawSt (P : Pg) (i : Nat) : Stmt := stmtAt (bodyOf P.K 759) i
noncomputable def lawIn (P : Pg) (i n : Nat) : List Stmt := ((bodyOf P.K 759).drop i).take n
noncomputable def numComp (P : Pg) : Expr := valOf (lawSt P 0)
noncomputable def runComp (P : Pg) : Expr := argOf (valOf (lawSt P 6))
noncomputable def tolComp (P : Pg) : Expr := valOf (lawSt P 11)
noncomputable def wc0 : Str := "abcdfeghijklmnopqrstuvwxyzABCDEFGHIJKLMNOPQRSTUVWXYZ0123456789_ßàáâãäåæçèéêëìíîïðñòóôõöøùúûüýþÿÀÁÂÃÄÅÆÇÈÉÊËÌÍÎÏÐÑÒÓÔÕÖØÙÚÛÜÝÞ~-./*?="
noncomputable def cf0 (wc u : Str) (sp : Bool) : CF := ⟨"#", wc, " \t\r\n", sp, "'\"", "\\", "\"", u⟩
noncomputable def hp5 (o0 : LO) (wc u t : Str) : List LO := [o0, lexP true (cf0 wc u false) 2 3 4 5 (.str " ") "" 1, ioOf t 0, .deque [], .deque [], .deque []]
end Mini
namespace Mini
open PySem PySem.W PySem.Calls PyProof.Rows
section
variable {w : World} {mg mb : Str → Option Value}
theorem inT_s {o0 : LO} {t : Str} {u : Str} {w' : Str}
    (h0 : CallC (pg w mg mb) 94 false 587 [.str (t)] [] [(o0), .inst 722 []] (.inl (.obj 2)) [(o0), .inst 722 [], .inst 587 [(("_StringIO__newline" : Str), .str ("\n" : Str)), (("_StringIO__buf" : Str), .str (t)), (("_StringIO__pos" : Str), .int 0)]])
    (h1 : ((Str.length u) : Nat) ≤ 1048576)
    (h2 : (!(↑(Str.length u) : Int) != 0) = false)
    (h3 : ((Str.length u) : Nat) ≤ 1048576)
    (h4 : ((↑(Str.length u) : Int) != 0) = true)
    (h5 : FkAt u (hp5 o0 wc0 u t) (.obj 6) (hp5 o0 wc0 u t ++ [.dict (fkEs u)]))
    (h6 : MtAt 6 (hp5 o0 wc0 u t ++ [.dict (fkEs u)]) (.obj 7) (hp5 o0 wc0 u t ++ [.dict (fkEs u), .tab (u).cps.toList]))
    (h7 : TrAt wc0 7 (hp5 o0 wc0 u t ++ [.dict (fkEs u), .tab (u).cps.toList]) (.str w') (hp5 o0 wc0 u t ++ [.dict (fkEs u), .tab (u).cps.toList])) :
    CallC (pg w mg mb) 100 false 722 [.str t] [("posix", .bool true), ("punctuation_chars", .str u)] [o0] (.inl (.obj 1)) [(o0), .inst 722 [(("instream" : Str), .obj 2), (("infile" : Str), .none), (("posix" : Str), .bool true), (("eof" : Str), .none), (("commenters" : Str), .str ("#" : Str)), (("wordchars" : Str), .str (w')), (("whitespace" : Str), .str (" \t\r\n" : Str)), (("whitespace_split" : Str), .bool false), (("quotes" : Str), .str ("'\"" : Str)), (("escape" : Str), .str ("\\" : Str)), (("escapedquotes" : Str), .str ("\"" : Str)), (("state" : Str), .str (" " : Str)), (("pushback" : Str), .obj 3), (("lineno" : Str), .int 1), (("debug" : Str), .int 0), (("token" : Str), .str ("" : Str)), (("filestack" : Str), .obj 4), (("source" : Str), .none), (("_punctuation_chars" : Str), .str (u)), (("_pushback_chars" : Str), .obj 5)], .inst 587 [(("_StringIO__newline" : Str), .str ("\n" : Str)), (("_StringIO__buf" : Str), .str (t)), (("_StringIO__pos" : Str), .int 0)], .deque [], .deque [], .deque [], .dict (fkEs u), (LO.tab (Array.toList (Str.cps u)))] :=
  CallC.mk' (cs := [_, _, _, _, _, _, _, _, _, _]) ⟨[.go, .go, .go, .go, .f, .go, .t], [.dn, .dn, .fn (.obj 2) [o0, .inst 722 [], ioOf t 0], .fn (.obj 6) (hp5 o0 wc0 u t ++ [.dict (fkEs u)]), .fn (.obj 7) (hp5 o0 wc0 u t ++ [.dict (fkEs u), .tab (u).cps.toList]), .fn (.str w') (hp5 o0 wc0 u t ++ [.dict (fkEs u), .tab (u).cps.toList])]⟩ ⟨h0, (by decide +kernel : (125 : Nat) ≤ 16777216), h1, h2, h3, h4, (by decide +kernel : (132 : Nat) ≤ 16777216), h5, h6, h7, trivial⟩ (fun loc => by kernel_rfl)
theorem inT_t {o0 : LO} {t : Str} {w' : Str}
    (h0 : CallC (pg w mg mb) 94 false 587 [.str (t)] [] [(o0), .inst 722 []] (.inl (.obj 2)) [(o0), .inst 722 [], .inst 587 [(("_StringIO__newline" : Str), .str ("\n" : Str)), (("_StringIO__buf" : Str), .str (t)), (("_StringIO__pos" : Str), .int 0)]])
    (h1 : FkAt ("();<>|&" : Str) (hp5 o0 wc0 ("();<>|&" : Str) t) (.obj 6) (hp5 o0 wc0 ("();<>|&" : Str) t ++ [.dict (fkEs ("();<>|&" : Str))]))
    (h2 : MtAt 6 (hp5 o0 wc0 ("();<>|&" : Str) t ++ [.dict (fkEs ("();<>|&" : Str))]) (.obj 7) (hp5 o0 wc0 ("();<>|&" : Str) t ++ [.dict (fkEs ("();<>|&" : Str)), .tab (("();<>|&" : Str)).cps.toList]))
    (h3 : TrAt wc0 7 (hp5 o0 wc0 ("();<>|&" : Str) t ++ [.dict (fkEs ("();<>|&" : Str)), .tab (("();<>|&" : Str)).cps.toList]) (.str w') (hp5 o0 wc0 ("();<>|&" : Str) t ++ [.dict (fkEs ("();<>|&" : Str)), .tab (("();<>|&" : Str)).cps.toList])) :
    CallC (pg w mg mb) 100 false 722 [.str t] [("posix", .bool true), ("punctuation_chars", .bool true)] [o0] (.inl (.obj 1)) [(o0), .inst 722 [(("instream" : Str), .obj 2), (("infile" : Str), .none), (("posix" : Str), .bool true), (("eof" : Str), .none), (("commenters" : Str), .str ("#" : Str)), (("wordchars" : Str), .str (w')), (("whitespace" : Str), .str (" \t\r\n" : Str)), (("whitespace_split" : Str), .bool false), (("quotes" : Str), .str ("'\"" : Str)), (("escape" : Str), .str ("\\" : Str)), (("escapedquotes" : Str), .str ("\"" : Str)), (("state" : Str), .str (" " : Str)), (("pushback" : Str), .obj 3), (("lineno" : Str), .int 1), (("debug" : Str), .int 0), (("token" : Str), .str ("" : Str)), (("filestack" : Str), .obj 4), (("source" : Str), .none), (("_punctuation_chars" : Str), .str ("();<>|&" : Str)), (("_pushback_chars" : Str), .obj 5)], .inst 587 [(("_StringIO__newline" : Str), .str ("\n" : Str)), (("_StringIO__buf" : Str), .str (t)), (("_StringIO__pos" : Str), .int 0)], .deque [], .deque [], .deque [], .dict [(("(" : Str), .none), ((")" : Str), .none), ((";" : Str), .none), (("<" : Str), .none), ((">" : Str), .none), (("|" : Str), .none), (("&" : Str), .none)], (LO.tab (Array.toList (Str.cps (Str.ofString "();<>|&"))))] :=
  CallC.mk' (cs := [_, _, _, _, _, _, _]) ⟨[], [.dn, .dn, .fn (.obj 2) [o0, .inst 722 [], ioOf t 0], .fn (.obj 6) (hp5 o0 wc0 ("();<>|&" : Str) t ++ [.dict (fkEs ("();<>|&" : Str))]), .fn (.obj 7) (hp5 o0 wc0 ("();<>|&" : Str) t ++ [.dict (fkEs ("();<>|&" : Str)), .tab (("();<>|&" : Str)).cps.toList]), .fn (.str w') (hp5 o0 wc0 ("();<>|&" : Str) t ++ [.dict (fkEs ("();<>|&" : Str)), .tab (("();<>|&" : Str)).cps.toList])]⟩ ⟨h0, (by decide +kernel : (125 : Nat) ≤ 16777216), (by decide +kernel : (7 : Nat) ≤ 1048576), (by decide +kernel : (132 : Nat) ≤ 16777216), h1, h2, h3, trivial⟩ (fun loc => by kernel_rfl)
end
end Mini
namespace Mini
open PySem PySem.W PySem.Calls PyProof.Rows
section
variable {w : World} {mg mb : Str → Option Value}
variable {o0 : LO} {tl : List LO} {c : CF} {buf tok x nc y : Str} {i ln j : Int} {pb qc : List V} {st : V} {qd : Bool} {k m : Nat}
theorem fetT_p
    (h0 : ((Str.length (CF.pu c)) : Nat) ≤ 1048576)
    (h1 : ((↑(Str.length (CF.pu c)) : Int) != 0) = true)
    (h2 : (ch k == Str.ofString "\n") = false) :
    ExC (pg w mg mb) 70 (fmOf (pg w mg mb).K 690 false) (rtSegA (pg w mg mb)) ⟨[("self", .obj 1), ("quoted", .bool qd), ("escapedstate", .str x)], ([o0, lexP true c 2 3 4 5 (st) tok ln, ioOf buf i, .deque pb, .deque [], .deque [.str (ch k)]] ++ tl)⟩ (.ok (.next) ⟨[("self", .obj 1), ("quoted", .bool (qd)), ("escapedstate", .str (x)), ("nextchar", .str (ch k))], ([o0, lexP true c 2 3 4 5 ((st)) (tok) ln, ioOf buf ((i)), .deque pb, .deque [], .deque []] ++ tl)⟩ O0 []) :=
  ExC.mk' (r := .inl (.next)) (cs := [_, _, _, _]) ⟨[.t, .go, .go, .f], [.dn]⟩ ⟨h0, h1, (by decide +kernel : (1 : Nat) ≤ 1048576), h2, trivial⟩ (by kernel_rfl)
theorem fetT_n
    (h0 : ((Str.length (CF.pu c)) : Nat) ≤ 1048576)
    (h1 : ((↑(Str.length (CF.pu c)) : Int) != 0) = true)
    (h2 : CallC (pg w mg mb) 66 false 533 [.obj 2, .int 1] [] ([o0, lexP true c 2 3 4 5 ((st)) (tok) ln, ioOf buf ((i)), .deque pb, .deque [], .deque []] ++ tl) (.inl (.str (ch k))) ([o0, lexP true c 2 3 4 5 ((st)) (tok) ln, ioOf buf ((i + 1)), .deque pb, .deque [], .deque []] ++ tl))
    (h3 : (ch k == Str.ofString "\n") = false) :
    ExC (pg w mg mb) 70 (fmOf (pg w mg mb).K 690 false) (rtSegA (pg w mg mb)) ⟨[("self", .obj 1), ("quoted", .bool qd), ("escapedstate", .str x)], ([o0, lexP true c 2 3 4 5 (st) tok ln, ioOf buf i, .deque pb, .deque [], .deque []] ++ tl)⟩ (.ok (.next) ⟨[("self", .obj 1), ("quoted", .bool (qd)), ("escapedstate", .str (x)), ("nextchar", .str (ch k))], ([o0, lexP true c 2 3 4 5 ((st)) (tok) ln, ioOf buf ((i + 1)), .deque pb, .deque [], .deque []] ++ tl)⟩ O0 []) :=
  ExC.mk' (r := .inl (.next)) (cs := [_, _, _, _, _]) ⟨[.t, .go, .go, .f], [.dn, .fn (.str (ch k)) ([o0, lexP true c 2 3 4 5 (st) tok ln, ioOf buf (i + 1), .deque pb, .deque [], .deque []] ++ tl)]⟩ ⟨h0, h1, (by decide +kernel : (0 : Nat) ≤ 1048576), h2, h3, trivial⟩ (by kernel_rfl)
theorem fetT_l
    (h0 : ((Str.length (CF.pu c)) : Nat) ≤ 1048576)
    (h1 : ((↑(Str.length (CF.pu c)) : Int) != 0) = true)
    (h2 : CallC (pg w mg mb) 66 false 533 [.obj 2, .int 1] [] ([o0, lexP true c 2 3 4 5 ((st)) (tok) ln, ioOf buf ((i)), .deque pb, .deque [], .deque []] ++ tl) (.inl (.str (ch k))) ([o0, lexP true c 2 3 4 5 ((st)) (tok) ln, ioOf buf ((i + 1)), .deque pb, .deque [], .deque []] ++ tl))
    (h3 : (ch k == Str.ofString "\n") = true) :
    ExC (pg w mg mb) 70 (fmOf (pg w mg mb).K 690 false) (rtSegA (pg w mg mb)) ⟨[("self", .obj 1), ("quoted", .bool qd), ("escapedstate", .str x)], ([o0, lexP true c 2 3 4 5 (st) tok ln, ioOf buf i, .deque pb, .deque [], .deque []] ++ tl)⟩ (.ok (.next) ⟨[("self", .obj 1), ("quoted", .bool (qd)), ("escapedstate", .str (x)), ("nextchar", .str (ch k))], ([o0, lexP true c 2 3 4 5 ((st)) (tok) (ln + 1), ioOf buf ((i + 1)), .deque pb, .deque [], .deque []] ++ tl)⟩ O0 []) :=
  ExC.mk' (r := .inl (.next)) (cs := [_, _, _, _, _]) ⟨[.t, .go, .go, .t], [.dn, .fn (.str (ch k)) ([o0, lexP true c 2 3 4 5 (st) tok ln, ioOf buf (i + 1), .deque pb, .deque [], .deque []] ++ tl)]⟩ ⟨h0, h1, (by decide +kernel : (0 : Nat) ≤ 1048576), h2, h3, trivial⟩ (by kernel_rfl)
theorem fetT_e
    (h0 : ((Str.length (CF.pu c)) : Nat) ≤ 1048576)
    (h1 : ((↑(Str.length (CF.pu c)) : Int) != 0) = true)
    (h2 : CallC (pg w mg mb) 66 false 533 [.obj 2, .int 1] [] ([o0, lexP true c 2 3 4 5 ((st)) (tok) ln, ioOf buf ((i)), .deque pb, .deque [], .deque []] ++ tl) (.inl (.str ("" : Str))) ([o0, lexP true c 2 3 4 5 ((st)) (tok) ln, ioOf buf ((i)), .deque pb, .deque [], .deque []] ++ tl)) :
    ExC (pg w mg mb) 70 (fmOf (pg w mg mb).K 690 false) (rtSegA (pg w mg mb)) ⟨[("self", .obj 1), ("quoted", .bool qd), ("escapedstate", .str x)], ([o0, lexP true c 2 3 4 5 (st) tok ln, ioOf buf i, .deque pb, .deque [], .deque []] ++ tl)⟩ (.ok (.next) ⟨[("self", .obj 1), ("quoted", .bool (qd)), ("escapedstate", .str (x)), ("nextchar", .str ("" : Str))], ([o0, lexP true c 2 3 4 5 ((st)) (tok) ln, ioOf buf ((i)), .deque pb, .deque [], .deque []] ++ tl)⟩ O0 []) :=
  ExC.mk' (r := .inl (.next)) (cs := [_, _, _, _]) ⟨[.t], [.dn, .fn (.str ("" : Str)) ([o0, lexP true c 2 3 4 5 (st) tok ln, ioOf buf i, .deque pb, .deque [], .deque []] ++ tl)]⟩ ⟨h0, h1, (by decide +kernel : (0 : Nat) ≤ 1048576), h2, trivial⟩ (by kernel_rfl)
theorem nonT :
    ExC (pg w mg mb) 70 (fmOf (pg w mg mb).K 690 false) (rtSegB (pg w mg mb)) ⟨[("self", .obj 1), ("quoted", .bool qd), ("escapedstate", .str x), ("nextchar", .str nc)], ([o0, lexP true c 2 3 4 5 (.none) tok ln, ioOf buf i, .deque pb, .deque [], .deque qc] ++ tl)⟩ (.ok (.brk) ⟨[("self", .obj 1), ("quoted", .bool (qd)), ("escapedstate", .str (x)), ("nextchar", .str (nc))], ([o0, lexP true c 2 3 4 5 (.none) ("" : Str) ln, ioOf buf ((i)), .deque pb, .deque [], .deque qc] ++ tl)⟩ O0 []) :=
  ExC.mk' (r := .inl (.brk)) (cs := []) ⟨[], []⟩ trivial (by kernel_rfl)
theorem spT_e :
    ExC (pg w mg mb) 70 (fmOf (pg w mg mb).K 690 false) (rtSegB (pg w mg mb)) ⟨[("self", .obj 1), ("quoted", .bool qd), ("escapedstate", .str x), ("nextchar", .str ("" : Str))], ([o0, lexP true c 2 3 4 5 (.str " ") ("" : Str) ln, ioOf buf i, .deque pb, .deque [], .deque qc] ++ tl)⟩ (.ok (.brk) ⟨[("self", .obj 1), ("quoted", .bool (qd)), ("escapedstate", .str (x)), ("nextchar", .str ("" : Str))], ([o0, lexP true c 2 3 4 5 (.none) ("" : Str) ln, ioOf buf ((i)), .deque pb, .deque [], .deque qc] ++ tl)⟩ O0 []) :=
  ExC.mk' (r := .inl (.brk)) (cs := [_]) ⟨[], []⟩ ⟨(by decide +kernel : (0 : Nat) ≤ 1048576), trivial⟩ (by kernel_rfl)
theorem spT_w
    (h0 : (hasB (CF.ws c) (ch k)) = true) :
    ExC (pg w mg mb) 70 (fmOf (pg w mg mb).K 690 false) (rtSegB (pg w mg mb)) ⟨[("self", .obj 1), ("quoted", .bool false), ("escapedstate", .str x), ("nextchar", .str (ch k))], ([o0, lexP true c 2 3 4 5 (.str " ") ("" : Str) ln, ioOf buf i, .deque pb, .deque [], .deque qc] ++ tl)⟩ (.ok (.cont) ⟨[("self", .obj 1), ("quoted", .bool false), ("escapedstate", .str (x)), ("nextchar", .str (ch k))], ([o0, lexP true c 2 3 4 5 (.str (" " : Str)) ("" : Str) ln, ioOf buf ((i)), .deque pb, .deque [], .deque qc] ++ tl)⟩ O0 []) :=
  ExC.mk' (r := .inl (.cont)) (cs := [_, _, _]) ⟨[.go, .go, .go, .t], []⟩ ⟨(by decide +kernel : (1 : Nat) ≤ 1048576), h0, (by decide +kernel : (0 : Nat) ≤ 1048576), trivial⟩ (by kernel_rfl)
theorem spT_c
    (h0 : (hasB (CF.ws c) (ch k)) = false)
    (h1 : (hasB (CF.cm c) (ch k)) = true)
    (h2 : CallC (pg w mg mb) 62 false 541 [.obj 2] [] ([o0, lexP true c 2 3 4 5 (.str (" " : Str)) ("" : Str) ln, ioOf buf ((i)), .deque pb, .deque [], .deque qc] ++ tl) (.inl (.str (y))) ([o0, lexP true c 2 3 4 5 (.str (" " : Str)) ("" : Str) ln, ioOf buf ((j)), .deque pb, .deque [], .deque qc] ++ tl)) :
    ExC (pg w mg mb) 70 (fmOf (pg w mg mb).K 690 false) (rtSegB (pg w mg mb)) ⟨[("self", .obj 1), ("quoted", .bool qd), ("escapedstate", .str x), ("nextchar", .str (ch k))], ([o0, lexP true c 2 3 4 5 (.str " ") ("" : Str) ln, ioOf buf i, .deque pb, .deque [], .deque qc] ++ tl)⟩ (.ok (.next) ⟨[("self", .obj 1), ("quoted", .bool (qd)), ("escapedstate", .str (x)), ("nextchar", .str (ch k))], ([o0, lexP true c 2 3 4 5 (.str (" " : Str)) ("" : Str) (ln + 1), ioOf buf ((j)), .deque pb, .deque [], .deque qc] ++ tl)⟩ O0 []) :=
  ExC.mk' (r := .inl (.next)) (cs := [_, _, _, _]) ⟨[.go, .go, .go, .f, .t], [.fn (.str y) ([o0, lexP true c 2 3 4 5 (.str " ") ("" : Str) ln, ioOf buf j, .deque pb, .deque [], .deque qc] ++ tl)]⟩ ⟨(by decide +kernel : (1 : Nat) ≤ 1048576), h0, h1, h2, trivial⟩ (by kernel_rfl)
theorem spT_s
    (h0 : (hasB (CF.ws c) (ch k)) = false)
    (h1 : (hasB (CF.cm c) (ch k)) = false)
    (h2 : (hasB (CF.es c) (ch k)) = true) :
    ExC (pg w mg mb) 70 (fmOf (pg w mg mb).K 690 false) (rtSegB (pg w mg mb)) ⟨[("self", .obj 1), ("quoted", .bool qd), ("escapedstate", .str x), ("nextchar", .str (ch k))], ([o0, lexP true c 2 3 4 5 (.str " ") ("" : Str) ln, ioOf buf i, .deque pb, .deque [], .deque qc] ++ tl)⟩ (.ok (.next) ⟨[("self", .obj 1), ("quoted", .bool (qd)), ("escapedstate", .str ("a" : Str)), ("nextchar", .str (ch k))], ([o0, lexP true c 2 3 4 5 (.str (ch k)) ("" : Str) ln, ioOf buf ((i)), .deque pb, .deque [], .deque qc] ++ tl)⟩ O0 []) :=
  ExC.mk' (r := .inl (.next)) (cs := [_, _, _, _]) ⟨[.go, .go, .go, .f, .f, .go, .t], []⟩ ⟨(by decide +kernel : (1 : Nat) ≤ 1048576), h0, h1, h2, trivial⟩ (by kernel_rfl)
theorem spT_a
    (h0 : (hasB (CF.ws c) (ch k)) = false)
    (h1 : (hasB (CF.cm c) (ch k)) = false)
    (h2 : (hasB (CF.es c) (ch k)) = false)
    (h3 : (hasB (CF.wc c) (ch k)) = true) :
    ExC (pg w mg mb) 70 (fmOf (pg w mg mb).K 690 false) (rtSegB (pg w mg mb)) ⟨[("self", .obj 1), ("quoted", .bool qd), ("escapedstate", .str x), ("nextchar", .str (ch k))], ([o0, lexP true c 2 3 4 5 (.str " ") ("" : Str) ln, ioOf buf i, .deque pb, .deque [], .deque qc] ++ tl)⟩ (.ok (.next) ⟨[("self", .obj 1), ("quoted", .bool (qd)), ("escapedstate", .str (x)), ("nextchar", .str (ch k))], ([o0, lexP true c 2 3 4 5 (.str ("a" : Str)) (ch k) ln, ioOf buf ((i)), .deque pb, .deque [], .deque qc] ++ tl)⟩ O0 []) :=
  ExC.mk' (r := .inl (.next)) (cs := [_, _, _, _, _]) ⟨[.go, .go, .go, .f, .f, .go, .f, .go, .t], []⟩ ⟨(by decide +kernel : (1 : Nat) ≤ 1048576), h0, h1, h2, h3, trivial⟩ (by kernel_rfl)
theorem spT_p
    (h0 : (hasB (CF.ws c) (ch k)) = false)
    (h1 : (hasB (CF.cm c) (ch k)) = false)
    (h2 : (hasB (CF.es c) (ch k)) = false)
    (h3 : (hasB (CF.wc c) (ch k)) = false)
    (h4 : (hasB (CF.pu c) (ch k)) = true) :
    ExC (pg w mg mb) 70 (fmOf (pg w mg mb).K 690 false) (rtSegB (pg w mg mb)) ⟨[("self", .obj 1), ("quoted", .bool qd), ("escapedstate", .str x), ("nextchar", .str (ch k))], ([o0, lexP true c 2 3 4 5 (.str " ") ("" : Str) ln, ioOf buf i, .deque pb, .deque [], .deque qc] ++ tl)⟩ (.ok (.next) ⟨[("self", .obj 1), ("quoted", .bool (qd)), ("escapedstate", .str (x)), ("nextchar", .str (ch k))], ([o0, lexP true c 2 3 4 5 (.str ("c" : Str)) (ch k) ln, ioOf buf ((i)), .deque pb, .deque [], .deque qc] ++ tl)⟩ O0 []) :=
  ExC.mk' (r := .inl (.next)) (cs := [_, _, _, _, _, _]) ⟨[.go, .go, .go, .f, .f, .go, .f, .go, .f, .t], [.dn]⟩ ⟨(by decide +kernel : (1 : Nat) ≤ 1048576), h0, h1, h2, h3, h4, trivial⟩ (by kernel_rfl)
theorem spT_q
    (h0 : (hasB (CF.ws c) (ch k)) = false)
    (h1 : (hasB (CF.cm c) (ch k)) = false)
    (h2 : (hasB (CF.es c) (ch k)) = false)
    (h3 : (hasB (CF.wc c) (ch k)) = false)
    (h4 : (hasB (CF.pu c) (ch k)) = false)
    (h5 : (hasB (CF.qu c) (ch k)) = true) :
    ExC (pg w mg mb) 70 (fmOf (pg w mg mb).K 690 false) (rtSegB (pg w mg mb)) ⟨[("self", .obj 1), ("quoted", .bool qd), ("escapedstate", .str x), ("nextchar", .str (ch k))], ([o0, lexP true c 2 3 4 5 (.str " ") ("" : Str) ln, ioOf buf i, .deque pb, .deque [], .deque qc] ++ tl)⟩ (.ok (.next) ⟨[("self", .obj 1), ("quoted", .bool (qd)), ("escapedstate", .str (x)), ("nextchar", .str (ch k))], ([o0, lexP true c 2 3 4 5 (.str (ch k)) ("" : Str) ln, ioOf buf ((i)), .deque pb, .deque [], .deque qc] ++ tl)⟩ O0 []) :=
  ExC.mk' (r := .inl (.next)) (cs := [_, _, _, _, _, _, _]) ⟨[.go, .go, .go, .f, .f, .go, .f, .go, .f, .f, .t], [.dn]⟩ ⟨(by decide +kernel : (1 : Nat) ≤ 1048576), h0, h1, h2, h3, h4, h5, trivial⟩ (by kernel_rfl)
theorem spT_split
    (h0 : (hasB (CF.ws c) (ch k)) = false)
    (h1 : (hasB (CF.cm c) (ch k)) = false)
    (h2 : (hasB (CF.es c) (ch k)) = false)
    (h3 : (hasB (CF.wc c) (ch k)) = false)
    (h4 : (hasB (CF.pu c) (ch k)) = false)
    (h5 : (hasB (CF.qu c) (ch k)) = false)
    (h6 : (CF.split c) = true) :
    ExC (pg w mg mb) 70 (fmOf (pg w mg mb).K 690 false) (rtSegB (pg w mg mb)) ⟨[("self", .obj 1), ("quoted", .bool qd), ("escapedstate", .str x), ("nextchar", .str (ch k))], ([o0, lexP true c 2 3 4 5 (.str " ") ("" : Str) ln, ioOf buf i, .deque pb, .deque [], .deque qc] ++ tl)⟩ (.ok (.next) ⟨[("self", .obj 1), ("quoted", .bool (qd)), ("escapedstate", .str (x)), ("nextchar", .str (ch k))], ([o0, lexP true c 2 3 4 5 (.str ("a" : Str)) (ch k) ln, ioOf buf ((i)), .deque pb, .deque [], .deque qc] ++ tl)⟩ O0 []) :=
  ExC.mk' (r := .inl (.next)) (cs := [_, _, _, _, _, _, _, _]) ⟨[.go, .go, .go, .f, .f, .go, .f, .go, .f, .f, .f, .t], [.dn]⟩ ⟨(by decide +kernel : (1 : Nat) ≤ 1048576), h0, h1, h2, h3, h4, h5, h6, trivial⟩ (by kernel_rfl)
theorem spT_o
    (h0 : (hasB (CF.ws c) (ch k)) = false)
    (h1 : (hasB (CF.cm c) (ch k)) = false)
    (h2 : (hasB (CF.es c) (ch k)) = false)
    (h3 : (hasB (CF.wc c) (ch k)) = false)
    (h4 : (hasB (CF.pu c) (ch k)) = false)
    (h5 : (hasB (CF.qu c) (ch k)) = false)
    (h6 : (CF.split c) = false) :
    ExC (pg w mg mb) 70 (fmOf (pg w mg mb).K 690 false) (rtSegB (pg w mg mb)) ⟨[("self", .obj 1), ("quoted", .bool qd), ("escapedstate", .str x), ("nextchar", .str (ch k))], ([o0, lexP true c 2 3 4 5 (.str " ") ("" : Str) ln, ioOf buf i, .deque pb, .deque [], .deque qc] ++ tl)⟩ (.ok (.brk) ⟨[("self", .obj 1), ("quoted", .bool (qd)), ("escapedstate", .str (x)), ("nextchar", .str (ch k))], ([o0, lexP true c 2 3 4 5 (.str (" " : Str)) (ch k) ln, ioOf buf ((i)), .deque pb, .deque [], .deque qc] ++ tl)⟩ O0 []) :=
  ExC.mk' (r := .inl (.brk)) (cs := [_, _, _, _, _, _, _, _, _]) ⟨[.go, .go, .go, .f, .f, .go, .f, .go, .f, .f, .f, .f], [.dn]⟩ ⟨(by decide +kernel : (1 : Nat) ≤ 1048576), h0, h1, h2, h3, h4, h5, h6, (by decide +kernel : (1 : Nat) ≤ 1048576), trivial⟩ (by kernel_rfl)
theorem qT_c
    (h0 : (ch m == Str.ofString " ") = false)
    (h1 : (hasB (CF.qu c) (ch m)) = true)
    (h2 : (ch k == ch m) = true) :
    ExC (pg w mg mb) 70 (fmOf (pg w mg mb).K 690 false) (rtSegB (pg w mg mb)) ⟨[("self", .obj 1), ("quoted", .bool qd), ("escapedstate", .str x), ("nextchar", .str (ch k))], ([o0, lexP true c 2 3 4 5 (.str (ch m)) tok ln, ioOf buf i, .deque pb, .deque [], .deque qc] ++ tl)⟩ (.ok (.next) ⟨[("self", .obj 1), ("quoted", .bool true), ("escapedstate", .str (x)), ("nextchar", .str (ch k))], ([o0, lexP true c 2 3 4 5 (.str ("a" : Str)) (tok) ln, ioOf buf ((i)), .deque pb, .deque [], .deque qc] ++ tl)⟩ O0 []) :=
  ExC.mk' (r := .inl (.next)) (cs := [_, _, _, _]) ⟨[.go, .f, .t, .go, .t], []⟩ ⟨h0, h1, (by decide +kernel : (1 : Nat) ≤ 1048576), h2, trivial⟩ (by kernel_rfl)
theorem qT_s
    (h0 : (ch m == Str.ofString " ") = false)
    (h1 : (hasB (CF.qu c) (ch m)) = true)
    (h2 : (ch k == ch m) = false)
    (h3 : (hasB (CF.es c) (ch k)) = true)
    (h4 : (hasB (CF.eq c) (ch m)) = true) :
    ExC (pg w mg mb) 70 (fmOf (pg w mg mb).K 690 false) (rtSegB (pg w mg mb)) ⟨[("self", .obj 1), ("quoted", .bool qd), ("escapedstate", .str x), ("nextchar", .str (ch k))], ([o0, lexP true c 2 3 4 5 (.str (ch m)) tok ln, ioOf buf i, .deque pb, .deque [], .deque qc] ++ tl)⟩ (.ok (.next) ⟨[("self", .obj 1), ("quoted", .bool true), ("escapedstate", .str (ch m)), ("nextchar", .str (ch k))], ([o0, lexP true c 2 3 4 5 (.str (ch k)) (tok) ln, ioOf buf ((i)), .deque pb, .deque [], .deque qc] ++ tl)⟩ O0 []) :=
  ExC.mk' (r := .inl (.next)) (cs := [_, _, _, _, _, _]) ⟨[.go, .f, .t, .go, .f, .go, .t, .t], []⟩ ⟨h0, h1, (by decide +kernel : (1 : Nat) ≤ 1048576), h2, h3, h4, trivial⟩ (by kernel_rfl)
theorem qT_o
    (h0 : (ch m == Str.ofString " ") = false)
    (h1 : (hasB (CF.qu c) (ch m)) = true)
    (h2 : (ch k == ch m) = false)
    (h3 : (hasB (CF.es c) (ch k)) = false)
    (h4 : ((Str.length tok + Str.length (ch k)) : Nat) ≤ 16777216) :
    ExC (pg w mg mb) 70 (fmOf (pg w mg mb).K 690 false) (rtSegB (pg w mg mb)) ⟨[("self", .obj 1), ("quoted", .bool qd), ("escapedstate", .str x), ("nextchar", .str (ch k))], ([o0, lexP true c 2 3 4 5 (.str (ch m)) tok ln, ioOf buf i, .deque pb, .deque [], .deque qc] ++ tl)⟩ (.ok (.next) ⟨[("self", .obj 1), ("quoted", .bool true), ("escapedstate", .str (x)), ("nextchar", .str (ch k))], ([o0, lexP true c 2 3 4 5 (.str (ch m)) (tok ++ ch k) ln, ioOf buf ((i)), .deque pb, .deque [], .deque qc] ++ tl)⟩ O0 []) :=
  ExC.mk' (r := .inl (.next)) (cs := [_, _, _, _, _, _]) ⟨[.go, .f, .t, .go, .f, .go, .f], []⟩ ⟨h0, h1, (by decide +kernel : (1 : Nat) ≤ 1048576), h2, h3, h4, trivial⟩ (by kernel_rfl)
theorem qT_o2
    (h0 : (ch m == Str.ofString " ") = false)
    (h1 : (hasB (CF.qu c) (ch m)) = true)
    (h2 : (ch k == ch m) = false)
    (h3 : (hasB (CF.es c) (ch k)) = true)
    (h4 : (hasB (CF.eq c) (ch m)) = false)
    (h5 : ((Str.length tok + Str.length (ch k)) : Nat) ≤ 16777216) :
    ExC (pg w mg mb) 70 (fmOf (pg w mg mb).K 690 false) (rtSegB (pg w mg mb)) ⟨[("self", .obj 1), ("quoted", .bool qd), ("escapedstate", .str x), ("nextchar", .str (ch k))], ([o0, lexP true c 2 3 4 5 (.str (ch m)) tok ln, ioOf buf i, .deque pb, .deque [], .deque qc] ++ tl)⟩ (.ok (.next) ⟨[("self", .obj 1), ("quoted", .bool true), ("escapedstate", .str (x)), ("nextchar", .str (ch k))], ([o0, lexP true c 2 3 4 5 (.str (ch m)) (tok ++ ch k) ln, ioOf buf ((i)), .deque pb, .deque [], .deque qc] ++ tl)⟩ O0 []) :=
  ExC.mk' (r := .inl (.next)) (cs := [_, _, _, _, _, _, _]) ⟨[.go, .f, .t, .go, .f, .go, .t, .f], []⟩ ⟨h0, h1, (by decide +kernel : (1 : Nat) ≤ 1048576), h2, h3, h4, h5, trivial⟩ (by kernel_rfl)
theorem eT_n
    (h0 : (ch m == Str.ofString " ") = false)
    (h1 : (hasB (CF.qu c) (ch m)) = false)
    (h2 : (hasB (CF.es c) (ch m)) = true)
    (h3 : (hasB (CF.qu c) x) = false)
    (h4 : ((Str.length tok + Str.length (ch k)) : Nat) ≤ 16777216) :
    ExC (pg w mg mb) 70 (fmOf (pg w mg mb).K 690 false) (rtSegB (pg w mg mb)) ⟨[("self", .obj 1), ("quoted", .bool qd), ("escapedstate", .str x), ("nextchar", .str (ch k))], ([o0, lexP true c 2 3 4 5 (.str (ch m)) tok ln, ioOf buf i, .deque pb, .deque [], .deque qc] ++ tl)⟩ (.ok (.next) ⟨[("self", .obj 1), ("quoted", .bool (qd)), ("escapedstate", .str (x)), ("nextchar", .str (ch k))], ([o0, lexP true c 2 3 4 5 (.str (x)) (tok ++ ch k) ln, ioOf buf ((i)), .deque pb, .deque [], .deque qc] ++ tl)⟩ O0 []) :=
  ExC.mk' (r := .inl (.next)) (cs := [_, _, _, _, _, _]) ⟨[.go, .f, .f, .t, .go, .f], []⟩ ⟨h0, h1, h2, (by decide +kernel : (1 : Nat) ≤ 1048576), h3, h4, trivial⟩ (by kernel_rfl)
theorem eT_k
    (h0 : (ch m == Str.ofString " ") = false)
    (h1 : (hasB (CF.qu c) (ch m)) = false)
    (h2 : (hasB (CF.es c) (ch m)) = true)
    (h3 : (hasB (CF.qu c) x) = true)
    (h4 : (ch k != ch m) = true)
    (h5 : (ch k != x) = true)
    (h6 : ((Str.length tok + Str.length (ch m)) : Nat) ≤ 16777216)
    (h7 : ((Str.length (tok ++ ch m) + Str.length (ch k)) : Nat) ≤ 16777216) :
    ExC (pg w mg mb) 70 (fmOf (pg w mg mb).K 690 false) (rtSegB (pg w mg mb)) ⟨[("self", .obj 1), ("quoted", .bool qd), ("escapedstate", .str x), ("nextchar", .str (ch k))], ([o0, lexP true c 2 3 4 5 (.str (ch m)) tok ln, ioOf buf i, .deque pb, .deque [], .deque qc] ++ tl)⟩ (.ok (.next) ⟨[("self", .obj 1), ("quoted", .bool (qd)), ("escapedstate", .str (x)), ("nextchar", .str (ch k))], ([o0, lexP true c 2 3 4 5 (.str (x)) (tok ++ ch m ++ ch k) ln, ioOf buf ((i)), .deque pb, .deque [], .deque qc] ++ tl)⟩ O0 []) :=
  ExC.mk' (r := .inl (.next)) (cs := [_, _, _, _, _, _, _, _, _]) ⟨[.go, .f, .f, .t, .go, .t, .t, .t], []⟩ ⟨h0, h1, h2, (by decide +kernel : (1 : Nat) ≤ 1048576), h3, h4, h5, h6, h7, trivial⟩ (by kernel_rfl)
theorem eT_s
    (h0 : (ch m == Str.ofString " ") = false)
    (h1 : (hasB (CF.qu c) (ch m)) = false)
    (h2 : (hasB (CF.es c) (ch m)) = true)
    (h3 : (hasB (CF.qu c) x) = true)
    (h4 : (ch k != ch m) = false)
    (h5 : ((Str.length tok + Str.length (ch k)) : Nat) ≤ 16777216) :
    ExC (pg w mg mb) 70 (fmOf (pg w mg mb).K 690 false) (rtSegB (pg w mg mb)) ⟨[("self", .obj 1), ("quoted", .bool qd), ("escapedstate", .str x), ("nextchar", .str (ch k))], ([o0, lexP true c 2 3 4 5 (.str (ch m)) tok ln, ioOf buf i, .deque pb, .deque [], .deque qc] ++ tl)⟩ (.ok (.next) ⟨[("self", .obj 1), ("quoted", .bool (qd)), ("escapedstate", .str (x)), ("nextchar", .str (ch k))], ([o0, lexP true c 2 3 4 5 (.str (x)) (tok ++ ch k) ln, ioOf buf ((i)), .deque pb, .deque [], .deque qc] ++ tl)⟩ O0 []) :=
  ExC.mk' (r := .inl (.next)) (cs := [_, _, _, _, _, _, _]) ⟨[.go, .f, .f, .t, .go, .t, .f], []⟩ ⟨h0, h1, h2, (by decide +kernel : (1 : Nat) ≤ 1048576), h3, h4, h5, trivial⟩ (by kernel_rfl)
theorem eT_m
    (h0 : (ch m == Str.ofString " ") = false)
    (h1 : (hasB (CF.qu c) (ch m)) = false)
    (h2 : (hasB (CF.es c) (ch m)) = true)
    (h3 : (hasB (CF.qu c) x) = true)
    (h4 : (ch k != ch m) = true)
    (h5 : (ch k != x) = false)
    (h6 : ((Str.length tok + Str.length (ch k)) : Nat) ≤ 16777216) :
    ExC (pg w mg mb) 70 (fmOf (pg w mg mb).K 690 false) (rtSegB (pg w mg mb)) ⟨[("self", .obj 1), ("quoted", .bool qd), ("escapedstate", .str x), ("nextchar", .str (ch k))], ([o0, lexP true c 2 3 4 5 (.str (ch m)) tok ln, ioOf buf i, .deque pb, .deque [], .deque qc] ++ tl)⟩ (.ok (.next) ⟨[("self", .obj 1), ("quoted", .bool (qd)), ("escapedstate", .str (x)), ("nextchar", .str (ch k))], ([o0, lexP true c 2 3 4 5 (.str (x)) (tok ++ ch k) ln, ioOf buf ((i)), .deque pb, .deque [], .deque qc] ++ tl)⟩ O0 []) :=
  ExC.mk' (r := .inl (.next)) (cs := [_, _, _, _, _, _, _, _]) ⟨[.go, .f, .f, .t, .go, .t, .t, .f], []⟩ ⟨h0, h1, h2, (by decide +kernel : (1 : Nat) ≤ 1048576), h3, h4, h5, h6, trivial⟩ (by kernel_rfl)
theorem aT_e
    (h0 : (hasB (CF.qu c) (Str.ofString "a")) = false)
    (h1 : (hasB (CF.es c) (Str.ofString "a")) = false) :
    ExC (pg w mg mb) 70 (fmOf (pg w mg mb).K 690 false) (rtSegB (pg w mg mb)) ⟨[("self", .obj 1), ("quoted", .bool qd), ("escapedstate", .str x), ("nextchar", .str ("" : Str))], ([o0, lexP true c 2 3 4 5 (.str "a") tok ln, ioOf buf i, .deque pb, .deque [], .deque qc] ++ tl)⟩ (.ok (.brk) ⟨[("self", .obj 1), ("quoted", .bool (qd)), ("escapedstate", .str (x)), ("nextchar", .str ("" : Str))], ([o0, lexP true c 2 3 4 5 (.none) (tok) ln, ioOf buf ((i)), .deque pb, .deque [], .deque qc] ++ tl)⟩ O0 []) :=
  ExC.mk' (r := .inl (.brk)) (cs := [_, _, _]) ⟨[.go, .go, .f, .f], []⟩ ⟨h0, h1, (by decide +kernel : (0 : Nat) ≤ 1048576), trivial⟩ (by kernel_rfl)
theorem aT_w
    (h0 : (hasB (CF.qu c) (Str.ofString "a")) = false)
    (h1 : (hasB (CF.es c) (Str.ofString "a")) = false)
    (h2 : (hasB (CF.ws c) (ch k)) = true)
    (h3 : ((Str.length tok) : Nat) ≤ 1048576)
    (h4 : ((↑(Str.length tok) : Int) != 0) = true) :
    ExC (pg w mg mb) 70 (fmOf (pg w mg mb).K 690 false) (rtSegB (pg w mg mb)) ⟨[("self", .obj 1), ("quoted", .bool qd), ("escapedstate", .str x), ("nextchar", .str (ch k))], ([o0, lexP true c 2 3 4 5 (.str "a") tok ln, ioOf buf i, .deque pb, .deque [], .deque qc] ++ tl)⟩ (.ok (.brk) ⟨[("self", .obj 1), ("quoted", .bool (qd)), ("escapedstate", .str (x)), ("nextchar", .str (ch k))], ([o0, lexP true c 2 3 4 5 (.str (" " : Str)) (tok) ln, ioOf buf ((i)), .deque pb, .deque [], .deque qc] ++ tl)⟩ O0 []) :=
  ExC.mk' (r := .inl (.brk)) (cs := [_, _, _, _, _, _]) ⟨[.go, .go, .f, .f, .go, .go, .t, .go, .t], []⟩ ⟨h0, h1, (by decide +kernel : (1 : Nat) ≤ 1048576), h2, h3, h4, trivial⟩ (by kernel_rfl)
theorem aT_c
    (h0 : (hasB (CF.qu c) (Str.ofString "a")) = false)
    (h1 : (hasB (CF.es c) (Str.ofString "a")) = false)
    (h2 : (hasB (CF.ws c) (ch k)) = false)
    (h3 : (hasB (CF.cm c) (ch k)) = true)
    (h4 : CallC (pg w mg mb) 59 false 541 [.obj 2] [] ([o0, lexP true c 2 3 4 5 (.str ("a" : Str)) (tok) ln, ioOf buf ((i)), .deque pb, .deque [], .deque qc] ++ tl) (.inl (.str (y))) ([o0, lexP true c 2 3 4 5 (.str ("a" : Str)) (tok) ln, ioOf buf ((j)), .deque pb, .deque [], .deque qc] ++ tl))
    (h5 : ((Str.length tok) : Nat) ≤ 1048576)
    (h6 : ((↑(Str.length tok) : Int) != 0) = true) :
    ExC (pg w mg mb) 70 (fmOf (pg w mg mb).K 690 false) (rtSegB (pg w mg mb)) ⟨[("self", .obj 1), ("quoted", .bool qd), ("escapedstate", .str x), ("nextchar", .str (ch k))], ([o0, lexP true c 2 3 4 5 (.str "a") tok ln, ioOf buf i, .deque pb, .deque [], .deque qc] ++ tl)⟩ (.ok (.brk) ⟨[("self", .obj 1), ("quoted", .bool (qd)), ("escapedstate", .str (x)), ("nextchar", .str (ch k))], ([o0, lexP true c 2 3 4 5 (.str (" " : Str)) (tok) (ln + 1), ioOf buf ((j)), .deque pb, .deque [], .deque qc] ++ tl)⟩ O0 []) :=
  ExC.mk' (r := .inl (.brk)) (cs := [_, _, _, _, _, _, _, _]) ⟨[.go, .go, .f, .f, .go, .go, .f, .t, .go, .t], [.fn (.str y) ([o0, lexP true c 2 3 4 5 (.str "a") tok ln, ioOf buf j, .deque pb, .deque [], .deque qc] ++ tl)]⟩ ⟨h0, h1, (by decide +kernel : (1 : Nat) ≤ 1048576), h2, h3, h4, h5, h6, trivial⟩ (by kernel_rfl)
theorem aT_w2
    (h0 : (hasB (CF.qu c) (Str.ofString "a")) = false)
    (h1 : (hasB (CF.es c) (Str.ofString "a")) = false)
    (h2 : (hasB (CF.ws c) (ch k)) = true) :
    ExC (pg w mg mb) 70 (fmOf (pg w mg mb).K 690 false) (rtSegB (pg w mg mb)) ⟨[("self", .obj 1), ("quoted", .bool true), ("escapedstate", .str x), ("nextchar", .str (ch k))], ([o0, lexP true c 2 3 4 5 (.str "a") ("" : Str) ln, ioOf buf i, .deque pb, .deque [], .deque qc] ++ tl)⟩ (.ok (.brk) ⟨[("self", .obj 1), ("quoted", .bool true), ("escapedstate", .str (x)), ("nextchar", .str (ch k))], ([o0, lexP true c 2 3 4 5 (.str (" " : Str)) ("" : Str) ln, ioOf buf ((i)), .deque pb, .deque [], .deque qc] ++ tl)⟩ O0 []) :=
  ExC.mk' (r := .inl (.brk)) (cs := [_, _, _, _, _]) ⟨[.go, .go, .f, .f, .go, .go, .t], []⟩ ⟨h0, h1, (by decide +kernel : (1 : Nat) ≤ 1048576), h2, (by decide +kernel : (0 : Nat) ≤ 1048576), trivial⟩ (by kernel_rfl)
theorem aT_c2
    (h0 : (hasB (CF.qu c) (Str.ofString "a")) = false)
    (h1 : (hasB (CF.es c) (Str.ofString "a")) = false)
    (h2 : (hasB (CF.ws c) (ch k)) = false)
    (h3 : (hasB (CF.cm c) (ch k)) = true)
    (h4 : CallC (pg w mg mb) 59 false 541 [.obj 2] [] ([o0, lexP true c 2 3 4 5 (.str ("a" : Str)) ("" : Str) ln, ioOf buf ((i)), .deque pb, .deque [], .deque qc] ++ tl) (.inl (.str (y))) ([o0, lexP true c 2 3 4 5 (.str ("a" : Str)) ("" : Str) ln, ioOf buf ((j)), .deque pb, .deque [], .deque qc] ++ tl)) :
    ExC (pg w mg mb) 70 (fmOf (pg w mg mb).K 690 false) (rtSegB (pg w mg mb)) ⟨[("self", .obj 1), ("quoted", .bool true), ("escapedstate", .str x), ("nextchar", .str (ch k))], ([o0, lexP true c 2 3 4 5 (.str "a") ("" : Str) ln, ioOf buf i, .deque pb, .deque [], .deque qc] ++ tl)⟩ (.ok (.brk) ⟨[("self", .obj 1), ("quoted", .bool true), ("escapedstate", .str (x)), ("nextchar", .str (ch k))], ([o0, lexP true c 2 3 4 5 (.str (" " : Str)) ("" : Str) (ln + 1), ioOf buf ((j)), .deque pb, .deque [], .deque qc] ++ tl)⟩ O0 []) :=
  ExC.mk' (r := .inl (.brk)) (cs := [_, _, _, _, _, _, _]) ⟨[.go, .go, .f, .f, .go, .go, .f, .t], [.fn (.str y) ([o0, lexP true c 2 3 4 5 (.str "a") ("" : Str) ln, ioOf buf j, .deque pb, .deque [], .deque qc] ++ tl)]⟩ ⟨h0, h1, (by decide +kernel : (1 : Nat) ≤ 1048576), h2, h3, h4, (by decide +kernel : (0 : Nat) ≤ 1048576), trivial⟩ (by kernel_rfl)
theorem aT_q
    (h0 : (hasB (CF.qu c) (Str.ofString "a")) = false)
    (h1 : (hasB (CF.es c) (Str.ofString "a")) = false)
    (h2 : (hasB (CF.ws c) (ch k)) = false)
    (h3 : (hasB (CF.cm c) (ch k)) = false)
    (h4 : (hasB (CF.qu c) (ch k)) = true) :
    ExC (pg w mg mb) 70 (fmOf (pg w mg mb).K 690 false) (rtSegB (pg w mg mb)) ⟨[("self", .obj 1), ("quoted", .bool qd), ("escapedstate", .str x), ("nextchar", .str (ch k))], ([o0, lexP true c 2 3 4 5 (.str "a") tok ln, ioOf buf i, .deque pb, .deque [], .deque qc] ++ tl)⟩ (.ok (.next) ⟨[("self", .obj 1), ("quoted", .bool (qd)), ("escapedstate", .str (x)), ("nextchar", .str (ch k))], ([o0, lexP true c 2 3 4 5 (.str (ch k)) (tok) ln, ioOf buf ((i)), .deque pb, .deque [], .deque qc] ++ tl)⟩ O0 []) :=
  ExC.mk' (r := .inl (.next)) (cs := [_, _, _, _, _, _]) ⟨[.go, .go, .f, .f, .go, .go, .f, .f, .go, .go, .t], []⟩ ⟨h0, h1, (by decide +kernel : (1 : Nat) ≤ 1048576), h2, h3, h4, trivial⟩ (by kernel_rfl)
theorem aT_s
    (h0 : (hasB (CF.qu c) (Str.ofString "a")) = false)
    (h1 : (hasB (CF.es c) (Str.ofString "a")) = false)
    (h2 : (hasB (CF.ws c) (ch k)) = false)
    (h3 : (hasB (CF.cm c) (ch k)) = false)
    (h4 : (hasB (CF.qu c) (ch k)) = false)
    (h5 : (hasB (CF.es c) (ch k)) = true) :
    ExC (pg w mg mb) 70 (fmOf (pg w mg mb).K 690 false) (rtSegB (pg w mg mb)) ⟨[("self", .obj 1), ("quoted", .bool qd), ("escapedstate", .str x), ("nextchar", .str (ch k))], ([o0, lexP true c 2 3 4 5 (.str "a") tok ln, ioOf buf i, .deque pb, .deque [], .deque qc] ++ tl)⟩ (.ok (.next) ⟨[("self", .obj 1), ("quoted", .bool (qd)), ("escapedstate", .str ("a" : Str)), ("nextchar", .str (ch k))], ([o0, lexP true c 2 3 4 5 (.str (ch k)) (tok) ln, ioOf buf ((i)), .deque pb, .deque [], .deque qc] ++ tl)⟩ O0 []) :=
  ExC.mk' (r := .inl (.next)) (cs := [_, _, _, _, _, _, _]) ⟨[.go, .go, .f, .f, .go, .go, .f, .f, .go, .go, .f, .go, .go, .t], []⟩ ⟨h0, h1, (by decide +kernel : (1 : Nat) ≤ 1048576), h2, h3, h4, h5, trivial⟩ (by kernel_rfl)
theorem cT_e
    (h0 : (hasB (CF.qu c) (Str.ofString "c")) = false)
    (h1 : (hasB (CF.es c) (Str.ofString "c")) = false) :
    ExC (pg w mg mb) 70 (fmOf (pg w mg mb).K 690 false) (rtSegB (pg w mg mb)) ⟨[("self", .obj 1), ("quoted", .bool qd), ("escapedstate", .str x), ("nextchar", .str ("" : Str))], ([o0, lexP true c 2 3 4 5 (.str "c") tok ln, ioOf buf i, .deque pb, .deque [], .deque qc] ++ tl)⟩ (.ok (.brk) ⟨[("self", .obj 1), ("quoted", .bool (qd)), ("escapedstate", .str (x)), ("nextchar", .str ("" : Str))], ([o0, lexP true c 2 3 4 5 (.none) (tok) ln, ioOf buf ((i)), .deque pb, .deque [], .deque qc] ++ tl)⟩ O0 []) :=
  ExC.mk' (r := .inl (.brk)) (cs := [_, _, _]) ⟨[.go, .go, .f, .f], []⟩ ⟨h0, h1, (by decide +kernel : (0 : Nat) ≤ 1048576), trivial⟩ (by kernel_rfl)
theorem cT_w
    (h0 : (hasB (CF.qu c) (Str.ofString "c")) = false)
    (h1 : (hasB (CF.es c) (Str.ofString "c")) = false)
    (h2 : (hasB (CF.ws c) (ch k)) = true)
    (h3 : ((Str.length tok) : Nat) ≤ 1048576)
    (h4 : ((↑(Str.length tok) : Int) != 0) = true) :
    ExC (pg w mg mb) 70 (fmOf (pg w mg mb).K 690 false) (rtSegB (pg w mg mb)) ⟨[("self", .obj 1), ("quoted", .bool qd), ("escapedstate", .str x), ("nextchar", .str (ch k))], ([o0, lexP true c 2 3 4 5 (.str "c") tok ln, ioOf buf i, .deque pb, .deque [], .deque qc] ++ tl)⟩ (.ok (.brk) ⟨[("self", .obj 1), ("quoted", .bool (qd)), ("escapedstate", .str (x)), ("nextchar", .str (ch k))], ([o0, lexP true c 2 3 4 5 (.str (" " : Str)) (tok) ln, ioOf buf ((i)), .deque pb, .deque [], .deque qc] ++ tl)⟩ O0 []) :=
  ExC.mk' (r := .inl (.brk)) (cs := [_, _, _, _, _, _]) ⟨[.go, .go, .f, .f, .go, .go, .t, .go, .t], []⟩ ⟨h0, h1, (by decide +kernel : (1 : Nat) ≤ 1048576), h2, h3, h4, trivial⟩ (by kernel_rfl)
theorem cT_c
    (h0 : (hasB (CF.qu c) (Str.ofString "c")) = false)
    (h1 : (hasB (CF.es c) (Str.ofString "c")) = false)
    (h2 : (hasB (CF.ws c) (ch k)) = false)
    (h3 : (hasB (CF.cm c) (ch k)) = true)
    (h4 : CallC (pg w mg mb) 59 false 541 [.obj 2] [] ([o0, lexP true c 2 3 4 5 (.str ("c" : Str)) (tok) ln, ioOf buf ((i)), .deque pb, .deque [], .deque qc] ++ tl) (.inl (.str (y))) ([o0, lexP true c 2 3 4 5 (.str ("c" : Str)) (tok) ln, ioOf buf ((j)), .deque pb, .deque [], .deque qc] ++ tl))
    (h5 : ((Str.length tok) : Nat) ≤ 1048576)
    (h6 : ((↑(Str.length tok) : Int) != 0) = true) :
    ExC (pg w mg mb) 70 (fmOf (pg w mg mb).K 690 false) (rtSegB (pg w mg mb)) ⟨[("self", .obj 1), ("quoted", .bool qd), ("escapedstate", .str x), ("nextchar", .str (ch k))], ([o0, lexP true c 2 3 4 5 (.str "c") tok ln, ioOf buf i, .deque pb, .deque [], .deque qc] ++ tl)⟩ (.ok (.brk) ⟨[("self", .obj 1), ("quoted", .bool (qd)), ("escapedstate", .str (x)), ("nextchar", .str (ch k))], ([o0, lexP true c 2 3 4 5 (.str (" " : Str)) (tok) (ln + 1), ioOf buf ((j)), .deque pb, .deque [], .deque qc] ++ tl)⟩ O0 []) :=
  ExC.mk' (r := .inl (.brk)) (cs := [_, _, _, _, _, _, _, _]) ⟨[.go, .go, .f, .f, .go, .go, .f, .t, .go, .t], [.fn (.str y) ([o0, lexP true c 2 3 4 5 (.str "c") tok ln, ioOf buf j, .deque pb, .deque [], .deque qc] ++ tl)]⟩ ⟨h0, h1, (by decide +kernel : (1 : Nat) ≤ 1048576), h2, h3, h4, h5, h6, trivial⟩ (by kernel_rfl)
theorem aT_a
    (h0 : (hasB (CF.qu c) (Str.ofString "a")) = false)
    (h1 : (hasB (CF.es c) (Str.ofString "a")) = false)
    (h2 : (hasB (CF.ws c) (ch k)) = false)
    (h3 : (hasB (CF.cm c) (ch k)) = false)
    (h4 : (hasB (CF.qu c) (ch k)) = false)
    (h5 : (hasB (CF.es c) (ch k)) = false)
    (h6 : (hasB (CF.wc c) (ch k)) = true)
    (h7 : ((Str.length tok + Str.length (ch k)) : Nat) ≤ 16777216) :
    ExC (pg w mg mb) 70 (fmOf (pg w mg mb).K 690 false) (rtSegB (pg w mg mb)) ⟨[("self", .obj 1), ("quoted", .bool qd), ("escapedstate", .str x), ("nextchar", .str (ch k))], ([o0, lexP true c 2 3 4 5 (.str "a") tok ln, ioOf buf i, .deque pb, .deque [], .deque qc] ++ tl)⟩ (.ok (.next) ⟨[("self", .obj 1), ("quoted", .bool (qd)), ("escapedstate", .str (x)), ("nextchar", .str (ch k))], ([o0, lexP true c 2 3 4 5 (.str ("a" : Str)) (tok ++ ch k) ln, ioOf buf ((i)), .deque pb, .deque [], .deque qc] ++ tl)⟩ O0 []) :=
  ExC.mk' (r := .inl (.next)) (cs := [_, _, _, _, _, _, _, _, _]) ⟨[.go, .go, .f, .f, .go, .go, .f, .f, .go, .go, .f, .go, .go, .f, .go, .t], []⟩ ⟨h0, h1, (by decide +kernel : (1 : Nat) ≤ 1048576), h2, h3, h4, h5, h6, h7, trivial⟩ (by kernel_rfl)
theorem aT_split
    (h0 : (hasB (CF.qu c) (Str.ofString "a")) = false)
    (h1 : (hasB (CF.es c) (Str.ofString "a")) = false)
    (h2 : (hasB (CF.ws c) (ch k)) = false)
    (h3 : (hasB (CF.cm c) (ch k)) = false)
    (h4 : (hasB (CF.qu c) (ch k)) = false)
    (h5 : (hasB (CF.es c) (ch k)) = false)
    (h6 : (hasB (CF.wc c) (ch k)) = false)
    (h7 : (hasB (CF.qu c) (ch k)) = false)
    (h8 : (CF.split c) = true)
    (h9 : (!hasB (CF.pu c) (ch k)) = true)
    (h10 : ((Str.length tok + Str.length (ch k)) : Nat) ≤ 16777216) :
    ExC (pg w mg mb) 70 (fmOf (pg w mg mb).K 690 false) (rtSegB (pg w mg mb)) ⟨[("self", .obj 1), ("quoted", .bool qd), ("escapedstate", .str x), ("nextchar", .str (ch k))], ([o0, lexP true c 2 3 4 5 (.str "a") tok ln, ioOf buf i, .deque pb, .deque [], .deque qc] ++ tl)⟩ (.ok (.next) ⟨[("self", .obj 1), ("quoted", .bool (qd)), ("escapedstate", .str (x)), ("nextchar", .str (ch k))], ([o0, lexP true c 2 3 4 5 (.str ("a" : Str)) (tok ++ ch k) ln, ioOf buf ((i)), .deque pb, .deque [], .deque qc] ++ tl)⟩ O0 []) :=
  ExC.mk' (r := .inl (.next)) (cs := [_, _, _, _, _, _, _, _, _, _, _, _]) ⟨[.go, .go, .f, .f, .go, .go, .f, .f, .go, .go, .f, .go, .go, .f, .go, .f, .f, .t, .t], [.dn]⟩ ⟨h0, h1, (by decide +kernel : (1 : Nat) ≤ 1048576), h2, h3, h4, h5, h6, h7, h8, h9, h10, trivial⟩ (by kernel_rfl)
theorem aT_splitp
    (h0 : (hasB (CF.qu c) (Str.ofString "a")) = false)
    (h1 : (hasB (CF.es c) (Str.ofString "a")) = false)
    (h2 : (hasB (CF.ws c) (ch k)) = false)
    (h3 : (hasB (CF.cm c) (ch k)) = false)
    (h4 : (hasB (CF.qu c) (ch k)) = false)
    (h5 : (hasB (CF.es c) (ch k)) = false)
    (h6 : (hasB (CF.wc c) (ch k)) = false)
    (h7 : (hasB (CF.qu c) (ch k)) = false)
    (h8 : (CF.split c) = true)
    (h9 : (!hasB (CF.pu c) (ch k)) = false)
    (h10 : ((Str.length (CF.pu c)) : Nat) ≤ 1048576)
    (h11 : ((↑(Str.length (CF.pu c)) : Int) != 0) = true)
    (h12 : ((Str.length tok) : Nat) ≤ 1048576)
    (h13 : ((↑(Str.length tok) : Int) != 0) = true) :
    ExC (pg w mg mb) 70 (fmOf (pg w mg mb).K 690 false) (rtSegB (pg w mg mb)) ⟨[("self", .obj 1), ("quoted", .bool qd), ("escapedstate", .str x), ("nextchar", .str (ch k))], ([o0, lexP true c 2 3 4 5 (.str "a") tok ln, ioOf buf i, .deque pb, .deque [], .deque []] ++ tl)⟩ (.ok (.brk) ⟨[("self", .obj 1), ("quoted", .bool (qd)), ("escapedstate", .str (x)), ("nextchar", .str (ch k))], ([o0, lexP true c 2 3 4 5 (.str (" " : Str)) (tok) ln, ioOf buf ((i)), .deque pb, .deque [], .deque [.str (ch k)]] ++ tl)⟩ O0 []) :=
  ExC.mk' (r := .inl (.brk)) (cs := [_, _, _, _, _, _, _, _, _, _, _, _, _, _, _, _]) ⟨[.go, .go, .f, .f, .go, .go, .f, .f, .go, .go, .f, .go, .go, .f, .go, .f, .f, .t, .f, .go, .go, .t, .go, .t], [.dn, .dn]⟩ ⟨h0, h1, (by decide +kernel : (1 : Nat) ≤ 1048576), h2, h3, h4, h5, h6, h7, h8, h9, h10, h11, (by decide +kernel : (0 : Nat) ≤ 1000000), h12, h13, trivial⟩ (by kernel_rfl)
theorem aT_o
    (h0 : (hasB (CF.qu c) (Str.ofString "a")) = false)
    (h1 : (hasB (CF.es c) (Str.ofString "a")) = false)
    (h2 : (hasB (CF.ws c) (ch k)) = false)
    (h3 : (hasB (CF.cm c) (ch k)) = false)
    (h4 : (hasB (CF.qu c) (ch k)) = false)
    (h5 : (hasB (CF.es c) (ch k)) = false)
    (h6 : (hasB (CF.wc c) (ch k)) = false)
    (h7 : (hasB (CF.qu c) (ch k)) = false)
    (h8 : (CF.split c) = false)
    (h9 : ((Str.length (CF.pu c)) : Nat) ≤ 1048576)
    (h10 : ((↑(Str.length (CF.pu c)) : Int) != 0) = true)
    (h11 : ((Str.length tok) : Nat) ≤ 1048576)
    (h12 : ((↑(Str.length tok) : Int) != 0) = true) :
    ExC (pg w mg mb) 70 (fmOf (pg w mg mb).K 690 false) (rtSegB (pg w mg mb)) ⟨[("self", .obj 1), ("quoted", .bool qd), ("escapedstate", .str x), ("nextchar", .str (ch k))], ([o0, lexP true c 2 3 4 5 (.str "a") tok ln, ioOf buf i, .deque pb, .deque [], .deque []] ++ tl)⟩ (.ok (.brk) ⟨[("self", .obj 1), ("quoted", .bool (qd)), ("escapedstate", .str (x)), ("nextchar", .str (ch k))], ([o0, lexP true c 2 3 4 5 (.str (" " : Str)) (tok) ln, ioOf buf ((i)), .deque pb, .deque [], .deque [.str (ch k)]] ++ tl)⟩ O0 []) :=
  ExC.mk' (r := .inl (.brk)) (cs := [_, _, _, _, _, _, _, _, _, _, _, _, _, _, _]) ⟨[.go, .go, .f, .f, .go, .go, .f, .f, .go, .go, .f, .go, .go, .f, .go, .f, .f, .f, .go, .go, .t, .go, .t], [.dn]⟩ ⟨h0, h1, (by decide +kernel : (1 : Nat) ≤ 1048576), h2, h3, h4, h5, h6, h7, h8, h9, h10, (by decide +kernel : (0 : Nat) ≤ 1000000), h11, h12, trivial⟩ (by kernel_rfl)
theorem aT_o2
    (h0 : (hasB (CF.qu c) (Str.ofString "a")) = false)
    (h1 : (hasB (CF.es c) (Str.ofString "a")) = false)
    (h2 : (hasB (CF.ws c) (ch k)) = false)
    (h3 : (hasB (CF.cm c) (ch k)) = false)
    (h4 : (hasB (CF.qu c) (ch k)) = false)
    (h5 : (hasB (CF.es c) (ch k)) = false)
    (h6 : (hasB (CF.wc c) (ch k)) = false)
    (h7 : (hasB (CF.qu c) (ch k)) = false)
    (h8 : (CF.split c) = false)
    (h9 : ((Str.length (CF.pu c)) : Nat) ≤ 1048576)
    (h10 : ((↑(Str.length (CF.pu c)) : Int) != 0) = true) :
    ExC (pg w mg mb) 70 (fmOf (pg w mg mb).K 690 false) (rtSegB (pg w mg mb)) ⟨[("self", .obj 1), ("quoted", .bool true), ("escapedstate", .str x), ("nextchar", .str (ch k))], ([o0, lexP true c 2 3 4 5 (.str "a") ("" : Str) ln, ioOf buf i, .deque pb, .deque [], .deque []] ++ tl)⟩ (.ok (.brk) ⟨[("self", .obj 1), ("quoted", .bool true), ("escapedstate", .str (x)), ("nextchar", .str (ch k))], ([o0, lexP true c 2 3 4 5 (.str (" " : Str)) ("" : Str) ln, ioOf buf ((i)), .deque pb, .deque [], .deque [.str (ch k)]] ++ tl)⟩ O0 []) :=
  ExC.mk' (r := .inl (.brk)) (cs := [_, _, _, _, _, _, _, _, _, _, _, _, _, _]) ⟨[.go, .go, .f, .f, .go, .go, .f, .f, .go, .go, .f, .go, .go, .f, .go, .f, .f, .f, .go, .go, .t], [.dn]⟩ ⟨h0, h1, (by decide +kernel : (1 : Nat) ≤ 1048576), h2, h3, h4, h5, h6, h7, h8, h9, h10, (by decide +kernel : (0 : Nat) ≤ 1000000), (by decide +kernel : (0 : Nat) ≤ 1048576), trivial⟩ (by kernel_rfl)
theorem aT_splitp2
    (h0 : (hasB (CF.qu c) (Str.ofString "a")) = false)
    (h1 : (hasB (CF.es c) (Str.ofString "a")) = false)
    (h2 : (hasB (CF.ws c) (ch k)) = false)
    (h3 : (hasB (CF.cm c) (ch k)) = false)
    (h4 : (hasB (CF.qu c) (ch k)) = false)
    (h5 : (hasB (CF.es c) (ch k)) = false)
    (h6 : (hasB (CF.wc c) (ch k)) = false)
    (h7 : (hasB (CF.qu c) (ch k)) = false)
    (h8 : (CF.split c) = true)
    (h9 : (!hasB (CF.pu c) (ch k)) = false)
    (h10 : ((Str.length (CF.pu c)) : Nat) ≤ 1048576)
    (h11 : ((↑(Str.length (CF.pu c)) : Int) != 0) = true) :
    ExC (pg w mg mb) 70 (fmOf (pg w mg mb).K 690 false) (rtSegB (pg w mg mb)) ⟨[("self", .obj 1), ("quoted", .bool true), ("escapedstate", .str x), ("nextchar", .str (ch k))], ([o0, lexP true c 2 3 4 5 (.str "a") ("" : Str) ln, ioOf buf i, .deque pb, .deque [], .deque []] ++ tl)⟩ (.ok (.brk) ⟨[("self", .obj 1), ("quoted", .bool true), ("escapedstate", .str (x)), ("nextchar", .str (ch k))], ([o0, lexP true c 2 3 4 5 (.str (" " : Str)) ("" : Str) ln, ioOf buf ((i)), .deque pb, .deque [], .deque [.str (ch k)]] ++ tl)⟩ O0 []) :=
  ExC.mk' (r := .inl (.brk)) (cs := [_, _, _, _, _, _, _, _, _, _, _, _, _, _, _]) ⟨[.go, .go, .f, .f, .go, .go, .f, .f, .go, .go, .f, .go, .go, .f, .go, .f, .f, .t, .f, .go, .go, .t], [.dn, .dn]⟩ ⟨h0, h1, (by decide +kernel : (1 : Nat) ≤ 1048576), h2, h3, h4, h5, h6, h7, h8, h9, h10, h11, (by decide +kernel : (0 : Nat) ≤ 1000000), (by decide +kernel : (0 : Nat) ≤ 1048576), trivial⟩ (by kernel_rfl)
theorem cT_p
    (h0 : (hasB (CF.qu c) (Str.ofString "c")) = false)
    (h1 : (hasB (CF.es c) (Str.ofString "c")) = false)
    (h2 : (hasB (CF.ws c) (ch k)) = false)
    (h3 : (hasB (CF.cm c) (ch k)) = false)
    (h4 : (hasB (CF.pu c) (ch k)) = true)
    (h5 : ((Str.length tok + Str.length (ch k)) : Nat) ≤ 16777216) :
    ExC (pg w mg mb) 70 (fmOf (pg w mg mb).K 690 false) (rtSegB (pg w mg mb)) ⟨[("self", .obj 1), ("quoted", .bool qd), ("escapedstate", .str x), ("nextchar", .str (ch k))], ([o0, lexP true c 2 3 4 5 (.str "c") tok ln, ioOf buf i, .deque pb, .deque [], .deque qc] ++ tl)⟩ (.ok (.next) ⟨[("self", .obj 1), ("quoted", .bool (qd)), ("escapedstate", .str (x)), ("nextchar", .str (ch k))], ([o0, lexP true c 2 3 4 5 (.str ("c" : Str)) (tok ++ ch k) ln, ioOf buf ((i)), .deque pb, .deque [], .deque qc] ++ tl)⟩ O0 []) :=
  ExC.mk' (r := .inl (.next)) (cs := [_, _, _, _, _, _, _]) ⟨[.go, .go, .f, .f, .go, .go, .f, .f, .go, .t], [.dn]⟩ ⟨h0, h1, (by decide +kernel : (1 : Nat) ≤ 1048576), h2, h3, h4, h5, trivial⟩ (by kernel_rfl)
theorem cT_o
    (h0 : (hasB (CF.qu c) (Str.ofString "c")) = false)
    (h1 : (hasB (CF.es c) (Str.ofString "c")) = false)
    (h2 : (hasB (CF.ws c) (ch k)) = false)
    (h3 : (hasB (CF.cm c) (ch k)) = false)
    (h4 : (hasB (CF.pu c) (ch k)) = false)
    (h5 : (!hasB (CF.ws c) (ch k)) = true) :
    ExC (pg w mg mb) 70 (fmOf (pg w mg mb).K 690 false) (rtSegB (pg w mg mb)) ⟨[("self", .obj 1), ("quoted", .bool qd), ("escapedstate", .str x), ("nextchar", .str (ch k))], ([o0, lexP true c 2 3 4 5 (.str "c") tok ln, ioOf buf i, .deque pb, .deque [], .deque []] ++ tl)⟩ (.ok (.brk) ⟨[("self", .obj 1), ("quoted", .bool (qd)), ("escapedstate", .str (x)), ("nextchar", .str (ch k))], ([o0, lexP true c 2 3 4 5 (.str (" " : Str)) (tok) ln, ioOf buf ((i)), .deque pb, .deque [], .deque [.str (ch k)]] ++ tl)⟩ O0 []) :=
  ExC.mk' (r := .inl (.brk)) (cs := [_, _, _, _, _, _, _, _]) ⟨[.go, .go, .f, .f, .go, .go, .f, .f, .go, .f, .t], [.dn]⟩ ⟨h0, h1, (by decide +kernel : (1 : Nat) ≤ 1048576), h2, h3, h4, h5, (by decide +kernel : (0 : Nat) ≤ 1000000), trivial⟩ (by kernel_rfl)
end
end Mini
namespace Mini
open PySem PySem.W PySem.Calls PyProof.Rows
section
variable {w : World} {mg mb : Str → Option Value}
variable {o0 ol od of oq : LO} {text buf tok tok' x : Str} {tl : List LO} {i ln j ln' : Int} {c : CF} {pb qc pb' qc' : List V} {st st' v : V}
theorem io_init :
    CallC (pg w mg mb) 30 false 357 [.obj 2, .str text] [] [o0, .inst 722 [], .inst 587 []] (.inl (.none)) [o0, .inst 722 [], ioOf text 0] :=
  CallC.mk' (cs := []) ⟨[], []⟩ trivial (fun loc => by kernel_rfl)
theorem io_read
    (h0 : ((Str.length buf) : Nat) < 9223372036854775808)
    (h1 : (decide ((↑(Str.length buf) : Int) ≤ i)) = false)
    (h2 : (decide (i + 1 < (↑(Str.length buf) : Int))) = true)
    (h3 : ((Str.length buf) : Nat) ≤ 16777216)
    (h4 : ((Str.length (Txt.slice buf (some i) (some (i + 1))) + 1) : Nat) ≤ 16777216)
    (h5 : ((Str.length (Txt.slice buf (some i) (some (i + 1)) ++ Str.ofString " ")) : Nat) ≤ 16777216) :
    CallC (pg w mg mb) 30 false 533 [.obj 2, .int 1] [] ([o0, ol, ioOf buf i, od, of, oq] ++ tl) (.inl (.str (Txt.slice (Txt.slice buf (some i) (some (i + 1)) ++ Str.ofString " ") none (some (-1))))) ([o0, ol, ioOf buf ((i + 1)), od, of, oq] ++ tl) :=
  CallC.mk' (cs := [_, _, _, _, _, _]) ⟨[.go, .go, .go, .go, .go, .go, .go, .f, .go, .t], []⟩ ⟨h0, h1, h2, h3, h4, h5, trivial⟩ (fun loc => by kernel_rfl)
theorem io_read1
    (h0 : ((Str.length buf) : Nat) < 9223372036854775808)
    (h1 : (decide ((↑(Str.length buf) : Int) ≤ i)) = false)
    (h2 : (decide (i + 1 < (↑(Str.length buf) : Int))) = false)
    (h3 : ((Str.length buf) : Nat) ≤ 16777216)
    (h4 : ((Str.length (Txt.slice buf (some i) (some (↑(Str.length buf) : Int))) + 1) : Nat) ≤ 16777216)
    (h5 : ((Str.length (Txt.slice buf (some i) (some (↑(Str.length buf) : Int)) ++ Str.ofString " ")) : Nat) ≤ 16777216) :
    CallC (pg w mg mb) 30 false 533 [.obj 2, .int 1] [] ([o0, ol, ioOf buf i, od, of, oq] ++ tl) (.inl (.str (Txt.slice (Txt.slice buf (some i) (some (↑(Str.length buf) : Int)) ++ Str.ofString " ") none (some (-1))))) ([o0, ol, ioOf buf (((↑(Str.length buf) : Int))), od, of, oq] ++ tl) :=
  CallC.mk' (cs := [_, _, _, _, _, _]) ⟨[.go, .go, .go, .go, .go, .go, .go, .f, .go, .f], []⟩ ⟨h0, h1, h2, h3, h4, h5, trivial⟩ (fun loc => by kernel_rfl)
theorem io_readE
    (h0 : ((Str.length buf) : Nat) < 9223372036854775808)
    (h1 : (decide ((↑(Str.length buf) : Int) ≤ i)) = true) :
    CallC (pg w mg mb) 30 false 533 [.obj 2, .int 1] [] ([o0, ol, ioOf buf i, od, of, oq] ++ tl) (.inl (.str ("" : Str))) ([o0, ol, ioOf buf ((i)), od, of, oq] ++ tl) :=
  CallC.mk' (cs := [_, _]) ⟨[.go, .go, .go, .go, .go, .go, .go, .t], []⟩ ⟨h0, h1, trivial⟩ (fun loc => by kernel_rfl)
theorem io_line
    (h0 : ((Str.length buf) : Nat) < 9223372036854775808)
    (h1 : (decide ((↑(Str.length buf) : Int) ≤ i)) = false)
    (h2 : (decide (0 ≤ find4 buf (Str.ofString "\n") i (↑(Str.length buf) : Int))) = true)
    (h3 : ((Str.length buf) : Nat) ≤ 16777216)
    (h4 : ((Str.length
    (Txt.slice buf (some i)
      (some (find4 buf (Str.ofString "\n") i (↑(Str.length buf) : Int) + (↑(Str.length (Str.ofString "\n")) : Int)))) +
  1) : Nat) ≤ 16777216)
    (h5 : ((Str.length
  (Txt.slice buf (some i)
      (some (find4 buf (Str.ofString "\n") i (↑(Str.length buf) : Int) + (↑(Str.length (Str.ofString "\n")) : Int))) ++
    Str.ofString " ")) : Nat) ≤ 16777216) :
    CallC (pg w mg mb) 30 false 541 [.obj 2] [] ([o0, ol, ioOf buf i, od, of, oq] ++ tl) (.inl (.str (Txt.slice
  (Txt.slice buf (some i)
      (some (find4 buf (Str.ofString "\n") i (↑(Str.length buf) : Int) + (↑(Str.length (Str.ofString "\n")) : Int))) ++
    Str.ofString " ")
  none (some (-1))))) ([o0, ol, ioOf buf ((find4 buf (Str.ofString "\n") i (↑(Str.length buf) : Int) + 1)), od, of, oq] ++ tl) :=
  CallC.mk' (cs := [_, _, _, _, _, _, _]) ⟨[.go, .go, .go, .go, .go, .go, .go, .f, .go, .go, .go, .go, .go, .go, .t], []⟩ ⟨h0, h1, h2, (by decide +kernel : (1 : Nat) < 9223372036854775808), h3, h4, h5, trivial⟩ (fun loc => by kernel_rfl)
theorem io_line0
    (h0 : ((Str.length buf) : Nat) < 9223372036854775808)
    (h1 : (decide ((↑(Str.length buf) : Int) ≤ i)) = false)
    (h2 : (decide (0 ≤ find4 buf (Str.ofString "\n") i (↑(Str.length buf) : Int))) = false)
    (h3 : ((Str.length buf) : Nat) ≤ 16777216)
    (h4 : ((Str.length (Txt.slice buf (some i) (some (↑(Str.length buf) : Int))) + 1) : Nat) ≤ 16777216)
    (h5 : ((Str.length (Txt.slice buf (some i) (some (↑(Str.length buf) : Int)) ++ Str.ofString " ")) : Nat) ≤ 16777216) :
    CallC (pg w mg mb) 30 false 541 [.obj 2] [] ([o0, ol, ioOf buf i, od, of, oq] ++ tl) (.inl (.str (Txt.slice (Txt.slice buf (some i) (some (↑(Str.length buf) : Int)) ++ Str.ofString " ") none (some (-1))))) ([o0, ol, ioOf buf (((↑(Str.length buf) : Int))), od, of, oq] ++ tl) :=
  CallC.mk' (cs := [_, _, _, _, _, _]) ⟨[.go, .go, .go, .go, .go, .go, .go, .f, .go, .go, .go, .go, .go, .go, .f], []⟩ ⟨h0, h1, h2, h3, h4, h5, trivial⟩ (fun loc => by kernel_rfl)
theorem io_lineE
    (h0 : ((Str.length buf) : Nat) < 9223372036854775808)
    (h1 : (decide ((↑(Str.length buf) : Int) ≤ i)) = true) :
    CallC (pg w mg mb) 30 false 541 [.obj 2] [] ([o0, ol, ioOf buf i, od, of, oq] ++ tl) (.inl (.str ("" : Str))) ([o0, ol, ioOf buf ((i)), od, of, oq] ++ tl) :=
  CallC.mk' (cs := [_, _]) ⟨[.go, .go, .go, .go, .go, .go, .go, .t], []⟩ ⟨h0, h1, trivial⟩ (fun loc => by kernel_rfl)
theorem rt_q
    (h0 : StC (pg w mg mb) 108 (rtFm (pg w mg mb)) ⟨[("self", .obj 1), ("quoted", .bool false), ("escapedstate", .str (" " : Str))], ([o0, lexP true c 2 3 4 5 ((st)) (tok) ln, ioOf buf ((i)), .deque pb, .deque [], .deque qc] ++ tl)⟩ (rtWhile (pg w mg mb)) (.ok (.next) ⟨[("self", .obj 1), ("quoted", .bool true), ("escapedstate", .str (x))], ([o0, lexP true c 2 3 4 5 ((st')) (tok') (ln'), ioOf buf ((j)), .deque (pb'), .deque [], .deque (qc')] ++ tl)⟩ ⟨[], []⟩ [])) :
    CallC (pg w mg mb) 110 false 690 [.obj 1] [] ([o0, lexP true c 2 3 4 5 (st) tok ln, ioOf buf i, .deque pb, .deque [], .deque qc] ++ tl) (.inl (.str (tok'))) ([o0, lexP true c 2 3 4 5 ((st')) ("" : Str) (ln'), ioOf buf ((j)), .deque (pb'), .deque [], .deque (qc')] ++ tl) :=
  CallC.mk' (cs := [_]) ⟨[], [.dn, .lp .next ⟨[("self", .obj 1), ("quoted", .bool true), ("escapedstate", .str x)], ([o0, lexP true c 2 3 4 5 (st') tok' ln', ioOf buf j, .deque pb', .deque [], .deque qc'] ++ tl)⟩]⟩ ⟨h0, trivial⟩ (fun loc => by kernel_rfl)
theorem rt_t
    (h0 : StC (pg w mg mb) 108 (rtFm (pg w mg mb)) ⟨[("self", .obj 1), ("quoted", .bool false), ("escapedstate", .str (" " : Str))], ([o0, lexP true c 2 3 4 5 ((st)) (tok) ln, ioOf buf ((i)), .deque pb, .deque [], .deque qc] ++ tl)⟩ (rtWhile (pg w mg mb)) (.ok (.next) ⟨[("self", .obj 1), ("quoted", .bool false), ("escapedstate", .str (x))], ([o0, lexP true c 2 3 4 5 ((st')) (tok') (ln'), ioOf buf ((j)), .deque (pb'), .deque [], .deque (qc')] ++ tl)⟩ ⟨[], []⟩ []))
    (h1 : (tok' == Str.ofString "") = false) :
    CallC (pg w mg mb) 110 false 690 [.obj 1] [] ([o0, lexP true c 2 3 4 5 (st) tok ln, ioOf buf i, .deque pb, .deque [], .deque qc] ++ tl) (.inl (.str (tok'))) ([o0, lexP true c 2 3 4 5 ((st')) ("" : Str) (ln'), ioOf buf ((j)), .deque (pb'), .deque [], .deque (qc')] ++ tl) :=
  CallC.mk' (cs := [_, _]) ⟨[.go, .go, .f], [.dn, .lp .next ⟨[("self", .obj 1), ("quoted", .bool false), ("escapedstate", .str x)], ([o0, lexP true c 2 3 4 5 (st') tok' ln', ioOf buf j, .deque pb', .deque [], .deque qc'] ++ tl)⟩]⟩ ⟨h0, h1, trivial⟩ (fun loc => by kernel_rfl)
theorem rt_n
    (h0 : StC (pg w mg mb) 108 (rtFm (pg w mg mb)) ⟨[("self", .obj 1), ("quoted", .bool false), ("escapedstate", .str (" " : Str))], ([o0, lexP true c 2 3 4 5 ((st)) (tok) ln, ioOf buf ((i)), .deque pb, .deque [], .deque qc] ++ tl)⟩ (rtWhile (pg w mg mb)) (.ok (.next) ⟨[("self", .obj 1), ("quoted", .bool false), ("escapedstate", .str (x))], ([o0, lexP true c 2 3 4 5 ((st')) ("" : Str) (ln'), ioOf buf ((j)), .deque (pb'), .deque [], .deque (qc')] ++ tl)⟩ ⟨[], []⟩ [])) :
    CallC (pg w mg mb) 110 false 690 [.obj 1] [] ([o0, lexP true c 2 3 4 5 (st) tok ln, ioOf buf i, .deque pb, .deque [], .deque qc] ++ tl) (.inl (.none)) ([o0, lexP true c 2 3 4 5 ((st')) ("" : Str) (ln'), ioOf buf ((j)), .deque (pb'), .deque [], .deque (qc')] ++ tl) :=
  CallC.mk' (cs := [_]) ⟨[], [.dn, .lp .next ⟨[("self", .obj 1), ("quoted", .bool false), ("escapedstate", .str x)], ([o0, lexP true c 2 3 4 5 (st') ("" : Str) ln', ioOf buf j, .deque pb', .deque [], .deque qc'] ++ tl)⟩]⟩ ⟨h0, trivial⟩ (fun loc => by kernel_rfl)
theorem gt_t {r : Str} :
    TeC (pg w mg mb) 60 (gtFm (pg w mg mb)) (testOf (gtWhile (pg w mg mb))) ⟨[("self", .obj 1), ("raw", .str r)], ([o0, lexP true c 2 3 4 5 (st) tok ln, ioOf buf i, .deque pb, .deque [], .deque qc] ++ tl)⟩ false ⟨[("self", .obj 1), ("raw", .str (r))], ([o0, lexP true c 2 3 4 5 ((st)) (tok) ln, ioOf buf ((i)), .deque pb, .deque [], .deque qc] ++ tl)⟩ :=
  TeC.mk' (cs := []) ⟨[], []⟩ trivial (by kernel_rfl)
theorem gt_t1 :
    TeC (pg w mg mb) 60 (gtFm (pg w mg mb)) (testOf (gtWhile (pg w mg mb))) ⟨[("self", .obj 1), ("raw", .none)], ([o0, lexP true c 2 3 4 5 (st) tok ln, ioOf buf i, .deque pb, .deque [], .deque qc] ++ tl)⟩ true ⟨[("self", .obj 1), ("raw", .none)], ([o0, lexP true c 2 3 4 5 ((st)) (tok) ln, ioOf buf ((i)), .deque pb, .deque [], .deque qc] ++ tl)⟩ :=
  TeC.mk' (cs := []) ⟨[], []⟩ trivial (by kernel_rfl)
theorem gt_b :
    ExC (pg w mg mb) 60 (gtFm (pg w mg mb)) (loopIn (gtWhile (pg w mg mb))) ⟨[("self", .obj 1), ("raw", .none)], ([o0, lexP true c 2 3 4 5 (st) tok ln, ioOf buf i, .deque pb, .deque [], .deque qc] ++ tl)⟩ (.ok (.ret (.none)) ⟨[("self", .obj 1), ("raw", .none)], ([o0, lexP true c 2 3 4 5 ((st)) (tok) ln, ioOf buf ((i)), .deque pb, .deque [], .deque qc] ++ tl)⟩ O0 []) :=
  ExC.mk' (r := .inl (.ret (.none))) (cs := [_]) ⟨[], []⟩ ⟨(by decide +kernel : (0 : Nat) ≤ 1048576), trivial⟩ (by kernel_rfl)
theorem gt_go {r : V}
    (h0 : CallC (pg w mg mb) 126 false 690 [.obj 1] [] ([o0, lexP true c 2 3 4 5 ((st)) (tok) ln, ioOf buf ((i)), .deque [], .deque [], .deque qc] ++ tl) (.inl ((r))) ([o0, lexP true c 2 3 4 5 ((st')) (tok') (ln'), ioOf buf ((j)), .deque (pb'), .deque [], .deque (qc')] ++ tl))
    (h1 : StC (pg w mg mb) 128 (gtFm (pg w mg mb)) ⟨[("self", .obj 1), ("raw", (r))], ([o0, lexP true c 2 3 4 5 ((st')) (tok') (ln'), ioOf buf ((j)), .deque (pb'), .deque [], .deque (qc')] ++ tl)⟩ (gtWhile (pg w mg mb)) (.ok (.next) ⟨[("self", .obj 1), ("raw", (r))], ([o0, lexP true c 2 3 4 5 ((st')) (tok') (ln'), ioOf buf ((j)), .deque (pb'), .deque [], .deque (qc')] ++ tl)⟩ ⟨[], []⟩ [])) :
    CallC (pg w mg mb) 130 false 683 [.obj 1] [] ([o0, lexP true c 2 3 4 5 (st) tok ln, ioOf buf i, .deque [], .deque [], .deque qc] ++ tl) (.inl ((retV (Fl.ret r)))) ([o0, lexP true c 2 3 4 5 ((st')) (tok') (ln'), ioOf buf ((j)), .deque (pb'), .deque [], .deque (qc')] ++ tl) :=
  CallC.mk' (cs := [_, _, _]) ⟨[], [.dn, .fn r ([o0, lexP true c 2 3 4 5 (st') tok' ln', ioOf buf j, .deque pb', .deque [], .deque qc'] ++ tl), .lp .next ⟨[("self", .obj 1), ("raw", r)], ([o0, lexP true c 2 3 4 5 (st') tok' ln', ioOf buf j, .deque pb', .deque [], .deque qc'] ++ tl)⟩]⟩ ⟨(by decide +kernel : (0 : Nat) ≤ 1048576), h0, h1, trivial⟩ (fun loc => by kernel_rfl)
theorem gt_end {r : V}
    (h0 : CallC (pg w mg mb) 126 false 690 [.obj 1] [] ([o0, lexP true c 2 3 4 5 ((st)) (tok) ln, ioOf buf ((i)), .deque [], .deque [], .deque qc] ++ tl) (.inl ((r))) ([o0, lexP true c 2 3 4 5 ((st')) (tok') (ln'), ioOf buf ((j)), .deque (pb'), .deque [], .deque (qc')] ++ tl))
    (h1 : StC (pg w mg mb) 128 (gtFm (pg w mg mb)) ⟨[("self", .obj 1), ("raw", (r))], ([o0, lexP true c 2 3 4 5 ((st')) (tok') (ln'), ioOf buf ((j)), .deque (pb'), .deque [], .deque (qc')] ++ tl)⟩ (gtWhile (pg w mg mb)) (.ok (.ret ((v))) ⟨[("self", .obj 1), ("raw", (r))], ([o0, lexP true c 2 3 4 5 ((st')) (tok') (ln'), ioOf buf ((j)), .deque (pb'), .deque [], .deque (qc')] ++ tl)⟩ ⟨[], []⟩ [])) :
    CallC (pg w mg mb) 130 false 683 [.obj 1] [] ([o0, lexP true c 2 3 4 5 (st) tok ln, ioOf buf i, .deque [], .deque [], .deque qc] ++ tl) (.inl ((retV (Fl.ret v)))) ([o0, lexP true c 2 3 4 5 ((st')) (tok') (ln'), ioOf buf ((j)), .deque (pb'), .deque [], .deque (qc')] ++ tl) :=
  CallC.mk' (cs := [_, _, _]) ⟨[], [.dn, .fn r ([o0, lexP true c 2 3 4 5 (st') tok' ln', ioOf buf j, .deque pb', .deque [], .deque qc'] ++ tl), .lp (.ret v) ⟨[("self", .obj 1), ("raw", r)], ([o0, lexP true c 2 3 4 5 (st') tok' ln', ioOf buf j, .deque pb', .deque [], .deque qc'] ++ tl)⟩]⟩ ⟨(by decide +kernel : (0 : Nat) ≤ 1048576), h0, h1, trivial⟩ (fun loc => by kernel_rfl)
end
end Mini
namespace Mini
open PySem PySem.W PySem.Calls PyProof.Rows PySem.Builtin PySem.Builtin.Str
theorem nle {a b c : Nat} (h : a ≤ b) (hc : b ≤ c := by decide) : a ≤ c := Nat.le_trans h hc
theorem ch_tx (k : Nat) : ch k = tx [k] := rfl
theorem rd_val {l : List Nat} {i k : Nat} (h : l[i]? = some k) : Txt.slice (Txt.slice (tx l) (some (i : Int)) (some ((i : Int) + 1)) ++ Str.ofString " ") none (some (-1)) = ch k := by
  have hi := (List.getElem?_eq_some_iff.mp h).1
  have e : ((i : Int) + 1) = ((i + 1 : Nat) : Int) := rfl
  rw [e, slice_midK l (Nat.le_add_right i 1) hi, Nat.add_sub_cancel_left, show Str.ofString " " = tx [32] by decide +kernel, tx_app, slice_butLast, List.drop_eq_getElem_cons hi]
  have := (List.getElem?_eq_some_iff.mp h).2
  rw [this]; rfl
theorem rd_val1 {l : List Nat} {i k : Nat} (h : l[i]? = some k) (hl : i + 1 = l.length) : Txt.slice (Txt.slice (tx l) (some (i : Int)) (some ((tx l).length : Int)) ++ Str.ofString " ") none (some (-1)) = ch k := by
  rw [tx_len, ← hl]
  exact rd_val h
noncomputable def lineLen : List Nat → Nat
  | [] => 0
  | k :: r => if k = 10 then 1 else lineLen r + 1
theorem lineLen_find : ∀ l : List Nat, lineLen l = match l.findIdx? (· == 10) with | some j => j + 1 | none => l.length
  | [] => rfl
  | k :: r => by
    unfold lineLen
    rw [List.findIdx?_cons]
    by_cases hk : k = 10
    · rw [if_pos hk, hk]; rfl
    · rw [if_neg hk, beq_eq_false_iff_ne.mpr hk, lineLen_find r]
      cases r.findIdx? (· == 10) with
      | none => simp
      | some j => rfl
section
variable {w : World} {mg mb : Str → Option Value} {tl : List LO} {o0 ol od of oq : LO} {txt : List Nat}
theorem app_len (a b : Str) : (a ++ b).length = a.length + b.length := by
  show (a.cps ++ b.cps).size = _; rw [Array.size_append]; rfl
structure Sz (txt : List Nat) : Prop where
  b : (tx txt).length < 9223372036854775808
  m : (tx txt).length ≤ 16777216
  s : ∀ lo hi, (Txt.slice (tx txt) lo hi).length + 1 ≤ 16777216
  a : ∀ lo hi, (Txt.slice (tx txt) lo hi ++ Str.ofString " ").length ≤ 16777216
theorem sz_of (hl : txt.length ≤ 1000000) : Sz txt := by
  have hz : (tx txt).length = txt.length := tx_len txt
  have s : ∀ lo hi, (Txt.slice (tx txt) lo hi).length + 1 ≤ 16777216 := fun lo hi => nle (Nat.succ_le_succ (Nat.le_trans (Txt.slice_le (tx txt) lo hi) (Nat.le_trans (Nat.le_of_eq hz) hl)))
  exact ⟨by rw [hz]; exact Nat.lt_of_le_of_lt hl (by decide), by rw [hz]; exact nle hl, s, fun lo hi => by rw [app_len, show (Str.ofString " ").length = 1 by decide +kernel]; exact s lo hi⟩
theorem past_no {i : Nat} (h : i < txt.length) : decide (((tx txt).length : Int) ≤ (i : Int)) = false := by rw [tx_len]; exact decide_eq_false (Int.not_le.mpr (Int.ofNat_lt.mpr h))
theorem past_yes {i : Nat} (h : txt.length ≤ i) : decide (((tx txt).length : Int) ≤ (i : Int)) = true := by rw [tx_len]; exact decide_eq_true (Int.ofNat_le.mpr h)
theorem rd {i k : Nat} (hl : txt.length ≤ 1000000) (h : txt[i]? = some k) : CallC (pg w mg mb) 30 false 533 [.obj 2, .int 1] [] ([o0, ol, ioOf (tx txt) i, od, of, oq] ++ tl) (.inl (.str (ch k))) ([o0, ol, ioOf (tx txt) ((i + 1 : Nat) : Int), od, of, oq] ++ tl) := by
  have hi := (List.getElem?_eq_some_iff.mp h).1
  have hz : (tx txt).length = txt.length := tx_len txt
  have Z := sz_of hl
  by_cases hlast : i + 1 < txt.length
  · have main := io_read (w := w) (mg := mg) (mb := mb) (tl := tl) (o0 := o0) (ol := ol) (od := od) (of := of) (oq := oq) (buf := tx txt) (i := (i : Int)) Z.b (past_no hi) (by rw [hz]; exact decide_eq_true (Int.ofNat_lt.mpr hlast)) Z.m (Z.s _ _) (Z.a _ _)
    rw [rd_val h] at main
    exact main
  · have hl1 : i + 1 = txt.length := Nat.le_antisymm hi (Nat.not_lt.mp hlast)
    have main := io_read1 (w := w) (mg := mg) (mb := mb) (tl := tl) (o0 := o0) (ol := ol) (od := od) (of := of) (oq := oq) (buf := tx txt) (i := (i : Int)) Z.b (past_no hi) (by rw [hz]; exact decide_eq_false fun q => hlast (Int.ofNat_lt.mp q)) Z.m (Z.s _ _) (Z.a _ _)
    rw [rd_val1 h hl1] at main
    rw [hz, ← hl1] at main
    exact main
theorem rdE {i : Nat} (hl : txt.length ≤ 1000000) (h : txt.length ≤ i) : CallC (pg w mg mb) 30 false 533 [.obj 2, .int 1] [] ([o0, ol, ioOf (tx txt) i, od, of, oq] ++ tl) (.inl (.str ("" : Str))) ([o0, ol, ioOf (tx txt) i, od, of, oq] ++ tl) :=
  io_readE (sz_of hl).b (past_yes h)
theorem rline {i : Nat} (hl : txt.length ≤ 1000000) (h : i ≤ txt.length) : ∃ y, CallC (pg w mg mb) 30 false 541 [.obj 2] [] ([o0, ol, ioOf (tx txt) i, od, of, oq] ++ tl) (.inl (.str y)) ([o0, ol, ioOf (tx txt) ((i + lineLen (txt.drop i) : Nat) : Int), od, of, oq] ++ tl) := by
  have hz : (tx txt).length = txt.length := tx_len txt
  have nl : Str.ofString "\n" = (⟨#[10]⟩ : Str) := by decide +kernel
  have Z := sz_of hl
  by_cases he : i = txt.length
  · refine ⟨"", ?_⟩
    have e : lineLen (txt.drop i) = 0 := by rw [he, List.drop_eq_nil_of_le (Nat.le_refl _)]; rfl
    rw [e]
    exact io_lineE Z.b (past_yes (Nat.le_of_eq he.symm))
  · have hi := Nat.lt_of_le_of_ne h he
    have hf := find4_one txt 10 i h
    rw [← nl, ← hz] at hf
    have hlen := lineLen_find (txt.drop i)
    cases hj : (txt.drop i).findIdx? (· == 10) with
    | none =>
      rw [hj] at hf hlen
      dsimp only at hf hlen
      rw [hlen, List.length_drop, Nat.add_sub_cancel' h]
      have main := io_line0 (w := w) (mg := mg) (mb := mb) (tl := tl) (o0 := o0) (ol := ol) (od := od) (of := of) (oq := oq) (buf := tx txt) (i := (i : Int)) Z.b (past_no hi) (by rw [hf]; rfl) Z.m (Z.s _ _) (Z.a _ _)
      rw [hz] at main
      exact ⟨_, main⟩
    | some j =>
      rw [hj] at hf hlen
      dsimp only at hf hlen
      rw [hlen]
      have main := io_line (w := w) (mg := mg) (mb := mb) (tl := tl) (o0 := o0) (ol := ol) (od := od) (of := of) (oq := oq) (buf := tx txt) (i := (i : Int)) Z.b (past_no hi) (by rw [hf]; exact decide_eq_true (Int.natCast_nonneg _)) Z.m (Z.s _ _) (Z.a _ _)
      rw [hf, show (((i + j : Nat) : Int) + 1) = ((i + (j + 1) : Nat) : Int) from rfl] at main
      exact ⟨_, main⟩
end
end Mini
set_option maxHeartbeats 1000000
namespace Mini
open PySem PySem.W PySem.Calls PyProof.Rows PySem.Builtin PySem.Builtin.Str
inductive Kd where
  | white | hash | esc | quote | run | word | lone
inductive PS where
  | non | sp | a | c
  | q (m : Nat)
  | e (b : Bool)
noncomputable def PS.v : PS → V
  | .non => .none
  | .sp => .str " "
  | .a => .str "a"
  | .c => .str "c"
  | .q m => .str (ch m)
  | .e _ => .str (ch 92)
structure QO where
  s : PS
  t : List Nat
  qd : Bool
  p : Option Nat
  u : List Nat
noncomputable def Nx (p : Option Nat) (u : List Nat) (k : Nat) (u' : List Nat) : Prop := (p = some k ∧ k ≠ 10 ∧ u' = u) ∨ (p = none ∧ u = k :: u')
noncomputable def aft (u : List Nat) : List Nat := u.drop (lineLen u)
inductive RQ (kd : Nat → Kd) : PS → List Nat → Bool → Option Nat → List Nat → QO → Prop
  | non {t qd} : RQ kd .non t qd none [] ⟨.non, [], qd, none, []⟩
  | sp_e {qd} : RQ kd .sp [] qd none [] ⟨.non, [], qd, none, []⟩
  | sp_w {p u k u' r} : Nx p u k u' → kd k = .white → RQ kd .sp [] false none u' r → RQ kd .sp [] false p u r
  | sp_c {qd p u k u' r} : Nx p u k u' → kd k = .hash → RQ kd .sp [] qd none (aft u') r → RQ kd .sp [] qd p u r
  | sp_s {qd p u u' r} : Nx p u 92 u' → RQ kd (.e false) [] qd none u' r → RQ kd .sp [] qd p u r
  | sp_a {qd p u k u' r} : Nx p u k u' → kd k = .word → RQ kd .a [k] qd none u' r → RQ kd .sp [] qd p u r
  | sp_p {qd p u k u' r} : Nx p u k u' → kd k = .run → RQ kd .c [k] qd none u' r → RQ kd .sp [] qd p u r
  | sp_q {qd p u k u' r} : Nx p u k u' → kd k = .quote → RQ kd (.q k) [] qd none u' r → RQ kd .sp [] qd p u r
  | sp_o {qd p u k u'} : Nx p u k u' → kd k = .lone → RQ kd .sp [] qd p u ⟨.sp, [k], qd, none, u'⟩
  | q_c {m t qd u r} : kd m = .quote → RQ kd .a t true none u r → RQ kd (.q m) t qd none (m :: u) r
  | q_s {t qd u r} : RQ kd (.e true) t true none u r → RQ kd (.q 34) t qd none (92 :: u) r
  | q_o {m t qd k u r} : kd m = .quote → k ≠ m → k ≠ 92 ∨ m = 39 → RQ kd (.q m) (t ++ [k]) true none u r → RQ kd (.q m) t qd none (k :: u) r
  | e_n {t qd k u r} : RQ kd .a (t ++ [k]) qd none u r → RQ kd (.e false) t qd none (k :: u) r
  | e_k {t qd k u r} : k ≠ 92 → k ≠ 34 → RQ kd (.q 34) (t ++ [92] ++ [k]) qd none u r → RQ kd (.e true) t qd none (k :: u) r
  | e_m {t qd k u r} : k = 92 ∨ k = 34 → RQ kd (.q 34) (t ++ [k]) qd none u r → RQ kd (.e true) t qd none (k :: u) r
  | a_e {t qd} : RQ kd .a t qd none [] ⟨.non, t, qd, none, []⟩
  | a_w {t qd k u} : kd k = .white → t ≠ [] ∨ qd = true → RQ kd .a t qd none (k :: u) ⟨.sp, t, qd, none, u⟩
  | a_c {t qd k u} : kd k = .hash → t ≠ [] ∨ qd = true → RQ kd .a t qd none (k :: u) ⟨.sp, t, qd, none, aft u⟩
  | a_q {t qd k u r} : kd k = .quote → RQ kd (.q k) t qd none u r → RQ kd .a t qd none (k :: u) r
  | a_s {t qd u r} : RQ kd (.e false) t qd none u r → RQ kd .a t qd none (92 :: u) r
  | a_a {t qd k u r} : kd k = .word → RQ kd .a (t ++ [k]) qd none u r → RQ kd .a t qd none (k :: u) r
  | a_o {t qd k u} : kd k = .run ∨ kd k = .lone → t ≠ [] ∨ qd = true → RQ kd .a t qd none (k :: u) ⟨.sp, t, qd, some k, u⟩
  | c_e {t qd} : RQ kd .c t qd none [] ⟨.non, t, qd, none, []⟩
  | c_w {t qd k u} : kd k = .white → t ≠ [] → RQ kd .c t qd none (k :: u) ⟨.sp, t, qd, none, u⟩
  | c_c {t qd k u} : kd k = .hash → t ≠ [] → RQ kd .c t qd none (k :: u) ⟨.sp, t, qd, none, aft u⟩
  | c_p {t qd k u r} : kd k = .run → RQ kd .c (t ++ [k]) qd none u r → RQ kd .c t qd none (k :: u) r
  | c_o {t qd k u} : kd k ≠ .white → kd k ≠ .hash → kd k ≠ .run → RQ kd .c t qd none (k :: u) ⟨.sp, t, qd, some k, u⟩
noncomputable def Kd.is : Kd → Kd → Bool
  | .white, .white => true
  | .hash, .hash => true
  | .esc, .esc => true
  | .quote, .quote => true
  | .run, .run => true
  | .word, .word => true
  | .lone, .lone => true
  | _, _ => false
structure Fit (c : CF) (kd : Nat → Kd) : Prop where
  pul : c.pu.length ≤ 1000
  ne : ((c.pu.length : Int) != 0) = true
  qa : hasB c.qu (Str.ofString "a") = false
  ea : hasB c.es (Str.ofString "a") = false
  qc : hasB c.qu (Str.ofString "c") = false
  ec : hasB c.es (Str.ofString "c") = false
  ws : ∀ k, hasB c.ws (ch k) = (kd k).is .white
  cm : ∀ k, hasB c.cm (ch k) = (kd k).is .hash
  es : ∀ k, hasB c.es (ch k) = (kd k).is .esc
  qu : ∀ k, hasB c.qu (ch k) = (kd k).is .quote
  pu : ∀ k, hasB c.pu (ch k) = (kd k).is .run
  wc : ∀ k, (kd k).is .word = false → hasB c.wc (ch k) = false
  wd : ∀ k, kd k = .word → hasB c.wc (ch k) = true ∨ c.split = true
  lo : ∀ k, kd k = .lone → c.split = false
  bs : kd 92 = .esc
  be : ∀ k, kd k = .esc → k = 92
  q34 : kd 34 = .quote
  eq1 : hasB c.eq (ch 34) = true
  eq0 : hasB c.eq (ch 39) = false
  qm : ∀ k, kd k = .quote → k = 39 ∨ k = 34
section
variable {w : World} {mg mb : Str → Option Value} {o0 : LO} {tl : List LO} {c : CF} {kd : Nat → Kd} {txt : List Nat}
noncomputable def qOf : Option Nat → List V
  | none => []
  | some k => [.str (ch k)]
noncomputable abbrev locP (qd : Bool) (x : Str) : List (Str × V) := [("self", .obj 1), ("quoted", .bool qd), ("escapedstate", .str x)]
noncomputable abbrev locN (qd : Bool) (x : Str) (v : V) : List (Str × V) := [("self", .obj 1), ("quoted", .bool qd), ("escapedstate", .str x), ("nextchar", v)]
theorem sub_N (qd : Bool) (x : Str) (v : V) : Sub (locP qd x) (locN qd x v) := Sub.head (locP qd x) [((Str.ofString "nextchar"), v)]
noncomputable abbrev hpQ (o0 : LO) (tl : List LO) (c : CF) (txt : List Nat) (s : V) (t : List Nat) (i : Nat) (ln : Int) (q : List V) : List LO := ([o0, lexP true c 2 3 4 5 s (tx t) ln, ioOf (tx txt) i, .deque [], .deque [], .deque q] ++ tl)
theorem nl_tx : Str.ofString "\n" = tx [10] := by decide +kernel
theorem ch_eq (k m : Nat) : (ch k == ch m) = decide (k = m) := by
  rw [ch_tx, ch_tx, tx_beq]
  by_cases h : k = m
  · rw [h, decide_eq_true rfl, decide_eq_true rfl]
  · rw [decide_eq_false h, decide_eq_false (fun e => h (List.cons.inj e).1)]
theorem ch_nl (k : Nat) : (ch k == Str.ofString "\n") = decide (k = 10) := by rw [nl_tx]; exact ch_eq k 10
theorem ch_len (k : Nat) : (ch k).length = 1 := rfl
theorem ch_same (k : Nat) : (ch k == ch k) = true := by rw [ch_eq, decide_eq_true rfl]
theorem ch_other {k m : Nat} (h : k ≠ m) : (ch k == ch m) = false := by rw [ch_eq, decide_eq_false h]
theorem bne_ch {k m : Nat} (h : k ≠ m) : (ch k != ch m) = true := by show (!(ch k == ch m)) = true; rw [ch_other h]; rfl
theorem bne_same (k : Nat) : (ch k != ch k) = false := by show (!(ch k == ch k)) = false; rw [ch_same]; rfl
theorem body_eq : rtBody (pg w mg mb) = rtSegA (pg w mg mb) ++ rtSegB (pg w mg mb) := (List.take_append_drop 3 _).symm
theorem rt_true {σ : St} : TeC (pg w mg mb) 70 (fmOf (pg w mg mb).K 690 false) (testOf (rtWhile (pg w mg mb))) σ true σ :=
  TeC.mk' (cs := []) ⟨[], []⟩ trivial (by kernel_rfl)
theorem turnQ {σ : St} {nc : V} {qd qd' : Bool} {x x' : Str} {hp hp' : List LO} {f : Fl} (A : ExC (pg w mg mb) 70 (fmOf (pg w mg mb).K 690 false) (rtSegA (pg w mg mb)) σ (.ok .next ⟨locN qd x nc, hp⟩ O0 []))
    (B : ExC (pg w mg mb) 70 (fmOf (pg w mg mb).K 690 false) (rtSegB (pg w mg mb)) ⟨locN qd x nc, hp⟩ (.ok f ⟨locN qd' x' nc, hp'⟩ O0 [])) :
    ExC (pg w mg mb) 70 (fmOf (pg w mg mb).K 690 false) (rtBody (pg w mg mb)) σ (.ok f ⟨locP qd' x', hp'⟩ O0 []) := by
  rw [body_eq]
  exact (A.app B fun _ q => nomatch q).forget (sub_N _ _ _)
theorem lineLen_le : ∀ l : List Nat, lineLen l ≤ l.length
  | [] => Nat.le_refl _
  | k :: r => by
    unfold lineLen
    split
    · exact Nat.succ_le_succ (Nat.zero_le _)
    · exact Nat.succ_le_succ (lineLen_le r)
theorem line_le {l : List Nat} {i : Nat} (h : i ≤ l.length) : i + lineLen (l.drop i) ≤ l.length := by
  have e := lineLen_le (l.drop i)
  rw [List.length_drop] at e
  exact Nat.le_trans (Nat.add_le_add_left e i) (Nat.le_of_eq (Nat.add_sub_cancel' h))
theorem len_ok {t : List Nat} {k i n : Nat} (h : t.length ≤ i + 1) (hi : i ≤ n) (hl : n ≤ 1000000) : (tx t).length + (ch k).length ≤ 16777216 := by
  rw [tx_len, ch_len]; exact nle (Nat.succ_le_succ (Nat.le_trans h (Nat.succ_le_succ (Nat.le_trans hi hl))))
theorem len_ok1 {t : List Nat} {i n : Nat} (h : t.length ≤ i + 1) (hi : i ≤ n) (hl : n ≤ 1000000) : (tx t).length ≤ 1048576 := by
  rw [tx_len]; exact nle (Nat.le_trans h (Nat.succ_le_succ (Nat.le_trans hi hl)))
theorem app1 (t : List Nat) (k : Nat) : tx t ++ ch k = tx (t ++ [k]) := by rw [ch_tx, tx_app]
theorem app2 (t : List Nat) (k m : Nat) : tx t ++ ch m ++ ch k = tx (t ++ [m] ++ [k]) := by rw [app1, app1]
theorem ne_len {t : List Nat} (h : t ≠ []) : ((((tx t).length : Nat) : Int) != 0) = true := by
  rw [tx_len, bne_iff_ne]
  cases t with
  | nil => exact absurd rfl h
  | cons a r => exact fun e => nomatch e
theorem dropK {l : List Nat} {i k : Nat} {u : List Nat} (h : k :: u = l.drop i) : l[i]? = some k ∧ u = l.drop (i + 1) ∧ i + 1 ≤ l.length := by
  have h1 : (l.drop i)[0]? = some k := by rw [← h]; rfl
  rw [List.getElem?_drop, Nat.add_zero] at h1
  refine ⟨h1, ?_, (List.getElem?_eq_some_iff.mp h1).1⟩
  rw [← List.drop_drop, ← h]; rfl
theorem dropE {l : List Nat} {i : Nat} (h : [] = l.drop i) : l.length ≤ i := List.drop_eq_nil_iff.mp h.symm
theorem aft_drop (l : List Nat) (i : Nat) : aft (l.drop i) = l.drop (i + lineLen (l.drop i)) := List.drop_drop ..
theorem fetQ (H : Fit c kd) (hl : txt.length ≤ 1000000) {s : V} {t : List Nat} {p : Option Nat} {i k : Nat} {u u' : List Nat} {ln : Int} {qd : Bool} {x : Str} (h : Nx p u k u') (hu : u = txt.drop i) (hi : i ≤ txt.length) :
    ∃ i' ln', i ≤ i' ∧ i' ≤ txt.length ∧ u' = txt.drop i' ∧ ∀ tl, ExC (pg w mg mb) 70 (fmOf (pg w mg mb).K 690 false) (rtSegA (pg w mg mb)) ⟨locP qd x, hpQ o0 tl c txt s t i ln (qOf p)⟩ (.ok .next ⟨locN qd x (.str (ch k)), hpQ o0 tl c txt s t i' ln' []⟩ O0 []) := by
  have hpu : c.pu.length ≤ 1048576 := Nat.le_trans H.pul (by decide)
  rcases h with ⟨rfl, hk, rfl⟩ | ⟨rfl, rfl⟩
  · exact ⟨i, ln, Nat.le_refl _, hi, hu, fun tl => fetT_p hpu H.ne (by rw [ch_nl, decide_eq_false hk])⟩
  · obtain ⟨h1, h2, h3⟩ := dropK hu
    have hr := fun tl => (rd (w := w) (mg := mg) (mb := mb) (tl := tl) (o0 := o0) (ol := lexP true c 2 3 4 5 s (tx t) ln) (od := .deque []) (of := .deque []) (oq := .deque []) hl h1).le (show 30 ≤ 66 by decide)
    have e : ((i : Nat) : Int) + 1 = ((i + 1 : Nat) : Int) := rfl
    by_cases hk : k = 10
    · exact ⟨i + 1, ln + 1, Nat.le_succ _, h3, h2, fun tl => fetT_l hpu H.ne (hr tl) (by rw [ch_nl, decide_eq_true hk])⟩
    · exact ⟨i + 1, ln, Nat.le_succ _, h3, h2, fun tl => fetT_n hpu H.ne (hr tl) (by rw [ch_nl, decide_eq_false hk])⟩
theorem fetU (H : Fit c kd) (hl : txt.length ≤ 1000000) {s : V} {t : List Nat} {i k : Nat} {u : List Nat} {ln : Int} {qd : Bool} {x : Str} (hu : k :: u = txt.drop i) :
    ∃ ln', i + 1 ≤ txt.length ∧ u = txt.drop (i + 1) ∧ ∀ tl, ExC (pg w mg mb) 70 (fmOf (pg w mg mb).K 690 false) (rtSegA (pg w mg mb)) ⟨locP qd x, hpQ o0 tl c txt s t i ln []⟩ (.ok .next ⟨locN qd x (.str (ch k)), hpQ o0 tl c txt s t (i + 1 : Nat) ln' []⟩ O0 []) := by
  have hpu : c.pu.length ≤ 1048576 := Nat.le_trans H.pul (by decide)
  obtain ⟨h1, h2, h3⟩ := dropK hu
  have hr := fun tl => (rd (w := w) (mg := mg) (mb := mb) (tl := tl) (o0 := o0) (ol := lexP true c 2 3 4 5 s (tx t) ln) (od := .deque []) (of := .deque []) (oq := .deque []) hl h1).le (show 30 ≤ 66 by decide)
  have e : ((i : Nat) : Int) + 1 = ((i + 1 : Nat) : Int) := rfl
  by_cases hk : k = 10
  · exact ⟨ln + 1, h3, h2, fun tl => fetT_l hpu H.ne (hr tl) (by rw [ch_nl, decide_eq_true hk])⟩
  · exact ⟨ln, h3, h2, fun tl => fetT_n hpu H.ne (hr tl) (by rw [ch_nl, decide_eq_false hk])⟩
theorem fetE (H : Fit c kd) {s : V} {t : List Nat} {i : Nat} {ln : Int} {qd : Bool} {x : Str} (hl : txt.length ≤ 1000000) (h : [] = txt.drop i) :
    ∀ tl, ExC (pg w mg mb) 70 (fmOf (pg w mg mb).K 690 false) (rtSegA (pg w mg mb)) ⟨locP qd x, hpQ o0 tl c txt s t i ln []⟩ (.ok .next ⟨locN qd x (.str ("" : Str)), hpQ o0 tl c txt s t i ln []⟩ O0 []) :=
  fun tl => fetT_e (Nat.le_trans H.pul (by decide)) H.ne ((rdE (w := w) (mg := mg) (mb := mb) (tl := tl) (o0 := o0) (ol := lexP true c 2 3 4 5 s (tx t) ln) (od := .deque []) (of := .deque []) (oq := .deque []) hl (dropE h)).le (show 30 ≤ 66 by decide))
noncomputable def PS.room (s : PS) (t : List Nat) (i : Nat) : Prop := match s with
  | .e _ => t.length ≤ i
  | _ => t.length ≤ i + 1
noncomputable def PS.xOk (s : PS) (x : Str) : Prop := match s with
  | .e true => x = ch 34
  | .e false => x = "a"
  | _ => True
noncomputable def EndQ (w : World) (mg mb : Str → Option Value) (o0 : LO) (c : CF) (txt : List Nat) (σ : List LO → St) (r : QO) : Prop := ∃ i' ln' x', i' ≤ txt.length ∧ r.u = txt.drop i' ∧
  ∀ tl, ∃ m, Loop (pg w mg mb) 70 (fmOf (pg w mg mb).K 690 false) (testOf (rtWhile (pg w mg mb))) (rtBody (pg w mg mb)) m (σ tl) (.ok .next ⟨locP r.qd x', hpQ o0 tl c txt r.s.v r.t i' ln' (qOf r.p)⟩ O0 [])
theorem EndQ.brk {σ : List LO → St} {r : QO} {nc : V} {qd : Bool} {x x' : Str} {hp : List LO → List LO} {i' : Nat} {ln' : Int} (hi : i' ≤ txt.length) (hu : r.u = txt.drop i') (A : ∀ tl, ExC (pg w mg mb) 70 (fmOf (pg w mg mb).K 690 false) (rtSegA (pg w mg mb)) (σ tl) (.ok .next ⟨locN qd x nc, hp tl⟩ O0 []))
    (B : ∀ tl, ExC (pg w mg mb) 70 (fmOf (pg w mg mb).K 690 false) (rtSegB (pg w mg mb)) ⟨locN qd x nc, hp tl⟩ (.ok .brk ⟨locN r.qd x' nc, hpQ o0 tl c txt r.s.v r.t i' ln' (qOf r.p)⟩ O0 [])) : EndQ w mg mb o0 c txt σ r :=
  ⟨i', ln', x', hi, hu, fun tl => ⟨0, .brk rt_true (turnQ (A tl) (B tl))⟩⟩
theorem EndQ.next {σ : List LO → St} {r : QO} {nc : V} {qd qd' : Bool} {x x' : Str} {hp hp' : List LO → List LO} (A : ∀ tl, ExC (pg w mg mb) 70 (fmOf (pg w mg mb).K 690 false) (rtSegA (pg w mg mb)) (σ tl) (.ok .next ⟨locN qd x nc, hp tl⟩ O0 []))
    (B : ∀ tl, ExC (pg w mg mb) 70 (fmOf (pg w mg mb).K 690 false) (rtSegB (pg w mg mb)) ⟨locN qd x nc, hp tl⟩ (.ok .next ⟨locN qd' x' nc, hp' tl⟩ O0 [])) (h : EndQ w mg mb o0 c txt (fun tl => ⟨locP qd' x', hp' tl⟩) r) : EndQ w mg mb o0 c txt σ r := by
  obtain ⟨i', ln', z, hi, hu, L⟩ := h
  exact ⟨i', ln', z, hi, hu, fun tl => (L tl).elim fun m L => ⟨m + 1, .next rt_true (turnQ (A tl) (B tl)) L⟩⟩
noncomputable abbrev hpS (o0 : LO) (tl : List LO) (c : CF) (txt : List Nat) (s : V) (T : Str) (i : Nat) (ln : Int) (q : List V) : List LO := ([o0, lexP true c 2 3 4 5 s T ln, ioOf (tx txt) i, .deque [], .deque [], .deque q] ++ tl)
theorem EndQ.q (H : Fit c kd) (hl : txt.length ≤ 1000000) {s s' : V} {t t' : List Nat} {p : Option Nat} {i k : Nat} {u u' : List Nat} {ln : Int} {qd qd' : Bool} {x x' : Str} {r : QO} {f : Fl} (hf : f = .next ∨ f = .cont) (h : Nx p u k u') (hi : i ≤ txt.length) (hu : u = txt.drop i)
    (B : ∀ tl (j : Nat) e, ExC (pg w mg mb) 70 (fmOf (pg w mg mb).K 690 false) (rtSegB (pg w mg mb)) ⟨locN qd x (.str (ch k)), hpQ o0 tl c txt s t j e []⟩ (.ok f ⟨locN qd' x' (.str (ch k)), hpQ o0 tl c txt s' t' j e []⟩ O0 []))
    (R : ∀ (j : Nat) e, j ≤ txt.length → u' = txt.drop j → EndQ w mg mb o0 c txt (fun tl => ⟨locP qd' x', hpQ o0 tl c txt s' t' j e []⟩) r) : EndQ w mg mb o0 c txt (fun tl => ⟨locP qd x, hpQ o0 tl c txt s t i ln (qOf p)⟩) r := by
  obtain ⟨j, e, a1, a2, a3, A⟩ := fetQ (w := w) (mg := mg) (mb := mb) (o0 := o0) (s := s) (t := t) (ln := ln) (qd := qd) (x := x) H hl h hu hi
  obtain ⟨i', ln', z, hi, hu, L⟩ := R j e a2 a3
  refine ⟨i', ln', z, hi, hu, fun tl => (L tl).elim fun m L => ⟨m + 1, ?_⟩⟩
  have T := turnQ (A tl) (B tl j e)
  rcases hf with rfl | rfl
  · exact .next rt_true T L
  · exact .cont rt_true T L
theorem EndQ.u (H : Fit c kd) (hl : txt.length ≤ 1000000) {s s' : V} {t t' : List Nat} {T : Str} (hT : T = tx t') {i k : Nat} {u : List Nat} {ln : Int} {qd qd' : Bool} {x x' : Str} {r : QO} (hu : k :: u = txt.drop i)
    (B : ∀ tl (j : Nat) e, ExC (pg w mg mb) 70 (fmOf (pg w mg mb).K 690 false) (rtSegB (pg w mg mb)) ⟨locN qd x (.str (ch k)), hpQ o0 tl c txt s t j e []⟩ (.ok .next ⟨locN qd' x' (.str (ch k)), hpS o0 tl c txt s' T j e []⟩ O0 []))
    (R : ∀ e, i + 1 ≤ txt.length → u = txt.drop (i + 1) → EndQ w mg mb o0 c txt (fun tl => ⟨locP qd' x', hpQ o0 tl c txt s' t' (i + 1) e []⟩) r) : EndQ w mg mb o0 c txt (fun tl => ⟨locP qd x, hpQ o0 tl c txt s t i ln []⟩) r := by
  subst hT
  obtain ⟨e, a1, a2, A⟩ := fetU (w := w) (mg := mg) (mb := mb) (o0 := o0) (s := s) (t := t) (ln := ln) (qd := qd) (x := x) H hl hu
  exact .next A (fun tl => B tl (i + 1) e) (R e a1 a2)
theorem EndQ.z (H : Fit c kd) (hl : txt.length ≤ 1000000) {s : V} {t : List Nat} {i k : Nat} {u : List Nat} {ln : Int} {qd : Bool} {x x' : Str} {r : QO} {g : Int → Int} (hu : k :: u = txt.drop i) {j : Nat}
    (B : ∀ tl (e : Int), i + 1 ≤ txt.length → ExC (pg w mg mb) 70 (fmOf (pg w mg mb).K 690 false) (rtSegB (pg w mg mb)) ⟨locN qd x (.str (ch k)), hpQ o0 tl c txt s t (i + 1) e []⟩ (.ok .brk ⟨locN r.qd x' (.str (ch k)), hpQ o0 tl c txt r.s.v r.t j (g e) (qOf r.p)⟩ O0 []))
    (hr : i + 1 ≤ txt.length → u = txt.drop (i + 1) → j ≤ txt.length ∧ r.u = txt.drop j) : EndQ w mg mb o0 c txt (fun tl => ⟨locP qd x, hpQ o0 tl c txt s t i ln []⟩) r := by
  obtain ⟨e, a1, a2, A⟩ := fetU (w := w) (mg := mg) (mb := mb) (o0 := o0) (s := s) (t := t) (ln := ln) (qd := qd) (x := x) H hl hu
  obtain ⟨b1, b2⟩ := hr a1 a2
  exact .brk b1 b2 A (fun tl => B tl e a1)
theorem RQ.loop (H : Fit c kd) (hl : txt.length ≤ 1000000) {s : PS} {t : List Nat} {qd : Bool} {p : Option Nat} {u : List Nat} {r : QO} (R : RQ kd s t qd p u r) :
    ∀ (i : Nat) (ln : Int) (x : Str), s.room t i → s.xOk x → i ≤ txt.length → u = txt.drop i → EndQ w mg mb o0 c txt (fun tl => ⟨locP qd x, hpQ o0 tl c txt s.v t i ln (qOf p)⟩) r := by
  have l1 : ∀ {t : List Nat} {i k : Nat}, t.length ≤ i + 1 → (t ++ [k]).length ≤ i + 1 + 1 := fun h => by rw [List.length_append]; exact Nat.succ_le_succ h
  have one : ∀ {i : Nat} (k : Nat), [k].length ≤ i + 1 := fun k => Nat.succ_le_succ (Nat.zero_le _)
  have hpu : c.pu.length ≤ 1048576 := Nat.le_trans H.pul (by decide)
  have plain : ∀ {i : Nat} {u : List Nat}, i + 1 ≤ txt.length → u = txt.drop (i + 1) → i + 1 ≤ txt.length ∧ u = txt.drop (i + 1) := fun a b => ⟨a, b⟩
  have com : ∀ {i : Nat} {u : List Nat}, i + 1 ≤ txt.length → u = txt.drop (i + 1) → i + 1 + lineLen (txt.drop (i + 1)) ≤ txt.length ∧ aft u = txt.drop (i + 1 + lineLen (txt.drop (i + 1))) := fun a b => ⟨line_le a, by rw [b, aft_drop]⟩
  have ln1 : ∀ (tl : List LO) (s : V) (t : List Nat) (ln : Int) (i : Nat), i ≤ txt.length → ∃ y, CallC (pg w mg mb) 59 false 541 [.obj 2] [] (hpQ o0 tl c txt s t i ln []) (.inl (.str y)) (hpQ o0 tl c txt s t (i + lineLen (txt.drop i) : Nat) ln []) := fun tl s t ln i hi => by
    obtain ⟨y, hy⟩ := rline (w := w) (mg := mg) (mb := mb) (tl := tl) (o0 := o0) (ol := lexP true c 2 3 4 5 s (tx t) ln) (od := .deque []) (of := .deque []) (oq := .deque []) hl hi
    exact ⟨y, hy.le (by decide)⟩
  have q0 : ∀ {m : Nat}, kd m = .quote → (ch m == Str.ofString " ") = false ∧ hasB c.qu (ch m) = true := fun {m} h => by
    refine ⟨?_, (H.qu m).trans (by rw [h]; rfl)⟩
    rcases H.qm m h with rfl | rfl <;> decide +kernel
  have e0 : (ch 92 == Str.ofString " ") = false ∧ hasB c.qu (ch 92) = false ∧ hasB c.es (ch 92) = true := ⟨by decide +kernel, (H.qu 92).trans (by rw [H.bs]; rfl), (H.es 92).trans (by rw [H.bs]; rfl)⟩
  have K : ∀ {k : Nat} {K : Kd}, kd k = K → hasB c.ws (ch k) = K.is .white ∧ hasB c.cm (ch k) = K.is .hash ∧ hasB c.es (ch k) = K.is .esc ∧ hasB c.qu (ch k) = K.is .quote ∧ hasB c.pu (ch k) = K.is .run := fun {k K} h => by
    rw [H.ws, H.cm, H.es, H.qu, H.pu, h]; exact ⟨rfl, rfl, rfl, rfl, rfl⟩
  have W : ∀ {k : Nat}, (kd k).is .word = false → hasB c.wc (ch k) = false := fun h => H.wc _ h
  have x34 : hasB c.qu (ch 34) = true := (q0 H.q34).2
  induction R with
  | non => exact fun i ln x _ _ hi hu => .brk hi hu (fetE H hl hu) fun _ => nonT
  | sp_e => exact fun i ln x _ _ hi hu => .brk hi hu (fetE H hl hu) fun _ => spT_e
  | sp_w h hk _ ih => exact fun i ln x _ _ hi hu => .q H hl (.inr rfl) h hi hu (fun _ _ _ => spT_w (K hk).1) fun j e a b => ih j e x (Nat.zero_le _) trivial a b
  | sp_c h hk _ ih =>
    intro i ln x ht _ hi hu
    obtain ⟨j, e, a1, a2, a3, A⟩ := fetQ (w := w) (mg := mg) (mb := mb) (o0 := o0) (s := .str " ") (t := []) (ln := ln) (x := x) H hl h hu hi
    obtain ⟨k1, k2, _⟩ := K hk
    exact .next A (fun tl => (ln1 tl (.str " ") [] e j a2).elim fun y Y => spT_c k1 k2 (Y.le (by decide))) (ih _ (e + 1) x (Nat.zero_le _) trivial (line_le a2) (by rw [a3, aft_drop]))
  | sp_s h _ ih =>
    obtain ⟨k1, k2, k3, _⟩ := K H.bs
    exact fun i ln x _ _ hi hu => .q H hl (.inl rfl) h hi hu (fun _ _ _ => spT_s k1 k2 k3) fun j e a b => ih j e "a" (Nat.zero_le _) rfl a b
  | sp_a h hk _ ih =>
    intro i ln x _ _ hi hu
    obtain ⟨k1, k2, k3, k4, k5⟩ := K hk
    refine .q H hl (.inl rfl) h hi hu (fun tl j e => ?_) fun j e a b => ih j e x (one _) trivial a b
    rcases Bool.eq_false_or_eq_true (hasB c.wc (ch _)) with hw | hw
    · exact spT_a k1 k2 k3 hw
    · exact spT_split k1 k2 k3 hw k5 k4 ((H.wd _ hk).resolve_left fun q => nomatch hw.symm.trans q)
  | sp_p h hk _ ih =>
    obtain ⟨k1, k2, k3, k4, k5⟩ := K hk
    exact fun i ln x _ _ hi hu => .q H hl (.inl rfl) h hi hu (fun _ _ _ => spT_p k1 k2 k3 (W (by rw [hk]; rfl)) k5) fun j e a b => ih j e x (one _) trivial a b
  | sp_q h hk _ ih =>
    obtain ⟨k1, k2, k3, k4, k5⟩ := K hk
    exact fun i ln x _ _ hi hu => .q H hl (.inl rfl) h hi hu (fun _ _ _ => spT_q k1 k2 k3 (W (by rw [hk]; rfl)) k5 k4) fun j e a b => ih j e x (Nat.zero_le _) trivial a b
  | sp_o h hk =>
    intro i ln x ht _ hi hu
    obtain ⟨j, e, a1, a2, a3, A⟩ := fetQ (w := w) (mg := mg) (mb := mb) (o0 := o0) (s := .str " ") (t := []) (ln := ln) (x := x) H hl h hu hi
    obtain ⟨k1, k2, k3, k4, k5⟩ := K hk
    exact .brk a2 a3 A (fun _ => spT_o k1 k2 k3 (W (by rw [hk]; rfl)) k5 k4 (H.lo _ hk))
  | q_c hk _ ih => exact fun i ln x ht _ hi hu => .u H hl rfl hu (fun _ _ _ => qT_c (q0 hk).1 (q0 hk).2 (ch_same _)) fun e a b => ih (i + 1) e x (Nat.le_succ_of_le ht) trivial a b
  | q_s _ ih => exact fun i ln x ht _ hi hu => .u H hl rfl hu (fun _ _ _ => qT_s (q0 H.q34).1 (q0 H.q34).2 (ch_other (by decide)) e0.2.2 H.eq1) fun e a b => ih (i + 1) e (ch 34) ht rfl a b
  | @q_o m t qd k u r hk hne hor _ ih =>
    intro i ln x ht _ hi hu
    have ht : t.length ≤ i + 1 := ht
    refine .u H hl (app1 t k) hu (fun tl j e => ?_) fun e a b => ih (i + 1) e x (l1 ht) trivial a b
    rcases Bool.eq_false_or_eq_true (hasB c.es (ch k)) with he | he
    · refine qT_o2 (q0 hk).1 (q0 hk).2 (ch_other hne) he ?_ (len_ok ht hi hl)
      rcases hor with hor | rfl
      · have : kd k = .esc := by
          rw [H.es] at he
          cases hq : kd k <;> rw [hq] at he <;> first | rfl | exact nomatch he
        exact absurd (H.be k this) hor
      · exact H.eq0
    · exact qT_o (q0 hk).1 (q0 hk).2 (ch_other hne) he (len_ok ht hi hl)
  | @e_n t qd k u r _ ih =>
    intro i ln x ht hx hi hu
    have ht : t.length ≤ i := ht
    have hx : x = "a" := hx
    subst hx
    exact .u H hl (app1 t k) hu (fun _ _ _ => eT_n e0.1 e0.2.1 e0.2.2 H.qa (len_ok (Nat.le_succ_of_le ht) hi hl)) fun e a b => ih (i + 1) e "a" (l1 (Nat.le_succ_of_le ht)) trivial a b
  | @e_k t qd k u r h1 h2 _ ih =>
    intro i ln x ht hx hi hu
    have ht : t.length ≤ i := ht
    have hx : x = ch 34 := hx
    subst hx
    have z : (t ++ [92]).length ≤ i + 1 := by rw [List.length_append]; exact Nat.succ_le_succ ht
    exact .u H hl (app2 t k 92) hu (fun _ _ _ => eT_k e0.1 e0.2.1 e0.2.2 x34 (bne_ch h1) (bne_ch h2) (len_ok (Nat.le_succ_of_le ht) hi hl) (by rw [app1]; exact len_ok z hi hl)) fun e a b => ih (i + 1) e (ch 34) (l1 z) trivial a b
  | @e_m t qd k u r hor _ ih =>
    intro i ln x ht hx hi hu
    have ht : t.length ≤ i := ht
    have hx : x = ch 34 := hx
    subst hx
    refine .u H hl (app1 t k) hu (fun tl j e => ?_) fun e a b => ih (i + 1) e (ch 34) (l1 (Nat.le_succ_of_le ht)) trivial a b
    rcases hor with rfl | rfl
    · exact eT_s e0.1 e0.2.1 e0.2.2 x34 (bne_same _) (len_ok (Nat.le_succ_of_le ht) hi hl)
    · exact eT_m e0.1 e0.2.1 e0.2.2 x34 (bne_ch (by decide)) (bne_same _) (len_ok (Nat.le_succ_of_le ht) hi hl)
  | a_e => exact fun i ln x _ _ hi hu => .brk hi hu (fetE H hl hu) (fun _ => aT_e H.qa H.ea)
  | @a_w t qd k u hk hor =>
    intro i ln x ht _ hi hu
    have ht : t.length ≤ i + 1 := ht
    refine .z (g := fun e => e) (x' := x) H hl hu (fun tl e a => ?_) plain
    by_cases hne : t = []
    · subst hne
      rcases hor with q | rfl
      · exact absurd rfl q
      · exact aT_w2 H.qa H.ea (K hk).1
    · exact aT_w H.qa H.ea (K hk).1 (len_ok1 ht hi hl) (ne_len hne)
  | @a_c t qd k u hk hor =>
    intro i ln x ht _ hi hu
    have ht : t.length ≤ i + 1 := ht
    obtain ⟨k1, k2, _⟩ := K hk
    refine .z (g := (· + 1)) (x' := x) H hl hu (fun tl e a => (ln1 tl (.str "a") t e (i + 1) a).elim fun y Y => ?_) com
    by_cases hne : t = []
    · subst hne
      rcases hor with q | rfl
      · exact absurd rfl q
      · exact aT_c2 H.qa H.ea k1 k2 (Y.le (by decide))
    · exact aT_c H.qa H.ea k1 k2 (Y.le (by decide)) (len_ok1 ht hi hl) (ne_len hne)
  | a_q hk _ ih =>
    obtain ⟨k1, k2, k3, k4, k5⟩ := K hk
    exact fun i ln x ht _ hi hu => .u H hl rfl hu (fun _ _ _ => aT_q H.qa H.ea k1 k2 k4) fun e a b => ih (i + 1) e x (Nat.le_succ_of_le ht) trivial a b
  | a_s _ ih =>
    obtain ⟨k1, k2, k3, k4, k5⟩ := K H.bs
    exact fun i ln x ht _ hi hu => .u H hl rfl hu (fun _ _ _ => aT_s H.qa H.ea k1 k2 k4 k3) fun e a b => ih (i + 1) e "a" ht rfl a b
  | @a_a t qd k u r hk _ ih =>
    intro i ln x ht _ hi hu
    have ht : t.length ≤ i + 1 := ht
    obtain ⟨k1, k2, k3, k4, k5⟩ := K hk
    refine .u H hl (app1 t k) hu (fun tl j e => ?_) fun e a b => ih (i + 1) e x (l1 ht) trivial a b
    rcases Bool.eq_false_or_eq_true (hasB c.wc (ch k)) with hw | hw
    · exact aT_a H.qa H.ea k1 k2 k4 k3 hw (len_ok ht hi hl)
    · exact aT_split H.qa H.ea k1 k2 k4 k3 hw k4 ((H.wd _ hk).resolve_left fun q => nomatch hw.symm.trans q) (by rw [k5]; rfl) (len_ok ht hi hl)
  | @a_o t qd k u hor h2 =>
    intro i ln x ht _ hi hu
    have ht : t.length ≤ i + 1 := ht
    obtain ⟨k1, k2, k3, k4, k6⟩ : hasB c.ws (ch k) = false ∧ hasB c.cm (ch k) = false ∧ hasB c.es (ch k) = false ∧ hasB c.qu (ch k) = false ∧ hasB c.wc (ch k) = false := by
      rcases hor with hk | hk <;> obtain ⟨k1, k2, k3, k4, _⟩ := K hk <;> exact ⟨k1, k2, k3, k4, W (by rw [hk]; rfl)⟩
    refine .z (g := fun e => e) (x' := x) H hl hu (fun tl e a => ?_) plain
    by_cases hs : c.split = false
    · by_cases hne : t = []
      · subst hne
        rcases h2 with q | rfl
        · exact absurd rfl q
        · exact aT_o2 H.qa H.ea k1 k2 k4 k3 k6 k4 hs hpu H.ne
      · exact aT_o H.qa H.ea k1 k2 k4 k3 k6 k4 hs hpu H.ne (len_ok1 ht hi hl) (ne_len hne)
    · have hk : kd k = .run := hor.resolve_right fun q => hs (H.lo _ q)
      have hs := eq_true_of_ne_false hs
      have k5 : (!hasB c.pu (ch k)) = false := by rw [(K hk).2.2.2.2]; rfl
      by_cases hne : t = []
      · subst hne
        rcases h2 with q | rfl
        · exact absurd rfl q
        · exact aT_splitp2 H.qa H.ea k1 k2 k4 k3 k6 k4 hs k5 hpu H.ne
      · exact aT_splitp H.qa H.ea k1 k2 k4 k3 k6 k4 hs k5 hpu H.ne (len_ok1 ht hi hl) (ne_len hne)
  | c_e => exact fun i ln x _ _ hi hu => .brk hi hu (fetE H hl hu) (fun _ => cT_e H.qc H.ec)
  | c_w hk hne => exact fun i ln x ht _ hi hu => .z H hl hu (fun _ _ _ => cT_w H.qc H.ec (K hk).1 (len_ok1 ht hi hl) (ne_len hne)) plain
  | c_c hk hne =>
    intro i ln x ht _ hi hu
    obtain ⟨k1, k2, _⟩ := K hk
    exact .z (g := (· + 1)) H hl hu (fun tl e a => (ln1 tl (.str "c") _ e (i + 1) a).elim fun y Y => cT_c H.qc H.ec k1 k2 (Y.le (by decide)) (len_ok1 ht hi hl) (ne_len hne)) com
  | @c_p t qd k u r hk _ ih =>
    intro i ln x ht _ hi hu
    have ht : t.length ≤ i + 1 := ht
    obtain ⟨k1, k2, k3, k4, k5⟩ := K hk
    exact .u H hl (app1 t k) hu (fun _ _ _ => cT_p H.qc H.ec k1 k2 k5 (len_ok ht hi hl)) fun e a b => ih (i + 1) e x (l1 ht) trivial a b
  | @c_o t qd k u h1 h2 h3 =>
    intro i ln x ht _ hi hu
    have no : ∀ {A B : Kd}, A ≠ B → A.is B = false := fun {A B} h => by cases A <;> cases B <;> first | rfl | exact absurd rfl h
    have k1 : hasB c.ws (ch k) = false := (H.ws k).trans (no h1)
    exact .z H hl hu (fun _ _ _ => cT_o H.qc H.ec k1 ((H.cm k).trans (no h2)) ((H.pu k).trans (no h3)) (by rw [k1]; rfl)) plain
end
end Mini
namespace Mini
open PySem PySem.W PySem.Calls PyProof.Rows PySem.Builtin PySem.Builtin.Str
section
variable {w : World} {mg mb : Str → Option Value} {o0 : LO} {tl : List LO} {c : CF} {kd : Nat → Kd} {txt : List Nat}
theorem rtWhile_eq : rtWhile (pg w mg mb) = .While (testOf (rtWhile (pg w mg mb))) (rtBody (pg w mg mb)) [] (posOf (rtWhile (pg w mg mb))) := by kernel_rfl
theorem gtWhile_eq : gtWhile (pg w mg mb) = .While (testOf (gtWhile (pg w mg mb))) (loopIn (gtWhile (pg w mg mb))) [] (posOf (gtWhile (pg w mg mb))) := by kernel_rfl
theorem rt_st {σ : St} {r : Res Fl} {m : Nat} (L : Loop (pg w mg mb) 70 (fmOf (pg w mg mb).K 690 false) (testOf (rtWhile (pg w mg mb))) (rtBody (pg w mg mb)) m σ r) : StC (pg w mg mb) 108 (rtFm (pg w mg mb)) σ (rtWhile (pg w mg mb)) r := by
  rw [rtWhile_eq]
  exact (StC.while_ L).le (by decide)
theorem gt_st {σ : St} {r : Res Fl} {m : Nat} (L : Loop (pg w mg mb) 60 (gtFm (pg w mg mb)) (testOf (gtWhile (pg w mg mb))) (loopIn (gtWhile (pg w mg mb))) m σ r) : StC (pg w mg mb) 128 (gtFm (pg w mg mb)) σ (gtWhile (pg w mg mb)) r := by
  rw [gtWhile_eq]
  exact (StC.while_ L).le (by decide)
noncomputable def tkV : Bool → List Nat → V
  | false, [] => .none
  | _, t => .str (tx t)
theorem tx_ne (a : Nat) (r : List Nat) : (tx (a :: r) == Str.ofString "") = false := by
  rw [tx_nil, tx_beq, decide_eq_false (fun h => nomatch h)]
theorem get_Q (H : Fit c kd) (hl : txt.length ≤ 1000000) {s : PS} {p : Option Nat} {u : List Nat} {r : QO} (R : RQ kd s [] false p u r) (hs : s = .sp ∨ s = .non) {i : Nat} (ln : Int) (hi : i ≤ txt.length) (hu : u = txt.drop i) :
    ∃ i' ln', i' ≤ txt.length ∧ r.u = txt.drop i' ∧ ∀ tl, CallC (pg w mg mb) 130 false 683 [.obj 1] [] (hpQ o0 tl c txt s.v [] i ln (qOf p)) (.inl (tkV r.qd r.t)) (hpQ o0 tl c txt r.s.v [] i' ln' (qOf r.p)) := by
  obtain ⟨i', ln', x', a1, a2, L⟩ := R.loop (w := w) (mg := mg) (mb := mb) (o0 := o0) H hl i ln " " (by rcases hs with rfl | rfl <;> exact Nat.zero_le _) (by rcases hs with rfl | rfl <;> trivial) hi hu
  refine ⟨i', ln', a1, a2, fun tl => ?_⟩
  obtain ⟨m, L⟩ := L tl
  have L' := rt_st L
  have word : ∀ v : Str, CallC (pg w mg mb) 126 false 690 [.obj 1] [] (hpQ o0 tl c txt s.v [] i ln (qOf p)) (.inl (.str v)) (hpQ o0 tl c txt r.s.v [] i' ln' (qOf r.p)) →
      CallC (pg w mg mb) 130 false 683 [.obj 1] [] (hpQ o0 tl c txt s.v [] i ln (qOf p)) (.inl (.str v)) (hpQ o0 tl c txt r.s.v [] i' ln' (qOf r.p)) := fun v hr => gt_go hr (gt_st (.stop (k := 0) gt_t))
  revert L'
  cases r.qd with
  | true =>
    intro L'
    have main := (rt_q L').le (show 110 ≤ 126 by decide)
    rw [tx_nil] at main
    exact word _ main
  | false =>
    cases r.t with
    | nil =>
      intro L'
      unfold hpQ at L'
      rw [← tx_nil] at L'
      have main := (rt_n L').le (show 110 ≤ 126 by decide)
      rw [tx_nil] at main
      exact gt_end main (gt_st (.ret (k := 0) gt_t1 gt_b))
    | cons k t =>
      intro L'
      have main := (rt_t L' (tx_ne k t)).le (show 110 ≤ 126 by decide)
      rw [tx_nil] at main
      exact word _ main
end
end Mini
namespace Mini
noncomputable def lonely (b : Bool) : List Nat → Bool
  | [] => false
  | d :: _ => b && decide (d ≠ 34 ∧ d ≠ 92)
noncomputable def dblS (b : Bool) (c : Nat) (r : List Nat) : List Nat := if c = 34 then [92, 34] else if c = 92 then (if lonely b r = true then [92] else [92, 92]) else [c]
noncomputable def dbl (b : Bool) : List Nat → List Nat
  | [] => []
  | c :: r => dblS b c r ++ dbl b r
inductive Wd (kd : Nat → Kd) : List Nat → List Nat → Prop
  | sign {k} : kd k = .word → Wd kd [k] [k]
  | esc {k} : Wd kd [k] [92, k]
  | q1 {i} : 39 ∉ i → Wd kd i (39 :: (i ++ [39]))
  | q2 {i b} : Wd kd i (34 :: (dbl b i ++ [34]))
inductive Pc where
  | sep (t : List Nat)
  | tok (K : Kd) (s t : List Nat)
noncomputable def Pc.txt : Pc → List Nat
  | .sep t => t
  | .tok _ _ t => t
noncomputable def Pc.Ok (kd : Nat → Kd) : Pc → Prop
  | .sep t => (∃ k, t = [k] ∧ kd k = .white) ∨ (∃ i, t = 35 :: (i ++ [10]) ∧ 10 ∉ i)
  | .tok K s t => match K with
    | .run => ∃ k, s = [k] ∧ t = [k] ∧ kd k = .run
    | .lone => ∃ k, s = [k] ∧ t = [k] ∧ kd k = .lone
    | .word => Wd kd s t
    | _ => False
noncomputable def flush : Option (Kd × List Nat) → List (List Nat)
  | none => []
  | some q => [q.2]
noncomputable def addK (K : Kd) (s : List Nat) : Option (Kd × List Nat) → List (List Nat) × Option (Kd × List Nat)
  | none => ([], some (K, s))
  | some q => if K.is q.1 = true then ([], some (K, q.2 ++ s)) else ([q.2], some (K, s))
noncomputable def stepP (p : Pc) (cur : Option (Kd × List Nat)) : List (List Nat) × Option (Kd × List Nat) := match p with
  | .sep _ => (flush cur, none)
  | .tok K s _ => match K with
    | .lone => (flush cur ++ [s], none)
    | .run => addK .run s cur
    | _ => addK .word s cur
noncomputable def tks : Option (Kd × List Nat) → List Pc → List (List Nat)
  | cur, [] => flush cur
  | cur, p :: ps => (stepP p cur).1 ++ tks (stepP p cur).2 ps
noncomputable def txtP : List Pc → List Nat → List Nat
  | [], T => T
  | p :: ps, T => p.txt ++ txtP ps T
inductive Str3 (kd : Nat → Kd) : PS → Option Nat → List Nat → List (List Nat) → Prop
  | fin {s p u} : s = .sp ∨ s = .non → RQ kd s [] false p u ⟨.non, [], false, none, []⟩ → Str3 kd s p u []
  | tok {s p u r ws} : s = .sp ∨ s = .non → RQ kd s [] false p u r → r.t ≠ [] ∨ r.qd = true → Str3 kd r.s r.p r.u ws → Str3 kd s p u (r.t :: ws)
noncomputable def NextQ (kd : Nat → Kd) (s : PS) (w : List Nat) (qd : Bool) (u : List Nat) (ds : List (List Nat)) : Prop := ∃ r ws, ds = r.t :: ws ∧ (r.t ≠ [] ∨ r.qd = true) ∧ RQ kd s w qd none u r ∧ Str3 kd r.s r.p r.u ws
structure Kf (kd : Nat → Kd) : Prop where
  h10 : kd 10 = .white
  h35 : kd 35 = .hash
  h39 : kd 39 = .quote
  h34 : kd 34 = .quote
  h92 : kd 92 = .esc
section
variable {kd : Nat → Kd}
theorem Str3.pre {p : Option Nat} {u u' : List Nat} {ws : List (List Nat)} (h : ∀ r, RQ kd .sp [] false none u' r → RQ kd .sp [] false p u r) (S : Str3 kd .sp none u' ws) : Str3 kd .sp p u ws := by
  cases S with
  | fin a r => exact .fin a (h _ r)
  | tok a r q S => exact .tok a (h _ r) q S
theorem NextQ.start {s : PS} {w : List Nat} {qd : Bool} {p : Option Nat} {u u' : List Nat} {ds : List (List Nat)} (h : ∀ r, RQ kd s w qd none u' r → RQ kd .sp [] false p u r) (N : NextQ kd s w qd u' ds) : Str3 kd .sp p u ds := by
  obtain ⟨r, ws, rfl, a, b, c⟩ := N
  exact .tok (.inl rfl) (h _ b) a c
theorem NextQ.pre {s s' : PS} {w w' : List Nat} {qd qd' : Bool} {u u' : List Nat} {ds : List (List Nat)} (h : ∀ r, RQ kd s w qd none u' r → RQ kd s' w' qd' none u r) (N : NextQ kd s w qd u' ds) : NextQ kd s' w' qd' u ds := by
  obtain ⟨r, ws, e, a, b, c⟩ := N
  exact ⟨r, ws, e, a, h _ b, c⟩
theorem NextQ.now {s s' : PS} {w : List Nat} {qd : Bool} {p : Option Nat} {u u' : List Nat} {ws : List (List Nat)} (h : w ≠ [] ∨ qd = true) (R : RQ kd s w qd none u ⟨s', w, qd, p, u'⟩) (S : Str3 kd s' p u' ws) : NextQ kd s w qd u (w :: ws) := ⟨_, _, rfl, h, R, S⟩
theorem Str3.end : Str3 kd .non none [] [] := .fin (.inr rfl) .non
theorem Str3.sp0 : Str3 kd .sp none [] [] := .fin (.inl rfl) .sp_e
theorem lineLen_no : ∀ {i : List Nat}, 10 ∉ i → lineLen i = i.length
  | [], _ => rfl
  | k :: r, h => by
    unfold lineLen
    rw [if_neg fun e => h (by rw [e]; exact .head _), lineLen_no fun q => h (.tail _ q)]; rfl
theorem aft_no {i : List Nat} (h : 10 ∉ i) : aft i = [] := by unfold aft; rw [lineLen_no h, List.drop_length]
theorem lineLen_at : ∀ {i : List Nat} {u : List Nat}, 10 ∉ i → lineLen (i ++ 10 :: u) = i.length + 1
  | [], u, _ => by show lineLen (10 :: u) = 1; unfold lineLen; rw [if_pos rfl]
  | k :: r, u, h => by
    show lineLen (k :: (r ++ 10 :: u)) = _
    unfold lineLen
    rw [if_neg fun e => h (by rw [e]; exact .head _), lineLen_at fun q => h (.tail _ q)]; rfl
theorem aft_at {i u : List Nat} (h : 10 ∉ i) : aft (i ++ 10 :: u) = u := by
  unfold aft
  rw [lineLen_at h, ← List.drop_drop, List.drop_left]; rfl
theorem quo1 (F : Kf kd) {rest : List Nat} {r : QO} : ∀ (i acc : List Nat) (qd : Bool), 39 ∉ i → RQ kd .a (acc ++ i) true none rest r → RQ kd (.q 39) acc qd none (i ++ 39 :: rest) r
  | [], acc, qd, _, R => by rw [List.append_nil] at R; exact .q_c F.h39 R
  | k :: i, acc, qd, h, R => .q_o F.h39 (fun e => h (by rw [e]; exact .head _)) (.inr rfl) (quo1 F i (acc ++ [k]) true (fun q => h (.tail _ q)) (by rw [List.append_assoc]; exact R))
theorem quo2 (F : Kf kd) {rest : List Nat} {r : QO} {b : Bool} : ∀ (i acc : List Nat) (qd : Bool), RQ kd .a (acc ++ i) true none rest r → RQ kd (.q 34) acc qd none (dbl b i ++ 34 :: rest) r
  | [], acc, qd, R => by rw [List.append_nil] at R; exact .q_c F.h34 R
  | [c], acc, qd, R => by
    show RQ kd (.q 34) acc qd none ((dblS b c [] ++ []) ++ 34 :: rest) r
    have e := quo2 F (b := b) [] (acc ++ [c]) true (by rw [List.append_nil]; exact R)
    unfold dblS
    by_cases h1 : c = 34
    · rw [if_pos h1]; subst h1; exact .q_s (.e_m (.inr rfl) e)
    · by_cases h2 : c = 92
      · rw [if_neg h1, if_pos h2, if_neg nofun]; subst h2; exact .q_s (.e_m (.inl rfl) e)
      · rw [if_neg h1, if_neg h2]; exact .q_o F.h34 h1 (.inl h2) e
  | c :: d :: i, acc, qd, R => by
    show RQ kd (.q 34) acc qd none ((dblS b c (d :: i) ++ dbl b (d :: i)) ++ 34 :: rest) r
    have e := quo2 F (b := b) (d :: i) (acc ++ [c]) true (by rw [List.append_assoc]; exact R)
    have e2 := fun qd => quo2 F (b := b) i (acc ++ [c] ++ [d]) qd (by rw [List.append_assoc, List.append_assoc]; exact R)
    unfold dblS
    by_cases h1 : c = 34
    · rw [if_pos h1]; subst h1; exact .q_s (.e_m (.inr rfl) e)
    · by_cases h2 : c = 92
      · rw [if_neg h1, if_pos h2]
        subst h2
        by_cases hl : lonely b (d :: i) = true
        · rw [if_pos hl]
          have hl : (b && decide (d ≠ 34 ∧ d ≠ 92)) = true := hl
          obtain ⟨d1, d2⟩ := of_decide_eq_true (Bool.and_eq_true_iff.mp hl).2
          refine .q_s ?_
          show RQ kd (.e true) acc true none ((dblS b d i ++ dbl b i) ++ 34 :: rest) r
          unfold dblS
          rw [if_neg d1, if_neg d2]
          exact .e_k d2 d1 (e2 _)
        · rw [if_neg hl]; exact .q_s (.e_m (.inl rfl) e)
      · rw [if_neg h1, if_neg h2]; exact .q_o F.h34 h1 (.inl h2) e
theorem word_a (F : Kf kd) {s t rest : List Nat} (h : Wd kd s t) (acc : List Nat) (qd : Bool) : ∃ qd', (acc ++ s ≠ [] ∨ qd' = true) ∧ ∀ r, RQ kd .a (acc ++ s) qd' none rest r → RQ kd .a acc qd none (t ++ rest) r := by
  have ne : ∀ k, acc ++ [k] ≠ [] := fun k e => nomatch (List.append_eq_nil_iff.mp e).2
  cases h with
  | sign hk => exact ⟨qd, .inl (ne _), fun r R => .a_a hk R⟩
  | esc => exact ⟨qd, .inl (ne _), fun r R => .a_s (.e_n R)⟩
  | q1 h => exact ⟨true, .inr rfl, fun r R => .a_q F.h39 (by show RQ kd (.q 39) acc qd none ((s ++ [39]) ++ rest) r; rw [List.append_assoc]; exact quo1 F s acc qd h R)⟩
  | @q2 _ b => exact ⟨true, .inr rfl, fun r R => .a_q F.h34 (by show RQ kd (.q 34) acc qd none ((dbl b s ++ [34]) ++ rest) r; rw [List.append_assoc]; exact quo2 F s acc qd R)⟩
theorem word_sp (F : Kf kd) {s t rest : List Nat} (h : Wd kd s t) : ∃ k t', t = k :: t' ∧ kd k ≠ .white ∧ kd k ≠ .hash ∧ kd k ≠ .run ∧ ∃ qd', (s ≠ [] ∨ qd' = true) ∧ ∀ p u, Nx p u k (t' ++ rest) → ∀ r, RQ kd .a s qd' none rest r → RQ kd .sp [] false p u r := by
  cases h with
  | @sign k hk => exact ⟨k, [], rfl, by rw [hk]; nofun, by rw [hk]; nofun, by rw [hk]; nofun, false, .inl nofun, fun p u N r R => .sp_a N hk R⟩
  | @esc k => exact ⟨92, [k], rfl, by rw [F.h92]; nofun, by rw [F.h92]; nofun, by rw [F.h92]; nofun, false, .inl nofun, fun p u N r R => .sp_s N (.e_n (t := []) R)⟩
  | q1 h => exact ⟨39, s ++ [39], rfl, by rw [F.h39]; nofun, by rw [F.h39]; nofun, by rw [F.h39]; nofun, true, .inr rfl, fun p u N r R => .sp_q N F.h39 (by rw [List.append_assoc]; exact quo1 F s [] false h R)⟩
  | @q2 _ b => exact ⟨34, dbl b s ++ [34], rfl, by rw [F.h34]; nofun, by rw [F.h34]; nofun, by rw [F.h34]; nofun, true, .inr rfl, fun p u N r R => .sp_q N F.h34 (by rw [List.append_assoc]; exact quo2 F s [] false R)⟩
noncomputable def HasT (p : Option Nat) (u l : List Nat) : Prop := (p = none ∧ u = l) ∨ ∃ k, p = some k ∧ k ≠ 10 ∧ l = k :: u
theorem HasT.nx {p : Option Nat} {u l : List Nat} {k : Nat} (h : HasT p u (k :: l)) : Nx p u k l := by
  rcases h with ⟨rfl, rfl⟩ | ⟨m, rfl, h1, h2⟩
  · exact .inr ⟨rfl, rfl⟩
  · obtain ⟨rfl, rfl⟩ := List.cons.inj h2; exact .inl ⟨rfl, h1, rfl⟩
theorem HasT.nil {p : Option Nat} {u : List Nat} (h : HasT p u []) : p = none ∧ u = [] := by
  rcases h with h | ⟨m, rfl, h1, h2⟩
  · exact h
  · exact nomatch h2
noncomputable def TailOk (T : List Nat) : Prop := T = [] ∨ ∃ i, T = 35 :: i ∧ 10 ∉ i
theorem not10 (F : Kf kd) {k : Nat} (h : kd k ≠ .white) : k ≠ 10 := fun e => h (by rw [e]; exact F.h10)
theorem says3 (F : Kf kd) {T : List Nat} (hT : TailOk T) : ∀ ps : List Pc, (∀ p ∈ ps, Pc.Ok kd p) →
    (∀ p u, HasT p u (txtP ps T) → Str3 kd .sp p u (tks none ps)) ∧ (∀ w qd, w ≠ [] ∨ qd = true → NextQ kd .a w qd (txtP ps T) (tks (some (.word, w)) ps)) ∧ (∀ w qd, w ≠ [] → NextQ kd .c w qd (txtP ps T) (tks (some (.run, w)) ps)) := by
  intro ps
  induction ps with
  | nil =>
    intro _
    rcases hT with rfl | ⟨i, rfl, hi⟩
    · refine ⟨fun p u h => ?_, fun w qd h => .now h .a_e .end, fun w qd h => .now (.inl h) .c_e .end⟩
      obtain ⟨rfl, rfl⟩ := h.nil
      exact .sp0
    · refine ⟨fun p u h => ?_, fun w qd h => ?_, fun w qd h => ?_⟩
      · exact .fin (.inl rfl) (.sp_c (HasT.nx h) F.h35 (by rw [aft_no hi]; exact .sp_e))
      · refine .now h (.a_c F.h35 h) ?_
        rw [aft_no hi]; exact .sp0
      · refine .now (.inl h) (.c_c F.h35 h) ?_
        rw [aft_no hi]; exact .sp0
  | cons p ps ih =>
    intro hok
    obtain ⟨ihA, ihB, ihC⟩ := ih fun q hq => hok q (.tail _ hq)
    have hp := hok p (.head _)
    cases p with
    | sep t =>
      rcases hp with ⟨k, rfl, hk⟩ | ⟨i, rfl, hi⟩
      · refine ⟨fun p u h => ?_, fun w qd h => .now h (.a_w hk h) (ihA _ _ (.inl ⟨rfl, rfl⟩)), fun w qd h => .now (.inl h) (.c_w hk h) (ihA _ _ (.inl ⟨rfl, rfl⟩))⟩
        exact .pre (fun r R => .sp_w (HasT.nx h) hk R) (ihA _ _ (.inl ⟨rfl, rfl⟩))
      · have e : aft ((i ++ [10]) ++ txtP ps T) = txtP ps T := by rw [List.append_assoc]; exact aft_at hi
        have S : Str3 kd .sp none (aft ((i ++ [10]) ++ txtP ps T)) (tks none ps) := by rw [e]; exact ihA _ _ (.inl ⟨rfl, rfl⟩)
        exact ⟨fun p u h => .pre (fun r R => .sp_c (HasT.nx h) F.h35 R) S, fun w qd h => .now h (.a_c F.h35 h) S, fun w qd h => .now (.inl h) (.c_c F.h35 h) S⟩
    | tok K s t =>
      cases K with
      | white => exact hp.elim
      | hash => exact hp.elim
      | esc => exact hp.elim
      | quote => exact hp.elim
      | run =>
        obtain ⟨k, rfl, rfl, hk⟩ := hp
        have A : ∀ p u, HasT p u (k :: txtP ps T) → Str3 kd .sp p u (tks (some (.run, [k])) ps) := fun p u h => (ihC [k] false nofun).start fun r R => .sp_p h.nx hk R
        refine ⟨A, fun w qd h => ?_, fun w qd h => ?_⟩
        · exact .now h (.a_o (.inl hk) h) (A _ _ (.inr ⟨k, rfl, not10 F (by rw [hk]; nofun), rfl⟩))
        · exact (ihC (w ++ [k]) qd (fun e => nomatch (List.append_eq_nil_iff.mp e).2)).pre fun r R => .c_p hk R
      | lone =>
        obtain ⟨k, rfl, rfl, hk⟩ := hp
        have A : ∀ p u, HasT p u (k :: txtP ps T) → Str3 kd .sp p u ([k] :: tks none ps) := fun p u h => .tok (r := ⟨.sp, [k], false, none, txtP ps T⟩) (.inl rfl) (.sp_o h.nx hk) (.inl nofun) (ihA _ _ (.inl ⟨rfl, rfl⟩))
        refine ⟨A, fun w qd h => ?_, fun w qd h => ?_⟩
        · exact .now h (.a_o (.inr hk) h) (A _ _ (.inr ⟨k, rfl, not10 F (by rw [hk]; nofun), rfl⟩))
        · exact .now (.inl h) (.c_o (by rw [hk]; nofun) (by rw [hk]; nofun) (by rw [hk]; nofun)) (A _ _ (.inr ⟨k, rfl, not10 F (by rw [hk]; nofun), rfl⟩))
      | word =>
        have hw : Wd kd s t := hp
        obtain ⟨k, t', rfl, n1, n2, n3, qd', q1, G⟩ := word_sp F (rest := txtP ps T) hw
        have A : ∀ p u, HasT p u ((k :: t') ++ txtP ps T) → Str3 kd .sp p u (tks (some (.word, s)) ps) := fun p u h => (ihB s qd' q1).start fun r R => G p u (HasT.nx h) r R
        refine ⟨A, fun w qd h => ?_, fun w qd h => ?_⟩
        · obtain ⟨qd2, q2, G2⟩ := word_a F (rest := txtP ps T) hw w qd
          exact (ihB (w ++ s) qd2 q2).pre fun r R => G2 r R
        · exact .now (.inl h) (.c_o n1 n2 n3) (A _ _ (.inr ⟨k, rfl, not10 F n1, rfl⟩))
end
end Mini
namespace Mini
open PySem PySem.W PySem.Calls PyProof.Rows
section
variable {w : World} {mg mb : Str → Option Value}
variable {n : Int} {hp : List LO} {u i p : Str} {sp lo : Bool}
theorem sg_b
    (h0 : (decide (Int.fmod n 20 < 19)) = true)
    (h1 : (((fitsSsize (Int.fmod n 20)) = true) ∧ (((((-19) : Int) ≤ (Int.fmod n 20)) ∧ (((Int.fmod n 20) : Int) < 19))))) :
    CallC (pg w mg mb) 40 false 733 [.int n] [] hp (.inl (.tup [.int (Int.fdiv n 20), .str (Txt.item (Str.ofString "ab| '\"\n\\&#=-$(;>?é\t") (Int.fmod n 20))])) (hp) :=
  CallC.mk' (cs := [_, _, _]) ⟨[.t], []⟩ ⟨(by decide +kernel : ((¬ ((20 : Int) = 0)) ∧ (false = false))), h0, h1, trivial⟩ (fun loc => by kernel_rfl)
theorem sg_c1
    (h0 : (decide (Int.fmod n 20 < 19)) = false)
    (h1 : (decide (Int.fmod (Int.fdiv n 20) 1112064 < 55296)) = true)
    (h2 : (((0 : Int) ≤ (Int.fmod (Int.fdiv n 20) 1112064)) ∧ (((Int.fmod (Int.fdiv n 20) 1112064) : Int) ≤ 1114111))) :
    CallC (pg w mg mb) 40 false 733 [.int n] [] hp (.inl (.tup [.int (Int.fdiv (Int.fdiv n 20) 1112064), .str ({ cps := #[Int.toNat (Int.fmod (Int.fdiv n 20) 1112064)] })])) (hp) :=
  CallC.mk' (cs := [_, _, _, _, _]) ⟨[.f, .t], []⟩ ⟨(by decide +kernel : ((¬ ((20 : Int) = 0)) ∧ (false = false))), h0, (by decide +kernel : ((¬ ((1112064 : Int) = 0)) ∧ (false = false))), h1, h2, trivial⟩ (fun loc => by kernel_rfl)
theorem sg_c2
    (h0 : (decide (Int.fmod n 20 < 19)) = false)
    (h1 : (decide (Int.fmod (Int.fdiv n 20) 1112064 < 55296)) = false)
    (h2 : (((0 : Int) ≤ (Int.fmod (Int.fdiv n 20) 1112064 + 2048)) ∧ (((Int.fmod (Int.fdiv n 20) 1112064 + 2048) : Int) ≤ 1114111))) :
    CallC (pg w mg mb) 40 false 733 [.int n] [] hp (.inl (.tup [.int (Int.fdiv (Int.fdiv n 20) 1112064), .str ({ cps := #[Int.toNat (Int.fmod (Int.fdiv n 20) 1112064 + 2048)] })])) (hp) :=
  CallC.mk' (cs := [_, _, _, _, _]) ⟨[.f, .f], []⟩ ⟨(by decide +kernel : ((¬ ((20 : Int) = 0)) ∧ (false = false))), h0, (by decide +kernel : ((¬ ((1112064 : Int) = 0)) ∧ (false = false))), h1, h2, trivial⟩ (fun loc => by kernel_rfl)
theorem kd_w {k : Nat}
    (h0 : (hasB (Str.ofString " \t\x0d\n") (ch k)) = true) :
    CallC (pg w mg mb) 40 false 740 [.str (ch k), .str u, .bool sp] [] hp (.inl (.str ("white" : Str))) (hp) :=
  CallC.mk' (cs := [_]) ⟨[.t], []⟩ ⟨h0, trivial⟩ (fun loc => by kernel_rfl)
theorem kd_q {k : Nat}
    (h0 : (hasB (Str.ofString " \t\x0d\n") (ch k)) = false)
    (h1 : (hasB (Str.ofString "'\"\\#") (ch k)) = true) :
    CallC (pg w mg mb) 40 false 740 [.str (ch k), .str u, .bool sp] [] hp (.inl (.str ("quoting" : Str))) (hp) :=
  CallC.mk' (cs := [_, _]) ⟨[.f, .t], []⟩ ⟨h0, h1, trivial⟩ (fun loc => by kernel_rfl)
theorem kd_r {k : Nat}
    (h0 : (hasB (Str.ofString " \t\x0d\n") (ch k)) = false)
    (h1 : (hasB (Str.ofString "'\"\\#") (ch k)) = false)
    (h2 : (hasB u (ch k)) = true) :
    CallC (pg w mg mb) 40 false 740 [.str (ch k), .str u, .bool sp] [] hp (.inl (.str ("run" : Str))) (hp) :=
  CallC.mk' (cs := [_, _, _]) ⟨[.f, .f, .t], []⟩ ⟨h0, h1, h2, trivial⟩ (fun loc => by kernel_rfl)
theorem kd_s {k : Nat}
    (h0 : (hasB (Str.ofString " \t\x0d\n") (ch k)) = false)
    (h1 : (hasB (Str.ofString "'\"\\#") (ch k)) = false)
    (h2 : (hasB u (ch k)) = false) :
    CallC (pg w mg mb) 40 false 740 [.str (ch k), .str u, .bool true] [] hp (.inl (.str ("word" : Str))) (hp) :=
  CallC.mk' (cs := [_, _, _]) ⟨[.f, .f, .f], []⟩ ⟨h0, h1, h2, trivial⟩ (fun loc => by kernel_rfl)
theorem kd_l {k : Nat}
    (h0 : (hasB (Str.ofString " \t\x0d\n") (ch k)) = false)
    (h1 : (hasB (Str.ofString "'\"\\#") (ch k)) = false)
    (h2 : (hasB u (ch k)) = false)
    (h3 : (hasB (Str.ofString "abcdefghijklmnopqrstuvwxyzABCDEFGHIJKLMNOPQRSTUVWXYZ0123456789_~-./*?=") (ch k)) = true) :
    CallC (pg w mg mb) 40 false 740 [.str (ch k), .str u, .bool false] [] hp (.inl (.str ("word" : Str))) (hp) :=
  CallC.mk' (cs := [_, _, _, _, _]) ⟨[.f, .f, .f, .go, .t], []⟩ ⟨h0, h1, h2, (by decide +kernel : (70 : Nat) ≤ 16777216), h3, trivial⟩ (fun loc => by kernel_rfl)
theorem kd_a {k : Nat}
    (h0 : (hasB (Str.ofString " \t\x0d\n") (ch k)) = false)
    (h1 : (hasB (Str.ofString "'\"\\#") (ch k)) = false)
    (h2 : (hasB u (ch k)) = false)
    (h3 : (hasB (Str.ofString "abcdefghijklmnopqrstuvwxyzABCDEFGHIJKLMNOPQRSTUVWXYZ0123456789_~-./*?=") (ch k)) = false)
    (h4 : (decide (192 ≤ (↑(Array.getD (Str.cps (ch k)) 0 0) : Int))) = false) :
    CallC (pg w mg mb) 40 false 740 [.str (ch k), .str u, .bool false] [] hp (.inl (.str ("lone" : Str))) (hp) :=
  CallC.mk' (cs := [_, _, _, _, _, _, _]) ⟨[.f, .f, .f, .go, .f, .go, .f], []⟩ ⟨h0, h1, h2, (by decide +kernel : (70 : Nat) ≤ 16777216), h3, (by decide +kernel : (1 : Nat) = 1), h4, trivial⟩ (fun loc => by kernel_rfl)
theorem kd_b {k : Nat}
    (h0 : (hasB (Str.ofString " \t\x0d\n") (ch k)) = false)
    (h1 : (hasB (Str.ofString "'\"\\#") (ch k)) = false)
    (h2 : (hasB u (ch k)) = false)
    (h3 : (hasB (Str.ofString "abcdefghijklmnopqrstuvwxyzABCDEFGHIJKLMNOPQRSTUVWXYZ0123456789_~-./*?=") (ch k)) = false)
    (h4 : (decide (192 ≤ (↑(Array.getD (Str.cps (ch k)) 0 0) : Int))) = true)
    (h5 : (decide ((↑(Array.getD (Str.cps (ch k)) 0 0) : Int) ≤ 255)) = false) :
    CallC (pg w mg mb) 40 false 740 [.str (ch k), .str u, .bool false] [] hp (.inl (.str ("lone" : Str))) (hp) :=
  CallC.mk' (cs := [_, _, _, _, _, _, _, _]) ⟨[.f, .f, .f, .go, .f, .go, .t, .f], []⟩ ⟨h0, h1, h2, (by decide +kernel : (70 : Nat) ≤ 16777216), h3, (by decide +kernel : (1 : Nat) = 1), h4, h5, trivial⟩ (fun loc => by kernel_rfl)
theorem kd_c {k : Nat}
    (h0 : (hasB (Str.ofString " \t\x0d\n") (ch k)) = false)
    (h1 : (hasB (Str.ofString "'\"\\#") (ch k)) = false)
    (h2 : (hasB u (ch k)) = false)
    (h3 : (hasB (Str.ofString "abcdefghijklmnopqrstuvwxyzABCDEFGHIJKLMNOPQRSTUVWXYZ0123456789_~-./*?=") (ch k)) = false)
    (h4 : (decide (192 ≤ (↑(Array.getD (Str.cps (ch k)) 0 0) : Int))) = true)
    (h5 : (decide ((↑(Array.getD (Str.cps (ch k)) 0 0) : Int) ≤ 255)) = true)
    (h6 : (!anyInt (↑(Array.getD { toList := [k] } 0 0) : Int) [215, 247]) = true) :
    CallC (pg w mg mb) 40 false 740 [.str (ch k), .str u, .bool false] [] hp (.inl (.str ("word" : Str))) (hp) :=
  CallC.mk' (cs := [_, _, _, _, _, _, _, _, _, _]) ⟨[.f, .f, .f, .go, .f, .go, .t, .t, .t], []⟩ ⟨h0, h1, h2, (by decide +kernel : (70 : Nat) ≤ 16777216), h3, (by decide +kernel : (1 : Nat) = 1), h4, h5, (by decide +kernel : (1 : Nat) = 1), h6, trivial⟩ (fun loc => by kernel_rfl)
theorem kd_d {k : Nat}
    (h0 : (hasB (Str.ofString " \t\x0d\n") (ch k)) = false)
    (h1 : (hasB (Str.ofString "'\"\\#") (ch k)) = false)
    (h2 : (hasB u (ch k)) = false)
    (h3 : (hasB (Str.ofString "abcdefghijklmnopqrstuvwxyzABCDEFGHIJKLMNOPQRSTUVWXYZ0123456789_~-./*?=") (ch k)) = false)
    (h4 : (decide (192 ≤ (↑(Array.getD (Str.cps (ch k)) 0 0) : Int))) = true)
    (h5 : (decide ((↑(Array.getD (Str.cps (ch k)) 0 0) : Int) ≤ 255)) = true)
    (h6 : (!anyInt (↑(Array.getD { toList := [k] } 0 0) : Int) [215, 247]) = false) :
    CallC (pg w mg mb) 40 false 740 [.str (ch k), .str u, .bool false] [] hp (.inl (.str ("lone" : Str))) (hp) :=
  CallC.mk' (cs := [_, _, _, _, _, _, _, _, _, _]) ⟨[.f, .f, .f, .go, .f, .go, .t, .t, .f], []⟩ ⟨h0, h1, h2, (by decide +kernel : (70 : Nat) ≤ 16777216), h3, (by decide +kernel : (1 : Nat) = 1), h4, h5, (by decide +kernel : (1 : Nat) = 1), h6, trivial⟩ (fun loc => by kernel_rfl)
theorem db_it
    (h0 : ((Str.length i) : Nat) < 9223372036854775808) :
    EvC (pg w mg mb) 60 (fmOf (pg w mg mb).K 747 false) (testOf (dbFor (pg w mg mb))) (.rng 0 ((↑(Str.length i) : Int))) (⟨[("inner", .str i), ("loose", .bool lo), ("piece", .str p)], hp⟩) ⟨[("inner", .str (i)), ("loose", .bool (lo)), ("piece", .str (p))], (hp)⟩ :=
  EvC.mk' (cs := [_]) ⟨[], []⟩ ⟨h0, trivial⟩ (by kernel_rfl)
theorem db_q {k : Int}
    (h0 : (((fitsSsize k) = true) ∧ (((((-(↑(Str.length i) : Int)) : Int) ≤ (k)) ∧ (((k) : Int) < ((↑(Str.length i) : Int)))))))
    (h1 : (Txt.item i k == Str.ofString "\"") = true)
    (h2 : ((Str.length p + 1) : Nat) ≤ 16777216)
    (h3 : (((fitsSsize k) = true) ∧ (((((-(↑(Str.length i) : Int)) : Int) ≤ (k)) ∧ (((k) : Int) < ((↑(Str.length i) : Int)))))))
    (h4 : ((Str.length (p ++ Str.ofString "\\") + Str.length (Txt.item i k)) : Nat) ≤ 16777216) :
    ExC (pg w mg mb) 60 (fmOf (pg w mg mb).K 747 false) (loopIn (dbFor (pg w mg mb))) ⟨[("inner", .str i), ("loose", .bool lo), ("piece", .str p), ("k", .int k)], hp⟩ (.ok (.next) ⟨[("inner", .str (i)), ("loose", .bool (lo)), ("piece", .str (p ++ Str.ofString "\\" ++ Txt.item i k)), ("k", .int (k))], (hp)⟩ O0 []) :=
  ExC.mk' (r := .inl (.next)) (cs := [_, _, _, _, _]) ⟨[.t], []⟩ ⟨h0, h1, h2, h3, h4, trivial⟩ (by kernel_rfl)
theorem db_o {k : Int}
    (h0 : (((fitsSsize k) = true) ∧ (((((-(↑(Str.length i) : Int)) : Int) ≤ (k)) ∧ (((k) : Int) < ((↑(Str.length i) : Int)))))))
    (h1 : (Txt.item i k == Str.ofString "\"") = false)
    (h2 : (((fitsSsize k) = true) ∧ (((((-(↑(Str.length i) : Int)) : Int) ≤ (k)) ∧ (((k) : Int) < ((↑(Str.length i) : Int)))))))
    (h3 : (Txt.item i k == Str.ofString "\\") = false)
    (h4 : (((fitsSsize k) = true) ∧ (((((-(↑(Str.length i) : Int)) : Int) ≤ (k)) ∧ (((k) : Int) < ((↑(Str.length i) : Int)))))))
    (h5 : ((Str.length p + Str.length (Txt.item i k)) : Nat) ≤ 16777216) :
    ExC (pg w mg mb) 60 (fmOf (pg w mg mb).K 747 false) (loopIn (dbFor (pg w mg mb))) ⟨[("inner", .str i), ("loose", .bool lo), ("piece", .str p), ("k", .int k)], hp⟩ (.ok (.next) ⟨[("inner", .str (i)), ("loose", .bool (lo)), ("piece", .str (p ++ Txt.item i k)), ("k", .int (k))], (hp)⟩ O0 []) :=
  ExC.mk' (r := .inl (.next)) (cs := [_, _, _, _, _, _]) ⟨[.f, .f], []⟩ ⟨h0, h1, h2, h3, h4, h5, trivial⟩ (by kernel_rfl)
theorem db_e {k : Int}
    (h0 : (((fitsSsize k) = true) ∧ (((((-(↑(Str.length i) : Int)) : Int) ≤ (k)) ∧ (((k) : Int) < ((↑(Str.length i) : Int)))))))
    (h1 : (Txt.item i k == Str.ofString "\"") = false)
    (h2 : (((fitsSsize k) = true) ∧ (((((-(↑(Str.length i) : Int)) : Int) ≤ (k)) ∧ (((k) : Int) < ((↑(Str.length i) : Int)))))))
    (h3 : (Txt.item i k == Str.ofString "\\") = true)
    (h4 : ((Str.length p + 1) : Nat) ≤ 16777216)
    (h5 : (((fitsSsize k) = true) ∧ (((((-(↑(Str.length i) : Int)) : Int) ≤ (k)) ∧ (((k) : Int) < ((↑(Str.length i) : Int)))))))
    (h6 : ((Str.length (p ++ Str.ofString "\\") + Str.length (Txt.item i k)) : Nat) ≤ 16777216) :
    ExC (pg w mg mb) 60 (fmOf (pg w mg mb).K 747 false) (loopIn (dbFor (pg w mg mb))) ⟨[("inner", .str i), ("loose", .bool false), ("piece", .str p), ("k", .int k)], hp⟩ (.ok (.next) ⟨[("inner", .str (i)), ("loose", .bool false), ("piece", .str (p ++ Str.ofString "\\" ++ Txt.item i k)), ("k", .int (k))], (hp)⟩ O0 []) :=
  ExC.mk' (r := .inl (.next)) (cs := [_, _, _, _, _, _, _]) ⟨[.f, .t], []⟩ ⟨h0, h1, h2, h3, h4, h5, h6, trivial⟩ (by kernel_rfl)
theorem db_l {k : Int}
    (h0 : (((fitsSsize k) = true) ∧ (((((-(↑(Str.length i) : Int)) : Int) ≤ (k)) ∧ (((k) : Int) < ((↑(Str.length i) : Int)))))))
    (h1 : (Txt.item i k == Str.ofString "\"") = false)
    (h2 : (((fitsSsize k) = true) ∧ (((((-(↑(Str.length i) : Int)) : Int) ≤ (k)) ∧ (((k) : Int) < ((↑(Str.length i) : Int)))))))
    (h3 : (Txt.item i k == Str.ofString "\\") = true)
    (h4 : ((Str.length i) : Nat) ≤ 16777216)
    (h5 : (!anyStr (Txt.slice i (some (k + 1)) (some (k + 2)))
    (Str.ofString "" :: (fun x => Str.ofString "\"" :: x) ((fun x => Str.ofString "\\" :: x) []))) = true)
    (h6 : (((fitsSsize k) = true) ∧ (((((-(↑(Str.length i) : Int)) : Int) ≤ (k)) ∧ (((k) : Int) < ((↑(Str.length i) : Int)))))))
    (h7 : ((Str.length p + Str.length (Txt.item i k)) : Nat) ≤ 16777216) :
    ExC (pg w mg mb) 60 (fmOf (pg w mg mb).K 747 false) (loopIn (dbFor (pg w mg mb))) ⟨[("inner", .str i), ("loose", .bool true), ("piece", .str p), ("k", .int k)], hp⟩ (.ok (.next) ⟨[("inner", .str (i)), ("loose", .bool true), ("piece", .str (p ++ Txt.item i k)), ("k", .int (k))], (hp)⟩ O0 []) :=
  ExC.mk' (r := .inl (.next)) (cs := [_, _, _, _, _, _, _, _]) ⟨[.f, .t, .go, .t], []⟩ ⟨h0, h1, h2, h3, h4, h5, h6, h7, trivial⟩ (by kernel_rfl)
theorem db_m {k : Int}
    (h0 : (((fitsSsize k) = true) ∧ (((((-(↑(Str.length i) : Int)) : Int) ≤ (k)) ∧ (((k) : Int) < ((↑(Str.length i) : Int)))))))
    (h1 : (Txt.item i k == Str.ofString "\"") = false)
    (h2 : (((fitsSsize k) = true) ∧ (((((-(↑(Str.length i) : Int)) : Int) ≤ (k)) ∧ (((k) : Int) < ((↑(Str.length i) : Int)))))))
    (h3 : (Txt.item i k == Str.ofString "\\") = true)
    (h4 : ((Str.length i) : Nat) ≤ 16777216)
    (h5 : (!anyStr (Txt.slice i (some (k + 1)) (some (k + 2)))
    (Str.ofString "" :: (fun x => Str.ofString "\"" :: x) ((fun x => Str.ofString "\\" :: x) []))) = false)
    (h6 : ((Str.length p + 1) : Nat) ≤ 16777216)
    (h7 : (((fitsSsize k) = true) ∧ (((((-(↑(Str.length i) : Int)) : Int) ≤ (k)) ∧ (((k) : Int) < ((↑(Str.length i) : Int)))))))
    (h8 : ((Str.length (p ++ Str.ofString "\\") + Str.length (Txt.item i k)) : Nat) ≤ 16777216) :
    ExC (pg w mg mb) 60 (fmOf (pg w mg mb).K 747 false) (loopIn (dbFor (pg w mg mb))) ⟨[("inner", .str i), ("loose", .bool true), ("piece", .str p), ("k", .int k)], hp⟩ (.ok (.next) ⟨[("inner", .str (i)), ("loose", .bool true), ("piece", .str (p ++ Str.ofString "\\" ++ Txt.item i k)), ("k", .int (k))], (hp)⟩ O0 []) :=
  ExC.mk' (r := .inl (.next)) (cs := [_, _, _, _, _, _, _, _, _]) ⟨[.f, .t, .go, .f], []⟩ ⟨h0, h1, h2, h3, h4, h5, h6, h7, h8, trivial⟩ (by kernel_rfl)
theorem db_call
    (h0 : StC (pg w mg mb) 78 ((fmOf (pg w mg mb).K 747 false)) ⟨[("loose", .bool (lo)), ("inner", .str (i)), ("piece", .str ("" : Str))], (hp)⟩ (dbFor (pg w mg mb)) (.ok (.next) ⟨[("piece", .str (p))], (hp)⟩ ⟨[], []⟩ []))
    (h1 : ((1 + Str.length p) : Nat) ≤ 16777216)
    (h2 : ((Str.length (Str.ofString "\"" ++ p) + 1) : Nat) ≤ 16777216) :
    CallC (pg w mg mb) 80 false 747 [.str i, .bool lo] [] hp (.inl (.str (Str.ofString "\"" ++ p ++ Str.ofString "\""))) (hp) :=
  CallC.mk' (cs := [_, _, _]) ⟨[], [.dn, .lp .next ⟨[("piece", .str p)], hp⟩]⟩ ⟨h0, h1, h2, trivial⟩ (fun loc => by kernel_rfl)
end
end Mini
namespace Mini
open PySem PySem.W PySem.Calls PyProof.Rows PySem.Builtin PySem.Builtin.Str
noncomputable def whL5 : List Nat := [32, 9, 13, 10]
noncomputable def ltr5 : List Nat := ("abcdefghijklmnopqrstuvwxyzABCDEFGHIJKLMNOPQRSTUVWXYZ0123456789_~-./*?=" : Str).cps.toList
noncomputable def isLatin (k : Nat) : Bool := decide (192 ≤ k ∧ k ≤ 255 ∧ k ≠ 215 ∧ k ≠ 247)
noncomputable def kd3 (u : List Nat) (sp : Bool) (k : Nat) : Kd := if k ∈ whL5 then .white else if k = 35 then .hash else if k = 92 then .esc else if k ∈ [39, 34] then .quote else if k ∈ u then .run else if sp = true then .word else if k ∈ ltr5 then .word else if isLatin k = true then .word else .lone
noncomputable def kdN : Kd → Str
  | .white => "white"
  | .run => "run"
  | .word => "word"
  | .lone => "lone"
  | _ => "quoting"
theorem hasWh (k : Nat) : hasB (Str.ofString " \t\x0d\n") (ch k) = decide (k ∈ whL5) := by
  rw [show Str.ofString " \t\x0d\n" = tx whL5 by decide +kernel]
  exact has_one _ _
theorem hasQu (k : Nat) : hasB (Str.ofString "'\"\\#") (ch k) = decide (k ∈ [39, 34, 92, 35]) := by
  rw [show Str.ofString "'\"\\#" = tx [39, 34, 92, 35] by decide +kernel]
  exact has_one _ _
theorem hasLt (k : Nat) : hasB (Str.ofString "abcdefghijklmnopqrstuvwxyzABCDEFGHIJKLMNOPQRSTUVWXYZ0123456789_~-./*?=") (ch k) = decide (k ∈ ltr5) := by
  rw [show Str.ofString "abcdefghijklmnopqrstuvwxyzABCDEFGHIJKLMNOPQRSTUVWXYZ0123456789_~-./*?=" = tx ltr5 from (tx_of _).symm]
  exact has_one _ _
theorem any2 (k : Nat) : (!anyInt (k : Int) [215, 247]) = decide (k ≠ 215 ∧ k ≠ 247) := by
  show (!(((215 : Int) == k) || (((247 : Int) == k) || false))) = _
  rw [Bool.or_false]
  by_cases h1 : k = 215
  · subst h1; rfl
  · by_cases h2 : k = 247
    · subst h2; rfl
    · rw [show ((215 : Int) == (k : Int)) = false from beq_eq_false_iff_ne.mpr (fun q => h1 (Int.ofNat.inj q).symm), show ((247 : Int) == (k : Int)) = false from beq_eq_false_iff_ne.mpr (fun q => h2 (Int.ofNat.inj q).symm), decide_eq_true ⟨h1, h2⟩]; rfl
section
variable {w : World} {mg mb : Str → Option Value}
theorem kind_call {u : List Nat} {sp : Bool} {k : Nat} {hp : List LO} : CallC (pg w mg mb) 40 false 740 [.str (ch k), .str (tx u), .bool sp] [] hp (.inl (.str (kdN (kd3 u sp k)))) hp := by
  unfold kd3
  by_cases hw : k ∈ whL5
  · rw [if_pos hw]
    exact kd_w (by rw [hasWh]; exact decide_eq_true hw)
  rw [if_neg hw]
  have h0 : hasB (Str.ofString " \t\x0d\n") (ch k) = false := by rw [hasWh]; exact decide_eq_false hw
  have hq : k ∈ [39, 34, 92, 35] → CallC (pg w mg mb) 40 false 740 [.str (ch k), .str (tx u), .bool sp] [] hp (.inl (.str ("quoting" : Str))) hp := fun h => kd_q h0 (by rw [hasQu]; exact decide_eq_true h)
  by_cases e1 : k = 35
  · rw [if_pos e1]; exact hq (by rw [e1]; decide)
  rw [if_neg e1]
  by_cases e2 : k = 92
  · rw [if_pos e2]; exact hq (by rw [e2]; decide)
  rw [if_neg e2]
  by_cases e3 : k ∈ [39, 34]
  · rw [if_pos e3]
    refine hq ?_
    rcases List.mem_cons.mp e3 with rfl | e3
    · decide
    · rw [List.mem_singleton.mp e3]; decide
  rw [if_neg e3]
  have hz : hasB (Str.ofString "'\"\\#") (ch k) = false := by
    rw [hasQu]
    refine decide_eq_false fun h => ?_
    rcases List.mem_cons.mp h with rfl | h
    · exact e3 (.head _)
    rcases List.mem_cons.mp h with rfl | h
    · exact e3 (.tail _ (.head _))
    rcases List.mem_cons.mp h with rfl | h
    · exact e2 rfl
    · exact e1 (List.mem_singleton.mp h)
  by_cases hr : k ∈ u
  · rw [if_pos hr]
    exact kd_r h0 hz (by rw [show hasB (tx u) (ch k) = _ from has_one _ _]; exact decide_eq_true hr)
  rw [if_neg hr]
  have h1 : hasB (tx u) (ch k) = false := (has_one _ _).trans (decide_eq_false hr)
  cases sp with
  | true => rw [if_pos rfl]; exact kd_s h0 hz h1
  | false =>
  rw [if_neg (by decide)]
  by_cases hl : k ∈ ltr5
  · rw [if_pos hl]
    exact kd_l h0 hz h1 (by rw [hasLt]; exact decide_eq_true hl)
  rw [if_neg hl]
  have h2 : hasB (Str.ofString "abcdefghijklmnopqrstuvwxyzABCDEFGHIJKLMNOPQRSTUVWXYZ0123456789_~-./*?=") (ch k) = false := by rw [hasLt]; exact decide_eq_false hl
  have e : (↑(Array.getD (Str.cps (ch k)) 0 0) : Int) = (k : Int) := rfl
  by_cases a : 192 ≤ k
  · have h3 : (decide (192 ≤ (↑(Array.getD (Str.cps (ch k)) 0 0) : Int))) = true := by rw [e]; exact decide_eq_true (Int.ofNat_le.mpr a)
    by_cases b : k ≤ 255
    · have h4 : (decide ((↑(Array.getD (Str.cps (ch k)) 0 0) : Int) ≤ 255)) = true := by rw [e]; exact decide_eq_true (Int.ofNat_le.mpr b)
      by_cases d : k ≠ 215 ∧ k ≠ 247
      · rw [show isLatin k = true from decide_eq_true ⟨a, b, d⟩]
        exact kd_c h0 hz h1 h2 h3 h4 ((any2 k).trans (decide_eq_true d))
      · rw [show isLatin k = false from decide_eq_false fun q => d q.2.2]
        exact kd_d h0 hz h1 h2 h3 h4 ((any2 k).trans (decide_eq_false d))
    · rw [show isLatin k = false from decide_eq_false fun q => b q.2.1]
      exact kd_b h0 hz h1 h2 h3 (by rw [e]; exact decide_eq_false fun q => b (Int.ofNat_le.mp q))
  · rw [show isLatin k = false from decide_eq_false fun q => a q.1]
    exact kd_a h0 hz h1 h2 (by rw [e]; exact decide_eq_false fun q => a (Int.ofNat_le.mp q))
end
theorem wc_mem (k : Nat) : k ∈ wc0.cps.toList ↔ k ∈ ltr5 ∨ isLatin k = true := by
  have small : ∀ k < 256, decide (k ∈ wc0.cps.toList) = (decide (k ∈ ltr5) || isLatin k) := by decide +kernel
  have top : ∀ k ∈ wc0.cps.toList, k < 256 := by decide +kernel
  have top2 : ∀ k ∈ ltr5, k < 256 := by decide +kernel
  by_cases h : k < 256
  · have := small k h
    constructor
    · intro m
      rw [decide_eq_true m] at this
      rcases Bool.or_eq_true_iff.mp this.symm with q | q
      · exact .inl (of_decide_eq_true q)
      · exact .inr q
    · intro m
      have z : (decide (k ∈ ltr5) || isLatin k) = true := by
        rcases m with m | m
        · rw [decide_eq_true m]; rfl
        · rw [m, Bool.or_true]
      rw [z] at this
      exact of_decide_eq_true this
  · constructor
    · exact fun m => absurd (top k m) h
    · rintro (m | m)
      · exact absurd (top2 k m) h
      · exact absurd (Nat.lt_succ_of_le (of_decide_eq_true m).2.1) h
noncomputable def OkU (u : List Nat) : Prop := u.Nodup ∧ u.length ≤ 100 ∧ u ≠ [] ∧ ∀ k ∈ u, k ∉ whL5 ∧ k ∉ [39, 34, 92, 35]
noncomputable def wcK (u : List Nat) : Str := ⟨(FK.kp u wc0.cps.toList).toArray⟩
noncomputable abbrev cfK (u : List Nat) (sp : Bool) : CF := cf0 (wcK u) (tx u) sp
theorem has_wcK (u : List Nat) (k : Nat) : hasB (wcK u) (ch k) = decide (k ∈ wc0.cps.toList ∧ k ∉ u) := by
  refine (has_one (FK.kp u wc0.cps.toList) k).trans ?_
  unfold FK.kp
  by_cases h : k ∈ wc0.cps.toList ∧ k ∉ u
  · rw [decide_eq_true h]; exact decide_eq_true (List.mem_filter.mpr ⟨h.1, decide_eq_true h.2⟩)
  · rw [decide_eq_false h]; exact decide_eq_false fun m => h ⟨(List.mem_filter.mp m).1, of_decide_eq_true (List.mem_filter.mp m).2⟩
theorem kd_cases (u : List Nat) (sp : Bool) (k : Nat) : (kd3 u sp k = .white ∧ k ∈ whL5) ∨ (k ∉ whL5 ∧ ((kd3 u sp k = .hash ∧ k = 35) ∨ (k ≠ 35 ∧ ((kd3 u sp k = .esc ∧ k = 92) ∨ (k ≠ 92 ∧ ((kd3 u sp k = .quote ∧ k ∈ [39, 34]) ∨ (k ∉ [39, 34] ∧ ((kd3 u sp k = .run ∧ k ∈ u) ∨ (k ∉ u ∧
    ((kd3 u sp k = .word ∧ (sp = true ∨ k ∈ wc0.cps.toList)) ∨ (kd3 u sp k = .lone ∧ sp = false ∧ k ∉ wc0.cps.toList))))))))))) := by
  rw [wc_mem]
  unfold kd3
  by_cases hw : k ∈ whL5
  · rw [if_pos hw]; exact .inl ⟨rfl, hw⟩
  rw [if_neg hw]; refine .inr ⟨hw, ?_⟩
  by_cases e1 : k = 35
  · rw [if_pos e1]; exact .inl ⟨rfl, e1⟩
  rw [if_neg e1]; refine .inr ⟨e1, ?_⟩
  by_cases e2 : k = 92
  · rw [if_pos e2]; exact .inl ⟨rfl, e2⟩
  rw [if_neg e2]; refine .inr ⟨e2, ?_⟩
  by_cases e3 : k ∈ [39, 34]
  · rw [if_pos e3]; exact .inl ⟨rfl, e3⟩
  rw [if_neg e3]; refine .inr ⟨e3, ?_⟩
  by_cases hr : k ∈ u
  · rw [if_pos hr]; exact .inl ⟨rfl, hr⟩
  rw [if_neg hr]; refine .inr ⟨hr, ?_⟩
  by_cases h3 : sp = true
  · rw [if_pos h3]; exact .inl ⟨rfl, .inl h3⟩
  rw [if_neg h3]
  by_cases h4 : k ∈ ltr5
  · rw [if_pos h4]; exact .inl ⟨rfl, .inr (.inl h4)⟩
  rw [if_neg h4]
  by_cases h5 : isLatin k = true
  · rw [if_pos h5]; exact .inl ⟨rfl, .inr (.inr h5)⟩
  rw [if_neg h5]
  exact .inr ⟨rfl, eq_false_of_ne_true h3, fun q => q.elim h4 h5⟩
theorem kf3 (u : List Nat) (sp : Bool) : Kf (kd3 u sp) := ⟨rfl, rfl, rfl, rfl, rfl⟩
theorem fit3 {sp : Bool} {u : List Nat} (H : OkU u) : Fit (cfK u sp) (kd3 u sp) := by
  have hu : (cfK u sp).pu.length = u.length := tx_len u
  have one : ∀ (l : List Nat) (k : Nat), hasB (tx l) (ch k) = decide (k ∈ l) := fun l k => has_one _ _
  have eqs : (cfK u sp).cm = tx [35] ∧ (cfK u sp).es = tx [92] ∧ (cfK u sp).qu = tx [39, 34] ∧ (cfK u sp).ws = tx whL5 := by
    refine ⟨?_, ?_, ?_, ?_⟩
    · show ("#" : Str) = _; decide +kernel
    · show ("\\" : Str) = _; decide +kernel
    · show ("'\"" : Str) = _; decide +kernel
    · show (" \t\r\n" : Str) = _; decide +kernel
  have all : ∀ k, (decide (k ∈ whL5) = (kd3 u sp k).is .white) ∧ (decide (k ∈ [35]) = (kd3 u sp k).is .hash) ∧ (decide (k ∈ [92]) = (kd3 u sp k).is .esc) ∧ (decide (k ∈ [39, 34]) = (kd3 u sp k).is .quote) ∧ (decide (k ∈ u) = (kd3 u sp k).is .run) := fun k => by
    have w35 : (35 : Nat) ∉ whL5 := by decide
    have z : ∀ {p : Prop} [Decidable p] {b : Bool}, (p ↔ b = true) → decide p = b := fun {p} _ {b} h => by
      cases b with
      | true => exact decide_eq_true (h.mpr rfl)
      | false => exact decide_eq_false fun q => nomatch h.mp q
    have nu : ∀ m, m ∈ whL5 ∨ m ∈ [39, 34, 92, 35] → m ∉ u := fun m h q => h.elim (H.2.2.2 m q).1 (H.2.2.2 m q).2
    rcases kd_cases u sp k with ⟨e, h⟩ | ⟨h0, ⟨e, h⟩ | ⟨h1, ⟨e, h⟩ | ⟨h2, ⟨e, h⟩ | ⟨h3, ⟨e, h⟩ | ⟨h4, ⟨e, _⟩ | ⟨e, _⟩⟩⟩⟩⟩⟩ <;> rw [e]
    · have all4 : ∀ m ∈ whL5, m ∉ [35] ∧ m ∉ [92] ∧ m ∉ [39, 34] := by decide
      obtain ⟨a, b, d⟩ := all4 k h
      exact ⟨decide_eq_true h, decide_eq_false a, decide_eq_false b, decide_eq_false d, decide_eq_false (nu k (.inl h))⟩
    · exact ⟨decide_eq_false h0, decide_eq_true (by rw [h]; decide), decide_eq_false (by rw [h]; decide), decide_eq_false (by rw [h]; decide), decide_eq_false (nu k (.inr (by rw [h]; decide)))⟩
    · exact ⟨decide_eq_false h0, decide_eq_false (fun q => h1 (List.mem_singleton.mp q)), decide_eq_true (by rw [h]; decide), decide_eq_false (by rw [h]; decide), decide_eq_false (nu k (.inr (by rw [h]; decide)))⟩
    · exact ⟨decide_eq_false h0, decide_eq_false (fun q => h1 (List.mem_singleton.mp q)), decide_eq_false (fun q => h2 (List.mem_singleton.mp q)), decide_eq_true h, decide_eq_false (nu k (.inr (by
        rcases List.mem_cons.mp h with rfl | h
        · decide
        · rw [List.mem_singleton.mp h]; decide)))⟩
    · exact ⟨decide_eq_false h0, decide_eq_false (fun q => h1 (List.mem_singleton.mp q)), decide_eq_false (fun q => h2 (List.mem_singleton.mp q)), decide_eq_false h3, decide_eq_true h⟩
    · exact ⟨decide_eq_false h0, decide_eq_false (fun q => h1 (List.mem_singleton.mp q)), decide_eq_false (fun q => h2 (List.mem_singleton.mp q)), decide_eq_false h3, decide_eq_false h4⟩
    · exact ⟨decide_eq_false h0, decide_eq_false (fun q => h1 (List.mem_singleton.mp q)), decide_eq_false (fun q => h2 (List.mem_singleton.mp q)), decide_eq_false h3, decide_eq_false h4⟩
  have wl : ∀ m ∈ wc0.cps.toList, m ∉ whL5 ∧ m ≠ 35 ∧ m ≠ 92 ∧ m ∉ [39, 34] := by decide +kernel
  exact {
    pul := by rw [hu]; exact Nat.le_trans H.2.1 (by decide)
    ne := by
      rw [hu]
      exact bne_iff_ne.mpr fun e => H.2.2.1 (List.length_eq_zero_iff.mp (Int.ofNat.inj e))
    qa := show hasB ("'\"" : Str) _ = _ by decide +kernel
    ea := show hasB ("\\" : Str) _ = _ by decide +kernel
    qc := show hasB ("'\"" : Str) _ = _ by decide +kernel
    ec := show hasB ("\\" : Str) _ = _ by decide +kernel
    ws := fun k => by rw [eqs.2.2.2, one]; exact (all k).1
    cm := fun k => by rw [eqs.1, one]; exact (all k).2.1
    es := fun k => by rw [eqs.2.1, one]; exact (all k).2.2.1
    qu := fun k => by rw [eqs.2.2.1, one]; exact (all k).2.2.2.1
    pu := fun k => (one u k).trans (all k).2.2.2.2
    wc := fun k h => by
      refine (has_wcK u k).trans (decide_eq_false fun q => ?_)
      obtain ⟨a, b, d, g⟩ := wl k q.1
      rcases kd_cases u sp k with ⟨e, h⟩ | ⟨h0, ⟨e, h⟩ | ⟨h1, ⟨e, h⟩ | ⟨h2, ⟨e, h⟩ | ⟨h3, ⟨e, h⟩ | ⟨h4, ⟨e, h'⟩ | ⟨e, _, h⟩⟩⟩⟩⟩⟩
      · exact a h
      · exact b h
      · exact d h
      · exact g h
      · exact q.2 h
      · rw [e] at h; exact nomatch h
      · exact h q.1
    wd := fun k h => by
      rcases kd_cases u sp k with ⟨e, _⟩ | ⟨h0, ⟨e, _⟩ | ⟨h1, ⟨e, _⟩ | ⟨h2, ⟨e, _⟩ | ⟨h3, ⟨e, _⟩ | ⟨h4, ⟨e, h'⟩ | ⟨e, _⟩⟩⟩⟩⟩⟩
      · rw [e] at h; exact nomatch h
      · rw [e] at h; exact nomatch h
      · rw [e] at h; exact nomatch h
      · rw [e] at h; exact nomatch h
      · rw [e] at h; exact nomatch h
      · rcases h' with h' | h'
        · exact .inr h'
        · exact .inl ((has_wcK u k).trans (decide_eq_true ⟨h', h4⟩))
      · rw [e] at h; exact nomatch h
    lo := fun k h => by
      rcases kd_cases u sp k with ⟨e, _⟩ | ⟨h0, ⟨e, _⟩ | ⟨h1, ⟨e, _⟩ | ⟨h2, ⟨e, _⟩ | ⟨h3, ⟨e, _⟩ | ⟨h4, ⟨e, h'⟩ | ⟨e, q, _⟩⟩⟩⟩⟩⟩
      · rw [e] at h; exact nomatch h
      · rw [e] at h; exact nomatch h
      · rw [e] at h; exact nomatch h
      · rw [e] at h; exact nomatch h
      · rw [e] at h; exact nomatch h
      · rw [e] at h; exact nomatch h
      · exact q
    bs := rfl
    be := fun k h => by
      have := (all k).2.2.1
      rw [h] at this
      exact List.mem_singleton.mp (of_decide_eq_true this)
    q34 := rfl
    eq1 := show hasB ("\"" : Str) _ = _ by decide +kernel
    eq0 := show hasB ("\"" : Str) _ = _ by decide +kernel
    qm := fun k h => by
      have := (all k).2.2.2.1
      rw [h] at this
      rcases List.mem_cons.mp (of_decide_eq_true this) with q | q
      · exact .inl q
      · exact .inr (List.mem_singleton.mp q) }
end Mini
namespace Mini
open PySem PySem.W PySem.Calls PyProof.Rows PySem.Builtin PySem.Builtin.Str
section
variable {w : World} {mg mb : Str → Option Value}
theorem io_new : NewIn (pg w mg mb) 587 80 84 where
  cls := ⟨((pg w mg mb).K.lookup 587).elim .none (·.cls), ((pg w mg mb).K.lookup 587).elim none (·.dict), (match ((pg w mg mb).K.lookup 587).elim .plain (·.data) with | .cls cd => cd | _ => default), ((pg w mg mb).K.lookup 587).elim #[] (·.slots), by kernel_rfl, by kernel_rfl⟩
  call := by kernel_rfl
  typ := by kernel_rfl
  made := by kernel_rfl
  reads := by kernel_rfl
  find := by kernel_rfl
  sm := ⟨((recIn (pg w mg mb).K 84 "staticmethod").getD []).tail, by kernel_rfl⟩
  self := by kernel_rfl
end
noncomputable def fdOf (K : Frag) (f : Addr) : FuncData := match K.lookup f with
  | some ⟨_, _, .func fd, _⟩ => fd
  | _ => fnX "" "" ⟨[], [], none, [], [], none, []⟩ [] ⟨.function, [], false, false, []⟩ [] .none .none .none .none none .none .none
noncomputable def fdObj (K : Frag) (f : Addr) : Obj := match K.lookup f with
  | some o => o
  | none => ⟨.none, none, .plain, #[]⟩
section
variable {w : World} {mg mb : Str → Option Value}
theorem io_newbody {o0 o1 : LO} :
    ExC (pg w mg mb) 50 (fmOf (pg w mg mb).K 80 false) (bodyOf (pg w mg mb).K 80) ⟨[("cls", .stat (.ref 587))], [o0, o1]⟩ (.ok (.ret (.obj 2)) ⟨[(("cls" : Str), .stat (.ref 587))], [(o0), (o1), .inst 587 []]⟩ O0 []) :=
  ExC.mk' (r := .inl (.ret (.obj 2))) (cs := []) ⟨[], []⟩ trivial (by kernel_rfl)
theorem io_fm : fmOf (pg w mg mb).K 80 false = ⟨(fdOf (pg w mg mb).K 80).qualname, (fdOf (pg w mg mb).K 80).scope, 80, (fdOf (pg w mg mb).K 80).code, false, false⟩ := by kernel_rfl
theorem io_make {o0 : LO} {text : Str} : CallC (pg w mg mb) 52 false 587 [.str text] [] [o0, .inst 722 []] (.inl (.obj 2)) [o0, .inst 722 [], ioOf text 0] := by
  have hb := io_newbody (w := w) (mg := mg) (mb := mb) (o0 := o0) (o1 := .inst 722 [])
  rw [io_fm] at hb
  refine CallC.own (n := 50) (n0 := "cls") (n1 := "args") (n2 := "kwargs") (name := (fdOf (pg w mg mb).K 80).name) (params := (fdOf (pg w mg mb).K 80).params) (dV := (fdOf (pg w mg mb).K 80).defaults) (kV := (fdOf (pg w mg mb).K 80).kwdefaults) (doc := (fdOf (pg w mg mb).K 80).doc) (pm := (fdOf (pg w mg mb).K 80).pyModule)
    (ct := (fdOf (pg w mg mb).K 80).closureTuple) (an := (fdOf (pg w mg mb).K 80).annotations) (oc := (fdObj (pg w mg mb).K 80).cls) (od := (fdObj (pg w mg mb).K 80).dict) (osl := (fdObj (pg w mg mb).K 80).slots) io_new (fI := 357) (by kernel_rfl) (by kernel_rfl) (by kernel_rfl) (by kernel_rfl)
    (fun x => by kernel_rfl) (fun x a => by kernel_rfl) (fun x a b => by kernel_rfl) (by kernel_rfl) (by kernel_rfl) (by kernel_rfl) (by kernel_rfl) (by kernel_rfl) (by kernel_rfl) (by kernel_rfl) (by kernel_rfl) (by kernel_rfl) hb rfl (io_init.le (by decide)) (by decide)
end
section
variable {w : World} {mg mb : Str → Option Value}
noncomputable def hp7 (o0 : LO) (u t : List Nat) : List LO := [o0, lexP true (cfK u false) 2 3 4 5 (.str " ") "" 1, ioOf (tx t) 0, .deque [], .deque [], .deque [], .dict (fkEs (tx u)), .tab u]
theorem wc0_size : wc0.cps.size ≤ 1000 ∧ wc0.cps.size ≠ 0 := by decide +kernel
theorem tx_cps (u : List Nat) : (tx u).cps.toList = u := by unfold tx; rfl
theorem told_fk {o0 : LO} {u t : List Nat} (nd : u.Nodup) (hu : u.length ≤ 1000) : FkAt (tx u) (hp5 o0 wc0 (tx u) (tx t)) (.obj 6) (hp5 o0 wc0 (tx u) (tx t) ++ [.dict (fkEs (tx u))]) := ⟨rfl, rfl, by rw [tx_cps]; exact nd, hu⟩
theorem told_mt {o0 : LO} {u t : List Nat} (nd : u.Nodup) (hu : u.length ≤ 1000) : MtAt 6 (hp5 o0 wc0 (tx u) (tx t) ++ [.dict (fkEs (tx u))]) (.obj 7) (hp5 o0 wc0 (tx u) (tx t) ++ [.dict (fkEs (tx u)), .tab (tx u).cps.toList]) :=
  ⟨tx u, rfl, by rw [tx_cps]; exact nd, hu, rfl, rfl⟩
theorem told_tr {o0 : LO} {u t : List Nat} : TrAt wc0 7 (hp5 o0 wc0 (tx u) (tx t) ++ [.dict (fkEs (tx u)), .tab (tx u).cps.toList]) (.str (wcK u)) (hp5 o0 wc0 (tx u) (tx t) ++ [.dict (fkEs (tx u)), .tab (tx u).cps.toList]) :=
  ⟨u, rfl, wc0_size.1, wc0_size.2, rfl, rfl⟩
theorem lex_init {o0 : LO} {u t : List Nat} (nd : u.Nodup) (hu : u.length ≤ 1000) (hne : u ≠ []) : CallC (pg w mg mb) 100 false 722 [.str (tx t)] [("posix", .bool true), ("punctuation_chars", .str (tx u))] [o0] (.inl (.obj 1)) (hp7 o0 u t) := by
  have hl : (Str.length (tx u) : Nat) ≤ 1048576 := by rw [tx_len]; exact nle hu
  have h0 : ((Str.length (tx u) : Int) != 0) = true := by
    rw [tx_len]
    exact bne_iff_ne.mpr fun e => hne (List.length_eq_zero_iff.mp (Int.ofNat.inj e))
  have io := (io_make (w := w) (mg := mg) (mb := mb) (o0 := o0) (text := tx t)).le (show 52 ≤ 94 by decide)
  exact inT_s io hl (by rw [h0]; rfl) hl h0 (told_fk nd hu) (told_mt nd hu) told_tr
noncomputable def uDef : List Nat := [40, 41, 59, 60, 62, 124, 38]
theorem uDef_tx : ("();<>|&" : Str) = tx uDef := by decide +kernel
theorem uDef_ok : OkU uDef := ⟨by decide, by decide, by decide, by decide⟩
theorem lex_initD {o0 : LO} {t : List Nat} : CallC (pg w mg mb) 100 false 722 [.str (tx t)] [("posix", .bool true), ("punctuation_chars", .bool true)] [o0] (.inl (.obj 1)) (hp7 o0 uDef t) := by
  have io := (io_make (w := w) (mg := mg) (mb := mb) (o0 := o0) (text := tx t)).le (show 52 ≤ 94 by decide)
  have nd : uDef.Nodup := by decide
  have f := told_fk (o0 := o0) (t := t) nd (by decide)
  have m := told_mt (o0 := o0) (t := t) nd (by decide)
  have r := told_tr (o0 := o0) (u := uDef) (t := t)
  unfold hp7
  rw [← uDef_tx] at f m r ⊢
  exact inT_t io f m r
end
end Mini
namespace Mini
open PySem PySem.W PySem.Calls PyProof.Rows PySem.Builtin PySem.Builtin.Str
theorem Sub.cons {a : Str} {u : V} {l loc : List (Str × V)} (h1 : loc.lookup a = some u) (h2 : Sub l loc) : Sub ((a, u) :: l) loc := by
  intro x v e
  rw [List.lookup_cons] at e
  cases hx : x == a with
  | true => rw [hx] at e; rw [← Option.some.inj e, beq_iff_eq.mp hx]; exact h1
  | false => rw [hx] at e; exact h2 x v e
theorem Rp.sub {P : Pg} {fm : Fm} {X : Fx} {D : Dy} {loc loc' : List (Str × V)} {hp : List LO} {h : Heap} (r : Rp P fm X D ⟨loc, hp⟩ h) (s : Sub loc' loc) : Rp P fm X D ⟨loc', hp⟩ h := ⟨r.F, r.N, r.nd, r.len, r.dis, fun x v e => r.loc x v (s x v e), r.cel, r.inj, r.hp⟩
theorem ok_pre {α β : Type} {P : Pg} {fm : Fm} {X : Fx} {D : Dy} {loc loc' : List (Str × V)} {hp : List LO} {t : Sem β} {r : Res α} {R : α → Dy → β → Prop} (h : Ok P fm X D ⟨loc', hp⟩ t r R) (s : Sub loc' loc) : Ok P fm X D ⟨loc, hp⟩ t r R := by
  cases r with
  | no w => exact trivial
  | ex cls args σ' os c => exact fun hc s₁ hs Q E hE hQ => h hc s₁ (hs.sub s) Q E hE hQ
  | ok a σ' os c => exact fun hc s₁ hs Q E hQ => h hc s₁ (hs.sub s) Q E hQ
theorem StC.pre {P : Pg} {n : Nat} {fm : Fm} {st : Stmt} {loc loc' : List (Str × V)} {hp : List LO} {r : Res Fl} (h : StC P n fm ⟨loc', hp⟩ st r) (s : Sub loc' loc) : StC P n fm ⟨loc, hp⟩ st r := ⟨fun X D c => ok_pre (h.out X D c) s⟩
theorem ExC.pre {P : Pg} {n : Nat} {fm : Fm} {ss : List Stmt} {loc loc' : List (Str × V)} {hp : List LO} {r : Res Fl} (h : ExC P n fm ss ⟨loc', hp⟩ r) (s : Sub loc' loc) : ExC P n fm ss ⟨loc, hp⟩ r := ⟨fun X D c => ok_pre (h.out X D c) s⟩
theorem pick_one {l : List Nat} {k : Int} (h0 : 0 ≤ k) (h : k < l.length) : ∃ c, Txt.item (tx l) k = tx [c] := by
  obtain ⟨n, rfl⟩ := Int.eq_ofNat_of_zero_le h0
  have hn : n < l.length := Int.ofNat_lt.mp h
  exact ⟨l[n], item_nat (List.getElem?_eq_getElem hn)⟩
theorem fits_small {k : Int} (h0 : 0 ≤ k) (h : k < 100000) : fitsSsize k = true := by
  unfold fitsSsize
  rw [decide_eq_false (Int.not_lt.mpr (Int.le_trans (by decide) h0)), decide_eq_false (Int.not_le.mpr (Int.lt_of_lt_of_le h (by decide)))]; rfl
section
variable {w : World} {mg mb : Str → Option Value}
noncomputable def sgS : List Nat := [97, 98, 124, 32, 39, 34, 10, 92, 38, 35, 61, 45, 36, 40, 59, 62, 63, 233, 9]
theorem sSg : Str.ofString "ab| '\"\n\\&#=-$(;>?é\t" = tx sgS := by decide +kernel
theorem sg_made {n : Int} (h : 0 ≤ n) : ∃ n' c, 0 ≤ n' ∧ n' ≤ n ∧ ∀ hp, CallC (pg w mg mb) 40 false 733 [.int n] [] hp (.inl (.tup [.int n', .str (tx [c])])) hp := by
  have f1 : Int.fmod n 20 = n % 20 := Int.fmod_eq_emod_of_nonneg _ (by decide)
  have f2 : Int.fdiv n 20 = n / 20 := Int.fdiv_eq_ediv_of_nonneg _ (by decide)
  have g1 : Int.fmod (n / 20) 1112064 = (n / 20) % 1112064 := Int.fmod_eq_emod_of_nonneg _ (by decide)
  have g2 : Int.fdiv (n / 20) 1112064 = (n / 20) / 1112064 := Int.fdiv_eq_ediv_of_nonneg _ (by decide)
  have k0 : 0 ≤ n % 20 := Int.emod_nonneg _ (by decide)
  have d0 : 0 ≤ n / 20 := Int.ediv_nonneg h (by decide)
  have d1 : n / 20 ≤ n := Int.ediv_le_self _ h
  by_cases hk : n % 20 < 19
  · obtain ⟨c, hc⟩ := pick_one (l := sgS) k0 hk
    refine ⟨n / 20, c, d0, d1, fun hp => ?_⟩
    have main := sg_b (w := w) (mg := mg) (mb := mb) (n := n) (hp := hp) (by rw [f1]; exact decide_eq_true hk) (by rw [f1]; exact ⟨fits_small k0 (Int.lt_trans hk (by decide)), Int.le_trans (by decide) k0, hk⟩)
    rw [f1, f2, sSg, hc] at main
    exact main
  · have e0 : 0 ≤ (n / 20) % 1112064 := Int.emod_nonneg _ (by decide)
    have e1 : (n / 20) % 1112064 < 1112064 := Int.emod_lt_of_pos _ (by decide)
    by_cases h5 : (n / 20) % 1112064 < 55296
    · refine ⟨(n / 20) / 1112064, ((n / 20) % 1112064).toNat, Int.ediv_nonneg d0 (by decide), Int.le_trans (Int.ediv_le_self _ d0) d1, fun hp => ?_⟩
      have main := sg_c1 (w := w) (mg := mg) (mb := mb) (n := n) (hp := hp) (by rw [f1]; exact decide_eq_false hk) (by rw [f2, g1]; exact decide_eq_true h5) (by rw [f2, g1]; exact ⟨e0, Int.le_trans (Int.le_of_lt e1) (by decide)⟩)
      rw [f2, g1, g2, tx_one] at main
      exact main
    · refine ⟨(n / 20) / 1112064, ((n / 20) % 1112064 + 2048).toNat, Int.ediv_nonneg d0 (by decide), Int.le_trans (Int.ediv_le_self _ d0) d1, fun hp => ?_⟩
      have main := sg_c2 (w := w) (mg := mg) (mb := mb) (n := n) (hp := hp) (by rw [f1]; exact decide_eq_false hk) (by rw [f2, g1]; exact decide_eq_false h5) (by rw [f2, g1]; exact ⟨Int.add_nonneg e0 (by decide), Int.le_trans (Int.add_le_add_right (Int.le_of_lt_add_one (show _ < (1112063 : Int) + 1 from e1)) 2048) (by decide)⟩)
      rw [f2, g1, g2, tx_one] at main
      exact main
noncomputable abbrev d3 (i : List Nat) (b : Bool) (p : List Nat) : List (Str × V) := [("inner", .str (tx i)), ("loose", .bool b), ("piece", .str (tx p))]
noncomputable abbrev d4 (i : List Nat) (b : Bool) (p : List Nat) (k : Int) : List (Str × V) := [("inner", .str (tx i)), ("loose", .bool b), ("piece", .str (tx p)), ("k", .int k)]
theorem sQ2 : Str.ofString "\"" = tx [34] := by decide +kernel
theorem sB : Str.ofString "\\" = tx [92] := by decide +kernel
theorem ch_is (c d : Nat) : ((⟨#[c]⟩ : Str) == tx [d]) = decide (c = d) := by
  rw [tx_one, tx_beq]
  by_cases h : c = d
  · rw [h, decide_eq_true rfl, decide_eq_true rfl]
  · rw [decide_eq_false h, decide_eq_false (fun e => h (List.cons.inj e).1)]
theorem next_lonely (b : Bool) (r : List Nat) : (b && !anyStr (tx (r.take 1)) [Str.ofString "", Str.ofString "\"", Str.ofString "\\"]) = lonely b r := by
  have e : ∀ x : Str, anyStr x [Str.ofString "", Str.ofString "\"", Str.ofString "\\"] = ((tx [] == x) || ((tx [34] == x) || ((tx [92] == x) || false))) := fun x => by rw [tx_nil, sQ2, sB]; rfl
  rw [e]
  cases r with
  | nil =>
    show (b && !((tx [] == tx []) || _)) = false
    rw [beq_self_eq_true, Bool.true_or]; exact Bool.and_false b
  | cons d r =>
    show (b && !((tx [] == tx [d]) || ((tx [34] == tx [d]) || ((tx [92] == tx [d]) || false)))) = (b && decide (d ≠ 34 ∧ d ≠ 92))
    rw [tx_beq, tx_beq, tx_beq, decide_eq_false (fun q => nomatch q), Bool.false_or, Bool.or_false]
    congr 1
    by_cases h1 : d = 34
    · subst h1; rfl
    · by_cases h2 : d = 92
      · subst h2; rfl
      · rw [decide_eq_false (fun q => h1 (List.cons.inj q).1.symm), decide_eq_false (fun q => h2 (List.cons.inj q).1.symm), decide_eq_true ⟨h1, h2⟩]; rfl
theorem slice_end (l : List Nat) : Txt.slice (tx l) (some (l.length : Int)) (some ((l.length : Int) + 1)) = tx [] := by
  have n0 : ¬ ((l.length : Int) < 0) := Int.not_lt.mpr (Int.natCast_nonneg _)
  have n1 : ¬ ((l.length : Int) + 1 < 0) := Int.not_lt.mpr (Int.natCast_nonneg (l.length + 1))
  have e : strSliceIndices (some (l.length : Int)) (some ((l.length : Int) + 1)) 1 (tx l).length = [] := by
    rw [tx_len]
    unfold strSliceIndices
    dsimp only
    rw [if_neg n0, if_neg n1, if_pos Int.one_pos, if_pos Int.one_pos, Int.min_self, Int.min_eq_right (Int.le_add_one (Int.le_refl _)), Int.max_eq_right (Int.natCast_nonneg _)]
    unfold sliceRange
    dsimp only
    rw [if_pos Int.one_pos, if_neg (Int.lt_irrefl _)]
    rfl
  unfold Txt.slice
  rw [e]
  split
  · rename_i h
    have h := (Bool.and_eq_true_iff.mp h).2
    rw [tx_len] at h
    have h : 0 = l.length := beq_iff_eq.mp h
    rw [List.length_eq_zero_iff.mp h.symm]
  · rfl
theorem slice_next (l : List Nat) (j : Nat) (h : j < l.length) : Txt.slice (tx l) (some ((j : Int) + 1)) (some ((j : Int) + 2)) = tx ((l.drop (j + 1)).take 1) := by
  rcases Nat.lt_or_ge (j + 1) l.length with h2 | h2
  · exact (slice_midK l (Nat.le_succ (j + 1)) h2).trans (by show tx (List.take (j + 1 + 1 - (j + 1)) _) = _; rw [Nat.add_sub_cancel_left])
  · have e : l.length = j + 1 := Nat.le_antisymm h2 h
    have S := slice_end l
    rw [e] at S
    rw [List.drop_eq_nil_of_le h2]
    exact S
theorem db_turn {i : List Nat} {b : Bool} {p : List Nat} {j c : Nat} (hc : i[j]? = some c) (hi : i.length ≤ 1000) (hp : p.length ≤ 1000) : ∀ hh,
    ExC (pg w mg mb) 60 (fmOf (pg w mg mb).K 747 false) (loopIn (dbFor (pg w mg mb))) ⟨d4 i b p j, hh⟩ (.ok .next ⟨d4 i b (p ++ dblS b c (i.drop (j + 1))) j, hh⟩ O0 []) := by
  intro hh
  have hj := (List.getElem?_eq_some_iff.mp hc).1
  have ei : Txt.item (tx i) (j : Int) = ⟨#[c]⟩ := item_nat hc
  have c1 : fitsSsize (j : Int) = true ∧ (-((tx i).length : Int)) ≤ (j : Int) ∧ (j : Int) < ((tx i).length : Int) := by rw [tx_len]; exact ⟨fits_small (Int.natCast_nonneg _) (Int.ofNat_lt.mpr (Nat.lt_of_lt_of_le hj (nle hi))), Int.le_trans (Int.neg_nonpos_of_nonneg (Int.natCast_nonneg _)) (Int.natCast_nonneg _), Int.ofNat_lt.mpr hj⟩
  have l1 : (tx p).length + 1 ≤ 16777216 := by rw [tx_len]; exact nle (Nat.succ_le_succ hp)
  have l2 : (tx p ++ tx [92]).length + (⟨#[c]⟩ : Str).length ≤ 16777216 := by rw [tx_app, tx_len, List.length_append]; exact nle (Nat.succ_le_succ (Nat.succ_le_succ hp))
  have l3 : (tx p).length + (⟨#[c]⟩ : Str).length ≤ 16777216 := l1
  have l4 : (tx i).length ≤ 16777216 := by rw [tx_len]; exact nle hi
  have sl := slice_next i j hj
  have nl := next_lonely b (i.drop (j + 1))
  rw [← sl] at nl
  unfold dblS
  by_cases h1 : c = 34
  · rw [if_pos h1]
    have A := db_q (w := w) (mg := mg) (mb := mb) (i := tx i) (lo := b) (p := tx p) (hp := hh) (k := j) c1 (by rw [ei, sQ2, ch_is]; exact decide_eq_true h1) l1 c1 (by rw [ei, sB]; exact l2)
    rw [ei, sB, tx_one, tx_app, tx_app, List.append_assoc] at A
    subst h1
    exact A
  · rw [if_neg h1]
    have g1 : (Txt.item (tx i) (j : Int) == Str.ofString "\"") = false := by rw [ei, sQ2, ch_is]; exact decide_eq_false h1
    by_cases h2 : c = 92
    · rw [if_pos h2]
      have g2 : (Txt.item (tx i) (j : Int) == Str.ofString "\\") = true := by rw [ei, sB, ch_is]; exact decide_eq_true h2
      subst h2
      cases b with
      | false =>
        have A := db_e (w := w) (mg := mg) (mb := mb) (i := tx i) (p := tx p) (hp := hh) (k := j) c1 g1 c1 g2 l1 c1 (by rw [ei, sB]; exact l2)
        rw [ei, sB, tx_one, tx_app, tx_app, List.append_assoc] at A
        rw [show lonely false (i.drop (j + 1)) = false by cases i.drop (j + 1) <;> rfl, if_neg nofun]
        exact A
      | true =>
        rw [Bool.true_and] at nl
        by_cases hl : lonely true (i.drop (j + 1)) = true
        · rw [if_pos hl]
          rw [hl] at nl
          have A := db_l (w := w) (mg := mg) (mb := mb) (i := tx i) (p := tx p) (hp := hh) (k := j) c1 g1 c1 g2 l4 nl c1 (by rw [ei]; exact l3)
          rw [ei, tx_one, tx_app] at A
          exact A
        · rw [if_neg hl]
          rw [eq_false_of_ne_true hl] at nl
          have A := db_m (w := w) (mg := mg) (mb := mb) (i := tx i) (p := tx p) (hp := hh) (k := j) c1 g1 c1 g2 l4 nl l1 c1 (by rw [ei, sB]; exact l2)
          rw [ei, sB, tx_one, tx_app, tx_app, List.append_assoc] at A
          exact A
    · rw [if_neg h2]
      have A := db_o (w := w) (mg := mg) (mb := mb) (i := tx i) (lo := b) (p := tx p) (hp := hh) (k := j) c1 g1 c1 (by rw [ei, sB, ch_is]; exact decide_eq_false h2) c1 (by rw [ei]; exact l3)
      rw [ei, tx_one, tx_app] at A
      exact A
theorem dbFor_eq : dbFor (pg w mg mb) = .For (.Name "k" (epos (targetOf (dbFor (pg w mg mb))))) (testOf (dbFor (pg w mg mb))) (loopIn (dbFor (pg w mg mb))) [] (posOf (dbFor (pg w mg mb))) := by kernel_rfl
theorem dblS_len (b : Bool) (c : Nat) (r : List Nat) : (dblS b c r).length ≤ 2 := by
  unfold dblS
  by_cases h1 : c = 34
  · rw [if_pos h1]; exact Nat.le_refl _
  · rw [if_neg h1]
    by_cases h2 : c = 92
    · rw [if_pos h2]
      by_cases h3 : lonely b r = true
      · rw [if_pos h3]; exact Nat.le_succ _
      · rw [if_neg h3]; exact Nat.le_refl _
    · rw [if_neg h2]; exact Nat.le_succ _
theorem dbl_len (b : Bool) : ∀ i : List Nat, (dbl b i).length ≤ 2 * i.length
  | [] => Nat.le_refl _
  | c :: r => by
    show (dblS b c r ++ dbl b r).length ≤ 2 * (r.length + 1)
    rw [List.length_append, Nat.mul_succ, Nat.add_comm]
    exact Nat.add_le_add (dbl_len b r) (dblS_len b c r)
theorem db_for {i : List Nat} {b : Bool} {p : Pos} (hi : i.length ≤ 100) : ∀ (m j : Nat), j + m = i.length → ∀ (loc : List (Str × V)) (q : List Nat), (loc = d3 i b q ∨ ∃ k, loc = d4 i b q k) → 2 * m + q.length ≤ 1000 →
    ∃ loc', (loc' = d3 i b (q ++ dbl b (i.drop j)) ∨ ∃ k, loc' = d4 i b (q ++ dbl b (i.drop j)) k) ∧ ∀ hp, lobs hp.length hp = true →
      ForI (pg w mg mb) 60 (fmOf (pg w mg mb).K 747 false) (.Name "k" p) (loopIn (dbFor (pg w mg mb))) (rngVs i.length) (fun _ => True) hp.length j ⟨loc, hp⟩ (.ok .next ⟨loc', hp⟩ O0 []) := by
  intro m
  induction m with
  | zero =>
    intro j hj loc q hl hq
    refine ⟨loc, ?_, fun hp hb => .stop (rngVs_none (show i.length ≤ j from Nat.le_of_eq hj.symm)) trivial ⟨rfl, ?_, hb⟩⟩
    · rw [List.drop_eq_nil_of_le (show i.length ≤ j from Nat.le_of_eq hj.symm), show dbl b [] = [] from rfl, List.append_nil]; exact hl
    · rcases hl with rfl | ⟨k, rfl⟩ <;> rfl
  | succ m ih =>
    intro j hj loc q hl hq
    have hji : j < i.length := by rw [← hj]; exact Nat.lt_add_of_pos_right (Nat.succ_pos m)
    have hdr : i.drop j = i[j] :: i.drop (j + 1) := List.drop_eq_getElem_cons hji
    have sl := dblS_len b i[j] (i.drop (j + 1))
    have B := db_turn (w := w) (mg := mg) (mb := mb) (i := i) (b := b) (p := q) (j := j) (List.getElem?_eq_getElem hji) (nle hi) (Nat.le_trans (Nat.le_add_left _ _) hq)
    obtain ⟨loc', b1, L⟩ := ih (j + 1) ((Nat.succ_add_eq_add_succ j m).trans hj) (d4 i b (q ++ dblS b i[j] (i.drop (j + 1))) j) (q ++ dblS b i[j] (i.drop (j + 1))) (.inr ⟨_, rfl⟩) (by rw [List.length_append, Nat.add_comm q.length, ← Nat.add_assoc]; exact Nat.le_trans (Nat.add_le_add_right (Nat.add_le_add_left sl _) _) hq)
    rw [List.append_assoc] at b1
    rw [hdr]
    refine ⟨loc', b1, fun hp hb => .next (rngVs_get hji) trivial rfl (fun lo => ⟨⟨d4 i b q j, hp ++ [lo]⟩, ?_, B _⟩) (.inl rfl) (L hp hb)⟩
    have A := AsC.name (P := pg w mg mb) (n := 60) (fm := fmOf (pg w mg mb).K 747 false) (x := "k") (p := p) (v := .int j) (loc := loc) (hp := hp ++ [lo]) (by kernel_rfl)
    rcases hl with rfl | ⟨k, rfl⟩ <;> exact A
theorem db_made {i : List Nat} {b : Bool} (hi : i.length ≤ 100) {hp : List LO} (hb : lobs hp.length hp = true) : CallC (pg w mg mb) 80 false 747 [.str (tx i), .bool b] [] hp (.inl (.str (tx (34 :: (dbl b i ++ [34]))))) hp := by
  obtain ⟨loc', a1, L⟩ := db_for (w := w) (mg := mg) (mb := mb) (b := b) (p := epos (targetOf (dbFor (pg w mg mb)))) hi i.length 0 (Nat.zero_add _) (d3 i b []) [] (.inl rfl) (nle (Nat.mul_le_mul_left 2 hi))
  rw [List.drop_zero, List.nil_append] at a1
  have L := L hp hb
  have hl : (dbl b i).length ≤ 200 := Nat.le_trans (dbl_len b i) (Nat.mul_le_mul_left 2 hi)
  have it := db_it (w := w) (mg := mg) (mb := mb) (i := tx i) (lo := b) (p := tx []) (hp := hp) (by rw [tx_len]; exact Nat.lt_of_le_of_lt hi (by decide))
  rw [tx_len] at it
  have S : StC (pg w mg mb) 78 (fmOf (pg w mg mb).K 747 false) ⟨d3 i b [], hp⟩ (dbFor (pg w mg mb)) (.ok .next ⟨[("piece", .str (tx (dbl b i)))], hp⟩ O0 []) := by
    rw [dbFor_eq]
    refine ((for_range (it.le (by decide : 60 ≤ 78)) (Int.lt_of_le_of_lt (Int.ofNat_le.mpr hi) (by decide)) (L.le (by decide : 60 ≤ 78)) (by kernel_rfl) (by intro env x; kernel_rfl))).forget (os' := O0) ?_
    rcases a1 with rfl | ⟨k, rfl⟩
    · exact Sub.cons rfl (Sub.nil _)
    · exact Sub.cons rfl (Sub.nil _)
  have M := db_call (S.pre (loc := [("loose", .bool b), ("inner", .str (tx i)), ("piece", .str ("" : Str))]) (Sub.cons rfl (Sub.cons rfl (Sub.cons (by rw [tx_nil]; rfl) (Sub.nil _))))) (by rw [tx_len]; exact nle (Nat.add_le_add_left hl 1)) (by rw [sQ2, tx_app, tx_len]; exact nle (Nat.succ_le_succ (Nat.succ_le_succ hl)))
  rw [sQ2, tx_app, tx_app] at M
  exact M
end
end Mini
namespace Mini
open PySem PySem.W PySem.Calls PyProof.Rows
section
variable {w : World} {mg mb : Str → Option Value}
variable {u text la i t kn s tx' la' : Str} {sp : Bool} {x n mn sz j n' : Int} {o0 lo l2 : LO} {ws ws' : List V}
theorem li_t :
    TeC (pg w mg mb) 110 (fmOf (pg w mg mb).K 754 false) (testOf (liWhile (pg w mg mb))) ⟨[("numbers", .obj 0), ("runs", .str u), ("split", .bool sp), ("text", .str text), ("words", .obj 1), ("last", .str la), ("x", .int x), ("n", .int n)], [o0, .list ws, lo]⟩ (decide (0 < n)) ⟨[("numbers", .obj 0), ("runs", .str (u)), ("split", .bool (sp)), ("text", .str (text)), ("words", .obj 1), ("last", .str (la)), ("x", .int (x)), ("n", .int (n))], [o0, .list ws, lo]⟩ :=
  TeC.mk' (cs := []) ⟨[], []⟩ trivial (by kernel_rfl)
theorem li_h0
    (h0 : (decide (3 < Int.fmod (n - 1) 8)) = false) :
    ExC (pg w mg mb) 110 (fmOf (pg w mg mb).K 754 false) (liIn (pg w mg mb) 0 3) ⟨[("numbers", .obj 0), ("runs", .str u), ("split", .bool sp), ("text", .str text), ("words", .obj 1), ("last", .str la), ("x", .int x), ("n", .int n)], [o0, .list ws, lo]⟩ (.ok (.next) ⟨[("numbers", .obj 0), ("runs", .str (u)), ("split", .bool (sp)), ("text", .str (text)), ("words", .obj 1), ("last", .str (la)), ("x", .int (x)), ("n", .int (Int.fdiv (n - 1) 8)), ("manner", .int (Int.fmod (n - 1) 8)), ("inner", .str ("" : Str)), ("size", .int 1)], [o0, .list ws, lo]⟩ O0 []) :=
  ExC.mk' (r := .inl (.next)) (cs := [_, _]) ⟨[.f], []⟩ ⟨(by decide +kernel : ((¬ ((8 : Int) = 0)) ∧ (false = false))), h0, trivial⟩ (by kernel_rfl)
theorem li_h1
    (h0 : (decide (3 < Int.fmod (n - 1) 8)) = true) :
    ExC (pg w mg mb) 110 (fmOf (pg w mg mb).K 754 false) (liIn (pg w mg mb) 0 3) ⟨[("numbers", .obj 0), ("runs", .str u), ("split", .bool sp), ("text", .str text), ("words", .obj 1), ("last", .str la), ("x", .int x), ("n", .int n)], [o0, .list ws, lo]⟩ (.ok (.next) ⟨[("numbers", .obj 0), ("runs", .str (u)), ("split", .bool (sp)), ("text", .str (text)), ("words", .obj 1), ("last", .str (la)), ("x", .int (x)), ("n", .int (Int.fdiv (Int.fdiv (n - 1) 8) 4)), ("manner", .int (Int.fmod (n - 1) 8)), ("inner", .str ("" : Str)), ("size", .int (Int.fmod (Int.fdiv (n - 1) 8) 4))], [o0, .list ws, lo]⟩ O0 []) :=
  ExC.mk' (r := .inl (.next)) (cs := [_, _, _]) ⟨[.t], []⟩ ⟨(by decide +kernel : ((¬ ((8 : Int) = 0)) ∧ (false = false))), h0, (by decide +kernel : ((¬ ((4 : Int) = 0)) ∧ (false = false))), trivial⟩ (by kernel_rfl)
theorem si_it :
    EvC (pg w mg mb) 80 (fmOf (pg w mg mb).K 754 false) (testOf (siFor (pg w mg mb))) (.rng 0 (sz)) (⟨[("numbers", .obj 0), ("runs", .str u), ("split", .bool sp), ("text", .str text), ("words", .obj 1), ("last", .str la), ("x", .int x), ("n", .int n), ("manner", .int mn), ("inner", .str i), ("size", .int sz)], [o0, .list ws, lo]⟩) ⟨[("numbers", .obj 0), ("runs", .str (u)), ("split", .bool (sp)), ("text", .str (text)), ("words", .obj 1), ("last", .str (la)), ("x", .int (x)), ("n", .int (n)), ("manner", .int (mn)), ("inner", .str (i)), ("size", .int (sz))], [o0, .list ws, lo]⟩ :=
  EvC.mk' (cs := []) ⟨[], []⟩ trivial (by kernel_rfl)
theorem si_b
    (h0 : CallC (pg w mg mb) 97 false 733 [.int n] [] [o0, .list ws, lo, l2] (.inl (.tup [.int (n'), .str t])) [o0, .list ws, lo, l2])
    (h1 : ((Str.length i + Str.length t) : Nat) ≤ 16777216) :
    ExC (pg w mg mb) 100 (fmOf (pg w mg mb).K 754 false) (loopIn (siFor (pg w mg mb))) ⟨[("numbers", .obj 0), ("runs", .str u), ("split", .bool sp), ("text", .str text), ("words", .obj 1), ("last", .str la), ("x", .int x), ("n", .int n), ("manner", .int mn), ("inner", .str i), ("size", .int sz), ("turn", .int j)], [o0, .list ws, lo, l2]⟩ (.ok (.next) ⟨[("numbers", .obj 0), ("runs", .str (u)), ("split", .bool (sp)), ("text", .str (text)), ("words", .obj 1), ("last", .str (la)), ("x", .int (x)), ("n", .int (n')), ("manner", .int (mn)), ("inner", .str (i ++ t)), ("size", .int (sz)), ("turn", .int (j)), ("sign", .str (t))], [o0, .list ws, lo, l2]⟩ O0 []) :=
  ExC.mk' (r := .inl (.next)) (cs := [_, _]) ⟨[], [.fn (.tup [.int n', .str t]) [o0, .list ws, lo, l2]]⟩ ⟨h0, h1, trivial⟩ (by kernel_rfl)
theorem li_k :
    ExC (pg w mg mb) 110 (fmOf (pg w mg mb).K 754 false) (liIn (pg w mg mb) 4 1) ⟨[("numbers", .obj 0), ("runs", .str u), ("split", .bool sp), ("text", .str text), ("words", .obj 1), ("last", .str la), ("x", .int x), ("n", .int n), ("manner", .int mn), ("inner", .str i)], [o0, .list ws, lo]⟩ (.ok (.next) ⟨[("numbers", .obj 0), ("runs", .str (u)), ("split", .bool (sp)), ("text", .str (text)), ("words", .obj 1), ("last", .str (la)), ("x", .int (x)), ("n", .int (n)), ("manner", .int (mn)), ("inner", .str (i)), ("kind", .str ("word" : Str))], [o0, .list ws, lo]⟩ O0 []) :=
  ExC.mk' (r := .inl (.next)) (cs := []) ⟨[], []⟩ trivial (by kernel_rfl)
theorem mn_3
    (h0 : (decide (mn < 4)) = true)
    (h1 : CallC (pg w mg mb) 106 false 740 [.str i, .str u, .bool sp] [] [o0, .list ws, lo] (.inl (.str (kn))) [o0, .list ws, lo])
    (h2 : (mn == 3) = true)
    (h3 : ((Str.length text + 1) : Nat) ≤ 16777216)
    (h4 : ((Str.length (text ++ Str.ofString "\\") + Str.length i) : Nat) ≤ 16777216) :
    ExC (pg w mg mb) 110 (fmOf (pg w mg mb).K 754 false) [mnIf (pg w mg mb)] ⟨[("numbers", .obj 0), ("runs", .str u), ("split", .bool sp), ("text", .str text), ("words", .obj 1), ("last", .str la), ("x", .int x), ("n", .int n), ("manner", .int mn), ("inner", .str i), ("kind", .str ("word" : Str))], [o0, .list ws, lo]⟩ (.ok (.next) ⟨[("numbers", .obj 0), ("runs", .str (u)), ("split", .bool (sp)), ("text", .str (text ++ Str.ofString "\\" ++ i)), ("words", .obj 1), ("last", .str (la)), ("x", .int (x)), ("n", .int (n)), ("manner", .int (mn)), ("inner", .str (i)), ("kind", .str ("word" : Str))], [o0, .list ws, lo]⟩ O0 []) :=
  ExC.mk' (r := .inl (.next)) (cs := [_, _, _, _, _]) ⟨[.t, .t], [.fn (.str kn) [o0, .list ws, lo]]⟩ ⟨h0, h1, h2, h3, h4, trivial⟩ (by kernel_rfl)
theorem mn_q
    (h0 : (decide (mn < 4)) = true)
    (h1 : CallC (pg w mg mb) 106 false 740 [.str i, .str u, .bool sp] [] [o0, .list ws, lo] (.inl (.str ("quoting" : Str))) [o0, .list ws, lo])
    (h2 : (mn == 3) = false)
    (h3 : ((Str.length text + 1) : Nat) ≤ 16777216)
    (h4 : ((Str.length (text ++ Str.ofString "\\") + Str.length i) : Nat) ≤ 16777216) :
    ExC (pg w mg mb) 110 (fmOf (pg w mg mb).K 754 false) [mnIf (pg w mg mb)] ⟨[("numbers", .obj 0), ("runs", .str u), ("split", .bool sp), ("text", .str text), ("words", .obj 1), ("last", .str la), ("x", .int x), ("n", .int n), ("manner", .int mn), ("inner", .str i), ("kind", .str ("word" : Str))], [o0, .list ws, lo]⟩ (.ok (.next) ⟨[("numbers", .obj 0), ("runs", .str (u)), ("split", .bool (sp)), ("text", .str (text ++ Str.ofString "\\" ++ i)), ("words", .obj 1), ("last", .str (la)), ("x", .int (x)), ("n", .int (n)), ("manner", .int (mn)), ("inner", .str (i)), ("kind", .str ("word" : Str))], [o0, .list ws, lo]⟩ O0 []) :=
  ExC.mk' (r := .inl (.next)) (cs := [_, _, _, _, _]) ⟨[.t, .f], [.fn (.str ("quoting" : Str)) [o0, .list ws, lo]]⟩ ⟨h0, h1, h2, h3, h4, trivial⟩ (by kernel_rfl)
theorem mn_k
    (h0 : (decide (mn < 4)) = true)
    (h1 : CallC (pg w mg mb) 106 false 740 [.str i, .str u, .bool sp] [] [o0, .list ws, lo] (.inl (.str (kn))) [o0, .list ws, lo])
    (h2 : (mn == 3) = false)
    (h3 : (kn == Str.ofString "quoting") = false)
    (h4 : ((Str.length text + Str.length i) : Nat) ≤ 16777216) :
    ExC (pg w mg mb) 110 (fmOf (pg w mg mb).K 754 false) [mnIf (pg w mg mb)] ⟨[("numbers", .obj 0), ("runs", .str u), ("split", .bool sp), ("text", .str text), ("words", .obj 1), ("last", .str la), ("x", .int x), ("n", .int n), ("manner", .int mn), ("inner", .str i), ("kind", .str ("word" : Str))], [o0, .list ws, lo]⟩ (.ok (.next) ⟨[("numbers", .obj 0), ("runs", .str (u)), ("split", .bool (sp)), ("text", .str (text ++ i)), ("words", .obj 1), ("last", .str (la)), ("x", .int (x)), ("n", .int (n)), ("manner", .int (mn)), ("inner", .str (i)), ("kind", .str (kn))], [o0, .list ws, lo]⟩ O0 []) :=
  ExC.mk' (r := .inl (.next)) (cs := [_, _, _, _, _]) ⟨[.t, .f, .f], [.fn (.str kn) [o0, .list ws, lo]]⟩ ⟨h0, h1, h2, h3, h4, trivial⟩ (by kernel_rfl)
theorem mn_t4 :
    TeC (pg w mg mb) 110 (fmOf (pg w mg mb).K 754 false) (ifTest (elifOf (mnIf (pg w mg mb)) 1)) ⟨[("numbers", .obj 0), ("runs", .str u), ("split", .bool sp), ("text", .str text), ("words", .obj 1), ("last", .str la), ("x", .int x), ("n", .int n), ("manner", .int mn), ("inner", .str i), ("kind", .str ("word" : Str))], [o0, .list ws, lo]⟩ (mn == 4) ⟨[("numbers", .obj 0), ("runs", .str (u)), ("split", .bool (sp)), ("text", .str (text)), ("words", .obj 1), ("last", .str (la)), ("x", .int (x)), ("n", .int (n)), ("manner", .int (mn)), ("inner", .str (i)), ("kind", .str ("word" : Str))], [o0, .list ws, lo]⟩ :=
  TeC.mk' (cs := []) ⟨[], []⟩ trivial (by kernel_rfl)
theorem mn_t7 :
    TeC (pg w mg mb) 110 (fmOf (pg w mg mb).K 754 false) (ifTest (elifOf (mnIf (pg w mg mb)) 2)) ⟨[("numbers", .obj 0), ("runs", .str u), ("split", .bool sp), ("text", .str text), ("words", .obj 1), ("last", .str la), ("x", .int x), ("n", .int n), ("manner", .int mn), ("inner", .str i), ("kind", .str ("word" : Str))], [o0, .list ws, lo]⟩ (mn == 7) ⟨[("numbers", .obj 0), ("runs", .str (u)), ("split", .bool (sp)), ("text", .str (text)), ("words", .obj 1), ("last", .str (la)), ("x", .int (x)), ("n", .int (n)), ("manner", .int (mn)), ("inner", .str (i)), ("kind", .str ("word" : Str))], [o0, .list ws, lo]⟩ :=
  TeC.mk' (cs := []) ⟨[], []⟩ trivial (by kernel_rfl)
theorem mn_4b
    (h0 : ((1 + Str.length i) : Nat) ≤ 16777216)
    (h1 : ((Str.length (Str.ofString "'" ++ i) + 1) : Nat) ≤ 16777216)
    (h2 : ((Str.length text + Str.length (Str.ofString "'" ++ i ++ Str.ofString "'")) : Nat) ≤ 16777216) :
    ExC (pg w mg mb) 110 (fmOf (pg w mg mb).K 754 false) ((mnTh (pg w mg mb) 1).drop 1) ⟨[("numbers", .obj 0), ("runs", .str u), ("split", .bool sp), ("text", .str text), ("words", .obj 1), ("last", .str la), ("x", .int x), ("n", .int n), ("manner", .int mn), ("inner", .str i), ("kind", .str ("word" : Str))], [o0, .list ws, lo]⟩ (.ok (.next) ⟨[("numbers", .obj 0), ("runs", .str (u)), ("split", .bool (sp)), ("text", .str (text ++ (Str.ofString "'" ++ i ++ Str.ofString "'"))), ("words", .obj 1), ("last", .str (la)), ("x", .int (x)), ("n", .int (n)), ("manner", .int (mn)), ("inner", .str (i)), ("kind", .str ("word" : Str))], [o0, .list ws, lo]⟩ O0 []) :=
  ExC.mk' (r := .inl (.next)) (cs := [_, _, _]) ⟨[], []⟩ ⟨h0, h1, h2, trivial⟩ (by kernel_rfl)
theorem mn_7a :
    ExC (pg w mg mb) 110 (fmOf (pg w mg mb).K 754 false) ((mnTh (pg w mg mb) 2).take 1) ⟨[("numbers", .obj 0), ("runs", .str u), ("split", .bool sp), ("text", .str text), ("words", .obj 1), ("last", .str la), ("x", .int x), ("n", .int n), ("manner", .int mn), ("inner", .str i), ("kind", .str ("word" : Str))], [o0, .list ws, lo]⟩ (.ok (.next) ⟨[("numbers", .obj 0), ("runs", .str (u)), ("split", .bool (sp)), ("text", .str (text)), ("words", .obj 1), ("last", .str (la)), ("x", .int (x)), ("n", .int (n)), ("manner", .int (mn)), ("inner", .str (i)), ("kind", .str ("white" : Str))], [o0, .list ws, lo]⟩ O0 []) :=
  ExC.mk' (r := .inl (.next)) (cs := []) ⟨[], []⟩ trivial (by kernel_rfl)
theorem mn_5
    (h0 : CallC (pg w mg mb) 107 false 747 [.str i, .bool (mn == 6)] [] [o0, .list ws, lo] (.inl (.str (t))) [o0, .list ws, lo])
    (h1 : ((Str.length text + Str.length t) : Nat) ≤ 16777216) :
    ExC (pg w mg mb) 110 (fmOf (pg w mg mb).K 754 false) (mnEl (pg w mg mb) 2) ⟨[("numbers", .obj 0), ("runs", .str u), ("split", .bool sp), ("text", .str text), ("words", .obj 1), ("last", .str la), ("x", .int x), ("n", .int n), ("manner", .int mn), ("inner", .str i), ("kind", .str ("word" : Str))], [o0, .list ws, lo]⟩ (.ok (.next) ⟨[("numbers", .obj 0), ("runs", .str (u)), ("split", .bool (sp)), ("text", .str (text ++ t)), ("words", .obj 1), ("last", .str (la)), ("x", .int (x)), ("n", .int (n)), ("manner", .int (mn)), ("inner", .str (i)), ("kind", .str ("word" : Str))], [o0, .list ws, lo]⟩ O0 []) :=
  ExC.mk' (r := .inl (.next)) (cs := [_, _]) ⟨[], [.fn (.str t) [o0, .list ws, lo]]⟩ ⟨h0, h1, trivial⟩ (by kernel_rfl)
theorem fi_w :
    ExC (pg w mg mb) 110 (fmOf (pg w mg mb).K 754 false) (liIn (pg w mg mb) 6 1) ⟨[("numbers", .obj 0), ("runs", .str u), ("split", .bool sp), ("text", .str text), ("words", .obj 1), ("last", .str la), ("x", .int x), ("n", .int n), ("manner", .int mn), ("inner", .str i), ("kind", .str ("white" : Str))], [o0, .list ws, lo]⟩ (.ok (.next) ⟨[("numbers", .obj 0), ("runs", .str (u)), ("split", .bool (sp)), ("text", .str (text)), ("words", .obj 1), ("last", .str ("" : Str)), ("x", .int (x)), ("n", .int (n)), ("manner", .int (mn)), ("inner", .str (i)), ("kind", .str ("white" : Str))], [o0, .list ws, lo]⟩ O0 []) :=
  ExC.mk' (r := .inl (.next)) (cs := []) ⟨[], []⟩ trivial (by kernel_rfl)
theorem fi_re
    (h0 : ItemAt (ws) (-1) (.str (s)))
    (h1 : ((Str.length s + Str.length i) : Nat) ≤ 16777216)
    (h2 : ((((-9223372036854775808) : Int) ≤ (-1)) ∧ (((((-1) : Int) < 9223372036854775808) ∧ ((Option.isSome (seqIndex? (-1) (List.length ws))) = true))))) :
    ExC (pg w mg mb) 110 (fmOf (pg w mg mb).K 754 false) (liIn (pg w mg mb) 6 1) ⟨[("numbers", .obj 0), ("runs", .str u), ("split", .bool sp), ("text", .str text), ("words", .obj 1), ("last", .str ("run" : Str)), ("x", .int x), ("n", .int n), ("manner", .int mn), ("inner", .str i), ("kind", .str ("run" : Str))], [o0, .list ws, lo]⟩ (.ok (.next) ⟨[("numbers", .obj 0), ("runs", .str (u)), ("split", .bool (sp)), ("text", .str (text)), ("words", .obj 1), ("last", .str ("run" : Str)), ("x", .int (x)), ("n", .int (n)), ("manner", .int (mn)), ("inner", .str (i)), ("kind", .str ("run" : Str))], [o0, .list (setAtV ws (-1) (V.str (s ++ i))), lo]⟩ O0 []) :=
  ExC.mk' (r := .inl (.next)) (cs := [_, _, _]) ⟨[], [.fn (.str s) []]⟩ ⟨h0, h1, h2, trivial⟩ (by kernel_rfl)
theorem fi_we
    (h0 : ItemAt (ws) (-1) (.str (s)))
    (h1 : ((Str.length s + Str.length i) : Nat) ≤ 16777216)
    (h2 : ((((-9223372036854775808) : Int) ≤ (-1)) ∧ (((((-1) : Int) < 9223372036854775808) ∧ ((Option.isSome (seqIndex? (-1) (List.length ws))) = true))))) :
    ExC (pg w mg mb) 110 (fmOf (pg w mg mb).K 754 false) (liIn (pg w mg mb) 6 1) ⟨[("numbers", .obj 0), ("runs", .str u), ("split", .bool sp), ("text", .str text), ("words", .obj 1), ("last", .str ("word" : Str)), ("x", .int x), ("n", .int n), ("manner", .int mn), ("inner", .str i), ("kind", .str ("word" : Str))], [o0, .list ws, lo]⟩ (.ok (.next) ⟨[("numbers", .obj 0), ("runs", .str (u)), ("split", .bool (sp)), ("text", .str (text)), ("words", .obj 1), ("last", .str ("word" : Str)), ("x", .int (x)), ("n", .int (n)), ("manner", .int (mn)), ("inner", .str (i)), ("kind", .str ("word" : Str))], [o0, .list (setAtV ws (-1) (V.str (s ++ i))), lo]⟩ O0 []) :=
  ExC.mk' (r := .inl (.next)) (cs := [_, _, _]) ⟨[], [.fn (.str s) []]⟩ ⟨h0, h1, h2, trivial⟩ (by kernel_rfl)
theorem fi_r
    (h0 : (Str.ofString "run" == la) = false)
    (h1 : ((List.length ws) : Nat) ≤ 1048576) :
    ExC (pg w mg mb) 110 (fmOf (pg w mg mb).K 754 false) (liIn (pg w mg mb) 6 1) ⟨[("numbers", .obj 0), ("runs", .str u), ("split", .bool sp), ("text", .str text), ("words", .obj 1), ("last", .str la), ("x", .int x), ("n", .int n), ("manner", .int mn), ("inner", .str i), ("kind", .str ("run" : Str))], [o0, .list ws, lo]⟩ (.ok (.next) ⟨[("numbers", .obj 0), ("runs", .str (u)), ("split", .bool (sp)), ("text", .str (text)), ("words", .obj 1), ("last", .str ("run" : Str)), ("x", .int (x)), ("n", .int (n)), ("manner", .int (mn)), ("inner", .str (i)), ("kind", .str ("run" : Str))], [o0, .list (ws ++ [V.str i]), lo]⟩ O0 []) :=
  ExC.mk' (r := .inl (.next)) (cs := [_, _]) ⟨[.go, .f], []⟩ ⟨h0, h1, trivial⟩ (by kernel_rfl)
theorem fi_wd
    (h0 : (Str.ofString "word" == la) = false)
    (h1 : ((List.length ws) : Nat) ≤ 1048576) :
    ExC (pg w mg mb) 110 (fmOf (pg w mg mb).K 754 false) (liIn (pg w mg mb) 6 1) ⟨[("numbers", .obj 0), ("runs", .str u), ("split", .bool sp), ("text", .str text), ("words", .obj 1), ("last", .str la), ("x", .int x), ("n", .int n), ("manner", .int mn), ("inner", .str i), ("kind", .str ("word" : Str))], [o0, .list ws, lo]⟩ (.ok (.next) ⟨[("numbers", .obj 0), ("runs", .str (u)), ("split", .bool (sp)), ("text", .str (text)), ("words", .obj 1), ("last", .str ("word" : Str)), ("x", .int (x)), ("n", .int (n)), ("manner", .int (mn)), ("inner", .str (i)), ("kind", .str ("word" : Str))], [o0, .list (ws ++ [V.str i]), lo]⟩ O0 []) :=
  ExC.mk' (r := .inl (.next)) (cs := [_, _]) ⟨[.go, .f], []⟩ ⟨h0, h1, trivial⟩ (by kernel_rfl)
theorem fi_l
    (h0 : (Str.ofString "lone" == la) = false)
    (h1 : ((List.length ws) : Nat) ≤ 1048576) :
    ExC (pg w mg mb) 110 (fmOf (pg w mg mb).K 754 false) (liIn (pg w mg mb) 6 1) ⟨[("numbers", .obj 0), ("runs", .str u), ("split", .bool sp), ("text", .str text), ("words", .obj 1), ("last", .str la), ("x", .int x), ("n", .int n), ("manner", .int mn), ("inner", .str i), ("kind", .str ("lone" : Str))], [o0, .list ws, lo]⟩ (.ok (.next) ⟨[("numbers", .obj 0), ("runs", .str (u)), ("split", .bool (sp)), ("text", .str (text)), ("words", .obj 1), ("last", .str ("" : Str)), ("x", .int (x)), ("n", .int (n)), ("manner", .int (mn)), ("inner", .str (i)), ("kind", .str ("lone" : Str))], [o0, .list (ws ++ [V.str i]), lo]⟩ O0 []) :=
  ExC.mk' (r := .inl (.next)) (cs := [_, _]) ⟨[.go, .f], []⟩ ⟨h0, h1, trivial⟩ (by kernel_rfl)
theorem li_it :
    EvC (pg w mg mb) 80 (fmOf (pg w mg mb).K 754 false) (testOf (liFor (pg w mg mb))) (.obj 0) (⟨[("numbers", .obj 0), ("runs", .str u), ("split", .bool sp), ("text", .str text), ("words", .obj 1), ("last", .str la)], [o0, .list ws]⟩) ⟨[("numbers", .obj 0), ("runs", .str (u)), ("split", .bool (sp)), ("text", .str (text)), ("words", .obj 1), ("last", .str (la))], [o0, .list ws]⟩ :=
  EvC.mk' (cs := []) ⟨[], []⟩ trivial (by kernel_rfl)
theorem li_turn
    (h0 : StC (pg w mg mb) 114 ((fmOf (pg w mg mb).K 754 false)) ⟨[("numbers", .obj 0), ("runs", .str (u)), ("split", .bool (sp)), ("text", .str (text)), ("words", .obj 1), ("last", .str (la)), ("x", .int (x)), ("n", .int (Int.fmod x 10000000000 + 1))], [o0, .list ws, lo]⟩ (liWhile (pg w mg mb)) (.ok (.next) ⟨[("numbers", .obj 0), ("runs", .str (u)), ("split", .bool (sp)), ("text", .str (tx')), ("words", .obj 1), ("last", .str (la')), ("x", .int (x)), ("n", .int 0)], [o0, .list (ws'), lo]⟩ ⟨[], []⟩ [])) :
    ExC (pg w mg mb) 115 (fmOf (pg w mg mb).K 754 false) (loopIn (liFor (pg w mg mb))) ⟨[("numbers", .obj 0), ("runs", .str u), ("split", .bool sp), ("text", .str text), ("words", .obj 1), ("last", .str la), ("x", .int x)], [o0, .list ws, lo]⟩ (.ok (.next) ⟨[("numbers", .obj 0), ("runs", .str (u)), ("split", .bool (sp)), ("text", .str (tx')), ("words", .obj 1), ("last", .str (la')), ("x", .int (x)), ("n", .int 0)], [o0, .list (ws'), lo]⟩ O0 []) :=
  ExC.mk' (r := .inl (.next)) (cs := [_, _]) ⟨[], [.lp .next ⟨[("numbers", .obj 0), ("runs", .str u), ("split", .bool sp), ("text", .str tx'), ("words", .obj 1), ("last", .str la'), ("x", .int x), ("n", .int 0)], [o0, .list ws', lo]⟩]⟩ ⟨(by decide +kernel : (((0 : Int) ≤ 10) ∧ ((40 : Int) ≤ 134217728))), h0, trivial⟩ (by kernel_rfl)
theorem li_call
    (h0 : StC (pg w mg mb) 123 ((fmOf (pg w mg mb).K 754 false)) ⟨[("split", .bool (sp)), ("runs", .str (u)), ("numbers", .obj 0), ("text", .str ("" : Str)), ("words", .obj 1), ("last", .str ("" : Str))], [o0, .list []]⟩ (liFor (pg w mg mb)) (.ok (.next) ⟨[("text", .str (text)), ("words", .obj 1), ("last", .str (la))], [o0, .list ws]⟩ ⟨[], []⟩ [])) :
    CallC (pg w mg mb) 125 false 754 [.obj 0, .str u, .bool sp] [] [o0] (.inl (.tup [.str text, .obj 1, .str la])) [o0, .list ws] :=
  CallC.mk' (cs := [_]) ⟨[], [.dn, .lp .next ⟨[("text", .str text), ("words", .obj 1), ("last", .str la)], [o0, .list ws]⟩]⟩ ⟨h0, trivial⟩ (fun loc => by kernel_rfl)
end
end Mini
namespace Mini
open PySem PySem.W PySem.Calls PyProof.Rows
theorem runs_toks {M : Model} {Γ : Ctx} {p : Pos} {t : Sem Fin} {fs : List Frame} {s : Shared} {e : End} {s' : Shared} (h : PySem.Runs M Γ p t fs s e s') : s.toks ≤ s'.toks := by
  induction h with
  | done => exact Nat.le_refl _
  | raise => exact Nat.le_refl _
  | yield => exact Nat.le_refl _
  | fresh _ ih => exact Nat.le_of_succ_le ih
  | call _ _ a b => exact Nat.le_trans a b
  | resumeFresh _ _ _ _ a b => exact Nat.le_trans a b
  | resumeSuspended _ _ _ _ a b => exact Nat.le_trans a b
  | segRet _ _ a b => exact Nat.le_trans a b
  | segGen _ _ a b => exact Nat.le_trans a b
  | segSuspGen _ _ _ _ a b => exact Nat.le_trans a b
  | _ => assumption
theorem wakes_toks {M : Model} {Γ : Ctx} {p : Pos} {g : Nat} {r : Resume} {s : Shared} {res : GenResult} {s' : Shared} (h : Wakes M Γ p g r s res s') : s.toks ≤ s'.toks := by
  unfold Wakes at h
  split at h
  · exact h.elim
  · split at h
    · obtain ⟨e, s₁, h1, _, _, rfl⟩ := h; exact (runs_toks h1 : (s.setGen g .running).toks ≤ s₁.toks)
    · rw [h.2]; exact Nat.le_refl _
    · rw [h.2]; exact Nat.le_refl _
  · obtain ⟨e, s₁, h1, _, _, rfl⟩ := h; exact (runs_toks h1 : (s.setGen g .running).toks ≤ s₁.toks)
  · rw [h.2]; exact Nat.le_refl _
  · rw [h.2]; exact Nat.le_refl _
theorem wp_toks {α : Type} {M : Model} {Γ : Ctx} {n : Nat} {Q : α → Pos → Shared → Prop} {E : Value → Pos → Shared → Prop} (t : Sem α) : ∀ (p : Pos) (s : Shared), n ≤ s.toks →
    Sem.wp M Γ t (fun a p' s' => n ≤ s'.toks → Q a p' s') (fun e p' s' => n ≤ s'.toks → E e p' s') p s → Sem.wp M Γ t Q E p s := by
  induction t with
  | pure a => intro p s h w; rw [Sem.wp] at w ⊢; exact w h
  | raise e => intro p s h w; rw [Sem.wp] at w ⊢; exact w h
  | unsupported _ => intro p s h w; rw [Sem.wp] at w; exact w.elim
  | finish _ => intro p s h w; rw [Sem.wp] at w; exact w.elim
  | register _ _ => intro p s h w; rw [Sem.wp] at w; exact w.elim
  | yield => intro p s h w; rw [Sem.wp] at w; exact w.elim
  | fork => intro p s h w; rw [Sem.wp] at w; exact w.elim
  | await => intro p s h w; rw [Sem.wp] at w; exact w.elim
  | rule _ k ih => intro p s h w; rw [Sem.wp] at w ⊢; exact ih _ _ _ h w
  | «at» _ k ih => intro p s h w; rw [Sem.wp] at w ⊢; exact ih _ _ _ h w
  | load _ _ k ih => intro p s h w; rw [Sem.wp] at w ⊢; obtain ⟨o, a, b⟩ := w; exact ⟨o, a, ih _ _ _ h b⟩
  | update _ _ _ k ih => intro p s h w; rw [Sem.wp] at w ⊢; exact ⟨w.1, ih _ _ _ h w.2⟩
  | loadIfAlive _ k ih => intro p s h w; rw [Sem.wp] at w ⊢; exact ih _ _ _ h w
  | point _ k ih => intro p s h w; rw [Sem.wp] at w ⊢; exact ih _ _ _ h w
  | alloc _ k ih => intro p s h w; rw [Sem.wp] at w ⊢; exact ih _ _ _ h w
  | fresh k ih => intro p s h w; rw [Sem.wp] at w ⊢; exact ih _ _ _ (Nat.le_succ_of_le h) w
  | ask k ih => intro p s h w; rw [Sem.wp] at w ⊢; exact ih _ _ _ h w
  | choose _ _ k ih => intro p s h w; rw [Sem.wp] at w ⊢; exact ⟨w.1, ih _ _ _ h w.2⟩
  | os _ _ k ih => intro p s h w; rw [Sem.wp] at w ⊢; exact ih _ _ _ h w
  | call _ _ _ _ k ih =>
    intro p s h w
    rw [Sem.wp] at w ⊢
    obtain ⟨r, s', a, b⟩ := w
    exact ⟨r, s', a, ih _ _ _ (Nat.le_trans h (runs_toks a)) b⟩
  | handled _ k ih => intro p s h w; rw [Sem.wp] at w ⊢; exact ih _ _ _ h w
  | genState _ k ih => intro p s h w; rw [Sem.wp] at w ⊢; obtain ⟨o, a, b⟩ := w; exact ⟨o, a, ih _ _ _ h b⟩
  | newGen _ k ih => intro p s h w; rw [Sem.wp] at w ⊢; exact ih _ _ _ h w
  | resume _ _ _ k ih => intro p s h w; rw [Sem.wp] at w ⊢; obtain ⟨r, s', a, b⟩ := w; exact ⟨r, s', a, ih _ _ _ (Nat.le_trans h (wakes_toks a)) b⟩
  | stack k ih => intro p s h w; rw [Sem.wp] at w ⊢; exact ih _ _ _ h w
  | thread k ih => intro p s h w; rw [Sem.wp] at w ⊢; exact ih _ _ _ h w
theorem wpAny_toks {α : Type} {M : Model} {A : Around} {E : Value → Shared → Prop} {s : Shared} {t : Sem α} {Q : α → Shared → Prop} (h : wpAny M A t (fun a s' => s.toks ≤ s'.toks → Q a s') (fun e s' => s.toks ≤ s'.toks → E e s') s) : wpAny M A t Q E s :=
  fun Γ p hΓ => wp_toks t p s (Nat.le_refl _) (h Γ p hΓ)
end Mini
namespace Mini
open PySem PySem.W PySem.Calls PyProof.Rows
variable {α β γ δ : Type}
noncomputable def OkP (P : Pg) (fm : Fm) (X : Fx) (D : Dy) (σ : St) (t : Sem β) (a : α) (σ' : St) (R : α → Dy → β → Prop) : Prop :=
  ∀ s, 0 < s.toks → Rp P fm X D σ s.heap → ∀ (Q : β → Shared → Prop) (E : Value → Shared → Prop), (∀ D' s' x, 0 < s'.toks → Rp P fm X D' σ' s'.heap → Gr X D D' → R a D' x → Keep s s' → Q x s') → wpAny (model P.prog P.w) X.A t Q E s
section
variable {P : Pg} {fm : Fm} {X : Fx} {D : Dy} {σ σ₁ σ' : St} {n : Nat} {os : Os}
theorem Ok.toP {t : Sem β} {a : α} {R : α → Dy → β → Prop} (h : Ok P fm X D σ t (.ok a σ' os []) R) : OkP P fm X D σ t a σ' R :=
  fun s h0 r Q E hQ => wpAny_toks (h (fun _ q => nomatch q) s r _ _ fun D' s' x r' g q k hle => hQ D' s' x (Nat.lt_of_lt_of_le h0 hle) r' g q k)
theorem OkP.bind {t : Sem β} {f : β → Sem δ} {a : α} {b : γ} {R : α → Dy → β → Prop} {R' : γ → Dy → δ → Prop} (h : OkP P fm X D σ t a σ₁ R)
    (h' : ∀ D₁ x, Gr X D D₁ → R a D₁ x → OkP P fm X D₁ σ₁ (f x) b σ' R') : OkP P fm X D σ (t >>= f) b σ' R' :=
  fun s h0 r Q E hQ => wpAny_bind (h s h0 r _ E fun D₁ s₁ x p₁ r₁ g₁ q₁ k₁ => h' D₁ x g₁ q₁ s₁ p₁ r₁ Q E fun D₂ s₂ y p₂ r₂ g₂ q₂ k₂ => hQ D₂ s₂ y p₂ r₂ (g₁.trans g₂) q₂ (k₁.trans k₂))
structure ExP (P : Pg) (n : Nat) (fm : Fm) (ss : List Stmt) (σ : St) (f : Fl) (σ' : St) : Prop where
  out : ∀ X D, Cx P fm n X → OkP P fm X D σ (execs ss (envAt fm X)) f σ' (FRel X)
theorem ExC.toP {ss : List Stmt} {f : Fl} (h : ExC P n fm ss σ (.ok f σ' O0 [])) : ExP P n fm ss σ f σ' := ⟨fun X D c => (h.out X D c).toP⟩
theorem ExP.app {ss ts : List Stmt} {f : Fl} (h1 : ExP P n fm ss σ .next σ₁) (h2 : ExP P n fm ts σ₁ f σ') : ExP P n fm (ss ++ ts) σ f σ' := by
  refine ⟨fun X D c => ?_⟩
  rw [execs_app]
  refine (h1.out X D c).bind fun D₁ x g q => ?_
  rw [show x = Flow.next from q]
  exact h2.out X D₁ c
theorem one_is (st : Stmt) (env : Env) : execs [st] env = exec st env := by
  rw [arm_execs_cons]
  conv => rhs; rw [← bind_pure (exec st env)]
  refine congrArg (fun k => exec st env >>= k) (funext fun f => ?_)
  cases f <;> rfl
theorem ExP.ifT {t : Expr} {b o : List Stmt} {p : Pos} {f : Fl} (h : TeC P n fm t σ true σ₁) (hb : ExP P n fm b σ₁ f σ') : ExP P n fm [.If t b o p] σ f σ' := by
  refine ⟨fun X D c => ?_⟩
  rw [one_is, arm_exec_If]
  refine fun s h0 r Q E hQ => wpAny_bind (wpAny_standAt ?_)
  refine ((h.out X D c).toP.bind (f := fun r => if r = true then execs b (envAt fm X) else execs o (envAt fm X)) fun D₁ x g q => ?_) s h0 r Q E hQ
  rw [show x = true from q]
  exact hb.out X D₁ c
theorem ExP.ifF {t : Expr} {b o : List Stmt} {p : Pos} {f : Fl} (h : TeC P n fm t σ false σ₁) (hb : ExP P n fm o σ₁ f σ') : ExP P n fm [.If t b o p] σ f σ' := by
  refine ⟨fun X D c => ?_⟩
  rw [one_is, arm_exec_If]
  refine fun s h0 r Q E hQ => wpAny_bind (wpAny_standAt ?_)
  refine ((h.out X D c).toP.bind (f := fun r => if r = true then execs b (envAt fm X) else execs o (envAt fm X)) fun D₁ x g q => ?_) s h0 r Q E hQ
  rw [show x = false from q]
  exact hb.out X D₁ c
theorem ExC.ifS {x : Str} {px cp tp p : Pos} {ck : Nat} {op : CmpOp} {i k : Int} {b o : List Stmt} {f : Fl} (hm : lastMarks [op] [.Constant (.int i) ck cp] = false) (hx : nameE P fm x σ O0 = .ok (.int k) σ O0 [])
    (he : (cmpOp P.K op (.int k) (.int i) >>= truth) σ O0 = .ok false σ O0 []) (ho : ExP P n fm o σ f σ') : ExC P n fm [.If (.Compare (.Name x px) [op] [.Constant (.int i) ck cp] tp) b o p] σ (.ok f σ' O0 []) := by
  refine ⟨fun X D c => ?_⟩
  rw [one_is, arm_exec_If]
  intro _ s r Q E hQ
  refine wpAny_bind (wpAny_standAt (wpAny_bind ?_))
  show wpAny _ _ (eval (.Name x px) (envAt fm X) >>= fun a => testChain tp a [op] (markedEach [op] [.Constant (.int i) ck cp] (evalEach [.Constant (.int i) ck cp] (envAt fm X)))) _ E s
  have h1 := ok_name (D := D) (σ := σ) (os := O0) c x px
  rw [hx] at h1
  refine wpAny_bind (h1 (fun _ q => nomatch q) s r _ E fun D₁ s₁ y r₁ g₁ q₁ k₁ => ?_)
  rw [markedEach_of_false _ _ _ hm]
  show wpAny _ _ (holding [y] (mkInt i) >>= fun rv => standAt tp >>= fun _ => operate [y, rv] (compareOp op y rv) >>= fun cc => holding [cc] (truthy cc)) _ E s₁
  refine wpAny_bind (wpAny_holding (wpAny_mkInt ?_))
  have rest : Ok P fm X D₁ σ (standAt tp >>= fun _ => operate [y, .int i s₁.toks] (compareOp op y (.int i s₁.toks)) >>= fun cc => holding [cc] (truthy cc)) ((cmpOp P.K op (.int k) (.int i) >>= truth) σ O0) BRel :=
    ok_standAt (ok_bind (ok_operate (ok_cmp c q₁ .int)) fun r σ₂ os₂ D₂ z g₂ r₂ => ok_holding (ok_truth r₂))
  rw [he] at rest
  refine wpAny_toks (rest (fun _ q => nomatch q) { s₁ with toks := s₁.toks + 1 } r₁ _ _ fun D₂ s₂ z r₂ g₂ q₂ k₂ hle => ?_)
  rw [show z = false from q₂]
  exact ho.out X D₂ c s₂ (Nat.lt_of_lt_of_le (Nat.succ_pos _) hle) r₂ Q E fun D₃ s₃ y p₃ r₃ g₃ q₃ k₃ => hQ D₃ s₃ y r₃ (g₁.trans (g₂.trans g₃)) q₃ (k₁.trans (Keep.trans ⟨k₂.os, k₂.gens⟩ k₃))
theorem ev_local {x : Str} {px : Pos} {s : Shared} {val : Value} {Q : Value → Shared → Prop} {E : Value → Shared → Prop} (c : Cx P fm n X) (r : Rp P fm X D σ s.heap) (hx : fm.scope.names.lookup x = some .local) (hd : (x == ("__debug__" : Str)) = false)
    (hm : D.m x = some val) (h : Q val s) : wpAny (model P.prog P.w) X.A (eval (.Name x px) (envAt fm X)) Q E s := wpAny_Name (wpAny_loadName_local c.hk hx r.F.ns hm h) hd
theorem loc_at {x : Str} {v : V} {h : Heap} (r : Rp P fm X D σ h) (hx : fm.scope.names.lookup x = some .local) (hl : σ.loc.lookup x = some v) : ∃ y, D.m x = some y ∧ VRel X v D y := by
  rcases r.loc x v hl with ⟨_, y, hy, hr⟩ | ⟨hk, _⟩
  · exact ⟨y, hy, hr⟩
  · rw [hx] at hk; rcases hk with hk | hk <;> cases hk
noncomputable def ArgRun (P : Pg) (fm : Fm) (X : Fx) (y w : Str) (a1 a2 : Expr) (s : Shared) : Prop :=
  ∀ (Q : List Value → Shared → Prop) (E : Value → Shared → Prop), (∀ u v tk, u ≠ 0 → v ≠ 0 → u ≠ v → Q [.str y u, .str w v] { s with toks := tk }) → wpAny (model P.prog P.w) X.A (spliced [(false, eval a1 (envAt fm X)), (false, eval a2 (envAt fm X))]) Q E s
theorem rep_wp {x y w z : Str} {px apos pos : Pos} {a1 a2 : Expr} {s : Shared} {t : Tok} {Q : Value → Shared → Prop} {E : Value → Shared → Prop} (c : Cx P fm n X) (r : Rp P fm X D σ s.heap) (hx : fm.scope.names.lookup x = some .local)
    (hd : (x == ("__debug__" : Str)) = false) (hm : D.m x = some (.str z t)) (hp : (apos.endLine == pos.line) = true) (h1 : starred a1 = false) (h2 : starred a2 = false) (hyw : (y == w) = false) (hz : z.length ≤ 1048576) (hw : w.length ≤ 14)
    (ha : ArgRun P fm X y w a1 a2 s) (h : ∀ t' tk, Q (.str (Txt.replace z y w) t') { s with toks := tk }) : wpAny (model P.prog P.w) X.A (eval (.Call (.Attribute (.Name x px) "replace" apos) [a1, a2] [] pos) (envAt fm X)) Q E s := by
  have hs : [a1, a2].any starred = false := by rw [List.any_cons, List.any_cons, h1, h2]; rfl
  rw [arm_eval_Call]
  refine wpAny_bind (ev_local c r hx hd hm (wpAny_bind (wpAny_standAt ?_)))
  unfold methodCall
  rw [form_true hs rfl (show [a1, a2].length + ([] : List Keyword).length < 28 from (by decide : (2 : Nat) < 28))]
  refine wpAny_bind (wpAny_holding ?_)
  unfold calleeOf
  simp only [if_true]
  refine getMethod_builtin (typeIs_str _ _ _) PySem.F.plainAttrs_str PySem.F.slot_str_replace PySem.F.type_str_replace (fun _ e => nomatch e) ?_
  unfold methodCallPos
  dsimp only
  rw [hp]
  refine wpAny_bind (wpAny_pure ?_)
  refine callWith_of (P := fun h => P.K.In h) (by rw [star_no _ pos hs]; rfl) (keeps_machine fun _ e => nomatch e) (evalArgs_of _ (star_no _ pos hs) rfl ?_)
  rw [starEach_cons h1, starEach_cons h2]
  refine ha _ E fun u v tk hu hv huv => ?_
  exact wpAny_pure ⟨r.kin c, SC.replaceW hu hv huv hyw hz hw fun t' tk' => h t' tk'⟩
theorem arg_two {y w : Str} {k1 k2 : Nat} {p1 p2 : Pos} {s : Shared} (h0 : 0 < s.toks) : ArgRun P fm X y w (.Constant (.str y) k1 p1) (.Constant (.str w) k2 p2) s :=
  fun Q E hQ => spl_one (wpAny_mkText (spl_one (wpAny_mkText (wpAny_pure (hQ s.toks (s.toks + 1) (s.toks + 1 + 1) (Nat.ne_of_gt h0) (Nat.succ_ne_zero _) (Nat.ne_of_lt (Nat.lt_succ_self _)))))))
theorem rep_two {x y w z : Str} {px apos pos p1 p2 : Pos} {k1 k2 : Nat} (c : Cx P fm n X) (hx : fm.scope.names.lookup x = some .local) (hd : (x == ("__debug__" : Str)) = false) (hl : σ.loc.lookup x = some (.str z)) (hp : (apos.endLine == pos.line) = true)
    (hyw : (y == w) = false) (hz : z.length ≤ 1048576) (hw : w.length ≤ 14) : OkP P fm X D σ (eval (.Call (.Attribute (.Name x px) "replace" apos) [.Constant (.str y) k1 p1, .Constant (.str w) k2 p2] [] pos) (envAt fm X)) (V.str (Txt.replace z y w)) σ (VRel X) := by
  intro s h0 r Q E hQ
  obtain ⟨val, hm, hr⟩ := loc_at r hx hl
  obtain ⟨t, rfl⟩ := VR.str' hr
  exact wpAny_toks (rep_wp c r hx hd hm hp rfl rfl hyw hz hw (arg_two h0) fun t' tk hle => hQ D { s with toks := tk } _ (Nat.lt_of_lt_of_le h0 hle) r (Gr.refl X D) .str ⟨rfl, rfl⟩)
theorem asg_wp {x : Str} {q p : Pos} {value : Expr} {v : V} {s : Shared} {Q : Flow → Shared → Prop} {E : Value → Shared → Prop} (hc : isComp value = false) (hl : isLoc (fm.scope.names.lookup x) = true) (c : Cx P fm n X)
    (hv : wpAny (model P.prog P.w) X.A (eval value (envAt fm X)) (fun y s₁ => ∃ D₁, 0 < s₁.toks ∧ Rp P fm X D₁ σ₁ s₁.heap ∧ Gr X D D₁ ∧ VRel X v D₁ y ∧ Keep s s₁) E s)
    (hQ : ∀ D' s' f, 0 < s'.toks → Rp P fm X D' ⟨putV x v σ₁.loc, σ₁.hp⟩ s'.heap → Gr X D D' → FRel X Fl.next D' f → Keep s s' → Q f s') :
    wpAny (model P.prog P.w) X.A (exec (.Assign [.Name x q] value p) (envAt fm X)) Q E s := by
  have hsw : ∀ t, swapsWithSole [t] value p.line (envAt fm X) = pure false := fun t => swaps_no hc _ _ _
  rw [arm_exec_Assign, hsw]
  refine wpAny_bind (wpAny_standAt (wpAny_bind (α := Value) (wpAny_mono hv (fun y s₁ h => ?_) fun _ _ y => y)))
  obtain ⟨D₁, p₁, r₁, g₁, q₁, k₁⟩ := h
  rw [show swappedStores [.Name x q] value (envAt fm X) = pure none from swapped_name rfl _, assignEach_cons rfl]
  show wpAny _ _ (assign (.Name x q) (envAt fm X) y >>= fun _ => pure Flow.next) Q E s₁
  have A := ok_asg (os := O0) (snd P n) c (.Name x q) q₁ (σ := σ₁)
  have e : asgE P (lvl P n) fm (.Name x q) v σ₁ O0 = .ok () ⟨putV x v σ₁.loc, σ₁.hp⟩ O0 [] := by
    show storeE fm x v σ₁ O0 = _
    unfold storeE iff
    rw [if_pos (isLoc_sto hl)]
  rw [e] at A
  exact wpAny_bind (A.toP s₁ p₁ r₁ _ E fun D₂ s₂ _ p₂ r₂ g₂ _ k₂ => wpAny_pure (hQ D₂ s₂ .next p₂ r₂ (g₁.trans g₂) rfl (k₁.trans k₂)))
theorem asg_P {x : Str} {q p : Pos} {value : Expr} {v : V} (hc : isComp value = false) (hl : isLoc (fm.scope.names.lookup x) = true) (c : Cx P fm n X) (hv : OkP P fm X D σ (eval value (envAt fm X)) v σ₁ (VRel X)) :
    OkP P fm X D σ (exec (.Assign [.Name x q] value p) (envAt fm X)) Fl.next ⟨putV x v σ₁.loc, σ₁.hp⟩ (FRel X) :=
  fun s h0 r Q E hQ => asg_wp hc hl c (hv s h0 r _ E fun D₁ s₁ y p₁ r₁ g₁ q₁ k₁ => ⟨D₁, p₁, r₁, g₁, q₁, k₁⟩) hQ
theorem set_two {x x' y w z : Str} {q p px apos pos p1 p2 : Pos} {k1 k2 : Nat} (hx : fm.scope.names.lookup x = some .local) (hd : (x == ("__debug__" : Str)) = false) (hl : σ.loc.lookup x = some (.str z)) (hp : (apos.endLine == pos.line) = true)
    (hyw : (y == w) = false) (hz : z.length ≤ 1048576) (hw : w.length ≤ 14) (hx' : isLoc (fm.scope.names.lookup x') = true) :
    ExP P n fm [.Assign [.Name x' q] (.Call (.Attribute (.Name x px) "replace" apos) [.Constant (.str y) k1 p1, .Constant (.str w) k2 p2] [] pos) p] σ .next ⟨putV x' (.str (Txt.replace z y w)) σ.loc, σ.hp⟩ :=
  ⟨fun X D c => by rw [one_is]; exact asg_P rfl hx' c (rep_two c hx hd hl hp hyw hz hw)⟩
theorem store_rp {x : Str} {v : V} {y : Value} {h h' : Heap} (r : Rp P fm X D σ h) (hx : fm.scope.names.lookup x = some .local) (hv : VRel X v D y) (F' : Fr X.h₀ X.L h' (fun z => if z = x then some y else D.m z)) (N' : News X.h₀ X.L h' D.news) :
    Rp P fm X ⟨fun z => if z = x then some y else D.m z, D.news, D.ad⟩ ⟨putV x v σ.loc, σ.hp⟩ h' := by
  refine ⟨F', N', r.nd, r.len, r.dis, fun z w e => ?_, r.cel, r.inj, r.hp⟩
  have e : (putV x v σ.loc).lookup z = some w := e
  rw [putV_lookup] at e
  by_cases hz : z = x
  · rw [if_pos hz] at e
    rw [← Option.some.inj e]
    subst hz
    exact .inl ⟨hx, y, if_pos rfl, hv⟩
  · rw [if_neg hz] at e
    rcases r.loc z w e with ⟨k, u, hu, hr⟩ | q
    · exact .inl ⟨k, u, (if_neg hz).trans hu, hr⟩
    · exact .inr q
theorem Ok.toQ {t : Sem β} {a : α} {cs : List Prop} {R : α → Dy → β → Prop} (h : Ok P fm X D σ t (.ok a σ' os cs) R) (hc : ∀ p ∈ cs, p) : OkP P fm X D σ t a σ' R :=
  fun s h0 r Q E hQ => wpAny_toks (h hc s r _ _ fun D' s' x r' g q k hle => hQ D' s' x (Nat.lt_of_lt_of_le h0 hle) r' g q k)
theorem OkP.of {t t' : Sem β} {a : α} {R : α → Dy → β → Prop} (h : OkP P fm X D σ t a σ' R) (e : ∀ (Q : β → Shared → Prop) (E : Value → Shared → Prop) s, wpAny (model P.prog P.w) X.A t Q E s → wpAny (model P.prog P.w) X.A t' Q E s) : OkP P fm X D σ t' a σ' R :=
  fun s h0 r Q E hQ => e Q E s (h s h0 r Q E hQ)
theorem litP {s : Str} {k : Nat} {p : Pos} : OkP P fm X D σ (eval (.Constant (.str s) k p) (envAt fm X)) (V.str s) σ (VRel X) :=
  fun s₁ h0 r Q E hQ => wpAny_mkText (hQ D _ _ (Nat.succ_pos _) r (Gr.refl X D) .str ⟨rfl, rfl⟩)
theorem addP' {l r : Expr} {bp : Pos} {x y : Str} (hl : OkP P fm X D σ (eval l (envAt fm X)) (V.str x) σ (VRel X)) (hr : ∀ D₁, OkP P fm X D₁ σ (eval r (envAt fm X)) (V.str y) σ (VRel X)) (h : x.length + y.length ≤ sizeLine) :
    OkP P fm X D σ (eval (.BinOp l .Add r bp) (envAt fm X)) (V.str (x ++ y)) σ (VRel X) := by
  rw [arm_eval_BinOp]
  refine hl.bind fun D₁ a g₁ q₁ => ((hr D₁).of fun Q E s z => wpAny_holding z).bind fun D₂ b g₂ q₂ => ?_
  refine (OkP.of ?_ fun Q E s z => wpAny_bind (wpAny_standAt (wpAny_operating z)))
  have A := ok_addE (P := P) (fm := fm) (σ := σ) (os := O0) (rel_mono q₁ g₂) q₂
  exact Ok.toQ (cs := [x.length + y.length ≤ sizeLine]) A fun p hp => by rw [List.mem_singleton.mp hp]; exact h
theorem aug_P {x : Str} {q p : Pos} {value : Expr} {a b : Str} (c : Cx P fm n X) (hx : fm.scope.names.lookup x = some .local) (hl : σ.loc.lookup x = some (.str a)) (hv : ∀ D₁, OkP P fm X D₁ σ (eval value (envAt fm X)) (V.str b) σ (VRel X))
    (h : a.length + b.length ≤ sizeLine) : OkP P fm X D σ (exec (.AugAssign (.Name x q) .Add value p) (envAt fm X)) Fl.next ⟨putV x (.str (a ++ b)) σ.loc, σ.hp⟩ (FRel X) := by
  have hx' : isLoc (fm.scope.names.lookup x) = true := by rw [hx]; rfl
  rw [arm_exec_AugAssign]
  have A : ∀ D₁, OkP P fm X D₁ σ (loadName (envAt fm X) x) (V.str a) σ (VRel X) := fun D₁ => by
    have A := ok_load (D := D₁) (σ := σ) (os := O0) c x
    have e : loadE fm x σ O0 = .ok (.str a) σ O0 [] := by
      unfold loadE iff
      rw [if_pos hx']
      unfold locE
      rw [hl]
    rw [e] at A
    exact A.toP
  refine OkP.of (((A D).bind fun D₁ y g₁ q₁ => ((hv D₁).of fun Q E s z => wpAny_holding z).bind fun D₂ z g₂ q₂ => OkP.of ?_ fun Q E s z => wpAny_bind (wpAny_standAt z))) fun Q E s z => wpAny_bind (wpAny_standAt z)
  have B := ok_operate (vs := [y, z]) (ok_inplace (P := P) (fm := fm) (σ := σ) (os := O0) (op := .Add) (rel_mono q₁ g₂) q₂)
  refine (Ok.toQ (a := V.str (a ++ b)) (σ' := σ) (cs := [a.length + b.length ≤ sizeLine]) B fun p hp => by rw [List.mem_singleton.mp hp]; exact h).bind fun D₃ u g₃ q₃ => OkP.of ?_ fun Q E s z => wpAny_bind (wpAny_standAt z)
  have C := ok_bindName (P := P) (D := D₃) (σ := σ) (os := O0) c x q₃
  have e : storeE fm x (.str (a ++ b)) σ O0 = .ok () ⟨putV x (.str (a ++ b)) σ.loc, σ.hp⟩ O0 [] := by
    unfold storeE iff
    rw [if_pos (isLoc_sto hx')]
  rw [e] at C
  exact C.toP.bind fun D₄ _ _ _ => (ok_pure (R := FRel X) (a := Fl.next) (b := Flow.next) (os := O0) rfl).toP
theorem aug_rep {x t y w z c0 c3 tt : Str} {q p px apos pos p0 p1 p2 p3 bp1 bp2 : Pos} {k0 k1 k2 k3 : Nat} (ht : fm.scope.names.lookup t = some .local) (hx : fm.scope.names.lookup x = some .local) (hd : (x == ("__debug__" : Str)) = false)
    (hlt : σ.loc.lookup t = some (.str tt)) (hl : σ.loc.lookup x = some (.str z)) (hp : (apos.endLine == pos.line) = true) (hyw : (y == w) = false) (hz : z.length ≤ 1048576) (hw : w.length ≤ 14)
    (h1 : c0.length + (Txt.replace z y w).length ≤ sizeLine) (h2 : (c0 ++ Txt.replace z y w).length + c3.length ≤ sizeLine) (h3 : tt.length + (c0 ++ Txt.replace z y w ++ c3).length ≤ sizeLine) :
    ExP P n fm [.AugAssign (.Name t q) .Add (.BinOp (.BinOp (.Constant (.str c0) k0 p0) .Add (.Call (.Attribute (.Name x px) "replace" apos) [.Constant (.str y) k1 p1, .Constant (.str w) k2 p2] [] pos) bp1) .Add (.Constant (.str c3) k3 p3) bp2) p] σ .next
      ⟨putV t (.str (tt ++ (c0 ++ Txt.replace z y w ++ c3))) σ.loc, σ.hp⟩ :=
  ⟨fun X D c => by rw [one_is]; exact aug_P c ht hlt (fun D₁ => addP' (addP' litP (fun D₂ => rep_two c hx hd hl hp hyw hz hw) h1) (fun D₂ => litP) h2) h3⟩
end
end Mini
namespace Mini
open PySem PySem.W PySem.Calls PyProof.Rows PySem.Builtin PySem.Builtin.Str
noncomputable def cut1 (c : Nat) (l : List Nat) : List Nat := l.filter (fun k => k != c)
theorem cut1_free {c : Nat} {l : List Nat} (h : c ∉ l) : cut1 c l = l := by
  unfold cut1
  rw [List.filter_eq_self]
  exact fun k hk => bne_iff_ne.mpr fun e => h (e ▸ hk)
theorem cut1_not (c : Nat) (l : List Nat) : c ∉ cut1 c l := fun h => by
  have := (List.mem_filter.mp h).2
  rw [bne_iff_ne] at this
  exact this rfl
theorem cut1_join (c : Nat) : ∀ parts : List Str, (∀ p ∈ parts, c ∉ p.cps.toList) → cut1 c (Str.join ⟨#[c]⟩ parts).cps.toList = (Str.join ⟨#[]⟩ parts).cps.toList
  | [], _ => rfl
  | [p], h => cut1_free (h p (.head _))
  | p :: q :: r, h => by
    have ih := cut1_join c (q :: r) fun a ha => h a (.tail _ ha)
    show cut1 c (p ++ ⟨#[c]⟩ ++ Str.join ⟨#[c]⟩ (q :: r)).cps.toList = (p ++ ⟨#[]⟩ ++ Str.join ⟨#[]⟩ (q :: r)).cps.toList
    simp only [Str.cps_append, Array.toList_append]
    have e : cut1 c (p.cps.toList ++ [c] ++ (Str.join ⟨#[c]⟩ (q :: r)).cps.toList) = p.cps.toList ++ [] ++ cut1 c (Str.join ⟨#[c]⟩ (q :: r)).cps.toList := by
      unfold cut1
      rw [List.filter_append, List.filter_append]
      have h1 : List.filter (fun k => k != c) p.cps.toList = p.cps.toList := cut1_free (h p (.head _))
      have h2 : List.filter (fun k => k != c) [c] = [] := by rw [List.filter_cons, if_neg (by rw [bne_self_eq_false]; exact nofun)]; rfl
      rw [h1, h2]
    rw [e, ih]
theorem rep_one (l : List Nat) (c : Nat) : Txt.replace (tx l) (tx [c]) (tx []) = tx (cut1 c l) := by
  have h := StrLaws.replace_one (tx l) (tx []) c
  have e : (Txt.replace (tx l) ⟨#[c]⟩ (tx [])).cps.toList = cut1 c l := by
    rw [h, show tx [] = (⟨#[]⟩ : Str) from rfl, ← cut1_join c _ (StrLaws.split_free (tx l) c), StrLaws.join_split, tx_list]
  have := tx_of (Txt.replace (tx l) ⟨#[c]⟩ (tx []))
  rw [e] at this
  exact this.symm
theorem cut1_len (c : Nat) (l : List Nat) : (cut1 c l).length ≤ l.length := List.length_filter_le ..
noncomputable def stepK (K : Kd) (s : List Nat) (cur : Option (Kd × List Nat)) : List (List Nat) × Option (Kd × List Nat) := match K with
  | .white => (flush cur, none)
  | .lone => (flush cur ++ [s], none)
  | .run => addK .run s cur
  | _ => addK .word s cur
noncomputable def CurOk (cur : Option (Kd × List Nat)) : Prop := ∀ q, cur = some q → q.1 = .run ∨ q.1 = .word
noncomputable def lkN : Option (Kd × List Nat) → Str
  | none => ""
  | some q => kdN q.1
noncomputable def sv (ts : List (List Nat)) : List V := ts.map fun t => V.str (tx t)
theorem sv_app (a b : List (List Nat)) : sv (a ++ b) = sv a ++ sv b := List.map_append
theorem sv_len (a : List (List Nat)) : (sv a).length = a.length := List.length_map ..
theorem sv_bel (k : Nat) (ts : List (List Nat)) : vbs k (sv ts) = true := by
  induction ts with
  | nil => rfl
  | cons a r ih => exact ih
theorem seq_last (n : Nat) : seqIndex? (-1) (n + 1) = some n := by
  have e : (-1 : Int) + ((n + 1 : Nat) : Int) = (n : Int) := (congrArg ((-1 : Int) + ·) (Int.add_comm (n : Int) 1)).trans (Int.neg_add_cancel_left 1 n)
  unfold seqIndex?
  dsimp only
  rw [if_pos (show (-1 : Int) < 0 by decide), e, decide_eq_true (Int.natCast_nonneg n), decide_eq_true (Int.ofNat_lt.mpr (Nat.lt_succ_self n))]
  rfl
theorem last_idx (d : List V) (v : V) : seqIndex? (-1) (d ++ [v]).length = some d.length := by rw [List.length_append]; exact seq_last _
theorem last_at (d : List V) (v : V) : ItemAt (d ++ [v]) (-1) v := ⟨by decide, by decide, d.length, last_idx d v, by rw [List.getElem?_append_right (Nat.le_refl _), Nat.sub_self]; rfl⟩
theorem last_set (d : List V) (v y : V) : setAtV (d ++ [v]) (-1) y = d ++ [y] := by
  unfold setAtV
  rw [last_idx]
  show (d ++ [v]).set d.length y = _
  rw [List.set_append_right _ _ (Nat.le_refl _), Nat.sub_self]
  rfl
section
variable {w : World} {mg mb : Str → Option Value} {u : List Nat} {sp : Bool}
noncomputable abbrev FL (w : World) (mg mb : Str → Option Value) : Fm := fmOf (pg w mg mb).K 754 false
noncomputable abbrev Lb (u : List Nat) (sp : Bool) (t : List Nat) (la : Str) (x n : Int) : List (Str × V) := [("numbers", .obj 0), ("runs", .str (tx u)), ("split", .bool sp), ("text", .str (tx t)), ("words", .obj 1), ("last", .str la), ("x", .int x), ("n", .int n)]
noncomputable abbrev Lm (u : List Nat) (sp : Bool) (t : List Nat) (la : Str) (x n mn : Int) (i : List Nat) : List (Str × V) := [("numbers", .obj 0), ("runs", .str (tx u)), ("split", .bool sp), ("text", .str (tx t)), ("words", .obj 1), ("last", .str la), ("x", .int x), ("n", .int n), ("manner", .int mn), ("inner", .str (tx i))]
noncomputable abbrev Ls (u : List Nat) (sp : Bool) (t : List Nat) (la : Str) (x n mn : Int) (i : List Nat) (sz : Int) : List (Str × V) := [("numbers", .obj 0), ("runs", .str (tx u)), ("split", .bool sp), ("text", .str (tx t)), ("words", .obj 1), ("last", .str la), ("x", .int x), ("n", .int n), ("manner", .int mn), ("inner", .str (tx i)), ("size", .int sz)]
noncomputable abbrev Lt (u : List Nat) (sp : Bool) (t : List Nat) (la : Str) (x n mn : Int) (i : List Nat) (sz j : Int) : List (Str × V) := [("numbers", .obj 0), ("runs", .str (tx u)), ("split", .bool sp), ("text", .str (tx t)), ("words", .obj 1), ("last", .str la), ("x", .int x), ("n", .int n), ("manner", .int mn), ("inner", .str (tx i)), ("size", .int sz), ("turn", .int j)]
noncomputable abbrev Lk (u : List Nat) (sp : Bool) (t : List Nat) (la : Str) (x n mn : Int) (i : List Nat) (kn : Str) : List (Str × V) := [("numbers", .obj 0), ("runs", .str (tx u)), ("split", .bool sp), ("text", .str (tx t)), ("words", .obj 1), ("last", .str la), ("x", .int x), ("n", .int n), ("manner", .int mn), ("inner", .str (tx i)), ("kind", .str kn)]
theorem siFor_eq : siFor (pg w mg mb) = .For (.Name "turn" (epos (targetOf (siFor (pg w mg mb))))) (testOf (siFor (pg w mg mb))) (loopIn (siFor (pg w mg mb))) [] (posOf (siFor (pg w mg mb))) := by kernel_rfl
theorem si_for {sz : Nat} {mn : Int} : ∀ (m j : Nat), j + m = sz → ∀ (n : Int) (i : List Nat), 0 ≤ n → m + i.length ≤ 1000 →
    ∃ n' l, l.length = m ∧ 0 ≤ n' ∧ n' ≤ n ∧ ∀ (t : List Nat) (la : Str) (x : Int) (o0 lo : LO) (ws : List V) (p : Pos) (loc : List (Str × V)), lobs 3 [o0, .list ws, lo] = true → (loc = Ls u sp t la x n mn i sz ∨ ∃ j', loc = Lt u sp t la x n mn i sz j') →
      ∃ loc', (loc' = Ls u sp t la x n' mn (i ++ l) sz ∨ ∃ j', loc' = Lt u sp t la x n' mn (i ++ l) sz j') ∧
      ForI (pg w mg mb) 100 (FL w mg mb) (.Name "turn" p) (loopIn (siFor (pg w mg mb))) (rngVs sz) (fun _ => True) 3 j ⟨loc, [o0, .list ws, lo]⟩ (.ok .next ⟨loc', [o0, .list ws, lo]⟩ O0 []) := by
  intro m
  induction m with
  | zero =>
    intro j hj n i hn ht
    refine ⟨n, [], rfl, hn, Int.le_refl _, fun t la x o0 lo ws p loc hb hl => ⟨loc, by rw [List.append_nil]; exact hl, .stop (rngVs_none (show sz ≤ j from Nat.le_of_eq hj.symm)) trivial ⟨rfl, ?_, hb⟩⟩⟩
    rcases hl with rfl | ⟨j', rfl⟩ <;> rfl
  | succ m ih =>
    intro j hj n i hn ht
    obtain ⟨n', c, a1, a2, C⟩ := sg_made (w := w) (mg := mg) (mb := mb) hn
    obtain ⟨n2, l, b2, b3, b4, L⟩ := ih (j + 1) ((Nat.succ_add_eq_add_succ j m).trans hj) n' (i ++ [c]) a1 (by rw [List.length_append]; exact Nat.le_trans (Nat.le_of_eq (Nat.succ_add_eq_add_succ m i.length).symm) ht)
    refine ⟨n2, c :: l, by rw [List.length_cons, b2], b3, Int.le_trans b4 a2, fun t la x o0 lo ws p loc hb hl => ?_⟩
    obtain ⟨loc', b1, L⟩ := L t la x o0 lo ws p (Lt u sp t la x n' mn (i ++ [c]) sz j) hb (.inr ⟨_, rfl⟩)
    rw [List.append_assoc] at b1
    refine ⟨loc', b1, .next (rngVs_get (by rw [← hj]; exact Nat.lt_add_of_pos_right (Nat.succ_pos m))) trivial rfl (fun l2 => ⟨⟨Lt u sp t la x n mn i sz j, [o0, .list ws, lo, l2]⟩, ?_, ?_⟩) (.inl rfl) L⟩
    · have A := AsC.name (P := pg w mg mb) (n := 100) (fm := FL w mg mb) (x := "turn") (p := p) (v := .int j) (loc := loc) (hp := [o0, .list ws, lo, l2]) (by kernel_rfl)
      rcases hl with rfl | ⟨j', rfl⟩ <;> exact A
    · have B := si_b (w := w) (mg := mg) (mb := mb) (u := tx u) (sp := sp) (text := tx t) (la := la) (x := x) (n := n) (o0 := o0) (ws := ws) (lo := lo) (mn := mn) (i := tx i) (sz := sz) (l2 := l2) (j := j) ((C _).le (show 40 ≤ 97 by decide)) (by rw [tx_len, tx_len]; exact nle (Nat.succ_le_succ (Nat.le_trans (Nat.le_add_left _ _) ht)))
      rw [tx_app] at B
      exact B.forget (Sub.head (Lt u sp t la x n' mn (i ++ [c]) sz j) [((Str.ofString "sign"), V.str (tx [c]))])
theorem si_made {sz : Nat} {n mn : Int} (hn : 0 ≤ n) (hs : sz ≤ 900) : ∃ n' i, i.length = sz ∧ 0 ≤ n' ∧ n' ≤ n ∧ ∀ (t : List Nat) (la : Str) (x : Int) (o0 lo : LO) (ws : List V), lobs 3 [o0, .list ws, lo] = true →
    StC (pg w mg mb) 110 (FL w mg mb) ⟨Ls u sp t la x n mn [] sz, [o0, .list ws, lo]⟩ (siFor (pg w mg mb)) (.ok .next ⟨Lm u sp t la x n' mn i, [o0, .list ws, lo]⟩ O0 []) := by
  obtain ⟨n', l, a2, a3, a4, L⟩ := si_for (w := w) (mg := mg) (mb := mb) (u := u) (sp := sp) (sz := sz) (mn := mn) sz 0 (Nat.zero_add _) n [] hn (nle hs)
  refine ⟨n', l, a2, a3, a4, fun t la x o0 lo ws hb => ?_⟩
  obtain ⟨loc', a1, L⟩ := L t la x o0 lo ws (epos (targetOf (siFor (pg w mg mb)))) (Ls u sp t la x n mn [] sz) hb (.inl rfl)
  rw [List.nil_append] at a1
  have it := si_it (w := w) (mg := mg) (mb := mb) (u := tx u) (sp := sp) (text := tx t) (la := la) (x := x) (n := n) (o0 := o0) (ws := ws) (lo := lo) (mn := mn) (i := tx []) (sz := sz)
  rw [siFor_eq]
  refine ((for_range (it.le (by decide : 80 ≤ 110)) (Int.lt_of_le_of_lt (Int.ofNat_le.mpr hs) (by decide)) (L.le (by decide : 100 ≤ 110)) (by kernel_rfl) (by intro env x; kernel_rfl))).forget (os' := O0) ?_
  rcases a1 with rfl | ⟨j', rfl⟩
  · exact Sub.head (Lm u sp t la x n' mn l) [((Str.ofString "size"), V.int sz)]
  · exact Sub.head (Lm u sp t la x n' mn l) [((Str.ofString "size"), V.int sz), ((Str.ofString "turn"), V.int j')]
theorem fi_made {t s : List Nat} {K : Kd} {done : List (List Nat)} {cur : Option (Kd × List Nat)} {x n mn : Int} {o0 lo : LO} (hK : K = .white ∨ K = .run ∨ K = .word ∨ K = .lone) (hc : CurOk cur) (hd : (done ++ flush cur).length ≤ 100000) (hw : ∀ q, cur = some q → q.2.length ≤ 100000) (hs : s.length ≤ 1000) :
    ExC (pg w mg mb) 110 (FL w mg mb) (liIn (pg w mg mb) 6 1) ⟨Lk u sp t (lkN cur) x n mn s (kdN K), [o0, .list (sv (done ++ flush cur)), lo]⟩
      (.ok .next ⟨Lb u sp t (lkN (stepK K s cur).2) x n, [o0, .list (sv (done ++ (stepK K s cur).1 ++ flush (stepK K s cur).2)), lo]⟩ O0 []) := by
  have hl : (sv (done ++ flush cur)).length ≤ 1048576 := by rw [sv_len]; exact nle hd
  have fin : ∀ {ls ls' : Str} {kn : Str} {rs rs' : List V}, ls = ls' → rs = rs' → ExC (pg w mg mb) 110 (FL w mg mb) (liIn (pg w mg mb) 6 1) ⟨Lk u sp t (lkN cur) x n mn s (kdN K), [o0, .list (sv (done ++ flush cur)), lo]⟩
      (.ok .next ⟨[("numbers", .obj 0), ("runs", .str (tx u)), ("split", .bool sp), ("text", .str (tx t)), ("words", .obj 1), ("last", .str ls), ("x", .int x), ("n", .int n), ("manner", .int mn), ("inner", .str (tx s)), ("kind", .str kn)], [o0, .list rs, lo]⟩ O0 []) →
      ExC (pg w mg mb) 110 (FL w mg mb) (liIn (pg w mg mb) 6 1) ⟨Lk u sp t (lkN cur) x n mn s (kdN K), [o0, .list (sv (done ++ flush cur)), lo]⟩ (.ok .next ⟨Lb u sp t ls' x n, [o0, .list rs', lo]⟩ O0 []) := fun {ls ls' kn rs rs'} e1 e2 h => by
    subst e1 e2
    exact h.forget (Sub.head (Lb u sp t ls x n) [((Str.ofString "manner"), V.int mn), ((Str.ofString "inner"), V.str (tx s)), ((Str.ofString "kind"), V.str kn)])
  have upd : ∀ x : List Nat, sv (done ++ [x]) = sv done ++ [V.str (tx x)] := fun x => by rw [sv_app]; rfl
  have ap : sv (done ++ flush cur) ++ [V.str (tx s)] = sv ((done ++ flush cur) ++ [s]) := by rw [sv_app (done ++ flush cur)]; rfl
  rcases hK with rfl | rfl | rfl | rfl
  · refine fin (ls := "") rfl ?_ fi_w
    show _ = sv (done ++ flush cur ++ [])
    rw [List.append_nil]
  · cases cur with
    | none =>
      refine fin rfl ?_ (fi_r (by decide +kernel) hl)
      rw [ap]; show _ = sv (done ++ [] ++ [s]); rfl
    | some q =>
      obtain ⟨A, y⟩ := q
      have hy := hw _ rfl
      rcases hc _ rfl with h | h
      · have h : A = .run := h
        subst h
        have B := fi_re (w := w) (mg := mg) (mb := mb) (u := tx u) (sp := sp) (text := tx t) (x := x) (n := n) (o0 := o0) (ws := sv (done ++ [y])) (lo := lo) (mn := mn) (i := tx s) (s := tx y) (by rw [upd]; exact last_at _ _) (by rw [tx_len, tx_len]; exact nle (Nat.add_le_add hy hs)) ⟨by decide, by decide, by rw [upd, last_idx]; rfl⟩
        refine fin rfl ?_ B
        rw [upd, last_set, tx_app]
        show _ = sv (done ++ [] ++ [y ++ s])
        rw [List.append_nil, upd]
      · have h : A = .word := h
        subst h
        refine fin rfl ?_ (fi_r (by show (("run" : Str) == kdN .word) = false; decide +kernel) hl)
        rw [ap]; rfl
  · cases cur with
    | none =>
      refine fin rfl ?_ (fi_wd (by decide +kernel) hl)
      rw [ap]; show _ = sv (done ++ [] ++ [s]); rfl
    | some q =>
      obtain ⟨A, y⟩ := q
      have hy := hw _ rfl
      rcases hc _ rfl with h | h
      · have h : A = .run := h
        subst h
        refine fin rfl ?_ (fi_wd (by show (("word" : Str) == kdN .run) = false; decide +kernel) hl)
        rw [ap]; rfl
      · have h : A = .word := h
        subst h
        have B := fi_we (w := w) (mg := mg) (mb := mb) (u := tx u) (sp := sp) (text := tx t) (x := x) (n := n) (o0 := o0) (ws := sv (done ++ [y])) (lo := lo) (mn := mn) (i := tx s) (s := tx y) (by rw [upd]; exact last_at _ _) (by rw [tx_len, tx_len]; exact nle (Nat.add_le_add hy hs)) ⟨by decide, by decide, by rw [upd, last_idx]; rfl⟩
        refine fin rfl ?_ B
        rw [upd, last_set, tx_app]
        show _ = sv (done ++ [] ++ [y ++ s])
        rw [List.append_nil, upd]
  · refine fin (ls := "") rfl ?_ (fi_l ?_ hl)
    · rw [ap]
      show _ = sv (done ++ (flush cur ++ [s]) ++ [])
      rw [List.append_nil, List.append_assoc]
    · cases cur with
      | none => decide +kernel
      | some q =>
        obtain ⟨A, y⟩ := q
        rcases hc _ rfl with h | h
        · have h : A = .run := h
          subst h; show (("lone" : Str) == kdN .run) = false; decide +kernel
        · have h : A = .word := h
          subst h; show (("lone" : Str) == kdN .word) = false; decide +kernel
end
end Mini
namespace Mini
open PySem PySem.W PySem.Calls PyProof.Rows PySem.Builtin PySem.Builtin.Str
section
variable {w : World} {mg mb : Str → Option Value} {u : List Nat} {sp : Bool}
theorem mnIf_eq : mnIf (pg w mg mb) = .If (.Compare (.Name "manner" ⟨763, 15, 763, 21⟩) [.Lt] [.Constant (.int 4) 0 ⟨763, 24, 763, 25⟩] ⟨763, 15, 763, 25⟩) (thenOf (mnIf (pg w mg mb))) [.If (ifTest (elifOf (mnIf (pg w mg mb)) 1)) (mnTh (pg w mg mb) 1)
    [.If (ifTest (elifOf (mnIf (pg w mg mb)) 2)) (mnTh (pg w mg mb) 2) (mnEl (pg w mg mb) 2) ⟨772, 12, 776, 55⟩] ⟨769, 12, 776, 55⟩] ⟨763, 12, 776, 55⟩ := by kernel_rfl
theorem mn4_eq : mnTh (pg w mg mb) 1 = [.Assign [.Name "inner" ⟨770, 16, 770, 21⟩] (.Call (.Attribute (.Name "inner" ⟨770, 24, 770, 29⟩) "replace" ⟨770, 24, 770, 37⟩) [.Constant (.str "'") 0 ⟨770, 38, 770, 41⟩, .Constant (.str "") 0 ⟨770, 43, 770, 45⟩] [] ⟨770, 24, 770, 46⟩) ⟨770, 16, 770, 46⟩] ++ (mnTh (pg w mg mb) 1).drop 1 := by kernel_rfl
theorem mn7_eq : mnTh (pg w mg mb) 2 = (mnTh (pg w mg mb) 2).take 1 ++ [.AugAssign (.Name "text" ⟨774, 16, 774, 20⟩) .Add (.BinOp (.BinOp (.Constant (.str "#") 0 ⟨774, 24, 774, 27⟩) .Add
    (.Call (.Attribute (.Name "inner" ⟨774, 30, 774, 35⟩) "replace" ⟨774, 30, 774, 43⟩) [.Constant (.str "\n") 0 ⟨774, 44, 774, 48⟩, .Constant (.str "") 0 ⟨774, 50, 774, 52⟩] [] ⟨774, 30, 774, 53⟩) ⟨774, 24, 774, 53⟩) .Add
    (.Constant (.str "\n") 0 ⟨774, 56, 774, 60⟩) ⟨774, 24, 774, 60⟩) ⟨774, 16, 774, 60⟩] := by kernel_rfl
theorem sQ1 : Str.ofString "'" = tx [39] := by decide +kernel
theorem sN : Str.ofString "\n" = tx [10] := by decide +kernel
theorem sH : Str.ofString "#" = tx [35] := by decide +kernel
theorem ne_nil (c : Nat) : (tx [c] == tx []) = false := by rw [tx_beq]; exact decide_eq_false nofun
noncomputable def Lays (w : World) (mg mb : Str → Option Value) (u : List Nat) (sp : Bool) (mn : Int) (i : List Nat) (p : Pc) (K : Kd) (s : List Nat) : Prop := ∀ {t : List Nat} {la : Str} {x n : Int} {o0 lo : LO} {ws : List V}, t.length ≤ 1000000 → lobs 3 [o0, .list ws, lo] = true →
  ExC (pg w mg mb) 110 (FL w mg mb) [mnIf (pg w mg mb)] ⟨Lk u sp t la x n mn i "word", [o0, .list ws, lo]⟩ (.ok .next ⟨Lk u sp (t ++ p.txt) la x n mn s (kdN K), [o0, .list ws, lo]⟩ O0 [])
theorem lays_esc {mn : Int} {c : Nat} (h4 : mn < 4) (h : mn = 3 ∨ (mn ≠ 3 ∧ kdN (kd3 u sp c) = "quoting")) : Lays w mg mb u sp mn [c] (.tok .word [c] [92, c]) .word [c] := by
  intro t la x n o0 lo ws ht hb
  have l1 : (tx t).length + 1 ≤ 16777216 := by rw [tx_len]; exact nle (Nat.succ_le_succ ht)
  have l2 : (tx t ++ Str.ofString "\\").length + (tx [c]).length ≤ 16777216 := by rw [sB, tx_app, tx_len, List.length_append]; exact nle (Nat.succ_le_succ (Nat.succ_le_succ ht))
  have kc := (kind_call (w := w) (mg := mg) (mb := mb) (u := u) (sp := sp) (k := c) (hp := [o0, .list ws, lo])).le (show 40 ≤ 106 by decide)
  rcases h with rfl | ⟨h, hq⟩
  · have A := mn_3 (w := w) (mg := mg) (mb := mb) (u := tx u) (sp := sp) (text := tx t) (la := la) (x := x) (n := n) (o0 := o0) (ws := ws) (lo := lo) (mn := 3) (i := tx [c]) (decide_eq_true h4) kc rfl l1 l2
    rw [sB, tx_app, tx_app, List.append_assoc] at A
    exact A
  · rw [hq] at kc
    have A := mn_q (w := w) (mg := mg) (mb := mb) (u := tx u) (sp := sp) (text := tx t) (la := la) (x := x) (n := n) (o0 := o0) (ws := ws) (lo := lo) (mn := mn) (i := tx [c]) (decide_eq_true h4) kc (beq_eq_false_iff_ne.mpr h) l1 l2
    rw [sB, tx_app, tx_app, List.append_assoc] at A
    exact A
theorem lays_sign {mn : Int} {c : Nat} {K : Kd} {p : Pc} (h4 : mn < 4) (h : mn ≠ 3) (hK : kd3 u sp c = K) (hq : (kdN K == Str.ofString "quoting") = false) (hp : p.txt = [c]) : Lays w mg mb u sp mn [c] p K [c] := by
  intro t la x n o0 lo ws ht hb
  have kc := (kind_call (w := w) (mg := mg) (mb := mb) (u := u) (sp := sp) (k := c) (hp := [o0, .list ws, lo])).le (show 40 ≤ 106 by decide)
  rw [hK] at kc
  have A := mn_k (w := w) (mg := mg) (mb := mb) (u := tx u) (sp := sp) (text := tx t) (la := la) (x := x) (n := n) (o0 := o0) (ws := ws) (lo := lo) (mn := mn) (i := tx [c]) (decide_eq_true h4) kc (beq_eq_false_iff_ne.mpr h) hq (by rw [tx_len, tx_len]; exact nle (Nat.succ_le_succ ht))
  rw [tx_app] at A
  rw [hp]
  exact A
theorem lays_4 {i : List Nat} (hi : i.length ≤ 3) : Lays w mg mb u sp 4 i (.tok .word (cut1 39 i) (39 :: (cut1 39 i ++ [39]))) .word (cut1 39 i) := by
  intro t la x n o0 lo ws ht hb
  have hl := Nat.le_trans (cut1_len 39 i) hi
  rw [mnIf_eq]
  refine ExC.ifS (k := 4) rfl (by kernel_rfl) (by kernel_rfl) (ExP.ifT (mn_t4 (mn := 4)) ?_)
  rw [mn4_eq]
  have S := set_two (x := "inner") (x' := "inner") (y := "'") (w := "") (z := tx i) (q := ⟨770, 16, 770, 21⟩) (p := ⟨770, 16, 770, 46⟩) (px := ⟨770, 24, 770, 29⟩) (apos := ⟨770, 24, 770, 37⟩) (pos := ⟨770, 24, 770, 46⟩) (p1 := ⟨770, 38, 770, 41⟩) (p2 := ⟨770, 43, 770, 45⟩) (k1 := 0) (k2 := 0)
    (P := pg w mg mb) (n := 110) (fm := FL w mg mb) (σ := ⟨Lk u sp t la x n 4 i "word", [o0, .list ws, lo]⟩) (by kernel_rfl) (by kernel_rfl) rfl (by kernel_rfl) (by rw [sQ1, tx_nil]; exact ne_nil 39) (by rw [tx_len]; exact nle hi) (by decide) (by kernel_rfl)
  rw [sQ1, tx_nil, rep_one] at S
  have A := mn_4b (w := w) (mg := mg) (mb := mb) (u := tx u) (sp := sp) (text := tx t) (la := la) (x := x) (n := n) (o0 := o0) (ws := ws) (lo := lo) (mn := 4) (i := tx (cut1 39 i)) (by rw [tx_len]; exact nle (Nat.add_le_add_left hl 1)) (by rw [sQ1, tx_app, tx_len, List.length_append]; exact nle (Nat.succ_le_succ (Nat.add_le_add_left hl 1)))
    (by rw [sQ1, tx_app, tx_app, tx_len, tx_len, List.length_append, List.length_append]; exact nle (Nat.add_le_add ht (Nat.succ_le_succ (Nat.add_le_add_left hl 1))))
  rw [sQ1, tx_app, tx_app, tx_app] at A
  exact ExP.app S A.toP
theorem lays_7 {i : List Nat} (hi : i.length ≤ 3) : Lays w mg mb u sp 7 i (.sep (35 :: (cut1 10 i ++ [10]))) .white i := by
  intro t la x n o0 lo ws ht hb
  have hl := Nat.le_trans (cut1_len 10 i) hi
  rw [mnIf_eq]
  refine ExC.ifS (k := 7) rfl (by kernel_rfl) (by kernel_rfl) (ExP.ifF (mn_t4 (mn := 7)) (ExP.ifT (mn_t7 (mn := 7)) ?_))
  rw [mn7_eq]
  refine (mn_7a (mn := 7)).toP.app ?_
  have hr : Txt.replace (tx i) (Str.ofString "\n") (Str.ofString "") = tx (cut1 10 i) := by rw [sN, tx_nil, rep_one]
  have A := aug_rep (P := pg w mg mb) (n := 110) (fm := FL w mg mb) (σ := ⟨Lk u sp t la x n 7 i "white", [o0, .list ws, lo]⟩) (t := "text") (x := "inner") (y := "\n") (w := "") (z := tx i) (c0 := "#") (c3 := "\n") (tt := tx t)
    (q := ⟨774, 16, 774, 20⟩) (p := ⟨774, 16, 774, 60⟩) (px := ⟨774, 30, 774, 35⟩) (apos := ⟨774, 30, 774, 43⟩) (pos := ⟨774, 30, 774, 53⟩) (p0 := ⟨774, 24, 774, 27⟩) (p1 := ⟨774, 44, 774, 48⟩) (p2 := ⟨774, 50, 774, 52⟩) (p3 := ⟨774, 56, 774, 60⟩) (bp1 := ⟨774, 24, 774, 53⟩) (bp2 := ⟨774, 24, 774, 60⟩)
    (k0 := 0) (k1 := 0) (k2 := 0) (k3 := 0)
    (by kernel_rfl) (by kernel_rfl) (by kernel_rfl) rfl rfl (by kernel_rfl) (by rw [sN, tx_nil]; exact ne_nil 10) (by rw [tx_len]; exact nle hi) (by decide)
    (by rw [hr, sH, tx_len, tx_len]; exact nle (b := 1 + 3) (Nat.add_le_add_left hl 1))
    (by rw [hr, sH, sN, tx_app, tx_len, tx_len, List.length_append]; exact nle (b := 1 + 3 + 1) (Nat.succ_le_succ (Nat.add_le_add_left hl 1)))
    (by rw [hr, sH, sN, tx_app, tx_app, tx_len, tx_len, List.length_append, List.length_append]; exact nle (b := 1000000 + (1 + 3 + 1)) (Nat.add_le_add ht (Nat.succ_le_succ (Nat.add_le_add_left hl 1))))
  rw [hr, sH, sN, tx_app, tx_app, tx_app] at A
  exact A
theorem lays_5 {i : List Nat} {b : Bool} {mn : Int} (h : (mn = 5 ∧ b = false) ∨ (mn = 6 ∧ b = true)) (hi : i.length ≤ 3) : Lays w mg mb u sp mn i (.tok .word i (34 :: (dbl b i ++ [34]))) .word i := by
  intro t la x n o0 lo ws ht hb
  have hl := Nat.le_trans (dbl_len b i) (Nat.mul_le_mul_left 2 hi)
  have C := (db_made (w := w) (mg := mg) (mb := mb) (i := i) (b := b) (hp := [o0, .list ws, lo]) (nle hi) hb).le (show 80 ≤ 107 by decide)
  have l1 : (tx t).length + (tx (34 :: (dbl b i ++ [34]))).length ≤ 16777216 := by rw [tx_len, tx_len, List.length_cons, List.length_append]; exact nle (Nat.add_le_add ht (Nat.succ_le_succ (Nat.succ_le_succ hl)))
  have e : (mn == 6) = b := by rcases h with ⟨rfl, rfl⟩ | ⟨rfl, rfl⟩ <;> rfl
  rw [← e] at C
  have A := mn_5 (w := w) (mg := mg) (mb := mb) (u := tx u) (sp := sp) (text := tx t) (la := la) (x := x) (n := n) (mn := mn) C (by rw [e]; exact l1)
  rw [e, tx_app] at A
  rw [mnIf_eq]
  rcases h with ⟨rfl, rfl⟩ | ⟨rfl, rfl⟩
  · exact ExC.ifS (k := 5) rfl (by kernel_rfl) (by kernel_rfl) (ExP.ifF (mn_t4 (mn := 5)) (ExP.ifF (mn_t7 (mn := 5)) A.toP))
  · exact ExC.ifS (k := 6) rfl (by kernel_rfl) (by kernel_rfl) (ExP.ifF (mn_t4 (mn := 6)) (ExP.ifF (mn_t7 (mn := 6)) A.toP))
structure Part (kd : Nat → Kd) (p : Pc) (K : Kd) (s : List Nat) : Prop where
  ok : Pc.Ok kd p
  st : ∀ cur, stepP p cur = stepK K s cur
  kk : K = .white ∨ K = .run ∨ K = .word ∨ K = .lone
  tl : p.txt.length ≤ 8
  sl : s.length ≤ 3
theorem part_word {s t : List Nat} {kd : Nat → Kd} (h : Wd kd s t) (h1 : t.length ≤ 8) (h2 : s.length ≤ 3) : Part kd (.tok .word s t) .word s := ⟨h, fun _ => rfl, .inr (.inr (.inl rfl)), h1, h2⟩
theorem mn_made {mn : Int} {i : List Nat} (h0 : 0 ≤ mn) (h8 : mn < 8) (h1 : mn < 4 → i.length = 1) (hi : i.length ≤ 3) : ∃ p K s, Part (kd3 u sp) p K s ∧ Lays w mg mb u sp mn i p K s := by
  by_cases h4 : mn < 4
  · obtain ⟨c, rfl⟩ : ∃ c, i = [c] := List.length_eq_one_iff.mp (h1 h4)
    have esc : mn = 3 ∨ (mn ≠ 3 ∧ kdN (kd3 u sp c) = "quoting") → ∃ p K s, Part (kd3 u sp) p K s ∧ Lays w mg mb u sp mn [c] p K s := fun h => ⟨_, _, _, part_word .esc (by show 2 ≤ 8; decide) (by show 1 ≤ 3; decide), lays_esc h4 h⟩
    by_cases h3 : mn = 3
    · exact esc (.inl h3)
    have l1 : [c].length ≤ 3 := by show 1 ≤ 3; decide
    have l8 : [c].length ≤ 8 := by show 1 ≤ 8; decide
    cases hK : kd3 u sp c with
    | white => exact ⟨.sep [c], .white, [c], ⟨.inl ⟨c, rfl, hK⟩, fun _ => rfl, .inl rfl, l8, l1⟩, lays_sign h4 h3 hK (by decide +kernel) rfl⟩
    | run => exact ⟨.tok .run [c] [c], .run, [c], ⟨⟨c, rfl, rfl, hK⟩, fun _ => rfl, .inr (.inl rfl), l8, l1⟩, lays_sign h4 h3 hK (by decide +kernel) rfl⟩
    | word => exact ⟨.tok .word [c] [c], .word, [c], part_word (.sign hK) l8 l1, lays_sign h4 h3 hK (by decide +kernel) rfl⟩
    | lone => exact ⟨.tok .lone [c] [c], .lone, [c], ⟨⟨c, rfl, rfl, hK⟩, fun _ => rfl, .inr (.inr (.inr rfl)), l8, l1⟩, lays_sign h4 h3 hK (by decide +kernel) rfl⟩
    | hash => exact esc (.inr ⟨h3, by rw [hK]; rfl⟩)
    | esc => exact esc (.inr ⟨h3, by rw [hK]; rfl⟩)
    | quote => exact esc (.inr ⟨h3, by rw [hK]; rfl⟩)
  have lq : ∀ (a b : Nat) (l : List Nat), (a :: (l ++ [b])).length = l.length + 2 := fun a b l => by rw [List.length_cons, List.length_append]; rfl
  by_cases e4 : mn = 4
  · subst e4
    have hl := Nat.le_trans (cut1_len 39 i) hi
    exact ⟨_, _, _, part_word (.q1 (cut1_not 39 i)) (by rw [lq]; exact nle (Nat.add_le_add_right hl 2)) hl, lays_4 hi⟩
  by_cases e7 : mn = 7
  · subst e7
    have hl := Nat.le_trans (cut1_len 10 i) hi
    exact ⟨.sep (35 :: (cut1 10 i ++ [10])), .white, i, ⟨.inr ⟨_, rfl, cut1_not 10 i⟩, fun _ => rfl, .inl rfl, by show (35 :: (cut1 10 i ++ [10])).length ≤ 8; rw [lq]; exact nle (Nat.add_le_add_right hl 2), hi⟩, lays_7 hi⟩
  have dl := fun b => Nat.le_trans (dbl_len b i) (Nat.mul_le_mul_left 2 hi)
  by_cases e5 : mn = 5
  · exact ⟨_, _, _, part_word .q2 (by rw [lq]; exact nle (Nat.add_le_add_right (dl false) 2)) hi, lays_5 (.inl ⟨e5, rfl⟩) hi⟩
  · have up : ∀ {a : Int}, a ≤ mn → mn ≠ a → a + 1 ≤ mn := fun h h' => Int.lt_iff_le_and_ne.mpr ⟨h, Ne.symm h'⟩
    have e6 : mn = 6 := Int.le_antisymm (Int.le_of_lt_add_one (Int.lt_iff_le_and_ne.mpr ⟨Int.le_of_lt_add_one h8, e7⟩)) (up (up (Int.not_lt.mp h4) e4) e5)
    exact ⟨_, _, _, part_word .q2 (by rw [lq]; exact nle (Nat.add_le_add_right (dl true) 2)) hi, lays_5 (.inr ⟨e6, rfl⟩) hi⟩
end
end Mini
namespace Mini
open PySem PySem.W PySem.Calls PyProof.Rows PySem.Builtin PySem.Builtin.Str
structure S3 where
  text : List Nat
  done : List (List Nat)
  cur : Option (Kd × List Nat)
noncomputable def S3.step (s : S3) (p : Pc) : S3 := ⟨s.text ++ p.txt, s.done ++ (stepP p s.cur).1, (stepP p s.cur).2⟩
noncomputable def S3.words (s : S3) : List (List Nat) := s.done ++ flush s.cur
noncomputable def runP (ps : List Pc) (s : S3) : S3 := ps.foldl S3.step s
theorem runP_app (a b : List Pc) (s : S3) : runP (a ++ b) s = runP b (runP a s) := List.foldl_append
structure S3.Fits (s : S3) (B : Nat) : Prop where
  text : s.text.length ≤ B
  words : s.words.length ≤ B
  cur : ∀ q, s.cur = some q → q.2.length ≤ B
  ok : CurOk s.cur
theorem addK_len (K : Kd) (t : List Nat) (cur : Option (Kd × List Nat)) : (addK K t cur).1.length + (flush (addK K t cur).2).length ≤ (flush cur).length + 1 := by
  cases cur with
  | none => exact Nat.le_refl _
  | some q =>
    unfold addK
    dsimp only
    split
    · exact Nat.le_succ _
    · exact Nat.le_refl _
theorem addK_cur (K : Kd) (t : List Nat) (cur : Option (Kd × List Nat)) : ∃ y, (addK K t cur).2 = some (K, y) ∧ (y = t ∨ ∃ q, cur = some q ∧ y = q.2 ++ t) := by
  cases cur with
  | none => exact ⟨t, rfl, .inl rfl⟩
  | some q =>
    unfold addK
    dsimp only
    split
    · exact ⟨_, rfl, .inr ⟨q, rfl, rfl⟩⟩
    · exact ⟨_, rfl, .inl rfl⟩
theorem stepK_len {K : Kd} (t : List Nat) (cur : Option (Kd × List Nat)) (hK : K = .white ∨ K = .run ∨ K = .word ∨ K = .lone) : (stepK K t cur).1.length + (flush (stepK K t cur).2).length ≤ (flush cur).length + 1 := by
  rcases hK with rfl | rfl | rfl | rfl
  · exact Nat.le_succ _
  · exact addK_len _ _ _
  · exact addK_len _ _ _
  · show (flush cur ++ [t]).length + 0 ≤ _; rw [List.length_append]; exact Nat.le_refl _
theorem stepK_cur {K : Kd} (t : List Nat) (cur : Option (Kd × List Nat)) (hK : K = .white ∨ K = .run ∨ K = .word ∨ K = .lone) : (stepK K t cur).2 = none ∨ ∃ K' y, (K' = .run ∨ K' = .word) ∧ (stepK K t cur).2 = some (K', y) ∧ (y = t ∨ ∃ q, cur = some q ∧ y = q.2 ++ t) := by
  rcases hK with rfl | rfl | rfl | rfl
  · exact .inl rfl
  · obtain ⟨y, h⟩ := addK_cur .run t cur; exact .inr ⟨_, y, .inl rfl, h⟩
  · obtain ⟨y, h⟩ := addK_cur .word t cur; exact .inr ⟨_, y, .inr rfl, h⟩
  · exact .inl rfl
theorem fits_step {s : S3} {B : Nat} {kd : Nat → Kd} {p : Pc} {K : Kd} {t : List Nat} (h : s.Fits B) (hp : Part kd p K t) : (s.step p).Fits (B + 8) := by
  have e1 : (s.step p).cur = (stepK K t s.cur).2 := congrArg Prod.snd (hp.st s.cur)
  have e2 : (s.step p).done = s.done ++ (stepK K t s.cur).1 := congrArg (s.done ++ ·) (congrArg Prod.fst (hp.st s.cur))
  refine ⟨?_, ?_, fun q hq => ?_, fun q hq => ?_⟩
  · show (s.text ++ p.txt).length ≤ _
    rw [List.length_append]; exact Nat.add_le_add h.text hp.tl
  · unfold S3.words
    rw [e1, e2, List.append_assoc, List.length_append, List.length_append]
    have hw : s.done.length + (flush s.cur).length ≤ B := by rw [← List.length_append]; exact h.words
    exact Nat.le_trans (Nat.add_le_add_left (stepK_len t s.cur hp.kk) _) (Nat.le_trans (Nat.succ_le_succ hw) (Nat.add_le_add_left (show 1 ≤ 8 by decide) B))
  · rw [e1] at hq
    rcases stepK_cur t s.cur hp.kk with e | ⟨K', y, _, e, hy⟩
    · rw [e] at hq; exact nomatch hq
    · rw [e] at hq; cases hq
      have ht : t.length ≤ 8 := nle hp.sl
      rcases hy with rfl | ⟨r, hr, rfl⟩
      · exact Nat.le_trans ht (Nat.le_add_left _ _)
      · show (r.2 ++ t).length ≤ _
        rw [List.length_append]; exact Nat.add_le_add (h.cur r hr) ht
  · rw [e1] at hq
    rcases stepK_cur t s.cur hp.kk with e | ⟨K', y, hK, e, _⟩
    · rw [e] at hq; exact nomatch hq
    · rw [e] at hq; cases hq; exact hK
section
variable {w : World} {mg mb : Str → Option Value} {u : List Nat} {sp : Bool} {x : Int}
noncomputable def LoOk (o0 lo : LO) : Prop := ∀ ws, lobs 3 [o0, .list (sv ws), lo] = true
theorem li_body : loopIn (liWhile (pg w mg mb)) = liIn (pg w mg mb) 0 3 ++ ([siFor (pg w mg mb)] ++ (liIn (pg w mg mb) 4 1 ++ ([mnIf (pg w mg mb)] ++ liIn (pg w mg mb) 6 1))) := by kernel_rfl
theorem StC.ex {P : Pg} {n : Nat} {fm : Fm} {st : Stmt} {σ : St} {r : Res Fl} (h : StC P n fm σ st r) : ExC P n fm [st] σ r := ⟨fun X D c => by rw [one_is]; exact h.out X D c⟩
theorem li_rest {s : S3} {B : Nat} (hB : B ≤ 90000) (hf : s.Fits B) {mn n : Int} {sz : Nat} (h0 : 0 ≤ mn) (h8 : mn < 8) (h1 : mn < 4 → sz = 1) (h3 : sz ≤ 3) (hn : 0 ≤ n) : ∃ p n', Pc.Ok (kd3 u sp) p ∧ 0 ≤ n' ∧ n' ≤ n ∧ (s.step p).Fits (B + 8) ∧ ∀ (o0 lo : LO), LoOk o0 lo →
    ExC (pg w mg mb) 110 (FL w mg mb) ([siFor (pg w mg mb)] ++ (liIn (pg w mg mb) 4 1 ++ ([mnIf (pg w mg mb)] ++ liIn (pg w mg mb) 6 1))) ⟨Ls u sp s.text (lkN s.cur) x n mn [] sz, [o0, .list (sv s.words), lo]⟩ (.ok .next ⟨Lb u sp (s.step p).text (lkN (s.step p).cur) x n', [o0, .list (sv (s.step p).words), lo]⟩ O0 []) := by
  obtain ⟨n', i, a1, a2, a3, S⟩ := si_made (w := w) (mg := mg) (mb := mb) (u := u) (sp := sp) (sz := sz) (n := n) (mn := mn) hn (nle h3)
  obtain ⟨p, K, t, hp, L⟩ := mn_made (w := w) (mg := mg) (mb := mb) (u := u) (sp := sp) (mn := mn) (i := i) h0 h8 (fun h => a1.trans (h1 h)) (Nat.le_trans (Nat.le_of_eq a1) h3)
  have hl := Nat.le_trans hf.text hB
  have hw := Nat.le_trans hf.words hB
  refine ⟨p, n', hp.ok, a2, a3, fits_step hf hp, fun o0 lo hlo => ?_⟩
  have F := fi_made (w := w) (mg := mg) (mb := mb) (u := u) (sp := sp) (t := s.text ++ p.txt) (s := t) (K := K) (done := s.done) (cur := s.cur) (x := x) (n := n') (mn := mn) (o0 := o0) (lo := lo) hp.kk hf.ok (nle hw) (fun q e => nle (Nat.le_trans (hf.cur q e) hB)) (nle hp.sl)
  rw [← hp.st] at F
  exact (S s.text (lkN s.cur) x o0 lo (sv s.words) (hlo _)).ex.app (li_k.app ((L (nle hl) (hlo _)).app F nofun) nofun) nofun
theorem dm8 {n : Int} (h : 0 < n) : 0 ≤ (n - 1) % 8 ∧ (n - 1) % 8 < 8 ∧ 0 ≤ (n - 1) / 8 ∧ 8 * ((n - 1) / 8) < n :=
  ⟨Int.emod_nonneg _ (by decide), Int.emod_lt_of_pos _ (by decide), Int.ediv_nonneg (Int.sub_nonneg_of_le h) (by decide), Int.lt_of_le_of_lt (Int.mul_ediv_self_le (by decide)) (Int.sub_lt_self n (by decide))⟩
theorem li_step {s : S3} {B : Nat} (hB : B ≤ 90000) (hf : s.Fits B) {n : Int} (hn : 0 < n) : ∃ p n', Pc.Ok (kd3 u sp) p ∧ 0 ≤ n' ∧ 8 * n' < n ∧ (s.step p).Fits (B + 8) ∧ ∀ (o0 lo : LO), LoOk o0 lo →
    ExC (pg w mg mb) 110 (FL w mg mb) (loopIn (liWhile (pg w mg mb))) ⟨Lb u sp s.text (lkN s.cur) x n, [o0, .list (sv s.words), lo]⟩ (.ok .next ⟨Lb u sp (s.step p).text (lkN (s.step p).cur) x n', [o0, .list (sv (s.step p).words), lo]⟩ O0 []) := by
  have f1 : Int.fmod (n - 1) 8 = (n - 1) % 8 := Int.fmod_eq_emod_of_nonneg _ (by decide)
  have f2 : Int.fdiv (n - 1) 8 = (n - 1) / 8 := Int.fdiv_eq_ediv_of_nonneg _ (by decide)
  obtain ⟨m0, m8, q0, qn⟩ := dm8 hn
  have H0 := fun (o0 lo : LO) h => li_h0 (o0 := o0) (lo := lo) (w := w) (mg := mg) (mb := mb) (u := tx u) (sp := sp) (text := tx s.text) (la := lkN s.cur) (x := x) (n := n) (ws := sv s.words) h
  have H1 := fun (o0 lo : LO) h => li_h1 (o0 := o0) (lo := lo) (w := w) (mg := mg) (mb := mb) (u := tx u) (sp := sp) (text := tx s.text) (la := lkN s.cur) (x := x) (n := n) (ws := sv s.words) h
  rw [f1, f2, tx_nil] at H0 H1
  revert H0 H1 m0 m8 q0 qn
  generalize (n - 1) % 8 = mn
  generalize (n - 1) / 8 = q
  intro m0 m8 q0 qn H0 H1
  have up : ∀ {n' : Int}, n' ≤ q → 8 * n' < n := fun h => Int.lt_of_le_of_lt (Int.mul_le_mul_of_nonneg_left h (by decide)) qn
  rw [li_body]
  by_cases h : 3 < mn
  · have g1 : Int.fmod q 4 = q % 4 := Int.fmod_eq_emod_of_nonneg _ (by decide)
    have g2 : Int.fdiv q 4 = q / 4 := Int.fdiv_eq_ediv_of_nonneg _ (by decide)
    obtain ⟨sz, hsz⟩ := Int.eq_ofNat_of_zero_le (Int.emod_nonneg q (show (4 : Int) ≠ 0 by decide))
    have hs4 : sz < 4 := Int.ofNat_lt.mp (hsz ▸ Int.emod_lt_of_pos q (by decide))
    obtain ⟨p, n', a1, a2, a3, a4, A⟩ := li_rest (w := w) (mg := mg) (mb := mb) (u := u) (sp := sp) (x := x) hB hf (mn := mn) (n := q / 4) (sz := sz) m0 m8 (fun k => absurd k (Int.not_lt.mpr h)) (Nat.le_of_lt_succ hs4) (Int.ediv_nonneg q0 (by decide))
    refine ⟨p, n', a1, a2, up (Int.le_trans a3 (Int.ediv_le_self _ q0)), a4, fun o0 lo hlo => ?_⟩
    have H := H1 o0 lo (decide_eq_true h)
    rw [g1, g2, hsz] at H
    exact H.app (A o0 lo hlo) nofun
  · obtain ⟨p, n', a1, a2, a3, a4, A⟩ := li_rest (w := w) (mg := mg) (mb := mb) (u := u) (sp := sp) (x := x) hB hf (mn := mn) (n := q) (sz := 1) m0 m8 (fun _ => rfl) (by decide) q0
    exact ⟨p, n', a1, a2, up a3, a4, fun o0 lo hlo => (H0 o0 lo (decide_eq_false h)).app (A o0 lo hlo) nofun⟩
theorem Fits.up {s : S3} {B C : Nat} (h : s.Fits B) (hBC : B ≤ C) : s.Fits C := ⟨Nat.le_trans h.text hBC, Nat.le_trans h.words hBC, fun q e => Nat.le_trans (h.cur q e) hBC, h.ok⟩
theorem li_loop : ∀ (m : Nat) (n : Int) (s : S3) (B : Nat), 0 ≤ n → n < 8 ^ m → s.Fits B → 8 * m + B ≤ 90000 → ∃ ps c, (∀ p ∈ ps, Pc.Ok (kd3 u sp) p) ∧ (runP ps s).Fits (8 * m + B) ∧ ∀ (o0 lo : LO), LoOk o0 lo →
    Loop (pg w mg mb) 110 (FL w mg mb) (testOf (liWhile (pg w mg mb))) (loopIn (liWhile (pg w mg mb))) c ⟨Lb u sp s.text (lkN s.cur) x n, [o0, .list (sv s.words), lo]⟩ (.ok .next ⟨Lb u sp (runP ps s).text (lkN (runP ps s).cur) x 0, [o0, .list (sv (runP ps s).words), lo]⟩ O0 []) := by
  have T := fun (s : S3) (n : Int) (o0 lo : LO) => li_t (w := w) (mg := mg) (mb := mb) (u := tx u) (sp := sp) (text := tx s.text) (la := lkN s.cur) (x := x) (n := n) (o0 := o0) (ws := sv s.words) (lo := lo)
  have stop : ∀ (s : S3) (B k : Nat) (n : Int), n = 0 → s.Fits B → ∃ ps c, (∀ p ∈ ps, Pc.Ok (kd3 u sp) p) ∧ (runP ps s).Fits (k + B) ∧ ∀ (o0 lo : LO), LoOk o0 lo →
      Loop (pg w mg mb) 110 (FL w mg mb) (testOf (liWhile (pg w mg mb))) (loopIn (liWhile (pg w mg mb))) c ⟨Lb u sp s.text (lkN s.cur) x n, [o0, .list (sv s.words), lo]⟩ (.ok .next ⟨Lb u sp (runP ps s).text (lkN (runP ps s).cur) x 0, [o0, .list (sv (runP ps s).words), lo]⟩ O0 []) :=
    fun s B k n hn hf => ⟨[], 0, nofun, Fits.up hf (Nat.le_add_left _ _), fun o0 lo _ => by rw [hn]; exact .stop (T s 0 o0 lo)⟩
  intro m
  induction m with
  | zero => exact fun n s B h0 h hf hB => stop s B _ n (Int.le_antisymm (Int.le_of_lt_add_one h) h0) hf
  | succ m ih =>
    intro n s B h0 h hf hB
    by_cases hz : n = 0
    · exact stop s B _ n hz hf
    · have hn : 0 < n := Int.lt_iff_le_and_ne.mpr ⟨h0, Ne.symm hz⟩
      have eB : 8 * m + (B + 8) = 8 * (m + 1) + B := by rw [Nat.mul_succ, Nat.add_comm B, Nat.add_assoc]
      obtain ⟨p, n', a1, a2, a3, a4, A⟩ := li_step (w := w) (mg := mg) (mb := mb) (u := u) (sp := sp) (x := x) (s := s) (B := B) (Nat.le_trans (Nat.le_add_left _ _) hB) hf hn
      rw [Int.pow_succ, Int.mul_comm] at h
      obtain ⟨ps, c, b1, b2, L⟩ := ih n' (s.step p) (B + 8) a2 (Int.lt_of_mul_lt_mul_left (Int.lt_trans a3 h) (by decide)) a4 (Nat.le_trans (Nat.le_of_eq eB) hB)
      rw [eB] at b2
      refine ⟨p :: ps, c + 1, List.forall_mem_cons.mpr ⟨a1, b1⟩, b2, fun o0 lo hlo => ?_⟩
      have T := T s n o0 lo
      rw [decide_eq_true hn] at T
      exact .next T (A o0 lo hlo) (L o0 lo hlo)
theorem liWhile_eq : liWhile (pg w mg mb) = .While (testOf (liWhile (pg w mg mb))) (loopIn (liWhile (pg w mg mb))) [] (posOf (liWhile (pg w mg mb))) := by kernel_rfl
theorem liFor_eq : liFor (pg w mg mb) = .For (.Name "x" (epos (targetOf (liFor (pg w mg mb))))) (testOf (liFor (pg w mg mb))) (loopIn (liFor (pg w mg mb))) [] (posOf (liFor (pg w mg mb))) := by kernel_rfl
noncomputable abbrev L0 (u : List Nat) (sp : Bool) (t : List Nat) (la : Str) : List (Str × V) := [("numbers", .obj 0), ("runs", .str (tx u)), ("split", .bool sp), ("text", .str (tx t)), ("words", .obj 1), ("last", .str la)]
noncomputable abbrev L1 (u : List Nat) (sp : Bool) (t : List Nat) (la : Str) (x : Int) : List (Str × V) := [("numbers", .obj 0), ("runs", .str (tx u)), ("split", .bool sp), ("text", .str (tx t)), ("words", .obj 1), ("last", .str la), ("x", .int x)]
theorem li_num {s : S3} {B : Nat} (hB : 96 + B ≤ 90000) (hf : s.Fits B) : ∃ ps, (∀ p ∈ ps, Pc.Ok (kd3 u sp) p) ∧ (runP ps s).Fits (96 + B) ∧ ∀ (o0 lo : LO), LoOk o0 lo →
    ExC (pg w mg mb) 115 (FL w mg mb) (loopIn (liFor (pg w mg mb))) ⟨L1 u sp s.text (lkN s.cur) x, [o0, .list (sv s.words), lo]⟩ (.ok .next ⟨Lb u sp (runP ps s).text (lkN (runP ps s).cur) x 0, [o0, .list (sv (runP ps s).words), lo]⟩ O0 []) := by
  have f1 : Int.fmod x 10000000000 = x % 10000000000 := Int.fmod_eq_emod_of_nonneg _ (by decide)
  obtain ⟨ps, c, b1, b4, L⟩ := li_loop (w := w) (mg := mg) (mb := mb) (u := u) (sp := sp) (x := x) 12 (Int.fmod x 10000000000 + 1) s B (by rw [f1]; exact Int.add_nonneg (Int.emod_nonneg _ (by decide)) (by decide))
    (by rw [f1]; exact Int.lt_of_le_of_lt (Int.add_one_le_of_lt (Int.emod_lt_of_pos _ (by decide))) (by decide)) hf hB
  refine ⟨ps, b1, b4, fun o0 lo hlo => li_turn ?_⟩
  rw [liWhile_eq]
  exact (StC.while_ (L o0 lo hlo)).le (by decide)
noncomputable def vI (vs : List Int) : List V := vs.map V.int
theorem vI_bel (k : Nat) (vs : List Int) : vbs k (vI vs) = true := vbs_map _ _ (fun _ => rfl) _
theorem loOk {vs : List Int} {lo : LO} (h : ∀ m, 2 ≤ m → lob m lo = true) : LoOk (.list (vI vs)) lo := fun ds => by
  show (lob 3 (.list (vI vs)) && (lob 3 (.list (sv ds)) && (lob 3 lo && true))) = true
  have e1 : lob 3 (.list (vI vs)) = true := vI_bel _ _
  have e2 : lob 3 (.list (sv ds)) = true := sv_bel _ _
  rw [e1, e2, h 3 (by decide)]; rfl
theorem li_for {vs : List Int} {p : Pos} : ∀ (d i : Nat) (s : S3) (B : Nat) (loc : List (Str × V)), i + d = (vI vs).length → (loc = L0 u sp s.text (lkN s.cur) ∨ ∃ x, loc = Lb u sp s.text (lkN s.cur) x 0) → s.Fits B → 96 * d + B ≤ 90000 →
    ∃ ps loc', (∀ p ∈ ps, Pc.Ok (kd3 u sp) p) ∧ (runP ps s).Fits (96 * d + B) ∧ (loc' = L0 u sp (runP ps s).text (lkN (runP ps s).cur) ∨ ∃ x, loc' = Lb u sp (runP ps s).text (lkN (runP ps s).cur) x 0) ∧
      ForI (pg w mg mb) 115 (FL w mg mb) (.Name "x" p) (loopIn (liFor (pg w mg mb))) (vI vs) (fun σ => σ.hp[0]? = some (.list (vI vs))) 2 i ⟨loc, [.list (vI vs), .list (sv s.words)]⟩ (.ok .next ⟨loc', [.list (vI vs), .list (sv (runP ps s).words)]⟩ O0 []) := by
  intro d
  induction d with
  | zero =>
    intro i s B loc hd hl hf hB
    refine ⟨[], loc, nofun, Fits.up hf (Nat.le_add_left _ _), hl, .stop (by rw [List.getElem?_eq_none_iff]; exact Nat.le_of_eq hd.symm) rfl ⟨rfl, ?_, ?_⟩⟩
    · rcases hl with rfl | ⟨x, rfl⟩ <;> rfl
    · show (lob 2 (.list (vI vs)) && (lob 2 (.list (sv s.words)) && true)) = true
      have e1 : lob 2 (.list (vI vs)) = true := vI_bel _ _
      have e2 : lob 2 (.list (sv s.words)) = true := sv_bel _ _
      rw [e1, e2]; rfl
  | succ d ih =>
    intro i s B loc hd hl hf hB
    have hi : i < vs.length := by rw [← show (vI vs).length = vs.length from List.length_map .., ← hd]; exact Nat.lt_add_of_pos_right (Nat.succ_pos d)
    have hv : (vI vs)[i]? = some (.int vs[i]) := by show (vs.map V.int)[i]? = _; rw [List.getElem?_map, List.getElem?_eq_getElem hi]; rfl
    have eB : 96 * d + (96 + B) = 96 * (d + 1) + B := by rw [Nat.mul_succ, Nat.add_assoc]
    rw [← eB] at hB ⊢
    obtain ⟨ps, b1, b3, A⟩ := li_num (w := w) (mg := mg) (mb := mb) (u := u) (sp := sp) (x := vs[i]) (s := s) (B := B) (Nat.le_trans (Nat.le_add_left _ _) hB) hf
    obtain ⟨qs, loc', c1, c3, c4, L⟩ := ih (i + 1) (runP ps s) (96 + B) (Lb u sp (runP ps s).text (lkN (runP ps s).cur) vs[i] 0) ((Nat.succ_add_eq_add_succ i d).trans hd) (.inr ⟨_, rfl⟩) b3 hB
    refine ⟨ps ++ qs, loc', fun p hp => (List.mem_append.mp hp).elim (b1 p) (c1 p), ?_⟩
    rw [runP_app]
    refine ⟨c3, c4, .next (σ' := ⟨Lb u sp (runP ps s).text (lkN (runP ps s).cur) vs[i] 0, [.list (vI vs), .list (sv (runP ps s).words)]⟩) hv rfl rfl (@fun lo hlo => ?_) (.inl rfl) L⟩
    have S := AsC.name (P := pg w mg mb) (n := 115) (fm := FL w mg mb) (x := "x") (p := p) (v := .int vs[i]) (loc := loc) (hp := [.list (vI vs), .list (sv s.words)] ++ [lo]) (by kernel_rfl)
    have A := A (.list (vI vs)) lo (loOk hlo)
    rcases hl with rfl | ⟨x, rfl⟩
    · exact ⟨_, S, A⟩
    · exact ⟨⟨Lb u sp s.text (lkN s.cur) vs[i] 0, [.list (vI vs), .list (sv s.words), lo]⟩, S, A.pre (Sub.head (L1 u sp s.text (lkN s.cur) vs[i]) [((Str.ofString "n"), V.int 0)])⟩
noncomputable def s0 : S3 := ⟨[], [], none⟩
theorem li_made {vs : List Int} (hv : vs.length ≤ 100) : ∃ ps, (∀ p ∈ ps, Pc.Ok (kd3 u sp) p) ∧ (runP ps s0).Fits 9600 ∧
    CallC (pg w mg mb) 125 false 754 [.obj 0, .str (tx u), .bool sp] [] [.list (vI vs)] (.inl (.tup [.str (tx (runP ps s0).text), .obj 1, .str (lkN (runP ps s0).cur)])) [.list (vI vs), .list (sv (runP ps s0).words)] := by
  have hz : 96 * (vI vs).length + 0 ≤ 9600 := Nat.mul_le_mul_left 96 (Nat.le_trans (Nat.le_of_eq (List.length_map ..)) hv)
  obtain ⟨ps, loc', a1, a3, a4, L⟩ := li_for (w := w) (mg := mg) (mb := mb) (u := u) (sp := sp) (vs := vs) (p := epos (targetOf (liFor (pg w mg mb)))) (vI vs).length 0 s0 0 (L0 u sp [] "") (Nat.zero_add _) (.inl rfl) ⟨Nat.le_refl _, Nat.le_refl _, fun _ e => (nomatch e), fun _ e => (nomatch e)⟩ (Nat.le_trans hz (by decide))
  refine ⟨ps, a1, Fits.up a3 hz, ?_⟩
  have it := li_it (w := w) (mg := mg) (mb := mb) (u := tx u) (sp := sp) (text := tx []) (la := "") (o0 := .list (vI vs)) (ws := [])
  have S : StC (pg w mg mb) 123 (FL w mg mb) ⟨L0 u sp [] "", [.list (vI vs), .list []]⟩ (liFor (pg w mg mb)) (.ok .next ⟨[("text", .str (tx (runP ps s0).text)), ("words", .obj 1), ("last", .str (lkN (runP ps s0).cur))], [.list (vI vs), .list (sv (runP ps s0).words)]⟩ O0 []) := by
    rw [liFor_eq]
    refine (for_list (it.le (by decide : 80 ≤ 123)) rfl (L.le (by decide : 115 ≤ 123)) (by kernel_rfl) (by intro env x; kernel_rfl)).forget (os' := O0) ?_
    rcases a4 with rfl | ⟨x, rfl⟩
    · exact Sub.cons rfl (Sub.cons rfl (Sub.cons rfl (Sub.nil _)))
    · exact Sub.cons rfl (Sub.cons rfl (Sub.cons rfl (Sub.nil _)))
  exact li_call (S.pre (loc := [("split", .bool sp), ("runs", .str (tx u)), ("numbers", .obj 0), ("text", .str ("" : Str)), ("words", .obj 1), ("last", .str "")]) (Sub.cons rfl (Sub.cons rfl (Sub.cons rfl (Sub.cons (by rw [tx_nil]; rfl) (Sub.cons rfl (Sub.cons rfl (Sub.nil _))))))))
end
end Mini
namespace Mini
open PySem
theorem run_text (ps : List Pc) : ∀ s : S3, (runP ps s).text = s.text ++ txtP ps [] := by
  induction ps with
  | nil => exact fun s => (List.append_nil _).symm
  | cons p ps ih =>
    intro s
    show (runP ps (s.step p)).text = s.text ++ (p.txt ++ txtP ps [])
    rw [ih, ← List.append_assoc]; rfl
theorem run_words (ps : List Pc) : ∀ s : S3, (runP ps s).words = s.done ++ tks s.cur ps := by
  induction ps with
  | nil => exact fun s => rfl
  | cons p ps ih =>
    intro s
    show (runP ps (s.step p)).words = s.done ++ ((stepP p s.cur).1 ++ tks (stepP p s.cur).2 ps)
    rw [ih, ← List.append_assoc]; rfl
theorem txtP_app (a b : List Pc) (T : List Nat) : txtP (a ++ b) T = txtP a (txtP b T) := by
  induction a with
  | nil => rfl
  | cons p a ih => exact congrArg (p.txt ++ ·) ih
theorem txtP_tail (a : List Pc) (T : List Nat) : txtP a T = txtP a [] ++ T := by
  induction a with
  | nil => rfl
  | cons p a ih => show p.txt ++ txtP a T = (p.txt ++ txtP a []) ++ T; rw [ih, List.append_assoc]
theorem tks_sep (t : List Nat) : ∀ (a : List Pc) (cur : Option (Kd × List Nat)), tks cur (a ++ [.sep t]) = tks cur a
  | [], cur => List.append_nil _
  | p :: a, cur => congrArg ((stepP p cur).1 ++ ·) (tks_sep t a (stepP p cur).2)
theorem addK_some (K : Kd) (t : List Nat) (cur : Option (Kd × List Nat)) : (addK K t cur).2 ≠ none := fun h => by
  obtain ⟨y, e, _⟩ := addK_cur K t cur
  rw [h] at e; exact nomatch e
theorem stepP_len (p : Pc) (cur : Option (Kd × List Nat)) : (stepP p cur).1.length + (flush (stepP p cur).2).length ≤ (flush cur).length + 1 := by
  cases p with
  | sep t => exact Nat.le_succ _
  | tok K s t =>
    have h := addK_len .word s cur
    cases K with
    | lone => show (flush cur ++ [s]).length + 0 ≤ _; rw [List.length_append]; exact Nat.le_refl _
    | run => exact addK_len .run s cur
    | white => exact h
    | hash => exact h
    | esc => exact h
    | quote => exact h
    | word => exact h
theorem txt_pos {kd : Nat → Kd} {p : Pc} (h : Pc.Ok kd p) : 1 ≤ p.txt.length := by
  cases p with
  | sep t => rcases h with ⟨k, rfl, _⟩ | ⟨i, rfl, _⟩ <;> exact Nat.succ_le_succ (Nat.zero_le _)
  | tok K s t =>
    cases K with
    | lone => obtain ⟨k, _, rfl, _⟩ := h; exact Nat.le_refl _
    | run => obtain ⟨k, _, rfl, _⟩ := h; exact Nat.le_refl _
    | white => exact h.elim
    | hash => exact h.elim
    | esc => exact h.elim
    | quote => exact h.elim
    | word =>
      have h : Wd kd s t := h
      cases h <;> exact Nat.succ_le_succ (Nat.zero_le _)
theorem tks_len {kd : Nat → Kd} (T : List Nat) : ∀ (ps : List Pc) (cur : Option (Kd × List Nat)), (∀ p ∈ ps, Pc.Ok kd p) → (tks cur ps).length ≤ (flush cur).length + (txtP ps T).length
  | [], cur, _ => Nat.le_add_right _ _
  | p :: ps, cur, h => by
    have ih := tks_len T ps (stepP p cur).2 fun q hq => h q (.tail _ hq)
    have a := stepP_len p cur
    have b := txt_pos (h p (.head _))
    show ((stepP p cur).1 ++ tks (stepP p cur).2 ps).length ≤ _ + (p.txt ++ txtP ps T).length
    rw [List.length_append, List.length_append, ← Nat.add_assoc]
    exact Nat.le_trans (Nat.add_le_add_left ih _) (by rw [← Nat.add_assoc]; exact Nat.add_le_add_right (Nat.le_trans a (Nat.add_le_add_left b _)) _)
theorem cut_end {kd : Nat → Kd} (F : Kf kd) {ps : List Pc} (h : ∀ p ∈ ps, Pc.Ok kd p) (hc : (runP ps s0).cur = none) {t : List Nat} (ht : txtP ps [] = t ++ [10]) : ∃ ps' T, (∀ p ∈ ps', Pc.Ok kd p) ∧ TailOk T ∧ t = txtP ps' T ∧ tks none ps' = tks none ps := by
  rcases List.eq_nil_or_concat ps with rfl | ⟨q, p, rfl⟩
  · exact nomatch (List.append_eq_nil_iff.mp ht.symm).2
  · rw [List.concat_eq_append] at h hc ht ⊢
    have hq : ∀ p ∈ q, Pc.Ok kd p := fun a ha => h a (List.mem_append_left _ ha)
    have hp := h p (List.mem_append_right _ (.head _))
    rw [runP_app] at hc
    have hc : (stepP p (runP q s0).cur).2 = none := hc
    rw [txtP_app, txtP_tail] at ht
    have ht : txtP q [] ++ (p.txt ++ []) = t ++ [10] := ht
    rw [List.append_nil] at ht
    cases p with
    | sep u =>
      rcases hp with ⟨k, rfl, hk⟩ | ⟨i, rfl, hi⟩
      · obtain ⟨e1, e2⟩ := List.append_inj' (show txtP q [] ++ [k] = t ++ [10] from ht) rfl
        exact ⟨q, [], hq, .inl rfl, e1.symm, (tks_sep _ q none).symm⟩
      · have ht : txtP q [] ++ (35 :: (i ++ [10])) = t ++ [10] := ht
        rw [show 35 :: (i ++ [10]) = (35 :: i) ++ [10] from rfl, ← List.append_assoc] at ht
        obtain ⟨e1, e2⟩ := List.append_inj' ht rfl
        refine ⟨q, 35 :: i, hq, .inr ⟨i, rfl, hi⟩, ?_, (tks_sep _ q none).symm⟩
        rw [txtP_tail]; exact e1.symm
    | tok K s u =>
      cases K with
      | lone =>
        obtain ⟨k, rfl, rfl, hk⟩ := hp
        obtain ⟨e1, e2⟩ := List.append_inj' (show txtP q [] ++ [k] = t ++ [10] from ht) rfl
        rw [(List.cons.inj e2).1, F.h10] at hk
        exact nomatch hk
      | run => exact absurd hc (addK_some _ _ _)
      | word => exact absurd hc (addK_some _ _ _)
      | white => exact hp.elim
      | hash => exact hp.elim
      | esc => exact hp.elim
      | quote => exact hp.elim
theorem ends_at {l : List Nat} (h : Txt.endswith (tx l) (Str.ofString "\n") = true) : ∃ t, l = t ++ [10] := by
  rw [show Str.ofString "\n" = (⟨#[10]⟩ : Str) by decide +kernel] at h
  unfold Txt.endswith at h
  obtain ⟨h1, h2⟩ := Bool.and_eq_true_iff.mp h
  have h1 : 1 ≤ (tx l).length := Nat.le_trans (Nat.le_add_left 1 0) (of_decide_eq_true h1)
  have h3 := (StrLaws.subAt_one (tx l) 10 ((tx l).length - 1)).mp ⟨Nat.le_of_eq (Nat.sub_add_cancel h1), h2⟩
  rw [tx_len] at h1 h3
  rw [tx_list] at h3
  refine ⟨l.dropLast, ?_⟩
  have hne : l ≠ [] := fun e => by rw [e] at h1; exact nomatch h1
  have e := List.dropLast_concat_getLast hne
  have g : l.getLast hne = 10 := by
    rw [List.getLast_eq_getElem]
    exact (List.getElem?_eq_some_iff.mp h3).2
  rw [g] at e
  exact e.symm
end Mini
namespace Mini
open PySem PySem.W PySem.Calls PyProof.Rows
section
variable {w : World} {mg mb : Str → Option Value}
variable {fa : Addr} {cd : Value} {ns : List Int} {sl nv us ws ts : List V} {a mk ln : Int} {sp ct : Bool} {u t la tok : Str} {c : CF} {es : List (Str × V)} {tb : List Nat} {st : V} {oi od of oq : LO}
theorem law_cit
    (h0 : ((List.length (List.map V.int ns)) : Nat) ≤ 16777216) :
    EvC (pg w mg mb) 120 (lawFm (pg w mg mb) fa cd) (cIt (numComp (pg w mg mb))) (.obj 0) (⟨[("script", .ro ns)], []⟩) ⟨[("script", .ro (ns))], [.list (pickL (List.map V.int ns) none (some 24))]⟩ :=
  EvC.mk' (cs := [_]) ⟨[], []⟩ ⟨h0, trivial⟩ (by kernel_rfl)
theorem law_b0
    (h0 : nv.length ≠ ([] : List V).length) :
    ExC (pg w mg mb) 130 (lawFm (pg w mg mb) fa cd) (lawIn (pg w mg mb) 1 1) ⟨[("script", .ro ns), ("numbers", .obj 1)], [.list sl, .list nv]⟩ (.ok (.next) ⟨[("script", .ro (ns)), ("numbers", .obj 1)], [.list sl, .list nv, .list []]⟩ O0 []) :=
  ExC.mk' (r := .inl (.next)) (cs := [_]) ⟨[.f], []⟩ ⟨h0, trivial⟩ (by kernel_rfl)
theorem law_b1
    (h0 : ((([] : List V) = []) ∧ (∀ (v : V), v ∈ ([] : List V) → flat1 v = true))) :
    ExC (pg w mg mb) 130 (lawFm (pg w mg mb) fa cd) (lawIn (pg w mg mb) 1 1) ⟨[("script", .ro ns), ("numbers", .obj 1)], [.list sl, .list []]⟩ (.ok (.next) ⟨[("script", .ro (ns)), ("numbers", .obj 3)], [.list sl, .list [], .list [], .list [.int 0]]⟩ O0 []) :=
  ExC.mk' (r := .inl (.next)) (cs := [_]) ⟨[], []⟩ ⟨h0, trivial⟩ (by kernel_rfl)
theorem law_c
    (h0 : (((0 : Int) ≤ 0) ∧ ((((0 : Int) < 9223372036854775808) ∧ (List.get?Internal nv (Int.toNat 0) = some (V.int a))))))
    (h1 : (((0 : Int) ≤ 0) ∧ ((((0 : Int) < 9223372036854775808) ∧ (List.get?Internal nv (Int.toNat 0) = some (V.int a))))))
    (h2 : (((0 : Int) ≤ 0) ∧ ((((0 : Int) < 9223372036854775808) ∧ (List.get?Internal nv (Int.toNat 0) = some (V.int a))))))
    (h3 : (((0 : Int) ≤ 0) ∧ ((((0 : Int) < 9223372036854775808) ∧ (List.get?Internal nv (Int.toNat 0) = some (V.int a))))))
    (h4 : ((((-9223372036854775808) : Int) ≤ 0) ∧ ((((0 : Int) < 9223372036854775808) ∧ ((Option.isSome (seqIndex? 0 (List.length nv))) = true))))) :
    ExC (pg w mg mb) 130 (lawFm (pg w mg mb) fa cd) (lawIn (pg w mg mb) 2 4) ⟨[("numbers", .obj 0)], [.list nv]⟩ (.ok (.next) ⟨[("numbers", .obj 0), ("split", .bool (Int.fmod a 2 == 1)), ("mask", .int (Int.fmod (Int.fdiv a 2) 1024)), ("cut", .bool (Int.fmod (Int.fdiv a 2048) 2 == 1))], [.list (setAtV nv 0 (V.int (Int.fdiv a 4096)))]⟩ O0 []) :=
  ExC.mk' (r := .inl (.next)) (cs := [_, _, _, _, _, _, _, _]) ⟨[], [.fn (.int a) [], .fn (.int a) [], .fn (.int a) [], .fn (.int a) []]⟩ ⟨h0, h1, (by decide +kernel : ((¬ ((2 : Int) = 0)) ∧ (false = false))), h2, (by decide +kernel : ((¬ ((2048 : Int) = 0)) ∧ (false = false))), h3, (by decide +kernel : ((¬ ((4096 : Int) = 0)) ∧ (false = false))), h4, trivial⟩ (by kernel_rfl)
theorem law_d
    (h0 : ComC (pg w mg mb) 127 (lawFm (pg w mg mb) fa cd) ⟨[("numbers", .obj 0), ("split", .bool (sp)), ("mask", .int (mk)), ("cut", .bool (ct))], [.list nv]⟩ (runComp (pg w mg mb)) (.obj 1) [.list nv, .list us])
    (h1 : ∃ ss,
  strsOf us = some ss ∧
    Str.length (Str.ofString "") ≤ 16 ∧
      List.sum (List.map (fun x => Str.length x) ss) + List.length ss ≤ 1048576 ∧
        V.str u = V.str (Txt.join (Str.ofString "") ss)) :
    ExC (pg w mg mb) 130 (lawFm (pg w mg mb) fa cd) (lawIn (pg w mg mb) 6 1) ⟨[("numbers", .obj 0), ("split", .bool sp), ("mask", .int mk), ("cut", .bool ct)], [.list nv]⟩ (.ok (.next) ⟨[("numbers", .obj 0), ("split", .bool (sp)), ("mask", .int (mk)), ("cut", .bool (ct)), ("runs", .str (u))], [.list nv, .list us]⟩ O0 []) :=
  ExC.mk' (r := .inl (.next)) (cs := [_, _]) ⟨[], [.fn (.obj 1) [.list nv, .list us], .fn (.str u) []]⟩ ⟨h0, h1, trivial⟩ (by kernel_rfl)
theorem law_e1
    (h0 : (u != Str.ofString "") = true)
    (h1 : CallC (pg w mg mb) 127 false 754 [.obj 0, .str u, .bool sp] [] [.list nv] (.inl (.tup [.str t, .obj 1, .str la])) [.list nv, .list ws]) :
    ExC (pg w mg mb) 130 (lawFm (pg w mg mb) fa cd) (lawIn (pg w mg mb) 7 1) ⟨[("numbers", .obj 0), ("split", .bool sp), ("mask", .int mk), ("cut", .bool ct), ("runs", .str u)], [.list nv]⟩ (.ok (.next) ⟨[("numbers", .obj 0), ("split", .bool (sp)), ("mask", .int (mk)), ("cut", .bool (ct)), ("runs", .str (u)), ("text", .str (t)), ("words", .obj 1), ("last", .str (la))], [.list nv, .list ws]⟩ O0 []) :=
  ExC.mk' (r := .inl (.next)) (cs := [_, _]) ⟨[.t], [.fn (.tup [.str t, .obj 1, .str la]) [.list nv, .list ws]]⟩ ⟨h0, h1, trivial⟩ (by kernel_rfl)
theorem law_e0
    (h0 : CallC (pg w mg mb) 127 false 754 [.obj 0, .str ("();<>|&" : Str), .bool sp] [] [.list nv] (.inl (.tup [.str t, .obj 1, .str la])) [.list nv, .list ws]) :
    ExC (pg w mg mb) 130 (lawFm (pg w mg mb) fa cd) (lawIn (pg w mg mb) 7 1) ⟨[("numbers", .obj 0), ("split", .bool sp), ("mask", .int mk), ("cut", .bool ct), ("runs", .str ("" : Str))], [.list nv]⟩ (.ok (.next) ⟨[("numbers", .obj 0), ("split", .bool (sp)), ("mask", .int (mk)), ("cut", .bool (ct)), ("runs", .str ("" : Str)), ("text", .str (t)), ("words", .obj 1), ("last", .str (la))], [.list nv, .list ws]⟩ O0 []) :=
  ExC.mk' (r := .inl (.next)) (cs := [_]) ⟨[], [.fn (.tup [.str t, .obj 1, .str la]) [.list nv, .list ws]]⟩ ⟨h0, trivial⟩ (by kernel_rfl)
theorem law_x0 :
    ExC (pg w mg mb) 130 (lawFm (pg w mg mb) fa cd) (lawIn (pg w mg mb) 8 1) ⟨[("split", .bool sp), ("mask", .int mk), ("cut", .bool false), ("runs", .str u), ("text", .str t), ("words", .obj 0), ("last", .str la)], [.list ws]⟩ (.ok (.next) ⟨[("split", .bool (sp)), ("mask", .int (mk)), ("cut", .bool false), ("runs", .str (u)), ("text", .str (t)), ("words", .obj 0), ("last", .str (la))], [.list ws]⟩ O0 []) :=
  ExC.mk' (r := .inl (.next)) (cs := []) ⟨[], []⟩ trivial (by kernel_rfl)
theorem law_x1
    (h0 : (la == Str.ofString "") = false) :
    ExC (pg w mg mb) 130 (lawFm (pg w mg mb) fa cd) (lawIn (pg w mg mb) 8 1) ⟨[("split", .bool sp), ("mask", .int mk), ("cut", .bool true), ("runs", .str u), ("text", .str t), ("words", .obj 0), ("last", .str la)], [.list ws]⟩ (.ok (.next) ⟨[("split", .bool (sp)), ("mask", .int (mk)), ("cut", .bool true), ("runs", .str (u)), ("text", .str (t)), ("words", .obj 0), ("last", .str (la))], [.list ws]⟩ O0 []) :=
  ExC.mk' (r := .inl (.next)) (cs := [_]) ⟨[.go, .f], []⟩ ⟨h0, trivial⟩ (by kernel_rfl)
theorem law_x2
    (h0 : (Txt.endswith t (Str.ofString "\n")) = false) :
    ExC (pg w mg mb) 130 (lawFm (pg w mg mb) fa cd) (lawIn (pg w mg mb) 8 1) ⟨[("split", .bool sp), ("mask", .int mk), ("cut", .bool true), ("runs", .str u), ("text", .str t), ("words", .obj 0), ("last", .str ("" : Str))], [.list ws]⟩ (.ok (.next) ⟨[("split", .bool (sp)), ("mask", .int (mk)), ("cut", .bool true), ("runs", .str (u)), ("text", .str (t)), ("words", .obj 0), ("last", .str ("" : Str))], [.list ws]⟩ O0 []) :=
  ExC.mk' (r := .inl (.next)) (cs := [_]) ⟨[.go, .go, .f], []⟩ ⟨h0, trivial⟩ (by kernel_rfl)
theorem law_x3
    (h0 : (Txt.endswith t (Str.ofString "\n")) = true)
    (h1 : ((Str.length t) : Nat) ≤ 16777216) :
    ExC (pg w mg mb) 130 (lawFm (pg w mg mb) fa cd) (lawIn (pg w mg mb) 8 1) ⟨[("split", .bool sp), ("mask", .int mk), ("cut", .bool true), ("runs", .str u), ("text", .str t), ("words", .obj 0), ("last", .str ("" : Str))], [.list ws]⟩ (.ok (.next) ⟨[("split", .bool (sp)), ("mask", .int (mk)), ("cut", .bool true), ("runs", .str (u)), ("text", .str (Txt.slice t none (some (-1)))), ("words", .obj 0), ("last", .str ("" : Str))], [.list ws]⟩ O0 []) :=
  ExC.mk' (r := .inl (.next)) (cs := [_, _]) ⟨[.go, .go, .t], []⟩ ⟨h0, h1, trivial⟩ (by kernel_rfl)
theorem law_f1
    (h0 : (u != Str.ofString "") = true)
    (h1 : CallC (pg w mg mb) 127 false 722 [.str t] [("posix", .bool true), ("punctuation_chars", .str (u))] [.list ws] (.inl (.obj 1)) [.list ws, lexP true c 2 3 4 5 (.str (" " : Str)) ("" : Str) 1, ioOf t 0, .deque [], .deque [], .deque [], .dict es, (LO.tab tb)]) :
    ExC (pg w mg mb) 130 (lawFm (pg w mg mb) fa cd) (lawIn (pg w mg mb) 9 1) ⟨[("split", .bool sp), ("mask", .int mk), ("runs", .str u), ("text", .str t), ("words", .obj 0)], [.list ws]⟩ (.ok (.next) ⟨[("split", .bool (sp)), ("mask", .int (mk)), ("runs", .str (u)), ("text", .str (t)), ("words", .obj 0), ("lex", .obj 1)], [.list ws, lexP true c 2 3 4 5 (.str (" " : Str)) ("" : Str) 1, ioOf t 0, .deque [], .deque [], .deque [], .dict es, (LO.tab tb)]⟩ O0 []) :=
  ExC.mk' (r := .inl (.next)) (cs := [_, _]) ⟨[.t], [.fn (.obj 1) [.list ws, lexP true c 2 3 4 5 (.str " ") ("" : Str) 1, ioOf t 0, .deque [], .deque [], .deque [], .dict es, .tab tb]]⟩ ⟨h0, h1, trivial⟩ (by kernel_rfl)
theorem law_f0
    (h0 : CallC (pg w mg mb) 127 false 722 [.str t] [("posix", .bool true), ("punctuation_chars", .bool true)] [.list ws] (.inl (.obj 1)) [.list ws, lexP true c 2 3 4 5 (.str (" " : Str)) ("" : Str) 1, ioOf t 0, .deque [], .deque [], .deque [], .dict es, (LO.tab tb)]) :
    ExC (pg w mg mb) 130 (lawFm (pg w mg mb) fa cd) (lawIn (pg w mg mb) 9 1) ⟨[("split", .bool sp), ("mask", .int mk), ("runs", .str ("" : Str)), ("text", .str t), ("words", .obj 0)], [.list ws]⟩ (.ok (.next) ⟨[("split", .bool (sp)), ("mask", .int (mk)), ("runs", .str ("" : Str)), ("text", .str (t)), ("words", .obj 0), ("lex", .obj 1)], [.list ws, lexP true c 2 3 4 5 (.str (" " : Str)) ("" : Str) 1, ioOf t 0, .deque [], .deque [], .deque [], .dict es, (LO.tab tb)]⟩ O0 []) :=
  ExC.mk' (r := .inl (.next)) (cs := [_]) ⟨[], [.fn (.obj 1) [.list ws, lexP true c 2 3 4 5 (.str " ") ("" : Str) 1, ioOf t 0, .deque [], .deque [], .deque [], .dict es, .tab tb]]⟩ ⟨h0, trivial⟩ (by kernel_rfl)
theorem law_g :
    ExC (pg w mg mb) 130 (lawFm (pg w mg mb) fa cd) (lawIn (pg w mg mb) 10 1) ⟨[("split", .bool sp), ("mask", .int mk), ("runs", .str u), ("text", .str t), ("words", .obj 0), ("lex", .obj 1)], [.list ws, lexP true c 2 3 4 5 st tok ln, oi, od, of, oq]⟩ (.ok (.next) ⟨[("split", .bool (sp)), ("mask", .int (mk)), ("runs", .str (u)), ("text", .str (t)), ("words", .obj 0), ("lex", .obj 1)], [.list ws, lexP true { c with split := sp } 2 3 4 5 ((st)) (tok) ln, oi, od, of, oq]⟩ O0 []) :=
  ExC.mk' (r := .inl (.next)) (cs := []) ⟨[], []⟩ trivial (by kernel_rfl)
theorem law_tit
    (h0 : ((Str.length t) : Nat) < 9223372036854775808) :
    EvC (pg w mg mb) 130 (lawFm (pg w mg mb) fa cd) (cIt (tolComp (pg w mg mb))) (.rng 0 ((↑(Str.length t) : Int) + 2)) (⟨[("split", .bool sp), ("mask", .int mk), ("runs", .str u), ("text", .str t), ("words", .obj 0), ("lex", .obj 1)], [.list ws, lexP true c 2 3 4 5 st tok ln, oi, od, of, oq]⟩) ⟨[("split", .bool (sp)), ("mask", .int (mk)), ("runs", .str (u)), ("text", .str (t)), ("words", .obj 0), ("lex", .obj 1)], [.list ws, lexP true c 2 3 4 5 ((st)) (tok) ln, oi, od, of, oq]⟩ :=
  EvC.mk' (cs := [_]) ⟨[], []⟩ ⟨h0, trivial⟩ (by kernel_rfl)
theorem law_end
    (h0 : ((Str.length t) : Nat) < 9223372036854775808)
    (h1 : ((List.length ws) : Nat) < 9223372036854775808)
    (h2 : (((0 : Int) ≤ ((↑(Str.length t) : Int) + 2 - (↑(List.length ws) : Int))) ∧ ((((↑(Str.length t) : Int) + 2 - (↑(List.length ws) : Int)) : Int) ≤ 1000000)))
    (h3 : ((List.length ws +
  List.length (List.replicate (Int.toNat ((↑(Str.length t) : Int) + 2 - (↑(List.length ws) : Int))) V.none)) : Nat) ≤ 16777216)
    (h4 : (((ts) = (ws ++ List.replicate (Int.toNat ((↑(Str.length t) : Int) + 2 - (↑(List.length ws) : Int))) V.none)) ∧ (∀ (v : V), v ∈ ts → flat1 v = true))) :
    ExC (pg w mg mb) 130 (lawFm (pg w mg mb) fa cd) (lawIn (pg w mg mb) 12 1) ⟨[("split", .bool sp), ("mask", .int mk), ("runs", .str u), ("text", .str t), ("words", .obj 0), ("lex", .obj 1), ("told", .obj 6)], [.list ws, lexP true c 2 3 4 5 st tok ln, oi, od, of, oq, .list ts]⟩ (.ok (.ret (.bool true)) ⟨[("split", .bool (sp)), ("mask", .int (mk)), ("runs", .str (u)), ("text", .str (t)), ("words", .obj 0), ("lex", .obj 1), ("told", .obj 6)], [.list ws, lexP true c 2 3 4 5 ((st)) (tok) ln, oi, od, of, oq, .list ts, .list [.none], .list (List.replicate (Int.toNat ((↑(Str.length t) : Int) + 2 - (↑(List.length ws) : Int))) V.none), .list (ws ++ List.replicate (Int.toNat ((↑(Str.length t) : Int) + 2 - (↑(List.length ws) : Int))) V.none)]⟩ O0 []) :=
  ExC.mk' (r := .inl (.ret (.bool true))) (cs := [_, _, _, _, _]) ⟨[], []⟩ ⟨h0, h1, h2, h3, h4, trivial⟩ (by kernel_rfl)
end
end Mini
namespace Mini
open PySem PySem.W PySem.Calls PyProof.Rows PyProof.Rows.LCg
noncomputable def scopeG (sc : Scope) (x : Str) : Bool := isFun sc.kind && (isLoc (sc.names.lookup x) && sc.names.all fun p => (isLoc (some p.2) && isLoc (sc.names.lookup p.1)) || isGlob (some p.2))
theorem scopeG_is {sc : Scope} {x : Str} (h : scopeG sc x = true) : sc.kind = .function ∧ sc.names.lookup x = some .local ∧ (∀ y ∈ sc.names, y.2 ≠ .free) ∧ (∀ y ∈ sc.names, y.2 ≠ .cell) ∧ (∀ y ∈ sc.names, y.2 = .local → sc.names.lookup y.1 = some .local) := by
  obtain ⟨h1, h⟩ := band h
  obtain ⟨h2, h3⟩ := band h
  have key : ∀ y ∈ sc.names, (y.2 = .local ∧ sc.names.lookup y.1 = some .local) ∨ y.2 = .globalImplicit := fun y hy => by
    rcases Bool.or_eq_true_iff.mp (List.all_eq_true.mp h3 y hy) with q | q
    · obtain ⟨a, b⟩ := band q
      exact .inl ⟨Option.some.inj (isLoc_is a), isLoc_is b⟩
    · refine .inr ?_
      cases hk : y.2 with
      | globalImplicit => rfl
      | _ => rw [hk] at q; exact nomatch q
  refine ⟨isFun_is h1, isLoc_is h2, fun y hy => ?_, fun y hy => ?_, fun y hy e => ?_⟩
  · rcases key y hy with ⟨q, _⟩ | q <;> rw [q] <;> exact nofun
  · rcases key y hy with ⟨q, _⟩ | q <;> rw [q] <;> exact nofun
  · rcases key y hy with ⟨_, q⟩ | q
    · exact q
    · rw [q] at e; exact nomatch e
section
variable {P : Pg} {fm : Fm} {X : Fx} {D : Dy} {σ σ₁ : St} {n : Nat}
noncomputable def EltP (P : Pg) (fm : Fm) (X : Fx) (elt : Expr) (x : Str) (sc : Scope) (v u : V) : Prop :=
  ∀ (D : Dy) (σ : St) (s : Shared) (C : Addr) (m₂ : Str → Option Value) (val : Value) (Q : Value → Shared → Prop) (E : Value → Shared → Prop), Rp P fm X D σ s.heap → s.heap.Ns C m₂ → m₂ x = some val → VRel X v D val →
    (∀ tk y, VRel X u D y → Q y { s with toks := tk }) → wpAny (model P.prog P.w) X.A (eval elt (compEnvC sc [] C (envAt fm X))) Q E s
theorem comp_rest0 {elt : Expr} {x : Str} {sc : Scope} {us : List V} {s : Shared} {D₁ : Dy} {Fin : List Value → List (Addr × Obj) → Prop} {Pv : Nat → Value → Prop} {S : List (Addr × Obj) → Prop} {h₁ : Heap} (r₁ : Rp P fm X D₁ σ h₁)
    (hP : ∀ i y, Pv i y → ∃ v u, us[i]? = some u ∧ VRel X v D₁ y ∧ EltP P fm X elt x sc v u) (hn : us.length = n) (hS : S D₁.news) (fin : ∀ ys, VsRel X us D₁ ys → Fin ys D₁.news) :
    ∀ (k i : Nat) (ys : List Value), i + k = n → VsRel X (us.take i) D₁ ys → CompRest P.prog P.w X.A X.h₀ X.L D₁.m (envAt fm X) elt x sc [] s S Pv Fin k i ys D₁.news := by
  intro k
  induction k with
  | zero =>
    intro i ys hi hv
    refine CompRest.zero (fin ys ?_)
    rw [List.take_of_length_le (by omega)] at hv
    exact hv
  | succ k ih =>
    intro i ys hi hv
    refine CompRest.succ fun v I oI C oC Dl m₂ h tk E' hPv hoC hm₂ F N off apart => ?_
    obtain ⟨v0, u0, hu0, hr, hE⟩ := hP i v hPv
    have N' : News X.h₀ X.L h D₁.news := fun p hp => N p (.tail _ (.tail _ (.tail _ hp)))
    refine hE D₁ σ { s with heap := h, toks := tk } C m₂ v _ E' (r₁.other F N') (hoC.ns (N (C, oC) (.tail _ (.head _))).1) hm₂ hr fun tk' y hy => ?_
    refine CompEnd.intro (all := (I, oI) :: (C, oC) :: (Dl, lst ys) :: D₁.news) F N D₁.news (fun p hp => hp) off hS ?_
    refine ih (i + 1) (ys ++ [y]) (by omega) ?_
    rw [List.take_add_one, hu0]
    exact VRs.append hv (.cons hy .nil)
theorem newObj' {h h' : Heap} (r : Rp P fm X D σ h) {a : Addr} {o : Obj} (ha : ∀ p ∈ D.news, p.1 ≠ a) (F' : Fr X.h₀ X.L h' D.m) (N' : News X.h₀ X.L h' ((a, o) :: D.news)) {lo : LO}
    (R' : ∀ D', Gr X D D' → (a, o) ∈ D'.news → OR P.w.params X.base D'.ad D'.news (a, a) lo) :
    Rp P fm X { D with news := (a, o) :: D.news, ad := D.ad ++ [(a, a)] } ⟨σ.loc, σ.hp ++ [lo]⟩ h' ∧ Gr X D { D with news := (a, o) :: D.news, ad := D.ad ++ [(a, a)] } ∧ VRel X (.obj σ.hp.length) { D with news := (a, o) :: D.news, ad := D.ad ++ [(a, a)] } (.ref a) := by
  obtain ⟨r1, g1⟩ := r.push ha F' N'
  have g2 : Gr X { D with news := (a, o) :: D.news } { D with news := (a, o) :: D.news, ad := D.ad ++ [(a, a)] } := ⟨fun i p e => by
    have hi : i < D.ad.length := (List.getElem?_eq_some_iff.mp e).1
    show (D.ad ++ [(a, a)])[i]? = some p
    rw [List.getElem?_append_left hi]; exact e, fun _ _ hm _ => hm⟩
  obtain ⟨r2, _⟩ := r1.made (q := (a, a)) (lo := lo) (.head _) (r.fresh ha) (R' { D with news := (a, o) :: D.news, ad := D.ad ++ [(a, a)] } (g1.trans g2) (.head _))
  refine ⟨r2, g1.trans g2, ?_⟩
  refine VR.obj (p := (a, a)) ?_
  show (D.ad ++ [(a, a)])[σ.hp.length]? = some (a, a)
  rw [← r.len, List.getElem?_append_right (Nat.le_refl _), Nat.sub_self]; rfl
theorem off1_mem {Dl : Addr} : ∀ {l : List (Addr × Obj)}, Off1 Dl l → ∀ q ∈ l, q.1 ≠ Dl := fun {l} => by
  induction l with
  | nil => exact fun _ _ h => nomatch h
  | cons a l ih =>
    intro ho q hq
    rcases List.mem_cons.mp hq with rfl | hq
    · exact ho.1
    · exact ih ho.2 q hq
theorem comp_set {j : Nat} {elt it : Expr} {x y : Str} {px py pos spos : Pos} {sc : Scope} {vs us : List V} (hit : EvC P n fm it (.obj j) σ σ₁) (hj : σ₁.hp[j]? = some (.list vs)) (hlen : us.length = vs.length) (hz : vs.length ≤ 1000000) (hs : scopeG sc x = true) (hf : fm.hand = false)
    (hfold : ∀ env y, foldedSetIterable it env y = pure y) (hy : fm.scope.names.lookup y = some .local) (hsw : ∀ X, swapsWith (.ListComp elt [⟨.Name x px, it, [], 0⟩] sc pos) (some (.Name y py)) spos.line (envAt fm X) = pure true)
    (hE : ∀ (X : Fx), Cx P fm n X → ∀ (i : Nat) v, vs[i]? = some v → ∃ u, us[i]? = some u ∧ EltP P fm X elt x sc v u) :
    ExC P n fm [.Assign [.Name y py] (.ListComp elt [⟨.Name x px, it, [], 0⟩] sc pos) spos] σ (.ok .next ⟨putV y (.obj σ₁.hp.length) σ₁.loc, σ₁.hp ++ [.list us]⟩ O0 []) := by
  obtain ⟨h1, h2, h3, h4, h5⟩ := scopeG_is hs
  refine ⟨fun X D c _ s r Q E hQ => ?_⟩
  have hh := c.hh hf
  rw [one_is, exec_Assign_Name_used _ _ _ _ (hsw X)]
  refine wpAny_bind (wpAny_standAt (wpAny_bind ?_))
  show wpAny _ _ (do let _ ← comprehension (.ListComp elt [⟨.Name x px, it, [], 0⟩] sc pos) sc (envAt fm X) _ (newList []) false (eval it (envAt fm X)) (some (assign (.Name y py) (envAt fm X)))) _ _ s
  refine wpAny_bind (wpAny_mono (wpAny_comprehension_free (use := some (assign (.Name y py) (envAt fm X))) (Q := fun _ s' => Q .next s') rfl (hfold _) (closureFor_none h3) h1 h5 (hit.out X D c (fun _ q => nomatch q) s r _ E fun D₁ s₁ xv r₁ g₁ q₁ k₁ => ?_)) (fun _ s' hq => wpAny_pure (wpAny_pure hq)) fun _ _ e => e)
  obtain ⟨ax, xs, m, rfl, e2, e3, hmem, _⟩ := lst_at r₁ q₁ hj
  have hsz : xs.size = vs.length := by rw [← Array.length_toList, e3.length]
  have hnew := next_is_new r₁.F
  have hlt : ax < s₁.heap.objs.size := Heap.lt_size e2
  refine wpAny_pyIter_list ⟨_, e2, rfl, m, rfl⟩ ?_
  refine block_U (RR := fun acc C => compPost (model P.prog P.w) X.A E (some (assign (.Name y py) (envAt fm X))) (fun _ s' => Q .next s') acc C) (S := fun nw => (ax, listOf xs m) ∈ nw) (m := D₁.m) (news := D₁.news) (Fin := fun ys news' => news' = D₁.news ∧ VsRel X us D₁ ys)
    (Walks.list hh s₁.heap.objs.size ax (Nat.ne_of_lt hlt) xs) (Nat.le_trans (Nat.le_of_eq hsz) (Nat.le_trans hz (by decide))) (fun i h st => by obtain ⟨⟨o, e, _⟩, _⟩ := st; exact ⟨o, e⟩) (fun i h h' o nw st e e' _ N hS => ?_) h4 h1 h2 ⟨⟨_, Heap.get?_push_size _ rfl, rfl, rfl⟩, ⟨_, Heap.get?_push_of_some _ e2, rfl, m, rfl⟩⟩ (fun b hb => ?_)
    (r₁.F.push _) (fun p hp => ⟨Heap.get?_push_of_some _ (r₁.N p hp).1, (r₁.N p hp).2⟩) (fun e => absurd r₁.F.ns.lt (by rw [e]; exact Nat.lt_irrefl _)) hnew (fun p hp e => absurd (fresh_lt r₁ p hp) (by rw [e]; exact Nat.lt_irrefl _)) hmem ?_ ?_
  · obtain ⟨⟨o', q, w⟩, _⟩ := st
    rw [e] at q
    rw [← Option.some.inj q] at w
    exact ⟨⟨o, e', w⟩, ⟨_, (N _ hS).1, rfl, m, rfl⟩⟩
  · show b < (s₁.heap.push _).objs.size
    rw [Heap.size_push]
    rcases List.mem_cons.mp hb with hb | hb
    · rw [hb]; exact Nat.lt_succ_self _
    · rw [List.mem_singleton.mp hb]; exact Nat.lt_succ_of_lt hlt
  · rw [hsz]
    refine comp_rest0 (D₁ := D₁) (n := vs.length) r₁ (us := us) (fun i y hy => ?_) hlen hmem (fun ys hv => ⟨rfl, hv⟩) vs.length 0 [] (Nat.zero_add _) .nil
    have hy : xs[i]? = some y := hy
    have hi : i < vs.length := by rw [← hsz]; exact (Array.getElem?_eq_some_iff.mp hy).1
    obtain ⟨u, hu, hE⟩ := hE X c i _ (List.getElem?_eq_getElem hi)
    obtain ⟨y', hy', hr⟩ := e3.get (List.getElem?_eq_getElem hi)
    rw [Array.getElem?_toList, hy] at hy'
    exact ⟨_, u, hu, Option.some.inj hy' ▸ hr, hE⟩
  · intro Dl C h tk m' ys news' F' N' o1 hn hC₀ hD₀ hCL hDL hCD offC fin
    obtain ⟨rfl, hv⟩ := fin
    have r' := r₁.other F' fun p hp => N' p (.tail _ hp)
    obtain ⟨r₂, g₂, hv₂⟩ := newObj' r' (lo := .list us) (o := lst ys) (off1_mem o1) F' N' fun D'' g'' hm'' => ⟨rfl, ys.toArray, ys.length, hm'', by rw [List.toList_toArray]; exact rels_mono hv g''⟩
    obtain ⟨oC, hoC, hns⟩ := ns_obj hn
    have Nx : News X.h₀ X.L h ((C, oC) :: (Dl, lst ys) :: D₁.news) := fun p hp => by
      rcases List.mem_cons.mp hp with rfl | hp
      · exact ⟨hoC, hCL, hC₀⟩
      · exact N' p hp
    show wpAny _ _ (assign (.Name y py) (envAt fm X) (.ref Dl)) _ _ _
    rw [arm_assign_Name]
    refine wpAny_bind (wpAny_standAt (wpAny_bindName (storeX_L r₂.F Nx (fun h' Fn Nn => ⟨m', hns.ns (Nn (C, oC) (.head _)).1, fun h'' hs'' => ?_⟩) c.hk hy)))
    have N3 : News X.h₀ X.L h'' ((Dl, lst ys) :: D₁.news) := fun p hp => by
      refine ⟨hs''.extBut _ _ ?_ (Nn p (.tail _ hp)).1, (Nn p (.tail _ hp)).2⟩
      rcases List.mem_cons.mp hp with rfl | hp
      · exact Ne.symm hCD
      · exact offC p hp
    exact hQ _ { s₁ with heap := h'', toks := tk + 1 } _ (store_rp (h' := h'') r₂ hy hv₂ (Fn.change hs'' hCL hC₀) N3) ((g₁.trans g₂).trans ⟨fun _ _ e => e, fun _ _ e _ => e⟩) rfl ⟨k₁.os, k₁.gens⟩
theorem relabel_glob {env : Env} {x : Str} : ∀ {names : List (Str × NameKind)}, names.lookup x = some .globalImplicit →
    (names.map fun (n, k) => if (k == NameKind.free && env.scope.kind == .function && env.kindOf n == some .cell) then (n, NameKind.cell) else (n, k)).lookup x = some .globalImplicit
  | [], h => nomatch h
  | (n, k) :: r, h => by
    rw [List.lookup_cons] at h
    show List.lookup x ((if (k == NameKind.free && env.scope.kind == .function && env.kindOf n == some .cell) = true then (n, NameKind.cell) else (n, k)) :: _) = _
    cases hn : x == n with
    | true =>
      rw [hn] at h
      have h := Option.some.inj h
      subst h
      rw [if_neg (fun q => nomatch q), List.lookup_cons, hn]
    | false =>
      rw [hn] at h
      have e : ∀ q : Str × NameKind, q.1 = n → List.lookup x (q :: List.map (fun p : Str × NameKind => if (p.2 == NameKind.free && env.scope.kind == .function && env.kindOf p.1 == some .cell) = true then (p.1, NameKind.cell) else (p.1, p.2)) r) = some .globalImplicit := by
        rintro ⟨a, b⟩ rfl
        rw [List.lookup_cons, hn]
        exact relabel_glob h
      split
      · exact e (n, NameKind.cell) rfl
      · exact e (n, k) rfl
theorem elt_abs {x : Str} {sc : Scope} {p1 p2 pos : Pos} {i : Int} (hx : sc.names.lookup x = some .local) (hk : sc.kind = .function) (hd : (x == ("__debug__" : Str)) = false) (ha : sc.names.lookup ("abs" : Str) = some .globalImplicit)
    (hn : nsIn P.K mainGlobals "abs" = some none) (hb : bootBuiltins "abs" = some (.builtin "abs")) (c : Cx P fm n X) : EltP P fm X (.Call (.Name "abs" p1) [.Name x p2] [] pos) x sc (.int i) (.int (if i < 0 then -i else i)) := by
  intro D σ s C m₂ val Q E r hns hm hv k
  obtain ⟨t, rfl⟩ := VR.int' hv
  have hkind : (compEnvC sc [] C (envAt fm X)).scope.kind = .function := hk
  have hloc : (compEnvC sc [] C (envAt fm X)).kindOf x = some .local := lookup_relabel_local hx
  have hglob : (compEnvC sc [] C (envAt fm X)).kindOf ("abs" : Str) = some .globalImplicit := relabel_glob ha
  rw [arm_eval_Call_Name']
  have hs : [Expr.Name x p2].any starred = false := rfl
  refine wpAny_bind (Name_function_global hkind hglob (loadGlobal_builtin (env := compEnvC sc [] C (envAt fm X)) (c.top.g.keeps r.F.keep) (mg_none_of c.kin c.top.g hn) (c.top.b.keeps r.F.keep) ((c.top.builtins "abs" (by decide)).trans hb) ?_) (by decide +kernel))
  refine callWith_of (P := fun h => P.K.In h) (by rw [star_no _ pos hs]; rfl) (keeps_machine fun _ e => nomatch e) (evalArgs_of _ (star_no _ pos hs) rfl ?_)
  rw [starEach_cons rfl]
  refine spl_one (wpAny_Name (wpAny_loadName_local hkind hloc hns hm (wpAny_pure (wpAny_pure ⟨r.kin c, ?_⟩))) hd)
  exact call_abs_int fun u tk => k tk _ .int
end
end Mini
namespace Mini
open PySem PySem.W PySem.Calls PyProof.Rows
structure OwnIt (P : Pg) (C fi fn : Addr) : Prop where
  it : findIn P.K (.ref C) "__iter__" = some (some (.ref fi))
  itf : isFn P.K (.ref fi) = true
  nx : findIn P.K (.ref C) "__next__" = some (some (.ref fn))
  nxf : isFn P.K (.ref fn) = true
inductive ForO (P : Pg) (n : Nat) (fm : Fm) (t : Expr) (b : List Stmt) (C fn : Addr) (k : Nat) : Nat → St → Res Fl → Prop
  | stop {m σ hp' es} : σ.hp[k]? = some (.inst C es) → CallC P n fm.hand fn [.obj k] [] σ.hp (.inr ("StopIteration", [])) hp' → ForO P n fm t b C fn k m σ (.ok .next ⟨σ.loc, hp'⟩ O0 [])
  | next {m σ hp₁ v σ₁ f σ' r es} : σ.hp[k]? = some (.inst C es) → CallC P n fm.hand fn [.obj k] [] σ.hp (.inl v) hp₁ → AsC P n fm t v ⟨σ.loc, hp₁⟩ σ₁ → ExC P n fm b σ₁ (.ok f σ' O0 []) → f = .next ∨ f = .cont →
      ForO P n fm t b C fn k m σ' r → ForO P n fm t b C fn k (m + 1) σ r
  | raise {m σ hp' args es} : σ.hp[k]? = some (.inst C es) → CallC P n fm.hand fn [.obj k] [] σ.hp (.inr ("ValueError", args)) hp' → ForO P n fm t b C fn k m σ (.ex "ValueError" args ⟨σ.loc, hp'⟩ O0 [])
section
variable {P : Pg} {fm : Fm} {X : Fx} {n : Nat} {σ : St} {C fi fn : Addr} {k : Nat}
end
end Mini
namespace Mini
open PySem PySem.W PySem.Calls PyProof.Rows PyProof.Rows.LCg
section
variable {P : Pg} {fm : Fm} {X : Fx} {D : Dy} {σ σ₁ : St} {n : Nat}
end
end Mini
namespace Mini
open PySem PySem.W PySem.Calls PyProof.Rows
structure CellFn (P : Pg) (f : Addr) (fd : FuncData) (body : List Stmt) (a b : Str) : Prop where
  obj : ∃ o, P.K.lookup f = some o ∧ o.data = .func fd
  params : fd.params = ⟨fd.params.posonlyargs, fd.params.args, none, [], fd.params.kw_defaults, none, fd.params.defaults⟩
  eta : fd = fnX fd.name fd.qualname fd.params body fd.scope [] fd.defaults fd.kwdefaults fd.doc fd.pyModule fd.annotations fd.code fd.closureTuple
  names : fd.scope.names = [(a, .cell), (b, .cell)]
  ne : (b == a) = false
  kind : fd.scope.kind = .function
  co : fd.scope.isCoroutine = false
  gen : fd.scope.isGenerator = false
  code : ∀ K, K = P.K → codeIn K fd.code fd.qualname = true
section
variable {P : Pg} {n : Nat} {fm : Fm} {X : Fx} {D : Dy} {σ : St}
end
end Mini
namespace Mini
open PySem PySem.W PySem.Calls PyProof.Rows PyProof.Rows.LCg PyProof.Rows.LCt
section
variable {P : Pg} {fm : Fm} {X : Fx} {D : Dy} {σ : St} {n : Nat}
theorem cell_at {x : Str} {v : V} (r : ∀ v, σ.loc.lookup x = some v → LR fm.scope X.cl D.m X.base D.ad D.news x v) (hx : fm.scope.names.lookup x = some .cell) (hv : σ.loc.lookup x = some v) : ∃ c o y, X.cl.lookup x = some c ∧ (c, o) ∈ D.news ∧ o.data = .cell (some y) ∧ VR X.base D.ad D.news v y := by
  rcases r v hv with ⟨q, _⟩ | ⟨_, h⟩
  · rw [hx] at q; exact nomatch q
  · exact h
noncomputable def wNames : List (Str × NameKind) := [((".0" : Str), .local), (("sign" : Str), .local), (("roles" : Str), .free), (("wanted" : Str), .free)]
end
end Mini
namespace Mini
open PySem PySem.W PySem.Calls PyProof.Rows PyProof.Rows.LCg PyProof.Rows.LCt
noncomputable def anys (ext : List (Addr × Obj)) : List LO := ext.map fun p => .any p.2
section
variable {P : Pg} {fm : Fm} {X : Fx} {D : Dy} {n : Nat}
theorem Rp.hold {loc : List (Str × V)} {hp : List LO} {h : Heap} {ext : List (Addr × Obj)} (r : Rp P fm X D ⟨loc, hp⟩ h) (N : News X.h₀ X.L h (ext ++ D.news)) (nd : ((ext ++ D.news).map (·.1)).Nodup) :
    Rp P fm X ⟨D.m, ext ++ D.news, D.ad ++ ext.map fun p => (p.1, p.1)⟩ ⟨loc, hp ++ anys ext⟩ h ∧ Gr X D ⟨D.m, ext ++ D.news, D.ad ++ ext.map fun p => (p.1, p.1)⟩ := by
  have g : Gr X D ⟨D.m, ext ++ D.news, D.ad ++ ext.map fun p => (p.1, p.1)⟩ := ⟨fun i p e => by
    have hi := (List.getElem?_eq_some_iff.mp e).1
    show (D.ad ++ _)[i]? = _
    rw [List.getElem?_append_left hi]; exact e, fun _ _ hm _ => List.mem_append_right _ hm⟩
  have nd' := nd
  rw [List.map_append, List.nodup_append] at nd'
  refine ⟨⟨r.F, N, nd, ?_, ?_, fun x v e => (r.loc x v e).mono g fun _ _ _ hm _ => List.mem_append_right _ hm, fun x hx => ?_, r.inj, fun i o e => ?_⟩, g⟩
  · show (D.ad ++ _).length = (hp ++ anys ext).length
    unfold anys
    rw [List.length_append, List.length_append, List.length_map, List.length_map, r.len]
  · show ((D.ad ++ _).map (·.2)).Nodup
    rw [List.map_append, List.map_map, List.nodup_append]
    refine ⟨r.dis, nd'.1, fun a ha b hb e => ?_⟩
    obtain ⟨p, hp, rfl⟩ := List.mem_map.mp ha
    obtain ⟨q, hq, rfl⟩ := List.mem_map.mp hb
    refine r.fresh (a := q.1) (fun z hz e' => ?_) p hp e
    exact nd'.2.2 q.1 (List.mem_map_of_mem (f := (·.1)) hq) z.1 (List.mem_map_of_mem (f := (·.1)) hz) e'.symm
  · obtain ⟨c, o, v₀, hc, hm, hd⟩ := r.cel x hx; exact ⟨c, o, v₀, hc, List.mem_append_right _ hm, hd⟩
  · have e : (hp ++ anys ext)[i]? = some o := e
    rcases Nat.lt_or_ge i hp.length with hi | hi
    · rw [List.getElem?_append_left hi] at e
      obtain ⟨q, hq, hor⟩ := r.hp i o e
      exact ⟨q, g.ad _ _ hq, hor.mono g fun _ _ hm _ => List.mem_append_right _ hm⟩
    · rw [List.getElem?_append_right hi] at e
      unfold anys at e
      rw [List.getElem?_map] at e
      obtain ⟨q, hq, rfl⟩ := Option.map_eq_some_iff.mp e
      refine ⟨(q.1, q.1), ?_, rfl, List.mem_append_left _ (List.mem_of_getElem? hq)⟩
      show (D.ad ++ _)[i]? = _
      have hi' : D.ad.length ≤ i := by rw [r.len]; exact hi
      rw [List.getElem?_append_right hi', r.len, List.getElem?_map]
      show Option.map _ ext[i - hp.length]? = _
      rw [hq]; rfl
theorem Rp.drop1 {loc : List (Str × V)} {hp : List LO} {h : Heap} {p : Addr × Obj} {D₂ : Dy} (r : Rp P fm X D₂ ⟨loc, hp ++ [.any p.2]⟩ h) (a : D₂.ad[hp.length]? = some (p.1, p.1)) (mv : Moves p.2) (b1 : lobs hp.length hp = true) (b2 : vbs hp.length (loc.map (·.2)) = true) :
    p ∈ D₂.news ∧ ∃ D', Rp P fm X D' ⟨loc, hp⟩ h ∧ (∀ i q, i < hp.length → D₂.ad[i]? = some q → D'.ad[i]? = some q) ∧ (∀ a o, (a, o) ∈ D₂.news → (Fixd o ∨ ((∃ v, o.data = .cell v) ∧ ∀ x, X.cl.lookup x ≠ some a)) → (a, o) ∈ D'.news) ∧ D'.m = D₂.m ∧ ∀ q ∈ D'.news, q ∈ D₂.news ∧ q.1 ≠ p.1 := by
  have hm : p ∈ D₂.news := by
    obtain ⟨q, hq, _, hm⟩ := r.hp hp.length _ (by show (hp ++ [LO.any p.2])[hp.length]? = some (.any p.2); rw [List.getElem?_append_right (Nat.le_refl _), Nat.sub_self]; rfl)
    rw [a] at hq
    cases hq
    exact hm
  obtain ⟨D3, r3, g3, em, k3⟩ := Rp.lost (σ := ⟨loc, hp⟩) r a hm mv ⟨rfl, b2, b1⟩ (h' := h) (fun b x _ e => e)
  exact ⟨hm, cutD hp.length D3, r3, fun i q hi e => take_get (g3.ad i q e) hi, g3.nw, em, k3⟩
theorem Rp.drop3 {loc : List (Str × V)} {hp : List LO} {h : Heap} {p1 p2 p3 : Addr × Obj} {D₂ : Dy} (r : Rp P fm X D₂ ⟨loc, hp ++ [.any p1.2, .any p2.2, .any p3.2]⟩ h) (a1 : D₂.ad[hp.length]? = some (p1.1, p1.1)) (a2 : D₂.ad[hp.length + 1]? = some (p2.1, p2.1)) (a3 : D₂.ad[hp.length + 2]? = some (p3.1, p3.1))
    (m1 : Moves p1.2) (m2 : Moves p2.2) (m3 : Moves p3.2) (hlow : ∀ i, i < 3 → lobs (hp.length + i) hp = true) (hloc : ∀ i, i < 3 → vbs (hp.length + i) (loc.map (·.2)) = true) {D : Dy} (g : Gr X D D₂) (hD : D.ad.length ≤ hp.length) :
    (p1 ∈ D₂.news ∧ p2 ∈ D₂.news ∧ p3 ∈ D₂.news) ∧ ∃ D', Rp P fm X D' ⟨loc, hp⟩ h ∧ Gr X D D' ∧ D'.m = D₂.m ∧ (∀ q ∈ D'.news, q.1 ≠ p1.1 ∧ q.1 ≠ p2.1 ∧ q.1 ≠ p3.1) ∧ ∀ i q, i < hp.length → D₂.ad[i]? = some q → D'.ad[i]? = some q := by
  have la : ∀ (k : Nat) (l m : List LO), lobs k l = true → lobs k m = true → lobs k (l ++ m) = true := fun k l m => by
    induction l with
    | nil => exact fun _ h => h
    | cons a l ih =>
      intro h h'
      obtain ⟨x, y⟩ := Bool.and_eq_true_iff.mp (show (lob k a && lobs k l) = true from h)
      show (lob k a && lobs k (l ++ m)) = true
      rw [x, ih y h']; rfl
  have l2 : (hp ++ [LO.any p1.2, .any p2.2]).length = hp.length + 2 := by rw [List.length_append]; rfl
  have l1 : (hp ++ [LO.any p1.2]).length = hp.length + 1 := by rw [List.length_append]; rfl
  have r3 : Rp P fm X D₂ ⟨loc, (hp ++ [.any p1.2, .any p2.2]) ++ [.any p3.2]⟩ h := by rw [List.append_assoc]; exact r
  obtain ⟨n3, E3, s3, b3, c3, d3, e3⟩ := r3.drop1 (p := p3) (by rw [l2]; exact a3) m3 (by rw [l2]; exact la _ _ _ (hlow 2 (by decide)) rfl) (by rw [l2]; exact hloc 2 (by decide))
  rw [l2] at b3
  have r2 : Rp P fm X E3 ⟨loc, (hp ++ [.any p1.2]) ++ [.any p2.2]⟩ h := by rw [List.append_assoc]; exact s3
  obtain ⟨n2, E2, s2, b2, c2, d2, e2⟩ := r2.drop1 (p := p2) (by rw [l1]; exact b3 _ _ (by omega) a2) m2 (by rw [l1]; exact la _ _ _ (hlow 1 (by decide)) rfl) (by rw [l1]; exact hloc 1 (by decide))
  rw [l1] at b2
  obtain ⟨n1, E1, s1, b1, c1, d1, e1⟩ := s2.drop1 (p := p1) (b2 _ _ (by omega) (b3 _ _ (by omega) a1)) m1 (hlow 0 (by decide)) (hloc 0 (by decide))
  refine ⟨⟨(e3 _ (e2 _ n1).1).1, (e3 _ n2).1, n3⟩, E1, s1, ⟨fun i q e => ?_, fun a o hm hc => c1 a o (c2 a o (c3 a o (g.nw a o hm hc) hc) hc) hc⟩, d1.trans (d2.trans d3), fun q hq => ?_, fun i q hi e => b1 i q hi (b2 i q (by omega) (b3 i q (by omega) e))⟩
  · have hi := (List.getElem?_eq_some_iff.mp e).1
    exact b1 i q (by omega) (b2 i q (by omega) (b3 i q (by omega) (g.ad i q e)))
  · obtain ⟨x1, y1⟩ := e1 q hq
    obtain ⟨x2, y2⟩ := e2 q x1
    exact ⟨y1, y2, (e3 q x2).2⟩
theorem call_keep (c : Cx P fm n X) {loc : List (Str × V)} {hp hp₁ : List LO} {s : Shared} {p1 p2 p3 : Addr × Obj} (r : Rp P fm X D ⟨loc, hp⟩ s.heap) (N : News X.h₀ X.L s.heap ([p1, p2, p3] ++ D.news)) (nd : (([p1, p2, p3] ++ D.news).map (·.1)).Nodup)
    (m1 : Moves p1.2) (m2 : Moves p2.2) (m3 : Moves p3.2) {f : Addr} {args : List V} {xs : List Value} (hx : VsRel X args D xs) {v : V} (CC : CallC P n fm.hand f args [] (hp ++ [.any p1.2, .any p2.2, .any p3.2]) (.inl v) (hp₁ ++ [.any p1.2, .any p2.2, .any p3.2])) (hlen : hp₁.length = hp.length)
    (hlow : ∀ i, i < 3 → lobs (hp.length + i) hp₁ = true) (hloc : ∀ i, i < 3 → vbs (hp.length + i) (loc.map (·.2)) = true)
    {Q : Value → Shared → Prop} {E : Value → Shared → Prop} (go : ∀ D' s' y, Rp P fm X D' ⟨loc, hp₁⟩ s'.heap → Gr X D D' → D'.m = D.m → (∀ q ∈ D'.news, q.1 ≠ p1.1 ∧ q.1 ≠ p2.1 ∧ q.1 ≠ p3.1) → s'.heap.get? p1.1 = some p1.2 → s'.heap.get? p2.1 = some p2.2 → s'.heap.get? p3.1 = some p3.2 → (∃ ad news, VR X.base ad news v y) → Keep s s' → Q y s') : wpAny (model P.prog P.w) X.A (call (.ref f) xs) Q E s := by
  obtain ⟨r₁, g₁⟩ := r.hold N nd
  have A := CC.out fm X _ loc xs [] rfl c (rels_mono hx g₁) .nil
  refine wpAny_call (A (fun _ q => nomatch q) s r₁ _ fun D₂ s₂ fl r₂ g₂ q₂ k₂ => ?_)
  obtain ⟨⟨y, rfl, hy⟩, em⟩ := q₂
  have hl : D.ad.length = hp.length := r.len
  have ha : ∀ i (p : Addr × Obj), [p1, p2, p3][i]? = some p → D₂.ad[hp₁.length + i]? = some (p.1, p.1) := fun i p e => by
    refine g₂.ad _ _ ?_
    show (D.ad ++ [p1, p2, p3].map fun p => (p.1, p.1))[hp₁.length + i]? = _
    rw [List.getElem?_append_right (by rw [hl, hlen]; exact Nat.le_add_right _ _), hl, hlen, Nat.add_sub_cancel_left, List.getElem?_map, e]; rfl
  obtain ⟨⟨n1, n2, n3⟩, D', r', g', em', off, _⟩ := Rp.drop3 (D := D) r₂ (ha 0 p1 rfl) (ha 1 p2 rfl) (ha 2 p3 rfl) m1 m2 m3 (by rw [hlen]; exact hlow) (by rw [hlen]; exact hloc) (g₁.trans g₂) (by rw [hl, hlen]; exact Nat.le_refl _)
  exact go D' s₂ y r' g' (em'.trans em) off (r₂.N _ n1).1 (r₂.N _ n2).1 (r₂.N _ n3).1 ⟨_, _, hy⟩ k₂
end
end Mini
namespace Mini
open PySem PySem.W PySem.Calls PyProof.Rows PyProof.Rows.LCg PyProof.Rows.LCt
noncomputable def flatV : V → Bool
  | .none => true
  | .str _ => true
  | _ => false
theorem flat_vr {v : V} {y : Value} {base : Heap} {ad ad' : List (Addr × Addr)} {news news' : List (Addr × Obj)} (h : flatV v = true) (hv : VR base ad news v y) : VR base ad' news' v y := by
  cases hv with
  | none => exact .none
  | str => exact .str
  | _ => cases h
inductive Calls5 (P : Pg) (n : Nat) (hand : Bool) (name : Str) (j : Nat) : Nat → List LO → List V → List LO → Prop
  | nil {hp} : Calls5 P n hand name j 0 hp [] hp
  | cons {k hp hp₁ hp' C es f v us} : hp[j]? = some (.inst C es) → methFn P C es name = some f → (∀ a b c, CallC P n hand f [.obj j] [] (hp ++ [.any a, .any b, .any c]) (.inl v) (hp₁ ++ [.any a, .any b, .any c])) → hp₁.length = hp.length → (∀ i, i < 3 → lobs (hp.length + i) hp₁ = true) → flatV v = true →
      Calls5 P n hand name j k hp₁ us hp' → Calls5 P n hand name j (k + 1) hp (v :: us) hp'
section
variable {M : Model} {A : Around} {E : Value → Shared → Prop} {s : Shared}
theorem methodCall_wp {env : Env} {o : Expr} {name : Str} {apos pos : Pos} {x g : Value} {first : List Value} {Q : Value → Shared → Prop} (hp : (apos.endLine == pos.line) = true)
    (hg : ∀ (pl : Sem Bool) (Q' : Value × List Value → Shared → Prop), Q' (g, first) s → wpAny M A (getMethod x name pl) Q' E s)
    (h : wpAny M A (callWith pos g first (backTo pos (starEach [] env)) []) Q E s) : wpAny M A (methodCall o name apos pos env x 0 (backTo pos (starEach [] env)) (backToKw pos (keywordEach [] env))) Q E s := by
  unfold methodCall
  rw [form_true (env := env) (pos := pos) (args := []) (kws := []) rfl rfl (by decide)]
  refine wpAny_bind (wpAny_holding ?_)
  unfold calleeOf
  simp only [if_true]
  refine hg _ _ ?_
  unfold methodCallPos
  dsimp only
  rw [hp]
  exact wpAny_bind (wpAny_pure h)
end
section
variable {P : Pg} {fm : Fm} {X : Fx} {D : Dy} {σ : St} {n : Nat} {a b : Str}
noncomputable def tNames (a b : Str) : List (Str × NameKind) := [((".0" : Str), .local), (a, .local), (b, .free)]
theorem t_clos {env : Env} {c1 : Addr} {sc : Scope} (hn : sc.names = tNames a b) (e1 : env.cells.lookup b = some c1) : closureFor sc env = pure [(b, c1)] := by
  have f1 : cellOf env b = pure c1 := by unfold cellOf; rw [e1]
  unfold closureFor
  rw [hn]
  unfold tNames
  simp only [List.forIn_cons, List.forIn_nil, show (NameKind.local == NameKind.free) = false from rfl, show (NameKind.free == NameKind.free) = true from rfl, f1]
  rfl
theorem t_relabel {env : Env} {sc : Scope} (hn : sc.names = tNames a b) (hk : env.scope.kind = .function) (k1 : env.kindOf b = some .cell) : (relabel sc env).names = [((".0" : Str), .local), (a, .local), (b, .cell)] := by
  unfold relabel
  show sc.names.map _ = _
  rw [hn]
  unfold tNames
  simp only [List.map_cons, List.map_nil, hk, k1]
  rfl
theorem t_plain {sc : Scope} (hn : sc.names = tNames a b) : ∀ y ∈ sc.names, y.2 ≠ .cell := fun y hy => by
  rw [hn] at hy
  unfold tNames at hy
  rcases List.mem_cons.mp hy with rfl | hy
  · exact nofun
  rcases List.mem_cons.mp hy with rfl | hy
  · exact nofun
  rw [List.mem_singleton.mp hy]; exact nofun
theorem t_loc {sc : Scope} (hn : sc.names = tNames a b) (ha : (a == (".0" : Str)) = false) : sc.names.lookup a = some .local := by
  rw [hn]
  unfold tNames
  rw [List.lookup_cons, ha, List.lookup_cons, beq_self_eq_true]
theorem t_locs {sc : Scope} (hn : sc.names = tNames a b) (ha : (a == (".0" : Str)) = false) : ∀ x ∈ sc.names, x.2 = .local → sc.names.lookup x.1 = some .local := fun x hx hl => by
  have q := t_loc hn ha
  rw [hn] at hx q ⊢
  unfold tNames at hx q ⊢
  rcases List.mem_cons.mp hx with rfl | hx
  · rfl
  rcases List.mem_cons.mp hx with rfl | hx
  · exact q
  rw [List.mem_singleton.mp hx] at hl
  exact nomatch hl
theorem dict_moves {o : Obj} {m : Str → Option Value} (h : NsObj o m) : Moves o := by
  obtain ⟨es, ep, hd, _⟩ := h
  refine ⟨fun q => ?_, fun v q => ?_, fun q => ?_⟩
  · rcases q.2 with ⟨_, _, q⟩ | ⟨_, q⟩ <;> rw [hd] at q <;> cases q
  · rw [hd] at q; cases q
  · rw [hd] at q; cases q
noncomputable def rIter (m i : Nat) : Obj := { cls := .type "range_iterator", dict := none, data := .fields #[rawInt (0 + (i : Nat) * 1), rawInt ((m : Int) - (i : Nat)), rawInt 1], slots := #[] }
theorem rIter_moves (m i : Nat) : Moves (rIter m i) := ⟨notFixd (T := "range_iterator") rfl (by decide), (fun v q => nomatch q), (fun q => nomatch q)⟩
theorem lsto_moves (ys : List Value) : Moves (lst ys) := lst_moves _ _
theorem nd_three {p1 p2 p3 : Addr × Obj} {news : List (Addr × Obj)} (nd : (news.map (·.1)).Nodup) (off : ∀ q ∈ news, q.1 ≠ p1.1 ∧ q.1 ≠ p2.1 ∧ q.1 ≠ p3.1) (h1 : p1.1 ≠ p2.1) (h2 : p1.1 ≠ p3.1) (h3 : p2.1 ≠ p3.1) : (([p1, p2, p3] ++ news).map (·.1)).Nodup := by
  have no : ∀ k, (∀ q ∈ news, q.1 ≠ k) → k ∉ news.map (·.1) := fun k h hm => by
    obtain ⟨q, hq, e⟩ := List.mem_map.mp hm
    exact h q hq e
  refine List.nodup_cons.mpr ⟨fun hm => ?_, List.nodup_cons.mpr ⟨fun hm => ?_, List.nodup_cons.mpr ⟨no _ fun q hq => (off q hq).2.2, nd⟩⟩⟩
  · rcases List.mem_cons.mp hm with e | hm
    · exact h1 e
    rcases List.mem_cons.mp hm with e | hm
    · exact h2 e
    exact no _ (fun q hq => (off q hq).1) hm
  · rcases List.mem_cons.mp hm with e | hm
    · exact h3 e
    exact no _ (fun q hq => (off q hq).2.1) hm
theorem comp_open {sc : Scope} {cl : List (Str × Addr)} {s₂ : Shared} {E : Value → Shared → Prop} {G : Value → Env → Shared → Prop} (rr : Rp P fm X D σ s₂.heap) (hc : ∀ y ∈ sc.names, y.2 ≠ .cell) (hk : sc.kind = .function)
    (h : ∀ (Dl C : Addr) (h₁ : Heap) (tk : Tok) m, Rp P fm X D σ h₁ → (∀ q o, s₂.heap.get? q = some o → h₁.get? q = some o) → h₁.get? Dl = some (lst []) → h₁.Ns C m → X.h₀.get? Dl = none → X.h₀.get? C = none → Dl ≠ X.L → C ≠ X.L → Dl ≠ C → (∀ q, q < s₂.heap.objs.size → q ≠ C ∧ q ≠ Dl) →
      G (.ref Dl) (newEnv sc C (envAt fm X).globals cl (envAt fm X).qual none .none (some (envAt fm X)) builtinsNs) { s₂ with heap := h₁, toks := tk }) :
    wpAny (model P.prog P.w) X.A (newList []) (fun acc s₃ => wpAny (model P.prog P.w) X.A (newFunctionEnv sc (envAt fm X).globals cl [] (envAt fm X).qual none .none (some (envAt fm X))) (G acc) E s₃) E s₂ := by
  refine wpAny_newObj_type (wpAny_newFunctionEnv hc (fun y hy => nomatch hy) (fun h₁ hns₁ hsb₁ => ?_) hk)
  have up : ∀ q, q < s₂.heap.objs.size → q ≠ s₂.heap.objs.size + 1 ∧ q ≠ s₂.heap.objs.size := fun q hq => ⟨Nat.ne_of_lt (Nat.lt_succ_of_lt hq), Nat.ne_of_lt hq⟩
  have hCs : (s₂.heap.push { cls := .type "list", dict := none, data := .seq ([] : List Value).toArray }).objs.size = s₂.heap.objs.size + 1 := Heap.size_push ..
  have old : ∀ q o, s₂.heap.get? q = some o → h₁.get? q = some o := fun q o e => hsb₁.extBut q o (by rw [hCs]; exact (up q (Heap.lt_size e)).1) (Heap.get?_push_of_some _ (Heap.get?_push_of_some _ e))
  have fresh₀ : ∀ q, s₂.heap.objs.size ≤ q → X.h₀.get? q = none := fun q hq => by
    cases e : X.h₀.get? q with
    | none => rfl
    | some o' => exact absurd (Heap.lt_size (rr.F.keep q o' e)) (Nat.not_lt.mpr hq)
  have hL := up _ rr.F.ns.lt
  have hacc : h₁.get? s₂.heap.objs.size = some (lst []) := hsb₁.extBut _ _ (by rw [hCs]; exact Nat.ne_of_lt (Nat.lt_succ_self _)) (Heap.get?_push_of_some _ (Heap.get?_push_size _ rfl))
  have G' := h s₂.heap.objs.size (s₂.heap.objs.size + 1) h₁ s₂.toks _ (rr.other (rr.F.keeps old) fun q hq => ⟨old _ _ (rr.N q hq).1, (rr.N q hq).2⟩) old hacc (by rw [← hCs]; exact hns₁) (fresh₀ _ (Nat.le_refl _)) (fresh₀ _ (Nat.le_succ _)) (Ne.symm hL.2) (Ne.symm hL.1) (Nat.ne_of_lt (Nat.lt_succ_self _)) up
  rw [← hCs] at G'
  exact G'
inductive CallsI (P : Pg) (fm : Fm) (X : Fx) (n : Nat) (D : Dy) (loc : List (Str × V)) (l : Nat) (hp' : List LO) (us : List V) (name : Str) (j m : Nat) (I C Dl : Addr) (s₂ : Shared) : Nat → Shared → Prop
  | mk {Dk hpk us₁ us₂ ys i m' s' r} : Keep s₂ s' → i + r = m → us = us₁ ++ us₂ → ys.length = i → VsRel X us₁ Dk ys → Calls5 P n fm.hand name j r hpk us₂ hp' → Rp P fm X Dk ⟨loc, hpk⟩ s'.heap → Gr X D Dk → hpk.length = l →
      s'.heap.get? I = some (rIter m i) → s'.heap.Ns C m' → s'.heap.get? Dl = some (lst ys) → (∀ q ∈ Dk.news, q.1 ≠ I ∧ q.1 ≠ C ∧ q.1 ≠ Dl) → CallsI P fm X n D loc l hp' us name j m I C Dl s₂ r s'
theorem calls_turn {j : Nat} {C c1 : Addr} {name : Str} {p1 p2 p3 : Pos} {sc : Scope} {loc : List (Str × V)} {hp hp₁ : List LO} {u : V} {s : Shared} {pI pD : Addr × Obj} {oC : Obj} {m₂ : Str → Option Value} {Cc f : Addr} {es : List (Str × V)} {Q : Value → Shared → Prop} {E : Value → Shared → Prop} (c : Cx P fm n X) (hk : sc.kind = .function) (kop : (compEnvC sc [(b, c1)] C (envAt fm X)).kindOf b = some .cell) (hbd : (b == ("__debug__" : Str)) = false)
    (k1 : fm.scope.names.lookup b = some .cell) (l1 : loc.lookup b = some (.obj j)) (hc1 : X.cl.lookup b = some c1) (hpos : (p2.endLine == p3.line) = true)
    (hloc : ∀ i, i < 3 → vbs (hp.length + i) (loc.map (·.2)) = true) (hj : hp[j]? = some (.inst Cc es)) (hmf : methFn P Cc es name = some f) (hcall : ∀ a b c, CallC P n fm.hand f [.obj j] [] (hp ++ [.any a, .any b, .any c]) (.inl u) (hp₁ ++ [.any a, .any b, .any c])) (hl₁ : hp₁.length = hp.length) (hlow : ∀ i, i < 3 → lobs (hp.length + i) hp₁ = true)
    (r₃ : Rp P fm X D ⟨loc, hp⟩ s.heap) (N : News X.h₀ X.L s.heap ([pI, (C, oC), pD] ++ D.news)) (nd : (([pI, (C, oC), pD] ++ D.news).map (·.1)).Nodup) (mI : Moves pI.2) (hoC : NsObj oC m₂) (mD : Moves pD.2)
    (go : ∀ D' s' y, Rp P fm X D' ⟨loc, hp₁⟩ s'.heap → Gr X D D' → (∀ q ∈ D'.news, q.1 ≠ pI.1 ∧ q.1 ≠ C ∧ q.1 ≠ pD.1) → s'.heap.get? pI.1 = some pI.2 → s'.heap.get? C = some oC → s'.heap.get? pD.1 = some pD.2 → (∃ ad news, VR X.base ad news u y) → Keep s s' → Q y s') :
    wpAny (model P.prog P.w) X.A (eval (.Call (.Attribute (.Name b p1) name p2) [] [] p3) (compEnvC sc [(b, c1)] C (envAt fm X))) Q E s := by
  obtain ⟨c2, o1, y1, e1, m1, d1, v1⟩ := cell_at (fun v => r₃.loc _ v) k1 l1
  rw [hc1] at e1
  cases e1
  obtain ⟨ea, cc, sl, ds, kk, e, In, hd, _⟩ := inst_at r₃ v1 hj
  obtain ⟨hg, hl, hfi, hfn, hkp⟩ := methFn_is hmf
  rw [arm_eval_Call, base_plain rfl]
  refine wpAny_bind (wpAny_Name (wpAny_loadName_cell hk kop (show List.lookup b [(b, c1)] = some c1 by rw [List.lookup_cons, beq_self_eq_true]) ⟨o1, (r₃.N _ m1).1, d1⟩ ?_) hbd)
  refine wpAny_bind (wpAny_standAt ?_)
  subst e
  refine methodCall_wp (g := .ref f) (first := [.ref ea]) hpos (fun pl Q' hQ' => method_inst r₃.F c.kin In hg hfi hfn (hd.getL_none hl) hQ') ?_
  refine callWith_K0 (fun q o e => r₃.F.keep q o (c.kin q o e)) hkp ?_
  exact call_keep c r₃ N nd mI (dict_moves hoC) mD (.cons v1 .nil) (hcall _ _ _) hl₁ hlow hloc fun D' s' y r' g' _ off a1 a2 a3 hy kk => go D' s' y r' g' off a1 a2 a3 hy kk
theorem calls_block {m j : Nat} {I c1 : Addr} {name : Str} {it : Expr} {px p1 p2 p3 pos : Pos} {sc : Scope} {loc : List (Str × V)} {hp hp' : List LO} {us : List V} {s₂ : Shared} {E : Value → Shared → Prop} {RR : Value → Addr → Result → Shared → Prop} (c : Cx P fm n X) (hk : sc.kind = .function) (hn : sc.names = tNames a b) (ha : (a == (".0" : Str)) = false) (hb : (b == (".0" : Str)) = false) (hba : (b == a) = false) (hbd : (b == ("__debug__" : Str)) = false) (hf : fm.hand = false)
    (k1 : fm.scope.names.lookup b = some .cell) (l1 : loc.lookup b = some (.obj j)) (hc1 : X.cl.lookup b = some c1) (hm : m ≤ 1000000) (hpos : (p2.endLine == p3.line) = true)
    (hloc : ∀ i, i < 3 → vbs (hp.length + i) (loc.map (·.2)) = true) (C5 : Calls5 P n fm.hand name j m hp us hp')
    (rr : Rp P fm X D ⟨loc, hp⟩ s₂.heap) (hI : s₂.heap.get? I = some (rIter m 0)) (offI : ∀ q ∈ D.news, q.1 ≠ I) (hIL : X.L ≠ I) (hI₀ : X.h₀.get? I = none)
    (hRR : ∀ (Dl C : Addr) (s' : Shared) D' m' ys, Rp P fm X D' ⟨loc, hp'⟩ s'.heap → Gr X D D' → Keep s₂ s' → s'.heap.get? Dl = some (lst ys) → VsRel X us D' ys → (∀ q ∈ D'.news, q.1 ≠ C ∧ q.1 ≠ Dl) → s'.heap.Ns C m' → X.h₀.get? C = none → X.h₀.get? Dl = none → C ≠ X.L → Dl ≠ X.L → C ≠ Dl → RR (.ref Dl) C (.ok .next) s') :
    wpAny (model P.prog P.w) X.A (newList []) (fun acc s₃ => wpAny (model P.prog P.w) X.A (newFunctionEnv sc (envAt fm X).globals [(b, c1)] [] (envAt fm X).qual none .none (some (envAt fm X))) (fun cenv s₄ =>
      codeAny (model P.prog P.w) X.A (.compStart (.ListComp (.Call (.Attribute (.Name b p1) name p2) [] [] p3) [⟨.Name a px, it, [], 0⟩] sc pos) 0 (.ref I) acc { cenv with scope := relabel sc (envAt fm X) }) (RR acc cenv.locals) s₄) E s₃) E s₂ := by
  have W := Walks.range (prog := P.prog) (w := P.w) (c.hh hf) I 0 1 m
  refine comp_open rr (t_plain hn) hk fun Dl C h₁ tk m₁ r₁ old hacc hns₁ hD₀ hC₀ hDL hCL hDC up => ?_
  have hCI := Ne.symm (up I (Heap.lt_size hI)).1
  have hDI := Ne.symm (up I (Heap.lt_size hI)).2
  have kop : (compEnvC sc [(b, c1)] C (envAt fm X)).kindOf b = some .cell := by
    show (relabel sc (envAt fm X)).names.lookup b = _
    rw [t_relabel (env := envAt fm X) hn c.hk k1, List.lookup_cons, hb, List.lookup_cons, hba, List.lookup_cons, beq_self_eq_true]
  have loop : codeAny (model P.prog P.w) X.A (.compLoop (.ListComp (.Call (.Attribute (.Name b p1) name p2) [] [] p3) [⟨.Name a px, it, [], 0⟩] sc pos) 0 (.ref I) (.ref Dl) (compEnvC sc [(b, c1)] C (envAt fm X))) (RR (.ref Dl) C) { s₂ with heap := h₁, toks := tk } := by
    refine codeAny_compLoop_tests (CallsI P fm X n D loc hp.length hp' us name j m I C Dl s₂) ?_ m
      (.mk (us₁ := []) ⟨rfl, rfl⟩ (Nat.zero_add m) rfl rfl .nil C5 r₁ (Gr.refl X D) rfl (old _ _ hI) hns₁ hacc fun q hq => ⟨offI q hq, (up _ (fresh_lt rr q hq)).1, (up _ (fresh_lt rr q hq)).2⟩)
    rintro r s' ⟨kp, hi, hus, hyl, hv, CC, rk, gk, hpl, hIk, hCk, hDk, offk⟩
    rename_i Dk hpk us₁ us₂ ys i m'
    cases r with
    | succ q =>
      refine W.item i _ _ _ (Nat.lt_of_lt_of_eq (Nat.lt_add_of_pos_right (Nat.succ_pos q)) hi) hIk fun v h₂ tk₂ hPv hst₂ hk₂ => ?_
      refine wpAny_assign_Name (wpAny_storeName_local (lookup_relabel_local (t_loc hn ha)) (hCk.at' fun o e => hk₂ _ o (by rw [List.mem_singleton]; exact hCI) e) (fun h₃ hn₃ hs₃ => ?_) (by show (sc.kind == .class || (sc.kind == .module && _)) = false; rw [hk]; rfl))
      refine wpAny_tests_nil ?_
      rw [if_pos rfl]
      have N₂ : News X.h₀ X.L h₂ Dk.news := news_but rk.N hk₂ fun p hp => (offk p hp).1
      have r₃ := rk.other ((fr_but rk.F hk₂ hIL hI₀).change hs₃ hCL hC₀) fun p hp => ⟨hs₃.extBut _ _ (offk p hp).2.1 (N₂ p hp).1, (N₂ p hp).2⟩
      have hI₃ : h₃.get? I = some (rIter m (i + 1)) := hs₃.extBut _ _ (Ne.symm hCI) hst₂
      have hD₃ : h₃.get? Dl = some (lst ys) := hs₃.extBut _ _ hDC (hk₂ _ _ (by rw [List.mem_singleton]; exact hDI) hDk)
      obtain ⟨oC, hC₃, hoC⟩ := ns_obj hn₃
      cases CC with
      | @cons _ _ hp₁ _ Cc es f u us₃ hj hmf hcall hl₁ hlow hfl hrest =>
      refine calls_turn (pI := (I, rIter m (i + 1))) (pD := (Dl, lst ys)) c hk kop hbd k1 l1 hc1 hpos (by rw [hpl]; exact hloc) hj hmf hcall hl₁ hlow r₃ (fun p hp => ?_) (nd_three r₃.nd offk (Ne.symm hCI) (Ne.symm hDI) (Ne.symm hDC)) (rIter_moves _ _) hoC (lsto_moves _) fun D' s'' y r' g' off pI pC pD hy kk' => ?_
      · rcases List.mem_cons.mp hp with rfl | hp
        · exact ⟨hI₃, Ne.symm hIL, hI₀⟩
        rcases List.mem_cons.mp hp with rfl | hp
        · exact ⟨hC₃, hCL, hC₀⟩
        rcases List.mem_cons.mp hp with rfl | hp
        · exact ⟨hD₃, hDL, hD₀⟩
        exact r₃.N p hp
      · obtain ⟨ad, nws, hy⟩ := hy
        refine append_at (hsz := by show ys.toArray.size ≤ sizeLine; rw [List.size_toArray, hyl]; exact Nat.le_trans (Nat.le_trans (Nat.le_add_right i (q + 1)) (Nat.le_of_eq hi)) (Nat.le_trans hm (by decide))) pD fun h₅ hs₅ hD₅ => ?_
        exact ⟨q, Nat.lt_succ_self q, .mk (us₁ := us₁ ++ [u]) (ys := ys ++ [y]) ⟨kk'.os.trans kp.os, kk'.gens.trans kp.gens⟩ ((Nat.succ_add_eq_add_succ i q).trans hi) (by rw [hus, List.append_assoc]; rfl) (by rw [List.length_append, hyl]; rfl) (VRs.append (rels_mono hv g') (.cons (flat_vr hfl hy) .nil)) hrest
          (r'.other (r'.F.change hs₅ hDL hD₀) fun p hp => ⟨hs₅.extBut _ _ (off p hp).2.2 (r'.N p hp).1, (r'.N p hp).2⟩) (gk.trans g') (hl₁.trans hpl) (hs₅.extBut _ _ (Ne.symm hDI) pI) ((hoC.ns pC).sameBut hs₅ (Ne.symm hDC)) (hD₅.trans (congrArg some (lst_snoc ys y))) off⟩
    | zero =>
      have hi : i = m := hi
      subst hi
      cases CC
      refine W.done _ _ _ hIk fun h₂ tk₂ hk₂ => ?_
      rw [List.append_nil] at hus
      subst hus
      exact hRR Dl C _ Dk _ ys (rk.other (fr_but rk.F hk₂ hIL hI₀) (news_but rk.N hk₂ fun p hp => (offk p hp).1)) gk ⟨kp.os, kp.gens⟩ (hk₂ _ _ (by rw [List.mem_singleton]; exact hDI) hDk) hv (fun q hq => ⟨(offk q hq).2.1, (offk q hq).2.2⟩) (hCk.at' fun o e => hk₂ _ o (by rw [List.mem_singleton]; exact hCI) e) hC₀ hD₀ hCL hDL (Ne.symm hDC)
  exact codeAny_compStart_list loop (W.self 0 _ _ _ (old _ _ hI) loop)
theorem calls_set {y : Str} {py spos : Pos} {j m : Nat} {name : Str} {it : Expr} {px p1 p2 p3 pos : Pos} {sc : Scope} {us : List V} {hp' : List LO} (hk : sc.kind = .function) (hn : sc.names = tNames a b) (ha : (a == (".0" : Str)) = false) (hb : (b == (".0" : Str)) = false) (hba : (b == a) = false) (hbd : (b == ("__debug__" : Str)) = false) (hf : fm.hand = false)
    (k1 : fm.scope.names.lookup b = some .cell) (l1 : σ.loc.lookup b = some (.obj j)) (hit : EvC P n fm it (.rng 0 (m : Int)) σ σ) (hm : m ≤ 1000000) (hpos : (p2.endLine == p3.line) = true)
    (hloc : ∀ i, i < 3 → vbs (σ.hp.length + i) (σ.loc.map (·.2)) = true) (C5 : Calls5 P n fm.hand name j m σ.hp us hp') (hs : ∀ env y, foldedSetIterable it env y = pure y)
    (hy : fm.scope.names.lookup y = some .local) (hsw : ∀ X, swapsWith (.ListComp (.Call (.Attribute (.Name b p1) name p2) [] [] p3) [⟨.Name a px, it, [], 0⟩] sc pos) (some (.Name y py)) spos.line (envAt fm X) = pure true) :
    ExC P n fm [.Assign [.Name y py] (.ListComp (.Call (.Attribute (.Name b p1) name p2) [] [] p3) [⟨.Name a px, it, [], 0⟩] sc pos) spos] σ (.ok .next ⟨putV y (.obj hp'.length) σ.loc, hp' ++ [.list us]⟩ O0 []) := by
  refine ⟨fun X D c _ s rr Q E hQ => ?_⟩
  obtain ⟨c1, o1, y1, e1, m1, d1, v1⟩ := cell_at (fun v => rr.loc _ v) k1 l1
  rw [one_is, exec_Assign_Name_used _ _ _ _ (hsw X)]
  refine wpAny_bind (wpAny_standAt (wpAny_bind ?_))
  show wpAny _ _ (do let _ ← comprehension (.ListComp (.Call (.Attribute (.Name b p1) name p2) [] [] p3) [⟨.Name a px, it, [], 0⟩] sc pos) sc (envAt fm X) _ (newList []) false (eval it (envAt fm X)) (some (assign (.Name y py) (envAt fm X)))) _ _ s
  refine wpAny_bind (wpAny_mono (wpAny_comprehension_free (use := some (assign (.Name y py) (envAt fm X))) (Q := fun _ s' => Q .next s') rfl (hs _) (t_clos (env := envAt fm X) hn e1) hk (t_locs hn ha) (hit.out X D c (fun _ q => nomatch q) s rr _ E fun D₁ s₁ xv r₁ g₁ q₁ k₁' => ?_)) (fun _ s' hq => wpAny_pure (wpAny_pure hq)) fun _ _ e => e)
  cases q₁ with
  | @rng ar _ _ tt u w hm' =>
  refine wpAny_pyIter_range (r₁.N.get hm') (small_one (by omega) (by omega) (by omega) (by omega)) ?_
  have hsz : Builtin.Range.rangeSize 0 (m : Int) 1 = (m : Int) := by rw [rangeSize_one]; split <;> omega
  rw [hsz]
  refine calls_block (RR := fun acc C => compPost (model P.prog P.w) X.A E (some (assign (.Name y py) (envAt fm X))) (fun _ s' => Q .next s') acc C) c hk hn ha hb hba hbd hf k1 l1 e1 hm hpos hloc C5 (r₁.other (r₁.F.push _) fun p hp => ⟨Heap.get?_push_of_some _ (r₁.N p hp).1, (r₁.N p hp).2⟩) ?_ (fun p hp e => absurd (fresh_lt r₁ p hp) (by rw [e]; exact Nat.lt_irrefl _)) (fun e => absurd r₁.F.ns.lt (by rw [e]; exact Nat.lt_irrefl _)) (next_is_new r₁.F) fun Dl C s' D' m' ys r' g' kp hD hv off hC hC₀ hD₀ hCL hDL hCD => ?_
  · refine (Heap.get?_push_size _ rfl).trans (congrArg some ?_)
    unfold rIter
    simp
  · have N' : News X.h₀ X.L s'.heap ((Dl, lst ys) :: D'.news) := fun p hp => by
      rcases List.mem_cons.mp hp with rfl | hp
      · exact ⟨hD, hDL, hD₀⟩
      · exact r'.N p hp
    obtain ⟨r₂, g₂, hv₂⟩ := newObj' r' (lo := .list us) (o := lst ys) (fun p hp => (off p hp).2) r'.F N' fun D'' g'' hm'' => ⟨rfl, ys.toArray, ys.length, hm'', by rw [List.toList_toArray]; exact rels_mono hv g''⟩
    obtain ⟨oC, hoC, hns⟩ := ns_obj hC
    have Nx : News X.h₀ X.L s'.heap ((C, oC) :: (Dl, lst ys) :: D'.news) := fun p hp => by
      rcases List.mem_cons.mp hp with rfl | hp
      · exact ⟨hoC, hCL, hC₀⟩
      · exact N' p hp
    show wpAny _ _ (assign (.Name y py) (envAt fm X) (.ref Dl)) _ _ _
    rw [arm_assign_Name]
    refine wpAny_bind (wpAny_standAt (wpAny_bindName (storeX_L r₂.F Nx (fun h' Fn Nn => ⟨m', hns.ns (Nn (C, oC) (.head _)).1, fun h'' hs'' => ?_⟩) c.hk hy)))
    have N3 : News X.h₀ X.L h'' ((Dl, lst ys) :: D'.news) := fun p hp => by
      refine ⟨hs''.extBut _ _ ?_ (Nn p (.tail _ hp)).1, (Nn p (.tail _ hp)).2⟩
      rcases List.mem_cons.mp hp with rfl | hp
      · exact Ne.symm hCD
      · exact (off p hp).1
    exact hQ _ _ _ (store_rp (h' := h'') r₂ hy hv₂ (Fn.change hs'' hCL hC₀) N3) (((g₁.trans g').trans g₂).trans ⟨fun _ _ e => e, fun _ _ e _ => e⟩) rfl ⟨kp.os.trans k₁'.os, kp.gens.trans k₁'.gens⟩
end
end Mini
namespace Mini
open PySem PySem.W PySem.Calls PyProof.Rows PyProof.Rows.LCg PyProof.Rows.LCt
section
variable {prog : Program} {w : World} {A : Around} {E : Value → Shared → Prop} {s : Shared}
theorem compLoop_pairT {elt iter : Expr} {elts ifs : List Expr} {x1} {tp : Pos} {scope : Scope} {pos : Pos} {it acc : Value} {env : Env} {R : Result → Shared → Prop} (I : Nat → Shared → Prop)
    (turn : ∀ n s, I n s → wpAny (model prog w) A (pyNext it) (fun r s₁ => match r with
      | none => R (.ok .next) s₁
      | some v => wpAny (model prog w) A (letOwnedTupleGo (.Tuple elts x1 tp) it v) (fun _ s₁' => wpAny (model prog w) A (assign (.Tuple elts x1 tp) env v) (fun _ s₂ =>
          wpAny (model prog w) A (forIn ifs true fun c r => if r = true then do let ok ← isTrue c env (eval c env); pure (ForInStep.yield ok) else pure (ForInStep.yield r)) (fun ok s₃ =>
            if ok = true then wpAny (model prog w) A (eval elt env) (fun x s₄ =>
              wpAny (model prog w) A (call (.builtin "list.append") [acc, x]) (fun _ s₅ => ∃ m, m < n ∧ I m s₅) (notedBy (model prog w) A env fun e s' => R (.error e) s') s₄) (notedBy (model prog w) A env fun e s' => R (.error e) s') s₃
            else ∃ m, m < n ∧ I m s₃) (notedBy (model prog w) A env fun e s' => R (.error e) s') s₂)
          (notedBy (model prog w) A env fun e s' => R (.error e) s') s₁') (notedBy (model prog w) A env fun e s' => R (.error e) s') s₁) (notedBy (model prog w) A env fun e s' => R (.error e) s') s)
    (n : Nat) (h : I n s) : codeAny (model prog w) A (.compLoop (.ListComp elt [⟨.Tuple elts x1 tp, iter, ifs, 0⟩] scope pos) 0 it acc env) R s := by
  refine codeAny_loop rfl I (fun n s hI => ?_) n h
  show wpAny _ A ((compTurn (.ListComp elt [⟨.Tuple elts x1 tp, iter, ifs, 0⟩] scope pos) 0 it acc env).onRaise (fun x => do noteFrame x env; theTreesLotGoes x)) _ _ s
  refine wpAny_noted ?_
  rw [compTurn_list]
  refine wpAny_bind (wpAny_standAt (wpAny_bind (wpAny_mono (turn n s hI) (fun r s₁ h₁ => ?_) fun _ _ h' => h')))
  cases r with
  | none => exact wpAny_pure h₁
  | some v =>
    refine wpAny_bind (wpAny_mono h₁ (fun _ s₁' h₁' => wpAny_bind (wpAny_mono h₁' (fun _ s₂ h₂ => wpAny_bind (wpAny_mono h₂ (fun ok s₃ h₃ => ?_) fun _ _ h' => h')) fun _ _ h' => h')) fun _ _ h' => h')
    cases ok with
    | false => exact wpAny_pure ⟨rfl, h₃⟩
    | true => exact wpAny_bind (wpAny_bind (wpAny_mono h₃ (fun x s₄ h₄ => wpAny_bind (wpAny_mono h₄ (fun _ s₅ h₅ => wpAny_pure (wpAny_pure ⟨rfl, h₅⟩)) fun _ _ h' => h')) fun _ _ h' => h'))
end
noncomputable def maskB (mk : Int) (k : Nat) : Bool := (mk.fdiv (2 ^ k)).fmod 2 == 1
noncomputable def selM (mk : Int) (z : Str) (i : Nat) : List V := ((List.range i).filter (maskB mk)).map fun k => V.str ⟨#[(z.cps[k]?).getD 0]⟩
theorem selM_succ (mk : Int) (z : Str) (i : Nat) : selM mk z (i + 1) = if maskB mk i then selM mk z i ++ [.str ⟨#[(z.cps[i]?).getD 0]⟩] else selM mk z i := by
  unfold selM
  rw [List.range_succ, List.filter_append, List.map_append, List.filter_cons, List.filter_nil]
  cases maskB mk i with
  | true => rfl
  | false => exact List.append_nil _
section
variable {P : Pg} {fm : Fm} {X : Fx} {D : Dy} {σ : St} {n : Nat}
noncomputable def mNames : List (Str × NameKind) := [((".0" : Str), .local), (("k" : Str), .local), (("sign" : Str), .local), (("mask" : Str), .free)]
theorem m_clos {env : Env} {c1 : Addr} {sc : Scope} (hn : sc.names = mNames) (e1 : env.cells.lookup ("mask" : Str) = some c1) : closureFor sc env = pure [(("mask" : Str), c1)] := by
  have f1 : cellOf env ("mask" : Str) = pure c1 := by unfold cellOf; rw [e1]
  unfold closureFor
  rw [hn]
  unfold mNames
  simp only [List.forIn_cons, List.forIn_nil, show (NameKind.local == NameKind.free) = false from rfl, show (NameKind.free == NameKind.free) = true from rfl, f1]
  rfl
theorem m_relabel {env : Env} {sc : Scope} (hn : sc.names = mNames) (hk : env.scope.kind = .function) (k1 : env.kindOf ("mask" : Str) = some .cell) : (relabel sc env).names = [((".0" : Str), .local), (("k" : Str), .local), (("sign" : Str), .local), (("mask" : Str), .cell)] := by
  unfold relabel
  show sc.names.map _ = _
  rw [hn]
  unfold mNames
  simp only [List.map_cons, List.map_nil, hk, k1]
  rfl
theorem m_plain {sc : Scope} (hn : sc.names = mNames) : ∀ y ∈ sc.names, y.2 ≠ .cell := fun y hy => by
  rw [hn] at hy
  unfold mNames at hy
  rcases List.mem_cons.mp hy with rfl | hy
  · exact nofun
  rcases List.mem_cons.mp hy with rfl | hy
  · exact nofun
  rcases List.mem_cons.mp hy with rfl | hy
  · exact nofun
  rw [List.mem_singleton.mp hy]; exact nofun
theorem m_locs {sc : Scope} (hn : sc.names = mNames) : ∀ x ∈ sc.names, x.2 = .local → sc.names.lookup x.1 = some .local := fun x hx hl => by
  rw [hn] at hx ⊢
  unfold mNames at hx ⊢
  rcases List.mem_cons.mp hx with rfl | hx
  · rfl
  rcases List.mem_cons.mp hx with rfl | hx
  · rfl
  rcases List.mem_cons.mp hx with rfl | hx
  · rfl
  rw [List.mem_singleton.mp hx] at hl
  exact nomatch hl
noncomputable def maskT (q1 q2 q3 q4 q5 q6 q7 q8 q9 : Pos) (k2 k3 k4 : Nat) : Expr := .Compare (.BinOp (.BinOp (.Name "mask" q1) .FloorDiv (.BinOp (.Constant (.int 2) k2 q2) .Pow (.Name "k" q3) q4) q5) .Mod (.Constant (.int 2) k3 q6) q7) [.Eq] [.Constant (.int 1) k4 q8] q9
theorem mask_test {M : Program} {w : World} {A : Around} {env : Env} {c1 : Addr} {o1 : Obj} {s : Shared} {i : Nat} {t tm : Tok} {mk : Int} {q1 q2 q3 q4 q5 q6 q7 q8 q9 : Pos} {k2 k3 k4 : Nat} {Q : Bool → Shared → Prop} {E : Value → Shared → Prop} (hi : i ≤ 20) (hkind : env.scope.kind = .function) (k1 : env.kindOf ("mask" : Str) = some .cell) (kk : env.kindOf ("k" : Str) = some .local)
    (e1 : env.cells.lookup ("mask" : Str) = some c1) (h1 : s.heap.get? c1 = some o1) (d1 : o1.data = .cell (some (.int mk tm))) {m₂ : Str → Option Value} (hns : s.heap.Ns env.locals m₂) (hm₂ : m₂ "k" = some (.int i t)) (h : ∀ tk, Q (maskB mk i) { s with toks := tk }) :
    wpAny (model M w) A (isTrue (maskT q1 q2 q3 q4 q5 q6 q7 q8 q9 k2 k3 k4) env (eval (maskT q1 q2 q3 q4 q5 q6 q7 q8 q9 k2 k3 k4) env)) Q E s := by
  unfold maskT
  rw [arm_isTrue_Compare, markedEach_of_false [.Eq] [_] _ rfl]
  refine wpAny_bind ?_
  rw [arm_eval_BinOp]
  refine wpAny_bind ?_
  rw [arm_eval_BinOp]
  refine wpAny_bind (wpAny_Name (wpAny_loadName_cell hkind k1 e1 ⟨o1, h1, d1⟩ ?_) (by decide +kernel))
  refine wpAny_bind (wpAny_holding ?_)
  rw [arm_eval_BinOp]
  refine wpAny_bind (wpAny_mkInt ?_)
  refine wpAny_bind (wpAny_holding (wpAny_Name (wpAny_loadName_local hkind kk hns hm₂ ?_) (by decide +kernel)))
  refine wpAny_bind (wpAny_standAt (wpAny_operating (pow_int_small (Int.natCast_nonneg i) (by omega) (by decide) ?_)))
  refine wpAny_bind (wpAny_standAt (wpAny_operating ?_))
  rw [Int.toNat_natCast]
  have hlt : (2 : Nat) ^ i ≤ 2 ^ 20 := Nat.pow_le_pow_right (by decide) hi
  have hz : ((2 : Int) ^ i).natAbs = 2 ^ i := by rw [Int.natAbs_pow]; rfl
  refine PyProof.Rows.floordiv_int (fun q => ?_) ?_ (.inl (PyProof.noPylong_small ?_))
  · have := congrArg Int.natAbs q
    rw [hz] at this
    exact absurd this (Nat.pos_iff_ne_zero.mp (Nat.pow_pos (by decide)))
  · refine wpAny_bind (wpAny_holding (wpAny_mkInt ?_))
    refine wpAny_bind (wpAny_standAt (wpAny_operating (mod_int' (by decide) ?_)))
    show wpAny _ _ (holding [_] (eval (.Constant (.int 1) k4 q8) _) >>= fun rv => standAt q9 >>= fun _ => operate [_, rv] (compareOp .Eq _ rv) >>= fun cc => holding [cc] (truthy cc)) _ _ _
    refine wpAny_bind (wpAny_holding (wpAny_mkInt ?_))
    refine wpAny_bind (wpAny_standAt (wpAny_bind (wpAny_operating (PyProof.Rows.eq_int ?_))))
    exact wpAny_holding (wpAny_truthy_bool (h _))
  · rw [hz]
    exact Nat.lt_of_le_of_lt hlt (by decide)
structure Off2 (X : Fx) (D : Dy) (e it : Addr) : Prop where
  off : ∀ q ∈ D.news, q.1 ∉ [e, it]
  L : X.L ∉ [e, it]
  base : ∀ b o, X.h₀.get? b = some o → b ∉ [e, it]
theorem Off2.rp {e it : Addr} {h h' : Heap} (O : Off2 X D e it) (r : Rp P fm X D σ h) (hk : ∀ b o, b ∉ [e, it] → h.get? b = some o → h'.get? b = some o) : Rp P fm X D σ h' :=
  r.other ⟨r.F.ns.at' fun o g => hk _ o O.L g, fun b o g => hk b o (O.base b o g) (r.F.keep b o g), r.F.above⟩ fun p hp => ⟨hk _ _ (O.off p hp) (r.N p hp).1, (r.N p hp).2⟩
inductive MaskI (P : Pg) (fm : Fm) (X : Fx) (D : Dy) (σ : St) (z : Str) (t : Tok) (mk : Int) (e it C Dl : Addr) (s₂ : Shared) : Nat → Shared → Prop
  | mk {ys i m' s' r old} : Keep s₂ s' → i + r = z.cps.size → ys.length ≤ i → VsRel X (selM mk z i) D ys → Rp P fm X D σ s'.heap → IsEnum s'.heap e it (i : Nat) old → s'.heap.IsStrIter it "str_iterator" z t i → s'.heap.Ns C m' → s'.heap.get? Dl = some (lst ys) → MaskI P fm X D σ z t mk e it C Dl s₂ r s'
theorem mask_block {e it c1 : Addr} {z : Str} {t : Tok} {mk : Int} {iter : Expr} {q0 px py tp pos q1 q2 q3 q4 q5 q6 q7 q8 q9 : Pos} {x1 k2 k3 k4 : Nat} {sc : Scope} {s₂ : Shared} {E : Value → Shared → Prop} {RR : Value → Addr → Result → Shared → Prop} (c : Cx P fm n X) (hk : sc.kind = .function) (hn : sc.names = mNames) (hf : fm.hand = false)
    (k1 : fm.scope.names.lookup ("mask" : Str) = some .cell) (l1 : σ.loc.lookup ("mask" : Str) = some (.int mk)) (hc1 : X.cl.lookup ("mask" : Str) = some c1) (hm : z.cps.size ≤ 20)
    (rr : Rp P fm X D σ s₂.heap) (hE : IsEnum s₂.heap e it 0 .none) (hI : s₂.heap.IsStrIter it "str_iterator" z t 0) (hei : e ≠ it) (O : Off2 X D e it)
    (hRR : ∀ (Dl C : Addr) (s' : Shared) m' ys, Rp P fm X D σ s'.heap → Keep s₂ s' → s'.heap.get? Dl = some (lst ys) → VsRel X (selM mk z z.cps.size) D ys → (∀ q ∈ D.news, q.1 ≠ C ∧ q.1 ≠ Dl) → s'.heap.Ns C m' → X.h₀.get? C = none → X.h₀.get? Dl = none → C ≠ X.L → Dl ≠ X.L → C ≠ Dl → RR (.ref Dl) C (.ok .next) s') :
    wpAny (model P.prog P.w) X.A (newList []) (fun acc s₃ => wpAny (model P.prog P.w) X.A (newFunctionEnv sc (envAt fm X).globals [(("mask" : Str), c1)] [] (envAt fm X).qual none .none (some (envAt fm X))) (fun cenv s₄ =>
      codeAny (model P.prog P.w) X.A (.compStart (.ListComp (.Name "sign" q0) [⟨.Tuple [.Name "k" px, .Name "sign" py] x1 tp, iter, [maskT q1 q2 q3 q4 q5 q6 q7 q8 q9 k2 k3 k4], 0⟩] sc pos) 0 (.ref e) acc { cenv with scope := relabel sc (envAt fm X) }) (RR acc cenv.locals) s₄) E s₃) E s₂ := by
  have hh := c.hh hf
  have W := WalksT.enumerateD (Draws.strWide (prog := P.prog) (w := P.w) (A := X.A.in1) hh it z t) e hei (fun q => hei (List.mem_singleton.mp q)) (List.mem_singleton.mpr rfl)
  refine comp_open rr (m_plain hn) hk fun Dl C h₁ tk m₁ r₁ old hacc hns₁ hD₀ hC₀ hDL hCL hDC up => ?_
  have he := up e (Heap.lt_size hE)
  have hi := up it (by obtain ⟨_, y, _⟩ := hI; exact Heap.lt_size y)
  have hCw : C ∉ [e, it] := fun q => (List.mem_cons.mp q).elim (fun q => he.1 q.symm) fun q => hi.1 (List.mem_singleton.mp q).symm
  have hDw : Dl ∉ [e, it] := fun q => (List.mem_cons.mp q).elim (fun q => he.2 q.symm) fun q => hi.2 (List.mem_singleton.mp q).symm
  have kop : ∀ x, (compEnvC sc [(("mask" : Str), c1)] C (envAt fm X)).kindOf x = List.lookup x [((".0" : Str), NameKind.local), (("k" : Str), .local), (("sign" : Str), .local), (("mask" : Str), .cell)] := fun x => by
    show (relabel sc (envAt fm X)).names.lookup x = _
    rw [m_relabel (env := envAt fm X) hn c.hk k1]
  have hpl : (sc.kind == .class || (sc.kind == .module && C != (envAt fm X).globals)) = false := by rw [hk]; rfl
  have off₁ : ∀ q ∈ D.news, q.1 ≠ C ∧ q.1 ≠ Dl := fun q hq => up _ (fresh_lt rr q hq)
  have loop : codeAny (model P.prog P.w) X.A (.compLoop (.ListComp (.Name "sign" q0) [⟨.Tuple [.Name "k" px, .Name "sign" py] x1 tp, iter, [maskT q1 q2 q3 q4 q5 q6 q7 q8 q9 k2 k3 k4], 0⟩] sc pos) 0 (.ref e) (.ref Dl) (compEnvC sc [(("mask" : Str), c1)] C (envAt fm X))) (RR (.ref Dl) C) { s₂ with heap := h₁, toks := tk } := by
    refine compLoop_pairT (MaskI P fm X D σ z t mk e it C Dl s₂) ?_ z.cps.size (.mk (i := 0) (ys := []) ⟨rfl, rfl⟩ (Nat.zero_add _) (Nat.le_refl _) .nil r₁ (old _ _ hE) (by obtain ⟨o, a, b⟩ := hI; exact ⟨o, old _ _ a, b⟩) hns₁ hacc)
    rintro r s' ⟨kp, hr, hyl, hv, rk, hst, hit, hCk, hDk⟩
    rename_i ys i m' old'
    cases r with
    | succ q =>
      have hlt : i < z.cps.size := Nat.lt_of_lt_of_eq (Nat.lt_add_of_pos_right (Nat.succ_pos q)) hr
      refine W.item i _ _ _ hlt ⟨⟨_, hst⟩, hit⟩ fun T vals h₂ tk₂ hP hT hTv hmid hk₂ => ?_
      obtain ⟨ti, xv, ⟨cp, u, hcp, rfl⟩, rfl⟩ := hP
      refine W.go _ _ _ i T _ _ _ hmid fun h₃ hst₃ hk₃ => ?_
      have hTv' : IsTup h₃ T #[.int i ti, .str ⟨#[cp]⟩ u] := by obtain ⟨o, a, b⟩ := hTv; exact ⟨o, hk₃ _ _ (W.apart _ _ _ hmid) a, b⟩
      refine assign_Tuple_tuple hh hTv' rfl rfl fun h₅ hx₅ => ?_
      have hk₅ : ∀ b o, h₃.get? b = some o → h₅.get? b = some o := fun b o g => hx₅ b o (Nat.ne_of_lt (Heap.lt_size g)) g
      have kk : ∀ b o, b ∉ [e, it] → s'.heap.get? b = some o → h₅.get? b = some o := fun b o hb g => hk₅ b o (hk₃ b o hb (hk₂ b o hb g))
      refine assignInOrder_cons (wpAny_assign_Name (wpAny_storeName_local (by rw [kop]; rfl) (hCk.at' fun o g => kk _ o hCw g) (fun h₆ hn₆ hs₆ => ?_) hpl))
      refine assignInOrder_cons (wpAny_assign_Name (wpAny_storeName_local (by rw [kop]; rfl) hn₆ (fun h₇ hn₇ hs₇ => ?_) hpl))
      refine assignInOrder_nil (wpAny_tests_one ?_)
      have k7 : ∀ b o, b ≠ C → h₅.get? b = some o → h₇.get? b = some o := fun b o hb g => hs₇.extBut b o hb (hs₆.extBut b o hb g)
      have r₅ := O.rp rk kk
      have r₇ : Rp P fm X D σ h₇ := r₅.other ((r₅.F.change hs₆ hCL hC₀).change hs₇ hCL hC₀) fun p hp => ⟨k7 _ _ (off₁ p hp).1 (r₅.N p hp).1, (r₅.N p hp).2⟩
      obtain ⟨⟨w1, w2⟩, w3, w4, w5⟩ := hst₃
      have hE₇ : IsEnum h₇ e it ((i + 1 : Nat)) w1 := k7 _ _ he.1 (hk₅ _ _ w2)
      have hS₇ := k7 _ _ hi.1 (hk₅ _ _ w4)
      have hD₇ : h₇.get? Dl = some (lst ys) := k7 _ _ hDC (kk _ _ hDw hDk)
      obtain ⟨c2, o1, y1, e1, m1, d1, v1⟩ := cell_at (fun v => r₇.loc _ v) k1 l1
      rw [hc1] at e1
      cases e1
      obtain ⟨tm, rfl⟩ := v1.int'
      refine mask_test (i := i) (t := ti) (Nat.le_trans (Nat.le_of_lt hlt) hm) hk (by rw [kop]; rfl) (by rw [kop]; rfl) (show List.lookup _ [(("mask" : Str), c1)] = _ from by rw [List.lookup_cons, beq_self_eq_true]) (r₇.N _ m1).1 d1 hn₇ (by
        show (if ("k" : Str) = ("sign" : Str) then _ else if ("k" : Str) = ("k" : Str) then _ else _) = _
        rw [if_neg (by decide), if_pos rfl]) fun tk => ?_
      have nx := selM_succ mk z i
      rw [hcp] at nx
      have hr' : i + 1 + q = z.cps.size := (Nat.succ_add_eq_add_succ i q).trans hr
      by_cases hb : maskB mk i = true
      · rw [if_pos hb] at nx
        rw [if_pos hb]
        refine wpAny_Name (wpAny_loadName_local hk (by rw [kop]; rfl) hn₇ (show (if ("sign" : Str) = ("sign" : Str) then _ else _) = _ from if_pos rfl) ?_) (by decide +kernel)
        refine append_at (hsz := by show ys.toArray.size ≤ sizeLine; rw [List.size_toArray]; exact Nat.le_trans (Nat.le_trans hyl (Nat.le_trans (Nat.le_of_lt hlt) hm)) (by decide)) hD₇ fun h₈ hs₈ hD₈ => ?_
        refine ⟨q, Nat.lt_succ_self q, .mk (i := i + 1) (ys := ys ++ [.str ⟨#[cp]⟩ u]) ⟨kp.os, kp.gens⟩ hr' (by rw [List.length_append]; exact Nat.succ_le_succ hyl) (by rw [nx]; exact VRs.append hv (.cons .str .nil)) (r₇.other (r₇.F.change hs₈ hDL hD₀) fun p hp => ⟨hs₈.extBut _ _ (off₁ p hp).2 (r₇.N p hp).1, (r₇.N p hp).2⟩) (hs₈.extBut _ _ he.2 hE₇) ⟨w3, hs₈.extBut _ _ hi.2 hS₇, w5⟩ (hn₇.sameBut hs₈ (Ne.symm hDC)) (hD₈.trans (congrArg some (lst_snoc ys _)))⟩
      · rw [if_neg hb] at nx
        rw [if_neg hb]
        exact ⟨q, Nat.lt_succ_self q, .mk (i := i + 1) ⟨kp.os, kp.gens⟩ hr' (Nat.le_succ_of_le hyl) (by rw [nx]; exact hv) r₇ hE₇ ⟨w3, hS₇, w5⟩ hn₇ hD₇⟩
    | zero =>
      have hr : i = z.cps.size := hr
      subst hr
      refine W.done _ _ _ ⟨⟨_, hst⟩, hit⟩ fun h₂ tk₂ hk₂ => ?_
      exact hRR Dl C _ _ ys (O.rp rk hk₂) ⟨kp.os, kp.gens⟩ (hk₂ _ _ hDw hDk) hv off₁ (hCk.at' fun o g => hk₂ _ o hCw g) hC₀ hD₀ hCL hDL (Ne.symm hDC)
  exact codeAny_compStart_list loop (wpAny_pyIter_enum (old _ _ hE) loop)
theorem comp_mask {z : Str} {mk : Int} {qe q0 px py tp pos ip q1 q2 q3 q4 q5 q6 q7 q8 q9 q10 : Pos} {x1 k1' k2 k3 k4 : Nat} {sc : Scope} (hk : sc.kind = .function) (hn : sc.names = mNames) (hf : fm.hand = false)
    (k1 : fm.scope.names.lookup ("mask" : Str) = some .cell) (ke : fm.scope.names.lookup ("enumerate" : Str) = some .globalImplicit) (l1 : σ.loc.lookup ("mask" : Str) = some (.int mk)) (hm : z.cps.size ≤ 20) (hw : z.cps.all (· < 128) = false)
    (hen : nsIn P.K mainGlobals "enumerate" = some none) (hb : bootBuiltins "enumerate" = some (.type "enumerate")) :
    ComC P n fm σ (.ListComp (.Name "sign" q0) [⟨.Tuple [.Name "k" px, .Name "sign" py] x1 tp, .Call (.Name "enumerate" qe) [.Constant (.str z) k1' q10] [] ip, [maskT q1 q2 q3 q4 q5 q6 q7 q8 q9 k2 k3 k4], 0⟩] sc pos) (.obj σ.hp.length) (σ.hp ++ [.list (selM mk z z.cps.size)]) := by
  refine ⟨fun X D c _ s rr Q E hQ => ?_⟩
  obtain ⟨c1, o1, y1, e1, m1, d1, v1⟩ := cell_at (fun v => rr.loc _ v) k1 l1
  rw [eval_ListComp]
  refine wpAny_comprehension_free (use := none) rfl (fun _ => rfl) (m_clos (env := envAt fm X) hn e1) hk (m_locs hn) ?_
  show wpAny _ _ (eval (.Call (.Name "enumerate" qe) [.Constant (.str z) k1' q10] [] ip) (envAt fm X)) _ _ _
  rw [arm_eval_Call_Name']
  have hs : [Expr.Constant (.str z) k1' q10].any starred = false := rfl
  refine wpAny_bind (Name_function_global c.hk ke (loadGlobal_builtin (env := envAt fm X) (c.top.g.keeps rr.F.keep) (mg_none_of c.kin c.top.g hen) (c.top.b.keeps rr.F.keep) ((c.top.builtins "enumerate" (by decide)).trans hb) ?_) (by decide +kernel))
  refine callWith_of (P := fun h => P.K.In h) (by rw [star_no _ ip hs]; rfl) (keeps_machine fun _ e => nomatch e) (evalArgs_of _ (star_no _ ip hs) rfl ?_)
  rw [starEach_cons rfl]
  refine spl_one (wpAny_mkText (wpAny_pure (wpAny_pure ⟨rr.kin c, ?_⟩)))
  refine call_enumerate_str fun h' hE hI hsz hkeep => ?_
  have hty : strIterType z = "str_iterator" := by unfold strIterType; rw [hw]; rfl
  rw [hty] at hI
  refine wpAny_pyIter_enum hE ?_
  refine mask_block (RR := fun acc C => compPost (model P.prog P.w) X.A E none Q acc C) c hk hn hf k1 l1 e1 hm (rr.other (rr.F.keeps hkeep) fun p hp => ⟨hkeep _ _ (rr.N p hp).1, (rr.N p hp).2⟩) hE hI (Nat.succ_ne_self _) ?_ fun Dl C s' m' ys r' kp hD hv off hC hC₀ hD₀ hCL hDL hCD => ?_
  · have wr : ∀ q, q < s.heap.objs.size → q ∉ [s.heap.objs.size + 1, s.heap.objs.size] := fun q hq m => (List.mem_cons.mp m).elim (fun e => absurd hq (by rw [e]; exact Nat.not_lt.mpr (Nat.le_succ _))) fun m => absurd hq (by rw [List.mem_singleton.mp m]; exact Nat.lt_irrefl _)
    exact ⟨fun q hq => wr _ (fresh_lt rr q hq), wr _ rr.F.ns.lt, fun b o g => wr _ (Heap.lt_size (rr.F.keep _ _ g))⟩
  · refine ⟨m', hC, fun h'' hs'' => ?_⟩
    have F3 := r'.F.change hs'' hCL hC₀
    have N3 : News X.h₀ X.L h'' ((Dl, lst ys) :: D.news) := fun p hp => by
      rcases List.mem_cons.mp hp with rfl | hp
      · exact ⟨hs''.extBut _ _ (Ne.symm hCD) hD, hDL, hD₀⟩
      · exact ⟨hs''.extBut _ _ (off p hp).1 (r'.N p hp).1, (r'.N p hp).2⟩
    have r'' := r'.other F3 fun p hp => N3 p (.tail _ hp)
    obtain ⟨r₂, g₂, hv₂⟩ := newObj' r'' (lo := .list (selM mk z z.cps.size)) (o := lst ys) (fun p hp => (off p hp).2) F3 N3 fun D'' g'' hm'' => ⟨rfl, ys.toArray, ys.length, hm'', by rw [List.toList_toArray]; exact rels_mono hv g''⟩
    exact hQ _ _ _ r₂ g₂ hv₂ ⟨kp.os, kp.gens⟩
end
end Mini
namespace Mini
open PySem PySem.W PySem.Calls PyProof.Rows PySem.Builtin PySem.Builtin.Str
section
variable {P : Pg} {fm : Fm} {X : Fx} {n : Nat} {σ σ₁ : St} {loc' : List (Str × V)}
structure SsX (P : Pg) (fm : Fm) (X : Fx) (ss : List Stmt) (σ : St) (r : Res Fl) : Prop where
  out : ∀ D, Ok P fm X D σ (execs ss (envAt fm X)) r (FRel X)
theorem ExC.ssX {ss : List Stmt} {r : Res Fl} (h : ExC P n fm ss σ r) (c : Cx P fm n X) : SsX P fm X ss σ r := ⟨fun D => h.out X D c⟩
end
section
variable {P : Pg} {fm : Fm} {X : Fx} {σ σ₁ : St}
theorem keepN {D : Dy} {h : Heap} {loc loc' : List (Str × V)} {hp hp' : List LO} (js : List Nat) (r : Rp P fm X D ⟨loc, hp⟩ h) (nd : js.Nodup) (hlen : hp'.length = js.length) (hin : ∀ j ∈ js, j < hp.length)
    (Hh : ∀ (i : Nat) o, hp'[i]? = some o → ∃ j, js[i]? = some j ∧ hp[j]? = some o ∧ lob 0 o = true)
    (Hl : ∀ x v, loc'.lookup x = some v → (loc.lookup x = some v ∧ vb 0 v = true) ∨ ∃ i j, v = .obj i ∧ js[i]? = some j ∧ loc.lookup x = some (.obj j)) :
    ∃ D', Rp P fm X D' ⟨loc', hp'⟩ h := by
  have hd : ∀ j ∈ js, j < D.ad.length := fun j hj => by rw [r.len]; exact hin j hj
  let f : Nat → Addr × Addr := fun j => (D.ad[j]?).getD (0, 0)
  have hf : ∀ j, j < D.ad.length → D.ad[j]? = some (f j) := fun j hj => by
    show _ = some ((D.ad[j]?).getD (0, 0))
    rw [List.getElem?_eq_getElem hj]; rfl
  have hf' : ∀ i j, js[i]? = some j → (js.map f)[i]? = some (f j) ∧ D.ad[j]? = some (f j) := fun i j hj => ⟨by rw [List.getElem?_map, hj]; rfl, hf j (hd j (List.mem_of_getElem? hj))⟩
  have g0 : Gr X ⟨D.m, D.news, D.ad.take 0⟩ ⟨D.m, D.news, js.map f⟩ := ⟨fun i p e => (by rw [List.take_zero] at e; exact nomatch e), fun _ _ h _ => h⟩
  refine ⟨⟨D.m, D.news, js.map f⟩, r.F, r.N, r.nd, by rw [List.length_map]; exact hlen.symm, ?_, fun x v e => ?_, r.cel, r.inj, fun i o e => ?_⟩
  · rw [List.map_map]
    refine List.pairwise_map.mpr (nd.imp_of_mem fun {a b} ha hb hne => ?_)
    have h1 := hf a (hd a ha)
    have h2 := hf b (hd b hb)
    intro q
    refine hne ?_
    have e1 : (D.ad.map (·.2))[a]? = some (f a).2 := by rw [List.getElem?_map, h1]; rfl
    have e2 : (D.ad.map (·.2))[b]? = some (f a).2 := by rw [List.getElem?_map, h2]; exact congrArg some q.symm
    exact (List.getElem?_inj (by rw [List.length_map]; exact hd a ha) r.dis).mp (e1.trans e2.symm)
  · rcases Hl x v e with ⟨q, hv⟩ | ⟨i, j, rfl, hj, q⟩
    · exact ((r.loc x v q).trunc hv).mono g0 fun _ _ _ h _ => h
    · obtain ⟨a1, a2⟩ := hf' i j hj
      have to : ∀ {y : Value}, VR X.base D.ad D.news (.obj j) y → VR X.base (js.map f) D.news (.obj i) y := fun {y} h => by
        obtain ⟨p, hp, rfl⟩ := h.obj'
        rw [a2] at hp
        cases hp
        exact .obj a1
      rcases r.loc x _ q with ⟨k, y, hy, hv⟩ | ⟨k, c, o, y, hc, hm, hd, hv⟩
      · exact .inl ⟨k, y, hy, to hv⟩
      · exact .inr ⟨k, c, o, y, hc, hm, hd, to hv⟩
  · obtain ⟨j, hj, ho, hb⟩ := Hh i o e
    obtain ⟨p, hp, hor⟩ := r.hp j o ho
    obtain ⟨a1, a2⟩ := hf' i j hj
    rw [a2] at hp
    cases hp
    exact ⟨_, a1, (hor.trunc hb).mono g0 fun _ _ h _ => h⟩
structure RunT (P : Pg) (fm : Fm) (X : Fx) (ss : List Stmt) (σ : St) : Prop where
  out : ∀ D s, Rp P fm X D σ s.heap → ∀ Q E, (∀ m' s', Fr X.h₀ X.L s'.heap m' → Keep s s' → Q (.ret (.bool true)) s') → wpAny (model P.prog P.w) X.A (execs ss (envAt fm X)) Q E s
theorem RunT.of {ss : List Stmt} {σ' : St} (h : SsX P fm X ss σ (.ok (.ret (.bool true)) σ' O0 [])) : RunT P fm X ss σ := ⟨fun D s r Q E hQ => h.out D (fun _ q => nomatch q) s r Q E fun D' s' f r' g q k => by
  obtain ⟨y, rfl, hy⟩ := q
  cases hy
  exact hQ D'.m s' r'.F k⟩
theorem RunT.seq {ss ts : List Stmt} (h : SsX P fm X ss σ (.ok .next σ₁ O0 [])) (R : RunT P fm X ts σ₁) : RunT P fm X (ss ++ ts) σ := ⟨fun D s r Q E hQ => by
  rw [execs_app]
  refine wpAny_bind (h.out D (fun _ q => nomatch q) s r _ E fun D₁ s₁ f r₁ g q k => ?_)
  rw [show f = Flow.next from q]
  exact R.out D₁ s₁ r₁ Q E fun m' s' F k' => hQ m' s' F (k.trans k')⟩
theorem RunT.keep {ss : List Stmt} {loc loc' : List (Str × V)} {hp hp' : List LO} (js : List Nat) (nd : js.Nodup) (hlen : hp'.length = js.length) (hin : ∀ j ∈ js, j < hp.length)
    (Hh : ∀ (i : Nat) o, hp'[i]? = some o → ∃ j, js[i]? = some j ∧ hp[j]? = some o ∧ lob 0 o = true)
    (Hl : ∀ x v, loc'.lookup x = some v → (loc.lookup x = some v ∧ vb 0 v = true) ∨ ∃ i j, v = .obj i ∧ js[i]? = some j ∧ loc.lookup x = some (.obj j))
    (R : RunT P fm X ss ⟨loc', hp'⟩) : RunT P fm X ss ⟨loc, hp⟩ := ⟨fun D s r Q E hQ => by
  obtain ⟨D', r'⟩ := keepN js r nd hlen hin Hh Hl
  exact R.out D' s r' Q E hQ⟩
end
theorem look_cons {x a : Str} {u v : V} {l : List (Str × V)} {p : Prop} (e : List.lookup x ((a, u) :: l) = some v) (h1 : x = a → v = u → p) (h2 : List.lookup x l = some v → p) : p := by
  rw [List.lookup_cons] at e
  cases hx : x == a with
  | true => rw [hx] at e; cases e; exact h1 (beq_iff_eq.mp hx) rfl
  | false => rw [hx] at e; exact h2 e
theorem joinS_ch : ∀ l : List Nat, Str.join (Str.ofString "") (l.map ch) = tx l
  | [] => rfl
  | [a] => rfl
  | a :: b :: r => by
    have ih := joinS_ch (b :: r)
    show ch a ++ Str.ofString "" ++ Str.join (Str.ofString "") ((b :: r).map ch) = _
    rw [ih, tx_nil, ch_tx, tx_app, tx_app]; rfl
theorem join_ch (l : List Nat) : Txt.join (Str.ofString "") (l.map ch) = tx l := (StrLaws.glued_eq_join _ _).trans (joinS_ch l)
theorem strs_ch : ∀ l : List Nat, strsOf (l.map fun k => V.str (ch k)) = some (l.map ch)
  | [] => rfl
  | a :: r => by
    have ih := strs_ch r
    show (strsOf (r.map fun k => V.str (ch k))).map (ch a :: ·) = _
    rw [ih]; rfl
theorem sum_ch : ∀ l : List Nat, ((l.map ch).map (·.length)).sum = l.length
  | [] => rfl
  | a :: r => by
    show (ch a).length + ((r.map ch).map (·.length)).sum = r.length + 1
    rw [sum_ch r, ch_len]; exact Nat.add_comm 1 _
theorem join_at {l : List Nat} (h : l.length ≤ 100000) : ∃ ss, strsOf (l.map fun k => V.str (ch k)) = some ss ∧ Str.length (Str.ofString "") ≤ 16 ∧ List.sum (List.map (fun x => Str.length x) ss) + List.length ss ≤ 1048576 ∧ V.str (tx l) = V.str (Txt.join (Str.ofString "") ss) := by
  refine ⟨l.map ch, strs_ch l, by decide, ?_, by rw [join_ch]⟩
  have := sum_ch l
  have e : List.sum (List.map (fun x => Str.length x) (l.map ch)) = l.length := this
  rw [e, List.length_map]; exact nle (Nat.add_le_add h h)
noncomputable def absI (i : Int) : Int := if i < 0 then -i else i
noncomputable def zS : Str := "|&;(>a=-$é"
noncomputable def zL : List Nat := [124, 38, 59, 40, 62, 97, 61, 45, 36, 233]
noncomputable def runL (mk : Int) : List Nat := ((List.range 10).filter (maskB mk)).map fun k => (zS.cps[k]?).getD 0
theorem runL_sub (mk : Int) : (runL mk).Sublist zL := by
  have h : (List.range 10).map (fun k => (zS.cps[k]?).getD 0) = zL := by decide +kernel
  rw [← h]
  exact (List.filter_sublist ..).map _
theorem zS_size : zS.cps.size = 10 := by decide +kernel
theorem selM_runL (mk : Int) : selM mk zS zS.cps.size = (runL mk).map fun k => V.str (ch k) := by
  rw [zS_size]
  unfold selM runL
  rw [List.map_map]
  rfl
theorem runL_ok (mk : Int) (h : runL mk ≠ []) : OkU (runL mk) := by
  have s := runL_sub mk
  refine ⟨s.nodup (by decide), Nat.le_trans s.length_le (by decide), h, fun k hk => ?_⟩
  have all : ∀ k ∈ zL, k ∉ whL5 ∧ k ∉ [39, 34, 92, 35] := by decide
  exact all k (s.subset hk)
section
variable {w : World} {mg mb : Str → Option Value} {fa : Addr} {cd : Value} {X : Fx} {sp ct : Bool} {mk : Int} {u t : List Nat} {c : CF}
theorem q_bel (k : Nat) (p : Option Nat) : vbs k (qOf p) = true := by cases p <;> rfl
theorem hpQ_bel {o0 : LO} {txt : List Nat} {s : PS} {i : Nat} {ln : Int} {p : Option Nat} {k : Nat} (hk : 6 ≤ k) (h0 : lob k o0 = true) : lobs k (hpQ o0 [] c txt s.v [] i ln (qOf p)) = true := by
  have z : ∀ i, i < 6 → vb k (.obj i) = true := fun i hi => decide_eq_true (Nat.lt_of_lt_of_le hi hk)
  have es : vb k s.v = true := by cases s <;> rfl
  have a : lob k (lexP true c 2 3 4 5 s.v (tx []) ln) = true := by
    show (vb k (.obj 2) && (true && (true && (true && (true && (true && (true && (true && (true && (true && (true && (vb k s.v && (vb k (.obj 3) && (true && (true && (true && (vb k (.obj 4) && (true && (true && (vb k (.obj 5) && true)))))))))))))))))))) = true
    rw [z 2 (by decide), z 3 (by decide), z 4 (by decide), z 5 (by decide), es]; rfl
  show (lob k o0 && (lob k (lexP true c 2 3 4 5 s.v (tx []) ln) && (true && (true && (true && (vbs k (qOf p) && true)))))) = true
  rw [h0, a, q_bel]; rfl
theorem flat_tk (qd : Bool) (t : List Nat) : flatV (tkV qd t) = true := by cases qd <;> cases t <;> rfl
theorem one_call {o0 : LO} {txt : List Nat} {kd : Nat → Kd} (H : Fit c kd) (hl : txt.length ≤ 1000000) (h0 : ∀ k, lob k o0 = true) {s : PS} {p : Option Nat} {v : List Nat} {r : QO} (R : RQ kd s [] false p v r) (hs : s = .sp ∨ s = .non) {i : Nat} (ln : Int) (hi : i ≤ txt.length) (hv : v = txt.drop i) {k : Nat} {us : List V} 
    (C : ∀ i' ln', i' ≤ txt.length → r.u = txt.drop i' → ∃ e z, Calls5 (pg w mg mb) 130 false "get_token" 1 k (hpQ o0 [] c txt r.s.v [] i' ln' (qOf r.p)) us (hpQ o0 [] c txt .none [] e z [])) : ∃ e z, Calls5 (pg w mg mb) 130 false "get_token" 1 (k + 1) (hpQ o0 [] c txt s.v [] i ln (qOf p)) (tkV r.qd r.t :: us) (hpQ o0 [] c txt .none [] e z []) := by
  obtain ⟨i', ln', a1, a2, G⟩ := get_Q (w := w) (mg := mg) (mb := mb) (o0 := o0) H hl R hs ln hi hv
  obtain ⟨e, z, C⟩ := C i' ln' a1 a2
  exact ⟨e, z, .cons (C := 722) (f := 683) rfl (by kernel_rfl) (fun a b d => G [.any a, .any b, .any d]) rfl (fun i hi => hpQ_bel (Nat.le_add_right 6 i) (h0 _)) (flat_tk _ _) C⟩
theorem calls_non {o0 : LO} {txt : List Nat} {kd : Nat → Kd} (H : Fit c kd) (hl : txt.length ≤ 1000000) (h0 : ∀ k, lob k o0 = true) : ∀ (k i : Nat) (ln : Int), i ≤ txt.length → [] = txt.drop i → ∃ e z, Calls5 (pg w mg mb) 130 false "get_token" 1 k (hpQ o0 [] c txt PS.non.v [] i ln (qOf none)) (List.replicate k .none) (hpQ o0 [] c txt .none [] e z [])
  | 0, i, ln, _, _ => ⟨i, ln, .nil⟩
  | k + 1, i, ln, hi, hv => one_call (w := w) (mg := mg) (mb := mb) H hl h0 (RQ.non (t := [])) (.inr rfl) ln hi hv fun i' ln' a b => calls_non H hl h0 k i' ln' a b
theorem calls_str {o0 : LO} {txt : List Nat} {kd : Nat → Kd} (H : Fit c kd) (hl : txt.length ≤ 1000000) (h0 : ∀ k, lob k o0 = true) {s : PS} {p : Option Nat} {v : List Nat} {ws : List (List Nat)} (S : Str3 kd s p v ws) :
    ∀ (i : Nat) (ln : Int), i ≤ txt.length → v = txt.drop i → ∀ k, ws.length < k → ∃ e z, Calls5 (pg w mg mb) 130 false "get_token" 1 k (hpQ o0 [] c txt s.v [] i ln (qOf p)) (sv ws ++ List.replicate (k - ws.length) .none) (hpQ o0 [] c txt .none [] e z []) := by
  induction S with
  | @fin s p v hs R =>
    intro i ln hi hv k hk
    obtain ⟨k, rfl⟩ : ∃ j, k = j + 1 := ⟨k - 1, (Nat.sub_add_cancel hk).symm⟩
    exact one_call (w := w) (mg := mg) (mb := mb) H hl h0 R hs ln hi hv fun i' ln' a b => calls_non H hl h0 k i' ln' a b
  | @tok s p v r ws hs R hne S ih =>
    intro i ln hi hv k hk
    obtain ⟨k, rfl⟩ : ∃ j, k = j + 1 := ⟨k - 1, (Nat.sub_add_cancel (Nat.lt_of_le_of_lt (Nat.zero_le _) hk)).symm⟩
    rw [List.length_cons] at hk
    have ev : tkV r.qd r.t = .str (tx r.t) := by
      cases hq : r.qd with
      | true => rfl
      | false =>
        cases hr : r.t with
        | nil => rw [hq, hr] at hne; exact (hne.elim (fun q => q rfl) (fun q => nomatch q)).elim
        | cons a b => rfl
    have Z := one_call (w := w) (mg := mg) (mb := mb) H hl h0 R hs ln hi hv fun i' ln' a b => ih i' ln' a b k (Nat.lt_of_succ_lt_succ hk)
    rw [ev] at Z
    rw [List.length_cons, Nat.add_sub_add_right]
    exact Z
noncomputable abbrev LL (sp : Bool) (mk : Int) (u t : List Nat) : List (Str × V) := [("split", .bool sp), ("mask", .int mk), ("runs", .str (tx u)), ("text", .str (tx t)), ("words", .obj 0), ("lex", .obj 1)]
noncomputable abbrev LT (sp : Bool) (mk : Int) (u t : List Nat) : List (Str × V) := [("split", .bool sp), ("mask", .int mk), ("runs", .str (tx u)), ("text", .str (tx t)), ("words", .obj 0), ("lex", .obj 1), ("told", .obj 6)]
noncomputable abbrev H6 (ws : List (List Nat)) (c : CF) (t : List Nat) : List LO := [.list (sv ws), lexP true c 2 3 4 5 (.str " ") "" 1, ioOf (tx t) 0, .deque [], .deque [], .deque []]
theorem told_eq : lawIn (pg w mg mb) 11 1 = [.Assign [.Name "told" ⟨799, 4, 799, 8⟩] (.ListComp (.Call (.Attribute (.Name "lex" ⟨799, 12, 799, 15⟩) "get_token" ⟨799, 12, 799, 25⟩) [] [] ⟨799, 12, 799, 27⟩) [⟨.Name "turn" ⟨799, 32, 799, 36⟩, cIt (tolComp (pg w mg mb)), [], 0⟩] (cSc (tolComp (pg w mg mb))) ⟨799, 11, 799, 61⟩) ⟨799, 4, 799, 61⟩] := by kernel_rfl
theorem told_made {ws : List (List Nat)} {kd : Nat → Kd} (H : Fit c kd) (hl : t.length ≤ 100000) (hw : ws.length < t.length + 2) (S : Str3 kd .sp none t ws) :
    ∃ (i' : Nat) (e : Int), ExC (pg w mg mb) 130 (lawFm (pg w mg mb) fa cd) (lawIn (pg w mg mb) 11 1) ⟨LL sp mk u t, H6 ws c t⟩
      (.ok .next ⟨LT sp mk u t, hpQ (.list (sv ws)) [] c t .none [] i' e [] ++ [.list (sv ws ++ List.replicate (t.length + 2 - ws.length) .none)]⟩ O0 []) := by
  have h0 : ∀ k, lob k (.list (sv ws)) = true := fun k => sv_bel k ws
  obtain ⟨i', e, C⟩ := calls_str (w := w) (mg := mg) (mb := mb) (o0 := .list (sv ws)) H (nle hl) h0 S 0 1 (Nat.zero_le _) rfl (t.length + 2) hw
  have I := law_tit (w := w) (mg := mg) (mb := mb) (fa := fa) (cd := cd) (sp := sp) (mk := mk) (u := tx u) (t := tx t) (ws := sv ws) (c := c) (st := .str " ") (tok := "") (ln := 1) (oi := ioOf (tx t) 0) (od := .deque []) (of := .deque []) (oq := .deque []) (by rw [tx_len]; exact Nat.lt_of_le_of_lt hl (by decide))
  rw [tx_len, show ((t.length : Int) + 2) = ((t.length + 2 : Nat) : Int) from rfl] at I
  have eh : hpQ (.list (sv ws)) [] c t PS.sp.v [] 0 1 (qOf none) = H6 ws c t := by
    show [.list (sv ws), lexP true c 2 3 4 5 (.str " ") (tx []) 1, ioOf (tx t) ((0 : Nat) : Int), .deque [], .deque [], .deque []] = [.list (sv ws), lexP true c 2 3 4 5 (.str " ") "" 1, ioOf (tx t) 0, .deque [], .deque [], .deque []]
    rw [show ("" : Str) = tx [] from tx_nil]; rfl
  rw [eh] at C
  refine ⟨i', e, ?_⟩
  rw [told_eq]
  exact calls_set (y := "told") (a := "turn") (b := "lex") (j := 1) (sc := cSc (tolComp (pg w mg mb))) (by kernel_rfl) (by kernel_rfl) (by decide +kernel) (by decide +kernel) (by decide +kernel) (by decide +kernel) rfl (by kernel_rfl) rfl I (nle (Nat.add_le_add_right hl 2)) (by decide) (fun i hi => by
    match i with
    | 0 => rfl
    | 1 => rfl
    | 2 => rfl
    | _ + 3 => exact absurd hi (Nat.not_lt.mpr (Nat.le_add_left 3 _))) C (fun env x => by kernel_rfl) (by kernel_rfl) (fun X => by kernel_rfl)
theorem sv_flat (ts : List (List Nat)) : ∀ v ∈ sv ts, flat1 v = true := by
  intro v hv
  obtain ⟨t, _, rfl⟩ := List.mem_map.mp hv
  rfl
theorem law3_end {ws : List (List Nat)} {e : Int} {i' : Nat} (ht : t.length ≤ 100000) (hw : ws.length < t.length + 2) :
    ∃ σ', ExC (pg w mg mb) 130 (lawFm (pg w mg mb) fa cd) (lawIn (pg w mg mb) 12 1) ⟨LT sp mk u t, hpQ (.list (sv ws)) [] c t .none [] i' e [] ++ [.list (sv ws ++ List.replicate (t.length + 2 - ws.length) .none)]⟩ (.ok (.ret (.bool true)) σ' O0 []) := by
  obtain ⟨d, hd⟩ := Nat.le.dest (Nat.le_of_lt hw)
  have eI : (Str.length (tx t) : Int) + 2 - ((sv ws).length : Int) = (d : Int) := by
    rw [tx_len, sv_len]
    show ((t.length + 2 : Nat) : Int) - _ = _
    rw [← hd, Int.natCast_add, Int.add_comm]
    exact Int.add_sub_cancel _ _
  have hl : ws.length + d ≤ 100002 := Nat.le_trans (Nat.le_of_eq hd) (Nat.add_le_add_right ht 2)
  rw [← hd, Nat.add_sub_cancel_left]
  have h4 : sv ws ++ List.replicate d V.none = sv ws ++ List.replicate (Int.toNat (d : Int)) V.none ∧ ∀ x ∈ sv ws ++ List.replicate d V.none, flat1 x = true := by
    refine ⟨rfl, fun x hx => ?_⟩
    rcases List.mem_append.mp hx with hx | hx
    · exact sv_flat ws x hx
    · rw [List.eq_of_mem_replicate hx]; rfl
  rw [← eI] at h4
  exact ⟨_, law_end (w := w) (mg := mg) (mb := mb) (fa := fa) (cd := cd) (sp := sp) (mk := mk) (u := tx u) (t := tx t) (ws := sv ws) (c := c) (st := .none) (tok := tx []) (ln := e) (oi := ioOf (tx t) i') (od := .deque []) (of := .deque []) (oq := .deque []) (by rw [tx_len]; exact Nat.lt_of_le_of_lt ht (by decide))
    (by rw [sv_len]; exact Nat.lt_of_le_of_lt (Nat.le_trans (Nat.le_add_right _ _) hl) (by decide)) (by rw [eI]; exact ⟨Int.natCast_nonneg _, Int.ofNat_le.mpr (nle (Nat.le_trans (Nat.le_add_left _ _) hl))⟩) (by rw [eI, List.length_replicate, sv_len]; exact nle hl) h4⟩
theorem law_body : bodyOf (pg w mg mb).K 759 = lawIn (pg w mg mb) 0 1 ++ (lawIn (pg w mg mb) 1 1 ++ (lawIn (pg w mg mb) 2 4 ++ (lawIn (pg w mg mb) 6 1 ++ (lawIn (pg w mg mb) 7 1 ++ (lawIn (pg w mg mb) 8 1 ++ (lawIn (pg w mg mb) 9 1 ++ (lawIn (pg w mg mb) 10 1 ++ (lawIn (pg w mg mb) 11 1 ++ lawIn (pg w mg mb) 12 1)))))))) := by kernel_rfl
theorem num_eq : lawIn (pg w mg mb) 0 1 = [.Assign [.Name "numbers" ⟨786, 4, 786, 11⟩] (.ListComp (.Call (.Name "abs" ⟨786, 15, 786, 18⟩) [.Name "x" ⟨786, 19, 786, 20⟩] [] ⟨786, 15, 786, 21⟩) [⟨.Name "x" ⟨786, 26, 786, 27⟩, cIt (numComp (pg w mg mb)), [], 0⟩] (cSc (numComp (pg w mg mb))) ⟨786, 14, 786, 43⟩) ⟨786, 4, 786, 43⟩] := by kernel_rfl
theorem run_eq : runComp (pg w mg mb) = .ListComp (.Name "sign" ⟨793, 20, 793, 24⟩) [⟨.Tuple [.Name "k" ⟨793, 29, 793, 30⟩, .Name "sign" ⟨793, 32, 793, 36⟩] 0 ⟨793, 29, 793, 36⟩, .Call (.Name "enumerate" ⟨793, 40, 793, 49⟩) [.Constant (.str zS) 0 ⟨793, 50, 793, 63⟩] [] ⟨793, 40, 793, 64⟩, [maskT ⟨793, 68, 793, 72⟩ ⟨793, 76, 793, 77⟩ ⟨793, 81, 793, 82⟩ ⟨793, 76, 793, 82⟩ ⟨793, 68, 793, 82⟩ ⟨793, 85, 793, 86⟩ ⟨793, 68, 793, 86⟩ ⟨793, 90, 793, 91⟩ ⟨793, 68, 793, 91⟩ 0 0 0], 0⟩] (cSc (runComp (pg w mg mb))) ⟨793, 19, 793, 92⟩ := by kernel_rfl
theorem law3_a {ns : List Int} (hn : ns.length ≤ 1000) : ExC (pg w mg mb) 120 (lawFm (pg w mg mb) fa cd) (lawIn (pg w mg mb) 0 1) ⟨[("script", .ro ns)], []⟩ (.ok .next ⟨[("script", .ro ns), ("numbers", .obj 1)], [.list (vI (ns.take 24)), .list (vI ((ns.take 24).map absI))]⟩ O0 []) := by
  have hp : pickL (ns.map V.int) none (some 24) = vI (ns.take 24) := by rw [show (24 : Int) = ((24 : Nat) : Int) from rfl, pickL_int]; rfl
  have I := law_cit (w := w) (mg := mg) (mb := mb) (fa := fa) (cd := cd) (ns := ns) (by rw [List.length_map]; exact nle hn)
  rw [hp] at I
  rw [num_eq]
  have hl : (vI (ns.take 24)).length ≤ 24 := by show (List.map _ _).length ≤ _; rw [List.length_map, List.length_take]; exact Nat.min_le_left _ _
  refine comp_set (us := vI ((ns.take 24).map absI)) I rfl ?_ (nle hl) (by kernel_rfl) (by kernel_rfl) (fun env y => by kernel_rfl) (by kernel_rfl) (fun X => by kernel_rfl) fun X c i v hv => ?_
  · show (List.map _ (List.map _ _)).length = (List.map _ _).length
    rw [List.length_map, List.length_map, List.length_map]
  · have hv : (List.map V.int (ns.take 24))[i]? = some v := hv
    rw [List.getElem?_map] at hv
    cases hk : (ns.take 24)[i]? with
    | none => rw [hk] at hv; exact nomatch hv
    | some k =>
      rw [hk] at hv
      cases hv
      refine ⟨.int (absI k), ?_, elt_abs (by kernel_rfl) (by kernel_rfl) (by decide +kernel) (by kernel_rfl) (by kernel_rfl) (by decide +kernel) c⟩
      show (List.map V.int (List.map absI (ns.take 24)))[i]? = _
      rw [List.getElem?_map, List.getElem?_map, hk]; rfl
theorem seq_zero (a : Int) (vs : List Int) : seqIndex? 0 (vI (a :: vs)).length = some 0 := by
  unfold seqIndex?
  dsimp only
  rw [if_neg (show ¬ ((0 : Int) < 0) by decide), decide_eq_true (Int.le_refl 0), decide_eq_true (show (0 : Int) < ((vI (a :: vs)).length : Int) from Int.ofNat_lt.mpr (Nat.succ_pos _))]
  rfl
theorem set0 (a b : Int) (vs : List Int) : setAtV (vI (a :: vs)) 0 (.int b) = vI (b :: vs) := by
  unfold setAtV
  rw [seq_zero]
  rfl
theorem law3_c {a : Int} {vs : List Int} : ExC (pg w mg mb) 130 (lawFm (pg w mg mb) fa cd) (lawIn (pg w mg mb) 2 4) ⟨[("numbers", .obj 0)], [.list (vI (a :: vs))]⟩
    (.ok .next ⟨[("numbers", .obj 0), ("split", .bool (Int.fmod a 2 == 1)), ("mask", .int (Int.fmod (Int.fdiv a 2) 1024)), ("cut", .bool (Int.fmod (Int.fdiv a 2048) 2 == 1))], [.list (vI (Int.fdiv a 4096 :: vs))]⟩ O0 []) := by
  have g : (0 : Int) ≤ 0 ∧ (0 : Int) < 9223372036854775808 ∧ List.get?Internal (vI (a :: vs)) (Int.toNat 0) = some (V.int a) := ⟨by decide, by decide, rfl⟩
  have A := law_c (w := w) (mg := mg) (mb := mb) (fa := fa) (cd := cd) (nv := vI (a :: vs)) (a := a) g g g g ⟨by decide, by decide, by rw [seq_zero]; rfl⟩
  rw [set0] at A
  exact A
theorem law3_d {nv : List V} : ExC (pg w mg mb) 130 (lawFm (pg w mg mb) fa cd) (lawIn (pg w mg mb) 6 1) ⟨[("numbers", .obj 0), ("split", .bool sp), ("mask", .int mk), ("cut", .bool ct)], [.list nv]⟩
    (.ok .next ⟨[("numbers", .obj 0), ("split", .bool sp), ("mask", .int mk), ("cut", .bool ct), ("runs", .str (tx (runL mk)))], [.list nv, .list ((runL mk).map fun k => V.str (ch k))]⟩ O0 []) := by
  have C := comp_mask (P := pg w mg mb) (fm := lawFm (pg w mg mb) fa cd) (n := 127) (σ := ⟨[("numbers", .obj 0), ("split", .bool sp), ("mask", .int mk), ("cut", .bool ct)], [.list nv]⟩) (z := zS) (mk := mk) (qe := ⟨793, 40, 793, 49⟩) (q0 := ⟨793, 20, 793, 24⟩) (px := ⟨793, 29, 793, 30⟩) (py := ⟨793, 32, 793, 36⟩) (tp := ⟨793, 29, 793, 36⟩) (pos := ⟨793, 19, 793, 92⟩) (ip := ⟨793, 40, 793, 64⟩) (q1 := ⟨793, 68, 793, 72⟩) (q2 := ⟨793, 76, 793, 77⟩) (q3 := ⟨793, 81, 793, 82⟩) (q4 := ⟨793, 76, 793, 82⟩) (q5 := ⟨793, 68, 793, 82⟩) (q6 := ⟨793, 85, 793, 86⟩) (q7 := ⟨793, 68, 793, 86⟩) (q8 := ⟨793, 90, 793, 91⟩) (q9 := ⟨793, 68, 793, 91⟩) (q10 := ⟨793, 50, 793, 63⟩)
    (x1 := 0) (k1' := 0) (k2 := 0) (k3 := 0) (k4 := 0) (sc := cSc (runComp (pg w mg mb))) (by kernel_rfl) (by kernel_rfl) (by kernel_rfl) (by kernel_rfl) (by kernel_rfl) (by kernel_rfl) (by decide +kernel) (by decide +kernel) (by kernel_rfl) (by decide +kernel)
  rw [← run_eq, selM_runL] at C
  have hl : (runL mk).length ≤ 100000 := Nat.le_trans (runL_sub mk).length_le (by decide)
  exact law_d C (join_at hl)
end
end Mini
namespace Mini
open PySem PySem.W PySem.Calls PyProof.Rows PySem.Builtin PySem.Builtin.Str
noncomputable def uE (mk : Int) : List Nat := if runL mk = [] then uDef else runL mk
theorem uE_ok (mk : Int) : OkU (uE mk) := by
  unfold uE
  by_cases h : runL mk = []
  · rw [if_pos h]; exact uDef_ok
  · rw [if_neg h]; exact runL_ok mk h
section
variable {w : World} {mg mb : Str → Option Value} {fa : Addr} {cd : Value} {X : Fx} {sp ct : Bool} {mk : Int} {u t : List Nat} {c : CF}
noncomputable abbrev LE (sp : Bool) (mk : Int) (ct : Bool) (t : List Nat) (la : Str) : List (Str × V) := [("split", .bool sp), ("mask", .int mk), ("cut", .bool ct), ("runs", .str (tx (runL mk))), ("text", .str (tx t)), ("words", .obj 0), ("last", .str la)]
noncomputable abbrev LX (sp : Bool) (mk : Int) (t : List Nat) : List (Str × V) := [("split", .bool sp), ("mask", .int mk), ("runs", .str (tx (runL mk))), ("text", .str (tx t)), ("words", .obj 0)]
theorem law3_e {ns : List Int} (hn : ns.length ≤ 100) : ∃ ps, (∀ p ∈ ps, Pc.Ok (kd3 (uE mk) sp) p) ∧ (runP ps s0).Fits 9600 ∧
    ExC (pg w mg mb) 130 (lawFm (pg w mg mb) fa cd) (lawIn (pg w mg mb) 7 1) ⟨[("numbers", .obj 0), ("split", .bool sp), ("mask", .int mk), ("cut", .bool ct), ("runs", .str (tx (runL mk)))], [.list (vI ns)]⟩
      (.ok .next ⟨[("numbers", .obj 0), ("split", .bool sp), ("mask", .int mk), ("cut", .bool ct), ("runs", .str (tx (runL mk))), ("text", .str (tx (runP ps s0).text)), ("words", .obj 1), ("last", .str (lkN (runP ps s0).cur))], [.list (vI ns), .list (sv (runP ps s0).words)]⟩ O0 []) := by
  obtain ⟨ps, h1, h2, C⟩ := li_made (w := w) (mg := mg) (mb := mb) (u := uE mk) (sp := sp) hn
  refine ⟨ps, h1, h2, ?_⟩
  have C := C.le (show 125 ≤ 127 by decide)
  unfold uE at C
  by_cases h : runL mk = []
  · rw [if_pos h, ← uDef_tx] at C
    rw [h, show tx [] = ("" : Str) from tx_nil.symm]
    exact law_e0 C
  · rw [if_neg h] at C
    exact law_e1 (by show (!(tx (runL mk) == Str.ofString "")) = true; rw [tx_nil, tx_beq, decide_eq_false h]; rfl) C
theorem lk_ne {cur : Option (Kd × List Nat)} (h : CurOk cur) (hc : cur ≠ none) : (lkN cur == Str.ofString "") = false := by
  cases cur with
  | none => exact absurd rfl hc
  | some q =>
    rcases h q rfl with e | e
    · show (kdN q.1 == Str.ofString "") = false; rw [e]; decide +kernel
    · show (kdN q.1 == Str.ofString "") = false; rw [e]; decide +kernel
theorem law3_x {kd : Nat → Kd} (F : Kf kd) {ps : List Pc} (hok : ∀ p ∈ ps, Pc.Ok kd p) (hf : (runP ps s0).Fits 9600) : ∃ t, t.length ≤ 9600 ∧ (runP ps s0).words.length < t.length + 2 ∧ Str3 kd .sp none t (runP ps s0).words ∧
    ExC (pg w mg mb) 130 (lawFm (pg w mg mb) fa cd) (lawIn (pg w mg mb) 8 1) ⟨LE sp mk ct (runP ps s0).text (lkN (runP ps s0).cur), [.list (sv (runP ps s0).words)]⟩ (.ok .next ⟨LX sp mk t, [.list (sv (runP ps s0).words)]⟩ O0 []) := by
  have ew : (runP ps s0).words = tks none ps := run_words ps s0
  have et : (runP ps s0).text = txtP ps [] := run_text ps s0
  have ht := hf.text
  have fin : ∀ {t : List Nat} {la : Str}, ExC (pg w mg mb) 130 (lawFm (pg w mg mb) fa cd) (lawIn (pg w mg mb) 8 1) ⟨LE sp mk ct (runP ps s0).text (lkN (runP ps s0).cur), [.list (sv (runP ps s0).words)]⟩ (.ok .next ⟨LE sp mk ct t la, [.list (sv (runP ps s0).words)]⟩ O0 []) →
      ExC (pg w mg mb) 130 (lawFm (pg w mg mb) fa cd) (lawIn (pg w mg mb) 8 1) ⟨LE sp mk ct (runP ps s0).text (lkN (runP ps s0).cur), [.list (sv (runP ps s0).words)]⟩ (.ok .next ⟨LX sp mk t, [.list (sv (runP ps s0).words)]⟩ O0 []) := fun {t la} h =>
    h.forget (Sub.cons rfl (Sub.cons rfl (Sub.cons rfl (Sub.cons rfl (Sub.cons rfl (Sub.nil _))))))
  have plain : ExC (pg w mg mb) 130 (lawFm (pg w mg mb) fa cd) (lawIn (pg w mg mb) 8 1) ⟨LE sp mk ct (runP ps s0).text (lkN (runP ps s0).cur), [.list (sv (runP ps s0).words)]⟩ (.ok .next ⟨LE sp mk ct (runP ps s0).text (lkN (runP ps s0).cur), [.list (sv (runP ps s0).words)]⟩ O0 []) →
      ∃ t, t.length ≤ 9600 ∧ (runP ps s0).words.length < t.length + 2 ∧ Str3 kd .sp none t (runP ps s0).words ∧
      ExC (pg w mg mb) 130 (lawFm (pg w mg mb) fa cd) (lawIn (pg w mg mb) 8 1) ⟨LE sp mk ct (runP ps s0).text (lkN (runP ps s0).cur), [.list (sv (runP ps s0).words)]⟩ (.ok .next ⟨LX sp mk t, [.list (sv (runP ps s0).words)]⟩ O0 []) := fun h => by
    refine ⟨(runP ps s0).text, ht, ?_, ?_, fin h⟩
    · have h := tks_len [] ps none hok
      rw [ew, et]
      exact Nat.lt_succ_of_le (Nat.le_succ_of_le (Nat.le_trans h (Nat.le_of_eq (Nat.zero_add _))))
    · rw [ew, et]
      exact (says3 F (.inl rfl) ps hok).1 none _ (.inl ⟨rfl, rfl⟩)
  cases ct with
  | false => exact plain law_x0
  | true =>
    by_cases hc : (runP ps s0).cur = none
    · cases he : Txt.endswith (tx (runP ps s0).text) (Str.ofString "\n") with
      | false =>
        refine plain ?_
        rw [hc]
        exact law_x2 he
      | true =>
        obtain ⟨t, e⟩ := ends_at he
        obtain ⟨ps', T, a1, a2, a3, a4⟩ := cut_end F hok hc (et.symm.trans e)
        have A := law_x3 (w := w) (mg := mg) (mb := mb) (fa := fa) (cd := cd) (sp := sp) (mk := mk) (u := tx (runL mk)) (t := tx (runP ps s0).text) (ws := sv (runP ps s0).words) he (by rw [tx_len]; exact nle ht)
        have es : Txt.slice (tx (runP ps s0).text) none (some (-1)) = tx t := by rw [e]; exact slice_butLast t 10
        rw [es] at A
        have hlt : t.length + 1 ≤ 9600 := by
          rw [e, List.length_append] at ht
          exact ht
        refine ⟨t, Nat.le_of_succ_le hlt, ?_, ?_, fin (la := "") ?_⟩
        · have h := tks_len T ps' none a1
          rw [← a3] at h
          rw [ew, ← a4]
          exact Nat.lt_succ_of_le (Nat.le_succ_of_le (Nat.le_trans h (Nat.le_of_eq (Nat.zero_add _))))
        · rw [ew, ← a4, a3]
          exact (says3 F a2 ps' a1).1 none _ (.inl ⟨rfl, rfl⟩)
        · rw [hc]; exact A
    · exact plain (law_x1 (lk_ne hf.ok hc))
theorem h6_bel {ws : List (List Nat)} {k : Nat} (hk : 6 ≤ k) : lobs k (H6 ws c t) = true := by
  have z := hpQ_bel (c := c) (o0 := .list (sv ws)) (txt := t) (s := .sp) (i := 0) (ln := 1) (p := none) hk (sv_bel k ws)
  have eh : hpQ (.list (sv ws)) [] c t PS.sp.v [] 0 1 (qOf none) = H6 ws c t := by
    show [.list (sv ws), lexP true c 2 3 4 5 (.str " ") (tx []) 1, ioOf (tx t) ((0 : Nat) : Int), .deque [], .deque [], .deque []] = [.list (sv ws), lexP true c 2 3 4 5 (.str " ") "" 1, ioOf (tx t) 0, .deque [], .deque [], .deque []]
    rw [show ("" : Str) = tx [] from tx_nil]; rfl
  rw [← eh]; exact z
theorem law3_fg {ws : List (List Nat)} : ExC (pg w mg mb) 130 (lawFm (pg w mg mb) fa cd) (lawIn (pg w mg mb) 9 1 ++ lawIn (pg w mg mb) 10 1) ⟨LX sp mk t, [.list (sv ws)]⟩ (.ok .next ⟨LL sp mk (runL mk) t, H6 ws (cfK (uE mk) sp) t⟩ O0 []) := by
  have A' : ExC (pg w mg mb) 130 (lawFm (pg w mg mb) fa cd) (lawIn (pg w mg mb) 9 1) ⟨LX sp mk t, [.list (sv ws)]⟩ (.ok .next ⟨LL sp mk (runL mk) t, H6 ws (cfK (uE mk) false) t⟩ O0 []) := by
    unfold uE LX LL
    by_cases h : runL mk = []
    · rw [if_pos h, h, show tx [] = ("" : Str) from tx_nil.symm]
      have M := (lex_initD (w := w) (mg := mg) (mb := mb) (o0 := .list (sv ws)) (t := t)).le (show 100 ≤ 127 by decide)
      have A := law_f0 (w := w) (mg := mg) (mb := mb) (fa := fa) (cd := cd) (sp := sp) (mk := mk) (t := tx t) (ws := sv ws) M
      exact A.trunc (k := 6) (by decide : 1 ≤ 6) ⟨rfl, Sub.refl _, rfl, h6_bel (Nat.le_refl _)⟩ rfl
    · rw [if_neg h]
      have ok := runL_ok mk h
      have hne : (tx (runL mk) == Str.ofString "") = false := by rw [tx_nil, tx_beq]; exact decide_eq_false h
      have M := (lex_init (w := w) (mg := mg) (mb := mb) (o0 := .list (sv ws)) (t := t) ok.1 (Nat.le_trans ok.2.1 (by decide)) h).le (show 100 ≤ 127 by decide)
      have A := law_f1 (w := w) (mg := mg) (mb := mb) (fa := fa) (cd := cd) (sp := sp) (mk := mk) (u := tx (runL mk)) (t := tx t) (ws := sv ws) (by show (!(tx (runL mk) == Str.ofString "")) = true; rw [hne]; rfl) M
      exact A.trunc (k := 6) (by decide : 1 ≤ 6) ⟨rfl, Sub.refl _, rfl, h6_bel (Nat.le_refl _)⟩ rfl
  have G := law_g (w := w) (mg := mg) (mb := mb) (fa := fa) (cd := cd) (sp := sp) (mk := mk) (u := tx (runL mk)) (t := tx t) (ws := sv ws) (c := cfK (uE mk) false) (st := .str " ") (tok := "") (ln := 1) (oi := ioOf (tx t) 0) (od := .deque []) (of := .deque []) (oq := .deque [])
  exact A'.app G nofun
noncomputable abbrev rest3 (w : World) (mg mb : Str → Option Value) : List Stmt := lawIn (pg w mg mb) 8 1 ++ (lawIn (pg w mg mb) 9 1 ++ (lawIn (pg w mg mb) 10 1 ++ (lawIn (pg w mg mb) 11 1 ++ lawIn (pg w mg mb) 12 1)))
theorem law3_tail {ps : List Pc} (hok : ∀ p ∈ ps, Pc.Ok (kd3 (uE mk) sp) p) (hf : (runP ps s0).Fits 9600) (c : Cx (pg w mg mb) (lawFm (pg w mg mb) fa cd) 160 X) :
    RunT (pg w mg mb) (lawFm (pg w mg mb) fa cd) X (rest3 w mg mb) ⟨LE sp mk ct (runP ps s0).text (lkN (runP ps s0).cur), [.list (sv (runP ps s0).words)]⟩ := by
  have c' := c.le (show 130 ≤ 160 by decide)
  obtain ⟨t, h1, h2, S, A⟩ := law3_x (w := w) (mg := mg) (mb := mb) (fa := fa) (cd := cd) (sp := sp) (ct := ct) (mk := mk) (kf3 (uE mk) sp) hok hf
  have B := law3_fg (w := w) (mg := mg) (mb := mb) (fa := fa) (cd := cd) (sp := sp) (mk := mk) (t := t) (ws := (runP ps s0).words)
  obtain ⟨i', e, T⟩ := told_made (w := w) (mg := mg) (mb := mb) (fa := fa) (cd := cd) (sp := sp) (mk := mk) (u := runL mk) (t := t) (c := cfK (uE mk) sp) (fit3 (sp := sp) (uE_ok mk)) (nle h1) h2 S
  obtain ⟨σ', Z⟩ := law3_end (w := w) (mg := mg) (mb := mb) (fa := fa) (cd := cd) (sp := sp) (mk := mk) (u := runL mk) (t := t) (c := cfK (uE mk) sp) (ws := (runP ps s0).words) (i' := i') (e := e) (nle h1) h2
  refine .seq (A.ssX c') ?_
  rw [← List.append_assoc]
  exact .seq (B.ssX c') (.seq (T.ssX c') (.of (Z.ssX c')))
theorem law3_f {ns : List Int} (hn : ns.length ≤ 100) (c : Cx (pg w mg mb) (lawFm (pg w mg mb) fa cd) 160 X) :
    RunT (pg w mg mb) (lawFm (pg w mg mb) fa cd) X (lawIn (pg w mg mb) 7 1 ++ rest3 w mg mb) ⟨[("numbers", .obj 0), ("split", .bool sp), ("mask", .int mk), ("cut", .bool ct), ("runs", .str (tx (runL mk)))], [.list (vI ns)]⟩ := by
  obtain ⟨ps, hok, hf, A⟩ := law3_e (w := w) (mg := mg) (mb := mb) (fa := fa) (cd := cd) (sp := sp) (mk := mk) (ct := ct) hn
  refine .seq (A.ssX (c.le (show 130 ≤ 160 by decide))) (.keep (loc' := LE sp mk ct (runP ps s0).text (lkN (runP ps s0).cur)) (hp' := [.list (sv (runP ps s0).words)]) [1] (by decide) rfl (fun j hj => by rw [List.mem_singleton.mp hj]; exact (by decide : 1 < 2)) (fun i o e => ?_) (fun x v e => ?_) (law3_tail hok hf c))
  · match i, e with
    | 0, e => cases e; exact ⟨1, rfl, rfl, sv_bel _ _⟩
  · refine look_cons e (fun hx hv => ?_) fun e => look_cons e (fun hx hv => ?_) fun e => look_cons e (fun hx hv => ?_) fun e => look_cons e (fun hx hv => ?_) fun e => look_cons e (fun hx hv => ?_) fun e => look_cons e (fun hx hv => ?_) fun e => look_cons e (fun hx hv => ?_) fun e => nomatch e
    all_goals subst hx hv
    all_goals first
      | exact .inl ⟨by kernel_rfl, rfl⟩
      | exact .inr ⟨0, 1, rfl, rfl, by kernel_rfl⟩
theorem law3_rest {a : Int} {vs : List Int} (hv : vs.length ≤ 40) (c : Cx (pg w mg mb) (lawFm (pg w mg mb) fa cd) 160 X) :
    RunT (pg w mg mb) (lawFm (pg w mg mb) fa cd) X (lawIn (pg w mg mb) 2 4 ++ (lawIn (pg w mg mb) 6 1 ++ (lawIn (pg w mg mb) 7 1 ++ rest3 w mg mb))) ⟨[("numbers", .obj 0)], [.list (vI (a :: vs))]⟩ := by
  have c' := c.le (show 130 ≤ 160 by decide)
  have A := law3_c (w := w) (mg := mg) (mb := mb) (fa := fa) (cd := cd) (a := a) (vs := vs)
  revert A
  generalize (Int.fmod a 2 == 1) = sp
  generalize Int.fmod (Int.fdiv a 2) 1024 = mk
  generalize (Int.fmod (Int.fdiv a 2048) 2 == 1) = ct
  generalize Int.fdiv a 4096 = a'
  intro A
  refine .seq (A.ssX c') (.seq (law3_d.ssX c') (.keep (loc' := [("numbers", .obj 0), ("split", .bool sp), ("mask", .int mk), ("cut", .bool ct), ("runs", .str (tx (runL mk)))]) (hp' := [.list (vI (a' :: vs))]) [0] (by decide) rfl (fun j hj => by rw [List.mem_singleton.mp hj]; exact (by decide : 0 < 2)) (fun i o e => ?_) (fun x v e => ?_) (law3_f (nle (Nat.succ_le_succ hv)) c)))
  · match i, e with
    | 0, e => cases e; exact ⟨0, rfl, rfl, vI_bel _ _⟩
  · refine look_cons e (fun hx hv => ?_) fun e => look_cons e (fun hx hv => ?_) fun e => look_cons e (fun hx hv => ?_) fun e => look_cons e (fun hx hv => ?_) fun e => look_cons e (fun hx hv => ?_) fun e => nomatch e
    · subst hx hv; exact .inr ⟨0, 0, rfl, rfl, by kernel_rfl⟩
    all_goals subst hx hv; exact .inl ⟨by kernel_rfl, rfl⟩
theorem law3_run {ns : List Int} (hn : ns.length ≤ 1000) (c : Cx (pg w mg mb) (lawFm (pg w mg mb) fa cd) 160 X) : RunT (pg w mg mb) (lawFm (pg w mg mb) fa cd) X (bodyOf (pg w mg mb).K 759) ⟨[("script", .ro ns)], []⟩ := by
  have A := ((law3_a (w := w) (mg := mg) (mb := mb) (fa := fa) (cd := cd) hn).le (show 120 ≤ 160 by decide)).ssX c
  have hl : ((ns.take 24).map absI).length ≤ 40 := by rw [List.length_map, List.length_take]; exact Nat.le_trans (Nat.min_le_left _ _) (by decide)
  rw [law_body]
  revert A hl
  generalize (ns.take 24).map absI = us
  intro A hl
  refine .seq A ?_
  cases us with
  | nil =>
    refine .seq (((law_b1 (w := w) (mg := mg) (mb := mb) (fa := fa) (cd := cd) (ns := ns) ⟨rfl, nofun⟩).le (show 130 ≤ 160 by decide)).ssX c) (.keep (loc' := [("numbers", .obj 0)]) (hp' := [.list (vI [0])]) [3] (by decide) rfl (fun j hj => by rw [List.mem_singleton.mp hj]; exact (by decide : 3 < 4)) (fun i o e => ?_) (fun x v e => ?_) (law3_rest (a := 0) (vs := []) (Nat.zero_le _) c))
    · match i, e with
      | 0, e => cases e; exact ⟨3, rfl, rfl, rfl⟩
    · refine look_cons e (fun hx hv => ?_) fun e => nomatch e
      subst hx hv; exact .inr ⟨0, 3, rfl, rfl, by kernel_rfl⟩
  | cons a vs =>
    refine .seq (((law_b0 (w := w) (mg := mg) (mb := mb) (fa := fa) (cd := cd) (ns := ns) (nv := vI (a :: vs)) (by show _ + 1 ≠ 0; exact Nat.succ_ne_zero _)).le (show 130 ≤ 160 by decide)).ssX c) (.keep (loc' := [("numbers", .obj 0)]) (hp' := [.list (vI (a :: vs))]) [1] (by decide) rfl (fun j hj => by rw [List.mem_singleton.mp hj]; exact (by decide : 1 < 3)) (fun i o e => ?_) (fun x v e => ?_) (law3_rest (Nat.le_of_succ_le hl) c))
    · match i, e with
      | 0, e => cases e; exact ⟨1, rfl, rfl, vI_bel _ _⟩
    · refine look_cons e (fun hx hv => ?_) fun e => nomatch e
      subst hx hv; exact .inr ⟨0, 1, rfl, rfl, by kernel_rfl⟩
end
end Mini
namespace Mini
open PySem PySem.W PySem.Calls PyProof.Rows PySem.Builtin PySem.Builtin.Str
noncomputable def cellsIn (l : List (Str × NameKind)) : List Str := l.filterMap fun p => match p.2 with
  | .cell => some p.1
  | _ => none
theorem cellsIn_of {l : List (Str × NameKind)} {x : Str} (hx : (x, NameKind.cell) ∈ l) : x ∈ cellsIn l := List.mem_filterMap.mpr ⟨_, hx, rfl⟩
theorem look2 {x a b : Str} {p q k : Addr} (h : List.lookup x [(a, p), (b, q)] = some k) : (x = a ∧ k = p) ∨ (x = b ∧ k = q) := by
  rw [List.lookup_cons] at h
  cases e : x == a with
  | true => rw [e] at h; cases h; exact .inl ⟨beq_iff_eq.mp e, rfl⟩
  | false =>
    rw [e, List.lookup_cons] at h
    cases e' : x == b with
    | true => rw [e'] at h; cases h; exact .inr ⟨beq_iff_eq.mp e', rfl⟩
    | false => rw [e'] at h; cases h
theorem law3_top {w : World} {mg mb : Str → Option Value} {s₁ s : Shared} {fa L a : Addr} {cd : Value} {vs : List Value} {ns : List Int} {m : Str → Option Value} {nm : Str} {sc : Scope} {body : List Stmt} {o1 o2 : Obj} {v1 v2 : Option Value}
    (hnm : nm = (fmOf (pg w mg mb).K 759 false).name) (hsc : sc = (fmOf (pg w mg mb).K 759 false).scope) (hbody : body = bodyOf (pg w mg mb).K 759)
    (KX : (myK w.params).In s₁.heap) (T : TopRead (myView) (looseW myView myLoose) mg mb s₁.heap) (hL : s₁.heap.IsList a vs.toArray) (hI : IntsAre vs ns) (hn : ns.length ≤ 1000)
    (F : Fr s₁.heap L s.heap m) (N : News s₁.heap L s.heap [(L + 1 + 1, o1), (L + 1, o2)]) (d1 : o1.data = .cell v1) (d2 : o2.data = .cell v2) (hm : m "script" = some (.ref a)) {Q : Flow → Shared → Prop} {E : Value → Shared → Prop}
    (hQ : ∀ m' s', Fr s₁.heap L s'.heap m' → s'.os = s.os → s'.gens = s.gens → Q (.ret (.bool true)) s') :
    wpAny (model (pg w mg mb).prog w) (callerA.deeper (envOfC nm sc L fa cd)) (execs body (envOfC nm sc L fa cd)) Q E s := by
  subst hnm hsc hbody
  have hce : ∀ k, cellsFrom k (fmOf (pg w mg mb).K 759 false).scope.names [] = [(("lex" : Str), k + 1), (("mask" : Str), k)] := fun k => by kernel_rfl
  have he : envOfC (fmOf (pg w mg mb).K 759 false).name (fmOf (pg w mg mb).K 759 false).scope L fa cd = envX (fmOf (pg w mg mb).K 759 false).name (fmOf (pg w mg mb).K 759 false).scope L fa cd [(("lex" : Str), L + 1 + 1), (("mask" : Str), L + 1)] := by unfold envOfC; rw [hce]
  rw [he]
  let X : Fx := ⟨callerA, callerA.deeper (envX (fmOf (pg w mg mb).K 759 false).name (fmOf (pg w mg mb).K 759 false).scope L fa cd [(("lex" : Str), L + 1 + 1), (("mask" : Str), L + 1)]), s₁.heap, s₁.heap, [], L, [(("lex" : Str), L + 1 + 1), (("mask" : Str), L + 1)]⟩
  have hk : (fmOf (pg w mg mb).K 759 false).scope.kind = .function := by kernel_rfl
  have c : Cx (pg w mg mb) (lawFm (pg w mg mb) fa cd) 160 X := by
    refine ⟨hk, Around.frames_deeper rfl, below_caller _, ?_, ?_, fun _ => rfl, KX, T⟩
    · show 301 + 1 + 160 < 1000; omega
    · exact (by decide : (4 + 3 : Nat) + 20 * 160 < 9800)
  have Z := law3_run (w := w) (mg := mg) (mb := mb) (fa := fa) (cd := cd) (X := X) hn c
  have hcn : cellsIn (fmOf (pg w mg mb).K 759 false).scope.names = [("mask" : Str), ("lex" : Str)] := by kernel_rfl
  have r : Rp (pg w mg mb) (lawFm (pg w mg mb) fa cd) X ⟨m, [(L + 1 + 1, o1), (L + 1, o2)], []⟩ ⟨[("script", .ro ns)], []⟩ s.heap := by
    refine ⟨F, N, List.nodup_cons.mpr ⟨fun q => absurd (List.mem_singleton.mp q) (Nat.succ_ne_self _), List.nodup_cons.mpr ⟨nofun, List.nodup_nil⟩⟩, rfl, List.nodup_nil, fun x v e => ?_, fun x hx => ?_, fun x y q h h' => ?_, (fun i o h => nomatch h)⟩
    · rw [List.lookup_cons] at e
      cases hx : x == Str.ofString "script" with
      | false => rw [hx] at e; cases e
      | true =>
        rw [hx] at e
        cases e
        rw [beq_iff_eq.mp hx]
        exact .inl ⟨by kernel_rfl, _, hm, .ro hL (by simpa using hI)⟩
    · have hin := cellsIn_of (lookup_mem hx)
      rw [show (lawFm (pg w mg mb) fa cd).scope.names = (fmOf (pg w mg mb).K 759 false).scope.names from rfl, hcn] at hin
      rcases List.mem_cons.mp hin with rfl | hin
      · exact ⟨L + 1, o2, v2, rfl, .tail _ (.head _), d2⟩
      · rw [List.mem_singleton.mp hin]
        exact ⟨L + 1 + 1, o1, v1, rfl, .head _, d1⟩
    · rcases look2 h with ⟨rfl, e⟩ | ⟨rfl, e⟩ <;> rcases look2 h' with ⟨rfl, e'⟩ | ⟨rfl, e'⟩
      · rfl
      · exact absurd (e.symm.trans e') (Nat.succ_ne_self _)
      · exact absurd (e'.symm.trans e) (Nat.succ_ne_self _)
      · rfl
  exact Z.out ⟨m, _, []⟩ s r Q E fun m' s' F' k => hQ m' s' F' (congrArg Prod.fst k.os) k.gens
end Mini
set_option maxHeartbeats 0
set_option Elab.async true
open PySem PySem.W PyProof.Rows
namespace Mini.hd
noncomputable def tw7186144246251234953 : Nat := 0
noncomputable def tw15502504323361990131 : Nat := 0
noncomputable def tw12908877471708078965 : Nat := 0
noncomputable def tw16889683806432072462 : Nat := 0
noncomputable def tw12352951041323531861 : Nat := 0
noncomputable def tw114569802391614671 : Nat := 0
noncomputable def tw5105690135926282773 : Nat := 0
noncomputable def tw17124903736928887026 : Nat := 0
noncomputable def tw9216550723026154658 : Nat := 0
noncomputable def tw6673650404043474431 : Nat := 0
noncomputable def tw5678261031423315127 : Nat := 0
noncomputable def tw3500261833345451914 : Nat := 0
noncomputable def tw10254388904234364314 : Nat := 0
noncomputable def tw10100589445040947562 : Nat := 0
noncomputable def tw5286967061178631612 : Nat := 0
noncomputable def tw16677500646273237149 : Nat := 0
noncomputable def tw17278074231672152963 : Nat := 0
noncomputable def tw7559312019439483211 : Nat := 0
noncomputable def tw5817524150539672843 : Nat := 0
noncomputable def tw13940737043859284566 : Nat := 0
noncomputable def tw17165062661500210369 : Nat := 0
noncomputable def tw18167944614069639669 : Nat := 0
noncomputable def tw12255393494721032777 : Nat := 0
noncomputable def tw6795383597775208586 : Nat := 0
noncomputable def tw9734513229370515261 : Nat := 0
noncomputable def tw17729537571382844848 : Nat := 0
noncomputable def tw12648137837781100906 : Nat := 0
noncomputable def tw4801725780269813461 : Nat := 0
noncomputable def tw7915384220326222053 : Nat := 0
noncomputable def tw3834426230653687922 : Nat := 0
noncomputable def tw3296019804172153935 : Nat := 0
noncomputable def tw17011088787077512638 : Nat := 0
noncomputable def tw6835887179134019717 : Nat := 0
noncomputable def tw16130064264157725597 : Nat := 0
noncomputable def tw9103658163486868554 : Nat := 0
noncomputable def tw11454019138998961272 : Nat := 0
noncomputable def tw6687972866345707185 : Nat := 0
noncomputable def tw10663637295396927683 : Nat := 0
noncomputable def tw269551426554399664 : Nat := 0
noncomputable def tw9109971182890156669 : Nat := 0
noncomputable def tw17591512576520507612 : Nat := 0
noncomputable def tw11533854874448459102 : Nat := 0
noncomputable def tw12690885432136575089 : Nat := 0
noncomputable def tw17163538284310975963 : Nat := 0
noncomputable def tw8894574282297625423 : Nat := 0
noncomputable def tw10407814482845492180 : Nat := 0
noncomputable def tw9453519677383295094 : Nat := 0
noncomputable def tw11321435140862038291 : Nat := 0
noncomputable def tw11233081036279226899 : Nat := 0
noncomputable def tw15459990360090350422 : Nat := 0
noncomputable def tw6760055449353752375 : Nat := 0
noncomputable def tw17180143771062596034 : Nat := 0
noncomputable def tw13968604396359731024 : Nat := 0
noncomputable def tw7771289950198049449 : Nat := 0
noncomputable def tw6862692804039108819 : Nat := 0
noncomputable def tw10293069174883939052 : Nat := 0
noncomputable def tw1098266038903082924 : Nat := 0
noncomputable def tw4840647447312680611 : Nat := 0
noncomputable def tw2720407161650905023 : Nat := 0
noncomputable def tw15293268867791794137 : Nat := 0
noncomputable def tw7464141595990812287 : Nat := 0
noncomputable def tw15122526903854719402 : Nat := 0
noncomputable def tw17665626037170628530 : Nat := 0
noncomputable def tw2477371129371154186 : Nat := 0
noncomputable def tw9007690313182607931 : Nat := 0
noncomputable def tw14360690999539540169 : Nat := 0
noncomputable def tw698216361630255239 : Nat := 0
noncomputable def tw17685269087648255402 : Nat := 0
noncomputable def tw218850043640634948 : Nat := 0
noncomputable def tw3499201857022647105 : Nat := 0
noncomputable def tw1716170115026664824 : Nat := 0
noncomputable def tw15819847712801993653 : Nat := 0
noncomputable def tw11639970651285581074 : Nat := 0
noncomputable def tw16979023096070673875 : Nat := 0
noncomputable def tw2244929865810000362 : Nat := 0
noncomputable def tw5855660802264526734 : Nat := 0
noncomputable def tw11424757138594347486 : Nat := 0
noncomputable def tw10712677008791055312 : Nat := 0
noncomputable def tw2486867629667553255 : Nat := 0
noncomputable def tw5418847822091006182 : Nat := 0
noncomputable def tw2621348370574449959 : Nat := 0
noncomputable def tw8577660131050953370 : Nat := 0
noncomputable def tw14202662134028403807 : Nat := 0
noncomputable def tw12790479728734863951 : Nat := 0
noncomputable def tw3678344649419047987 : Nat := 0
noncomputable def tw8278688778102119456 : Nat := 0
noncomputable def tw14821470551227818523 : Nat := 0
noncomputable def tw5809281215259395893 : Nat := 0
noncomputable def tw8582564248585664798 : Nat := 0
noncomputable def tw6191588985991620137 : Nat := 0
noncomputable def tw18273810767957153813 : Nat := 0
noncomputable def tw2525505062594715287 : Nat := 0
noncomputable def tw10203030368391370368 : Nat := 0
noncomputable def tw5535837544531453576 : Nat := 0
noncomputable def tw9502149205897339611 : Nat := 0
noncomputable def tw4487902553496853154 : Nat := 0
noncomputable def tw3910819167632088134 : Nat := 0
noncomputable def tw15630762346255715213 : Nat := 0
noncomputable def tw16551372235696884563 : Nat := 0
noncomputable def tw3227349538115423010 : Nat := 0
noncomputable def tw13938789405206117018 : Nat := 0
noncomputable def tw15614269873045205783 : Nat := 0
noncomputable def tw4312948844680584706 : Nat := 0
noncomputable def tw5966743467467687972 : Nat := 0
noncomputable def tw112139226582033347 : Nat := 0
noncomputable def tw1025070866418333439 : Nat := 0
noncomputable def tw1916919373832674736 : Nat := 0
noncomputable def tw11260965791812838171 : Nat := 0
noncomputable def tw7263810772980682292 : Nat := 0
noncomputable def tw4350644211492474100 : Nat := 0
noncomputable def tw16819503483911475023 : Nat := 0
noncomputable def tw6310205787801986605 : Nat := 0
noncomputable def tw1568939455839576785 : Nat := 0
noncomputable def tw13437841814163819840 : Nat := 0
noncomputable def tw14588576281384759397 : Nat := 0
noncomputable def tw9914029983488819871 : Nat := 0
noncomputable def tw5306869809897729319 : Nat := 0
noncomputable def tw14742506592264125308 : Nat := 0
noncomputable def tw14231152701479221380 : Nat := 0
noncomputable def tw1886917718321250622 : Nat := 0
noncomputable def tw15929358149126756744 : Nat := 0
noncomputable def tw11728681783170893374 : Nat := 0
noncomputable def tw15125225539953106220 : Nat := 0
noncomputable def tw14839115054375880359 : Nat := 0
noncomputable def tw5742362083338446060 : Nat := 0
noncomputable def tw5333449296007867239 : Nat := 0
noncomputable def tw12865256781813806012 : Nat := 0
noncomputable def tw18283716402152324030 : Nat := 0
noncomputable def tw13313266823641499235 : Nat := 0
noncomputable def tw10812891954503144211 : Nat := 0
noncomputable def tw18204773427560611240 : Nat := 0
noncomputable def tw14042966908556352184 : Nat := 0
noncomputable def tw13316074802512083507 : Nat := 0
noncomputable def tw4119512258873999208 : Nat := 0
noncomputable def tw3071873641366975402 : Nat := 0
noncomputable def tw18329911284843651855 : Nat := 0
noncomputable def tw8313049392594805724 : Nat := 0
noncomputable def tw4956607950720096344 : Nat := 0
noncomputable def tw9168869750377305839 : Nat := 0
noncomputable def tw6770360859200824141 : Nat := 0
noncomputable def tw1853907038448094329 : Nat := 0
noncomputable def tw9461110253909699807 : Nat := 0
noncomputable def tw9834996959918302474 : Nat := 0
noncomputable def tw15434531995168122155 : Nat := 0
noncomputable def tw9101796800340641113 : Nat := 0
noncomputable def tw7858011463082214630 : Nat := 0
noncomputable def tw16197849533848998249 : Nat := 0
noncomputable def tw6078386520768525915 : Nat := 0
noncomputable def tw15891448804096475936 : Nat := 0
noncomputable def tw18074576485403506644 : Nat := 0
noncomputable def tw8525072921492847866 : Nat := 0
noncomputable def tw15580648212567613806 : Nat := 0
noncomputable def tw126982440142582885 : Nat := 0
noncomputable def tw2402792557919038989 : Nat := 0
noncomputable def tw15573339436502084510 : Nat := 0
noncomputable def tw14202530162886498723 : Nat := 0
noncomputable def tw16147421919923659357 : Nat := 0
noncomputable def tw8212342855779554786 : Nat := 0
noncomputable def tw8761037938945843933 : Nat := 0
noncomputable def tw18095907331169659552 : Nat := 0
noncomputable def tw17358589479478722676 : Nat := 0
noncomputable def tw12730191141359281336 : Nat := 0
noncomputable def tw868015313649557921 : Nat := 0
noncomputable def tw4225730571565265454 : Nat := 0
noncomputable def tw9825286847786279438 : Nat := 0
noncomputable def tw3571410870592761359 : Nat := 0
noncomputable def tw16219423044971536549 : Nat := 0
noncomputable def tw1448224994406500516 : Nat := 0
noncomputable def tw288898395664585783 : Nat := 0
noncomputable def tw1215490475127330043 : Nat := 0
noncomputable def tw4169877817625753604 : Nat := 0
noncomputable def tw15472305710268897934 : Nat := 0
noncomputable def tw9789726082298000866 : Nat := 0
noncomputable def tw14927848372081418021 : Nat := 0
noncomputable def tw10621725186542895929 : Nat := 0
noncomputable def tw6167377827548273279 : Nat := 0
noncomputable def tw3919420760946363658 : Nat := 0
noncomputable def tw15463669919401412453 : Nat := 0
noncomputable def tw5554893753050520951 : Nat := 0
noncomputable def tw12408579784767540772 : Nat := 0
noncomputable def tw10575341858409228088 : Nat := 0
noncomputable def tw14481061986143594876 : Nat := 0
noncomputable def tw17797129494973662180 : Nat := 0
noncomputable def tw15947051600710080236 : Nat := 0
noncomputable def tw12298253235606528053 : Nat := 0
noncomputable def tw1071722827302192567 : Nat := 0
noncomputable def tw12735230558526260544 : Nat := 0
noncomputable def tw8934116469142356238 : Nat := 0
noncomputable def tw598817331566612433 : Nat := 0
noncomputable def tw11038866433989360680 : Nat := 0
noncomputable def tw14855297257497586935 : Nat := 0
noncomputable def tw16745174329319930497 : Nat := 0
noncomputable def tw4010682009791652380 : Nat := 0
noncomputable def tw16899835892065401884 : Nat := 0
noncomputable def tw82060508749053711 : Nat := 0
noncomputable def tw1850957850229025909 : Nat := 0
noncomputable def tw16051930899743306823 : Nat := 0
noncomputable def tw7852972331160340141 : Nat := 0
noncomputable def tw11609998406859472480 : Nat := 0
noncomputable def tw5675257761999911160 : Nat := 0
noncomputable def tw15006363293493601797 : Nat := 0
noncomputable def tw4353931750831865562 : Nat := 0
noncomputable def tw4412844557305502628 : Nat := 0
noncomputable def tw10470763202883700902 : Nat := 0
noncomputable def tw3199053863097731193 : Nat := 0
noncomputable def tw5661254291934587933 : Nat := 0
noncomputable def tw11491658416167386821 : Nat := 0
noncomputable def tw8792994187755607616 : Nat := 0
noncomputable def tw1312957797069809615 : Nat := 0
noncomputable def tw13019484824255872210 : Nat := 0
noncomputable def tw14620704152457912299 : Nat := 0
noncomputable def tw15199796767207195020 : Nat := 0
noncomputable def tw4942184481177630311 : Nat := 0
noncomputable def tw1696816540864984530 : Nat := 0
noncomputable def tw7075001590212237748 : Nat := 0
noncomputable def tw2788837769049857184 : Nat := 0
noncomputable def tw5717407860803752013 : Nat := 0
noncomputable def tw1522461088195410763 : Nat := 0
noncomputable def tw6651412623137353189 : Nat := 0
noncomputable def tw14267857973293142891 : Nat := 0
noncomputable def tw7330973296509945874 : Nat := 0
noncomputable def tw4838238725997016810 : Nat := 0
noncomputable def tw4712877250681227985 : Nat := 0
noncomputable def tw7721185884355720737 : Nat := 0
noncomputable def tw4839114588753854370 : Nat := 0
noncomputable def tw15456489888678075578 : Nat := 0
noncomputable def tw17905767222149370057 : Nat := 0
noncomputable def tw5166732022671172783 : Nat := 0
noncomputable def tw15181921521125088262 : Nat := 0
noncomputable def tw16458264279645306249 : Nat := 0
noncomputable def tw10612290963733108933 : Nat := 0
noncomputable def tw15413805577237097751 : Nat := 0
noncomputable def tw4620855694096321961 : Nat := 0
noncomputable def tw2625661561237228207 : Nat := 0
noncomputable def tw13209739657767206723 : Nat := 0
noncomputable def tw5415319870816342210 : Nat := 0
noncomputable def tw6767684964391622076 : Nat := 0
noncomputable def tw1820026306619079359 : Nat := 0
noncomputable def tw1539449827232270242 : Nat := 0
noncomputable def tw6592825247448563439 : Nat := 0
noncomputable def tw3258676919813560510 : Nat := 0
noncomputable def tw9136949369942257628 : Nat := 0
noncomputable def tw15041619282507648346 : Nat := 0
noncomputable def tw691842108856201975 : Nat := 0
noncomputable def tw16434640042881512156 : Nat := 0
noncomputable def tw2158557317009693295 : Nat := 0
noncomputable def tw5882734082607393583 : Nat := 0
noncomputable def tw13426286441184510233 : Nat := 0
noncomputable def tw9844724016887460010 : Nat := 0
noncomputable def tw7617773508113445529 : Nat := 0
noncomputable def tw6572511726190285953 : Nat := 0
noncomputable def tw282449526532043245 : Nat := 0
noncomputable def tw2238001229575317289 : Nat := 0
noncomputable def tw11447596644010171089 : Nat := 0
noncomputable def tw9044056076670402806 : Nat := 0
noncomputable def tw9726312165135754120 : Nat := 0
noncomputable def tw7042430945575544058 : Nat := 0
noncomputable def tw1019650761253853796 : Nat := 0
noncomputable def tw6992051792445030018 : Nat := 0
noncomputable def tw9790366714608680003 : Nat := 0
noncomputable def tw7736833851574453282 : Nat := 0
noncomputable def tw11146309944753182490 : Nat := 0
noncomputable def tw540459850451533171 : Nat := 0
noncomputable def tw9030066213705927808 : Nat := 0
noncomputable def tw5840614663198326488 : Nat := 0
noncomputable def tw17920070696994525674 : Nat := 0
noncomputable def tw14859820060968482231 : Nat := 0
noncomputable def tw16308423428950748538 : Nat := 0
noncomputable def tw6381027520609905677 : Nat := 0
noncomputable def tw14309608620259417647 : Nat := 0
noncomputable def tw8646391717803010237 : Nat := 0
noncomputable def tw7280973037744452788 : Nat := 0
noncomputable def tw1786634657784938878 : Nat := 0
noncomputable def tw6784800314939749374 : Nat := 0
noncomputable def tw8940219283857698907 : Nat := 0
noncomputable def tw1422149007727804705 : Nat := 0
noncomputable def tw4724691472294140471 : Nat := 0
noncomputable def tw9749611029309858989 : Nat := 0
noncomputable def tw494774399928532832 : Nat := 0
noncomputable def tw10087197768659657320 : Nat := 0
noncomputable def tw9970063050527503337 : Nat := 0
noncomputable def tw12559717621704927619 : Nat := 0
noncomputable def tw3863792066457727154 : Nat := 0
noncomputable def tw16728901206531621450 : Nat := 0
noncomputable def tw1372144971106980799 : Nat := 0
noncomputable def tw9321251670183246839 : Nat := 0
noncomputable def tw2301623951994591882 : Nat := 0
noncomputable def tw9027622178745494223 : Nat := 0
noncomputable def tw11922245047609434346 : Nat := 0
noncomputable def tw1955396851203118375 : Nat := 0
noncomputable def tw5873677834174527712 : Nat := 0
noncomputable def tw15447241310973291630 : Nat := 0
noncomputable def tw15661670891935395299 : Nat := 0
noncomputable def tw15649677092017417196 : Nat := 0
noncomputable def tw10968737113006814775 : Nat := 0
noncomputable def tw2159381484037594258 : Nat := 0
noncomputable def tw11600370956661985421 : Nat := 0
noncomputable def tw556970549612672780 : Nat := 0
noncomputable def tw13857043613781225127 : Nat := 0
noncomputable def tw17980767662663468342 : Nat := 0
noncomputable def tw12762809177451460186 : Nat := 0
noncomputable def tw8596351711086188238 : Nat := 0
noncomputable def tw10004470675448397817 : Nat := 0
noncomputable def tw15806344425305731991 : Nat := 0
noncomputable def tw7956165388026527143 : Nat := 0
noncomputable def tw11065325047260009958 : Nat := 0
noncomputable def tw10995512948860883746 : Nat := 0
noncomputable def tw163666948857260734 : Nat := 0
noncomputable def tw4230158893672571087 : Nat := 0
noncomputable def tw11462777871641386395 : Nat := 0
noncomputable def tw13759201354038961845 : Nat := 0
noncomputable def tw4595468548488466745 : Nat := 0
noncomputable def tw5078799045699915242 : Nat := 0
noncomputable def tw13712664722503607883 : Nat := 0
noncomputable def tw2421800203918263751 : Nat := 0
noncomputable def tw16746131301087269142 : Nat := 0
noncomputable def tw3658436557154576798 : Nat := 0
noncomputable def tw10146961402917184891 : Nat := 0
noncomputable def tw13225917528227880701 : Nat := 0
noncomputable def tw7590785973610246205 : Nat := 0
noncomputable def tw5429498740376739913 : Nat := 0
noncomputable def tw14064166714302992310 : Nat := 0
noncomputable def tw10662624448413430264 : Nat := 0
noncomputable def tw15970397800605485844 : Nat := 0
noncomputable def tw6506988807976698176 : Nat := 0
noncomputable def tw7130668783819495314 : Nat := 0
noncomputable def tw11583259434495516714 : Nat := 0
noncomputable def tw11388013412396134468 : Nat := 0
noncomputable def tw7845240478763849909 : Nat := 0
noncomputable def tw5946559557900798272 : Nat := 0
noncomputable def tw4441409747310943347 : Nat := 0
noncomputable def tw12472079228366272545 : Nat := 0
noncomputable def tw8236236764434551133 : Nat := 0
noncomputable def tw15152478851475865378 : Nat := 0
noncomputable def tw14985359554180861005 : Nat := 0
noncomputable def tw13105701661193625880 : Nat := 0
noncomputable def tw14831153141077668913 : Nat := 0
noncomputable def tw11035812519934819547 : Nat := 0
noncomputable def tw5814549463920779719 : Nat := 0
noncomputable def tw1047383939878289513 : Nat := 0
noncomputable def tw17872548021901507603 : Nat := 0
noncomputable def tw13855966982592599765 : Nat := 0
noncomputable def tw16017098782804146308 : Nat := 0
noncomputable def tw8948378497109856035 : Nat := 0
noncomputable def tw37351587437616576 : Nat := 0
noncomputable def tw17023145963642549365 : Nat := 0
noncomputable def tw8476879450269044016 : Nat := 0
noncomputable def tw4285530318508281772 : Nat := 0
noncomputable def tw12285050133457789356 : Nat := 0
noncomputable def tw10633963684002489484 : Nat := 0
noncomputable def tw14966523567866264332 : Nat := 0
noncomputable def tw3953228736571501597 : Nat := 0
noncomputable def tw11503937740301316019 : Nat := 0
noncomputable def tw15669241353985333034 : Nat := 0
noncomputable def tw4871481023110267456 : Nat := 0
noncomputable def tw7084197838475853972 : Nat := 0
noncomputable def tw5230819630046307272 : Nat := 0
noncomputable def tw13367570575832586153 : Nat := 0
noncomputable def tw10282290825696195584 : Nat := 0
noncomputable def tw2219032669812875870 : Nat := 0
noncomputable def tw11222737624302455352 : Nat := 0
noncomputable def tw14899774127889792799 : Nat := 0
noncomputable def tw15228232100031434244 : Nat := 0
noncomputable def tw16418727546455546381 : Nat := 0
noncomputable def tw3117154957729700494 : Nat := 0
noncomputable def tw7671468194923903405 : Nat := 0
noncomputable def tw8668246306601599473 : Nat := 0
noncomputable def tw10066569957068545189 : Nat := 0
noncomputable def tw8880498099850131506 : Nat := 0
noncomputable def tw13827265842251824857 : Nat := 0
noncomputable def tw1823078047416558693 : Nat := 0
noncomputable def tw2719714882052858005 : Nat := 0
noncomputable def tw1347766662250454049 : Nat := 0
noncomputable def tw6282644872148029320 : Nat := 0
noncomputable def tw18296379796467125537 : Nat := 0
noncomputable def tw14856957972799826190 : Nat := 0
noncomputable def tw17968812588015217732 : Nat := 0
noncomputable def tw991008174704417872 : Nat := 0
noncomputable def tw17597937053962180724 : Nat := 0
noncomputable def tw1987369950239510893 : Nat := 0
noncomputable def tw11045699597835144861 : Nat := 0
noncomputable def tw12675173417727820165 : Nat := 0
noncomputable def tw11158562595680598095 : Nat := 0
noncomputable def tw7699910029759234348 : Nat := 0
noncomputable def tw960569565018482528 : Nat := 0
noncomputable def tw5652060685977555981 : Nat := 0
noncomputable def tw6706160644372884291 : Nat := 0
noncomputable def tw13032786367496357964 : Nat := 0
noncomputable def tw6885118575034483028 : Nat := 0
noncomputable def tw3788927100769729324 : Nat := 0
noncomputable def tw15383198658090466258 : Nat := 0
noncomputable def tw11698855140035850222 : Nat := 0
noncomputable def tw8822490672377629847 : Nat := 0
noncomputable def tw17476790540710174529 : Nat := 0
noncomputable def tw13587331608788868532 : Nat := 0
noncomputable def tw17421404514905598003 : Nat := 0
noncomputable def tw13283483035104398843 : Nat := 0
noncomputable def tw1073981212771414502 : Nat := 0
noncomputable def tw6460524733884890177 : Nat := 0
noncomputable def tw4259133681382510360 : Nat := 0
noncomputable def tw2059925809015248904 : Nat := 0
noncomputable def tw731110992028392213 : Nat := 0
noncomputable def tw186167951358777221 : Nat := 0
noncomputable def tw13257784807463768950 : Nat := 0
noncomputable def tw13155279611745076208 : Nat := 0
noncomputable def tw7830078595237164364 : Nat := 0
noncomputable def tw12777988725390430935 : Nat := 0
noncomputable def tw18111648798027268482 : Nat := 0
noncomputable def tw15322976798080709511 : Nat := 0
noncomputable def tw14024438300552183833 : Nat := 0
noncomputable def tw3383267628593138471 : Nat := 0
noncomputable def tw610273813549387224 : Nat := 0
noncomputable def tw11500800904307966686 : Nat := 0
noncomputable def tw7673412626561967568 : Nat := 0
noncomputable def tw4805290510558142374 : Nat := 0
noncomputable def tw2393107420677125566 : Nat := 0
noncomputable def tw1487150376247004160 : Nat := 0
noncomputable def tw11104025105234420023 : Nat := 0
noncomputable def tw14092108279665083637 : Nat := 0
noncomputable def tw6134219276785175211 : Nat := 0
noncomputable def tw129211648857471947 : Nat := 0
noncomputable def tw8995276624189124526 : Nat := 0
noncomputable def tw13141540038770363569 : Nat := 0
noncomputable def tw16958400444190560724 : Nat := 0
noncomputable def tw14986318191785717337 : Nat := 0
noncomputable def tw854601895527142472 : Nat := 0
noncomputable def tw1987952867414692552 : Nat := 0
noncomputable def tw15537705046605478874 : Nat := 0
noncomputable def tw2212768607389299491 : Nat := 0
noncomputable def tw10186800062790383424 : Nat := 0
noncomputable def tw11164506337935870279 : Nat := 0
noncomputable def tw5033241109046815897 : Nat := 0
noncomputable def tw11741331479559701553 : Nat := 0
noncomputable def tw2318463163747601290 : Nat := 0
noncomputable def tw14747618155979620677 : Nat := 0
noncomputable def tw4473554959199340080 : Nat := 0
noncomputable def tw4353028894303134551 : Nat := 0
noncomputable def tw11945654490272714067 : Nat := 0
noncomputable def tw16284223160364477716 : Nat := 0
noncomputable def tw14389170449398309825 : Nat := 0
noncomputable def tw9032499708592692712 : Nat := 0
noncomputable def tw17449855632679294998 : Nat := 0
noncomputable def tw13246387999915350855 : Nat := 0
noncomputable def tw2948321524066654784 : Nat := 0
noncomputable def tw10603164659349999534 : Nat := 0
noncomputable def tw8320692318155126140 : Nat := 0
noncomputable def tw533270210878005241 : Nat := 0
noncomputable def tw4666437097640984293 : Nat := 0
noncomputable def tw9332961715153408348 : Nat := 0
noncomputable def tw12428220709791205342 : Nat := 0
noncomputable def tw12216788482016861470 : Nat := 0
noncomputable def tw8852402194801412267 : Nat := 0
noncomputable def tw643133878342120358 : Nat := 0
noncomputable def tw8618660682731670786 : Nat := 0
noncomputable def tw2824700668556926024 : Nat := 0
noncomputable def tw12066132417345858874 : Nat := 0
noncomputable def tw12033699962685138810 : Nat := 0
noncomputable def tw13645360063868609181 : Nat := 0
noncomputable def tw5754282487724370971 : Nat := 0
noncomputable def tw1346671034814614868 : Nat := 0
noncomputable def tw10417268734754024728 : Nat := 0
noncomputable def tw5360007510200589828 : Nat := 0
noncomputable def tw3657581914366473424 : Nat := 0
noncomputable def tw15643908091122590900 : Nat := 0
noncomputable def tw17728814106104522246 : Nat := 0
noncomputable def tw9304925273948074735 : Nat := 0
noncomputable def tw14711441987241427367 : Nat := 0
noncomputable def tw10228177578508484926 : Nat := 0
noncomputable def tw2655062671205090982 : Nat := 0
noncomputable def tw18277348244250070414 : Nat := 0
noncomputable def tw15681305979580616528 : Nat := 0
noncomputable def tw10416559472884290189 : Nat := 0
noncomputable def tw1248046819594306307 : Nat := 0
noncomputable def tw5558125397488139879 : Nat := 0
noncomputable def tw12487030752665074210 : Nat := 0
noncomputable def tw4868355181129358326 : Nat := 0
noncomputable def tw17655652578382486373 : Nat := 0
noncomputable def tw3639143685213047024 : Nat := 0
noncomputable def tw3283002728476101965 : Nat := 0
noncomputable def tw13354626885191814113 : Nat := 0
noncomputable def tw2471044026541385675 : Nat := 0
noncomputable def tw15936533391607162149 : Nat := 0
noncomputable def tw14605174741236038863 : Nat := 0
noncomputable def tw12236534427568524534 : Nat := 0
noncomputable def tw2620128208001159678 : Nat := 0
noncomputable def tw1904685334707116848 : Nat := 0
noncomputable def tw12726774037322802235 : Nat := 0
noncomputable def tw682855519219081284 : Nat := 0
noncomputable def tw2698603602817058246 : Nat := 0
noncomputable def tw16056536440046221766 : Nat := 0
noncomputable def tw17215482367683559844 : Nat := 0
noncomputable def tw14893010899875320254 : Nat := 0
noncomputable def tw9721353779443232622 : Nat := 0
noncomputable def tw9692153329597003906 : Nat := 0
noncomputable def tw15755104038188407765 : Nat := 0
noncomputable def tw9695385488605479667 : Nat := 0
noncomputable def tw17511596988294567062 : Nat := 0
noncomputable def tw6491249803682995504 : Nat := 0
noncomputable def tw12852432122288584477 : Nat := 0
noncomputable def tw16177075069704662708 : Nat := 0
noncomputable def tw4295200985517158269 : Nat := 0
noncomputable def tw11223508424879781228 : Nat := 0
noncomputable def tw4659522049136585961 : Nat := 0
noncomputable def tw8829204960163430438 : Nat := 0
noncomputable def tw10933215487780108740 : Nat := 0
noncomputable def tw2904217924502842207 : Nat := 0
noncomputable def tw12284607370711479746 : Nat := 0
noncomputable def tw7803367046321450250 : Nat := 0
noncomputable def tw11045287672257819841 : Nat := 0
noncomputable def tw11052814136176518509 : Nat := 0
noncomputable def tw5625054892908816518 : Nat := 0
noncomputable def tw11161873667812515287 : Nat := 0
noncomputable def tw885868718997871501 : Nat := 0
noncomputable def tw8856338053798580410 : Nat := 0
noncomputable def tw1834575290695543341 : Nat := 0
noncomputable def tw12370905785806922515 : Nat := 0
noncomputable def tw4487576265042946087 : Nat := 0
noncomputable def tw17459882326965429028 : Nat := 0
noncomputable def tw14978930345487825046 : Nat := 0
noncomputable def tw1194242247172109637 : Nat := 0
noncomputable def tw10050279494246841843 : Nat := 0
noncomputable def tw12257524255574390925 : Nat := 0
noncomputable def tw15989205072966503782 : Nat := 0
noncomputable def tw12176384737220838095 : Nat := 0
noncomputable def tw10100878134498708831 : Nat := 0
noncomputable def tw13992773145478754773 : Nat := 0
noncomputable def tw4772930796644783050 : Nat := 0
noncomputable def tw5739708776755704023 : Nat := 0
noncomputable def tw10243037027271582929 : Nat := 0
noncomputable def tw14253731753803296479 : Nat := 0
noncomputable def tw9337344330826348060 : Nat := 0
noncomputable def tw2150753089564819086 : Nat := 0
noncomputable def tw14786219223928478882 : Nat := 0
noncomputable def tw4970557897843887435 : Nat := 0
noncomputable def tw12754998101183205681 : Nat := 0
noncomputable def tw11029294030257032707 : Nat := 0
noncomputable def tw526699832249835190 : Nat := 0
noncomputable def tw10329751317984911964 : Nat := 0
noncomputable def tw3906825993674789725 : Nat := 0
noncomputable def tw13487791490620378727 : Nat := 0
noncomputable def tw11897268641319515647 : Nat := 0
noncomputable def tw15718642566314666393 : Nat := 0
noncomputable def tw1500639357213892575 : Nat := 0
noncomputable def tw5913140103004838767 : Nat := 0
noncomputable def tw1075320053137236901 : Nat := 0
noncomputable def tw17245839790471560990 : Nat := 0
noncomputable def tw4815977316245849392 : Nat := 0
noncomputable def tw14588297176493119586 : Nat := 0
noncomputable def tw16640794767180123841 : Nat := 0
noncomputable def tw9276320537299630423 : Nat := 0
noncomputable def tw7932687435052663140 : Nat := 0
noncomputable def tw9120545266230284691 : Nat := 0
noncomputable def tw10644145849544821941 : Nat := 0
noncomputable def tw6380987529730105677 : Nat := 0
noncomputable def tw14276946121821387270 : Nat := 0
noncomputable def tw13937386009318060118 : Nat := 0
noncomputable def tw5589949775084081503 : Nat := 0
noncomputable def tw15667797081663910688 : Nat := 0
noncomputable def tw3479266977635093248 : Nat := 0
noncomputable def tw8356167012210601930 : Nat := 0
noncomputable def tw3033661344852970940 : Nat := 0
noncomputable def tw8256068128817045442 : Nat := 0
noncomputable def tw6876860760394746945 : Nat := 0
noncomputable def tw7553400048488315926 : Nat := 0
noncomputable def tw12561339985091979698 : Nat := 0
noncomputable def tw13975570375196220041 : Nat := 0
noncomputable def tw6275501992428343255 : Nat := 0
noncomputable def tw11353596006253964247 : Nat := 0
noncomputable def tw16083749882663694196 : Nat := 0
noncomputable def tw281051998746608322 : Nat := 0
noncomputable def tw17478345264307097577 : Nat := 0
noncomputable def tw15290438965602523187 : Nat := 0
noncomputable def tw16746715297224676416 : Nat := 0
noncomputable def tw17326323397539719813 : Nat := 0
noncomputable def tw614264051779104933 : Nat := 0
noncomputable def tw5943447038191169919 : Nat := 0
noncomputable def tw3274914968246704758 : Nat := 0
noncomputable def tw9828475620112222227 : Nat := 0
noncomputable def tw6758773471835385118 : Nat := 0
noncomputable def tw2732557186885390312 : Nat := 0
noncomputable def tw15976854869623489425 : Nat := 0
noncomputable def tw2816302796383568971 : Nat := 0
noncomputable def tw1942302891285565471 : Nat := 0
noncomputable def tw14404594800966921802 : Nat := 0
noncomputable def tw1391493596112069323 : Nat := 0
noncomputable def tw3467591111418605781 : Nat := 0
noncomputable def tw5167978412829900789 : Nat := 0
noncomputable def tw14366848952063371885 : Nat := 0
noncomputable def tw12725746513365807638 : Nat := 0
noncomputable def tw639028954070847325 : Nat := 0
noncomputable def tw16437575446497548147 : Nat := 0
noncomputable def tw15914218785838710166 : Nat := 0
noncomputable def tw12218636808415221287 : Nat := 0
noncomputable def tw4961702412114636532 : Nat := 0
noncomputable def tw8581915462133708811 : Nat := 0
noncomputable def tw337143672471280870 : Nat := 0
noncomputable def tw5414754473459842734 : Nat := 0
noncomputable def tw15926127728937715822 : Nat := 0
noncomputable def tw11408345181815365266 : Nat := 0
noncomputable def tw16430340678972072945 : Nat := 0
noncomputable def tw763317422572605476 : Nat := 0
noncomputable def tw808386134615190956 : Nat := 0
noncomputable def tw55075154945443469 : Nat := 0
noncomputable def tw15028178185629114703 : Nat := 0
noncomputable def tw1924083158723473867 : Nat := 0
noncomputable def tw6392351729371194808 : Nat := 0
noncomputable def tw3746248625735943474 : Nat := 0
noncomputable def tw5164661219899460048 : Nat := 0
noncomputable def tw10670080070735606532 : Nat := 0
noncomputable def tw16969104539507250667 : Nat := 0
noncomputable def tw9018713308954660385 : Nat := 0
noncomputable def tw2639537537569781783 : Nat := 0
noncomputable def tw10627532283045871904 : Nat := 0
noncomputable def tw16663755345754563080 : Nat := 0
noncomputable def tw8386644246190802062 : Nat := 0
noncomputable def tw7647843046441818890 : Nat := 0
noncomputable def tw3547908390635484482 : Nat := 0
noncomputable def tw5299998765672222938 : Nat := 0
noncomputable def tw16542970001112498842 : Nat := 0
noncomputable def tw9898704370908951800 : Nat := 0
noncomputable def tw2903671421889467621 : Nat := 0
noncomputable def tw10082841032642108391 : Nat := 0
noncomputable def tw7547752611852598195 : Nat := 0
noncomputable def tw15524802289313461982 : Nat := 0
noncomputable def tw5879524050787655990 : Nat := 0
noncomputable def tw4127088052393258340 : Nat := 0
noncomputable def tw6311343884082336165 : Nat := 0
noncomputable def tw16541793638537638721 : Nat := 0
noncomputable def tw14600295140339461812 : Nat := 0
noncomputable def tw18228701538522139480 : Nat := 0
noncomputable def tw18411230502762993354 : Nat := 0
noncomputable def tw2124596600198836243 : Nat := 0
noncomputable def tw14282383580931433743 : Nat := 0
noncomputable def tw18402260493500794719 : Nat := 0
noncomputable def tw7274287421929161817 : Nat := 0
noncomputable def tw272631677129855096 : Nat := 0
noncomputable def tw6460670923267583517 : Nat := 0
noncomputable def tw3220719815213814209 : Nat := 0
noncomputable def tw12137436222392038432 : Nat := 0
noncomputable def tw8666932898155076557 : Nat := 0
noncomputable def tw7061805193051744228 : Nat := 0
noncomputable def tw13038003840618017166 : Nat := 0
noncomputable def tw18158778407123960597 : Nat := 0
noncomputable def tw7848432482775304081 : Nat := 0
noncomputable def tw3788022999610488747 : Nat := 0
noncomputable def tw11046449018411005959 : Nat := 0
noncomputable def tw16830668167446721926 : Nat := 0
noncomputable def tw2779425243950135676 : Nat := 0
noncomputable def tw7069792060090561106 : Nat := 0
noncomputable def tw12440413701317638803 : Nat := 0
noncomputable def tw13242917518180461812 : Nat := 0
noncomputable def tw3795420810934445908 : Nat := 0
noncomputable def tw4127531781398579663 : Nat := 0
noncomputable def tw15605453692915260689 : Nat := 0
noncomputable def tw16319149405679142330 : Nat := 0
noncomputable def tw5035450726731054671 : Nat := 0
noncomputable def tw7803453314951699344 : Nat := 0
noncomputable def tw10279428547650837026 : Nat := 0
noncomputable def tw2703410664974429122 : Nat := 0
noncomputable def tw3325068729171716994 : Nat := 0
noncomputable def tw1358272572467314681 : Nat := 0
noncomputable def tw6751466528622155705 : Nat := 0
noncomputable def tw4968275336809657123 : Nat := 0
noncomputable def tw18405552765878957886 : Nat := 0
noncomputable def tw14159970781809795890 : Nat := 0
noncomputable def tw9625276303502663888 : Nat := 0
noncomputable def tw10428985827854264239 : Nat := 0
noncomputable def tw15806709181115308708 : Nat := 0
noncomputable def tw13884282981089638802 : Nat := 0
noncomputable def tw10728258771086616476 : Nat := 0
noncomputable def tw2123548231142897613 : Nat := 0
noncomputable def tw1894684040343762679 : Nat := 0
noncomputable def tw3448545262267721238 : Nat := 0
noncomputable def tw14485744244468842291 : Nat := 0
noncomputable def tw16810990717999067085 : Nat := 0
noncomputable def tw1358596754365479811 : Nat := 0
noncomputable def tw10544566149843729846 : Nat := 0
noncomputable def tw9811140208786643888 : Nat := 0
noncomputable def tw11648895481338717747 : Nat := 0
noncomputable def tw3276817470879169897 : Nat := 0
noncomputable def tw9285448185132430765 : Nat := 0
noncomputable def tw9533881235894942018 : Nat := 0
noncomputable def tw6815486563184935474 : Nat := 0
noncomputable def tw13588271678965895654 : Nat := 0
noncomputable def tw11315620044976185831 : Nat := 0
noncomputable def tw2467843750047995345 : Nat := 0
noncomputable def tw5263316627559027474 : Nat := 0
noncomputable def tw10718617023465715395 : Nat := 0
noncomputable def tw11521632229024146454 : Nat := 0
noncomputable def tw14910687367843171987 : Nat := 0
noncomputable def tw16430736707174317764 : Nat := 0
noncomputable def tw15887761357729030381 : Nat := 0
noncomputable def tw6571805826566531197 : Nat := 0
noncomputable def tw8927544328500378776 : Nat := 0
noncomputable def tw6520374141154256049 : Nat := 0
noncomputable def tw519719453349843229 : Nat := 0
noncomputable def tw7964372688812519064 : Nat := 0
noncomputable def tw4600438344283984568 : Nat := 0
noncomputable def tw17703729186060082824 : Nat := 0
noncomputable def tw4900982922185830104 : Nat := 0
noncomputable def tw13694801433555084024 : Nat := 0
noncomputable def tw14073196180683428192 : Nat := 0
noncomputable def tw9480452036987820952 : Nat := 0
noncomputable def tw16153951021204455636 : Nat := 0
noncomputable def tw14263638093718779249 : Nat := 0
noncomputable def tw17086501074273815848 : Nat := 0
noncomputable def tw15215400183874418702 : Nat := 0
noncomputable def tw2217900409878994690 : Nat := 0
noncomputable def tw16957876217004392900 : Nat := 0
noncomputable def tw1316673065681248428 : Nat := 0
noncomputable def tw8950673983009728133 : Nat := 0
noncomputable def tw6087399519064193390 : Nat := 0
noncomputable def tw10077685019625987222 : Nat := 0
noncomputable def tw18296455457387480698 : Nat := 0
noncomputable def tw824706315736752515 : Nat := 0
noncomputable def tw8018885687303055098 : Nat := 0
noncomputable def tw16108782103399198157 : Nat := 0
noncomputable def tw10169782013717605774 : Nat := 0
noncomputable def tw8564894427992311566 : Nat := 0
noncomputable def tw17091615696028280219 : Nat := 0
noncomputable def tw15070157733971712937 : Nat := 0
noncomputable def tw9914628723349170738 : Nat := 0
noncomputable def tw7657046764330950511 : Nat := 0
noncomputable def tw4468864060657258972 : Nat := 0
noncomputable def tw7060944715789874812 : Nat := 0
noncomputable def tw2548922619561005794 : Nat := 0
noncomputable def tw16689220358448555868 : Nat := 0
noncomputable def tw14071414708167107535 : Nat := 0
noncomputable def tw8035072131134519466 : Nat := 0
noncomputable def tw2040904690487624542 : Nat := 0
noncomputable def tw7131359141704803362 : Nat := 0
noncomputable def tw13803006001142556240 : Nat := 0
noncomputable def tw16572662158764883338 : Nat := 0
noncomputable def tw2543708788261251549 : Nat := 0
noncomputable def tw8290158837643418678 : Nat := 0
noncomputable def tw11258001909707061792 : Nat := 0
noncomputable def tw16690253849772167658 : Nat := 0
noncomputable def tw16353249586475706311 : Nat := 0
noncomputable def tw12983563496202302582 : Nat := 0
noncomputable def tw15429246446631043423 : Nat := 0
noncomputable def tw5662806693051811553 : Nat := 0
noncomputable def tw7440140261501308165 : Nat := 0
noncomputable def tw15750052696903088772 : Nat := 0
noncomputable def tw5904114886450828830 : Nat := 0
noncomputable def tw5721125738480255296 : Nat := 0
noncomputable def tw1971611888202836339 : Nat := 0
noncomputable def tw7754632057520546774 : Nat := 0
noncomputable def tw14209724639504091479 : Nat := 0
noncomputable def tw16616153075213441567 : Nat := 0
noncomputable def tw12664035439055344727 : Nat := 0
noncomputable def tw11063107956833822631 : Nat := 0
noncomputable def tw13559960863157563234 : Nat := 0
noncomputable def tw7821546968170716627 : Nat := 0
noncomputable def tw16632856560882835717 : Nat := 0
noncomputable def tw14144697604806437478 : Nat := 0
noncomputable def tw14047445047471510853 : Nat := 0
noncomputable def tw876152058824756851 : Nat := 0
noncomputable def tw13808282337228541604 : Nat := 0
noncomputable def tw16637092138204440211 : Nat := 0
noncomputable def tw5337838823925131991 : Nat := 0
noncomputable def tw4280758979788852603 : Nat := 0
noncomputable def tw8914677087902961606 : Nat := 0
noncomputable def tw4371312443110694985 : Nat := 0
noncomputable def tw2042737799095246968 : Nat := 0
noncomputable def tw14415012067888307834 : Nat := 0
noncomputable def tw17699214342236391201 : Nat := 0
noncomputable def tw3030156181691281129 : Nat := 0
noncomputable def tw5010254519207427809 : Nat := 0
noncomputable def tw14231304627896215175 : Nat := 0
noncomputable def tw8378521085964355597 : Nat := 0
noncomputable def tw12534099351381374794 : Nat := 0
noncomputable def tw16994006420651350810 : Nat := 0
noncomputable def tw15023190412310174518 : Nat := 0
noncomputable def tw10707804958991618142 : Nat := 0
noncomputable def tw1586171608459633131 : Nat := 0
noncomputable def tw5335318125975470910 : Nat := 0
noncomputable def tw11518277280062965338 : Nat := 0
noncomputable def tw18262327029631766585 : Nat := 0
noncomputable def tw4324576507214924179 : Nat := 0
noncomputable def tw12393553604118433215 : Nat := 0
noncomputable def tw4630395663861636478 : Nat := 0
noncomputable def tw17890358060397817269 : Nat := 0
noncomputable def tw3638281910377435935 : Nat := 0
noncomputable def tw3662425892111498870 : Nat := 0
noncomputable def tw13401013975078259954 : Nat := 0
noncomputable def tw6577013132132071707 : Nat := 0
noncomputable def tw14603446010182191418 : Nat := 0
noncomputable def tw17702615479900653535 : Nat := 0
noncomputable def tw17154556595119443078 : Nat := 0
noncomputable def tw2126505557841803543 : Nat := 0
noncomputable def tw5895126228206283933 : Nat := 0
noncomputable def tw10202888828229803573 : Nat := 0
noncomputable def tw3543808648562120347 : Nat := 0
noncomputable def tw863373935265166969 : Nat := 0
noncomputable def tw2446348475978018129 : Nat := 0
noncomputable def tw13427423028035031908 : Nat := 0
noncomputable def tw740030775523203534 : Nat := 0
noncomputable def tw8997810375440088444 : Nat := 0
noncomputable def tw4588919609060616257 : Nat := 0
noncomputable def tw18116093763938689468 : Nat := 0
noncomputable def tw16269080875903037375 : Nat := 0
noncomputable def tw14465031279474656762 : Nat := 0
noncomputable def tw8912365223065298681 : Nat := 0
noncomputable def tw6239767629473432934 : Nat := 0
noncomputable def tw11791609870464189051 : Nat := 0
noncomputable def tw18339795831590182092 : Nat := 0
noncomputable def tw7990739750123400268 : Nat := 0
noncomputable def tw3037086875912046022 : Nat := 0
noncomputable def tw17972541139003493303 : Nat := 0
noncomputable def tw16891107084301899776 : Nat := 0
noncomputable def tw8498401502218320318 : Nat := 0
noncomputable def tw831783344121823125 : Nat := 0
noncomputable def tw339203525129258971 : Nat := 0
noncomputable def tw10831335322989027779 : Nat := 0
noncomputable def tw3901507094233897500 : Nat := 0
noncomputable def tw7371512638105938288 : Nat := 0
noncomputable def tw6737766604113552791 : Nat := 0
noncomputable def tw14098128518936779725 : Nat := 0
noncomputable def tw18095120981642594348 : Nat := 0
noncomputable def tw1773498026766871418 : Nat := 0
noncomputable def tw14313142573707871793 : Nat := 0
noncomputable def tw9362995852120090949 : Nat := 0
noncomputable def tw8484665467354527168 : Nat := 0
noncomputable def tw6749433882734257938 : Nat := 0
noncomputable def tw3161589657253152352 : Nat := 0
noncomputable def tw14512625653389748593 : Nat := 0
noncomputable def tw6388839466224960370 : Nat := 0
noncomputable def tw16817434436462275859 : Nat := 0
noncomputable def tw6885507234241978274 : Nat := 0
noncomputable def tw6943919220275150623 : Nat := 0
noncomputable def tw4740201257300420128 : Nat := 0
noncomputable def tw2550483491463284239 : Nat := 0
noncomputable def tw15335777406864978921 : Nat := 0
noncomputable def tw13362188014222517803 : Nat := 0
noncomputable def tw11412101859203959846 : Nat := 0
noncomputable def tw3548435201658482049 : Nat := 0
noncomputable def tw9942269027750825816 : Nat := 0
noncomputable def tw12295775110982488197 : Nat := 0
noncomputable def tw3320421925043010666 : Nat := 0
noncomputable def tw7743714868499994411 : Nat := 0
noncomputable def tw18158172004316234742 : Nat := 0
noncomputable def tw12441077887565415387 : Nat := 0
noncomputable def tw3281521989768370475 : Nat := 0
noncomputable def tw6135605919050961376 : Nat := 0
noncomputable def tw12963844494612686095 : Nat := 0
noncomputable def tw14383494189487701124 : Nat := 0
noncomputable def tw18014025652297593728 : Nat := 0
noncomputable def tw11170927455830103990 : Nat := 0
noncomputable def tw17605779902224834578 : Nat := 0
noncomputable def tw2253637348647524971 : Nat := 0
noncomputable def tw3407533643055548834 : Nat := 0
noncomputable def tw386311860066237766 : Nat := 0
noncomputable def tw13728527561784096546 : Nat := 0
noncomputable def tw11440952825592022415 : Nat := 0
noncomputable def tw13825960415021821645 : Nat := 0
noncomputable def tw12251371182449573359 : Nat := 0
noncomputable def tw6136733189797254418 : Nat := 0
noncomputable def tw2190091533207249143 : Nat := 0
noncomputable def tw15546955651899134976 : Nat := 0
noncomputable def tw7791181729127745926 : Nat := 0
noncomputable def tw10190059030092356978 : Nat := 0
noncomputable def tw18225964933284629815 : Nat := 0
noncomputable def tw9063165272624595471 : Nat := 0
noncomputable def tw15393398129172689207 : Nat := 0
noncomputable def tw12942224740971257220 : Nat := 0
noncomputable def tw18125225722806066957 : Nat := 0
noncomputable def tw9184851440738764242 : Nat := 0
noncomputable def tw17072755145263064439 : Nat := 0
noncomputable def tw4430725245464358354 : Nat := 0
noncomputable def tw17598279472617017734 : Nat := 0
noncomputable def tw1416516043329549719 : Nat := 0
noncomputable def tw7855503073193163618 : Nat := 0
noncomputable def tw7593469564517700023 : Nat := 0
noncomputable def tw7417169872243275250 : Nat := 0
noncomputable def tw13346914494821653975 : Nat := 0
noncomputable def tw17183257662954985970 : Nat := 0
noncomputable def tw4455099781152711191 : Nat := 0
noncomputable def tw13444590575325969165 : Nat := 0
noncomputable def tw13726467743428361288 : Nat := 0
noncomputable def tw2320147039223016616 : Nat := 0
noncomputable def tw6343882599184203077 : Nat := 0
noncomputable def tw7006394381460391176 : Nat := 0
noncomputable def tw599784468170555781 : Nat := 0
noncomputable def tw10111900834359793928 : Nat := 0
noncomputable def tw7144856478192336136 : Nat := 0
noncomputable def tw6833913446048899368 : Nat := 0
noncomputable def tw7201034272786789010 : Nat := 0
noncomputable def tw12169008611317675895 : Nat := 0
noncomputable def tw13721554131056186002 : Nat := 0
noncomputable def tw1233401191556589495 : Nat := 0
noncomputable def tw16117241736944933028 : Nat := 0
noncomputable def tw9323626252146244535 : Nat := 0
noncomputable def tw1439211893527538322 : Nat := 0
noncomputable def tw9216336374243562162 : Nat := 0
noncomputable def tw1025934787303376200 : Nat := 0
noncomputable def tw1647595022288114354 : Nat := 0
noncomputable def tw11196465099040846936 : Nat := 0
noncomputable def tw9116795368461372840 : Nat := 0
noncomputable def tw18109806078727623279 : Nat := 0
noncomputable def tw2841270755483408504 : Nat := 0
noncomputable def tw13367436355201467154 : Nat := 0
noncomputable def tw9309601267319830648 : Nat := 0
noncomputable def tw9383432692194554468 : Nat := 0
noncomputable def tw8890332946181218488 : Nat := 0
noncomputable def tw12602892102959432610 : Nat := 0
noncomputable def tw5452505182408850680 : Nat := 0
noncomputable def tw17537137082364079759 : Nat := 0
noncomputable def tw2485409938901216712 : Nat := 0
noncomputable def tw12386690602808597135 : Nat := 0
noncomputable def tw12453567266637159243 : Nat := 0
noncomputable def tw15027328145555716584 : Nat := 0
noncomputable def tw2540060853069195186 : Nat := 0
noncomputable def tw5006499635128582584 : Nat := 0
noncomputable def tw12595937038690040230 : Nat := 0
noncomputable def tw8305119393048935016 : Nat := 0
noncomputable def tw292892417596599864 : Nat := 0
noncomputable def tw13936088865760988847 : Nat := 0
noncomputable def tw12828047260655429208 : Nat := 0
noncomputable def tw8660627488552710130 : Nat := 0
noncomputable def tw16696372394023118733 : Nat := 0
noncomputable def tw12711208228064556648 : Nat := 0
noncomputable def tw2267415114496179844 : Nat := 0
noncomputable def tw8042390547900665060 : Nat := 0
noncomputable def tw9457988068087647362 : Nat := 0
noncomputable def tw8556697748154487238 : Nat := 0
noncomputable def tw10572904036174356104 : Nat := 0
noncomputable def tw1024879149590976037 : Nat := 0
noncomputable def tw5365260459279655755 : Nat := 0
noncomputable def tw16655711833611539883 : Nat := 0
noncomputable def tw3971526976463748805 : Nat := 0
noncomputable def tw5482650499228160815 : Nat := 0
noncomputable def tw1765533648775346451 : Nat := 0
noncomputable def tw14253460719637904136 : Nat := 0
noncomputable def tw7211069692674268467 : Nat := 0
noncomputable def tw981789777007753230 : Nat := 0
noncomputable def tw14282835403684517049 : Nat := 0
noncomputable def tw18212971708155623641 : Nat := 0
noncomputable def tw14261099720382213369 : Nat := 0
noncomputable def tw14691788826682799213 : Nat := 0
noncomputable def tw3746268645782574927 : Nat := 0
noncomputable def tw13720891190711214050 : Nat := 0
noncomputable def tw3561438865252330905 : Nat := 0
noncomputable def tw14544444952967615339 : Nat := 0
noncomputable def tw5934050014420712921 : Nat := 0
noncomputable def tw16859999217208027737 : Nat := 0
noncomputable def tw16469937009759983193 : Nat := 0
noncomputable def tw3458723588839693988 : Nat := 0
noncomputable def tw450205701068382643 : Nat := 0
noncomputable def tw9484668887684969327 : Nat := 0
noncomputable def tw3495744090288314041 : Nat := 0
noncomputable def tw9983811813343531919 : Nat := 0
noncomputable def tw6362448206222793996 : Nat := 0
noncomputable def tw4556982375733483508 : Nat := 0
noncomputable def tw2667490732482539439 : Nat := 0
noncomputable def tw8647520001369149305 : Nat := 0
noncomputable def tw578622584954658713 : Nat := 0
noncomputable def tw15459365266230709486 : Nat := 0
noncomputable def tw5206623966790106211 : Nat := 0
noncomputable def tw6458689460391448115 : Nat := 0
noncomputable def tw8979431111850640070 : Nat := 0
noncomputable def tw5965719927548044387 : Nat := 0
noncomputable def tw14813070115048090778 : Nat := 0
noncomputable def tw12515979483227879297 : Nat := 0
noncomputable def tw4448756352321080320 : Nat := 0
noncomputable def tw17910231221220132435 : Nat := 0
noncomputable def tw13930117233098577968 : Nat := 0
noncomputable def tw14807375703334489353 : Nat := 0
noncomputable def tw6923346383571336272 : Nat := 0
noncomputable def tw12925401459131561165 : Nat := 0
noncomputable def tw17168405791052079216 : Nat := 0
noncomputable def tw7287777634443803843 : Nat := 0
noncomputable def tw13957941039692971203 : Nat := 0
noncomputable def tw16840182903562753390 : Nat := 0
noncomputable def tw990404513005959610 : Nat := 0
noncomputable def tw2407753973099501018 : Nat := 0
noncomputable def tw14092901708209130720 : Nat := 0
noncomputable def tw17994555500165102138 : Nat := 0
noncomputable def tw10836647151088447270 : Nat := 0
noncomputable def tw2884732708110113161 : Nat := 0
noncomputable def tw6996506656098115853 : Nat := 0
noncomputable def tw16319866933146556720 : Nat := 0
noncomputable def tw9062696688531533434 : Nat := 0
noncomputable def tw18150833561236079475 : Nat := 0
noncomputable def tw1009755557654575427 : Nat := 0
noncomputable def tw9065627631406198061 : Nat := 0
noncomputable def tw11033928902271184602 : Nat := 0
noncomputable def tw11161545877117017217 : Nat := 0
noncomputable def tw1212234821967983526 : Nat := 0
noncomputable def tw18281856090990837498 : Nat := 0
noncomputable def tw13706583900125880133 : Nat := 0
noncomputable def tw6786794539891496553 : Nat := 0
noncomputable def tw12643492494243366714 : Nat := 0
noncomputable def tw9034132909803191130 : Nat := 0
noncomputable def tw17166680656638202160 : Nat := 0
noncomputable def tw4880994386535779629 : Nat := 0
noncomputable def tw14071054178964479942 : Nat := 0
noncomputable def tw8071636573942513997 : Nat := 0
noncomputable def tw15210321432494661574 : Nat := 0
noncomputable def tw18068523926972136507 : Nat := 0
noncomputable def tw3487483042411699600 : Nat := 0
noncomputable def tw2828545308324122779 : Nat := 0
noncomputable def tw13168576267396994203 : Nat := 0
noncomputable def tw7094425552283129044 : Nat := 0
noncomputable def tw16714285352921924256 : Nat := 0
noncomputable def tw9611882334413396219 : Nat := 0
noncomputable def tw12115375973427584283 : Nat := 0
noncomputable def tw13372669491313035652 : Nat := 0
noncomputable def tw12502291684122199419 : Nat := 0
noncomputable def tw9173058872354153349 : Nat := 0
noncomputable def tw14638688671811257652 : Nat := 0
noncomputable def tw10255048606342119585 : Nat := 0
noncomputable def tw17325667887126218222 : Nat := 0
noncomputable def tw14667170802172692297 : Nat := 0
noncomputable def tw14796751649359545161 : Nat := 0
noncomputable def tw18275470984024139291 : Nat := 0
noncomputable def tw7763167670341491184 : Nat := 0
noncomputable def tw15835104045715740135 : Nat := 0
noncomputable def tw3158268710337851337 : Nat := 0
noncomputable def tw102796348930227533 : Nat := 0
noncomputable def tw17948243529504628347 : Nat := 0
noncomputable def tw7634841965396454836 : Nat := 0
noncomputable def tw15521095654664231579 : Nat := 0
noncomputable def tw5277877415260362416 : Nat := 0
noncomputable def tw2616210088415686363 : Nat := 0
noncomputable def tw13167927592763437851 : Nat := 0
noncomputable def tw12534306790945436180 : Nat := 0
noncomputable def tw15323016358952378171 : Nat := 0
noncomputable def tw17311681779137214299 : Nat := 0
noncomputable def tw6734076913411803003 : Nat := 0
noncomputable def tw8869998717622687284 : Nat := 0
noncomputable def tw6623307928976049716 : Nat := 0
noncomputable def tw3862252952640943099 : Nat := 0
noncomputable def tw15780553180839771715 : Nat := 0
noncomputable def tw3539626941285035068 : Nat := 0
noncomputable def tw6772152798514981980 : Nat := 0
noncomputable def tw14057311767249268892 : Nat := 0
noncomputable def tw16127453796721388700 : Nat := 0
noncomputable def tw9449583902158563516 : Nat := 0
noncomputable def tw17862526656943853788 : Nat := 0
noncomputable def tw7690132902201685575 : Nat := 0
noncomputable def tw3120858292833495356 : Nat := 0
noncomputable def tw9401172209056114448 : Nat := 0
noncomputable def tw16209343515889817268 : Nat := 0
noncomputable def tw6217586530805931883 : Nat := 0
noncomputable def tw11532543965907052336 : Nat := 0
noncomputable def tw4517985393138508565 : Nat := 0
noncomputable def tw536811467782467316 : Nat := 0
noncomputable def tw539809569441324675 : Nat := 0
noncomputable def tw12731891743973266631 : Nat := 0
noncomputable def tw3373797733709849020 : Nat := 0
noncomputable def tw15398790751239295828 : Nat := 0
noncomputable def tw15415731579644673764 : Nat := 0
noncomputable def tw11769944986599884660 : Nat := 0
noncomputable def tw10131785306463273098 : Nat := 0
noncomputable def tw10047407029059499205 : Nat := 0
noncomputable def tw4545315682363022224 : Nat := 0
noncomputable def tw7349788840652957218 : Nat := 0
noncomputable def tw1899103827644415612 : Nat := 0
noncomputable def tw14161880208081716924 : Nat := 0
noncomputable def tw6130134909105008348 : Nat := 0
noncomputable def tw9117456545058095140 : Nat := 0
noncomputable def tw5381844470644219925 : Nat := 0
noncomputable def tw9249183237094270812 : Nat := 0
noncomputable def tw12477503984694870702 : Nat := 0
noncomputable def tw4215632433226210325 : Nat := 0
noncomputable def tw11192052827086548869 : Nat := 0
noncomputable def tw12437748117188724938 : Nat := 0
noncomputable def tw13957656836539216611 : Nat := 0
noncomputable def tw10729071563282169442 : Nat := 0
noncomputable def tw8493988979588584110 : Nat := 0
noncomputable def tw16101643929317442080 : Nat := 0
noncomputable def tw4707734156828964957 : Nat := 0
noncomputable def tw1531870164286729639 : Nat := 0
noncomputable def tw4125852845675841344 : Nat := 0
noncomputable def tw8152563329855560109 : Nat := 0
noncomputable def tw10188401410981527504 : Nat := 0
noncomputable def tw5742786951727876381 : Nat := 0
noncomputable def tw15125511554209277218 : Nat := 0
noncomputable def tw7027532343774890229 : Nat := 0
noncomputable def tw16905312155968336117 : Nat := 0
noncomputable def tw18378536396833478965 : Nat := 0
noncomputable def tw12787817567163277885 : Nat := 0
noncomputable def tw443919923083361569 : Nat := 0
noncomputable def tw17297868381864383505 : Nat := 0
noncomputable def tw17239775930161178058 : Nat := 0
noncomputable def tw14116671147124219349 : Nat := 0
noncomputable def tw4200677736439605917 : Nat := 0
noncomputable def tw9977697678831944992 : Nat := 0
noncomputable def tw3078156700274109283 : Nat := 0
noncomputable def tw14727807734670498293 : Nat := 0
noncomputable def tw11555904415365070691 : Nat := 0
noncomputable def tw17624101176848576576 : Nat := 0
noncomputable def tw4753159277153424196 : Nat := 0
noncomputable def tw4602868296296648213 : Nat := 0
noncomputable def tw4294731916581911073 : Nat := 0
noncomputable def tw12209437337605056542 : Nat := 0
noncomputable def tw2541641016483383358 : Nat := 0
noncomputable def tw4264919182574431313 : Nat := 0
noncomputable def tw11531151014170605098 : Nat := 0
noncomputable def tw6863668790368028894 : Nat := 0
noncomputable def tw15044546049824293493 : Nat := 0
noncomputable def tw1112627732705688181 : Nat := 0
noncomputable def tw11781319622666066982 : Nat := 0
noncomputable def tw1366781687905404497 : Nat := 0
noncomputable def tw18104984606586490001 : Nat := 0
noncomputable def tw21991451162235198 : Nat := 0
noncomputable def tw488686591999694143 : Nat := 0
noncomputable def tw3499130270921730698 : Nat := 0
noncomputable def tw16222305901022519692 : Nat := 0
noncomputable def tw10504386516077237425 : Nat := 0
noncomputable def tw12248776445624151457 : Nat := 0
noncomputable def tw10346278545675465525 : Nat := 0
noncomputable def tw12186526581467823851 : Nat := 0
noncomputable def tw17729278648452687623 : Nat := 0
noncomputable def tw30534514107570951 : Nat := 0
noncomputable def tw17868508100923150846 : Nat := 0
noncomputable def tw9823618270310811857 : Nat := 0
noncomputable def tw5574301819799105422 : Nat := 0
noncomputable def tw6545525791398183861 : Nat := 0
noncomputable def tw611686261049350242 : Nat := 0
noncomputable def tw6266690042586497898 : Nat := 0
noncomputable def tw198695323064106289 : Nat := 0
noncomputable def tw14920224755968285009 : Nat := 0
noncomputable def tw13585755865249503569 : Nat := 0
noncomputable def tw5832100402713288173 : Nat := 0
noncomputable def tw2827568684118023979 : Nat := 0
noncomputable def tw13629131385254953902 : Nat := 0
noncomputable def tw15908363993992185738 : Nat := 0
noncomputable def tw15161601481291409310 : Nat := 0
noncomputable def tw687853883816744337 : Nat := 0
noncomputable def tw4704836205307218509 : Nat := 0
noncomputable def tw5141205340950563990 : Nat := 0
noncomputable def tw11438265666860695716 : Nat := 0
noncomputable def tw17163034251312388159 : Nat := 0
noncomputable def tw11116722622491996833 : Nat := 0
noncomputable def tw187516277958829163 : Nat := 0
noncomputable def tw16882086039288223039 : Nat := 0
noncomputable def tw8619916036953883377 : Nat := 0
noncomputable def tw6201328596872610535 : Nat := 0
noncomputable def tw1995866691326860399 : Nat := 0
noncomputable def tw2385487873120680589 : Nat := 0
noncomputable def tw14468083172333196769 : Nat := 0
noncomputable def tw18072657312308620358 : Nat := 0
noncomputable def tw4891103902978356735 : Nat := 0
noncomputable def tw2687517189779259370 : Nat := 0
noncomputable def tw1456021783484411222 : Nat := 0
noncomputable def tw8339462744874409963 : Nat := 0
noncomputable def tw16304390702717642367 : Nat := 0
noncomputable def tw12754238248163824747 : Nat := 0
noncomputable def tw94221938588232716 : Nat := 0
noncomputable def tw3057970516547567367 : Nat := 0
noncomputable def tw12529325696996712054 : Nat := 0
noncomputable def tw16061253748128364310 : Nat := 0
noncomputable def tw8926027120848741164 : Nat := 0
noncomputable def tw6077033338906705558 : Nat := 0
noncomputable def tw1988008145411216369 : Nat := 0
noncomputable def tw939298425493049279 : Nat := 0
noncomputable def tw11004544194366766628 : Nat := 0
noncomputable def tw11188020707562339295 : Nat := 0
noncomputable def tw3974423678511895537 : Nat := 0
noncomputable def tw13123106623904780287 : Nat := 0
noncomputable def tw6041737112519633167 : Nat := 0
noncomputable def tw1720673785193681657 : Nat := 0
noncomputable def tw17986004487247191 : Nat := 0
noncomputable def tw8810686792655181710 : Nat := 0
noncomputable def tw2937223536833440086 : Nat := 0
noncomputable def tw9728905761999061191 : Nat := 0
noncomputable def tw18326275691010258986 : Nat := 0
noncomputable def tw16692208858502249671 : Nat := 0
end Mini.hd
theorem Mini.hd : PySem.Challenge.rw_io0015_03.Holds := by
  w_on; o_law; o_head (kHook Mini.myK Mini.myAs Mini.myAs_eq)
  case hw => w_witness2
  intro w s₀ s₁ mg mb G Y fa o pm cd doc dV kV ho hd hcd hD hmg hg args vals as hpre hlay hrd hwl hlo
  have KX := kIn_of Y
  k_behind G ho hd hcd hD hmg hpre hlay hrd hwl hlo cd
  rename Top _ _ _ _ _ _ => T
  rename Fr _ _ _ _ => F
  rename News _ _ _ _ => N
  rename ¬ (_ < _) => hlen
  refine Mini.law3_top (mg := mg) (mb := mb) (by kernel_rfl) (by kernel_rfl) (by kernel_rfl) KX (Eq.mp (by kernel_rfl) (topRead_of T)) (by assumption) (by assumption) (by omega) F N (by assumption) (by assumption) rfl ?_
  intro m' s' F' hos hg'
  refine goodW_bool F' (hg'.trans (by assumption)) (raisesW_false ?_) ?_ hos
  · wrow_none_raised
  · wrow_post
theorem PySem.Challenge.cw_io0015_03_holds : PySem.Challenge.rw_io0015_03.Holds :=
  Mini.hd
