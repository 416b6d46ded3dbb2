import PyProof.Rows.All
import Wide.All
import OpenK.AllK
import Wide.FinOn
import PySem.Challenge.RW_wj0061_01
set_option Elab.async false
set_option maxRecDepth 100000
set_option maxHeartbeats 8000000
namespace Mine
section
open PySem PySem.W PyProof.Rows PySem.W.X
theorem said61 : PySem.Challenge.rw_wj0061_01.wellSaid = true := by
  rw [PySem.W.Fast.te9446332074065402090]
  kernel_rfl
noncomputable def vw61 : Program := by
  refine' (fun (l : List Stmt) (_ : ([0, 1, 3, 4, 5, 8, 9, 11, 12, 13, 15, 17, 18, 19] : List Nat).filterMap (fun i => PySem.Challenge.pw_wj0061_01.main.body[i]?) = l) => ({ PySem.Challenge.pw_wj0061_01 with main := { PySem.Challenge.pw_wj0061_01.main with body := l } } : Program)) _ ?h
  case h =>
    dsimp only [PySem.Challenge.pw_wj0061_01, List.filterMap_cons, List.filterMap_nil, List.getElem?_cons_zero, List.getElem?_cons_succ]
    exact rfl
section
local macro_rules | `(tactic| o_head $H) => `(tactic| (have H9 := $H; contradiction))
theorem hk (f : False) : PySem.Challenge.rw_wj0061_01.Holds := by
  refine holds_law said61 fun said => ?_; k_head
end
noncomputable abbrev P61 : Program := PySem.Challenge.rw_wj0061_01.row.prog
noncomputable abbrev loose61 : List Str := [Str.ofString "length_hint", Str.ofString "COMPILER_FLAG_NAMES", Str.ofString "tspecials", Str.ofString "_name_disallowed_re", Str.ofString "_value_disallowed_re", Str.ofString "_formatparam"]
noncomputable abbrev Xt61 : Shared → Bool := fun s => xlAt vw61 [] s && recOk PySem.Challenge.rw_wj0061_01.row.records s
noncomputable def as61 : List Addr := [2, 3, 32, 34, 35, 37, 38, 39, 41, 42, 44, 45, 46, 48, 49, 51, 52, 53, 55, 56, 58, 59, 60, 61, 63, 64, 66, 67, 68, 69, 71, 72, 74, 75, 79, 80, 84, 85, 89, 90, 91, 92, 94, 95, 97, 98, 106, 107, 109, 110, 112, 113, 114, 116, 117, 119, 120, 121, 123, 124, 126, 127, 128, 130, 131, 133, 134, 135, 138, 139, 140, 142, 143, 145, 146, 147, 149, 150, 152, 153, 154, 157, 158, 159, 160, 162, 163, 165, 166, 167, 170, 171, 172, 175, 176, 177, 179, 180, 182, 183, 184, 186, 187, 189, 190, 191, 194, 195, 196, 198, 199, 201, 202, 203, 205, 206, 208, 209, 210, 212, 213, 215, 216, 217, 218, 219, 220, 221, 224, 227, 228, 229, 232, 233, 234, 237, 238]
noncomputable def Yf61 : Shared → List (Option Obj) × Nat := fun s => (as61.map s.heap.get?, s.toks)
noncomputable def Ya61 : World → List (Option Obj) × Nat := fun w => ((hk.heap_1 w.params).map fun p => some p.2, 655)
theorem top_f (w : World) : (openEnds treeTable P61 (w.withFollow "special-get-raises" false) 2974).map (fun s => (openSeen vw61 loose61 (importedModules P61.main.body) Xt61 true s, Yf61 s)) = some (openGood vw61 loose61, Ya61 (w.withFollow "special-get-raises" false)) := by
  unfold openEnds fencedOpening topFrom
  rw [PySem.W.Fast.te14082659384304107361, PySem.W.Fast.te4187177175401517315, PySem.W.Fast.te14364793385576792824, PySem.W.Fast.te10274390034422433532, PySem.W.Fast.te14289696077712309145, PySem.W.Fast.te1435165496053646825]
  kernel_rfl
theorem top_t (w : World) : (openEnds treeTable P61 (w.withFollow "special-get-raises" true) 2974).map (fun s => (openSeen vw61 loose61 (importedModules P61.main.body) Xt61 true s, Yf61 s)) = some (openGood vw61 loose61, Ya61 (w.withFollow "special-get-raises" true)) := by
  unfold openEnds fencedOpening topFrom
  rw [PySem.W.Fast.te14082659384304107361, PySem.W.Fast.te4187177175401517315, PySem.W.Fast.te14364793385576792824, PySem.W.Fast.te10274390034422433532, PySem.W.Fast.te14289696077712309145, PySem.W.Fast.te1435165496053646825]
  kernel_rfl
theorem left61 : LeftO P61 vw61 loose61 Xt61 Yf61 Ya61 2974 := byRow2 "special-get-raises" (P := fun w => (openEnds treeTable P61 w 2974).map (fun s => (openSeen vw61 loose61 (importedModules P61.main.body) Xt61 true s, Yf61 s)) = some (openGood vw61 loose61, Ya61 w)) top_f top_t
end
section
open PySem PySem.W PyProof.Rows PySem.Spec PySem.Calls
noncomputable abbrev prog := PySem.Challenge.pw_wj0061_01
noncomputable abbrev LL : List Str := looseW vw61 [Str.ofString "length_hint", Str.ofString "COMPILER_FLAG_NAMES", Str.ofString "tspecials", Str.ofString "_name_disallowed_re", Str.ofString "_value_disallowed_re", Str.ofString "_formatparam"]
end
section
open PySem PySem.W PyProof.Rows PySem.Spec PySem.Calls
/-- a text of plain printable signs -/
noncomputable def clean (v : Str) : Prop := ∀ c ∈ v.cps.toList, 32 ≤ c ∧ c < 127
noncomputable def codeN : Array Nat := #[14, 10, 4, 1, 1, 22, 0, 31, 16, 127, 0, 13, 7, 22, 0, 31, 16, 127, 0, 1]
noncomputable def codeV : Array Nat := #[14, 14, 4, 1, 1, 9, 4294966783, 0, 0, 2147483648, 0, 0, 0, 0, 0, 13, 11, 9, 4294966783, 0, 0, 2147483648, 0, 0, 0, 0, 0, 1]
open PySem.Sre in
theorem inN (c : Nat) (h : 32 ≤ c ∧ c < 127) (seen : Sre.Seen) : ∃ seen', inSet codeN c codeN.size 5 true seen = .ok (false, seen') := by
  have h1 : (decide ((0 : Nat) ≤ c) && decide (c ≤ 31)) = false := by simp; omega
  have h2 : (c == 127) = false := by simp; omega
  refine ⟨((seen.add 22).add 16).add 0, ?_⟩
  show (if (decide ((0 : Nat) ≤ c) && decide (c ≤ 31)) = true then Except.ok (true, seen.add 22) else (if (c == 127) = true then Except.ok (true, (seen.add 22).add 16) else Except.ok (!true, ((seen.add 22).add 16).add 0))) = _
  rw [h1, h2]
  exact rfl
theorem bitV : ∀ c : Fin 127, 32 ≤ c.val → (decide (c.val < 256) && (codeV.getD (5 + (1 + c.val / 32)) 0).testBit (c.val % 32)) = false := by decide +kernel
open PySem.Sre in
theorem inV (c : Nat) (h : 32 ≤ c ∧ c < 127) (seen : Sre.Seen) : ∃ seen', inSet codeV c codeV.size 5 true seen = .ok (false, seen') := by
  have h1 := bitV ⟨c, h.2⟩ h.1
  refine ⟨(seen.add 9).add 0, ?_⟩
  show (if (decide (c < 256) && (codeV.getD (5 + (1 + c / 32)) 0).testBit (c % 32)) = true then Except.ok (true, seen.add 9) else Except.ok (!true, (seen.add 9).add 0)) = _
  rw [h1]
  exact rfl
open PySem.Sre in
theorem admits (code text : Array Nat) (hin : ∀ c, (32 ≤ c ∧ c < 127) → ∀ seen, ∃ seen', inSet code c code.size 5 true seen = .ok (false, seen')) (ht : ∀ c ∈ text.toList, 32 ≤ c ∧ c < 127)
    (m : M) (hc : m.code = code) (hx : m.text = text) (hl : m.lim = text.size) : ∀ fuel s seen, ∃ seen', M.admitted m fuel s seen = .ok (none, seen')
  | 0, _, seen => ⟨seen, rfl⟩
  | fuel + 1, s, seen => by
    unfold M.admitted
    by_cases hs : s ≥ m.lim
    · rw [if_pos hs]; exact ⟨seen, rfl⟩
    · rw [if_neg hs]
      have hlt : s < text.size := by omega
      have hg : m.text.getD s 0 = text[s] := by rw [hx]; simp [Array.getD, hlt]
      obtain ⟨seen', e⟩ := hin text[s] (ht _ (by simp)) seen
      rw [hg, hc, e]
      exact admits code text hin ht m hc hx hl fuel (s + 1) seen'
open PySem.Sre in
theorem attempt_no (m : M) (hf : m.hasFirstSet = true) (s : Nat) (first : Bool) {seen'} (h : M.admitted m (m.lim + 1 - s) s m.seen = .ok (none, seen')) : m.attemptFrom s first = { m with seen := seen' }.say false := by
  unfold M.attemptFrom
  rw [hf, h]
  rfl
open PySem.Sre in
theorem run_no (m : M) (ha : m.answer = some false) (hf : m.frames = []) (ho : m.outcome = none) : (m.runFor 4).outcome = some .failed := by
  obtain ⟨⟩ := m
  simp only at ha hf ho
  subst ha hf ho
  rfl
open PySem.Sre in
theorem search_fails (code text : Array Nat) (hcode : code = codeN ∨ code = codeV) (ht : ∀ c ∈ text.toList, 32 ≤ c ∧ c < 127) : ((forSearch code text 0 0 text.size false).runFor 4).outcome = some .failed := by
  have hin : ∀ c, (32 ≤ c ∧ c < 127) → ∀ seen, ∃ seen', inSet code c code.size 5 true seen = .ok (false, seen') := by
    rcases hcode with rfl | rfl
    · exact inN
    · exact inV
  unfold forSearch
  dsimp only
  split
  · refine run_no _ ?_ ?_ ?_ <;> rfl
  · have key : ∀ m : M, m.code = code → m.text = text → m.lim = text.size → m.frames = [] → m.outcome = none → m.hasFirstSet = true → ((m.attemptFrom 0 true).runFor 4).outcome = some .failed := by
      intro m h1 h2 h3 h4 h5 h6
      obtain ⟨seen', e⟩ := admits code text hin ht m h1 h2 h3 (m.lim + 1 - 0) 0 m.seen
      rw [attempt_no m h6 0 true e]
      exact run_no _ rfl h4 h5
    refine key _ rfl rfl rfl rfl rfl ?_
    rcases hcode with rfl | rfl <;> rfl
end
section
open PySem PySem.W PyProof.Rows PySem.Spec PySem.Calls
theorem plainAttrs_pat : PlainAttrs "re.Pattern" :=
  ⟨⟨"object.__getattribute__", by rw [typeLookup_type, builtinLookup_eq_fast]; kernel_rfl, by decide +kernel⟩, by rw [typeLookup_type, builtinLookup_eq_fast]; kernel_rfl⟩
theorem slot_search : Slot "re.Pattern" "search" "re.Pattern.search" :=
  .of (owner := "re.Pattern") (n := "search") (by rw [typeLookup_type, builtinLookup_eq_fast]; kernel_rfl) (by decide +kernel) (by decide +kernel) (by decide +kernel)
    (by first | exact .inl (by decide +kernel) | exact .inr (by decide +kernel)) (by rw [isSubtype_type]; kernel_rfl)
theorem type_search : typeOf (.builtin "re.Pattern.search") = pure (.type "method_descriptor") := by show builtinType _ = _; rw [builtinType_eq_fast]; kernel_rfl
theorem entry_search : entryFor table "re.Pattern.search" = some Builtin.«re.Pattern.search» := entryFor_of_tree (by kernel_rfl)
theorem owner_pat : Manifest.owners.lookup (String.ofList ['n', 'r', 'e', 't', 't', 'a', 'P', '.', 'e', 'r'].reverse) = some Manifest.sig_re_Pattern := by kernel_rfl
theorem args_search (a b : Value) : argsOk "re.Pattern.search" ⟨[a, b], []⟩ := by
  unfold argsOk; rw [signature?_of (id := "re.Pattern.search") (n := ['h', 'c', 'r', 'a', 'e', 's']) (o := ['n', 'r', 'e', 't', 't', 'a', 'P', '.', 'e', 'r']) (by kernel_rfl) owner_pat]; kernel_rfl
section
open PySem.Builtin.Re
variable {M : Model} {A : Around} {E : Value → Shared → Prop} {s : Shared}
theorem driven {m : Sre.M} {Q : Option Sre.M → Shared → Prop} (h : (m.runFor 4).outcome = some .failed) (hq : Q none s) : wpAny M A (reRunToEnd m) Q E s := by
  have e : reDrive (2 ^ 64) m = pure (m.runFor 4) := by
    show reDrive ((2 ^ 64 - 1) + 1) m = _
    unfold reDrive
    show (if (m.runFor 4).outcome.isSome = true then _ else _) = _
    rw [h]; rfl
  unfold reRunToEnd
  rw [e]
  refine wpAny_bind (wpAny_pure ?_)
  refine wpAny_bind ?_
  rw [h]
  dsimp only
  refine wpAny_forIn_list _ (fun _ _ s' => s' = s) _ ?_ ?_ _ _ rfl
  · rintro i rest ⟨⟩ s' rfl
    split
    · exact wpAny_bind (wpAny_rule (wpAny_pure rfl))
    · exact wpAny_pure rfl
  · rintro ⟨⟩ s' rfl
    exact wpAny_pure hq
end
section
open PySem.Builtin.Re
variable {prog : Program} {w : World} {A : Around} {E : Value → Shared → Prop} {s : Shared}
theorem search_call {p c : Addr} {pat : Value} {t1 t2 : Tok} {v : Str} {tv : Tok} {its : List Value} {Q : Value → Shared → Prop}
    (hp : s.heap.get? p = some { cls := .type "re.Pattern", data := .fields #[pat, .int 32 t1, .int 0 t2, .none, .none, .ref c, .int 0 0] })
    (hc : s.heap.get? c = some { cls := .type "tuple", data := .seq its.toArray })
    (hcode : ((its.toArray.map reRawOf).map (·.toNat)) = codeN ∨ ((its.toArray.map reRawOf).map (·.toNat)) = codeV) (hv : clean v) (hl : v.cps.size < 2 ^ 62) (h : Q .none s) :
    wpAny (model prog w) A (call (.builtin "re.Pattern.search") [.ref p, .str v tv]) Q E s := by
  refine wpAny_call (codeAny_call_builtin slot_search.plain entry_search (slot_search.check _ _ _ _ _ _ _ _ ⟨_, hp, rfl⟩ (args_search _ _) ?_))
  show wpAny _ _ (reTarget "re.Pattern.search" "search" ⟨[.ref p, .str v tv], []⟩ >>= fun t => reAnswer t (Sre.forSearch t.code t.text t.groups t.pos t.lim false)) _ _ s
  refine wpAny_bind ?_
  have e1 : reNamed "re.Pattern.search" "search" ["string", "pos", "endpos"] 1 [.str v tv] [] = pure [some (.str v tv), none, none] := by rfl
  unfold reTarget
  dsimp only
  rw [e1]
  refine wpAny_bind (wpAny_pure ?_)
  dsimp only
  refine wpAny_bind (wpAny_pure ?_)
  refine wpAny_bind (wpAny_pure ?_)
  refine wpAny_bind (m := fieldsOf (.ref p)) ?_
  unfold fieldsOf
  dsimp only
  refine wpAny_bind (wpAny_load hp (wpAny_pure ?_))
  refine wpAny_bind (m := reTextOf (.str v tv)) (wpAny_of_eq (a := (v.cps, 0)) rfl ?_)
  dsimp only
  refine wpAny_bind (m := reNoCollectionInside (.str v tv) 0) (wpAny_of_eq (a := ()) rfl ?_)
  refine wpAny_bind (m := reRawItems (.ref c)) ?_
  unfold reRawItems
  refine wpAny_bind (m := seqItems? (.ref c)) ?_
  unfold seqItems?
  dsimp only
  refine wpAny_bind (wpAny_load hc (wpAny_pure ?_))
  refine wpAny_pure ?_
  refine wpAny_pure ?_
  dsimp only
  unfold reAnswer
  refine wpAny_bind (driven ?_ ?_)
  · have hlim : min (2 ^ 63 - 1 : Int).toNat v.cps.size = v.cps.size := by omega
    have hlim' : min 9223372036854775807 v.cps.size = v.cps.size := by omega
    have h0 : reRawNat (Value.int 0 t2) = 0 := rfl
    have key := search_fails ((its.toArray.map reRawOf).map (·.toNat)) v.cps hcode hv
    simpa [hlim', h0] using key
  · exact wpAny_pure h
end
end
section
open PySem PySem.W PyProof.Rows PySem.Spec PySem.Calls
section
variable {prog : Program} {w : World} {A : Around} {E : Value → Shared → Prop} {s : Shared} {K : Frag} {h₀ : Heap} {L : Addr} {m : Str → Option Value}
theorem meth_pat {p : Addr} {fs : Array Value} {pl : Sem Bool} {Q : Value × List Value → Shared → Prop} (F : Fr h₀ L s.heap m) (X : K.In h₀)
    (hk : K.lookup p = some { cls := .type "re.Pattern", data := .fields fs }) (h : Q (.builtin "re.Pattern.search", [.ref p]) s) :
    wpAny (model prog w) A (getMethod (.ref p) "search" pl) Q E s :=
  getMethod_builtin ⟨_, F.keep _ _ (X _ _ hk), rfl⟩ plainAttrs_pat slot_search type_search (fun a e => by cases e; exact ⟨_, F.keep _ _ (X _ _ hk), rfl⟩) h
theorem search_K {p c : Addr} {pat : Value} {t1 t2 : Tok} {v : Str} {tv : Tok} {its : List Value} {Q : Value → Shared → Prop} (F : Fr h₀ L s.heap m) (X : K.In h₀)
    (hk : K.lookup p = some { cls := .type "re.Pattern", data := .fields #[pat, .int 32 t1, .int 0 t2, .none, .none, .ref c, .int 0 0] })
    (hk2 : K.lookup c = some { cls := .type "tuple", data := .seq its.toArray })
    (hcode : ((its.toArray.map PySem.Builtin.Re.reRawOf).map (·.toNat)) = codeN ∨ ((its.toArray.map PySem.Builtin.Re.reRawOf).map (·.toNat)) = codeV) (hv : clean v) (hl : v.cps.size < 2 ^ 62) (h : Q .none s) :
    wpAny (model prog w) A (call (.builtin "re.Pattern.search") [.ref p, .str v tv]) Q E s :=
  search_call (F.keep _ _ (X _ _ hk)) (F.keep _ _ (X _ _ hk2)) hcode hv hl h
end
end
section
open PySem PySem.W PyProof.Rows PySem.Spec PySem.Calls
theorem joined_one (x v : Str) : Txt.join x [v] = v := by
  first | rfl | (show PySem.Str.join x [v] = v; rfl) | (unfold Txt.join; rfl)
section
variable {prog : Program} {w : World} {A : Around} {E : Value → Shared → Prop} {s : Shared} {h₀ : Heap} {L : Addr} {m : Str → Option Value} {news : List (Addr × Obj)}
theorem join_one {D : Addr} {k : Nat} {its : Array Value} {x v : Str} {tx tv : Tok} {Q : Value → Shared → Prop} (N : News h₀ L s.heap news) (hm : (D, listOf its k) ∈ news) (hi : its = #[.str v tv]) (hx : x.length ≤ 64) (hl : v.cps.size < 2 ^ 20)
    (h : ∀ t' k, Q (.str v t') { s with toks := k }) : wpAny (model prog w) A (call (.builtin "str.join") [.str x tx, .ref D]) Q E s := by
  subst hi
  refine join_listC (ys := [v]) (News.isList N hm) (.cons v tv .nil) hx ?_ (fun t' k => ?_)
  · have : v.length = v.cps.size := rfl
    simp only [List.map_cons, List.map_nil, List.sum_cons, List.sum_nil, List.length_cons, List.length_nil]
    omega
  · rw [joined_one]; exact h t' k
end
end
section
open PySem PySem.W PyProof.Rows PySem.Spec PySem.Calls
theorem subL_of : ∀ {l all : List (Addr × Obj)}, (∀ p ∈ l, p ∈ all) → SubL l all
  | [], _, _ => trivial
  | _ :: _, _, h => And.intro (h _ (.head _)) (subL_of fun p hp => h p (.tail _ hp))
theorem offW_of {I : Addr} {o : Obj} : ∀ {l : List (Addr × Obj)}, (∀ p ∈ l, p.1 ≠ I) → OffW [(I, o)] l
  | [], _ => trivial
  | _ :: _, h => And.intro (And.intro (Or.inl (h _ (.head _))) trivial) (offW_of fun p hp => h p (.tail _ hp))
/-- a map but for two names -/
noncomputable def upd2 (x y : Str) (a b : Option Value) (m : Str → Option Value) : Str → Option Value := fun z => if z = x then a else if z = y then b else m z
noncomputable def upd1 (x : Str) (a : Option Value) (m : Str → Option Value) : Str → Option Value := fun z => if z = x then a else m z
theorem agree2 {x y : Str} {m m₀ : Str → Option Value} (h : ∀ z, z ≠ x → z ≠ y → m z = m₀ z) : m = upd2 x y (m x) (m y) m₀ := by
  funext z
  unfold upd2
  split
  · rename_i e; rw [e]
  · split
    · rename_i e; rw [e]
    · rename_i h1 h2; exact h z h1 h2
theorem agree1 {x : Str} {m m₀ : Str → Option Value} (h : ∀ z, z ≠ x → m z = m₀ z) : m = upd1 x (m x) m₀ := by
  funext z
  unfold upd1
  split
  · rename_i e; rw [e]
  · rename_i h1; exact h z h1
noncomputable def upd3 (x y u : Str) (a b c : Option Value) (m : Str → Option Value) : Str → Option Value := fun z => if z = x then a else if z = y then b else if z = u then c else m z
theorem agree3 {x y u : Str} {c : Option Value} {m m₀ : Str → Option Value} (h : ∀ z, z ≠ x → z ≠ y → z ≠ u → m z = m₀ z) (hc : m u = c) : m = upd3 x y u (m x) (m y) c m₀ := by
  funext z
  unfold upd3
  split
  · rename_i e; rw [e]
  · split
    · rename_i e; rw [e]
    · split
      · rename_i e; rw [e, hc]
      · rename_i h1 h2 h3; exact h z h1 h2 h3
section
variable {prog : Program} {w : World} {A : Around} {E : Value → Shared → Prop} {s : Shared} {env : Env} {h₀ : Heap} {target : Expr} {body : List Stmt} {Q : Flow → Shared → Prop}
theorem items_J {ws : List (Addr × String)} {keep : List (Addr × Obj)} {xs : List Itm} {m₀ : Str → Option Value} {news : List (Addr × Obj)}
    (J : (Str → Option Value) → List (Addr × Obj) → Nat → (Str → Option Value) → List (Addr × Obj) → Prop) (h0 : J m₀ news 0 m₀ news)
    (turn : ∀ i a, xs[i]? = some a → ∀ m₁ news₁, J m₀ news i m₁ news₁ → ∀ v h tk, a.Is v h → Fr h₀ env.locals h m₁ → AllObj ws (fun its => News h₀ env.locals h (its ++ news₁) →
      wpAny (model prog w) A (assign target env v) (fun _ s₂ => wpAny (model prog w) A (execs body env) (UnrPostW h₀ env.locals { s with heap := h, toks := tk } its (fun m' n' => SubL keep n' ∧ J m₀ news (i + 1) m' n') Q) E s₂) E { s with heap := h, toks := tk }))
    (done : ∀ m₁ news₁ h tk, J m₀ news xs.length m₁ news₁ → Fr h₀ env.locals h m₁ → News h₀ env.locals h news₁ → Q .next { s with heap := h, toks := tk }) :
    ItemsRest prog w A E h₀ env target body Q s ws keep xs m₀ news := by
  have key : ∀ k i, xs.length - i = k → i ≤ xs.length → ∀ m₁ news₁, J m₀ news i m₁ news₁ → ItemsRest prog w A E h₀ env target body Q s ws keep (xs.drop i) m₁ news₁ := by
    intro k
    induction k with
    | zero =>
      intro i hk hi m₁ news₁ hJ
      have e : i = xs.length := by omega
      subst e
      rw [List.drop_length]
      exact ItemsRest.zero fun h tk F N => done m₁ news₁ h tk hJ F N
    | succ k ih =>
      intro i hk hi m₁ news₁ hJ
      have hlt : i < xs.length := by omega
      rw [List.drop_eq_getElem_cons hlt]
      intro v h tk ha F
      have T := turn i xs[i] (List.getElem?_eq_getElem hlt) m₁ news₁ hJ v h tk ha F
      have conv : ∀ (ws : List (Addr × String)) (P P' : List (Addr × Obj) → Prop), (∀ its, P its → P' its) → AllObj ws P → AllObj ws P' := by
        intro ws
        induction ws with
        | nil => intro P P' hp hP; exact hp _ hP
        | cons w r ih => intro P P' hp hP o ho; exact ih _ _ (fun its h => hp _ h) (hP o ho)
      refine conv _ _ _ (fun its hh N => ?_) T
      refine wpAny_mono (hh N) (fun _ s₂ h₂ => wpAny_mono h₂ (fun f s₃ p => ?_) fun _ _ e => e) fun _ _ e => e
      have up : UnrEndW h₀ env.locals { s with heap := h, toks := tk } its (fun m' n' => SubL keep n' ∧ J m₀ news (i + 1) m' n') s₃ → UnrEndW h₀ env.locals { s with heap := h, toks := tk } its (fun m' n' => SubL keep n' ∧ ItemsRest prog w A E h₀ env target body Q s ws keep (xs.drop (i + 1)) m' n') s₃ := by
        rintro ⟨h', tk', m', news', e, F', N', ho, hk', hJ'⟩
        exact ⟨h', tk', m', news', e, F', N', ho, hk', ih (i + 1) (by omega) (by omega) m' news' hJ'⟩
      cases f with
      | ret v => exact p
      | brk => exact p
      | next => exact up p
      | cont => exact up p
  have := key xs.length 0 (by omega) (Nat.zero_le _) m₀ news h0
  rwa [List.drop_zero] at this
end
end
section
open PySem PySem.W PyProof.Rows PySem.Spec PySem.Calls
section
variable {prog : Program} {w : World} {A : Around} {E E₁ : Value → Shared → Prop} {s : Shared} {env : Env} {h₀ : Heap} {body orelse : List Stmt} {Q : Flow → Shared → Prop}
theorem pyIter_rangeJ {x : Str} {px : Pos} {r : Addr} {n : Nat} {t u v : Tok} {m₀ : Str → Option Value} {news : List (Addr × Obj)} (hh : A.handled = none)
    (hr : IsRange s.heap r 0 (n : Int) 1 t u v) (hn : n < 1000) (F : Fr h₀ env.locals s.heap m₀) (N : News h₀ env.locals s.heap news)
    (hE : PassesOwn (model prog w) A env E₁)
    (J : (Str → Option Value) → List (Addr × Obj) → Nat → (Str → Option Value) → List (Addr × Obj) → Prop) (h0 : J m₀ news 0 m₀ news)
    (turn : ∀ I, (∀ p ∈ news, p.1 < I) → ∀ i, i < n → ∀ m₁ news₁, J m₀ news i m₁ news₁ → (∀ p ∈ news₁, p.1 ≠ I) → ∀ t' h tk, Fr h₀ env.locals h m₁ → News h₀ env.locals h ((I, itR ((i + 1 : Nat) : Int) ((n : Int) - ((i + 1 : Nat) : Int))) :: news₁) →
      wpAny (model prog w) A (assign (.Name x px) env (.int (i : Int) t')) (fun _ s₂ => wpAny (model prog w) A (execs body env) (UnrPostW h₀ env.locals { s with heap := h, toks := tk } [(I, itR ((i + 1 : Nat) : Int) ((n : Int) - ((i + 1 : Nat) : Int)))] (fun m' n' => J m₀ news (i + 1) m' n') Q) E₁ s₂) E₁ { s with heap := h, toks := tk })
    (done : ∀ m₁ news₁ h tk, J m₀ news n m₁ news₁ → Fr h₀ env.locals h m₁ → News h₀ env.locals h news₁ → wpAny (model prog w) A (execs orelse env) Q E₁ { s with heap := h, toks := tk }) :
    wpAny (model prog w) A (pyIter (.ref r)) (fun it s₂ => codeAny (model prog w) A (.forLoop (.Name x px) it body orelse env) (fun res s' => match res with | .ok f => Q f s' | .error e => cameBackBy (model prog w) A env E₁ e s') s₂) E s := by
  have hsz : Builtin.Range.rangeSize 0 (n : Int) 1 = (n : Int) := by
    unfold Builtin.Range.rangeSize
    simp
    omega
  have hsm : Builtin.Range.small 0 (n : Int) 1 = true := by
    unfold Builtin.Range.small
    rw [hsz]
    have e1 : Builtin.Range.rangeFitsLong (n : Int) = true := by unfold Builtin.Range.rangeFitsLong; simp; omega
    have e2 : Builtin.Range.rangeFitsLong ((n : Int) + (1 - 1)) = true := by unfold Builtin.Range.rangeFitsLong; simp; omega
    have e3 : Builtin.Range.rangeFitsLong 0 = true := by decide
    have e4 : Builtin.Range.rangeFitsLong 1 = true := by decide
    rw [e1, e3, e4, if_pos (by decide), e2]
    simp
  refine wpAny_pyIter_range hr hsm ?_
  rw [hsz]
  generalize hI : s.heap.objs.size = I
  have hIs : IsRangeIter (s.heap.push { cls := .type "range_iterator", data := .fields #[rawInt 0, rawInt (n : Int), rawInt 1] }) I 0 n 1 := by
    rw [← hI]; exact Heap.get?_push_size _ rfl
  have W := Walks.range (prog := prog) (w := w) hh I 0 1 n
  have hnew : h₀.get? I = none := by rw [← hI]; exact next_is_new F
  have hLI : env.locals ≠ I := by rw [← hI]; exact Nat.ne_of_lt F.ns.lt
  have hbel : ∀ p ∈ news, p.1 < I := fun p hp => by rw [← hI]; exact Heap.lt_size (N p hp).1
  refine codeAny_forLoop_any
    (fun k s' => ∃ h' tk m' news' i, s' = { s with heap := h', toks := tk } ∧ IsRangeIter h' I (0 + (i : Nat) * 1) ((n : Int) - (i : Nat)) 1 ∧ Fr h₀ env.locals h' m' ∧ News h₀ env.locals h' news' ∧ (∀ p ∈ news', p.1 ≠ I) ∧ J m₀ news i m' news' ∧ i ≤ n ∧ k = n + 1 - i) ?_ (n + 1)
    ⟨_, s.toks, m₀, news, 0, rfl, by simpa using hIs, F.push _, (fun p hp => ⟨Heap.get?_push_of_some _ (N p hp).1, (N p hp).2⟩), (fun p hp => Nat.ne_of_lt (hbel p hp)), h0, Nat.zero_le _, rfl⟩
  rintro k s' ⟨h', tk, m', news', i, rfl, hst, F', N', hoff, hJ, hi, rfl⟩
  have keepF : ∀ h₁ : Heap, (∀ b o, b ∉ [I] → h'.get? b = some o → h₁.get? b = some o) → Fr h₀ env.locals h₁ m' ∧ News h₀ env.locals h₁ news' := fun h₁ hk =>
    ⟨⟨F'.ns.at' fun o e => hk _ o (by simpa using hLI) e, fun b o e => hk b o (fun hb => by rw [List.mem_singleton.mp hb, hnew] at e; cases e) (F'.keep b o e), F'.above⟩,
      fun p hp => ⟨hk _ _ (by simpa using hoff p hp) (N' p hp).1, (N' p hp).2⟩⟩
  by_cases hlt : i < n
  · refine W.item i _ _ _ hlt hst fun v h₁ tk₁ hP hst₁ hk₁ => ?_
    obtain ⟨t', rfl⟩ := hP
    obtain ⟨F₁, N₁⟩ := keepF h₁ hk₁
    show wpAny _ _ (pure ()) _ _ _
    refine wpAny_pure ?_
    have e0 : (0 : Int) + (i : Int) * 1 = (i : Int) := by omega
    have hst₁' : h₁.get? I = some (itR ((i + 1 : Nat) : Int) ((n : Int) - ((i + 1 : Nat) : Int))) := by
      have q : IsRangeIter h₁ I (0 + ((i + 1 : Nat) : Int) * 1) ((n : Int) - ((i + 1 : Nat) : Int)) 1 := hst₁
      have e1 : (0 : Int) + ((i + 1 : Nat) : Int) * 1 = ((i + 1 : Nat) : Int) := by omega
      rw [e1] at q
      exact q
    rw [e0]
    have N₂ : News h₀ env.locals h₁ ((I, itR ((i + 1 : Nat) : Int) ((n : Int) - ((i + 1 : Nat) : Int))) :: news') := fun p hp => by
      rcases List.mem_cons.mp hp with rfl | hp
      · exact ⟨hst₁', Ne.symm hLI, hnew⟩
      · exact N₁ p hp
    refine wpAny_mono (turn I hbel i hlt m' news' hJ hoff t' h₁ tk₁ F₁ N₂) (fun _ s₂ h₂ => ?_) (fun e s' x => hE e s' x)
    refine wpAny_mono h₂ (fun f s₃ p => ?_) (fun e s' x => hE e s' x)
    have fin : UnrEndW h₀ env.locals { s with heap := h₁, toks := tk₁ } [(I, itR ((i + 1 : Nat) : Int) ((n : Int) - ((i + 1 : Nat) : Int)))] (fun m' n' => J m₀ news (i + 1) m' n') s₃ →
        ∃ m, m < n + 1 - i ∧ ∃ h' tk m' news' i, s₃ = { s with heap := h', toks := tk } ∧ IsRangeIter h' I (0 + (i : Nat) * 1) ((n : Int) - (i : Nat)) 1 ∧ Fr h₀ env.locals h' m' ∧ News h₀ env.locals h' news' ∧ (∀ p ∈ news', p.1 ≠ I) ∧ J m₀ news i m' news' ∧ i ≤ n ∧ m = n + 1 - i := by
      rintro ⟨h₄, tk₄, m₄, news₄, rfl, F₄, N₄, ho, hJ₄⟩
      refine ⟨n + 1 - (i + 1), by omega, h₄, tk₄, m₄, news₄, i + 1, rfl, ?_, F₄, fun p hp => N₄ p (.tail _ hp), fun p hp => ho p hp _ (.head _), hJ₄, hlt, rfl⟩
      have q := (N₄ _ (.head _)).1
      have e1 : (0 : Int) + ((i + 1 : Nat) : Int) * 1 = ((i + 1 : Nat) : Int) := by omega
      rw [e1]
      exact q
    cases f with
    | ret v => exact p
    | brk => exact p
    | next => exact fin p
    | cont => exact fin p
  · have hin : i = n := by omega
    subst hin
    refine W.done _ _ _ hst fun h₁ tk₁ hk₁ => ?_
    obtain ⟨F₁, N₁⟩ := keepF h₁ hk₁
    exact wpAny_mono (done m' news' h₁ tk₁ hJ F₁ N₁) (fun _ _ x => x) (fun e s' x => hE e s' x)
end
end
section
open PySem PySem.W PyProof.Rows PySem.Spec PySem.Calls PySem.Builtin PySem.Builtin.Str
/-- a token of the top's, or one made since `lo` -/
noncomputable def tkOk (lo : Nat) (t : Tok) : Prop := (0 < t ∧ t < 655) ∨ lo ≤ t
noncomputable def tkP (lo hi : Nat) (t : Tok) : Prop := tkOk lo t ∧ t < hi
theorem tkP.mono {lo hi hi' : Nat} {t : Tok} (h : tkP lo hi t) (hh : hi ≤ hi') : tkP lo hi' t := ⟨h.1, Nat.lt_of_lt_of_le h.2 hh⟩
theorem tkP.new {lo t : Nat} (h : lo ≤ t) : tkP lo (t + 1) t := ⟨.inr h, Nat.lt_succ_self t⟩
inductive StrsP (P : Tok → Prop) : List Value → List Str → Prop
  | nil : StrsP P [] []
  | cons {vs : List Value} {ys : List Str} (y : Str) (t : Tok) : P t → StrsP P vs ys → StrsP P (.str y t :: vs) (y :: ys)
theorem StrsP.are {P : Tok → Prop} {vs : List Value} {ys : List Str} (h : StrsP P vs ys) : StrsAre vs ys := by
  induction h with
  | nil => exact .nil
  | cons y t _ _ ih => exact .cons y t ih
theorem StrsP.mono {P P' : Tok → Prop} {vs : List Value} {ys : List Str} (h : StrsP P vs ys) (hp : ∀ t, P t → P' t) : StrsP P' vs ys := by
  induction h with
  | nil => exact .nil
  | cons y t p _ ih => exact .cons y t (hp _ p) ih
theorem StrsP.snoc {P : Tok → Prop} {vs : List Value} {ys : List Str} {y : Str} {t : Tok} (h : StrsP P vs ys) (p : P t) : StrsP P (vs ++ [.str y t]) (ys ++ [y]) := by
  induction h with
  | nil => exact .cons y t p .nil
  | cons y' t' p' _ ih => exact .cons y' t' p' ih
theorem StrsP.length {P : Tok → Prop} {vs : List Value} {ys : List Str} (h : StrsP P vs ys) : vs.length = ys.length := by
  induction h with
  | nil => rfl
  | cons _ _ _ _ ih => simp [ih]
theorem StrsP.values {P : Tok → Prop} {vs : List Value} {ys : List Str} (h : StrsP P vs ys) : ∃ l : List (Str × Tok), vs = strValues l ∧ l.map (·.1) = ys ∧ ∀ p ∈ l, P p.2 := by
  induction h with
  | nil => exact ⟨[], rfl, rfl, fun _ h => nomatch h⟩
  | @cons vs ys y t p _ ih =>
    obtain ⟨l, e1, e2, e3⟩ := ih
    refine ⟨(y, t) :: l, by rw [e1]; rfl, by rw [← e2]; rfl, fun q hq => ?_⟩
    rcases List.mem_cons.mp hq with rfl | hq
    · exact p
    · exact e3 q hq
theorem StrsP.of_values {P : Tok → Prop} : ∀ {l : List (Str × Tok)}, (∀ p ∈ l, P p.2) → StrsP P (strValues l) (l.map (·.1))
  | [], _ => .nil
  | p :: r, h => .cons p.1 p.2 (h p (.head _)) (StrsP.of_values fun q hq => h q (.tail _ hq))
theorem StrsP.at {P : Tok → Prop} {vs : List Value} {ys : List Str} (h : StrsP P vs ys) : ∀ {i : Nat} {v : Value}, vs[i]? = some v → ∃ y t, v = .str y t ∧ P t ∧ ys[i]? = some y := by
  induction h with
  | nil => intro i v h; simp at h
  | cons y t p _ ih =>
    intro i v h
    cases i with
    | zero => simp at h; subst h; exact ⟨y, t, rfl, p, rfl⟩
    | succ i => exact ih (by simpa using h)
theorem numbered_toks : ∀ (xs : List Str) (n : Nat), ∀ p ∈ numbered n xs, n ≤ p.2 ∧ p.2 < n + xs.length
  | [], _, _, h => nomatch h
  | _ :: r, n, p, h => by
    rcases List.mem_cons.mp h with rfl | h
    · exact ⟨Nat.le_refl _, by simp⟩
    · have := numbered_toks r (n + 1) p h
      exact ⟨Nat.le_of_succ_le this.1, Nat.lt_of_lt_of_eq this.2 (by simp only [List.length_cons]; omega)⟩
section
variable {prog : Program} {w : World} {A : Around} {E : Value → Shared → Prop} {s : Shared} {h₀ : Heap} {L : Addr} {m : Str → Option Value} {news : List (Addr × Obj)}
theorem join_T {lo : Nat} {D : Addr} {k : Nat} {its : Array Value} {ys : List Str} {x : Str} {tx : Tok} {Q : Value → Shared → Prop} (N : News h₀ L s.heap news) (hm : (D, listOf its k) ∈ news) (hlo : lo ≤ s.toks) (hi : StrsP (tkP lo s.toks) its.toList ys) (hx : x.length ≤ 64)
    (hy : ∀ y ∈ ys, y.length ≤ 20) (hn : ys.length ≤ 100) (h : ∀ t' k, tkP lo k t' → s.toks ≤ k → Q (.str (Txt.join x ys) t') { s with toks := k }) : wpAny (model prog w) A (call (.builtin "str.join") [.str x tx, .ref D]) Q E s := by
  obtain ⟨l, hv, ht, hp⟩ := hi.values
  have hl := News.isList N hm
  have e : its = (strValues l).toArray := by rw [← hv]
  subst e
  subst ht
  have hok : JoinOk x (l.map (·.1)) = true := by
    refine joinOk_of ?_
    have aux : ∀ l : List Str, (∀ y ∈ l, y.length ≤ 20) → (l.map (·.length)).sum ≤ l.length * 20 := by
      intro l
      induction l with
      | nil => intro _; simp
      | cons a l ih =>
        intro h
        have h1 := h a (.head _)
        have h2 := ih fun y hy => h y (.tail _ hy)
        simp only [List.map_cons, List.sum_cons, List.length_cons]
        omega
    have h1 := aux _ hy
    have h2 : (l.map (·.1)).length * x.length ≤ 100 * 64 := Nat.mul_le_mul hn hx
    omega
  have hok' := hok
  unfold JoinOk at hok
  rw [Bool.not_eq_true'] at hok
  refine call_meets F.slot_str_join (typeIs_str _ _ _) F.entry_str_join (F.args_str_join_2 _ _) (meets_str_join_list x tx D l hok) ⟨hl, ?_⟩
  have hfit := joinFit_length hok
  match l, hfit, h, hp with
  | [], hfit, h, hp => exact ⟨hfit, h _ _ (tkP.new hlo) (Nat.le_succ _)⟩
  | [p], hfit, h, hp => exact h p.2 s.toks (hp p (.head _)) (Nat.le_refl _)
  | _ :: _ :: _, hfit, h, hp => exact ⟨hfit, h _ _ (tkP.new hlo) (Nat.le_succ _)⟩
theorem split_T {lo : Nat} {x y : Str} {t u : Tok} {Q : Value → Shared → Prop} (hF : Fr h₀ L s.heap m) (hN : News h₀ L s.heap news) (hlo : lo ≤ s.toks) (hx : tkP lo s.toks t) (hy : (y.length == 0) = false) (hsz : x.length + 2 ≤ sizeLine)
    (h : ∀ l h' k, l.map (·.1) = Txt.split x y → (∀ p ∈ l, tkP lo k p.2) → s.toks ≤ k → Fr h₀ L h' m → News h₀ L h' ((s.heap.objs.size, { cls := .type "list", data := .seq (strValues l).toArray }) :: news) → Q (.ref s.heap.objs.size) { s with heap := h', toks := k }) :
    wpAny (model prog w) A (call (.builtin "str.split") [.str x t, .str y u]) Q E s := by
  have hn : (partsBetween x (occurrences x y 0 x.length (x.length + 1)) y.length).length ≤ sizeLine := by
    have e1 := StrLaws.occ_length_le x y 0 x.length (x.length + 1)
    rw [length_partsBetween]; omega
  have one : ∀ p ∈ [(x, t)], tkP lo s.toks p.2 := fun p hp => by rw [List.mem_singleton.mp hp]; exact hx
  cases h1 : (decide (x.length < y.length) || decide (strKind x < strKind y))
  · cases hf : (occurrences x y 0 x.length (x.length + 1)).isEmpty
    · refine call_meets F.slot_str_split (typeIs_str _ _ _) F.entry_str_split (F.args_str_split_2 _ _) (meets_str_split_sep x y t u h1 hy hf (by omega) hn) ?_
      show wants Q E _ { s with toks := _, heap := s.heap.push { cls := .type "list", data := .seq (strsFrom s.toks (partsBetween x (occurrences x y 0 x.length (x.length + 1)) y.length)).toArray } }
      rw [strsFrom_eq]
      refine h (numbered s.toks _) _ _ ((numbered_texts _ _).trans ((if_neg (ne_true_of_eq_false h1)).trans (if_neg (ne_true_of_eq_false hf))).symm) (fun p hp => ?_) (Nat.le_add_right _ _) (Fr.pushS hF _) (News.push hF hN _)
      have := numbered_toks _ _ p hp
      exact ⟨.inr (Nat.le_trans hlo this.1), this.2⟩
    · exact call_meets F.slot_str_split (typeIs_str _ _ _) F.entry_str_split (F.args_str_split_2 _ _) (meets_str_split_not_found x y t u h1 hy hf)
        (h [(x, t)] _ s.toks ((if_neg (ne_true_of_eq_false h1)).trans (if_pos hf)).symm one (Nat.le_refl _) (Fr.pushS hF _) (News.push hF hN _))
  · exact call_meets F.slot_str_split (typeIs_str _ _ _) F.entry_str_split (F.args_str_split_2 _ _) (meets_str_split_cannot_occur x y t u h1)
      (h [(x, t)] _ s.toks (if_pos h1).symm one (Nat.le_refl _) (Fr.pushS hF _) (News.push hF hN _))
theorem pairs_val {K : Type} [DecidableEq K] {knd : KeyKind prog w K} {es : List DictEntry} {kvs : List (K × Value)} (h : Pairs knd es kvs) : ∀ kv ∈ kvs, ∃ e ∈ es, e.val = kv.2 := by
  induction h with
  | nil => intro kv h; exact nomatch h
  | @cons e kv es kvs _ hv _ ih =>
    intro kv' hk
    rcases List.mem_cons.mp hk with rfl | hk
    · exact ⟨e, .head _, hv⟩
    · obtain ⟨e', h1, h2⟩ := ih kv' hk
      exact ⟨e', .tail _ h1, h2⟩
/-- dict.get with a default, the value's token known -/
theorem get_T {d : Addr} {D : List (PyData × PyData)} {i : Int} {t : Tok} {dflt : Value} {dd : PyData} {o : Obj} {es : Array DictEntry} {ep : Nat} {V : Value → Prop} {Q : Value → Shared → Prop} (T : IntTab prog w s.heap d D) (hx : PyProof.V.Flat dflt dd) (ho : s.heap.get? d = some o) (hes : o.data = .dict es ep)
    (hV : ∀ e ∈ es.toList, V e.val) (hVd : V dflt)
    (h : ∀ v, PyProof.V.Flat v ((lookup (.int i) D).getD dd) → V v → Q v { s with toks := s.toks + 1 }) : wpAny (model prog w) A (call (.builtin "dict.get") [.ref d, .int i t, dflt]) Q E s := by
  obtain ⟨lo, kvs, hd, hf⟩ := T
  refine call_meetsIn PySem.F.slot_dict_get hd.typeIs PySem.F.entry_dict_get (PySem.F.args_dict_get_3 _ _ _) (meets_dict_get_default _ d (intKind_is prog w i t) lo dflt) ⟨_, hd.mapOf, h _ (hf.getD PyProof.V.same_int i hx) ?_⟩
  obtain ⟨o', es', ep', ho', _, hd', _, hp, _⟩ := hd
  rw [ho] at ho'
  cases ho'
  rw [hes] at hd'
  cases hd'
  unfold valueAt
  cases hfi : kvs.find? fun kv => decide (kv.1 = i) with
  | none => exact hVd
  | some kv =>
    obtain ⟨e, he, hv⟩ := pairs_val hp kv (List.mem_of_find?_eq_some hfi)
    show V kv.2
    rw [← hv]
    exact hV e he
end
end
section
open PySem PySem.W PyProof.Rows PySem.Spec PySem.Calls
/-- a place where the steps are to stop -/
structure Stop (P : Prop) : Prop where
  out : P
theorem Stop.intro' {P : Prop} (h : Stop P) : P := h.out
/-- a turn's end, the count of tokens told -/
noncomputable def EndT (h₀ : Heap) (L : Addr) (s₁ : Shared) (its : List (Addr × Obj)) (rest : (Str → Option Value) → List (Addr × Obj) → Nat → Prop) (s₂ : Shared) : Prop :=
  ∃ h' tk m' news', s₂ = { s₁ with heap := h', toks := tk } ∧ Fr h₀ L h' m' ∧ News h₀ L h' (its ++ news') ∧ (∀ p ∈ news', ∀ q ∈ its, p.1 ≠ q.1) ∧ rest m' news' tk
noncomputable def PostT (h₀ : Heap) (L : Addr) (s₁ : Shared) (its : List (Addr × Obj)) (rest : (Str → Option Value) → List (Addr × Obj) → Nat → Prop) (Q : Flow → Shared → Prop) (f : Flow) (s₂ : Shared) : Prop :=
  match f with
  | .ret v => Q (.ret v) s₂
  | .brk => Q .next s₂
  | _ => EndT h₀ L s₁ its rest s₂
theorem EndT.intro {h₀ : Heap} {L : Addr} {its : List (Addr × Obj)} {rest : (Str → Option Value) → List (Addr × Obj) → Nat → Prop} {s₁ : Shared} {h' : Heap} {tk : Nat} {m' : Str → Option Value} {all : List (Addr × Obj)} (F : Fr h₀ L h' m') (N : News h₀ L h' all) (news' : List (Addr × Obj))
    (sub : ∀ p ∈ its ++ news', p ∈ all) (off : ∀ p ∈ news', ∀ q ∈ its, p.1 ≠ q.1) (r : rest m' news' tk) : EndT h₀ L s₁ its rest { s₁ with heap := h', toks := tk } :=
  ⟨h', tk, m', news', rfl, F, fun p hp => N p (sub p hp), off, r⟩
section
variable {prog : Program} {w : World} {A : Around} {E E₁ : Value → Shared → Prop} {s : Shared} {env : Env} {h₀ : Heap} {body orelse : List Stmt} {Q : Flow → Shared → Prop}
theorem wpAny_keep {α : Type} {M : Model} {t : Sem α} {Q : α → Shared → Prop} {n : Nat} (hn : n ≤ s.toks) (h : wpAny M A t (fun a s' => n ≤ s'.toks → Q a s') E s) : wpAny M A t Q E s :=
  wpAny_mono (wpAny_toks_of hn h) (fun _ _ x => x.2 x.1) (fun _ _ x => x.2)
theorem up_T {a b : Nat} (_ : a ≤ b) : b ≤ b + 1 := Nat.le_succ b
theorem namedN {a b : Nat} (_ : a ≤ b) : ∃ c, c = b := ⟨b, rfl⟩
theorem drop_T {k m n : Nat} {Q : Prop} (_ : n ≤ k) (x : Q) : m ≤ k → Q := fun _ => x
theorem gen_T {α : Type} {M : Model} {t : Sem α} {Q : α → Shared → Prop} {n X k : Nat} {hp : Heap} {gn : Array GenState} {dr : Drawn} {os : OsState} (hn : n ≤ X + k) (h : ∀ tk, n ≤ tk → wpAny M A t Q E ⟨hp, gn, dr, tk, os⟩) : wpAny M A t Q E ⟨hp, gn, dr, X + k, os⟩ := h _ hn
theorem pyIter_rangeT {x : Str} {px : Pos} {r : Addr} {n : Nat} {t u v : Tok} {m₀ : Str → Option Value} {news : List (Addr × Obj)} (hh : A.handled = none)
    (hr : IsRange s.heap r 0 (n : Int) 1 t u v) (hn : n < 1000) (F : Fr h₀ env.locals s.heap m₀) (N : News h₀ env.locals s.heap news)
    (hE : PassesOwn (model prog w) A env E₁)
    (J : (Str → Option Value) → List (Addr × Obj) → Nat → (Str → Option Value) → List (Addr × Obj) → Nat → Prop) (h0 : J m₀ news 0 m₀ news s.toks)
    (mono : ∀ i m₁ news₁ tk tk', tk ≤ tk' → J m₀ news i m₁ news₁ tk → J m₀ news i m₁ news₁ tk')
    (turn : ∀ I, (∀ p ∈ news, p.1 < I) → ∀ i, i < n → ∀ t' h tk m₁ news₁, J m₀ news i m₁ news₁ tk → (∀ p ∈ news₁, p.1 ≠ I) → Fr h₀ env.locals h m₁ → News h₀ env.locals h ((I, itR ((i + 1 : Nat) : Int) ((n : Int) - ((i + 1 : Nat) : Int))) :: news₁) →
      wpAny (model prog w) A (assign (.Name x px) env (.int (i : Int) t')) (fun _ s₂ => wpAny (model prog w) A (execs body env) (PostT h₀ env.locals { s with heap := h, toks := tk } [(I, itR ((i + 1 : Nat) : Int) ((n : Int) - ((i + 1 : Nat) : Int)))] (fun m' n' tk' => J m₀ news (i + 1) m' n' tk') Q) E₁ s₂) E₁ { s with heap := h, toks := tk })
    (done : ∀ m₁ news₁ h tk, J m₀ news n m₁ news₁ tk → Fr h₀ env.locals h m₁ → News h₀ env.locals h news₁ → wpAny (model prog w) A (execs orelse env) Q E₁ { s with heap := h, toks := tk }) :
    wpAny (model prog w) A (pyIter (.ref r)) (fun it s₂ => codeAny (model prog w) A (.forLoop (.Name x px) it body orelse env) (fun res s' => match res with | .ok f => Q f s' | .error e => cameBackBy (model prog w) A env E₁ e s') s₂) E s := by
  have hsz : Builtin.Range.rangeSize 0 (n : Int) 1 = (n : Int) := by
    unfold Builtin.Range.rangeSize
    simp
    omega
  have hsm : Builtin.Range.small 0 (n : Int) 1 = true := by
    unfold Builtin.Range.small
    rw [hsz]
    have e1 : Builtin.Range.rangeFitsLong (n : Int) = true := by unfold Builtin.Range.rangeFitsLong; simp; omega
    have e2 : Builtin.Range.rangeFitsLong ((n : Int) + (1 - 1)) = true := by unfold Builtin.Range.rangeFitsLong; simp; omega
    have e3 : Builtin.Range.rangeFitsLong 0 = true := by decide
    have e4 : Builtin.Range.rangeFitsLong 1 = true := by decide
    rw [e1, e3, e4, if_pos (by decide), e2]
    simp
  refine wpAny_pyIter_range hr hsm ?_
  rw [hsz]
  generalize hI : s.heap.objs.size = I
  have hIs : IsRangeIter (s.heap.push { cls := .type "range_iterator", data := .fields #[rawInt 0, rawInt (n : Int), rawInt 1] }) I 0 n 1 := by
    rw [← hI]; exact Heap.get?_push_size _ rfl
  have W := Walks.range (prog := prog) (w := w) hh I 0 1 n
  have hnew : h₀.get? I = none := by rw [← hI]; exact next_is_new F
  have hLI : env.locals ≠ I := by rw [← hI]; exact Nat.ne_of_lt F.ns.lt
  have hbel : ∀ p ∈ news, p.1 < I := fun p hp => by rw [← hI]; exact Heap.lt_size (N p hp).1
  refine codeAny_forLoop_any
    (fun k s' => ∃ h' tk m' news' i, s' = { s with heap := h', toks := tk } ∧ IsRangeIter h' I (0 + (i : Nat) * 1) ((n : Int) - (i : Nat)) 1 ∧ Fr h₀ env.locals h' m' ∧ News h₀ env.locals h' news' ∧ (∀ p ∈ news', p.1 ≠ I) ∧ J m₀ news i m' news' tk ∧ i ≤ n ∧ k = n + 1 - i) ?_ (n + 1)
    ⟨_, s.toks, m₀, news, 0, rfl, by simpa using hIs, F.push _, (fun p hp => ⟨Heap.get?_push_of_some _ (N p hp).1, (N p hp).2⟩), (fun p hp => Nat.ne_of_lt (hbel p hp)), h0, Nat.zero_le _, rfl⟩
  rintro k s' ⟨h', tk, m', news', i, rfl, hst, F', N', hoff, hJ, hi, rfl⟩
  have keepF : ∀ h₁ : Heap, (∀ b o, b ∉ [I] → h'.get? b = some o → h₁.get? b = some o) → Fr h₀ env.locals h₁ m' ∧ News h₀ env.locals h₁ news' := fun h₁ hk =>
    ⟨⟨F'.ns.at' fun o e => hk _ o (by simpa using hLI) e, fun b o e => hk b o (fun hb => by rw [List.mem_singleton.mp hb, hnew] at e; cases e) (F'.keep b o e), F'.above⟩,
      fun p hp => ⟨hk _ _ (by simpa using hoff p hp) (N' p hp).1, (N' p hp).2⟩⟩
  by_cases hlt : i < n
  · refine wpAny_with_toks (n := tk) (Nat.le_refl _) (W.item i _ _ _ hlt hst fun v h₁ tk₁ hP hst₁ hk₁ hge => ?_)
    obtain ⟨t', rfl⟩ := hP
    obtain ⟨F₁, N₁⟩ := keepF h₁ hk₁
    show wpAny _ _ (pure ()) _ _ _
    refine wpAny_pure ?_
    have e0 : (0 : Int) + (i : Int) * 1 = (i : Int) := by omega
    have hst₁' : h₁.get? I = some (itR ((i + 1 : Nat) : Int) ((n : Int) - ((i + 1 : Nat) : Int))) := by
      have q : IsRangeIter h₁ I (0 + ((i + 1 : Nat) : Int) * 1) ((n : Int) - ((i + 1 : Nat) : Int)) 1 := hst₁
      have e1 : (0 : Int) + ((i + 1 : Nat) : Int) * 1 = ((i + 1 : Nat) : Int) := by omega
      rw [e1] at q
      exact q
    rw [e0]
    have N₂ : News h₀ env.locals h₁ ((I, itR ((i + 1 : Nat) : Int) ((n : Int) - ((i + 1 : Nat) : Int))) :: news') := fun p hp => by
      rcases List.mem_cons.mp hp with rfl | hp
      · exact ⟨hst₁', Ne.symm hLI, hnew⟩
      · exact N₁ p hp
    refine wpAny_mono (turn I hbel i hlt t' h₁ tk₁ m' news' (mono _ _ _ _ _ hge hJ) hoff F₁ N₂) (fun _ s₂ h₂ => ?_) (fun e s' x => hE e s' x)
    refine wpAny_mono h₂ (fun f s₃ p => ?_) (fun e s' x => hE e s' x)
    have fin : EndT h₀ env.locals { s with heap := h₁, toks := tk₁ } [(I, itR ((i + 1 : Nat) : Int) ((n : Int) - ((i + 1 : Nat) : Int)))] (fun m' n' tk' => J m₀ news (i + 1) m' n' tk') s₃ →
        ∃ m, m < n + 1 - i ∧ ∃ h' tk m' news' i, s₃ = { s with heap := h', toks := tk } ∧ IsRangeIter h' I (0 + (i : Nat) * 1) ((n : Int) - (i : Nat)) 1 ∧ Fr h₀ env.locals h' m' ∧ News h₀ env.locals h' news' ∧ (∀ p ∈ news', p.1 ≠ I) ∧ J m₀ news i m' news' tk ∧ i ≤ n ∧ m = n + 1 - i := by
      rintro ⟨h₄, tk₄, m₄, news₄, rfl, F₄, N₄, ho, hJ₄⟩
      refine ⟨n + 1 - (i + 1), by omega, h₄, tk₄, m₄, news₄, i + 1, rfl, ?_, F₄, fun p hp => N₄ p (.tail _ hp), fun p hp => ho p hp _ (.head _), hJ₄, hlt, rfl⟩
      have q := (N₄ _ (.head _)).1
      have e1 : (0 : Int) + ((i + 1 : Nat) : Int) * 1 = ((i + 1 : Nat) : Int) := by omega
      rw [e1]
      exact q
    cases f with
    | ret v => exact p
    | brk => exact p
    | next => exact fin p
    | cont => exact fin p
  · have hin : i = n := by omega
    subst hin
    refine wpAny_with_toks (n := tk) (Nat.le_refl _) (W.done _ _ _ hst fun h₁ tk₁ hk₁ hge => ?_)
    obtain ⟨F₁, N₁⟩ := keepF h₁ hk₁
    exact wpAny_mono (done m' news' h₁ tk₁ (mono _ _ _ _ _ hge hJ) F₁ N₁) (fun _ _ x => x) (fun e s' x => hE e s' x)
/-- for over a list of the ledger's, tokens told -/
theorem pyIter_listT {x : Str} {px : Pos} {ax : Addr} {lo : Obj} {vs : List Value} {k0 : Nat} {m₀ : Str → Option Value} {news : List (Addr × Obj)} (hh : A.handled = none)
    (F : Fr h₀ env.locals s.heap m₀) (N : News h₀ env.locals s.heap news) (hm : (ax, lo) ∈ news) (hc : lo.cls = .type "list") (hd : lo.data = .seq vs.toArray k0)
    (hE : PassesOwn (model prog w) A env E₁)
    (J : (Str → Option Value) → List (Addr × Obj) → Nat → (Str → Option Value) → List (Addr × Obj) → Nat → Prop) (h0 : J m₀ news 0 m₀ news s.toks)
    (keep : ∀ i m₁ news₁ tk, J m₀ news i m₁ news₁ tk → (ax, lo) ∈ news₁)
    (mono : ∀ i m₁ news₁ tk tk', tk ≤ tk' → J m₀ news i m₁ news₁ tk → J m₀ news i m₁ news₁ tk')
    (turn : ∀ I, (∀ p ∈ news, p.1 < I) → ∀ i v, vs[i]? = some v → ∀ h tk m₁ news₁ oI, J m₀ news i m₁ news₁ tk → (∀ p ∈ news₁, p.1 ≠ I) → Fr h₀ env.locals h m₁ → News h₀ env.locals h ((I, oI) :: news₁) →
      wpAny (model prog w) A (assign (.Name x px) env v) (fun _ s₂ => wpAny (model prog w) A (execs body env) (PostT h₀ env.locals { s with heap := h, toks := tk } [(I, oI)] (fun m' n' tk' => J m₀ news (i + 1) m' n' tk') Q) E₁ s₂) E₁ { s with heap := h, toks := tk })
    (done : ∀ m₁ news₁ h tk, J m₀ news vs.length m₁ news₁ tk → Fr h₀ env.locals h m₁ → News h₀ env.locals h news₁ → wpAny (model prog w) A (execs orelse env) Q E₁ { s with heap := h, toks := tk }) :
    wpAny (model prog w) A (pyIter (.ref ax)) (fun it s₂ => codeAny (model prog w) A (.forLoop (.Name x px) it body orelse env) (fun res s' => match res with | .ok f => Q f s' | .error e => cameBackBy (model prog w) A env E₁ e s') s₂) E s := by
  have hax := N _ hm
  have hl : s.heap.IsList ax vs.toArray := ⟨lo, hax.1, hc, k0, hd⟩
  have hlt : ax < s.heap.objs.size := Heap.lt_size hax.1
  have hne : ax ≠ s.heap.objs.size := Nat.ne_of_lt hlt
  refine wpAny_pyIter_list hl ?_
  have hIs : (s.heap.push { cls := .type "list_iterator", data := .fields #[.ref ax, .int 0 0] }).IsListIter s.heap.objs.size ax 0 := ⟨_, Heap.get?_push_size _ rfl, rfl, rfl⟩
  have hlp := hl.at fun o e => Heap.get?_push_of_some { cls := .type "list_iterator", data := .fields #[.ref ax, .int 0 0] } e
  have hnew : h₀.get? s.heap.objs.size = none := next_is_new F
  have hLI : env.locals ≠ s.heap.objs.size := Nat.ne_of_lt F.ns.lt
  have hbel : ∀ p ∈ news, p.1 < s.heap.objs.size := fun p hp => Heap.lt_size (N p hp).1
  have W := Walks.list (prog := prog) (w := w) hh s.heap.objs.size ax hne vs.toArray
  generalize hI : s.heap.objs.size = I at *
  refine codeAny_forLoop_any
    (fun k s' => ∃ h' tk m' news' i, s' = { s with heap := h', toks := tk } ∧ (h'.IsListIter I ax i ∧ h'.IsList ax vs.toArray) ∧ Fr h₀ env.locals h' m' ∧ News h₀ env.locals h' news' ∧ (∀ p ∈ news', p.1 ≠ I) ∧ J m₀ news i m' news' tk ∧ i ≤ vs.length ∧ k = vs.length + 1 - i) ?_ (vs.length + 1)
    ⟨_, s.toks, m₀, news, 0, rfl, ⟨hIs, hlp⟩, F.push _, (fun p hp => ⟨Heap.get?_push_of_some _ (N p hp).1, (N p hp).2⟩), (fun p hp => Nat.ne_of_lt (hbel p hp)), h0, Nat.zero_le _, rfl⟩
  rintro k s' ⟨h', tk, m', news', i, rfl, hst, F', N', hoff, hJ, hi, rfl⟩
  have keepF : ∀ h₁ : Heap, (∀ b o, b ∉ [I] → h'.get? b = some o → h₁.get? b = some o) → Fr h₀ env.locals h₁ m' ∧ News h₀ env.locals h₁ news' := fun h₁ hk =>
    ⟨⟨F'.ns.at' fun o e => hk _ o (by simpa using hLI) e, fun b o e => hk b o (fun hb => by rw [List.mem_singleton.mp hb, hnew] at e; cases e) (F'.keep b o e), F'.above⟩,
      fun p hp => ⟨hk _ _ (by simpa using hoff p hp) (N' p hp).1, (N' p hp).2⟩⟩
  have hsz : vs.toArray.size = vs.length := by simp
  by_cases hlt : i < vs.length
  · refine wpAny_with_toks (n := tk) (Nat.le_refl _) (W.item i _ _ _ (hsz ▸ hlt) hst fun v h₁ tk₁ hP hst₁ hk₁ hge => ?_)
    obtain ⟨F₁, N₁⟩ := keepF h₁ hk₁
    have hP' : vs[i]? = some v := by simpa using hP
    show wpAny _ _ (pure ()) _ _ _
    refine wpAny_pure ?_
    obtain ⟨oI, hoI, hoc, hod⟩ := hst₁.1
    have N₂ : News h₀ env.locals h₁ ((I, oI) :: news') := fun p hp => by
      rcases List.mem_cons.mp hp with rfl | hp
      · exact ⟨hoI, Ne.symm hLI, hnew⟩
      · exact N₁ p hp
    refine wpAny_mono (turn I hbel i v hP' h₁ tk₁ m' news' oI (mono _ _ _ _ _ hge hJ) hoff F₁ N₂) (fun _ s₂ h₂ => ?_) (fun e s' x => hE e s' x)
    refine wpAny_mono h₂ (fun f s₃ p => ?_) (fun e s' x => hE e s' x)
    have fin : EndT h₀ env.locals { s with heap := h₁, toks := tk₁ } [(I, oI)] (fun m' n' tk' => J m₀ news (i + 1) m' n' tk') s₃ →
        ∃ m, m < vs.length + 1 - i ∧ ∃ h' tk m' news' i, s₃ = { s with heap := h', toks := tk } ∧ (h'.IsListIter I ax i ∧ h'.IsList ax vs.toArray) ∧ Fr h₀ env.locals h' m' ∧ News h₀ env.locals h' news' ∧ (∀ p ∈ news', p.1 ≠ I) ∧ J m₀ news i m' news' tk ∧ i ≤ vs.length ∧ m = vs.length + 1 - i := by
      rintro ⟨h₄, tk₄, m₄, news₄, rfl, F₄, N₄, ho, hJ₄⟩
      refine ⟨vs.length + 1 - (i + 1), by omega, h₄, tk₄, m₄, news₄, i + 1, rfl, ⟨⟨oI, (N₄ _ (.head _)).1, hoc, hod⟩, ⟨lo, (N₄ _ (.tail _ (keep _ _ _ _ hJ₄))).1, hc, k0, hd⟩⟩, F₄, fun p hp => N₄ p (.tail _ hp), fun p hp => ho p hp _ (.head _), hJ₄, hlt, rfl⟩
    cases f with
    | ret v => exact p
    | brk => exact p
    | next => exact fin p
    | cont => exact fin p
  · have hin : i = vs.length := by omega
    subst hin
    refine wpAny_with_toks (n := tk) (Nat.le_refl _) (W.done _ _ _ (hsz ▸ hst) fun h₁ tk₁ hk₁ hge => ?_)
    obtain ⟨F₁, N₁⟩ := keepF h₁ hk₁
    exact wpAny_mono (done m' news' h₁ tk₁ (mono _ _ _ _ _ hge hJ) F₁ N₁) (fun _ _ x => x) (fun e s' x => hE e s' x)
end
end
section
open PySem PySem.W PyProof.Rows PySem.Spec PySem.Calls
section
variable {prog : Program} {w : World} {A₀ A : Around} {s : Shared} {base h₀ : Heap} {outer : List Env} {L : Addr} {m : Str → Option Value} {env : Env} {news : List (Addr × Obj)} {R : Result → Shared → Prop} {f : Addr} {args : Args} {binds : List (Str × Value)} {fo : Obj}
/-- a call of a def with cells: the frame laid, the count of tokens not fallen -/
theorem lay_T {fd : FuncData} {body : List Stmt} (hlim : s.heap.NoLimit) (ho : s.heap.get? f = some fo) (hd : fo.data = .func fd) (hb : fd.body = .stmts body) (hcl : fd.closure = []) (hcd : s.heap.CodeRec fd.code fd.qualname) (hroom : A.depth < recursionLimit)
    (hbind : BindsTo s fd args binds) (hkind : ∀ n, ∀ x ∈ binds, fd.scope.names.lookup x.1 = some .local ∨ (fd.scope.names.lookup x.1 = some .cell ∧ ((cellsFrom n fd.scope.names []).lookup x.1).isSome = true))
    (hnd : ((cellsFrom 0 fd.scope.names []).map (·.1)).Nodup) (hco : fd.scope.isCoroutine = false) (hgen : fd.scope.isGenerator = false) (hk : fd.scope.kind = .function)
    (h : ∀ env, env = newEnv fd.scope s.heap.objs.size fd.globals (cellsFrom (s.heap.objs.size + 1) fd.scope.names []) (fd.qualname ++ ".<locals>.") (some f) fd.code none fd.builtins → ∀ h₁ tk cells, s.toks ≤ tk → h₁.Ns env.locals (bindL env.kindOf binds fun _ => none) → (∀ b o, s.heap.get? b = some o → h₁.get? b = some o) →
      News s.heap s.heap.objs.size h₁ cells → CellsAre (bindC env.kindOf binds fun _ => none) (cellsFrom (s.heap.objs.size + 1) fd.scope.names []) cells → codeAny (model prog w) A (.func body env) R { s with heap := h₁, toks := tk }) :
    codeAny (model prog w) A (.call (.ref f) args) R s := by
  refine codeAny_call_function hroom ho hd hco hgen hb hcd (hbind _ _ _ _ ?_)
  rw [hcl]
  refine wpAny_keep (Nat.le_refl _) (wpAny_newFunctionEnv_cells hk (hkind _) fun env' he s' x hge => ?_)
  obtain ⟨h₁, tk, e, hk₁⟩ := x.done
  subst e
  refine ⟨hlim.keeps hk₁, ?_⟩
  have hce : env'.cells = cellsFrom (s.heap.objs.size + 1) fd.scope.names [] := by rw [he]; rfl
  have hle : env'.locals = s.heap.objs.size := by rw [he]; rfl
  obtain ⟨cells, NC, Y⟩ := Cl.news (h₀ := s.heap) (h := h₁) (cm := bindC env'.kindOf binds fun _ => none) (cs := cellsFrom (s.heap.objs.size + 1) fd.scope.names []) (Nat.le_refl _) fun n c hm => ⟨x.cell n c (by rw [hce]; exact lookup_of_mem_nodup (cellsFrom_names fd.scope.names 0 (s.heap.objs.size + 1) [] [] rfl ▸ hnd) hm), by have := x.above n c (by rw [hce]; exact hm); rw [hle] at this; exact this⟩
  exact h env' he h₁ tk cells hge x.toInCall.ns hk₁ NC Y
theorem enter_T {K : Frag} {p : Program} {loose : List Str} {mean : ExcName → Option Value} {mg mb : Str → Option Value} {name qual : Str} {params : Arguments} {body : List Stmt} {scope : Scope} {dV kV doc pm cdv ct oc : Value} {an od : Option Addr} {osl : Array (Option Value)}
    (B : Below A₀ base outer h₀) (F : Fr h₀ L s.heap m) (X₀ : K.In h₀) (N : News h₀ L s.heap news) (T : Top p loose mean mg mb h₀) (hA : A.frames = some (env :: outer)) (hf : env.frame = some L) (hke : env.scope.kind = .function)
    (ho : K.lookup f = some ⟨oc, od, .func (fnOf name qual params body scope dV kV doc pm an cdv ct), osl⟩) (hcd : codeIn K cdv qual = true) (hroom : A.depth < recursionLimit)
    (hbind : BindsTo s (fnOf name qual params body scope dV kV doc pm an cdv ct) args binds) (hkind : (binds.all fun y => scope.names.lookup y.1 == some .local || scope.names.lookup y.1 == some .cell) = true)
    (hnd : ((cellsFrom 0 scope.names []).map (·.1)).Nodup)
    (h : ∀ g L' h₁ tk cells, s.toks ≤ tk → Fr h₀ L g m → Fr g L' h₁ (bindL (envOfC qual scope L' f cdv).kindOf binds fun _ => none) → News g L' h₁ (cells ++ news) →
      CellsAre (bindC (envOfC qual scope L' f cdv).kindOf binds fun _ => none) (cellsFrom (L' + 1) scope.names []) cells → Below A base (env :: outer) g → K.In g → Top p loose mean mg mb g → (∀ p ∈ news, p.1 < L') →
      wpAny (model prog w) (A.deeper (envOfC qual scope L' f cdv)) (execs body (envOfC qual scope L' f cdv))
        (fun fl s' => LeaveK h₀ L m g R (match fl with | .ret v => v | _ => .none) s')
        (fun e s' => wpAny (model prog w) (A.deeper (envOfC qual scope L' f cdv)) (leaving (envOfC qual scope L' f cdv) e) (fun _ s'' => R (.error e) s'') (fun e' s'' => R (.error e') s'') s')
        { s with heap := h₁, toks := tk })
    (hco : scope.isCoroutine = false) (hgen : scope.isGenerator = false) (hk : scope.kind = .function) : codeAny (model prog w) A (.call (.ref f) args) R s := by
  obtain ⟨FG, BG, st, lv⟩ := groundX (R := R) B F N hA hf hke
  have X₁ := X₀.keeps F.keep
  refine lay_T (body := body) (T.nolimit.keeps F.keep) (X₁ _ _ ho) rfl rfl rfl (codeRec_of X₁ hcd) hroom hbind (kindsX hkind) hnd hco hgen hk fun env' he h₁ tk cells hge hns hk₁ NC Y => ?_
  subst he
  refine codeAny_func (wpAny_mono (h _ s.heap.objs.size h₁ tk cells hge FG ⟨hns, fun b o e => hk₁ b o (of_hideAll _ e), Nat.le_of_eq (hideAll_size _ _)⟩ (fun p hp => ?_) Y BG (X₀.keeps st) (T.keeps st) (fun p hp => Heap.lt_size (N p hp).1)) (fun fl s' hl => lv _ _ hl) fun _ _ y => y)
  rcases List.mem_append.mp hp with hp | hp
  · refine ⟨(NC p hp).1, (NC p hp).2.1, ?_⟩
    cases q : (hideAll s.heap (news.map (·.1))).get? p.1 with
    | none => rfl
    | some o => have := of_hideAll _ q; rw [(NC p hp).2.2] at this; cases this
  · exact ⟨hk₁ _ _ (N p hp).1, Nat.ne_of_lt (Heap.lt_size (N p hp).1), hideAll_none _ (List.mem_map_of_mem hp)⟩
theorem enter_top_T {name : Str} {params : Arguments} {body : List Stmt} {scope : Scope} {pm cd doc : Value} {args : List Value}
    (hroom : A.depth < recursionLimit) (ho : s.heap.get? f = some fo) (hdata : fo.data = .func (Calls.docDef name params body scope pm cd doc)) (hlim : s.heap.NoLimit) (hcd : s.heap.CodeRec cd name)
    (hbind : bindArgs (Calls.docDef name params body scope pm cd doc) ⟨args, []⟩ = pure binds)
    (hkind : ∀ n, ∀ x ∈ binds, scope.names.lookup x.1 = some .local ∨ (scope.names.lookup x.1 = some .cell ∧ ((cellsFrom n scope.names []).lookup x.1).isSome = true))
    (hnd : ((cellsFrom 0 scope.names []).map (·.1)).Nodup)
    (h : ∀ h₁ tk cells, s.toks ≤ tk → Fr s.heap s.heap.objs.size h₁ (bindL (envOfC name scope s.heap.objs.size f cd).kindOf binds fun _ => none) → News s.heap s.heap.objs.size h₁ cells →
      CellsAre (bindC (envOfC name scope s.heap.objs.size f cd).kindOf binds fun _ => none) (cellsFrom (s.heap.objs.size + 1) scope.names []) cells →
      wpAny (model prog w) (A.deeper (envOfC name scope s.heap.objs.size f cd)) (execs body (envOfC name scope s.heap.objs.size f cd))
        (fun f s' => R (.ok (.ret (match f with | .ret v => v | _ => .none))) s')
        (fun e s' => wpAny (model prog w) (A.deeper (envOfC name scope s.heap.objs.size f cd)) (leaving (envOfC name scope s.heap.objs.size f cd) e)
          (fun _ s'' => R (.error e) s'') (fun e' s'' => R (.error e') s'') s')
        { s with heap := h₁, toks := tk })
    (hco : scope.isCoroutine = false) (hgen : scope.isGenerator = false) (hk : scope.kind = .function) :
    codeAny (model prog w) A (.call (.ref f) ⟨args, []⟩) R s := by
  refine lay_T (body := body) hlim ho hdata rfl rfl hcd hroom (BindsTo.of_eq hbind) hkind hnd hco hgen hk fun env' he h₁ tk cells hge hns hk₁ NC Y => ?_
  subst he
  exact codeAny_func (h h₁ tk cells hge ⟨hns, hk₁, Nat.le_refl _⟩ NC Y)
end
end
section
open PySem PySem.W PyProof.Rows PySem.Spec PySem.Calls PyProof.Rows.LCg
section
variable {prog : Program} {w : World} {A : Around} {E : Value → Shared → Prop} {s : Shared}
/-- the tests of a clause: none or one -/
noncomputable def testsJ (prog : Program) (w : World) (A : Around) (env : Env) (Q : Bool → Shared → Prop) (E : Value → Shared → Prop) : List Expr → Shared → Prop
  | [], s => Q true s
  | [c], s => wpAny (model prog w) A (isTrue c env (eval c env)) Q E s
  | _ :: _ :: _, _ => False
theorem tests_of {env : Env} {Q : Bool → Shared → Prop} : ∀ {ifs : List Expr}, testsJ prog w A env Q E ifs s →
    wpAny (model prog w) A (forIn ifs true fun c r => if r = true then do let ok ← isTrue c env (eval c env); pure (ForInStep.yield ok) else pure (ForInStep.yield r)) Q E s
  | [], h => wpAny_tests_nil h
  | [_], h => wpAny_tests_one h
  | _ :: _ :: _, h => (show False from h).elim
theorem turn_last {elt target iter : Expr} {ifs : List Expr} {gens : List Comprehension} {d : Nat} {scope : Scope} {pos : Pos} {it acc : Value} {env : Env} (hd : gens[d]? = some ⟨target, iter, ifs, 0⟩) (hn : gens[d + 1]? = none) :
    compTurn (.ListComp elt gens scope pos) d it acc env = (do
      standAt iter.pos
      match ← pyNext it with
      | none => pure (.done .next)
      | some v =>
        letOwnedTupleGo target it v
        assign target env v
        let ok ← forIn ifs true fun c r => if r = true then do let ok ← isTrue c env (eval c env); pure (ForInStep.yield ok) else pure (ForInStep.yield r)
        if ok then
          (do let _ ← call (.builtin "list.append") [acc, ← eval elt env])
        again (.compLoop (.ListComp elt gens scope pos) d it acc env)) := by
  unfold compTurn
  simp only [hd, hn]
  rfl
theorem loop_last {elt target iter : Expr} {ifs : List Expr} {gens : List Comprehension} {d : Nat} {scope : Scope} {pos : Pos} {it acc : Value} {env : Env} {R : Result → Shared → Prop} (hd : gens[d]? = some ⟨target, iter, ifs, 0⟩) (hn : gens[d + 1]? = none) (I : Nat → Shared → Prop)
    (turn : ∀ n s, I n s → wpAny (model prog w) A (pyNext it) (fun r s₁ => match r with
      | none => R (.ok .next) s₁
      | some v => wpAny (model prog w) A (letOwnedTupleGo target it v) (fun _ s₀ => wpAny (model prog w) A (assign target env v) (fun _ s₂ =>
          testsJ prog w A env (fun ok s₃ => if ok = true then wpAny (model prog w) A (eval elt env) (fun x s₄ =>
            wpAny (model prog w) A (call (.builtin "list.append") [acc, x]) (fun _ s₅ => ∃ m, m < n ∧ I m s₅) (notedBy (model prog w) A env fun e s' => R (.error e) s') s₄) (notedBy (model prog w) A env fun e s' => R (.error e) s') s₃
            else ∃ m, m < n ∧ I m s₃) (notedBy (model prog w) A env fun e s' => R (.error e) s') ifs s₂)
          (notedBy (model prog w) A env fun e s' => R (.error e) s') s₀) (notedBy (model prog w) A env fun e s' => R (.error e) s') s₁) (notedBy (model prog w) A env fun e s' => R (.error e) s') s)
    (n : Nat) (h : I n s) : codeAny (model prog w) A (.compLoop (.ListComp elt gens scope pos) d it acc env) R s := by
  refine codeAny_loop rfl I (fun n s hI => ?_) n h
  show wpAny _ A ((compTurn (.ListComp elt gens scope pos) d it acc env).onRaise (fun x => do noteFrame x env; theTreesLotGoes x)) _ _ s
  refine wpAny_noted ?_
  rw [turn_last hd hn]
  refine wpAny_bind (wpAny_standAt (wpAny_bind (wpAny_mono (turn n s hI) (fun r s₁ h₁ => ?_) fun _ _ h' => h')))
  cases r with
  | none => exact wpAny_pure h₁
  | some v =>
    refine wpAny_bind (wpAny_mono h₁ (fun _ s₀ h₀' => ?_) fun _ _ h' => h')
    refine wpAny_bind (wpAny_mono h₀' (fun _ s₂ h₂ => ?_) fun _ _ h' => h')
    refine wpAny_bind (wpAny_mono (tests_of h₂) (fun okb s₃ h₃ => ?_) fun _ _ h' => h')
    cases okb with
    | false => exact wpAny_pure ⟨rfl, h₃⟩
    | true => exact wpAny_bind (wpAny_bind (wpAny_mono h₃ (fun x s₄ h₄ => wpAny_bind (wpAny_mono h₄ (fun _ s₅ h₅ => wpAny_pure (wpAny_pure ⟨rfl, h₅⟩)) fun _ _ h' => h')) fun _ _ h' => h'))
/-- the comprehension's own frame: which objects it has, what they say, and what the target's assignment does to them -/
structure FrmJ (prog : Program) (w : World) (A : Around) (xs : List Itm) (target : Expr) (cenv : Env) (ca : List Addr) (Inv : Heap → Prop) (K : Itm → Value → List (Addr × Obj) → Prop) : Prop where
  keep : ∀ h h', Inv h → (∀ b ∈ ca, ∀ o, h.get? b = some o → h'.get? b = some o) → Inv h'
  asg : ∀ a ∈ xs, ∀ v (s : Shared) (Q : Unit → Shared → Prop) (E : Value → Shared → Prop), a.Is v s.heap → Inv s.heap →
    (∀ h' tk l, l.map (·.1) = ca → (∀ p ∈ l, h'.get? p.1 = some p.2) → K a v l → Inv h' → (∀ b o, b ∉ ca → s.heap.get? b = some o → h'.get? b = some o) → Q () { s with heap := h', toks := tk }) →
    wpAny (model prog w) A (assign target cenv v) Q E s
noncomputable def CEndJ (h₀ : Heap) (L : Addr) (m : Str → Option Value) (s₁ : Shared) (fix : List (Addr × Obj)) (off : Addr → Prop) (rest : List (Addr × Obj) → Prop) (s₂ : Shared) : Prop :=
  ∃ h' tk news', s₂ = { s₁ with heap := h', toks := tk } ∧ Fr h₀ L h' m ∧ News h₀ L h' (fix ++ news') ∧ (∀ p ∈ news', off p.1) ∧ rest news'
theorem fr_move {h₀ h h' : Heap} {L : Addr} {m : Str → Option Value} {X : Addr → Prop} (F : Fr h₀ L h m) (hk : ∀ b o, ¬ X b → h.get? b = some o → h'.get? b = some o) (hL : ¬ X L) (hX : ∀ b, X b → h₀.get? b = none) : Fr h₀ L h' m :=
  ⟨F.ns.at' fun o e => hk L o hL e, fun b o e => hk b o (fun hb => by rw [hX b hb] at e; cases e) (F.keep b o e), F.above⟩
theorem news_move {h₀ h h' : Heap} {L : Addr} {news : List (Addr × Obj)} {X : Addr → Prop} (N : News h₀ L h news) (hk : ∀ b o, ¬ X b → h.get? b = some o → h'.get? b = some o) (hX : ∀ p ∈ news, ¬ X p.1) : News h₀ L h' news :=
  fun p hp => ⟨hk _ _ (hX p hp) (N p hp).1, (N p hp).2⟩
structure SrcJ (prog : Program) (w : World) (A : Around) (h₀ : Heap) (L : Addr) (target : Expr) (I : Addr) (ws : List (Addr × String)) (keep : List (Addr × Obj)) (xs : List Itm) (hs : Heap)
    (fp wr : List Addr) (P Md : Nat → Value → Heap → Prop) (St : Nat → Heap → Prop) : Prop where
  W : KTurns prog w A target I fp wr xs.length P Md St
  self : ∀ (s : Shared) (Q : Value → Shared → Prop) (E : Value → Shared → Prop), St 0 s.heap → Q (.ref I) s → wpAny (model prog w) A (pyIter (.ref I)) Q E s
  hP : ∀ i v h, P i v h → ∃ a, xs[i]? = some a ∧ a.Is v h
  hobj : ∀ i h, St i h → ∃ its, Objs ws its ∧ ∀ p ∈ its, h.get? p.1 = some p.2
  hws : ∀ b ∈ ws.map (·.1), b ≠ L ∧ h₀.get? b = none ∧ b < hs.objs.size
  hwr : ∀ b ∈ wr, b ∈ ws.map (·.1)
  hfp : ∀ b ∈ fp, b ∈ ws.map (·.1) ∨ ∃ o, (b, o) ∈ keep
  st : St 0 hs
noncomputable def TurnJ (prog : Program) (w : World) (A : Around) (h₀ : Heap) (L : Addr) (m : Str → Option Value) (elt : Expr) (ifs : List Expr) (cenv : Env) (s : Shared) (ws : List (Addr × String)) (keep : List (Addr × Obj)) (xs : List Itm) (ca : List Addr)
    (K : Itm → Value → List (Addr × Obj) → Prop) (J : Nat → List Value → List (Addr × Obj) → Prop) (D : Addr) (l0 : Nat) : Prop :=
  ∀ i a, xs[i]? = some a → ∀ ys news₁, J i ys news₁ → ys.length ≤ l0 + i → (∀ p ∈ news₁, p.1 ∉ ws.map (·.1) ∧ p.1 ∉ ca ∧ p.1 ≠ D) → ∀ v l h tk (E' : Value → Shared → Prop), K a v l → Fr h₀ L h m →
    AllObj ws (fun its => News h₀ L h (its ++ (l ++ (D, lst ys) :: news₁)) →
      testsJ prog w A cenv (fun ok s' => if ok = true then
        wpAny (model prog w) A (eval elt cenv) (fun y s₂ => CEndJ h₀ L m { s with heap := h, toks := tk } (its ++ (l ++ [(D, lst ys)])) (fun b => b ∉ ws.map (·.1) ∧ b ∉ ca ∧ b ≠ D) (fun news' => SubL keep news' ∧ J (i + 1) (ys ++ [y]) news') s₂) E' s'
        else CEndJ h₀ L m { s with heap := h, toks := tk } (its ++ (l ++ [(D, lst ys)])) (fun b => b ∉ ws.map (·.1) ∧ b ∉ ca ∧ b ≠ D) (fun news' => SubL keep news' ∧ J (i + 1) ys news') s') E' ifs { s with heap := h, toks := tk })
theorem loopJ {h₀ : Heap} {L : Addr} {m : Str → Option Value} {elt target iter : Expr} {ifs : List Expr} {gens : List Comprehension} {d : Nat} {scope : Scope} {pos : Pos} {cenv : Env} {R : Result → Shared → Prop}
    {I : Addr} {ws : List (Addr × String)} {keep : List (Addr × Obj)} {xs : List Itm} {fp wr : List Addr} {P Md : Nat → Value → Heap → Prop} {St : Nat → Heap → Prop} {ca : List Addr} {Inv : Heap → Prop} {K : Itm → Value → List (Addr × Obj) → Prop}
    {D : Addr} {ys0 : List Value} {news : List (Addr × Obj)} {l0 : Nat} {hs0 : Heap}
    (hd : gens[d]? = some ⟨target, iter, ifs, 0⟩) (hn : gens[d + 1]? = none)
    (S : SrcJ prog w A h₀ L target I ws keep xs hs0 fp wr P Md St) (X : FrmJ prog w A xs target cenv ca Inv K) (hst : St 0 s.heap) (hinv : Inv s.heap)
    (hl0 : ys0.length ≤ l0) (hsz : l0 + xs.length ≤ sizeLine) (hca : ∀ b ∈ ca, b ≠ L ∧ h₀.get? b = none ∧ b ∉ ws.map (·.1) ∧ b ≠ D) (hDw : D ∉ ws.map (·.1))
    (F : Fr h₀ L s.heap m) (N : News h₀ L s.heap ((D, lst ys0) :: news)) (hoff : ∀ p ∈ news, p.1 ∉ ws.map (·.1) ∧ p.1 ∉ ca ∧ p.1 ≠ D) (hk : SubL keep news)
    (J : Nat → List Value → List (Addr × Obj) → Prop) (h0 : J 0 ys0 news) (turn : TurnJ prog w A h₀ L m elt ifs cenv s ws keep xs ca K J D l0)
    (done : ∀ h tk ys news', J xs.length ys news' → ys.length ≤ l0 + xs.length → Fr h₀ L h m → News h₀ L h ((D, lst ys) :: news') → (∀ p ∈ news', p.1 ∉ ws.map (·.1) ∧ p.1 ∉ ca ∧ p.1 ≠ D) → SubL keep news' → Inv h → R (.ok .next) { s with heap := h, toks := tk }) :
    codeAny (model prog w) A (.compLoop (.ListComp elt gens scope pos) d (.ref I) (.ref D) cenv) R s := by
  have hD := N _ (.head _)
  have hDca : D ∉ ca := fun h => (hca D h).2.2.2 rfl
  have hwrw : ∀ b, b ∉ ws.map (·.1) → b ∉ wr := fun b h h' => h (S.hwr b h')
  refine loop_last hd hn
    (fun k s' => ∃ h' tk i ys news', s' = { s with heap := h', toks := tk } ∧ i ≤ xs.length ∧ k = xs.length + 1 - i ∧ ys.length ≤ l0 + i ∧ St i h' ∧ Fr h₀ L h' m ∧ Inv h' ∧ News h₀ L h' ((D, lst ys) :: news') ∧
      (∀ p ∈ news', p.1 ∉ ws.map (·.1) ∧ p.1 ∉ ca ∧ p.1 ≠ D) ∧ SubL keep news' ∧ J i ys news') ?_ (xs.length + 1)
    ⟨s.heap, s.toks, 0, ys0, news, rfl, Nat.zero_le _, rfl, hl0, hst, F, hinv, N, hoff, hk, h0⟩
  rintro k s' ⟨h', tk, i, ys, news', rfl, hi, rfl, hyl, hst', F', hinv', N', off', hk', hJ⟩
  have hX1 : ∀ p ∈ (D, lst ys) :: news', p.1 ∉ wr := fun p hp => by
    rcases List.mem_cons.mp hp with rfl | hp
    · exact hwrw _ hDw
    · exact hwrw _ (off' p hp).1
  have hLwr : L ∉ wr := fun h => (S.hws _ (S.hwr _ h)).1 rfl
  have hwr0 : ∀ b, b ∈ wr → h₀.get? b = none := fun b h => (S.hws _ (S.hwr _ h)).2.1
  by_cases hlt : i < xs.length
  · refine S.W.item i _ _ _ hlt hst' fun v h₁ tk₁ hMd hk₁ => ?_
    refine S.W.go i v _ _ _ hMd fun h₂ hP hst₂ hk₂ => ?_
    obtain ⟨a, ha, hav⟩ := S.hP i v h₂ hP
    have k12 : ∀ b o, b ∉ wr → h'.get? b = some o → h₂.get? b = some o := fun b o hb e => hk₂ b o hb (hk₁ b o hb e)
    have hinv₂ : Inv h₂ := X.keep _ _ hinv' fun b hb o e => k12 b o (hwrw _ (hca b hb).2.2.1) e
    have F₂ : Fr h₀ L h₂ m := fr_move (X := fun b => b ∈ wr) F' k12 hLwr hwr0
    have N₂ : News h₀ L h₂ ((D, lst ys) :: news') := news_move (X := fun b => b ∈ wr) N' k12 hX1
    refine X.asg a (List.mem_of_getElem? ha) v _ _ _ hav hinv₂ fun h₃ tk₃ l hl hlv hK hinv₃ hk₃ => ?_
    have F₃ : Fr h₀ L h₃ m := fr_move (X := fun b => b ∈ ca) F₂ hk₃ (fun h => (hca _ h).1 rfl) fun b h => (hca b h).2.1
    have N₃ : News h₀ L h₃ ((D, lst ys) :: news') := news_move (X := fun b => b ∈ ca) N₂ hk₃ fun p hp => by
      rcases List.mem_cons.mp hp with rfl | hp
      · exact hDca
      · exact (off' p hp).2.1
    have hst₃ : St (i + 1) h₃ := S.W.frame _ _ _ hst₂ fun b hb o e => hk₃ b o (fun hc => by
      rcases S.hfp b hb with h1 | ⟨o', h1⟩
      · exact (hca b hc).2.2.1 h1
      · exact (off' _ (hk'.mem _ h1)).2.1 hc) e
    obtain ⟨its, hits, hval⟩ := S.hobj _ _ hst₃
    have hmap := hits.map
    have Nf : ∀ p ∈ its ++ l, h₃.get? p.1 = some p.2 ∧ p.1 ≠ L ∧ h₀.get? p.1 = none := fun p hp => by
      rcases List.mem_append.mp hp with hp | hp
      · have h1 : p.1 ∈ ws.map (·.1) := by rw [← hmap]; exact List.mem_map.mpr ⟨p, hp, rfl⟩
        exact ⟨hval p hp, (S.hws _ h1).1, (S.hws _ h1).2.1⟩
      · have h1 : p.1 ∈ ca := by rw [← hl]; exact List.mem_map.mpr ⟨p, hp, rfl⟩
        exact ⟨hlv p hp, (hca _ h1).1, (hca _ h1).2.1⟩
    have N₄ : News h₀ L h₃ (its ++ (l ++ (D, lst ys) :: news')) := fun p hp => by
      rw [← List.append_assoc] at hp
      rcases List.mem_append.mp hp with hp | hp
      · exact Nf p hp
      · exact N₃ p hp
    have T := (turn i a ha ys news' hJ hyl off' v l h₃ tk₃ (notedBy (model prog w) A cenv fun e s' => R (.error e) s') hK F₃).at hits N₄
    -- what an end gives
    have fin : ∀ (h₅ : Heap) (tk₅ : Nat) (ys' : List Value) (news₅ : List (Addr × Obj)), (∀ p ∈ its ++ l, h₅.get? p.1 = some p.2) → Fr h₀ L h₅ m → News h₀ L h₅ ((D, lst ys') :: news₅) →
        (∀ p ∈ news₅, p.1 ∉ ws.map (·.1) ∧ p.1 ∉ ca ∧ p.1 ≠ D) → SubL keep news₅ → ys'.length ≤ l0 + (i + 1) → J (i + 1) ys' news₅ →
        ∃ k', k' < xs.length + 1 - i ∧ ∃ h' tk i ys news', ({ s with heap := h₅, toks := tk₅ } : Shared) = { s with heap := h', toks := tk } ∧ i ≤ xs.length ∧ k' = xs.length + 1 - i ∧ ys.length ≤ l0 + i ∧ St i h' ∧ Fr h₀ L h' m ∧ Inv h' ∧ News h₀ L h' ((D, lst ys) :: news') ∧
          (∀ p ∈ news', p.1 ∉ ws.map (·.1) ∧ p.1 ∉ ca ∧ p.1 ≠ D) ∧ SubL keep news' ∧ J i ys news' := by
      intro h₅ tk₅ ys' news₅ hfix F₅ N₅ off₅ hk₅ hyl₅ hJ₅
      refine ⟨xs.length + 1 - (i + 1), by omega, h₅, tk₅, i + 1, ys', news₅, rfl, hlt, rfl, hyl₅, ?_, F₅, ?_, N₅, off₅, hk₅, hJ₅⟩
      · refine S.W.frame _ _ _ hst₃ fun b hb o e => ?_
        rcases S.hfp b hb with h1 | ⟨o', h1⟩
        · rw [← hmap] at h1
          obtain ⟨q, hq, hqe⟩ := List.mem_map.mp h1
          have h2 := hval q hq
          have h2' : h₃.get? b = some q.2 := by rw [← hqe]; exact h2
          rw [h2'] at e
          have e' : q.2 = o := Option.some.inj e
          rw [← hqe, ← e']
          exact hfix q (List.mem_append_left _ hq)
        · have h2 : h₃.get? b = some o' := (N₃ _ (List.mem_cons_of_mem _ (hk'.mem _ h1))).1
          rw [h2] at e
          rw [← Option.some.inj e]
          exact (N₅ _ (List.mem_cons_of_mem _ (hk₅.mem _ h1))).1
      · refine X.keep _ _ hinv₃ fun b hb o e => ?_
        rw [← hl] at hb
        obtain ⟨q, hq, hqe⟩ := List.mem_map.mp hb
        have h2' : h₃.get? b = some q.2 := by rw [← hqe]; exact hlv q hq
        rw [h2'] at e
        rw [← hqe, ← Option.some.inj e]
        exact hfix q (List.mem_append_right _ hq)
    -- walk the tests
    have T' : testsJ prog w A cenv (fun ok s₃ => if ok = true then wpAny (model prog w) A (eval elt cenv) (fun x s₄ =>
            wpAny (model prog w) A (call (.builtin "list.append") [.ref D, x]) (fun _ s₅ => ∃ k', k' < xs.length + 1 - i ∧ ∃ h' tk i ys news', s₅ = { s with heap := h', toks := tk } ∧ i ≤ xs.length ∧ k' = xs.length + 1 - i ∧ ys.length ≤ l0 + i ∧ St i h' ∧ Fr h₀ L h' m ∧ Inv h' ∧ News h₀ L h' ((D, lst ys) :: news') ∧
          (∀ p ∈ news', p.1 ∉ ws.map (·.1) ∧ p.1 ∉ ca ∧ p.1 ≠ D) ∧ SubL keep news' ∧ J i ys news') (notedBy (model prog w) A cenv fun e s' => R (.error e) s') s₄) (notedBy (model prog w) A cenv fun e s' => R (.error e) s') s₃
            else ∃ k', k' < xs.length + 1 - i ∧ ∃ h' tk i ys news', s₃ = { s with heap := h', toks := tk } ∧ i ≤ xs.length ∧ k' = xs.length + 1 - i ∧ ys.length ≤ l0 + i ∧ St i h' ∧ Fr h₀ L h' m ∧ Inv h' ∧ News h₀ L h' ((D, lst ys) :: news') ∧
          (∀ p ∈ news', p.1 ∉ ws.map (·.1) ∧ p.1 ∉ ca ∧ p.1 ≠ D) ∧ SubL keep news' ∧ J i ys news') (notedBy (model prog w) A cenv fun e s' => R (.error e) s') ifs { s with heap := h₃, toks := tk₃ } := by
      have conv : ∀ (ok : Bool) (s₃ : Shared), (if ok = true then
          wpAny (model prog w) A (eval elt cenv) (fun y s₂ => CEndJ h₀ L m { s with heap := h₃, toks := tk₃ } (its ++ (l ++ [(D, lst ys)])) (fun b => b ∉ ws.map (·.1) ∧ b ∉ ca ∧ b ≠ D) (fun news' => SubL keep news' ∧ J (i + 1) (ys ++ [y]) news') s₂) (notedBy (model prog w) A cenv fun e s' => R (.error e) s') s₃
          else CEndJ h₀ L m { s with heap := h₃, toks := tk₃ } (its ++ (l ++ [(D, lst ys)])) (fun b => b ∉ ws.map (·.1) ∧ b ∉ ca ∧ b ≠ D) (fun news' => SubL keep news' ∧ J (i + 1) ys news') s₃) →
          (if ok = true then wpAny (model prog w) A (eval elt cenv) (fun x s₄ =>
            wpAny (model prog w) A (call (.builtin "list.append") [.ref D, x]) (fun _ s₅ => ∃ k', k' < xs.length + 1 - i ∧ ∃ h' tk i ys news', s₅ = { s with heap := h', toks := tk } ∧ i ≤ xs.length ∧ k' = xs.length + 1 - i ∧ ys.length ≤ l0 + i ∧ St i h' ∧ Fr h₀ L h' m ∧ Inv h' ∧ News h₀ L h' ((D, lst ys) :: news') ∧
          (∀ p ∈ news', p.1 ∉ ws.map (·.1) ∧ p.1 ∉ ca ∧ p.1 ≠ D) ∧ SubL keep news' ∧ J i ys news') (notedBy (model prog w) A cenv fun e s' => R (.error e) s') s₄) (notedBy (model prog w) A cenv fun e s' => R (.error e) s') s₃
            else ∃ k', k' < xs.length + 1 - i ∧ ∃ h' tk i ys news', s₃ = { s with heap := h', toks := tk } ∧ i ≤ xs.length ∧ k' = xs.length + 1 - i ∧ ys.length ≤ l0 + i ∧ St i h' ∧ Fr h₀ L h' m ∧ Inv h' ∧ News h₀ L h' ((D, lst ys) :: news') ∧
          (∀ p ∈ news', p.1 ∉ ws.map (·.1) ∧ p.1 ∉ ca ∧ p.1 ≠ D) ∧ SubL keep news' ∧ J i ys news') := by
        intro ok s₃ h
        cases ok with
        | true =>
          simp only [if_true] at h ⊢
          refine wpAny_mono h (fun y s₄ h₄ => ?_) fun _ _ e => e
          obtain ⟨h₄, tk₄, news₄, rfl, F₄, N₄', off₄, hk₄, hJ₄⟩ := h₄
          have zD : h₄.get? D = some (lst ys) := (N₄' (D, lst ys) (by simp)).1
          have zf : ∀ p ∈ its ++ l, h₄.get? p.1 = some p.2 := fun p hp => (N₄' p (by
            rcases List.mem_append.mp hp with hp | hp
            · exact List.mem_append_left _ (List.mem_append_left _ hp)
            · exact List.mem_append_left _ (List.mem_append_right _ (List.mem_append_left _ hp)))).1
          have N₅ : News h₀ L h₄ news₄ := fun p hp => N₄' p (List.mem_append_right _ hp)
          refine append_at (hsz := by show ys.toArray.size ≤ sizeLine; rw [List.size_toArray]; omega) zD fun h₅ hs₅ hD₅ => ?_
          refine fin h₅ _ (ys ++ [y]) news₄ (fun p hp => hs₅.extBut _ _ (fun e => ?_) (zf p hp)) (F₄.change hs₅ hD.2.1 hD.2.2) (fun p hp => ?_) off₄ hk₄ (by rw [List.length_append, List.length_singleton]; omega) hJ₄
          · rcases List.mem_append.mp hp with hp | hp
            · exact hDw (by rw [← hmap, ← e]; exact List.mem_map.mpr ⟨p, hp, rfl⟩)
            · exact hDca (by rw [← hl, ← e]; exact List.mem_map.mpr ⟨p, hp, rfl⟩)
          · rcases List.mem_cons.mp hp with rfl | hp
            · exact ⟨hD₅.trans (congrArg some (lst_snoc ys y)), hD.2⟩
            · exact ⟨hs₅.extBut _ _ (off₄ p hp).2.2 (N₅ p hp).1, (N₅ p hp).2⟩
        | false =>
          simp only [Bool.false_eq_true, if_false] at h ⊢
          obtain ⟨h₄, tk₄, news₄, rfl, F₄, N₄', off₄, hk₄, hJ₄⟩ := h
          have zf : ∀ p ∈ its ++ l, h₄.get? p.1 = some p.2 := fun p hp => (N₄' p (by
            rcases List.mem_append.mp hp with hp | hp
            · exact List.mem_append_left _ (List.mem_append_left _ hp)
            · exact List.mem_append_left _ (List.mem_append_right _ (List.mem_append_left _ hp)))).1
          exact fin h₄ _ ys news₄ zf F₄ (fun p hp => by
            rcases List.mem_cons.mp hp with rfl | hp
            · exact N₄' (D, lst ys) (by simp)
            · exact N₄' p (List.mem_append_right _ hp)) off₄ hk₄ (by omega) hJ₄
      revert T
      cases ifs with
      | nil => exact fun T => conv true _ T
      | cons c r =>
        cases r with
        | nil => exact fun T => wpAny_mono T (fun ok s₃ h => conv ok s₃ h) fun _ _ e => e
        | cons c' r' => exact fun T => T
    exact T'
  · have hin : i = xs.length := by omega
    subst hin
    refine S.W.done _ _ _ hst' fun h₁ tk₁ hk₁ => ?_
    exact done h₁ tk₁ ys news' hJ hyl (fr_move (X := fun b => b ∈ wr) F' hk₁ hLwr hwr0) (news_move (X := fun b => b ∈ wr) N' hk₁ hX1) off' hk' (X.keep _ _ hinv' fun b hb o e => hk₁ b o (hwrw _ (hca b hb).2.2.1) e)
end
end
section
open PySem PySem.W PyProof.Rows PySem.Spec PySem.Calls PyProof.Rows.LCg
section
variable {prog : Program} {w : World} {A : Around} {E : Value → Shared → Prop} {s : Shared}
theorem newEnvK {scope : Scope} {globals : Addr} {cl : List (Str × Addr)} {qual : Str} {env : Env} {Q : Env → Shared → Prop}
    (hQ : Q { scope, locals := s.heap.objs.size, globals, cells := cellsFrom (s.heap.objs.size + 1) scope.names cl, qual, func := none, code := env.code, frame := env.frame, builtins := env.builtins }
      { s with heap := pushCells (s.heap.push { cls := .type "dict", data := .dict #[] }) scope.names }) :
    wpAny (model prog w) A (newFunctionEnv scope globals cl [] qual none .none (some env)) Q E s := by
  simp only [newFunctionEnv, Option.isSome_some, if_true]
  refine wpAny_bind (wpAny_alloc ?_)
  refine wpAny_bind (wpAny_layCells _ (fun name kind cells => by cases hkc : kind == NameKind.cell <;> simp [hkc]) _ _ _ _ ?_)
  rw [show ({ s with heap := s.heap.push { cls := .type "dict", data := .dict #[] } } : Shared).heap.objs.size = s.heap.objs.size + 1 from Heap.size_push ..]
  rw [List.forIn_nil]
  exact wpAny_bind (wpAny_pure (wpAny_pure hQ))
structure FrmK (prog : Program) (w : World) (A : Around) (xs : List Itm) (target : Expr) (scope : Scope) (cl : List (Str × Addr)) (env : Env) (cs : Addr → List (Str × Addr)) (ca : Addr → List Addr) (Inv : Addr → Heap → Prop) (K : Addr → Itm → Value → List (Addr × Obj) → Prop) : Prop where
  cells : ∀ C, cellsFrom (C + 1) scope.names cl = cs C
  init : ∀ h : Heap, Inv h.objs.size (pushCells (h.push { cls := .type "dict", data := .dict #[] }) scope.names)
  new : ∀ C, ∀ b ∈ ca C, C ≤ b
  ns : ∀ C h, Inv C h → ∃ m', h.Ns C m'
  self : ∀ C, C ∈ ca C
  frm : ∀ C, FrmJ prog w A xs target (compEnvC scope (cs C) C env) (ca C) (Inv C) (K C)
noncomputable def CompAt (prog : Program) (w : World) (A : Around) (h₀ : Heap) (L : Addr) (m : Str → Option Value) (env : Env) (target elt : Expr) (ifs : List Expr) (scope : Scope) (cl : List (Str × Addr)) (Fin : Shared → List Value → List (Addr × Obj) → Prop) (it : Value) (s₂ : Shared) : Prop :=
  ∃ (I : Addr) (ws : List (Addr × String)) (keep : List (Addr × Obj)) (xs : List Itm) (fp wr : List Addr) (P Md : Nat → Value → Heap → Prop) (St : Nat → Heap → Prop) (news : List (Addr × Obj)) (s : Shared) (J : Nat → List Value → List (Addr × Obj) → Prop)
    (cs : Addr → List (Str × Addr)) (ca : Addr → List Addr) (Inv : Addr → Heap → Prop) (K : Addr → Itm → Value → List (Addr × Obj) → Prop),
    it = .ref I ∧ SrcJ prog w A h₀ L target I ws keep xs s₂.heap fp wr P Md St ∧ (∃ hp tk, s₂ = { s with heap := hp, toks := tk }) ∧ Fr h₀ L s₂.heap m ∧ News h₀ L s₂.heap news ∧ (∀ p ∈ news, p.1 ∉ ws.map (·.1)) ∧ SubL keep news ∧
    xs.length ≤ sizeLine ∧ J 0 [] news ∧ FrmK prog w A xs target scope cl env cs ca Inv K ∧ (∀ C D, TurnJ prog w A h₀ L m elt ifs (compEnvC scope (cs C) C env) s ws keep xs (ca C) (K C) J D 0) ∧
    ∀ ys news', J xs.length ys news' → ys.length ≤ xs.length → Fin s ys news'
theorem blockJ {h₀ : Heap} {L : Addr} {m : Str → Option Value} {env : Env} {target elt iter : Expr} {ifs : List Expr} {scope : Scope} {cl : List (Str × Addr)} {pos : Pos} {Fin : Shared → List Value → List (Addr × Obj) → Prop} {it : Value} {s₂ : Shared} {RR : Value → Addr → Result → Shared → Prop}
    (h : CompAt prog w A h₀ L m env target elt ifs scope cl Fin it s₂)
    (hRR : ∀ (s : Shared), (∃ hp tk, s₂ = { s with heap := hp, toks := tk }) → ∀ D C h tk m' ys news', Fr h₀ L h m → News h₀ L h ((D, lst ys) :: news') → (∀ p ∈ news', p.1 ≠ D) → h.Ns C m' → h₀.get? C = none → h₀.get? D = none → C ≠ L → D ≠ L → C ≠ D → (∀ p ∈ news', p.1 ≠ C) → Fin s ys news' →
      RR (.ref D) C (.ok .next) { s with heap := h, toks := tk }) :
    wpAny (model prog w) A (newList []) (fun acc s₃ => wpAny (model prog w) A (newFunctionEnv scope env.globals cl [] env.qual none .none (some env)) (fun cenv s₄ =>
      codeAny (model prog w) A (.compStart (.ListComp elt [⟨target, iter, ifs, 0⟩] scope pos) 0 it acc { cenv with scope := relabel scope env }) (RR acc cenv.locals) s₄) E s₃) E s₂ := by
  obtain ⟨I, ws, keep, xs, fp, wr, P, Md, St, news, s, J, cs, ca, Inv, K, rfl, S, ⟨hp, tk, rfl⟩, F, N, hnw, hkp, hsz, h0, X, turn, fin⟩ := h
  refine wpAny_newObj_type (newEnvK ?_)
  have hinit := X.init (Heap.push hp { cls := .type "list", dict := none, data := .seq ([] : List Value).toArray })
  dsimp only at S F N hinit ⊢
  rw [X.cells]
  have hold : ∀ b o, hp.get? b = some o → (pushCells ((Heap.push hp { cls := .type "list", dict := none, data := .seq ([] : List Value).toArray }).push { cls := .type "dict", data := .dict #[] }) scope.names).get? b = some o :=
    fun b o e => pushCells_keeps _ _ b o (Heap.get?_push_of_some _ (Heap.get?_push_of_some _ e))
  have hDs : (pushCells ((Heap.push hp { cls := .type "list", dict := none, data := .seq ([] : List Value).toArray }).push { cls := .type "dict", data := .dict #[] }) scope.names).get? hp.objs.size = some (lst []) :=
    pushCells_keeps _ _ _ _ (Heap.get?_push_of_some _ (Heap.get?_push_size _ rfl))
  generalize hH : pushCells ((Heap.push hp { cls := .type "list", dict := none, data := .seq ([] : List Value).toArray }).push { cls := .type "dict", data := .dict #[] }) scope.names = h₁ at hinit hold hDs ⊢
  have hC : (Heap.push hp { cls := .type "list", dict := none, data := .seq ([] : List Value).toArray }).objs.size = hp.objs.size + 1 := Heap.size_push ..
  rw [hC] at hinit ⊢
  generalize hD : hp.objs.size = D at hinit hDs ⊢
  have hDL : D ≠ L := by rw [← hD]; exact Ne.symm (Nat.ne_of_lt F.ns.lt)
  have hD0 : h₀.get? D = none := ktu_new F (Nat.le_of_eq hD)
  have hDw : D ∉ ws.map (·.1) := fun h => by have := (S.hws _ h).2.2; rw [hD] at this; exact Nat.lt_irrefl _ this
  have hlt : ∀ p ∈ news, p.1 < D := fun p hp => by rw [← hD]; exact Heap.lt_size (N p hp).1
  have hge : ∀ b ∈ ca (D + 1), D < b := fun b hb => Nat.lt_of_lt_of_le (Nat.lt_succ_self D) (X.new _ b hb)
  have hca : ∀ b ∈ ca (D + 1), b ≠ L ∧ h₀.get? b = none ∧ b ∉ ws.map (·.1) ∧ b ≠ D := fun b hb => by
    have hb' := hge b hb
    refine ⟨fun e => ?_, ktu_new F (by rw [hD]; exact Nat.le_of_lt hb'), fun h => ?_, Nat.ne_of_gt hb'⟩
    · have := F.ns.lt
      rw [hD, ← e] at this
      exact Nat.lt_irrefl _ (Nat.lt_trans hb' this)
    · have := (S.hws _ h).2.2
      rw [hD] at this
      exact Nat.lt_irrefl _ (Nat.lt_trans hb' this)
  have hst₁ : St 0 h₁ := S.W.frame _ _ _ S.st fun b _ o e => hold b o e
  have loop : codeAny (model prog w) A (.compLoop (.ListComp elt [⟨target, iter, ifs, 0⟩] scope pos) 0 (.ref I) (.ref D) (compEnvC scope (cs (D + 1)) (D + 1) env)) (RR (.ref D) (D + 1)) { s with heap := h₁, toks := tk } := by
    refine loopJ (s := { s with heap := h₁, toks := tk }) (ys0 := []) (l0 := 0) (news := news) rfl rfl S (X.frm (D + 1)) hst₁ hinit (Nat.le_refl _) (by omega) hca hDw (F.keeps hold) (fun p hp => ?_) (fun p hp => ⟨hnw p hp, fun h => ?_, Nat.ne_of_lt (hlt p hp)⟩) hkp J h0 (turn _ _) ?_
    · rcases List.mem_cons.mp hp with rfl | hp
      · exact ⟨hDs, hDL, hD0⟩
      · exact ⟨hold _ _ (N p hp).1, (N p hp).2⟩
    · exact Nat.lt_irrefl _ (Nat.lt_trans (hge _ h) (hlt p hp))
    · intro h tk' ys news' hJ hyl F' N' off' _ hI'
      obtain ⟨m', hns⟩ := X.ns _ _ hI'
      have hc := hca _ (X.self (D + 1))
      exact hRR s ⟨hp, tk, rfl⟩ D (D + 1) h tk' m' ys news' F' N' (fun p hp => (off' p hp).2.2) hns hc.2.1 hD0 hc.1 hDL (Nat.succ_ne_self D) (fun p hp e => (off' p hp).2.1 (e ▸ X.self (D + 1))) (fin ys news' hJ (by omega))
  exact codeAny_compStart_list loop (S.self _ _ _ hst₁ loop)
theorem ListComp_J {h₀ : Heap} {L : Addr} {m : Str → Option Value} {env : Env} {target elt iter : Expr} {ifs : List Expr} {scope : Scope} {cl : List (Str × Addr)} {pos : Pos} {Q : Value → Shared → Prop}
    (hclos : closureFor scope env = pure cl) (hkind : scope.kind = .function) (hnames : ∀ y ∈ scope.names, y.2 = .local → scope.names.lookup y.1 = some .local)
    (h : wpAny (model prog w) A (eval iter env) (fun xv s₁ => wpAny (model prog w) A (pyIter xv) (fun it s₂ => CompAt prog w A h₀ L m env target elt ifs scope cl (fun s ys news => ∀ D h tk, Fr h₀ L h m → News h₀ L h ((D, lst ys) :: news) → (∀ p ∈ news, p.1 ≠ D) → Q (.ref D) { s with heap := h, toks := tk }) it s₂) E s₁) E s)
    (hs : ∀ x, foldedSetIterable iter env x = pure x := by intro _; rfl) :
    wpAny (model prog w) A (eval (.ListComp elt [⟨target, iter, ifs, 0⟩] scope pos) env) Q E s := by
  rw [eval_ListComp]
  refine wpAny_comprehension_free (use := none) rfl hs hclos hkind hnames (wpAny_mono h (fun xv s₁ h₁ => wpAny_mono h₁ (fun it s₂ h₂ => ?_) fun _ _ e => e) fun _ _ e => e)
  refine blockJ (RR := fun acc C => compPost (model prog w) A E none Q acc C) h₂ ?_
  rintro sb ⟨hp, tk0, rfl⟩ D C h tk m' ys news' F' N' o1 hn hC₀ hD₀ hCL hDL hCD offC fin
  refine ⟨m', hn, fun h'' hs'' => fin D h'' tk (F'.change hs'' hCL hC₀) (fun p hp => ?_) o1⟩
  refine ⟨hs''.extBut _ _ ?_ (N' p hp).1, (N' p hp).2⟩
  rcases List.mem_cons.mp hp with rfl | hp
  · exact Ne.symm hCD
  · exact offC p hp
theorem Assign_ListComp_J {h₀ : Heap} {m : Str → Option Value} {env : Env} {target elt iter : Expr} {ifs : List Expr} {y : Str} {py : Pos} {scope : Scope} {cl : List (Str × Addr)} {pos spos : Pos} {Q : Flow → Shared → Prop}
    (hsw : swapsWith (.ListComp elt [⟨target, iter, ifs, 0⟩] scope pos) (some (.Name y py)) spos.line env = pure true)
    (hclos : closureFor scope env = pure cl) (hkind : scope.kind = .function) (hnames : ∀ z ∈ scope.names, z.2 = .local → scope.names.lookup z.1 = some .local)
    (hy : env.kindOf y = some .local) (hp : (env.scope.kind == .class || (env.scope.kind == .module && env.locals != env.globals)) = false)
    (h : wpAny (model prog w) A (eval iter env) (fun xv s₁ => wpAny (model prog w) A (pyIter xv) (fun it s₂ => CompAt prog w A h₀ env.locals m env target elt ifs scope cl (fun s ys news => ∀ D h tk, Fr h₀ env.locals h (fun z => if z = y then some (.ref D) else m z) → News h₀ env.locals h ((D, lst ys) :: news) → (∀ p ∈ news, p.1 ≠ D) → Q .next { s with heap := h, toks := tk }) it s₂) E s₁) E s)
    (hs : ∀ x, foldedSetIterable iter env x = pure x := by intro _; rfl) :
    wpAny (model prog w) A (exec (.Assign [.Name y py] (.ListComp elt [⟨target, iter, ifs, 0⟩] scope pos) spos) env) Q E s := by
  rw [exec_Assign_Name_used _ _ _ _ hsw]
  refine wpAny_bind (wpAny_standAt (wpAny_bind ?_))
  show wpAny _ A (do let _ ← comprehension (.ListComp elt [⟨target, iter, ifs, 0⟩] scope pos) scope env _ (newList []) false (eval iter env) (some (assign (.Name y py) env))) _ _ s
  refine wpAny_bind (wpAny_mono (wpAny_comprehension_free (use := some (assign (.Name y py) env)) (Q := fun _ s' => Q .next s') rfl hs hclos hkind hnames
    (wpAny_mono h (fun xv s₁ h₁ => wpAny_mono h₁ (fun it s₂ h₂ => ?_) fun _ _ e => e) fun _ _ e => e)) (fun _ s' hq => wpAny_pure (wpAny_pure hq)) fun _ _ e => e)
  refine blockJ (RR := fun acc C => compPost (model prog w) A E (some (assign (.Name y py) env)) (fun _ s' => Q .next s') acc C) h₂ ?_
  rintro sb ⟨hp0, tk0, rfl⟩ D C h' tk m' ys news' F' N' o1 hn hC₀ hD₀ hCL hDL hCD offC fin
  show wpAny _ A (assign (.Name y py) env (.ref D)) _ _ _
  refine wpAny_assign_Name (wpAny_storeName_local hy F'.ns (fun h₂ hn₂ hs₂ => ?_) hp)
  have hL₀ : h₀.get? env.locals = none := Heap.get?_none_of_le F'.above
  have F₂ : Fr h₀ env.locals h₂ (fun z => if z = y then some (.ref D) else m z) := ⟨hn₂, fun b o e => hs₂.extBut b o (fun q => by rw [q, hL₀] at e; cases e) (F'.keep b o e), F'.above⟩
  refine ⟨m', hn.sameBut hs₂ hCL, fun h'' hs'' => fin D h'' _ (F₂.change hs'' hCL hC₀) (fun p hp => ?_) o1⟩
  have z : h₂.get? p.1 = some p.2 := hs₂.extBut _ _ (N' p hp).2.1 (N' p hp).1
  refine ⟨hs''.extBut _ _ ?_ z, (N' p hp).2⟩
  rcases List.mem_cons.mp hp with rfl | hp
  · exact Ne.symm hCD
  · exact offC p hp
end
end
section
open PySem PySem.W PyProof.Rows PySem.Spec PySem.Calls PyProof.Rows.LCg
theorem enum_inv {vs : List Value} {k : Nat} {a : Itm} (h : (enumItems 0 vs)[k]? = some a) : ∃ v, vs[k]? = some v ∧ a = .pair (fun t => .int (k : Int) t) v := by
  have hk : k < vs.length := by
    have h1 := (List.getElem?_eq_some_iff.mp h).1
    rwa [enumItems_length] at h1
  refine ⟨vs[k], List.getElem?_eq_getElem hk, ?_⟩
  have h2 := enumItems_get vs 0 k (List.getElem?_eq_getElem hk)
  rw [h] at h2
  have h3 := Option.some.inj h2
  rw [h3, Nat.zero_add]
/-- what stands at the places of the number's bits -/
noncomputable def selJ {α : Type} (n : Nat) : Nat → List α → List α
  | _, [] => []
  | i, v :: r => if n.testBit i then v :: selJ n (i + 1) r else selJ n (i + 1) r
theorem selJ_append {α : Type} {n : Nat} : ∀ {a b : List α} {i : Nat}, selJ n i (a ++ b) = selJ n i a ++ selJ n (i + a.length) b
  | [], b, i => rfl
  | x :: r, b, i => by
    have ih := selJ_append (n := n) (a := r) (b := b) (i := i + 1)
    have e : i + 1 + r.length = i + (x :: r).length := by simp only [List.length_cons]; omega
    rw [e] at ih
    simp only [List.cons_append, selJ, ih]
    split <;> rfl
theorem selJ_take {α : Type} {n k : Nat} {vs : List α} {v : α} (h : vs[k]? = some v) : selJ n 0 (vs.take (k + 1)) = selJ n 0 (vs.take k) ++ (if n.testBit k then [v] else []) := by
  have hk := (List.getElem?_eq_some_iff.mp h).1
  rw [List.take_add_one, h, selJ_append, List.length_take, Nat.zero_add, Nat.min_eq_left (Nat.le_of_lt hk)]
  rfl
theorem selJ_on {α : Type} {n k : Nat} {vs : List α} {v : α} (h : vs[k]? = some v) (hb : n.testBit k = true) : selJ n 0 (vs.take k) ++ [v] = selJ n 0 (vs.take (k + 1)) := by rw [selJ_take h, if_pos hb]
theorem selJ_off {α : Type} {n k : Nat} {vs : List α} {v : α} (h : vs[k]? = some v) (hb : n.testBit k = false) : selJ n 0 (vs.take k) = selJ n 0 (vs.take (k + 1)) := by rw [selJ_take h, hb]; simp
theorem pick {h₀ h : Heap} {L : Addr} {news : List (Addr × Obj)} (is : List Nat) (N : News h₀ L h news) : News h₀ L h (is.filterMap fun i => news[i]?) := fun p hp => by
  obtain ⟨i, _, e⟩ := List.mem_filterMap.mp hp
  exact N p (List.mem_of_getElem? e)
theorem pickT {h₀ h : Heap} {L : Addr} {news : List (Addr × Obj)} (d : Nat) (is : List Nat) (N : News h₀ L h news) : News h₀ L h ((is.filterMap fun i => news[i]?) ++ news.drop d) := fun p hp => by
  rcases List.mem_append.mp hp with hp | hp
  · exact pick is N p hp
  · exact N p (List.mem_of_mem_drop hp)
theorem bit_on {i k : Nat} (h : Builtin.bitAnd ((i : Int).fdiv (2 ^ ((k : Int)).toNat)) 1 ≠ 0) : i.testBit k = true := by
  rw [Int.toNat_natCast, show ((2 : Int) ^ k) = ((2 ^ k : Nat) : Int) by simp, Int.fdiv_eq_ediv_of_nonneg _ (Int.natCast_nonneg _), ← Int.natCast_ediv, show (1 : Int) = ((1 : Nat) : Int) from rfl] at h
  have h' : ((i / 2 ^ k &&& 1 : Nat) : Int) ≠ 0 := h
  rw [Nat.and_one_is_mod] at h'
  rw [Nat.testBit_eq_decide_div_mod_eq]
  have : i / 2 ^ k % 2 ≠ 0 := fun e => h' (by rw [e]; rfl)
  exact decide_eq_true (by omega)
theorem bit_off {i k : Nat} (h : Builtin.bitAnd ((i : Int).fdiv (2 ^ ((k : Int)).toNat)) 1 = 0) : i.testBit k = false := by
  rw [Int.toNat_natCast, show ((2 : Int) ^ k) = ((2 ^ k : Nat) : Int) by simp, Int.fdiv_eq_ediv_of_nonneg _ (Int.natCast_nonneg _), ← Int.natCast_ediv, show (1 : Int) = ((1 : Nat) : Int) from rfl] at h
  have h' : ((i / 2 ^ k &&& 1 : Nat) : Int) = 0 := h
  rw [Nat.and_one_is_mod] at h'
  rw [Nat.testBit_eq_decide_div_mod_eq]
  have : i / 2 ^ k % 2 = 0 := by omega
  exact decide_eq_false (by omega)
theorem ints_sel {n : Nat} : ∀ {vs : List Value} {ns : List Int} {i : Nat}, IntsAre vs ns → IntsAre (selJ n i vs) (selJ n i ns)
  | [], [], _, .nil => .nil
  | _, _, i, .cons x t h => by
    have ih := ints_sel (n := n) (i := i + 1) h
    simp only [selJ]
    split
    · exact .cons x t ih
    · exact ih
theorem sel_bound {n : Nat} {f0 f1 f2 : Int} (hb0 : 0 ≤ f0 ∧ f0 ≤ 8) (hb1 : 0 ≤ f1 ∧ f1 ≤ 128) (hb2 : 0 ≤ f2 ∧ f2 ≤ 2048) : 0 ≤ (selJ n 0 [f0, f1, f2]).sum ∧ (selJ n 0 [f0, f1, f2]).sum < 4096 := by
  simp only [selJ]
  split <;> split <;> split <;> simp only [List.sum_cons, List.sum_nil] <;> omega
theorem CEndJ.same {h₀ : Heap} {L : Addr} {m : Str → Option Value} {s₁ : Shared} {fix news' : List (Addr × Obj)} {off : Addr → Prop} {rest : List (Addr × Obj) → Prop} {h' : Heap} {tk : Nat} (F : Fr h₀ L h' m) (N : News h₀ L h' (fix ++ news')) (ho : ∀ p ∈ news', off p.1) (r : rest news') :
    CEndJ h₀ L m s₁ fix off rest { s₁ with heap := h', toks := tk } := ⟨h', tk, news', rfl, F, N, ho, r⟩
theorem pushCells_none : ∀ {names : List (Str × NameKind)} (h : Heap), (∀ y ∈ names, y.2 ≠ .cell) → pushCells h names = h
  | [], _, _ => rfl
  | (n, k) :: r, h, hc => by
    have hk : (k == NameKind.cell) = false := by
      have := hc (n, k) (.head _)
      cases k <;> first | rfl | exact absurd rfl this
    unfold pushCells
    rw [if_neg (by rw [hk]; decide)]
    exact pushCells_none h fun y hy => hc y (.tail _ hy)
theorem cellsFrom_none : ∀ {names : List (Str × NameKind)} (n : Nat) (cl : List (Str × Addr)), (∀ y ∈ names, y.2 ≠ .cell) → cellsFrom n names cl = cl
  | [], _, _, _ => rfl
  | (x, k) :: r, n, cl, hc => by
    have hk : (k == NameKind.cell) = false := by
      have := hc (x, k) (.head _)
      cases k <;> first | rfl | exact absurd rfl this
    unfold cellsFrom
    rw [if_neg (by rw [hk]; decide)]
    exact cellsFrom_none n cl fun y hy => hc y (.tail _ hy)
noncomputable def KName (x : Str) (C : Addr) (a : Itm) (v : Value) (l : List (Addr × Obj)) : Prop := (∃ h, a.Is v h) ∧ ∃ oC m₂, l = [(C, oC)] ∧ NsObj oC m₂ ∧ m₂ x = some v
noncomputable def KPair (x x₂ : Str) (C : Addr) (a : Itm) (_v : Value) (l : List (Addr × Obj)) : Prop := ∃ f t y oC m₂, a = .pair f y ∧ l = [(C, oC)] ∧ NsObj oC m₂ ∧ m₂ x = some (f t) ∧ m₂ x₂ = some y
noncomputable def KCell1 (C : Addr) (a : Itm) (v : Value) (l : List (Addr × Obj)) : Prop := (∃ h, a.Is v h) ∧ ∃ oC m₂ oK, l = [(C, oC), (C + 1, oK)] ∧ NsObj oC m₂ ∧ oK.data = .cell (some v)
noncomputable def Inv1 (C : Addr) (h : Heap) : Prop := ∃ m', h.Ns C m'
noncomputable def Inv2 (C : Addr) (h : Heap) : Prop := (∃ m', h.Ns C m') ∧ ∃ v, h.IsCell (C + 1) v
section
variable {prog : Program} {w : World} {A : Around} {E : Value → Shared → Prop} {s : Shared}
theorem frm_name {xs : List Itm} {x : Str} {px : Pos} {scope : Scope} {cl : List (Str × Addr)} {env : Env} (hcell : ∀ y ∈ scope.names, y.2 ≠ .cell) (hkind : scope.kind = .function) (hx : scope.names.lookup x = some .local) :
    FrmK prog w A xs (.Name x px) scope cl env (fun _ => cl) (fun C => [C]) Inv1 (KName x) where
  cells := fun C => cellsFrom_none _ _ hcell
  init := fun h => by rw [pushCells_none _ hcell]; exact ⟨_, Heap.Ns.new h (.type "dict")⟩
  new := fun C b hb => by rw [List.mem_singleton.mp hb]; exact Nat.le_refl _
  ns := fun _ _ h => h
  self := fun C => List.mem_singleton.mpr rfl
  frm := fun C => {
    keep := fun h h' ⟨m', hn⟩ hk => ⟨m', hn.at' fun o e => hk C (List.mem_singleton.mpr rfl) o e⟩
    asg := fun a _ v s Q E ha hI hQ => by
      obtain ⟨m', hn⟩ := hI
      refine wpAny_assign_Name (wpAny_storeName_local (lookup_relabel_local hx) hn (fun h₂ hn₂ hs₂ => ?_) (by simp [compEnvC, relabel, hkind]))
      obtain ⟨oC, heC, hoC⟩ := ns_obj hn₂
      exact hQ h₂ _ [(C, oC)] rfl (fun p hp => by rw [List.mem_singleton.mp hp]; exact heC) ⟨⟨_, ha⟩, oC, _, rfl, hoC, by simp⟩ ⟨_, hn₂⟩ fun b o hb e => hs₂.extBut b o (fun q => hb (List.mem_singleton.mpr q)) e }
theorem frm_pair {xs : List Itm} {x x₂ : Str} {px px₂ tp : Pos} {kk : Nat} {scope : Scope} {cl : List (Str × Addr)} {env : Env} (hh : A.handled = none) (hxs : ∀ a ∈ xs, ∃ f y, a = .pair f y) (hcell : ∀ y ∈ scope.names, y.2 ≠ .cell) (hkind : scope.kind = .function)
    (hx : scope.names.lookup x = some .local) (hx₂ : scope.names.lookup x₂ = some .local) (hxx : ¬ x = x₂) :
    FrmK prog w A xs (.Tuple [.Name x px, .Name x₂ px₂] kk tp) scope cl env (fun _ => cl) (fun C => [C]) Inv1 (KPair x x₂) where
  cells := fun C => cellsFrom_none _ _ hcell
  init := fun h => by rw [pushCells_none _ hcell]; exact ⟨_, Heap.Ns.new h (.type "dict")⟩
  new := fun C b hb => by rw [List.mem_singleton.mp hb]; exact Nat.le_refl _
  ns := fun _ _ h => h
  self := fun C => List.mem_singleton.mpr rfl
  frm := fun C => {
    keep := fun h h' ⟨m', hn⟩ hk => ⟨m', hn.at' fun o e => hk C (List.mem_singleton.mpr rfl) o e⟩
    asg := fun a ham v s Q E ha hI hQ => by
      obtain ⟨m', hn⟩ := hI
      obtain ⟨f, y, rfl⟩ := hxs a ham
      obtain ⟨T, t, rfl, hT⟩ := ha
      refine kcp_assign (env := compEnvC scope cl C env) hh hT (lookup_relabel_local hx) (lookup_relabel_local hx₂) (by simp [compEnvC, relabel, hkind]) hn fun h₄ tk₄ hn₄ hs₄ => ?_
      obtain ⟨oC, heC, hoC⟩ := ns_obj hn₄
      exact hQ h₄ _ [(C, oC)] rfl (fun p hp => by rw [List.mem_singleton.mp hp]; exact heC) ⟨f, t, y, oC, _, rfl, rfl, hoC, by simp [hxx], by simp⟩ ⟨_, hn₄⟩ fun b o hb e => hs₄ b o (fun q => hb (List.mem_singleton.mpr q)) e }
theorem frm_cell {xs : List Itm} {x : Str} {px : Pos} {scope : Scope} {cl : List (Str × Addr)} {env : Env} (hkind : scope.kind = .function)
    (hcs : ∀ C, cellsFrom (C + 1) scope.names cl = (x, C + 1) :: cl) (hpc : ∀ h, pushCells h scope.names = h.push { cls := .type "cell", data := .cell none })
    (hx : ∀ C, (compEnvC scope ((x, C + 1) :: cl) C env).kindOf x = some .cell) :
    FrmK prog w A xs (.Name x px) scope cl env (fun C => (x, C + 1) :: cl) (fun C => [C, C + 1]) Inv2 KCell1 where
  cells := hcs
  init := fun h => by
    rw [hpc]
    refine ⟨⟨_, (Heap.Ns.new h (.type "dict")).keeps fun b o e => Heap.get?_push_of_some _ e⟩, none, { cls := .type "cell", data := .cell none }, ?_, rfl⟩
    have := Heap.get?_push_size (h.push { cls := .type "dict", data := .dict #[] }) (o := { cls := .type "cell", data := .cell none }) rfl
    rwa [Heap.size_push] at this
  new := fun C b hb => by
    rcases List.mem_cons.mp hb with rfl | hb
    · exact Nat.le_refl _
    · rw [List.mem_singleton.mp hb]; exact Nat.le_succ _
  ns := fun _ _ h => h.1
  self := fun C => .head _
  frm := fun C => {
    keep := fun h h' ⟨⟨m', hn⟩, v, o, ho, hd⟩ hk => ⟨⟨m', hn.at' fun o e => hk C (.head _) o e⟩, v, o, hk (C + 1) (.tail _ (.head _)) o ho, hd⟩
    asg := fun a _ v s Q E ha hI hQ => by
      obtain ⟨⟨m', hn⟩, v0, hc⟩ := hI
      refine wpAny_assign_Name (wpAny_storeName_cell (c := C + 1) (by exact hkind) (hx C) (by simp [compEnvC, List.lookup_cons]) hc fun h₂ hc₂ hs₂ => ?_)
      have hn₂ : h₂.Ns C m' := hn.sameBut hs₂ (Ne.symm (Nat.succ_ne_self C))
      obtain ⟨oC, heC, hoC⟩ := ns_obj hn₂
      obtain ⟨oK, heK, hdK⟩ := hc₂
      exact hQ h₂ _ [(C, oC), (C + 1, oK)] rfl (fun p hp => by
        rcases List.mem_cons.mp hp with rfl | hp
        · exact heC
        · rw [List.mem_singleton.mp hp]; exact heK) ⟨⟨_, ha⟩, oC, m', oK, rfl, hoC, hdK⟩ ⟨⟨_, hn₂⟩, _, oK, heK, hdK⟩ fun b o hb e => hs₂.extBut b o (fun q => hb (q ▸ .tail _ (.head _))) e }
section
variable {h₀ : Heap} {L : Addr} {m : Str → Option Value} {env : Env} {elt : Expr} {ifs : List Expr} {scope : Scope} {cl : List (Str × Addr)} {Fin : Shared → List Value → List (Addr × Obj) → Prop} {news : List (Addr × Obj)}
  {cs : Addr → List (Str × Addr)} {ca : Addr → List Addr} {Inv : Addr → Heap → Prop} {K : Addr → Itm → Value → List (Addr × Obj) → Prop}
theorem at_list {target : Expr} {ax : Addr} {lo : Obj} {vs : List Value} {n : Nat} (hh : A.handled = none) (F : Fr h₀ L s.heap m) (N : News h₀ L s.heap news) (hm : (ax, lo) ∈ news) (hc : lo.cls = .type "list") (hd : lo.data = .seq vs.toArray n) (hsz : vs.length ≤ sizeLine)
    (X : FrmK prog w A (vs.map .val) target scope cl env cs ca Inv K) (J : Nat → List Value → List (Addr × Obj) → Prop) (h0 : J 0 [] news)
    (turn : ∀ I C D, (∀ p ∈ news, p.1 < I) → TurnJ prog w A h₀ L m elt ifs (compEnvC scope (cs C) C env) s [(I, "list_iterator")] [(ax, lo)] (vs.map .val) (ca C) (K C) J D 0)
    (fin : ∀ ys news', J vs.length ys news' → ys.length ≤ vs.length → Fin s ys news') :
    wpAny (model prog w) A (pyIter (.ref ax)) (fun it s₂ => CompAt prog w A h₀ L m env target elt ifs scope cl Fin it s₂) E s := by
  have hax := N _ hm
  have hl : s.heap.IsList ax vs.toArray := ⟨lo, hax.1, hc, n, hd⟩
  have hlt : ax < s.heap.objs.size := Heap.lt_size hax.1
  have hne : ax ≠ s.heap.objs.size := Nat.ne_of_lt hlt
  have hlen : (vs.map Itm.val).length = vs.toArray.size := by simp
  refine wpAny_pyIter_list hl ?_
  refine ⟨s.heap.objs.size, [(s.heap.objs.size, "list_iterator")], [(ax, lo)], vs.map .val, _, _, _, _, _, news, s, J, cs, ca, Inv, K, rfl,
    ⟨hlen ▸ KTurns.ofWalks (Walks.list hh s.heap.objs.size ax hne vs.toArray) fun i v s Q E st q => letGo_listiter st.1 q, (Walks.list hh s.heap.objs.size ax hne vs.toArray).self 0, fun i v h hp => ⟨.val v, ?_, rfl⟩, fun i h st => ?_, fun b hb => ?_, fun b hb => by simpa using hb, fun b hb => ?_, ?_⟩,
    ⟨_, s.toks, rfl⟩, F.push _, N.grown fun _ _ e => Heap.get?_push_of_some _ e, fun p hp hI => ?_, ⟨hm, trivial⟩, by rw [List.length_map]; exact hsz, h0, X, fun C D => turn _ C D fun p hp => Heap.lt_size (N p hp).1, fun ys news' hJ hy => fin ys news' (by rw [List.length_map] at hJ; exact hJ) (by rw [List.length_map] at hy; exact hy)⟩
  · have hp' : vs.toArray[i]? = some v := hp
    simpa using hp'
  · obtain ⟨it, hit, hic, _⟩ := st.1
    exact ⟨[(s.heap.objs.size, it)], ⟨⟨rfl, hic⟩, trivial⟩, fun p hp => by rw [List.mem_singleton.mp hp]; exact hit⟩
  · have hb' : b = s.heap.objs.size := by simpa using hb
    rw [hb']
    refine ⟨fun e => ?_, next_is_new F, ?_⟩
    · exact absurd F.ns.lt (e ▸ Nat.lt_irrefl _)
    · show s.heap.objs.size < (s.heap.push _).objs.size
      rw [Heap.size_push]; exact Nat.lt_succ_self _
  · have hb' : b = s.heap.objs.size ∨ b = ax := by simpa using hb
    rcases hb' with e | e
    · exact .inl (by simp [e])
    · exact .inr ⟨lo, by simp [e]⟩
  · exact ⟨⟨_, Heap.get?_push_size _ rfl, rfl, rfl⟩, hl.at fun o e => Heap.get?_push_of_some _ e⟩
  · have hI' : p.1 = s.heap.objs.size := by simpa using hI
    exact absurd (Heap.lt_size (N p hp).1) (hI' ▸ Nat.lt_irrefl _)
theorem at_enum {elts : List Expr} {k : Nat} {pos : Pos} {l : Addr} {lo : Obj} {vs : List Value} {n : Nat} (hh : A.handled = none) (F : Fr h₀ L s.heap m) (N : News h₀ L s.heap news) (hm : (l, lo) ∈ news) (hc : lo.cls = .type "list") (hd : lo.data = .seq vs.toArray n) (hsz : vs.length ≤ sizeLine)
    (X : FrmK prog w A (enumItems 0 vs) (.Tuple elts k pos) scope cl env cs ca Inv K) (J : Nat → List Value → List (Addr × Obj) → Prop) (h0 : J 0 [] news)
    (turn : ∀ I C D, (∀ p ∈ news, p.1 < I) → TurnJ prog w A h₀ L m elt ifs (compEnvC scope (cs C) C env) s [(I + 1, "enumerate"), (I, "list_iterator")] [(l, lo)] (enumItems 0 vs) (ca C) (K C) J D 0)
    (fin : ∀ ys news', J vs.length ys news' → ys.length ≤ vs.length → Fin s ys news') :
    wpAny (model prog w) A (call (.type "enumerate") [.ref l]) (fun xv s₁ => wpAny (model prog w) A (pyIter xv) (fun it s₂ => CompAt prog w A h₀ L m env (.Tuple elts k pos) elt ifs scope cl Fin it s₂) E s₁) E s := by
  have hax := N _ hm
  have hl : s.heap.IsList l vs.toArray := ⟨lo, hax.1, hc, n, hd⟩
  have hlt : l < s.heap.objs.size := Heap.lt_size hax.1
  have hLs : L < s.heap.objs.size := F.ns.lt
  have hlen : (enumItems 0 vs).length = vs.toArray.size := by simp [enumItems_length]
  refine call_enumerate_list hl fun h' hE hI hsz' hk => ?_
  refine wpAny_pyIter_enum hE ?_
  have WT := (WalksT.enumerate (prog := prog) (w := w) hh (s.heap.objs.size + 1) s.heap.objs.size l (Nat.succ_ne_self _) (ktu_ne 1 hlt) (Nat.ne_of_lt hlt) vs.toArray)
  refine ⟨s.heap.objs.size + 1, [(s.heap.objs.size + 1, "enumerate"), (s.heap.objs.size, "list_iterator")], [(l, lo)], enumItems 0 vs, _, _, _, _, _, news, s, J, cs, ca, Inv, K, rfl,
    ⟨hlen ▸ KTurns.ofWalksU WT.toU, WT.self 0, ?_, ?_, ?_, ?_, ?_, ?_⟩,
    ⟨h', s.toks, rfl⟩, F.keeps hk, N.grown hk, ?_, ⟨hm, trivial⟩, by rw [enumItems_length]; exact hsz, h0, X, fun C D => turn _ C D fun p hp => Heap.lt_size (N p hp).1, fun ys news' hJ hy => fin ys news' (by rw [enumItems_length] at hJ; exact hJ) (by rw [enumItems_length] at hy; exact hy)⟩
  · rintro i v h ⟨T, vals, rfl, ⟨t, x, hx, rfl⟩, hT⟩
    refine ⟨_, enumItems_get vs 0 i (v := x) (by simpa using hx), T, t, rfl, ?_⟩
    show IsTup h T #[.int ((0 + i : Nat) : Int) t, x]
    rw [Nat.zero_add]
    exact hT
  · rintro i h ⟨⟨old, he⟩, ⟨oi, hoi, hic, _⟩, _⟩
    have he' : ∃ oe : Obj, h.get? (s.heap.objs.size + 1) = some oe ∧ oe.cls = .type "enumerate" := ⟨_, he, rfl⟩
    obtain ⟨oe, h1, h2⟩ := he'
    refine ⟨[(s.heap.objs.size + 1, oe), (s.heap.objs.size, oi)], ⟨⟨rfl, h2⟩, ⟨rfl, hic⟩, trivial⟩, fun p hp => ?_⟩
    rcases List.mem_cons.mp hp with rfl | hp
    · exact h1
    · rw [List.mem_singleton.mp hp]; exact hoi
  · intro b hb
    have hb' : b = s.heap.objs.size + 1 ∨ b = s.heap.objs.size := by simpa using hb
    have h1 := Heap.lt_size hE
    rcases hb' with rfl | rfl
    · exact ⟨fun e => ktu_ne 1 hLs e.symm, ktu_new F (Nat.le_add_right _ _), h1⟩
    · exact ⟨fun e => Nat.ne_of_lt hLs e.symm, ktu_new F (Nat.le_refl _), Nat.lt_trans (Nat.lt_succ_self _) h1⟩
  · intro b hb
    simpa using hb
  · intro b hb
    have hb' : b = s.heap.objs.size + 1 ∨ b = s.heap.objs.size ∨ b = l := by simpa using hb
    rcases hb' with rfl | rfl | rfl
    · exact .inl (by simp)
    · exact .inl (by simp)
    · exact .inr ⟨lo, by simp⟩
  · exact ⟨⟨.none, hE⟩, hI, hl.at fun o e => hk l o e⟩
  · intro p hp hI'
    have hb' : p.1 = s.heap.objs.size + 1 ∨ p.1 = s.heap.objs.size := by simpa using hI'
    have hlp := Heap.lt_size (N p hp).1
    rcases hb' with e | e
    · exact ktu_ne 1 hlp e
    · exact Nat.ne_of_lt hlp e
noncomputable def rangeItems (a : Int) (n : Nat) : List Itm := (List.range n).map fun (i : Nat) => Itm.tok fun t => .int (a + (i : Int)) t
theorem rangeItems_length {a : Int} {n : Nat} : (rangeItems a n).length = n := by simp [rangeItems]
theorem rangeItems_get {a : Int} {n i : Nat} (h : i < n) : (rangeItems a n)[i]? = some (.tok fun t => .int (a + (i : Int)) t) := by simp [rangeItems, h]
theorem at_range {x : Str} {px : Pos} {r : Addr} {n : Nat} {t u v : Tok} (hh : A.handled = none) (F : Fr h₀ L s.heap m) (N : News h₀ L s.heap news) (hr : IsRange s.heap r 0 (n : Int) 1 t u v) (hn : n < 1000) (hsz : n ≤ sizeLine)
    (X : FrmK prog w A (rangeItems 0 n) (.Name x px) scope cl env cs ca Inv K) (J : Nat → List Value → List (Addr × Obj) → Prop) (h0 : J 0 [] news)
    (turn : ∀ I C D, (∀ p ∈ news, p.1 < I) → TurnJ prog w A h₀ L m elt ifs (compEnvC scope (cs C) C env) s [(I, "range_iterator")] [] (rangeItems 0 n) (ca C) (K C) J D 0)
    (fin : ∀ ys news', J n ys news' → ys.length ≤ n → Fin s ys news') :
    wpAny (model prog w) A (pyIter (.ref r)) (fun it s₂ => CompAt prog w A h₀ L m env (.Name x px) elt ifs scope cl Fin it s₂) E s := by
  have hrs : Builtin.Range.rangeSize 0 (n : Int) 1 = (n : Int) := by
    unfold Builtin.Range.rangeSize
    simp
    omega
  have hsm : Builtin.Range.small 0 (n : Int) 1 = true := by
    unfold Builtin.Range.small
    rw [hrs]
    have e1 : Builtin.Range.rangeFitsLong (n : Int) = true := by unfold Builtin.Range.rangeFitsLong; simp; omega
    have e2 : Builtin.Range.rangeFitsLong ((n : Int) + (1 - 1)) = true := by unfold Builtin.Range.rangeFitsLong; simp; omega
    have e3 : Builtin.Range.rangeFitsLong 0 = true := by decide
    have e4 : Builtin.Range.rangeFitsLong 1 = true := by decide
    rw [e1, e3, e4, if_pos (by decide), e2]
    simp
  refine wpAny_pyIter_range hr hsm ?_
  rw [hrs]
  have hlen : (rangeItems 0 n).length = n := rangeItems_length
  have hI : IsRangeIter (s.heap.push { cls := .type "range_iterator", data := .fields #[rawInt 0, rawInt (n : Int), rawInt 1] }) s.heap.objs.size 0 n 1 := Heap.get?_push_size _ rfl
  have W := range_walks (prog := prog) (w := w) (I := s.heap.objs.size) hh 0 n
  refine ⟨s.heap.objs.size, [(s.heap.objs.size, "range_iterator")], [], rangeItems 0 n, [s.heap.objs.size], [s.heap.objs.size], (fun i v _ => i < n ∧ ∃ t, v = .int (0 + (i : Int)) t), (fun i v h => (i < n ∧ ∃ t, v = .int (0 + (i : Int)) t) ∧ IsRangeIter h s.heap.objs.size (0 + ((i + 1 : Nat) : Int) * 1) ((n : Int) - ((i + 1 : Nat) : Int)) 1), (fun i h => IsRangeIter h s.heap.objs.size (0 + ((i : Nat) : Int) * 1) ((n : Int) - (i : Nat)) 1), news, s, J, cs, ca, Inv, K, rfl,
    ⟨⟨fun _ h => h, W.frame, ?_, ?_, ?_⟩, W.self 0, ?_, ?_, ?_, ?_, ?_, ?_⟩,
    ⟨_, s.toks, rfl⟩, F.push _, N.grown fun _ _ e => Heap.get?_push_of_some _ e, ?_, trivial, by rw [hlen]; exact hsz, h0, X, fun C D => turn _ C D fun p hp => Heap.lt_size (N p hp).1, fun ys news' hJ hy => fin ys news' (by rw [hlen] at hJ; exact hJ) (by rw [hlen] at hy; exact hy)⟩
  · intro i s' Q E' hi st hQ
    rw [hlen] at hi
    exact W.item i s' Q E' hi st fun v h' tk hP st' hk => hQ v h' tk ⟨⟨hi, hP⟩, st'⟩ hk
  · intro i v s' Q E' hm hQ
    show wpAny _ _ (pure ()) _ _ _
    exact wpAny_pure (hQ s'.heap hm.1 hm.2 fun _ _ _ e => e)
  · intro s' Q E' st hQ
    rw [hlen] at st
    exact W.done s' Q E' st hQ
  · rintro i v h ⟨hi, t, rfl⟩
    exact ⟨_, rangeItems_get hi, t, rfl⟩
  · intro i h st
    have st' : ∃ o : Obj, h.get? s.heap.objs.size = some o ∧ o.cls = .type "range_iterator" := ⟨_, st, rfl⟩
    obtain ⟨o, e, hc⟩ := st'
    exact ⟨[(s.heap.objs.size, o)], ⟨⟨rfl, hc⟩, trivial⟩, fun p hp => by rw [List.mem_singleton.mp hp]; exact e⟩
  · intro b hb
    have hb' : b = s.heap.objs.size := by simpa using hb
    rw [hb']
    refine ⟨fun e => absurd F.ns.lt (e ▸ Nat.lt_irrefl _), next_is_new F, ?_⟩
    show s.heap.objs.size < (s.heap.push _).objs.size
    rw [Heap.size_push]; exact Nat.lt_succ_self _
  · intro b hb
    simpa using hb
  · intro b hb
    exact .inl (by simpa using hb)
  · show IsRangeIter _ _ (0 + ((0 : Nat) : Int) * 1) ((n : Int) - ((0 : Nat) : Int)) 1
    simpa using hI
  · intro p hp hI'
    have hI'' : p.1 = s.heap.objs.size := by simpa using hI'
    exact absurd (Heap.lt_size (N p hp).1) (hI'' ▸ Nat.lt_irrefl _)
theorem ListComp_F {target iter : Expr} {pos : Pos} {Q : Value → Shared → Prop} (F₀ : Fr h₀ L s.heap m)
    (hclos : closureFor scope env = pure cl) (hkind : scope.kind = .function) (hnames : ∀ y ∈ scope.names, y.2 = .local → scope.names.lookup y.1 = some .local)
    (h : wpAny (model prog w) A (eval iter env) (fun xv s₁ => wpAny (model prog w) A (pyIter xv) (fun it s₂ => CompAt prog w A h₀ L m env target elt ifs scope cl (fun s ys news => ∀ D h tk, Fr h₀ L h m → News h₀ L h ((D, lst ys) :: news) → (∀ p ∈ news, p.1 ≠ D) → Q (.ref D) { s with heap := h, toks := tk }) it s₂) E s₁) E s)
    (hs : ∀ x, foldedSetIterable iter env x = pure x := by intro _; rfl) :
    wpAny (model prog w) A (eval (.ListComp elt [⟨target, iter, ifs, 0⟩] scope pos) env) Q E s := ListComp_J hclos hkind hnames h hs
theorem Assign_ListComp_F {target iter : Expr} {y : Str} {py : Pos} {pos spos : Pos} {Q : Flow → Shared → Prop} (F₀ : Fr h₀ env.locals s.heap m)
    (hsw : swapsWith (.ListComp elt [⟨target, iter, ifs, 0⟩] scope pos) (some (.Name y py)) spos.line env = pure true)
    (hclos : closureFor scope env = pure cl) (hkind : scope.kind = .function) (hnames : ∀ z ∈ scope.names, z.2 = .local → scope.names.lookup z.1 = some .local)
    (hy : env.kindOf y = some .local) (hp : (env.scope.kind == .class || (env.scope.kind == .module && env.locals != env.globals)) = false)
    (h : wpAny (model prog w) A (eval iter env) (fun xv s₁ => wpAny (model prog w) A (pyIter xv) (fun it s₂ => CompAt prog w A h₀ env.locals m env target elt ifs scope cl (fun s ys news => ∀ D h tk, Fr h₀ env.locals h (fun z => if z = y then some (.ref D) else m z) → News h₀ env.locals h ((D, lst ys) :: news) → (∀ p ∈ news, p.1 ≠ D) → Q .next { s with heap := h, toks := tk }) it s₂) E s₁) E s)
    (hs : ∀ x, foldedSetIterable iter env x = pure x := by intro _; rfl) :
    wpAny (model prog w) A (exec (.Assign [.Name y py] (.ListComp elt [⟨target, iter, ifs, 0⟩] scope pos) spos) env) Q E s := Assign_ListComp_J hsw hclos hkind hnames hy hp h hs
end
end
end
section
open PySem PySem.W PyProof.Rows PySem.Spec PySem.Calls
local macro_rules | `(tactic| walk_at "getMethod ref") => `(tactic| (k_here; (with_reducible show wpAny _ _ (getMethod (Value.ref _) (Str.ofString "search") _) _ _ _); k_dflt (refine' meth_pat ?k1 ?k2 ?k3 ?_; (case k1 => k_asm); (case k2 => k_asm); (case k3 => k_is); k_whole)))
local macro_rules | `(tactic| walk_at "call builtin:re.Pattern.search") => `(tactic| (k_here; k_dflt (refine' search_K ?k1 ?k2 ?k3 ?k4 ?k5 ?k6 ?k7 ?_; (case k1 => k_asm); (case k2 => k_asm); (case k3 => k_is); (case k4 => k_is); (case k5 => first | exact Or.inl (by decide +kernel) | exact Or.inr (by decide +kernel)); (case k6 => assumption); (case k7 => assumption); k_whole)))
local macro_rules | `(tactic| k_room) => `(tactic| ktr_room)
local macro_rules | `(tactic| k_units) => `(tactic| ktr_units)
local macro_rules | `(tactic| k_mem) => `(tactic| assumption)
section
open PySem PySem.W PyProof.Rows PySem.Spec PySem.Calls
section
variable {w : World} {mean : ExcName → Option Value} {mg mb : Str → Option Value} {dp un : Nat} {gd : Option (List Code)} {cn : Str} {nms : List (Str × NameKind)} {ig ic : Bool} {mr : List (Str × Const)} {a : Addr} {ccd : Value} {cl : List (Str × Addr)} {outer : List Env} {A₀ : Around} {base h₀ : Heap} {L : Addr} {m : Str → Option Value} {s : Shared} {Q E : Value → Shared → Prop} {news : List (Addr × Obj)}
theorem conv_k {x : Addr} {v : Str} {tv : Tok} {b : Bool} (hv : clean v) (hl : v.cps.size < 2 ^ 62)
    (B : Below A₀ base outer h₀) (F : Fr h₀ L s.heap m) (X : (hk.heap_1 w.params).In h₀) (N : News h₀ L s.heap news) (T : Top vw61 LL mean mg mb h₀) (hd : dp + 1 < recursionLimit) (hu : un + 8 < cLine)
    (hret : ∀ h' tk', Fr h₀ L h' m → News h₀ L h' news → Q (.str v tv) { s with heap := h', toks := tk' }) :
    wpAny (model prog w) (ktrTop dp un gd cn ⟨.function, nms, ig, ic, mr⟩ L a ccd cl outer) (call (.ref 120) [.ref x, .str v tv] [(Str.ofString "name", .bool b)]) Q E s := by
  w_strict (refine wpAny_call ?_; k_dflt k_enter; k_steps)
  all_goals exact hret _ _ (by k_asm) (by k_asm)
end
end
section
open PySem PySem.W PyProof.Rows PySem.Spec PySem.Calls
noncomputable def fwords : List Str := [Str.ofString "OPTIMIZED", Str.ofString "NEWLOCALS", Str.ofString "VARARGS", Str.ofString "VARKEYWORDS", Str.ofString "NESTED", Str.ofString "GENERATOR", Str.ofString "NOFREE", Str.ofString "COROUTINE", Str.ofString "ITERABLE_COROUTINE", Str.ofString "ASYNC_GENERATOR", Str.ofString "0x400", Str.ofString "0x800"]
noncomputable def fnames (x : Nat) (i : Nat) : List Str := (List.range i).filterMap fun j => if x.testBit j then fwords[j]? else none
noncomputable def swapHead (o : Obj) : List (Addr × Obj) → List (Addr × Obj)
  | [] => []
  | p :: r => (p.1, o) :: r
theorem bitAnd_nat (a b : Nat) : PySem.Builtin.bitAnd (a : Int) (b : Int) = ((a &&& b : Nat) : Int) := rfl
theorem bitNot2 (a : Int) : PySem.Builtin.bitNot (PySem.Builtin.bitNot a) = a := by
  unfold PySem.Builtin.bitNot
  omega
theorem bitOr_nat (a b : Nat) : PySem.Builtin.bitOr (a : Int) (b : Int) = ((a ||| b : Nat) : Int) := by
  have h1 : ¬ (0 : Int) ≤ PySem.Builtin.bitNot (a : Int) := by unfold PySem.Builtin.bitNot; omega
  have h2 : ¬ (0 : Int) ≤ PySem.Builtin.bitNot (b : Int) := by unfold PySem.Builtin.bitNot; omega
  unfold PySem.Builtin.bitOr PySem.Builtin.bitAnd
  rw [decide_eq_false h1, decide_eq_false h2]
  simp only [bitNot2]
  rfl
theorem half {x i : Nat} : x / 2 ^ i = 2 * (x / 2 ^ (i + 1)) + x / 2 ^ i % 2 := by
  have : x / 2 ^ (i + 1) = x / 2 ^ i / 2 := by rw [Nat.pow_succ, Nat.div_div_eq_div_mul]
  omega
theorem bit_half {x i : Nat} (h : x.testBit i = true) : x / 2 ^ i % 2 = 1 := by
  rw [Nat.testBit_eq_decide_div_mod_eq] at h
  exact of_decide_eq_true h
theorem nobit_half {x i : Nat} (h : x.testBit i = false) : x / 2 ^ i % 2 = 0 := by
  rw [Nat.testBit_eq_decide_div_mod_eq] at h
  have := of_decide_eq_false h
  omega
theorem flag_on {x i : Nat} (h : x.testBit i = true) : x / 2 ^ i * 2 ^ i = x / 2 ^ (i + 1) * 2 ^ (i + 1) + 2 ^ i := by
  have e := half (x := x) (i := i)
  rw [bit_half h] at e
  rw [e, Nat.pow_succ, Nat.add_mul, Nat.mul_comm 2, Nat.mul_assoc, Nat.mul_comm 2, Nat.one_mul]
theorem flag_off {x i : Nat} (h : x.testBit i = false) : x / 2 ^ i * 2 ^ i = x / 2 ^ (i + 1) * 2 ^ (i + 1) := by
  have e := half (x := x) (i := i)
  rw [nobit_half h] at e
  rw [e, Nat.pow_succ, Nat.add_zero, Nat.mul_comm 2, Nat.mul_assoc, Nat.mul_comm 2]
theorem tb_flag {x i j : Nat} : (x / 2 ^ i * 2 ^ i).testBit j = (decide (i ≤ j) && x.testBit j) := by
  rw [← Nat.shiftRight_eq_div_pow, ← Nat.shiftLeft_eq, Nat.testBit_shiftLeft, Nat.testBit_shiftRight]
  by_cases h : i ≤ j
  · simp only [h, decide_true, Bool.true_and]
    rw [show i + (j - i) = j by omega]
  · simp [h]
theorem flag_and {x i : Nat} : (x / 2 ^ i * 2 ^ i) &&& 2 ^ i = if x.testBit i then 2 ^ i else 0 := by
  apply Nat.eq_of_testBit_eq
  intro j
  rw [Nat.testBit_and, tb_flag, Nat.testBit_two_pow]
  by_cases h : i = j
  · subst h
    by_cases hb : x.testBit i <;> simp [hb]
  · by_cases hb : x.testBit i <;> simp [hb, h, Nat.testBit_two_pow]
theorem flag_or {x i : Nat} (h : x.testBit i = true) : (x / 2 ^ i * 2 ^ i) ||| 2 ^ i = x / 2 ^ i * 2 ^ i := by
  apply Nat.eq_of_testBit_eq
  intro j
  rw [Nat.testBit_or, tb_flag, Nat.testBit_two_pow]
  by_cases h2 : i = j
  · subst h2
    simp [h]
  · simp [h2]
theorem flag_xor {x i : Nat} (h : x.testBit i = true) : PySem.Builtin.bitXor ((x / 2 ^ i * 2 ^ i : Nat) : Int) ((2 ^ i : Nat) : Int) = ((x / 2 ^ (i + 1) * 2 ^ (i + 1) : Nat) : Int) := by
  unfold PySem.Builtin.bitXor
  rw [bitOr_nat, bitAnd_nat, flag_or h, flag_and, if_pos h, flag_on h]
  omega
theorem one_pow (i : Nat) : (1 : Int) * 2 ^ ((i : Int)).toNat = ((2 ^ i : Nat) : Int) := by simp
theorem fnames_on {x i : Nat} (h : x.testBit i = true) (hi : i < 12) : fnames x (i + 1) = fnames x i ++ [fwords.getD i default] := by
  unfold fnames
  rw [List.range_succ, List.filterMap_append]
  have : fwords[i]? = some (fwords.getD i default) := by
    have hl : i < fwords.length := hi
    rw [List.getElem?_eq_getElem hl, List.getD_eq_getElem?_getD, List.getElem?_eq_getElem hl]
    rfl
  have e : (if x.testBit i then fwords[i]? else none) = some (fwords.getD i default) := by rw [if_pos h, this]
  rw [List.filterMap_cons, e, List.filterMap_nil]
theorem fnames_off {x i : Nat} (h : x.testBit i = false) : fnames x (i + 1) = fnames x i := by
  unfold fnames
  rw [List.range_succ, List.filterMap_append]
  have e : (if x.testBit i then fwords[i]? else none) = none := by rw [h]; rfl
  rw [List.filterMap_cons, e, List.filterMap_nil, List.append_nil]
/-- no bit from i on: the names are all told -/
theorem fnames_rest {x i : Nat} (h : x / 2 ^ i = 0) : ∀ k, fnames x (i + k) = fnames x i
  | 0 => rfl
  | k + 1 => by
    have hb : x.testBit (i + k) = false := by
      have h1 : x < 2 ^ i := by
        rcases Nat.lt_or_ge x (2 ^ i) with h2 | h2
        · exact h2
        · have := Nat.div_pos h2 (Nat.two_pow_pos i)
          omega
      exact Nat.testBit_lt_two_pow (Nat.lt_of_lt_of_le h1 (Nat.pow_le_pow_right (n := 2) (by decide) (Nat.le_add_right i k)))
    rw [← Nat.add_assoc, fnames_off hb, fnames_rest h k]
theorem hexlen : ∀ i : Fin 12, (baseText "0x" 16 (1 * 2 ^ i.val)).length ≤ 100 := by decide +kernel
noncomputable def mems (x : Nat) : List Str := if x = 0 then [Str.ofString "0x0"] else fnames x 12
theorem strsAre_push {its : Array Value} {ys : List Str} {y : Str} {t : Tok} (h : StrsAre its.toList ys) : StrsAre (its.push (.str y t)).toList (ys ++ [y]) := by
  rw [Array.toList_push]
  generalize its.toList = l at h
  induction h with
  | nil => exact .cons y t .nil
  | cons a b _ ih => exact .cons a b ih
theorem fwords_len : ∀ w ∈ fwords, w.length ≤ 20 := by decide +kernel
theorem fnames_len {x i : Nat} : ∀ w ∈ fnames x i, w.length ≤ 20 := by
  intro w hw
  unfold fnames at hw
  obtain ⟨j, _, hj⟩ := List.mem_filterMap.mp hw
  split at hj
  · exact fwords_len w (List.mem_of_getElem? hj)
  · cases hj
section
variable {prog : Program} {w : World} {A : Around} {E : Value → Shared → Prop} {s : Shared} {h₀ : Heap}
theorem get_words {D : List (Int × PyData)} {i : Nat} {t t2 : Tok} {c : Addr} (K : KTD.Keyed h₀ c D) (hk : ∀ b o, h₀.get? b = some o → s.heap.get? b = some o) (hi : i < 12)
    (hD : ((List.range 12).map fun (i : Nat) => (KTD.datumAt ((1 : Int) * 2 ^ ((i : Int)).toNat) D).getD (PyData.str (baseText "0x" 16 ((1 : Int) * 2 ^ ((i : Int)).toNat)))) = (List.range 12).map fun (i : Nat) => PyData.str (fwords.getD i default)) {Q : Value → Shared → Prop}
    (h : ∀ t', Q (.str (fwords.getD i default) t') { s with toks := s.toks + 1 }) :
    wpAny (model prog w) A (call (.builtin "dict.get") [.ref c, .int ((1 : Int) * 2 ^ ((i : Int)).toNat) t, .str (baseText "0x" 16 ((1 : Int) * 2 ^ ((i : Int)).toNat)) t2]) Q E s :=
  call_get2_intTab (K.keep hk prog w) (.str _ _) fun v hv => by
    have e : (KTD.datumAt ((1 : Int) * 2 ^ ((i : Int)).toNat) D).getD (PyData.str (baseText "0x" 16 ((1 : Int) * 2 ^ ((i : Int)).toNat))) = PyData.str (fwords.getD i default) := by
      have := congrArg (fun l => l[i]?) hD
      simp only [List.getElem?_map, List.getElem?_range hi, Option.map_some] at this
      exact Option.some.inj this
    rw [KTD.lookup_keyed, e] at hv
    obtain ⟨t', rfl⟩ := PyProof.V.Flat.str_inv hv
    exact h t'
/-- ', '.join over a list of short texts -/
theorem join_short {L : Addr} {news : List (Addr × Obj)} {D : Addr} {k : Nat} {its : Array Value} {ys : List Str} {x : Str} {tx : Tok} {Q : Value → Shared → Prop} (N : News h₀ L s.heap news) (hm : (D, listOf its k) ∈ news) (hi : StrsAre its.toList ys) (hx : x.length ≤ 64)
    (hy : ∀ y ∈ ys, y.length ≤ 20) (hn : ys.length ≤ 100) (h : ∀ t' k, Q (.str (Txt.join x ys) t') { s with toks := k }) : wpAny (model prog w) A (call (.builtin "str.join") [.str x tx, .ref D]) Q E s := by
  refine join_listC (News.isList N hm) hi hx ?_ h
  have : ∀ l : List Str, (∀ y ∈ l, y.length ≤ 20) → (l.map (·.length)).sum ≤ l.length * 20 := by
    intro l
    induction l with
    | nil => intro _; simp
    | cons a l ih =>
      intro h
      have h1 := h a (.head _)
      have h2 := ih fun y hy => h y (.tail _ hy)
      simp only [List.map_cons, List.sum_cons, List.length_cons]
      omega
  have := this ys hy
  omega
end
theorem strsAre_length {vs : List Value} {ys : List Str} (h : StrsAre vs ys) : vs.length = ys.length := by
  induction h with
  | nil => rfl
  | cons _ _ _ ih => simp [ih]
end
section
open PySem PySem.W PyProof.Rows PySem.Spec PySem.Calls
local macro_rules | `(tactic| walk_at "exec For Name Call cons cons") => `(tactic| (k_here; (with_unfolding_all refine' wpAny_For ?_ ?hs9); (case hs9 => intro _; rfl)))
local macro_rules | `(tactic| walk_at "PostT") => `(tactic| (dsimp only [PostT]))
local macro_rules | `(tactic| k_go) => `(tactic| repeat' (first | (k_unfold; (try dsimp only)) | (with_reducible refine drop_T (by assumption) ?_) | ((with_reducible refine fun (tkG : @LE.le Nat _ _ _) => ?_); (try dsimp only at tkG)) | (k_end; kc_close) | ((with_reducible refine wpAny_keep (by first | assumption | exact Nat.le_add_right_of_le (by first | assumption | exact Nat.le_add_right_of_le (by assumption))) ?_); walk1) | walk1 | (dsimp only; walk1) | (leave1; walk_say "STEP leave1"; (try dsimp only)) | fail "no step"))
local macro_rules | `(tactic| k_gentoks) => `(tactic| ((with_reducible refine gen_T (by first | assumption | exact Nat.le_add_right_of_le (by first | assumption | exact Nat.le_add_right_of_le (by assumption))) ?_); intro tk9 tkG))
local macro_rules | `(tactic| k_enter) => `(tactic| (refine' code_def ?k1 ?k2 ?k3 ?k4 ?k5 ?kA ?kF ?kK ?k6 ?k7 ?k8 ?k9 ?kB ?kb ?c2 ?c3 ?c4 ?c5; (case kA => exact rfl); (case kF => exact rfl); (case kK => exact rfl); (case k1 => k_asm); (case k2 => k_asm); (case k3 => k_asm); (case k4 => k_asm); (case k5 => k_asm); (case k6 => k_is); (case k7 => k_is); (case k8 => ktr_room); (case k9 => exact BindsTo.of_eq rfl); (case c5 => decide); (case kB => exact locs rfl); (case c2 => exact rfl); (case c3 => exact rfl); (case c4 => exact rfl); k_whole; intro g' L' h' FG' F' N' B' X' T'; (try dsimp only); (try k_lift B'); (try k_fold)))
theorem strsP_push {P : Tok → Prop} {its : Array Value} {ys : List Str} {y : Str} {t : Tok} (h : StrsP P its.toList ys) (p : P t) : StrsP P (its.push (.str y t)).toList (ys ++ [y]) := by
  rw [Array.toList_push]; exact h.snoc p
section
variable {prog : Program} {w : World} {A : Around} {E : Value → Shared → Prop} {s : Shared} {h₀ : Heap}
theorem get_wordsT {lo : Nat} {D : List (Int × PyData)} {i : Nat} {t t2 : Tok} {c : Addr} {o : Obj} {es : Array DictEntry} {ep : Nat} (K : KTD.Keyed h₀ c D) (hk : ∀ b o, h₀.get? b = some o → s.heap.get? b = some o) (hi12 : i < 12)
    (hD : ((List.range 12).map fun (i : Nat) => (KTD.datumAt ((1 : Int) * 2 ^ ((i : Int)).toNat) D).getD (PyData.str (baseText "0x" 16 ((1 : Int) * 2 ^ ((i : Int)).toNat)))) = (List.range 12).map fun (i : Nat) => PyData.str (fwords.getD i default))
    (ho : h₀.get? c = some o) (hes : o.data = .dict es ep) (hV : (es.toList.all fun e => match e.val with | .str _ t => decide (0 < t) && decide (t < 655) | _ => true) = true) (h655 : 655 ≤ s.toks) (ht2 : tkP lo s.toks t2) {Q : Value → Shared → Prop}
    (h : ∀ t', tkP lo s.toks t' → Q (.str (fwords.getD i default) t') { s with toks := s.toks + 1 }) :
    wpAny (model prog w) A (call (.builtin "dict.get") [.ref c, .int ((1 : Int) * 2 ^ ((i : Int)).toNat) t, .str (baseText "0x" 16 ((1 : Int) * 2 ^ ((i : Int)).toNat)) t2]) Q E s := by
  have hV' : ∀ e ∈ es.toList, ∀ y t, e.val = .str y t → 0 < t ∧ t < 655 := fun e he y t q => by
    have := List.all_eq_true.mp hV e he
    rw [q] at this
    simpa using this
  refine get_T (V := fun v => ∀ y t, v = .str y t → tkP lo s.toks t) (K.keep hk prog w) (.str _ _) (hk _ _ ho) hes (fun e he y t q => ⟨.inl (hV' e he y t q), Nat.lt_of_lt_of_le (hV' e he y t q).2 h655⟩) (fun y t q => by cases q; exact ht2) fun v hv hVv => ?_
  have e : (KTD.datumAt ((1 : Int) * 2 ^ ((i : Int)).toNat) D).getD (PyData.str (baseText "0x" 16 ((1 : Int) * 2 ^ ((i : Int)).toNat))) = PyData.str (fwords.getD i default) := by
    have := congrArg (fun l => l[i]?) hD
    simp only [List.getElem?_map, List.getElem?_range hi12, Option.map_some] at this
    exact Option.some.inj this
  rw [KTD.lookup_keyed, e] at hv
  obtain ⟨t', rfl⟩ := PyProof.V.Flat.str_inv hv
  exact h t' (hVv _ _ rfl)
end
section
variable {w : World} {mean : ExcName → Option Value} {mg mb : Str → Option Value} {dp un : Nat} {gd : Option (List Code)} {cn : Str} {nms : List (Str × NameKind)} {ig ic : Bool} {mr : List (Str × Const)} {a : Addr} {ccd : Value} {cl : List (Str × Addr)} {outer : List Env} {A₀ : Around} {base h₀ : Heap} {L : Addr} {m : Str → Option Value} {s : Shared} {Q E : Value → Shared → Prop} {news : List (Addr × Obj)}
local macro_rules | `(tactic| walk_at "call builtin:dict.get") => `(tactic| (k_here; (with_reducible show wpAny _ _ (call (Value.builtin "dict.get") _) _ _ _); refine Stop.intro' ?_))
theorem pf_k {x lo : Nat} {tx : Tok} (hx : x < 4096) (hlo : lo ≤ s.toks) (h655 : 655 ≤ lo)
    (B : Below A₀ base outer h₀) (F : Fr h₀ L s.heap m) (X : (hk.heap_1 w.params).In h₀) (N : News h₀ L s.heap news) (T : Top vw61 LL mean mg mb h₀) (hd : dp + 2 < recursionLimit) (hu : un + 20 < cLine)
    (hret : ∀ t h' tk', tkP lo tk' t → Fr h₀ L h' m → News h₀ L h' news → Q (.str (Txt.join (Str.ofString ", ") (mems x)) t) { s with heap := h', toks := tk' }) :
    wpAny (model prog w) (ktrTop dp un gd cn ⟨.function, nms, ig, ic, mr⟩ L a ccd cl outer) (call (.ref 75) [.int (x : Int) tx]) Q E s := by
  w_strict (refine wpAny_call ?_; k_dflt k_enter; k_go)
  rename Fr _ _ _ _ => F9
  rename News _ _ _ _ => N9
  rename IsRange _ _ _ _ _ _ _ _ => R9
  rename ∀ p ∈ news, Prod.fst p < _ => l9
  k_dflt (refine pyIter_rangeT (n := 32) rfl R9 (by decide) F9 N9 (by passes_own) (fun m₀ n₀ i m₁ n₁ tk => lo ≤ tk ∧ ∃ tf its k, (∀ z, z ≠ Str.ofString "i" → z ≠ Str.ofString "flag" → z ≠ Str.ofString "flags" → m₁ z = m₀ z) ∧ m₁ (Str.ofString "flags") = some (.int ((x / 2 ^ i * 2 ^ i : Nat) : Int) tf) ∧
      n₁ = swapHead (listOf its k) n₀ ∧ StrsP (tkP lo tk) its.toList (fnames x i) ∧ its.size ≤ i ∧ (x = 0 ∨ x / 2 ^ i ≠ 0)) ?h0 ?mono ?turn ?done)
  case mono =>
    rintro i m₁ n₁ tk tk' hle ⟨g1, tf, its, k, g3, g4, g5, g6, g7⟩
    exact ⟨Nat.le_trans g1 hle, tf, its, k, g3, g4, g5, g6.mono fun t p => p.mono hle, g7⟩
  case h0 =>
    refine ⟨?lo9, tx, #[], 0, fun _ _ _ _ => rfl, ?_, rfl, .nil, Nat.le_refl _, ?_⟩
    case lo9 => assumption
    · rw [Nat.pow_zero, Nat.div_one, Nat.mul_one]; rfl
    · rw [Nat.pow_zero, Nat.div_one]; omega
  case turn =>
    rintro I hI i hi t' h tk m₁ news₁ ⟨hlk, tf, its, k, hm, hfl, rfl, hits, hsz, hx0⟩ hoff F N
    clear F9 N9
    rw [agree3 hm hfl] at F
    dsimp only [swapHead] at N hoff
    have hkk := Nat.le_refl tk
    w_strict ((try k_unmd); k_fold; k_go)
    · rename Builtin.bitAnd _ _ ≠ 0 => hb
      rw [one_pow, bitAnd_nat, flag_and] at hb
      have hbit : x.testBit i = true := by
        by_cases hq : x.testBit i = true
        · exact hq
        · rw [if_neg hq] at hb; exact absurd rfl hb
      have hi12 : i < 12 := by
        by_cases hq : i < 12
        · exact hq
        · rw [Nat.testBit_lt_two_pow (Nat.lt_of_lt_of_le hx (Nat.pow_le_pow_right (n := 2) (by decide) (Nat.le_of_not_lt hq)))] at hbit
          cases hbit
      have hsl : (baseText "0x" 16 ((1 : Int) * 2 ^ ((i : Int)).toNat)).length ≤ sizeLine := Nat.le_trans (hexlen ⟨i, hi12⟩) (by decide)
      refine P.hex_of_int ?_ hsl
      w_strict ((try k_unmd); (try k_fold); k_go)
      refine ⟨?_⟩
      rename KTD.Keyed _ _ _ => kyX
      rename Fr _ _ _ _ => F9
      rename Frag.In _ _ => X9
      refine' get_wordsT (lo := lo) kyX ?kk hi12 ?hD (X9 68 _ rfl) rfl ?hV ?h6 ?ht2 ?_
      case kk => exact F9.keep
      case hD => kernel_rfl
      case hV => decide
      case h6 => exact Nat.le_trans h655 (Nat.le_trans hlk (Nat.le_add_right_of_le (by assumption)))
      case ht2 => exact ⟨.inr (Nat.le_trans hlk (by assumption)), Nat.lt_succ_self _⟩
      intro t' ht'
      rename tk ≤ _ => htk0
      have hk9 := up_T htk0
      w_strict ((try k_unmd); (try k_fold); k_go)
      rename News _ _ _ _ => N9
      k_dflt (refine append_K F9 N9 (Upd.tail (Ne.symm (hoff _ (.head _))) (Upd.head (fun p hp => Nat.ne_of_lt (l9 p hp)))) ?_ (Nat.le_trans (Nat.le_trans hsz (Nat.le_of_lt hi12)) (by decide)))
      intro h2 F2 N2
      clear F9 N9
      w_strict ((try k_unmd); (try k_fold); k_go)
      · rename Builtin.bitXor _ _ ≠ 0 => hxo
        rw [one_pow, flag_xor hbit] at hxo
        have hx1 : x / 2 ^ (i + 1) ≠ 0 := by
          intro e
          rw [e, Nat.zero_mul] at hxo
          exact hxo rfl
        refine EndT.intro (by k_asm) (by k_asm) ((_, listOf (its.push (.str (fwords.getD i default) t')) (k + 1)) :: news) (fun p hp => hp) ?off ⟨Nat.le_trans hlk (Nat.le_trans htk0 (by assumption)), ?tf, its.push (.str (fwords.getD i default) t'), k + 1, ?hm, ?hf, rfl, ?hs, ?hz, .inr hx1⟩
        case off =>
          intro p hp r hr
          rw [List.mem_singleton.mp hr]
          have h9 := hoff _ (.head _)
          rcases List.mem_cons.mp hp with rfl | hp
          · exact h9
          · exact hoff p (.tail _ hp)
        case hm =>
          intro z h1 h2 h3
          simp only [upd3, if_neg h1, if_neg h2, if_neg h3]
        case hf =>
          rw [← flag_xor hbit, ← one_pow]
          exact rfl
        case hs =>
          rw [fnames_on hbit hi12]
          exact strsP_push (hits.mono fun t p => p.mono (Nat.le_trans htk0 (by assumption))) (ht'.mono (by assumption))
        case hz => rw [Array.size_push]; omega
      · rename Builtin.bitXor _ _ = 0 => hxo
        rw [one_pow, flag_xor hbit] at hxo
        have hx1 : x / 2 ^ (i + 1) = 0 := by
          have h1 : x / 2 ^ (i + 1) * 2 ^ (i + 1) = 0 := by omega
          rcases Nat.mul_eq_zero.mp h1 with h1 | h1
          · exact h1
          · exact absurd h1 (Nat.ne_of_gt (Nat.two_pow_pos _))
        have hxn : x ≠ 0 := by
          intro e
          rw [e] at hbit
          simp at hbit
        have hmem : mems x = fnames x (i + 1) := by
          unfold mems
          rw [if_neg hxn]
          have := fnames_rest hx1 (12 - (i + 1))
          rw [show i + 1 + (12 - (i + 1)) = 12 by omega] at this
          exact this
        rename News _ _ _ _ => N9
        rename @LE.le Nat _ _ _ => hkf
        have hst := strsP_push (y := fwords.getD i default) (t := t') (hits.mono fun t p => p.mono (Nat.le_trans htk0 hkf)) (ht'.mono hkf)
        rw [← fnames_on hbit hi12, ← hmem] at hst
        have hlen : (mems x).length ≤ 100 := by
          rw [← hst.length, Array.length_toList, Array.size_push]; omega
        refine join_T N9 (.tail _ (.head _)) (Nat.le_trans hlk (Nat.le_trans htk0 (by assumption))) hst (by decide) (by rw [hmem]; exact fnames_len) hlen (fun t9 k9 ht9 hk9 => ?_)
        w_strict ((try k_unmd); (try k_fold); k_go)
        rename News h₀ _ _ _ => N8
        exact hret _ _ _ (ht9.mono (by first | assumption | exact Nat.le_refl _)) (by k_asm) (fun p hp => N8 p (.tail _ (.tail _ hp)))
    · rename Builtin.bitAnd _ _ = 0 => hb
      rw [one_pow, bitAnd_nat, flag_and] at hb
      have hbit : x.testBit i = false := by
        by_cases hq : x.testBit i = true
        · rw [if_pos hq] at hb
          exact absurd hb (by have := Nat.two_pow_pos i; omega)
        · simpa using hq
      refine EndT.intro (by k_asm) (by k_asm) ((_, listOf its k) :: news) (fun p hp => hp) ?off ⟨Nat.le_trans hlk (by assumption), tf, its, k, ?hm, ?hf, rfl, ?hs, ?hz, ?hx⟩
      case off =>
        intro p hp r hr
        rw [List.mem_singleton.mp hr]
        have h9 := hoff _ (.head _)
        rcases List.mem_cons.mp hp with rfl | hp
        · exact h9
        · exact hoff p (.tail _ hp)
      case hm =>
        intro z h1 h2 h3
        simp only [upd3, if_neg h1, if_neg h2, if_neg h3]
      case hf =>
        rw [← flag_off hbit]
        exact rfl
      case hs => rw [fnames_off hbit]; exact hits.mono fun t p => p.mono (by assumption)
      case hz => omega
      case hx =>
        rcases hx0 with h0 | h0
        · exact .inl h0
        · right
          intro e
          have h1 := half (x := x) (i := i)
          rw [e, nobit_half hbit] at h1
          exact h0 h1
  case done =>
    rintro m₁ news₁ h tk ⟨hlk, tf, its, k, hm, hfl, rfl, hits, hsz, hx0⟩ F N
    clear F9 N9
    have hx32 : x / 2 ^ 32 = 0 := Nat.div_eq_of_lt (Nat.lt_of_lt_of_le hx (by decide))
    have hx00 : x = 0 := hx0.elim id (fun h => absurd hx32 h)
    subst hx00
    rw [agree3 hm hfl] at F
    dsimp only [swapHead] at N
    have hkk := Nat.le_refl tk
    w_strict ((try k_unmd); (try k_fold); k_go)
    have hits0 : its = #[] := by
      have h1 := hits.length
      have h2 : ∀ k, fnames 0 k = [] := by
        intro k
        induction k with
        | zero => rfl
        | succ k ih => rw [fnames_off (by simp), ih]
      rw [h2] at h1
      exact Array.eq_empty_of_size_eq_zero (by simpa using h1)
    subst hits0
    rename News _ _ _ _ => N9
    refine join_T N9 (.head _) (lo := lo) (ys := mems 0) (Nat.le_trans hlk (by assumption)) (.cons _ _ ?tk .nil) (by decide) (by decide +kernel) (by decide +kernel) (fun t9 k9 ht9 hk9 => ?_)
    case tk => exact ⟨.inr hlk, Nat.lt_succ_of_le (by assumption)⟩
    w_strict ((try k_unmd); (try k_fold); k_go)
    rename News h₀ _ _ _ => N8
    exact hret _ _ _ (ht9.mono (by first | assumption | exact Nat.le_refl _)) (by k_asm) (fun p hp => N8 p (.tail _ hp))
end
end
section
open PySem PySem.W PyProof.Rows PySem.Spec PySem.Calls
local macro_rules | `(tactic| walk_at "call ref") => `(tactic| (k_here; (with_reducible show wpAny _ _ (call (Value.ref 120) _ _) _ _ _); k_dflt (refine' conv_k ?k1 ?k2 ?k3 ?k4 ?k5 ?k6 ?k7 ?k8 ?k9 ?_; (case k1 => assumption); (case k2 => assumption); (case k3 => k_asm); (case k4 => k_asm); (case k5 => k_asm); (case k6 => k_asm); (case k7 => k_asm); (case k8 => ktr_room); (case k9 => ktr_units); k_whole); intro h' tk' F' N'; (try dsimp only); (try k_sweep)))
section
open PySem PySem.W PyProof.Rows PySem.Spec PySem.Calls
theorem ne_led0 {t l : Addr} {o : Obj} {news : List (Addr × Obj)} (h : ∀ p ∈ news, p.1 < t) (hm : (l, o) ∈ news) : t ≠ l := Nat.ne_of_gt (h _ hm)
theorem allLt_mem {t : Addr} : ∀ {news : List (Addr × Obj)}, AllLt t news → ∀ p ∈ news, p.1 < t
  | [], _, _, hp => (nomatch hp)
  | q :: r, h, p, hp => by
    rcases List.mem_cons.mp hp with rfl | hp
    · exact h.1
    · exact allLt_mem h.2 p hp
theorem ne_led {t l : Addr} {o : Obj} {news : List (Addr × Obj)} (h : AllLt t news) (hm : (l, o) ∈ news) : t ≠ l := Nat.ne_of_gt (allLt_mem h _ hm)
theorem updF_mem {d : Addr} {o : Obj} {l : List (Addr × Obj)} {g : Obj → List (Addr × Obj)} (U : UpdF d o l g) : (d, o) ∈ l := by
  obtain ⟨pre, post, rfl, _⟩ := U.split
  exact List.mem_append.mpr (.inr (.head _))
theorem updF_upd {d : Addr} {o : Obj} {l : List (Addr × Obj)} {g : Obj → List (Addr × Obj)} (U : UpdF d o l g) (o' : Obj) : Upd d o o' l (g o') := by
  induction U with
  | head h => exact .head h
  | tail h _ ih => exact .tail h ih
theorem upd_mem {d : Addr} {o o' : Obj} {l l' : List (Addr × Obj)} (U : Upd d o o' l l') : (d, o) ∈ l := by
  obtain ⟨pre, post, rfl, _⟩ := U.split
  exact List.mem_append.mpr (.inr (.head _))
local macro_rules | `(tactic| k_upd) => `(tactic| (rename ∀ y, Upd _ _ _ _ _ => hU9; exact hU9 _))
local macro_rules | `(tactic| k_ne) => `(tactic| (refine neN ?_; (try dsimp only); first | exact ne_led0 (by assumption) (by assumption) | exact ne_led (by assumption) (by assumption) | exact ne_led (And.right (by assumption)) (by assumption) | exact ne_led (And.right (And.right (by assumption))) (by assumption) | exact ne_led (And.right (And.right (And.right (by assumption)))) (by assumption)))
local macro_rules | `(tactic| walk_at "call builtin:str.join") => `(tactic| (k_here; (with_reducible show wpAny _ _ (call (Value.builtin _) [Value.str _ _, Value.ref _]) _ _ _); k_dflt (refine' join_one ?k1 ?k2 ?k3 ?k4 ?k5 ?_; (case k1 => k_asm); (case k2 => k_mem); (case k3 => exact rfl); (case k4 => decide); (case k5 => assumption); k_whole); intro t' k'; (try dsimp only)))
section
variable {w : World} {mean : ExcName → Option Value} {mg mb : Str → Option Value} {dp un : Nat} {gd : Option (List Code)} {cn : Str} {nms : List (Str × NameKind)} {ig ic : Bool} {mr : List (Str × Const)} {a : Addr} {ccd : Value} {cl : List (Str × Addr)} {outer : List Env} {A₀ : Around} {base h₀ : Heap} {L : Addr} {m : Str → Option Value} {s : Shared} {Q E : Value → Shared → Prop} {news : List (Addr × Obj)}
noncomputable abbrev tupObj (a b : Str) (ta tb : Tok) : Obj := { cls := .type "tuple", data := .seq #[.str a ta, .str b tb] }
noncomputable abbrev hdrDict (hsh : Int) (kk : Tok) (l : Addr) : Obj := dictOf [⟨hsh, .str (Str.ofString "_headers") kk, .ref l⟩] 1
theorem add_k {x dx l : Addr} {nm v : Str} {tn tv : Tok} {hsh : Int} {kk : Tok} {its : Array Value} {n : Nat} (hz : its.size ≤ 1000) {nf : Obj → List (Addr × Obj)} (hv : clean v) (hl : v.cps.size < 2 ^ 20) (hv' : clean nm) (hl' : nm.cps.size < 2 ^ 20)
    (hx : (x, instObj 219 dx) ∈ news) (hdx : (dx, hdrDict hsh kk l) ∈ news) (hU : UpdF l (listOf its n) news nf)
    (B : Below A₀ base outer h₀) (F : Fr h₀ L s.heap m) (X : (hk.heap_1 w.params).In h₀) (N : News h₀ L s.heap news) (T : Top vw61 LL mean mg mb h₀) (hd : dp + 2 < recursionLimit) (hu : un + 20 < cLine)
    (hret : ∀ t tk2 h' tk', Fr h₀ L h' m → News h₀ L h' ((t, tupObj nm v tn tk2) :: nf (listOf (its.push (.ref t)) (n + 1))) → AllLt t news → Q .none { s with heap := h', toks := tk' }) :
    wpAny (model prog w) (ktrTop dp un gd cn ⟨.function, nms, ig, ic, mr⟩ L a ccd cl outer) (call (.ref 216) [.ref x, .str nm tn, .str v tv]) Q E s := by
  have hlm := updF_mem hU
  have hl1 : v.cps.size < 2 ^ 62 := Nat.lt_trans hl (by decide)
  have hl2 : nm.cps.size < 2 ^ 62 := Nat.lt_trans hl' (by decide)
  w_strict (refine wpAny_call ?_; k_dflt k_enter; k_steps)
  rename News _ _ _ _ => N9
  rename Fr _ _ _ _ => F9
  rename _ ∧ _ ∧ _ ∧ AllLt _ news => l9
  have N10 := cb_drop (news := (_, _) :: news) N9 (by intro p hp; rcases List.mem_cons.mp hp with rfl | hp; exact .head _; exact .tail _ (.tail _ (.tail _ (.tail _ hp))))
  clear N9
  k_dflt (refine append_K F9 N10 (Upd.tail (ne_led l9.2.2.2 hlm) (updF_upd hU _)) ?_ (Nat.le_trans hz (by decide)))
  intro h' F' N'
  clear F9 N10
  w_strict k_steps
  exact hret _ _ _ _ (by k_asm) (by k_asm) l9.2.2.2
end
end
section
open PySem PySem.W PyProof.Rows PySem.Spec PySem.Calls
/-- the rows of a table of headers; P: what is known of the names' tokens -/
inductive Rows (P : Tok → Prop) (news : List (Addr × Obj)) : List Value → List (Str × Str) → Prop
  | nil : Rows P news [] []
  | cons {t : Addr} {a b : Str} {ta tb : Tok} {its : List Value} {rs : List (Str × Str)} : (t, tupObj a b ta tb) ∈ news → P ta → Rows P news its rs → Rows P news (.ref t :: its) ((a, b) :: rs)
theorem Rows.imp {P P' : Tok → Prop} {news : List (Addr × Obj)} {its : List Value} {rs : List (Str × Str)} (hr : Rows P news its rs) (hp : ∀ t, P t → P' t) : Rows P' news its rs := by
  induction hr with
  | nil => exact .nil
  | cons hm p _ ih => exact .cons hm (hp _ p) ih
theorem Rows.at {P : Tok → Prop} {news : List (Addr × Obj)} {its : List Value} {rs : List (Str × Str)} (hr : Rows P news its rs) : ∀ {i : Nat} {u : Value}, its[i]? = some u → ∃ t a b ta tb, u = .ref t ∧ (t, tupObj a b ta tb) ∈ news ∧ rs[i]? = some (a, b) := by
  induction hr with
  | nil => intro i u h; simp at h
  | cons hm _ _ ih =>
    intro i u h
    cases i with
    | zero => simp at h; subst h; exact ⟨_, _, _, _, _, rfl, hm, rfl⟩
    | succ i => exact ih (by simpa using h)
theorem Rows.length {P : Tok → Prop} {news : List (Addr × Obj)} {its : List Value} {rs : List (Str × Str)} (hr : Rows P news its rs) : its.length = rs.length := by
  induction hr with
  | nil => rfl
  | cons _ _ _ ih => simp [ih]
noncomputable def hfind (rs : List (Str × Str)) (nm : Str) : Option Str := (rs.find? fun r => decide (Txt.lower r.1 = Txt.lower nm)).map (·.2)
theorem hfind_first {rs : List (Str × Str)} {nm ka vb : Str} : ∀ {i : Nat}, rs[i]? = some (ka, vb) → (∀ j < i, ∀ r, rs[j]? = some r → ¬ (Txt.lower r.1 = Txt.lower nm)) → Txt.lower ka = Txt.lower nm → hfind rs nm = some vb := by
  induction rs with
  | nil => intro i h; simp at h
  | cons r rs ih =>
    intro i h hno e
    cases i with
    | zero => simp at h; subst h; simp [hfind, e]
    | succ i =>
      have h0 := hno 0 (Nat.succ_pos _) r rfl
      have := ih (i := i) (by simpa using h) (fun j hj r' hr' => hno (j + 1) (by omega) r' (by simpa using hr')) e
      unfold hfind at this ⊢
      rw [List.find?_cons]
      simp only [h0, decide_false]
      exact this
theorem hfind_none {rs : List (Str × Str)} {nm : Str} (hno : ∀ j < rs.length, ∀ r, rs[j]? = some r → ¬ (Txt.lower r.1 = Txt.lower nm)) : hfind rs nm = none := by
  unfold hfind
  rw [List.find?_eq_none.mpr]
  · rfl
  · intro r hr
    obtain ⟨j, hj, e⟩ := List.getElem_of_mem hr
    have := hno j hj r (by rw [← e]; exact List.getElem?_eq_getElem hj)
    simpa using this
local macro_rules | `(tactic| k_upd) => `(tactic| (rename ∀ y, Upd _ _ _ _ _ => hU9; exact hU9 _))
local macro_rules | `(tactic| k_ne) => `(tactic| (refine neN ?_; (try dsimp only); first | exact ne_led0 (by assumption) (by assumption) | exact ne_led (by assumption) (by assumption) | exact ne_led (And.right (by assumption)) (by assumption) | exact ne_led (And.right (And.right (by assumption))) (by assumption) | exact ne_led (And.right (And.right (And.right (by assumption)))) (by assumption)))
local macro_rules | `(tactic| walk_at "call builtin:str.join") => `(tactic| (k_here; (with_reducible show wpAny _ _ (call (Value.builtin _) [Value.str _ _, Value.ref _]) _ _ _); k_dflt (refine' join_one ?k1 ?k2 ?k3 ?k4 ?k5 ?_; (case k1 => k_asm); (case k2 => k_mem); (case k3 => exact rfl); (case k4 => decide); (case k5 => assumption); k_whole); intro t' k'; (try dsimp only)))
local macro_rules | `(tactic| walk_at "exec For Tuple Attribute cons nil") => `(tactic| (k_here; (rename Fr _ _ _ _ => lF'); (with_unfolding_all refine' For_turns lF' ?_; k_whole)))
section
variable {w : World} {mean : ExcName → Option Value} {mg mb : Str → Option Value} {dp un : Nat} {gd : Option (List Code)} {cn : Str} {nms : List (Str × NameKind)} {ig ic : Bool} {mr : List (Str × Const)} {a : Addr} {ccd : Value} {cl : List (Str × Addr)} {outer : List Env} {A₀ : Around} {base h₀ : Heap} {L : Addr} {m : Str → Option Value} {s : Shared} {Q E : Value → Shared → Prop} {news : List (Addr × Obj)}
theorem get_k {P : Tok → Prop} {x dx l : Addr} {nm v : Str} {tn : Tok} {hsh : Int} {kk : Tok} {its : List Value} {n : Nat} {rs : List (Str × Str)} (hr : Rows P news its rs) (hs : ∀ r ∈ rs, r.1.length ≤ 1000) (hf : hfind rs nm = some v)
    (hc : clean (Txt.lower nm)) (hl : (Txt.lower nm).cps.size < 2 ^ 20) (hnl : nm.length ≤ 1000)
    (hx : (x, instObj 219 dx) ∈ news) (hdx : (dx, hdrDict hsh kk l) ∈ news) (hlm : (l, listOf its.toArray n) ∈ news)
    (B : Below A₀ base outer h₀) (F : Fr h₀ L s.heap m) (X : (hk.heap_1 w.params).In h₀) (N : News h₀ L s.heap news) (T : Top vw61 LL mean mg mb h₀) (hd : dp + 2 < recursionLimit) (hu : un + 20 < cLine)
    (hret : ∀ t h' tk', Fr h₀ L h' m → News h₀ L h' news → Q (.str v t) { s with heap := h', toks := tk' }) :
    wpAny (model prog w) (ktrTop dp un gd cn ⟨.function, nms, ig, ic, mr⟩ L a ccd cl outer) (call (.ref 166) [.ref x, .str nm tn]) Q E s := by
  have hl2 : (Txt.lower nm).cps.size < 2 ^ 62 := Nat.lt_trans hl (by decide)
  w_strict (refine wpAny_call ?_; k_dflt k_enter; k_steps)
  rename Fr _ _ _ _ => F9
  rename News _ _ _ _ => N9
  k_dflt (refine iter_listTurns rfl F9 N9 hlm rfl rfl ?_)
  intro I hI
  refine items_J (fun m₀ n₀ i m₁ n₁ => (∀ z, z ≠ Str.ofString "k" → z ≠ Str.ofString "v" → m₁ z = m₀ z) ∧ n₁ = n₀ ∧ ∀ j < i, ∀ r, rs[j]? = some r → ¬ (Txt.lower r.1 = Txt.lower nm)) ⟨fun _ _ _ => rfl, rfl, fun j hj => absurd hj (Nat.not_lt_zero j)⟩ ?turn ?done
  case turn =>
    rintro i a ha m₁ news₁ ⟨hm, rfl, hno⟩ v' h tk hv F
    have hu : ∃ u, its[i]? = some u ∧ a = .val u := by
      rw [List.getElem?_map] at ha
      obtain ⟨u, h1, h2⟩ := Option.map_eq_some_iff.mp ha
      exact ⟨u, h1, h2.symm⟩
    obtain ⟨u, hu1, rfl⟩ := hu
    obtain ⟨t, ka, vb, ta, tb, rfl, hmem, hrow⟩ := hr.at hu1
    have hv' : v' = .ref t := hv
    subst hv'
    refine AllObj.cons (fun o' hc' => ?_)
    refine AllObj.nil (fun N' => ?_)
    simp only [List.cons_append, List.nil_append] at N'
    rw [agree2 hm] at F
    have hka : ka.length ≤ 1000 := hs _ (List.mem_of_getElem? hrow)
    clear F9 N9
    w_strict ((try k_unmd); k_fold; k_steps)
    · rename (_ == _) = true => he
      have e := hfind_first hrow hno (beq_iff_eq.mp he)
      rw [hf] at e
      obtain rfl := Option.some.inj e
      rename News h₀ _ _ _ => N8
      exact hret _ _ _ (by k_asm) (fun p hp => N8 p (.tail _ hp))
    · rename (_ == _) = false => he
      refine UnrEndW.intro (by k_asm) (by k_asm) news₁ ⟨.head _, trivial⟩ (subL_of fun p hp => .tail _ hp) (offW_of fun p hp => Nat.ne_of_lt (hI p hp)) ⟨⟨hlm, trivial⟩, ?_, rfl, ?_⟩
      · intro z h1 h2
        simp only [upd2, if_neg h1, if_neg h2]
      · intro j hj r hr'
        rcases Nat.lt_succ_iff_lt_or_eq.mp hj with hj | rfl
        · exact hno j hj r hr'
        · rw [hrow] at hr'
          obtain rfl := Option.some.inj hr'
          exact beq_eq_false_iff_ne.mp he
  case done =>
    rintro m₁ news₁ h tk ⟨hm, rfl, hno⟩ F N
    rw [List.length_map, hr.length] at hno
    rw [hfind_none hno] at hf
    cases hf
end
end
end
end
section
open PySem PySem.W PyProof.Rows PySem.Spec PySem.Calls PyProof.Rows.LCg
structure Quad where
  t : Addr
  a : Str
  b : Str
  ta : Tok
  tb : Tok
theorem Rows.quads {P : Tok → Prop} {news : List (Addr × Obj)} {its : List Value} {rs : List (Str × Str)} (h : Rows P news its rs) :
    ∃ qs : List Quad, its = qs.map (fun q => .ref q.t) ∧ rs = qs.map (fun q => (q.a, q.b)) ∧ ∀ q ∈ qs, (q.t, tupObj q.a q.b q.ta q.tb) ∈ news ∧ P q.ta := by
  induction h with
  | nil => exact ⟨[], rfl, rfl, fun _ h => nomatch h⟩
  | @cons t a b ta tb its rs hm hp _ ih =>
    obtain ⟨qs, e1, e2, e3⟩ := ih
    refine ⟨⟨t, a, b, ta, tb⟩ :: qs, by rw [e1]; rfl, by rw [e2]; rfl, fun q hq => ?_⟩
    rcases List.mem_cons.mp hq with rfl | hq
    · exact ⟨hm, hp⟩
    · exact e3 q hq
noncomputable def quadItm (q : Quad) : Itm := .pair (fun _ => .str q.a q.ta) (.str q.b q.tb)
section
variable {prog : Program} {w : World} {A : Around} {E : Value → Shared → Prop} {s : Shared}
variable {h₀ : Heap} {L : Addr} {m : Str → Option Value} {env : Env} {elt : Expr} {ifs : List Expr} {scope : Scope} {cl : List (Str × Addr)} {Fin : Shared → List Value → List (Addr × Obj) → Prop} {news : List (Addr × Obj)}
  {cs : Addr → List (Str × Addr)} {ca : Addr → List Addr} {Inv : Addr → Heap → Prop} {K : Addr → Itm → Value → List (Addr × Obj) → Prop}
theorem at_quads {target : Expr} {ax : Addr} {lo : Obj} {qs : List Quad} {n : Nat} (hh : A.handled = none) (F : Fr h₀ L s.heap m) (N : News h₀ L s.heap news) (hm : (ax, lo) ∈ news) (hc : lo.cls = .type "list") (hd : lo.data = .seq (qs.map fun q => Value.ref q.t).toArray n) (hsz : qs.length ≤ sizeLine)
    (hq : ∀ q ∈ qs, (q.t, tupObj q.a q.b q.ta q.tb) ∈ news)
    (X : FrmK prog w A (qs.map quadItm) target scope cl env cs ca Inv K) (J : Nat → List Value → List (Addr × Obj) → Prop) (h0 : J 0 [] news)
    (turn : ∀ I C D, (∀ p ∈ news, p.1 < I) → TurnJ prog w A h₀ L m elt ifs (compEnvC scope (cs C) C env) s [(I, "list_iterator")] news (qs.map quadItm) (ca C) (K C) J D 0)
    (fin : ∀ ys news', J qs.length ys news' → ys.length ≤ qs.length → Fin s ys news') :
    wpAny (model prog w) A (pyIter (.ref ax)) (fun it s₂ => CompAt prog w A h₀ L m env target elt ifs scope cl Fin it s₂) E s := by
  have hax := N _ hm
  have hl : s.heap.IsList ax (qs.map fun q => Value.ref q.t).toArray := ⟨lo, hax.1, hc, n, hd⟩
  have hlt : ax < s.heap.objs.size := Heap.lt_size hax.1
  have hne : ax ≠ s.heap.objs.size := Nat.ne_of_lt hlt
  have hlen : (qs.map quadItm).length = (qs.map fun q => Value.ref q.t).toArray.size := by simp
  have hqh : ∀ q ∈ qs, q.t ≠ s.heap.objs.size := fun q h => Nat.ne_of_lt (Heap.lt_size (N _ (hq q h)).1)
  have W := Walks.list (prog := prog) (w := w) hh s.heap.objs.size ax hne (qs.map fun q => Value.ref q.t).toArray
  have up : ∀ b o, s.heap.get? b = some o → (s.heap.push { cls := .type "list_iterator", data := .fields #[.ref ax, .int 0 0] }).get? b = some o := fun b o e => Heap.get?_push_of_some _ e
  refine wpAny_pyIter_list hl ?_
  refine ⟨s.heap.objs.size, [(s.heap.objs.size, "list_iterator")], news, qs.map quadItm, [s.heap.objs.size, ax] ++ qs.map (·.t), [s.heap.objs.size],
    (fun i v h => ∃ q, qs[i]? = some q ∧ v = .ref q.t ∧ h.get? q.t = some (tupObj q.a q.b q.ta q.tb)),
    (fun i v h => (∃ q, qs[i]? = some q ∧ v = .ref q.t ∧ h.get? q.t = some (tupObj q.a q.b q.ta q.tb)) ∧ (h.IsListIter s.heap.objs.size ax (i + 1) ∧ h.IsList ax (qs.map fun q => Value.ref q.t).toArray) ∧ ∀ q ∈ qs, h.get? q.t = some (tupObj q.a q.b q.ta q.tb)),
    (fun i h => (h.IsListIter s.heap.objs.size ax i ∧ h.IsList ax (qs.map fun q => Value.ref q.t).toArray) ∧ ∀ q ∈ qs, h.get? q.t = some (tupObj q.a q.b q.ta q.tb)), news, s, J, cs, ca, Inv, K, rfl,
    ⟨⟨fun b hb => by simp at hb; simp [hb], ?fr, ?it, ?go, ?dn⟩, fun s' Q' E' st h => W.self 0 s' Q' E' st.1 h, ?hP, fun i h st => ?_, fun b hb => ?_, fun b hb => by simpa using hb, fun b hb => ?_, ⟨⟨⟨_, Heap.get?_push_size _ rfl, rfl, rfl⟩, hl.at fun o e => up _ _ e⟩, fun q h => up _ _ (N _ (hq q h)).1⟩⟩,
    ⟨_, s.toks, rfl⟩, F.push _, N.grown up, fun p hp hI => ?_, subL_of fun p hp => hp, by rw [List.length_map]; exact hsz, h0, X, fun C D => turn _ C D fun p hp => Heap.lt_size (N p hp).1, fun ys news' hJ hy => fin ys news' (by rw [List.length_map] at hJ; exact hJ) (by rw [List.length_map] at hy; exact hy)⟩
  case fr =>
    intro i h h' st hk
    refine ⟨W.frame i h h' st.1 fun b hb o e => hk b (List.mem_append_left _ hb) o e, fun q h => hk q.t (List.mem_append_right _ (List.mem_map.mpr ⟨q, h, rfl⟩)) _ (st.2 q h)⟩
  case it =>
    intro i s' Q' E' hi st hQ
    rw [hlen] at hi
    refine W.item i s' Q' E' hi st.1 fun v h' tk hP st' hk => hQ v h' tk ⟨?_, st', fun q h => hk _ _ (by simpa using hqh q h) (st.2 q h)⟩ hk
    have hP' : (qs.map fun q => Value.ref q.t).toArray[i]? = some v := hP
    rw [List.getElem?_toArray, List.getElem?_map] at hP'
    obtain ⟨q, g1, g2⟩ := Option.map_eq_some_iff.mp hP'
    exact ⟨q, g1, g2.symm, hk _ _ (by simpa using hqh q (List.mem_of_getElem? g1)) (st.2 q (List.mem_of_getElem? g1))⟩
  case go =>
    intro i v s' Q' E' hm' hQ
    exact letGo_listiter hm'.2.1.1 (hQ s'.heap hm'.1 hm'.2 fun _ _ _ e => e)
  case dn =>
    intro s' Q' E' st hQ
    rw [hlen] at st
    exact W.done s' Q' E' st.1 hQ
  case hP =>
    rintro i v h ⟨q, g1, rfl, g3⟩
    exact ⟨quadItm q, by rw [List.getElem?_map, g1]; rfl, q.t, 0, rfl, _, g3, rfl, _, rfl⟩
  · obtain ⟨it, hit, hic, _⟩ := st.1.1
    exact ⟨[(s.heap.objs.size, it)], ⟨⟨rfl, hic⟩, trivial⟩, fun p hp => by rw [List.mem_singleton.mp hp]; exact hit⟩
  · have hb' : b = s.heap.objs.size := by simpa using hb
    rw [hb']
    refine ⟨fun e => ?_, next_is_new F, ?_⟩
    · exact absurd F.ns.lt (e ▸ Nat.lt_irrefl _)
    · show s.heap.objs.size < (s.heap.push _).objs.size
      rw [Heap.size_push]; exact Nat.lt_succ_self _
  · rcases List.mem_append.mp hb with hb | hb
    · have hb' : b = s.heap.objs.size ∨ b = ax := by simpa using hb
      rcases hb' with e | e
      · exact .inl (by simp [e])
      · exact .inr ⟨lo, by rw [e]; exact hm⟩
    · obtain ⟨q, g1, g2⟩ := List.mem_map.mp hb
      exact .inr ⟨_, by rw [← g2]; exact hq q g1⟩
  · have hI' : p.1 = s.heap.objs.size := by simpa using hI
    exact absurd (Heap.lt_size (N p hp).1) (hI' ▸ Nat.lt_irrefl _)
end
theorem news_cell {h₀ h h' : Heap} {L c : Addr} {o o' : Obj} (pre : List (Addr × Obj)) {post : List (Addr × Obj)} (N : News h₀ L h (pre ++ (c, o) :: post)) (hs : Heap.SameBut c h h') (ho : h'.get? c = some o') (hpre : ∀ p ∈ pre, p.1 ≠ c) (hpost : ∀ p ∈ post, p.1 ≠ c) : News h₀ L h' (pre ++ (c, o') :: post) := fun p hp => by
  rcases List.mem_append.mp hp with hp | hp
  · have := N p (List.mem_append_left _ hp)
    exact ⟨hs.extBut _ _ (hpre p hp) this.1, this.2⟩
  rcases List.mem_cons.mp hp with rfl | hp
  · have := N (c, o) (List.mem_append_right _ (.head _))
    exact ⟨ho, this.2⟩
  · have := N p (List.mem_append_right _ (.tail _ hp))
    exact ⟨hs.extBut _ _ (hpost p hp) this.1, this.2⟩
theorem namedL {h₀ h : Heap} {L : Addr} {l : List (Addr × Obj)} (_ : News h₀ L h l) : ∃ l2, l2 = l := ⟨l, rfl⟩
theorem named {h₀ h : Heap} {L : Addr} {m : Str → Option Value} (_ : Fr h₀ L h m) : ∃ L2, L2 = L := ⟨L, rfl⟩
end
section
open PySem PySem.W PyProof.Rows PySem.Spec PySem.Calls PyProof.Rows.LCg
section
variable {prog : Program} {w : World} {A : Around} {E : Value → Shared → Prop} {s : Shared}
theorem turn_mid {elt target iter target2 iter2 : Expr} {ifs ifs2 : List Expr} {gens : List Comprehension} {d : Nat} {scope : Scope} {pos : Pos} {it acc : Value} {env : Env} (hd : gens[d]? = some ⟨target, iter, ifs, 0⟩) (hn : gens[d + 1]? = some ⟨target2, iter2, ifs2, 0⟩) :
    compTurn (.ListComp elt gens scope pos) d it acc env = (do
      standAt iter.pos
      match ← pyNext it with
      | none => pure (.done .next)
      | some v =>
        letOwnedTupleGo target it v
        assign target env v
        let ok ← forIn ifs true fun c r => if r = true then do let ok ← isTrue c env (eval c env); pure (ForInStep.yield ok) else pure (ForInStep.yield r)
        if ok = true then do
          let x ← eval iter2 env
          standAt iter2.pos
          let x ← foldedSetIterable iter2 env x
          let _ ← runOwn (.compStart (.ListComp elt gens scope pos) (d + 1) (← holding [x] (pyIter x)) acc env) env
          again (.compLoop (.ListComp elt gens scope pos) d it acc env)
        else again (.compLoop (.ListComp elt gens scope pos) d it acc env)) := by
  unfold compTurn
  simp only [hd, hn]
  rfl
/-- one turn of the outer clause -/
theorem loop_mid {elt target iter target2 iter2 : Expr} {ifs ifs2 : List Expr} {gens : List Comprehension} {d : Nat} {scope : Scope} {pos : Pos} {it acc : Value} {env : Env} {R : Result → Shared → Prop} (hd : gens[d]? = some ⟨target, iter, ifs, 0⟩) (hn : gens[d + 1]? = some ⟨target2, iter2, ifs2, 0⟩)
    (hf : ∀ x, foldedSetIterable iter2 env x = pure x) (I : Nat → Shared → Prop)
    (turn : ∀ n s, I n s → wpAny (model prog w) A (pyNext it) (fun r s₁ => match r with
      | none => R (.ok .next) s₁
      | some v => wpAny (model prog w) A (letOwnedTupleGo target it v) (fun _ s₀ => wpAny (model prog w) A (assign target env v) (fun _ s₂ =>
          testsJ prog w A env (fun ok s₃ => if ok = true then wpAny (model prog w) A (eval iter2 env) (fun x s₄ =>
            wpAny (model prog w) A (pyIter x) (fun it2 s₅ => codeAny (model prog w) A (.compStart (.ListComp elt gens scope pos) (d + 1) it2 acc env) (fun res s' => match res with | .ok _ => ∃ m, m < n ∧ I m s' | .error e => cameBackBy (model prog w) A env (notedBy (model prog w) A env fun e s' => R (.error e) s') e s') s₅) (notedBy (model prog w) A env fun e s' => R (.error e) s') s₄) (notedBy (model prog w) A env fun e s' => R (.error e) s') s₃
            else ∃ m, m < n ∧ I m s₃) (notedBy (model prog w) A env fun e s' => R (.error e) s') ifs s₂)
          (notedBy (model prog w) A env fun e s' => R (.error e) s') s₀) (notedBy (model prog w) A env fun e s' => R (.error e) s') s₁) (notedBy (model prog w) A env fun e s' => R (.error e) s') s)
    (n : Nat) (h : I n s) : codeAny (model prog w) A (.compLoop (.ListComp elt gens scope pos) d it acc env) R s := by
  refine codeAny_loop rfl I (fun n s hI => ?_) n h
  show wpAny _ A ((compTurn (.ListComp elt gens scope pos) d it acc env).onRaise (fun x => do noteFrame x env; theTreesLotGoes x)) _ _ s
  refine wpAny_noted ?_
  rw [turn_mid hd hn]
  refine wpAny_bind (wpAny_standAt (wpAny_bind (wpAny_mono (turn n s hI) (fun r s₁ h₁ => ?_) fun _ _ h' => h')))
  cases r with
  | none => exact wpAny_pure h₁
  | some v =>
    refine wpAny_bind (wpAny_mono h₁ (fun _ s₀ h₀' => ?_) fun _ _ h' => h')
    refine wpAny_bind (wpAny_mono h₀' (fun _ s₂ h₂ => ?_) fun _ _ h' => h')
    refine wpAny_bind (wpAny_mono (tests_of h₂) (fun okb s₃ h₃ => ?_) fun _ _ h' => h')
    cases okb with
    | false => exact wpAny_pure ⟨rfl, h₃⟩
    | true =>
      refine wpAny_bind (wpAny_mono h₃ (fun x s₄ h₄ => wpAny_bind (wpAny_standAt (wpAny_bind (wpAny_of_eq (hf x) (wpAny_bind (wpAny_holding (wpAny_mono h₄ (fun it2 s₅ h₅ => wpAny_bind (wpAny_runOwn ?_)) fun _ _ h' => h'))))))) fun _ _ h' => h')
      refine codeAny_mono h₅ fun res s' hr => ?_
      cases res with
      | ok f => exact wpAny_pure ⟨rfl, hr⟩
      | error e => exact hr
/-- the start of a clause of any depth -/
theorem start_any {elt target iter : Expr} {ifs : List Expr} {gens : List Comprehension} {d : Nat} {scope : Scope} {pos : Pos} {it acc : Value} {env : Env} {R : Result → Shared → Prop} (hd : gens[d]? = some ⟨target, iter, ifs, 0⟩)
    (h0 : codeAny (model prog w) A (.compLoop (.ListComp elt gens scope pos) d it acc env) R s)
    (h : wpAny (model prog w) A (pyIter it) (fun it' s' => codeAny (model prog w) A (.compLoop (.ListComp elt gens scope pos) d it' acc env) R s')
      (notedBy (model prog w) A env fun x s' => R (.error x) s') s) :
    codeAny (model prog w) A (.compStart (.ListComp elt gens scope pos) d it acc env) R s := by
  refine codeAny_of_tree ?_
  show wpAny _ _ ((compStart (.ListComp elt gens scope pos) d it acc env).onRaise (fun x => do noteFrame x env; standAt theWindowsPlace)) _ _ s
  refine wpAny_notedAt ?_
  have hc : clausesOf (.ListComp elt gens scope pos) = gens := rfl
  unfold compStart
  rw [hc, hd]
  show wpAny _ _ (ask >>= _) _ _ s
  refine wpAny_bind (wpAny_askSetting (wpAny_ite ?_))
  split
  · first
      | exact wpAny_bind (wpAny_pure (wpAny_pure (And.intro rfl h0)))
      | exact wpAny_pure (And.intro rfl h0)
  · first
      | exact wpAny_bind (wpAny_rule (wpAny_bind (wpAny_standAt (wpAny_bind (wpAny_mono h (fun it' s' h' => wpAny_pure (And.intro rfl h')) fun _ _ x => x)))))
      | (refine wpAny_bind (wpAny_rule ?_); show wpAny _ _ (standAt iter.pos >>= _) _ _ s; exact wpAny_bind (wpAny_standAt (wpAny_bind (wpAny_mono h (fun it' s' h' => wpAny_pure (And.intro rfl h')) fun _ _ x => x))))
end
end
section
open PySem PySem.W PyProof.Rows PySem.Spec PySem.Calls PyProof.Rows.LCg
section
variable {prog : Program} {w : World} {A : Around} {E : Value → Shared → Prop} {s : Shared}
/-- the inner clause stands ready -/
noncomputable def InAt (prog : Program) (w : World) (A : Around) (h₀ : Heap) (L : Addr) (m : Str → Option Value) (elt target2 : Expr) (ifs2 : List Expr) (cenv : Env) (s : Shared) (ca : List Addr) (Inv : Heap → Prop) (news its l : List (Addr × Obj)) (D : Addr) (ys : List Value)
    (J : Nat → List Value → Prop) (i : Nat) (it2 : Value) (s₅ : Shared) : Prop :=
  ∃ (I2 : Addr) (ws2 : List (Addr × String)) (keep2 : List (Addr × Obj)) (xs2 : List Itm) (fp2 wr2 : List Addr) (P2 Md2 : Nat → Value → Heap → Prop) (St2 : Nat → Heap → Prop) (Inv2 : Heap → Prop) (K2 : Itm → Value → List (Addr × Obj) → Prop) (J2 : Nat → List Value → Prop),
    it2 = .ref I2 ∧ SrcJ prog w A h₀ L target2 I2 ws2 keep2 xs2 s₅.heap fp2 wr2 P2 Md2 St2 ∧ (∃ hp tk, s₅ = { s with heap := hp, toks := tk }) ∧ Fr h₀ L s₅.heap m ∧ News h₀ L s₅.heap (its ++ (l ++ (D, lst ys) :: news)) ∧
    (∀ p ∈ its ++ (l ++ (D, lst ys) :: news), p.1 ∉ ws2.map (·.1)) ∧ SubL keep2 news ∧ xs2.length ≤ 1000 ∧ FrmJ prog w A xs2 target2 cenv ca Inv2 K2 ∧ Inv2 s₅.heap ∧ (∀ h, Inv2 h → Inv h) ∧ J2 0 ys ∧ (∀ ys', J2 xs2.length ys' → J (i + 1) ys') ∧
    TurnJ prog w A h₀ L m elt ifs2 cenv s ws2 keep2 xs2 ca K2 (fun j ys' n => n = its ++ news ∧ J2 j ys') D ys.length
noncomputable def TurnO (prog : Program) (w : World) (A : Around) (h₀ : Heap) (L : Addr) (m : Str → Option Value) (elt target2 iter2 : Expr) (ifs ifs2 : List Expr) (cenv : Env) (s : Shared) (ws : List (Addr × String)) (xs : List Itm) (ca : List Addr) (Inv : Heap → Prop)
    (K : Itm → Value → List (Addr × Obj) → Prop) (J : Nat → List Value → Prop) (D : Addr) (news : List (Addr × Obj)) : Prop :=
  ∀ i a, xs[i]? = some a → ∀ ys, J i ys → ∀ v l h tk (E' : Value → Shared → Prop), K a v l → l.map (·.1) = ca → Fr h₀ L h m →
    AllObj ws (fun its => News h₀ L h (its ++ (l ++ (D, lst ys) :: news)) →
      testsJ prog w A cenv (fun ok s' => if ok = true then
        wpAny (model prog w) A (eval iter2 cenv) (fun x s₄ => wpAny (model prog w) A (pyIter x) (fun it2 s₅ => InAt prog w A h₀ L m elt target2 ifs2 cenv { s with heap := h, toks := tk } ca Inv news its l D ys J i it2 s₅) E' s₄) E' s'
        else CEndJ h₀ L m { s with heap := h, toks := tk } (its ++ (l ++ [(D, lst ys)])) (fun _ => True) (fun news' => news' = news ∧ J (i + 1) ys) s') E' ifs { s with heap := h, toks := tk })
noncomputable def Out2 (s : Shared) (h₀ : Heap) (L : Addr) (m : Str → Option Value) (St : Nat → Heap → Prop) (Inv : Heap → Prop) (D : Addr) (news : List (Addr × Obj)) (J : Nat → List Value → Prop) (n k : Nat) (s' : Shared) : Prop :=
  ∃ h' tk i ys, s' = { s with heap := h', toks := tk } ∧ i ≤ n ∧ k = n + 1 - i ∧ St i h' ∧ Fr h₀ L h' m ∧ Inv h' ∧ News h₀ L h' ((D, lst ys) :: news) ∧ J i ys
theorem loop2J {h₀ : Heap} {L : Addr} {m : Str → Option Value} {elt target iter target2 iter2 : Expr} {ifs ifs2 : List Expr} {scope : Scope} {pos : Pos} {cenv : Env} {R : Result → Shared → Prop}
    {I : Addr} {ws : List (Addr × String)} {keep : List (Addr × Obj)} {xs : List Itm} {fp wr : List Addr} {P Md : Nat → Value → Heap → Prop} {St : Nat → Heap → Prop} {ca : List Addr} {Inv : Heap → Prop} {K : Itm → Value → List (Addr × Obj) → Prop}
    {D : Addr} {news : List (Addr × Obj)} {hs0 : Heap} (hf : ∀ x, foldedSetIterable iter2 cenv x = pure x)
    (S : SrcJ prog w A h₀ L target I ws keep xs hs0 fp wr P Md St) (X : FrmJ prog w A xs target cenv ca Inv K) (hst : St 0 s.heap) (hinv : Inv s.heap)
    (hca : ∀ b ∈ ca, b ≠ L ∧ h₀.get? b = none ∧ b ∉ ws.map (·.1) ∧ b ≠ D) (hDw : D ∉ ws.map (·.1))
    (F : Fr h₀ L s.heap m) (N : News h₀ L s.heap ((D, lst []) :: news)) (hoff : ∀ p ∈ news, p.1 ∉ ws.map (·.1) ∧ p.1 ∉ ca ∧ p.1 ≠ D) (hk : SubL keep news)
    (J : Nat → List Value → Prop) (h0 : J 0 []) (hJl : ∀ i ys, J i ys → ys.length ≤ 1000) (turn : TurnO prog w A h₀ L m elt target2 iter2 ifs ifs2 cenv s ws xs ca Inv K J D news)
    (done : ∀ h tk ys, J xs.length ys → Fr h₀ L h m → News h₀ L h ((D, lst ys) :: news) → Inv h → R (.ok .next) { s with heap := h, toks := tk }) :
    codeAny (model prog w) A (.compLoop (.ListComp elt [⟨target, iter, ifs, 0⟩, ⟨target2, iter2, ifs2, 0⟩] scope pos) 0 (.ref I) (.ref D) cenv) R s := by
  have hDca : D ∉ ca := fun h => (hca D h).2.2.2 rfl
  have hwrw : ∀ b, b ∉ ws.map (·.1) → b ∉ wr := fun b h h' => h (S.hwr b h')
  refine loop_mid rfl rfl hf
    (Out2 s h₀ L m St Inv D news J xs.length) ?_ (xs.length + 1)
    ⟨s.heap, s.toks, 0, [], rfl, Nat.zero_le _, rfl, hst, F, hinv, N, h0⟩
  rintro k s' ⟨h', tk, i, ys, rfl, hi, rfl, hst', F', hinv', N', hJ⟩
  have hX1 : ∀ p ∈ (D, lst ys) :: news, p.1 ∉ wr := fun p hp => by
    rcases List.mem_cons.mp hp with rfl | hp
    · exact hwrw _ hDw
    · exact hwrw _ (hoff p hp).1
  have hLwr : L ∉ wr := fun h => (S.hws _ (S.hwr _ h)).1 rfl
  have hwr0 : ∀ b, b ∈ wr → h₀.get? b = none := fun b h => (S.hws _ (S.hwr _ h)).2.1
  by_cases hlt : i < xs.length
  · refine S.W.item i _ _ _ hlt hst' fun v h₁ tk₁ hMd hk₁ => ?_
    refine S.W.go i v _ _ _ hMd fun h₂ hP hst₂ hk₂ => ?_
    obtain ⟨a, ha, hav⟩ := S.hP i v h₂ hP
    have k12 : ∀ b o, b ∉ wr → h'.get? b = some o → h₂.get? b = some o := fun b o hb e => hk₂ b o hb (hk₁ b o hb e)
    have hinv₂ : Inv h₂ := X.keep _ _ hinv' fun b hb o e => k12 b o (hwrw _ (hca b hb).2.2.1) e
    have F₂ : Fr h₀ L h₂ m := fr_move (X := fun b => b ∈ wr) F' k12 hLwr hwr0
    have N₂ : News h₀ L h₂ ((D, lst ys) :: news) := news_move (X := fun b => b ∈ wr) N' k12 hX1
    refine X.asg a (List.mem_of_getElem? ha) v _ _ _ hav hinv₂ fun h₃ tk₃ l hl hlv hK hinv₃ hk₃ => ?_
    have F₃ : Fr h₀ L h₃ m := fr_move (X := fun b => b ∈ ca) F₂ hk₃ (fun h => (hca _ h).1 rfl) fun b h => (hca b h).2.1
    have N₃ : News h₀ L h₃ ((D, lst ys) :: news) := news_move (X := fun b => b ∈ ca) N₂ hk₃ fun p hp => by
      rcases List.mem_cons.mp hp with rfl | hp
      · exact hDca
      · exact (hoff p hp).2.1
    have hst₃ : St (i + 1) h₃ := S.W.frame _ _ _ hst₂ fun b hb o e => hk₃ b o (fun hc => by
      rcases S.hfp b hb with h1 | ⟨o', h1⟩
      · exact (hca b hc).2.2.1 h1
      · exact (hoff _ (hk.mem _ h1)).2.1 hc) e
    obtain ⟨its, hits, hval⟩ := S.hobj _ _ hst₃
    have hmap := hits.map
    have Nf : ∀ p ∈ its ++ l, h₃.get? p.1 = some p.2 ∧ p.1 ≠ L ∧ h₀.get? p.1 = none := fun p hp => by
      rcases List.mem_append.mp hp with hp | hp
      · have h1 : p.1 ∈ ws.map (·.1) := by rw [← hmap]; exact List.mem_map.mpr ⟨p, hp, rfl⟩
        exact ⟨hval p hp, (S.hws _ h1).1, (S.hws _ h1).2.1⟩
      · have h1 : p.1 ∈ ca := by rw [← hl]; exact List.mem_map.mpr ⟨p, hp, rfl⟩
        exact ⟨hlv p hp, (hca _ h1).1, (hca _ h1).2.1⟩
    have N₄ : News h₀ L h₃ (its ++ (l ++ (D, lst ys) :: news)) := fun p hp => by
      rw [← List.append_assoc] at hp
      rcases List.mem_append.mp hp with hp | hp
      · exact Nf p hp
      · exact N₃ p hp
    have offits : ∀ p ∈ its, p.1 ∉ ca ∧ p.1 ≠ D := fun p hp => by
      have h1 : p.1 ∈ ws.map (·.1) := by rw [← hmap]; exact List.mem_map.mpr ⟨p, hp, rfl⟩
      exact ⟨fun h => (hca _ h).2.2.1 h1, fun e => hDw (e ▸ h1)⟩
    have T := (turn i a ha ys hJ v l h₃ tk₃ (notedBy (model prog w) A cenv fun e s' => R (.error e) s') hK hl F₃).at hits N₄
    have fin : ∀ (h₅ : Heap) (tk₅ : Nat) (ys' : List Value), (∀ p ∈ its, h₅.get? p.1 = some p.2) → Fr h₀ L h₅ m → News h₀ L h₅ ((D, lst ys') :: news) → Inv h₅ → J (i + 1) ys' →
        ∃ k', k' < xs.length + 1 - i ∧ Out2 s h₀ L m St Inv D news J xs.length k' { s with heap := h₅, toks := tk₅ } := by
      intro h₅ tk₅ ys' hfix F₅ N₅ hinv₅ hJ₅
      refine ⟨xs.length + 1 - (i + 1), by omega, h₅, tk₅, i + 1, ys', rfl, hlt, rfl, ?_, F₅, hinv₅, N₅, hJ₅⟩
      refine S.W.frame _ _ _ hst₃ fun b hb o e => ?_
      rcases S.hfp b hb with h1 | ⟨o', h1⟩
      · rw [← hmap] at h1
        obtain ⟨q, hq, hqe⟩ := List.mem_map.mp h1
        have h2' : h₃.get? b = some q.2 := by rw [← hqe]; exact hval q hq
        rw [h2'] at e
        have e' : q.2 = o := Option.some.inj e
        rw [← hqe, ← e']
        exact hfix q hq
      · have h2 : h₃.get? b = some o' := (N₃ _ (List.mem_cons_of_mem _ (hk.mem _ h1))).1
        rw [h2] at e
        rw [← Option.some.inj e]
        exact (N₅ _ (List.mem_cons_of_mem _ (hk.mem _ h1))).1
    have conv : ∀ (ok : Bool) (s₃ : Shared), (if ok = true then
        wpAny (model prog w) A (eval iter2 cenv) (fun x s₄ => wpAny (model prog w) A (pyIter x) (fun it2 s₅ => InAt prog w A h₀ L m elt target2 ifs2 cenv { s with heap := h₃, toks := tk₃ } ca Inv news its l D ys J i it2 s₅) (notedBy (model prog w) A cenv fun e s' => R (.error e) s') s₄) (notedBy (model prog w) A cenv fun e s' => R (.error e) s') s₃
        else CEndJ h₀ L m { s with heap := h₃, toks := tk₃ } (its ++ (l ++ [(D, lst ys)])) (fun _ => True) (fun news' => news' = news ∧ J (i + 1) ys) s₃) →
        (if ok = true then wpAny (model prog w) A (eval iter2 cenv) (fun x s₄ =>
            wpAny (model prog w) A (pyIter x) (fun it2 s₅ => codeAny (model prog w) A (.compStart (.ListComp elt [⟨target, iter, ifs, 0⟩, ⟨target2, iter2, ifs2, 0⟩] scope pos) (0 + 1) it2 (.ref D) cenv) (fun res s' => match res with | .ok _ => ∃ k', k' < xs.length + 1 - i ∧ Out2 s h₀ L m St Inv D news J xs.length k' s' | .error e => cameBackBy (model prog w) A cenv (notedBy (model prog w) A cenv fun e s' => R (.error e) s') e s') s₅) (notedBy (model prog w) A cenv fun e s' => R (.error e) s') s₄) (notedBy (model prog w) A cenv fun e s' => R (.error e) s') s₃
          else ∃ k', k' < xs.length + 1 - i ∧ Out2 s h₀ L m St Inv D news J xs.length k' s₃) := by
      intro ok s₃ h
      cases ok with
      | true =>
        simp only [if_true] at h ⊢
        refine wpAny_mono h (fun x s₄ h₄ => wpAny_mono h₄ (fun it2 s₅ h₅ => ?_) fun _ _ e => e) fun _ _ e => e
        obtain ⟨I2, ws2, keep2, xs2, fp2, wr2, P2, Md2, St2, Inv2, K2, J2, rfl, S2, ⟨hp5, tk5, rfl⟩, F5, N5, off5, sk2, hx2, X2, hi2, hii, hJ0, hJf, T2⟩ := h₅
        have N6 : News h₀ L hp5 ((D, lst ys) :: (its ++ news)) := fun p hp => by
          rcases List.mem_cons.mp hp with rfl | hp
          · exact N5 _ (List.mem_append_right _ (List.mem_append_right _ (.head _)))
          rcases List.mem_append.mp hp with hp | hp
          · exact N5 _ (List.mem_append_left _ hp)
          · exact N5 _ (List.mem_append_right _ (List.mem_append_right _ (.tail _ hp)))
        have offD : D ∉ ws2.map (·.1) := off5 (D, lst ys) (List.mem_append_right _ (List.mem_append_right _ (.head _)))
        have offca : ∀ b ∈ ca, b ∉ ws2.map (·.1) := fun b hb => by
          rw [← hl] at hb
          obtain ⟨q, hq, rfl⟩ := List.mem_map.mp hb
          exact off5 q (List.mem_append_right _ (List.mem_append_left _ hq))
        have offn : ∀ p ∈ its ++ news, p.1 ∉ ws2.map (·.1) ∧ p.1 ∉ ca ∧ p.1 ≠ D := fun p hp => by
          rcases List.mem_append.mp hp with hp | hp
          · exact ⟨off5 p (List.mem_append_left _ hp), offits p hp⟩
          · exact ⟨off5 p (List.mem_append_right _ (List.mem_append_right _ (.tail _ hp))), (hoff p hp).2⟩
        have hyl := hJl i ys hJ
        have inner : codeAny (model prog w) A (.compLoop (.ListComp elt [⟨target, iter, ifs, 0⟩, ⟨target2, iter2, ifs2, 0⟩] scope pos) (0 + 1) (.ref I2) (.ref D) cenv) (fun res s' => match res with | .ok _ => ∃ k', k' < xs.length + 1 - i ∧ Out2 s h₀ L m St Inv D news J xs.length k' s' | .error e => cameBackBy (model prog w) A cenv (notedBy (model prog w) A cenv fun e s' => R (.error e) s') e s') { s with heap := hp5, toks := tk5 } := by
          refine loopJ (s := { s with heap := hp5, toks := tk5 }) (ys0 := ys) (l0 := ys.length) (news := its ++ news) rfl rfl S2 X2 S2.st hi2 (Nat.le_refl _) (Nat.le_trans (Nat.add_le_add hyl hx2) (by decide)) (fun b hb => ⟨(hca b hb).1, (hca b hb).2.1, offca b hb, (hca b hb).2.2.2⟩) offD F5 N6 offn (subL_of fun p hp => List.mem_append_right _ (sk2.mem p hp)) (fun j ys' n => n = its ++ news ∧ J2 j ys') ⟨rfl, hJ0⟩ T2 ?_
          rintro h tk ys' n' ⟨rfl, hJe⟩ _ Fe Ne _ _ hie
          refine fin h tk ys' (fun p hp => (Ne p (.tail _ (List.mem_append_left _ hp))).1) Fe (fun p hp => ?_) (hii h hie) (hJf ys' hJe)
          rcases List.mem_cons.mp hp with rfl | hp
          · exact Ne _ (.head _)
          · exact Ne p (.tail _ (List.mem_append_right _ hp))
        exact start_any rfl inner (S2.self _ _ _ S2.st inner)
      | false =>
        simp only [Bool.false_eq_true, if_false] at h ⊢
        obtain ⟨h₄, tk₄, news₄, rfl, F₄, N₄', _, rfl, hJ₄⟩ := h
        have zf : ∀ p ∈ its ++ l, h₄.get? p.1 = some p.2 := fun p hp => (N₄' p (by
          rcases List.mem_append.mp hp with hp | hp
          · exact List.mem_append_left _ (List.mem_append_left _ hp)
          · exact List.mem_append_left _ (List.mem_append_right _ (List.mem_append_left _ hp)))).1
        refine fin h₄ _ ys (fun p hp => zf p (List.mem_append_left _ hp)) F₄ (fun p hp => ?_) ?_ hJ₄
        · rcases List.mem_cons.mp hp with rfl | hp
          · exact N₄' (D, lst ys) (by simp)
          · exact N₄' p (List.mem_append_right _ hp)
        · refine X.keep _ _ hinv₃ fun b hb o e => ?_
          rw [← hl] at hb
          obtain ⟨q, hq, hqe⟩ := List.mem_map.mp hb
          have h2' : h₃.get? b = some q.2 := by rw [← hqe]; exact hlv q hq
          rw [h2'] at e
          rw [← hqe, ← Option.some.inj e]
          exact zf q (List.mem_append_right _ hq)
    revert T
    cases ifs with
    | nil => exact fun T => conv true _ T
    | cons c r =>
      cases r with
      | nil => exact fun T => wpAny_mono T (fun ok s₃ h => conv ok s₃ h) fun _ _ e => e
      | cons c' r' => exact fun T => T
  · have hin : i = xs.length := by omega
    subst hin
    refine S.W.done _ _ _ hst' fun h₁ tk₁ hk₁ => ?_
    exact done h₁ tk₁ ys hJ (fr_move (X := fun b => b ∈ wr) F' hk₁ hLwr hwr0) (news_move (X := fun b => b ∈ wr) N' hk₁ hX1) (X.keep _ _ hinv' fun b hb o e => hk₁ b o (hwrw _ (hca b hb).2.2.1) e)
end
end
section
open PySem PySem.W PyProof.Rows PySem.Spec PySem.Calls PyProof.Rows.LCg
section
variable {prog : Program} {w : World} {A : Around} {E : Value → Shared → Prop} {s : Shared}
variable {h₀ : Heap} {L : Addr} {m : Str → Option Value} {news : List (Addr × Obj)}
theorem src_enum {l : Addr} {lo : Obj} {vs : List Value} {n : Nat} {Q : Value → Shared → Prop} (hh : A.handled = none) (F : Fr h₀ L s.heap m) (N : News h₀ L s.heap news) (hm : (l, lo) ∈ news) (hc : lo.cls = .type "list") (hd : lo.data = .seq vs.toArray n)
    (hQ : ∀ I0 fp wr P Md St h', (∀ (elts : List Expr) (k : Nat) (pos : Pos), SrcJ prog w A h₀ L (.Tuple elts k pos) (I0 + 1) [(I0 + 1, "enumerate"), (I0, "list_iterator")] [(l, lo)] (enumItems 0 vs) h' fp wr P Md St) → Fr h₀ L h' m → News h₀ L h' news → (∀ p ∈ news, @LT.lt Nat _ p.1 I0) → (∀ b o, s.heap.get? b = some o → h'.get? b = some o) → Q (.ref (I0 + 1)) { s with heap := h' }) :
    wpAny (model prog w) A (call (.type "enumerate") [.ref l]) (fun xv s₁ => wpAny (model prog w) A (pyIter xv) Q E s₁) E s := by
  have hax := N _ hm
  have hl : s.heap.IsList l vs.toArray := ⟨lo, hax.1, hc, n, hd⟩
  have hlt : l < s.heap.objs.size := Heap.lt_size hax.1
  have hLs : L < s.heap.objs.size := F.ns.lt
  have hlen : (enumItems 0 vs).length = vs.toArray.size := by simp [enumItems_length]
  refine call_enumerate_list hl fun h' hE hI hsz' hk => ?_
  refine wpAny_pyIter_enum hE ?_
  have WT := (WalksT.enumerate (prog := prog) (w := w) hh (s.heap.objs.size + 1) s.heap.objs.size l (Nat.succ_ne_self _) (ktu_ne 1 hlt) (Nat.ne_of_lt hlt) vs.toArray)
  refine hQ s.heap.objs.size _ _ _ _ _ h' (fun elts k pos => ⟨hlen ▸ KTurns.ofWalksU WT.toU, WT.self 0, ?_, ?_, ?_, ?_, ?_, ?_⟩) (F.keeps hk) (N.grown hk) (fun p hp => Heap.lt_size (N p hp).1) hk
  · rintro i v h ⟨T, vals, rfl, ⟨t, x, hx, rfl⟩, hT⟩
    refine ⟨_, enumItems_get vs 0 i (v := x) (by simpa using hx), T, t, rfl, ?_⟩
    show IsTup h T #[.int ((0 + i : Nat) : Int) t, x]
    rw [Nat.zero_add]
    exact hT
  · rintro i h ⟨⟨old, he⟩, ⟨oi, hoi, hic, _⟩, _⟩
    have he' : ∃ oe : Obj, h.get? (s.heap.objs.size + 1) = some oe ∧ oe.cls = .type "enumerate" := ⟨_, he, rfl⟩
    obtain ⟨oe, h1, h2⟩ := he'
    refine ⟨[(s.heap.objs.size + 1, oe), (s.heap.objs.size, oi)], ⟨⟨rfl, h2⟩, ⟨rfl, hic⟩, trivial⟩, fun p hp => ?_⟩
    rcases List.mem_cons.mp hp with rfl | hp
    · exact h1
    · rw [List.mem_singleton.mp hp]; exact hoi
  · intro b hb
    have hb' : b = s.heap.objs.size + 1 ∨ b = s.heap.objs.size := by simpa using hb
    have h1 := Heap.lt_size hE
    rcases hb' with rfl | rfl
    · exact ⟨fun e => ktu_ne 1 hLs e.symm, ktu_new F (Nat.le_add_right _ _), h1⟩
    · exact ⟨fun e => Nat.ne_of_lt hLs e.symm, ktu_new F (Nat.le_refl _), Nat.lt_trans (Nat.lt_succ_self _) h1⟩
  · intro b hb
    simpa using hb
  · intro b hb
    have hb' : b = s.heap.objs.size + 1 ∨ b = s.heap.objs.size ∨ b = l := by simpa using hb
    rcases hb' with rfl | rfl | rfl
    · exact .inl (by simp)
    · exact .inl (by simp)
    · exact .inr ⟨lo, by simp⟩
  · exact ⟨⟨.none, hE⟩, hI, hl.at fun o e => hk l o e⟩
noncomputable def Comp2At (prog : Program) (w : World) (A : Around) (h₀ : Heap) (L : Addr) (m : Str → Option Value) (env : Env) (target elt target2 iter2 : Expr) (ifs ifs2 : List Expr) (scope : Scope) (cl : List (Str × Addr)) (Fin : Shared → List Value → List (Addr × Obj) → Prop) (it : Value) (s₂ : Shared) : Prop :=
  ∃ (I : Addr) (ws : List (Addr × String)) (keep : List (Addr × Obj)) (xs : List Itm) (fp wr : List Addr) (P Md : Nat → Value → Heap → Prop) (St : Nat → Heap → Prop) (news : List (Addr × Obj)) (s : Shared) (J : Nat → List Value → Prop)
    (cs : Addr → List (Str × Addr)) (ca : Addr → List Addr) (Inv : Addr → Heap → Prop) (K : Addr → Itm → Value → List (Addr × Obj) → Prop),
    it = .ref I ∧ SrcJ prog w A h₀ L target I ws keep xs s₂.heap fp wr P Md St ∧ (∃ hp tk, s₂ = { s with heap := hp, toks := tk }) ∧ Fr h₀ L s₂.heap m ∧ News h₀ L s₂.heap news ∧ (∀ p ∈ news, p.1 ∉ ws.map (·.1)) ∧ SubL keep news ∧
    J 0 [] ∧ (∀ i ys, J i ys → ys.length ≤ 1000) ∧ FrmK prog w A xs target scope cl env cs ca Inv K ∧ (∀ C D, TurnO prog w A h₀ L m elt target2 iter2 ifs ifs2 (compEnvC scope (cs C) C env) s ws xs (ca C) (Inv C) (K C) J D news) ∧ (∀ C x, foldedSetIterable iter2 (compEnvC scope (cs C) C env) x = pure x) ∧
    ∀ ys, J xs.length ys → Fin s ys news
theorem block2J {env : Env} {target elt iter target2 iter2 : Expr} {ifs ifs2 : List Expr} {scope : Scope} {cl : List (Str × Addr)} {pos : Pos} {Fin : Shared → List Value → List (Addr × Obj) → Prop} {it : Value} {s₂ : Shared} {RR : Value → Addr → Result → Shared → Prop}
    (h : Comp2At prog w A h₀ L m env target elt target2 iter2 ifs ifs2 scope cl Fin it s₂)
    (hRR : ∀ (s : Shared), (∃ hp tk, s₂ = { s with heap := hp, toks := tk }) → ∀ D C h tk m' ys news', Fr h₀ L h m → News h₀ L h ((D, lst ys) :: news') → (∀ p ∈ news', p.1 ≠ D) → h.Ns C m' → h₀.get? C = none → h₀.get? D = none → C ≠ L → D ≠ L → C ≠ D → (∀ p ∈ news', p.1 ≠ C) → Fin s ys news' →
      RR (.ref D) C (.ok .next) { s with heap := h, toks := tk }) :
    wpAny (model prog w) A (newList []) (fun acc s₃ => wpAny (model prog w) A (newFunctionEnv scope env.globals cl [] env.qual none .none (some env)) (fun cenv s₄ =>
      codeAny (model prog w) A (.compStart (.ListComp elt [⟨target, iter, ifs, 0⟩, ⟨target2, iter2, ifs2, 0⟩] scope pos) 0 it acc { cenv with scope := relabel scope env }) (RR acc cenv.locals) s₄) E s₃) E s₂ := by
  obtain ⟨I, ws, keep, xs, fp, wr, P, Md, St, news, s, J, cs, ca, Inv, K, rfl, S, ⟨hp, tk, rfl⟩, F, N, hnw, hkp, h0, hJl, X, turn, hf, fin⟩ := h
  refine wpAny_newObj_type (newEnvK ?_)
  have hinit := X.init (Heap.push hp { cls := .type "list", dict := none, data := .seq ([] : List Value).toArray })
  dsimp only at S F N hinit ⊢
  rw [X.cells]
  have hold : ∀ b o, hp.get? b = some o → (pushCells ((Heap.push hp { cls := .type "list", dict := none, data := .seq ([] : List Value).toArray }).push { cls := .type "dict", data := .dict #[] }) scope.names).get? b = some o :=
    fun b o e => pushCells_keeps _ _ b o (Heap.get?_push_of_some _ (Heap.get?_push_of_some _ e))
  have hDs : (pushCells ((Heap.push hp { cls := .type "list", dict := none, data := .seq ([] : List Value).toArray }).push { cls := .type "dict", data := .dict #[] }) scope.names).get? hp.objs.size = some (lst []) :=
    pushCells_keeps _ _ _ _ (Heap.get?_push_of_some _ (Heap.get?_push_size _ rfl))
  generalize hH : pushCells ((Heap.push hp { cls := .type "list", dict := none, data := .seq ([] : List Value).toArray }).push { cls := .type "dict", data := .dict #[] }) scope.names = h₁ at hinit hold hDs ⊢
  have hC : (Heap.push hp { cls := .type "list", dict := none, data := .seq ([] : List Value).toArray }).objs.size = hp.objs.size + 1 := Heap.size_push ..
  rw [hC] at hinit ⊢
  generalize hD : hp.objs.size = D at hinit hDs ⊢
  have hDL : D ≠ L := by rw [← hD]; exact Ne.symm (Nat.ne_of_lt F.ns.lt)
  have hD0 : h₀.get? D = none := ktu_new F (Nat.le_of_eq hD)
  have hDw : D ∉ ws.map (·.1) := fun h => by have := (S.hws _ h).2.2; rw [hD] at this; exact Nat.lt_irrefl _ this
  have hlt : ∀ p ∈ news, p.1 < D := fun p hp => by rw [← hD]; exact Heap.lt_size (N p hp).1
  have hge : ∀ b ∈ ca (D + 1), D < b := fun b hb => Nat.lt_of_lt_of_le (Nat.lt_succ_self D) (X.new _ b hb)
  have hca : ∀ b ∈ ca (D + 1), b ≠ L ∧ h₀.get? b = none ∧ b ∉ ws.map (·.1) ∧ b ≠ D := fun b hb => by
    have hb' := hge b hb
    refine ⟨fun e => ?_, ktu_new F (by rw [hD]; exact Nat.le_of_lt hb'), fun h => ?_, Nat.ne_of_gt hb'⟩
    · have := F.ns.lt
      rw [hD, ← e] at this
      exact Nat.lt_irrefl _ (Nat.lt_trans hb' this)
    · have := (S.hws _ h).2.2
      rw [hD] at this
      exact Nat.lt_irrefl _ (Nat.lt_trans hb' this)
  have hst₁ : St 0 h₁ := S.W.frame _ _ _ S.st fun b _ o e => hold b o e
  have hoff : ∀ p ∈ news, p.1 ∉ ws.map (·.1) ∧ p.1 ∉ ca (D + 1) ∧ p.1 ≠ D := fun p hp => ⟨hnw p hp, fun h => Nat.lt_irrefl _ (Nat.lt_trans (hge _ h) (hlt p hp)), Nat.ne_of_lt (hlt p hp)⟩
  have loop : codeAny (model prog w) A (.compLoop (.ListComp elt [⟨target, iter, ifs, 0⟩, ⟨target2, iter2, ifs2, 0⟩] scope pos) 0 (.ref I) (.ref D) (compEnvC scope (cs (D + 1)) (D + 1) env)) (RR (.ref D) (D + 1)) { s with heap := h₁, toks := tk } := by
    refine loop2J (s := { s with heap := h₁, toks := tk }) (news := news) (hf _) S (X.frm (D + 1)) hst₁ hinit hca hDw (F.keeps hold) (fun p hp => ?_) hoff hkp J h0 hJl (turn _ _) ?_
    · rcases List.mem_cons.mp hp with rfl | hp
      · exact ⟨hDs, hDL, hD0⟩
      · exact ⟨hold _ _ (N p hp).1, (N p hp).2⟩
    · intro h tk' ys hJ F' N' hI'
      obtain ⟨m', hns⟩ := X.ns _ _ hI'
      have hc := hca _ (X.self (D + 1))
      exact hRR s ⟨hp, tk, rfl⟩ D (D + 1) h tk' m' ys news F' N' (fun p hp => (hoff p hp).2.2) hns hc.2.1 hD0 hc.1 hDL (Nat.succ_ne_self D) (fun p hp e => (hoff p hp).2.1 (e ▸ X.self (D + 1))) (fin ys hJ)
  exact start_any rfl loop (S.self _ _ _ hst₁ loop)
theorem ListComp2_F {env : Env} {target elt iter target2 iter2 : Expr} {ifs ifs2 : List Expr} {scope : Scope} {cl : List (Str × Addr)} {pos : Pos} {Q : Value → Shared → Prop} (_ : Fr h₀ L s.heap m)
    (hclos : closureFor scope env = pure cl) (hkind : scope.kind = .function) (hnames : ∀ y ∈ scope.names, y.2 = .local → scope.names.lookup y.1 = some .local)
    (h : wpAny (model prog w) A (eval iter env) (fun xv s₁ => wpAny (model prog w) A (pyIter xv) (fun it s₂ => Comp2At prog w A h₀ L m env target elt target2 iter2 ifs ifs2 scope cl (fun s ys news => ∀ D h tk, Fr h₀ L h m → News h₀ L h ((D, lst ys) :: news) → (∀ p ∈ news, p.1 ≠ D) → Q (.ref D) { s with heap := h, toks := tk }) it s₂) E s₁) E s)
    (hs : ∀ x, foldedSetIterable iter env x = pure x := by intro _; rfl) :
    wpAny (model prog w) A (eval (.ListComp elt [⟨target, iter, ifs, 0⟩, ⟨target2, iter2, ifs2, 0⟩] scope pos) env) Q E s := by
  rw [eval_ListComp]
  refine wpAny_comprehension_free (use := none) rfl hs hclos hkind hnames (wpAny_mono h (fun xv s₁ h₁ => wpAny_mono h₁ (fun it s₂ h₂ => ?_) fun _ _ e => e) fun _ _ e => e)
  refine block2J (RR := fun acc C => compPost (model prog w) A E none Q acc C) h₂ ?_
  rintro sb ⟨hp, tk0, rfl⟩ D C h tk m' ys news' F' N' o1 hn hC₀ hD₀ hCL hDL hCD offC fin
  refine ⟨m', hn, fun h'' hs'' => fin D h'' tk (F'.change hs'' hCL hC₀) (fun p hp => ?_) o1⟩
  refine ⟨hs''.extBut _ _ ?_ (N' p hp).1, (N' p hp).2⟩
  rcases List.mem_cons.mp hp with rfl | hp
  · exact Ne.symm hCD
  · exact offC p hp
theorem relist {h : Heap} {l l' : List (Addr × Obj)} (N : News h₀ L h l) (e : l = l') : News h₀ L h l' := e ▸ N
/-- the inner clause's frame: the outer names stay -/
noncomputable def Inv3 (x y : Str) (vx vy : Value) (C : Addr) (h : Heap) : Prop := ∃ m', h.Ns C m' ∧ m' x = some vx ∧ m' y = some vy
noncomputable def K3 (x y x₂ y₂ : Str) (vx vy : Value) (C : Addr) (a : Itm) (_v : Value) (l : List (Addr × Obj)) : Prop := ∃ f t u oC m₂, a = .pair f u ∧ l = [(C, oC)] ∧ NsObj oC m₂ ∧ m₂ x = some vx ∧ m₂ y = some vy ∧ m₂ x₂ = some (f t) ∧ m₂ y₂ = some u
theorem frm_inner {xs : List Itm} {x y x₂ y₂ : Str} {vx vy : Value} {px px₂ tp : Pos} {kk : Nat} {cenv : Env} {C : Addr} (hl : cenv.locals = C) (hh : A.handled = none) (hxs : ∀ a ∈ xs, ∃ f y, a = .pair f y)
    (hp : (cenv.scope.kind == .class || (cenv.scope.kind == .module && cenv.locals != cenv.globals)) = false) (hx : cenv.kindOf x₂ = some .local) (hx₂ : cenv.kindOf y₂ = some .local) (hxx : ¬ x₂ = y₂) (h1 : ¬ x = x₂) (h2 : ¬ x = y₂) (h3 : ¬ y = x₂) (h4 : ¬ y = y₂) :
    FrmJ prog w A xs (.Tuple [.Name x₂ px, .Name y₂ px₂] kk tp) cenv [C] (Inv3 x y vx vy C) (K3 x y x₂ y₂ vx vy C) where
  keep := fun h h' ⟨m', hn, e1, e2⟩ hk => ⟨m', hn.at' fun o e => hk C (List.mem_singleton.mpr rfl) o e, e1, e2⟩
  asg := fun a ham v s Q E ha hI hQ => by
    obtain ⟨m', hn, e1, e2⟩ := hI
    obtain ⟨f, u, rfl⟩ := hxs a ham
    obtain ⟨T, t, rfl, hT⟩ := ha
    subst hl
    refine kcp_assign hh hT hx hx₂ hp hn fun h₄ tk₄ hn₄ hs₄ => ?_
    obtain ⟨oC, heC, hoC⟩ := ns_obj hn₄
    exact hQ h₄ _ [(cenv.locals, oC)] rfl (fun p hp => by rw [List.mem_singleton.mp hp]; exact heC) ⟨f, t, u, oC, _, rfl, rfl, hoC, by simp [h1, h2, e1], by simp [h3, h4, e2], by simp [hxx], by simp⟩ ⟨_, hn₄, by simp [h1, h2, e1], by simp [h3, h4, e2]⟩ fun b o hb e => hs₄ b o (fun q => hb (List.mem_singleton.mpr q)) e
end
end
section
open PySem PySem.W PyProof.Rows PySem.Spec PySem.Calls
noncomputable def wF (i : Nat) : Int := 1 + (selJ i 0 [16, 256, 4096]).sum
noncomputable def lowF : Nat → List Int
  | 0 => [0]
  | i + 1 => if i < 4 then lowF i ++ (lowF i).map (wF i + ·) else lowF i
noncomputable def highF : Nat → List Int
  | 0 => [0]
  | i + 1 => if i < 4 then highF i else highF i ++ (highF i).map (wF i + ·)
theorem low_len : ∀ i : Fin 9, (lowF i.val).length ≤ 16 := by decide +kernel
theorem high_len : ∀ i : Fin 9, (highF i.val).length ≤ 16 := by decide +kernel
/-- the low part's families that fill up a rest -/
noncomputable def famIn (wanted h r : Int) : Nat → List Int → List Int
  | _, [] => []
  | l, o :: os => if r + o = wanted then ((l : Int) + 16 * h) :: famIn wanted h r (l + 1) os else famIn wanted h r (l + 1) os
noncomputable def famOut (wanted : Int) (lows : List Int) : Nat → List Int → List Int
  | _, [] => []
  | h, r :: rs => if r ≤ wanted then famIn wanted (h : Int) r 0 lows ++ famOut wanted lows (h + 1) rs else famOut wanted lows (h + 1) rs
noncomputable def famL (wanted : Int) : List Int := famOut wanted (lowF 8) 0 (highF 8)
theorem famIn_append {w h r : Int} : ∀ {a b : List Int} {l : Nat}, famIn w h r l (a ++ b) = famIn w h r l a ++ famIn w h r (l + a.length) b
  | [], b, l => rfl
  | x :: a, b, l => by
    have ih := famIn_append (w := w) (h := h) (r := r) (a := a) (b := b) (l := l + 1)
    have e : l + 1 + a.length = l + (x :: a).length := by simp only [List.length_cons]; omega
    rw [e] at ih
    simp only [List.cons_append, famIn, ih]
    split <;> rfl
theorem famOut_append {w : Int} {lows : List Int} : ∀ {a b : List Int} {h : Nat}, famOut w lows h (a ++ b) = famOut w lows h a ++ famOut w lows (h + a.length) b
  | [], b, h => rfl
  | x :: a, b, h => by
    have ih := famOut_append (w := w) (lows := lows) (a := a) (b := b) (h := h + 1)
    have e : h + 1 + a.length = h + (x :: a).length := by simp only [List.length_cons]; omega
    rw [e] at ih
    simp only [List.cons_append, famOut, ih]
    split
    · rw [List.append_assoc]
    · rfl
theorem famIn_len {w h r : Int} : ∀ {os : List Int} {l : Nat}, (famIn w h r l os).length ≤ os.length
  | [], _ => Nat.le_refl _
  | o :: os, l => by
    have ih := famIn_len (w := w) (h := h) (r := r) (os := os) (l := l + 1)
    simp only [famIn, List.length_cons]
    split
    · simp only [List.length_cons]; omega
    · omega
theorem famOut_len {w : Int} {lows : List Int} : ∀ {rs : List Int} {h : Nat}, (famOut w lows h rs).length ≤ rs.length * lows.length
  | [], _ => Nat.zero_le _
  | r :: rs, h => by
    have ih := famOut_len (w := w) (lows := lows) (rs := rs) (h := h + 1)
    have i2 := famIn_len (w := w) (h := (h : Int)) (r := r) (os := lows) (l := 0)
    simp only [famOut, List.length_cons, Nat.add_mul, Nat.one_mul]
    split
    · rw [List.length_append]; omega
    · omega
theorem famIn_take {w h r : Int} {os : List Int} {j : Nat} {o : Int} (e : os[j]? = some o) : famIn w h r 0 (os.take (j + 1)) = famIn w h r 0 (os.take j) ++ (if r + o = w then [(j : Int) + 16 * h] else []) := by
  have hk := (List.getElem?_eq_some_iff.mp e).1
  rw [List.take_add_one, e, famIn_append, List.length_take, Nat.zero_add, Nat.min_eq_left (Nat.le_of_lt hk)]
  show _ ++ (if r + o = w then _ else _) = _
  rfl
theorem famOut_take {w : Int} {lows rs : List Int} {j : Nat} {r : Int} (e : rs[j]? = some r) : famOut w lows 0 (rs.take (j + 1)) = famOut w lows 0 (rs.take j) ++ (if r ≤ w then famIn w (j : Int) r 0 lows else []) := by
  have hk := (List.getElem?_eq_some_iff.mp e).1
  rw [List.take_add_one, e, famOut_append, List.length_take, Nat.zero_add, Nat.min_eq_left (Nat.le_of_lt hk)]
  show _ ++ (if r ≤ w then _ else _) = _
  simp only [famOut, List.append_nil]
theorem intsAre_append {a b : List Value} {x y : List Int} (h : IntsAre a x) (g : IntsAre b y) : IntsAre (a ++ b) (x ++ y) := by
  induction h with
  | nil => exact g
  | cons v t _ ih => exact .cons v t ih
theorem intsAre_at {vs : List Value} {ns : List Int} (h : IntsAre vs ns) : ∀ {i : Nat} {v : Value}, vs[i]? = some v → ∃ n t, v = .int n t ∧ ns[i]? = some n := by
  induction h with
  | nil => intro i v h; simp at h
  | cons n t _ ih =>
    intro i v h
    cases i with
    | zero => simp at h; subst h; exact ⟨n, t, rfl, rfl⟩
    | succ i => exact ih (by simpa using h)
theorem intsAre_length {vs : List Value} {ns : List Int} (h : IntsAre vs ns) : vs.length = ns.length := by
  induction h with
  | nil => rfl
  | cons _ _ _ ih => simp [ih]
section
variable {prog : Program} {w : World} {A : Around} {E : Value → Shared → Prop} {s : Shared} {h₀ : Heap} {L D : Addr} {m : Str → Option Value} {news news' : List (Addr × Obj)} {vs : List Value} {n : Nat} {k : Int} {t : Tok} {v : Value}
theorem set_T {Q : Unit → Shared → Prop} (F : Fr h₀ L s.heap m) (N : News h₀ L s.heap news) (U : Upd D (listOf vs.toArray n) (listOf (vs.set k.toNat v).toArray n) news news') (h0 : 0 ≤ k) (h1 : k < vs.length) (hfit : k < 2 ^ 63)
    (h : ∀ h', Fr h₀ L h' m → News h₀ L h' news' → Q () { s with heap := h' }) : wpAny (model prog w) A (setItem (.ref D) (.int k t) v) Q E s := by
  obtain ⟨pre, post, rfl, rfl, a, b⟩ := U.split
  have z := N (D, listOf vs.toArray n) (List.mem_append.mpr (.inr (.head _)))
  have hs : vs.toArray.size = vs.length := by simp
  refine ki_setAt z.1 h0 hfit (by omega) (h _ (F.change (Heap.SameBut.update ..) z.2.1 z.2.2) (ki_turn _ N a b ?_ ?_))
  · show vs.toArray.setIfInBounds k.toNat v = (vs.set k.toNat v).toArray
    apply Array.toList_inj.mp
    simp
  · simp
end
theorem sixteen {k : Nat} (h : k < 3) : ([16, 256, 4096] : List Int)[k]? = some ((16 : Int) ^ ((k : Int) + 1).toNat) := by
  rcases k with _ | _ | _ | k
  · rfl
  · rfl
  · rfl
  · omega
noncomputable def prodF (c0 c1 c2 c3 : Int) : List Int := [c0 * 1, c1 * 16, c2 * 256, c3 * 4096]
theorem prod_at {c0 c1 c2 c3 : Int} {t0 t1 t2 t3 : Tok} (h0 : 0 ≤ c0 ∧ c0 ≤ 8) (h1 : 0 ≤ c1 ∧ c1 ≤ 8) (h2 : 0 ≤ c2 ∧ c2 ≤ 8) (h3 : 0 ≤ c3 ∧ c3 ≤ 8) {k : Nat} {v : Value} (h : ([.int c0 t0, .int c1 t1, .int c2 t2, .int c3 t3] : List Value)[k]? = some v) :
    ∃ c t, v = .int c t ∧ (0 ≤ c ∧ c ≤ 8) ∧ k < 4 ∧ (prodF c0 c1 c2 c3)[k]? = some (c * (16 : Int) ^ ((k : Int)).toNat) := by
  rcases k with _ | _ | _ | _ | k
  · exact ⟨c0, t0, (Option.some.inj h).symm, h0, by decide, rfl⟩
  · exact ⟨c1, t1, (Option.some.inj h).symm, h1, by decide, rfl⟩
  · exact ⟨c2, t2, (Option.some.inj h).symm, h2, by decide, rfl⟩
  · exact ⟨c3, t3, (Option.some.inj h).symm, h3, by decide, rfl⟩
  · exact absurd h (by simp)
theorem map_take {f : Int → Int} {ns : List Int} {j : Nat} {n : Int} (e : ns[j]? = some n) : (ns.take (j + 1)).map f = (ns.take j).map f ++ [f n] := by
  rw [List.take_add_one, e, List.map_append]
  rfl
theorem range_inv {n k : Nat} {a : Itm} (h : (rangeItems 0 n)[k]? = some a) : k < n ∧ a = .tok fun t => .int (k : Int) t := by
  have hk : k < n := by
    have h1 := (List.getElem?_eq_some_iff.mp h).1
    rwa [rangeItems_length] at h1
  refine ⟨hk, ?_⟩
  rw [rangeItems_get hk] at h
  have := Option.some.inj h
  rw [← this]
  simp
end
section
open PySem PySem.W PyProof.Rows PySem.Spec PySem.Calls
noncomputable def fnBody : Stmt → List Stmt
  | .FunctionDef _ _ b _ _ _ _ _ _ _ => b
  | .For _ _ b _ _ => b
  | _ => []
noncomputable def fnScope : Stmt → Scope
  | .FunctionDef _ _ _ _ _ _ s _ _ _ => s
  | _ => default
noncomputable def ltFn : Stmt := PySem.Challenge.pw_wj0061_01.main.body.getD 17 default
noncomputable def ltTurn : List Stmt := fnBody ((fnBody ltFn).getD 3 default)
noncomputable def ltScope : Scope := fnScope ltFn
theorem ltTurn_len : ltTurn.length = 4 := by rfl
end
section
open PySem PySem.W PyProof.Rows PySem.Spec PySem.Calls
noncomputable def lawFn : Stmt := PySem.Challenge.pw_wj0061_01.main.body.getD 19 default
noncomputable def lawBody : List Stmt := fnBody lawFn
noncomputable def lawScope : Scope := fnScope lawFn
noncomputable def lawFor : Stmt := lawBody.getD 7 default
noncomputable def lawTurn : List Stmt := fnBody lawFor
theorem lawBody_len : lawBody.length = 9 := by rfl
theorem lawTurn_len : lawTurn.length = 8 := by rfl
end
section
open PySem PySem.W PyProof.Rows PySem.Spec PySem.Calls
noncomputable def words8 : List Str := [Str.ofString "OPTIMIZED", Str.ofString "NEWLOCALS", Str.ofString "VARARGS", Str.ofString "VARKEYWORDS", Str.ofString "NESTED", Str.ofString "GENERATOR", Str.ofString "NOFREE", Str.ofString "COROUTINE"]
noncomputable def words4 : List Str := [Str.ofString "ITERABLE_COROUTINE", Str.ofString "ASYNC_GENERATOR", Str.ofString "0x400", Str.ofString "0x800"]
noncomputable def wordsL : List Str := words8 ++ words4
theorem StrsP.append {P : Tok → Prop} {a b : List Value} {x y : List Str} (h : StrsP P a x) (g : StrsP P b y) : StrsP P (a ++ b) (x ++ y) := by
  induction h with
  | nil => exact g
  | cons v t p _ ih => exact .cons v t p ih
noncomputable def tkR (lo hi : Nat) (t : Tok) : Prop := lo ≤ t ∧ t < hi
theorem tkR.mono {lo lo' hi hi' : Nat} {t : Tok} (h : tkR lo hi t) (a : lo' ≤ lo) (b : hi ≤ hi') : tkR lo' hi' t := ⟨Nat.le_trans a h.1, Nat.lt_of_lt_of_le h.2 b⟩
noncomputable def drawnL (ns : List Int) : List Int := ns.take 6 ++ [3, 1, -2, 2, 0, 27].drop ns.length
theorem drawn_len {ns : List Int} : (drawnL ns).length = 6 := by
  unfold drawnL
  rw [List.length_append, List.length_take, List.length_drop]
  simp only [List.length_cons, List.length_nil]
  omega
theorem ints3 {vs : List Value} {a b c : Int} (h : IntsAre vs [a, b, c]) : ∃ t0 t1 t2, vs = [.int a t0, .int b t1, .int c t2] := by
  cases h with
  | cons _ t0 h => cases h with
    | cons _ t1 h => cases h with
      | cons _ t2 h => cases h with
        | nil => exact ⟨t0, t1, t2, rfl⟩
theorem ints4 {vs : List Value} {a b c d : Int} (h : IntsAre vs [a, b, c, d]) : ∃ t0 t1 t2 t3, vs = [.int a t0, .int b t1, .int c t2, .int d t3] := by
  cases h with
  | cons _ t0 h =>
    obtain ⟨t1, t2, t3, rfl⟩ := ints3 h
    exact ⟨t0, t1, t2, t3, rfl⟩
theorem ints5 {vs : List Value} {a b c d e : Int} (h : IntsAre vs [a, b, c, d, e]) : ∃ t0 t1 t2 t3 t4, vs = [.int a t0, .int b t1, .int c t2, .int d t3, .int e t4] := by
  cases h with
  | cons _ t0 h =>
    obtain ⟨t1, t2, t3, t4, rfl⟩ := ints4 h
    exact ⟨t0, t1, t2, t3, t4, rfl⟩
theorem ints6 {vs : List Value} {a b c d e f : Int} (h : IntsAre vs [a, b, c, d, e, f]) : ∃ t0 t1 t2 t3 t4 t5, vs = [.int a t0, .int b t1, .int c t2, .int d t3, .int e t4, .int f t5] := by
  cases h with
  | cons _ t0 h =>
    obtain ⟨t1, t2, t3, t4, t5, rfl⟩ := ints5 h
    exact ⟨t0, t1, t2, t3, t4, t5, rfl⟩
theorem strs3 {P : Tok → Prop} {vs : List Value} {a b c : Str} (h : StrsP P vs [a, b, c]) : ∃ t0 t1 t2, vs = [.str a t0, .str b t1, .str c t2] ∧ P t0 ∧ P t1 ∧ P t2 := by
  cases h with
  | cons _ t0 p0 h => cases h with
    | cons _ t1 p1 h => cases h with
      | cons _ t2 p2 h => cases h with
        | nil => exact ⟨t0, t1, t2, rfl, p0, p1, p2⟩
theorem cellput {h₀ h h' : Heap} {L c : Addr} {o' : Obj} {l : List (Addr × Obj)} (N : News h₀ L h l) (hs : Heap.SameBut c h h') (ho : h'.get? c = some o') (hc : c ≠ L ∧ h₀.get? c = none) (hl : ∀ p ∈ l, p.1 ≠ c) : News h₀ L h' ((c, o') :: l) := fun p hp => by
  rcases List.mem_cons.mp hp with rfl | hp
  · exact ⟨ho, hc⟩
  · exact ⟨hs.extBut _ _ (hl p hp) (N p hp).1, (N p hp).2⟩
noncomputable def placeL (d : Int) (k : Nat) : Int := 4 * (k : Int) + (d.fdiv (4 ^ k)).fmod 4
theorem place_bound {d : Int} {k : Nat} : 4 * (k : Int) ≤ placeL d k ∧ placeL d k ≤ 4 * (k : Int) + 3 := by
  unfold placeL
  have h1 := Int.fmod_nonneg_of_pos (d.fdiv (4 ^ k)) (show (0 : Int) < 4 by decide)
  have h2 := Int.fmod_lt_of_pos (d.fdiv (4 ^ k)) (show (0 : Int) < 4 by decide)
  omega
noncomputable def winL (w0 w1 w2 q : Int) (i : Nat) : List Int := ((List.range i).filter fun n => decide (q ≤ (selJ n 0 [w0, w1, w2]).sum)).map fun (n : Nat) => (n : Int)
theorem win_on {w0 w1 w2 q : Int} {i : Nat} (h : q ≤ (selJ i 0 [w0, w1, w2]).sum) : winL w0 w1 w2 q (i + 1) = winL w0 w1 w2 q i ++ [(i : Int)] := by
  unfold winL
  rw [List.range_succ, List.filter_append, List.map_append, List.filter_cons, if_pos (by simpa using h)]
  rfl
theorem win_off {w0 w1 w2 q : Int} {i : Nat} (h : ¬ q ≤ (selJ i 0 [w0, w1, w2]).sum) : winL w0 w1 w2 q (i + 1) = winL w0 w1 w2 q i := by
  unfold winL
  rw [List.range_succ, List.filter_append, List.map_append, List.filter_cons, if_neg (by simpa using h)]
  simp
theorem tk_a {a b : Nat} (h : a ≤ b) : @LE.le Nat _ a b := h
theorem tk_b {a b : Nat} (h : a < b) : @LT.lt Nat _ a b := h
theorem below_ne' {news : List (Addr × Obj)} {L c : Addr} (h : ∀ p ∈ news, p.1 < L) (hc : L ≤ c) : ∀ p ∈ news, p.1 ≠ c := fun p hp => Nat.ne_of_lt (Nat.lt_of_lt_of_le (h p hp) hc)
end
section
open PySem PySem.W PyProof.Rows PySem.Spec PySem.Calls
local macro_rules | `(tactic| walk_at "getMethod ref") => `(tactic| (k_here; (with_reducible show wpAny _ _ (getMethod (Value.ref _) (Str.ofString "search") _) _ _ _); k_dflt (refine' meth_pat ?k1 ?k2 ?k3 ?_; (case k1 => k_asm); (case k2 => k_asm); (case k3 => k_is); k_whole)))
local macro_rules | `(tactic| walk_at "call builtin:re.Pattern.search") => `(tactic| (k_here; k_dflt (refine' search_K ?k1 ?k2 ?k3 ?k4 ?k5 ?k6 ?k7 ?_; (case k1 => k_asm); (case k2 => k_asm); (case k3 => k_is); (case k4 => k_is); (case k5 => first | exact Or.inl (by decide +kernel) | exact Or.inr (by decide +kernel)); (case k6 => assumption); (case k7 => assumption); k_whole)))
local macro_rules | `(tactic| k_room) => `(tactic| ktr_room)
local macro_rules | `(tactic| walk_at "eval ListComp") => `(tactic| (k_here; k_dflt (refine ListComp_F (F₀ := by k_asm) (by with_unfolding_all rfl) (by rfl) (by decide) ?_); k_whole))
local macro_rules | `(tactic| walk_at "exec Assign cons ListComp") => `(tactic| (k_here; k_dflt (refine Assign_ListComp_F (F₀ := by k_asm) (by rfl) (by with_unfolding_all rfl) (by rfl) (by decide) (by rfl) (by rfl) ?_); k_whole))
local macro_rules | `(tactic| walk_at "call type:enumerate") => `(tactic| (k_here; (with_reducible show wpAny _ _ (call (Value.type _) [Value.ref _]) (fun xv s₁ => wpAny _ _ (pyIter xv) (fun it s₂ => CompAt _ _ _ _ _ _ _ _ _ _ _ _ _ it s₂) _ s₁) _ _); refine Stop.intro' ?_))
local macro_rules | `(tactic| walk_at "pyIter ref") => `(tactic| (k_here; (with_reducible show wpAny _ _ (pyIter (Value.ref _)) (fun it s₂ => CompAt _ _ _ _ _ _ _ _ _ _ _ _ _ it s₂) _ _); refine Stop.intro' ?_))
local macro_rules | `(tactic| walk_at "call builtin:sum") => `(tactic| (k_here; (with_reducible show wpAny _ _ (call (Value.builtin "sum") [Value.ref _]) _ _ _); refine Stop.intro' ?_))
local macro_rules | `(tactic| walk_at "call builtin:str.split") => `(tactic| (k_here; (with_reducible show wpAny _ _ (call (Value.builtin "str.split") [Value.str _ _, Value.str _ _]) _ _ _); refine Stop.intro' ?_))
local macro_rules | `(tactic| walk_at "call type:int") => `(tactic| (k_here; (with_reducible show wpAny _ _ (call (Value.type "int") [Value.str _ _]) _ _ _); refine Stop.intro' ?_))
local macro_rules | `(tactic| walk_at "exec For Name Name cons nil") => `(tactic| (k_here; (rename Fr _ _ _ _ => lF'); (with_unfolding_all refine' For_turns lF' ?_; k_whole)))
local macro_rules | `(tactic| walk_at "exec For Tuple Name cons nil") => `(tactic| (k_here; (rename Fr _ _ _ _ => lF'); (with_unfolding_all refine' For_turns lF' ?_; k_whole)))
local macro_rules | `(tactic| walk_at "exec For Name BinOp cons nil") => `(tactic| (k_here; (rename Fr _ _ _ _ => lF'); (with_unfolding_all refine' For_turns lF' ?_; k_whole)))
local macro_rules | `(tactic| walk_at "exec For Tuple Call cons nil") => `(tactic| (k_here; (rename Fr _ _ _ _ => lF'); (with_unfolding_all refine' For_turns lF' ?_; k_whole)))
local macro_rules | `(tactic| walk_at "pyIter ref") => `(tactic| (k_here; (with_reducible show wpAny _ _ (pyIter (Value.ref _)) (fun it s₂ => TurnsAt _ _ _ _ _ _ _ _ _ it s₂) _ _); refine Stop.intro' ?_))
local macro_rules | `(tactic| walk_at "call type:zip") => `(tactic| (k_here; (with_reducible show wpAny _ _ (call (Value.type _) [Value.ref _, Value.ref _]) (fun xv s₁ => wpAny _ _ (pyIter xv) (fun it s₂ => TurnsAt _ _ _ _ _ _ _ _ _ it s₂) _ s₁) _ _); refine Stop.intro' ?_))
theorem below_ne {news : List (Addr × Obj)} {L c : Addr} (h : ∀ p ∈ news, p.1 < L) (hc : L ≤ c) : ∀ p ∈ news, p.1 ≠ c := fun p hp => Nat.ne_of_lt (Nat.lt_of_lt_of_le (h p hp) hc)
local macro_rules | `(tactic| k_all) => `(tactic| (refine below_ne (by assumption) ?_; first | exact Nat.le_refl _ | exact Nat.le_add_right _ _))
local macro_rules | `(tactic| walk_at "exec For Name Call cons nil") => `(tactic| (k_here; k_dflt (refine' wpAny_For ?_ ?hs9; (case hs9 => intro _; rfl))))
local macro_rules | `(tactic| walk_at "eval ListComp") => `(tactic| (k_here; (with_reducible show wpAny _ _ (eval (Expr.ListComp _ [_, _] _ _) _) _ _ _); k_dflt (refine ListComp2_F (by k_asm) (by with_unfolding_all rfl) (by rfl) (by decide) ?_); k_whole))
local macro_rules | `(tactic| walk_at "call type:enumerate") => `(tactic| (k_here; (with_reducible show wpAny _ _ (call (Value.type _) [Value.ref _]) (fun xv s₁ => wpAny _ _ (pyIter xv) (fun it s₂ => Comp2At _ _ _ _ _ _ _ _ _ _ _ _ _ _ _ _ it s₂) _ s₁) _ _); refine Stop.intro' ?_))
local macro_rules | `(tactic| walk_at "call type:enumerate") => `(tactic| (k_here; (with_reducible show wpAny _ _ (call (Value.type _) [Value.ref _]) (fun xv s₁ => wpAny _ _ (pyIter xv) (fun it s₂ => InAt _ _ _ _ _ _ _ _ _ _ _ _ _ _ _ _ _ _ _ _ it s₂) _ s₁) _ _); refine Stop.intro' ?_))
section
variable {w : World} {mean : ExcName → Option Value} {mg mb : Str → Option Value} {dp un : Nat} {gd : Option (List Code)} {cn : Str} {nms : List (Str × NameKind)} {ig ic : Bool} {mr : List (Str × Const)} {a : Addr} {ccd : Value} {cl : List (Str × Addr)} {outer : List Env} {A₀ : Around} {base h₀ : Heap} {L : Addr} {m : Str → Option Value} {s : Shared} {Q E : Value → Shared → Prop} {news : List (Addr × Obj)}
theorem fam_k {c0 c1 c2 c3 : Int} {t0 t1 t2 t3 : Tok} {lc : Addr} {kc : Nat} (h0 : 0 ≤ c0 ∧ c0 ≤ 8) (h1 : 0 ≤ c1 ∧ c1 ≤ 8) (h2 : 0 ≤ c2 ∧ c2 ≤ 8) (h3 : 0 ≤ c3 ∧ c3 ≤ 8)
    (B : Below A₀ base outer h₀) (F : Fr h₀ L s.heap m) (X : (hk.heap_1 w.params).In h₀) (N : News h₀ L s.heap ((lc, listOf #[.int c0 t0, .int c1 t1, .int c2 t2, .int c3 t3] kc) :: news)) (T : Top vw61 LL mean mg mb h₀) (hd : dp + 7 < recursionLimit) (hu : un + 70 < cLine)
    (hret : ∀ D us k h' tk', IntsAre us (famL (c0 + c1 * 16 + c2 * 256 + c3 * 4096)) → Fr h₀ L h' m → News h₀ L h' ((D, listOf us.toArray k) :: (lc, listOf #[.int c0 t0, .int c1 t1, .int c2 t2, .int c3 t3] kc) :: news) → Q (.ref D) { s with heap := h', toks := tk' }) :
    wpAny (model prog w) (ktrTop dp un gd cn ⟨.function, nms, ig, ic, mr⟩ L a ccd cl outer) (call (.ref 233) [.ref lc]) Q E s := by
  w_strict (refine wpAny_call ?_; k_dflt k_enter)
  rename lc < _ ∧ AllLt _ news => e1
  have eL := allLt_mem e1.2
  w_strict k_steps
  rename Fr _ _ _ _ => F9
  rename News _ _ _ _ => N9
  rename IsRange _ _ _ _ _ _ _ _ => R9
  obtain ⟨L2, hL2⟩ := named F9
  subst hL2
  rename L2 + 1 + 1 + 1 + 1 < _ ∧ _ ∧ _ ∧ _ ∧ lc < _ ∧ AllLt _ news => q1
  rename _ ∧ L2 + 1 + 1 + 1 + 1 < _ ∧ _ ∧ _ ∧ _ ∧ lc < _ ∧ AllLt _ news => q2
  rename _ ∧ _ ∧ L2 + 1 + 1 + 1 + 1 < _ ∧ _ ∧ _ ∧ _ ∧ lc < _ ∧ AllLt _ news => q3
  k_dflt (refine pyIter_rangeJ (n := 8) rfl R9 (by decide) F9 N9 (by passes_own) (fun m₀ n₀ i m₁ n₁ => (∀ z, z ≠ Str.ofString "half" → m₁ z = m₀ z) ∧ ∃ S a b kS ka kb va vb os on ow ox, n₁ = (S, listOf #[.ref a, .ref b] kS) :: (b, listOf vb ka) :: (a, listOf va kb) :: (L2 + 1 + 1 + 1 + 1, ox) :: (L2 + 1 + 1 + 1, ow) :: (L2 + 1 + 1, on) :: (L2 + 1, os) :: (lc, listOf #[.int c0 t0, .int c1 t1, .int c2 t2, .int c3 t3] kc) :: news ∧ os.data = .cell (some (.ref S)) ∧ (∃ v, on.data = .cell v) ∧ (∃ v, ow.data = .cell v) ∧ (∃ v, ox.data = .cell v) ∧ IntsAre va.toList (lowF i) ∧ IntsAre vb.toList (highF i) ∧ @LT.lt Nat _ (L2 + 1 + 1 + 1 + 1) S ∧ @LT.lt Nat _ (L2 + 1 + 1 + 1 + 1) a ∧ @LT.lt Nat _ (L2 + 1 + 1 + 1 + 1) b ∧ a ≠ S ∧ b ≠ S) ?h0 ?turn ?done)
  case h0 =>
    exact ⟨fun _ _ => rfl, _, _, _, _, _, _, _, _, _, _, _, _, rfl, by assumption, ⟨_, by assumption⟩, ⟨_, by assumption⟩, ⟨_, by assumption⟩, .cons _ _ .nil, .cons _ _ .nil, q3.2.2.1, q1.1, q2.2.1, Nat.ne_of_lt q3.2.1, Nat.ne_of_lt q3.1⟩
  case turn =>
    rintro I hI i hi m₁ n₁ ⟨hm, S, a, b, kS, kb, ka, va, vb, os, on, ow, ox, rfl, hos, ⟨von, hon⟩, ⟨vow, how⟩, ⟨vox, hox⟩, hva, hvb, gS, ga, gb, gaS, gbS⟩ hoff t' h tk F N
    clear F9 N9
    have hIc : @LT.lt Nat _ (L2 + 1 + 1 + 1 + 1) I := Nat.lt_trans q3.2.2.1 (hI _ (.head _))
    have hSI : @Ne Nat S I := hoff _ (.head _)
    have hbI : @Ne Nat b I := hoff _ (.tail _ (.head _))
    have haI : @Ne Nat a I := hoff _ (.tail _ (.tail _ (.head _)))
    have hoff' : ∀ (o1 o2 o3 o4 : Obj), ∀ p ∈ (L2 + 1 + 1 + 1 + 1, o1) :: (L2 + 1 + 1 + 1, o2) :: (L2 + 1 + 1, o3) :: (L2 + 1, o4) :: (lc, listOf #[.int c0 t0, .int c1 t1, .int c2 t2, .int c3 t3] kc) :: news, p.1 ≠ I := by
      intro o1 o2 o3 o4 p hp
      rcases List.mem_cons.mp hp with rfl | hp
      · exact Nat.ne_of_lt hIc
      rcases List.mem_cons.mp hp with rfl | hp
      · exact Nat.ne_of_lt (Nat.lt_trans (Nat.lt_succ_self _) hIc)
      rcases List.mem_cons.mp hp with rfl | hp
      · exact Nat.ne_of_lt (Nat.lt_of_le_of_lt (Nat.le_add_right (L2 + 1 + 1) 2) hIc)
      rcases List.mem_cons.mp hp with rfl | hp
      · exact Nat.ne_of_lt (Nat.lt_of_le_of_lt (Nat.le_add_right (L2 + 1) 3) hIc)
      · exact hoff p (by repeat (first | exact hp | refine List.Mem.tail _ ?_))
    have hcm := N (L2 + 1 + 1, on) (by repeat (first | exact List.Mem.head _ | refine List.Mem.tail _ ?_))
    refine wpAny_assign_Name (wpAny_storeName_cell (c := L2 + 1 + 1) (by rfl) (by rfl) (by rfl) ⟨on, hcm.1, hon⟩ fun h3 hc3 hs5 => ?_)
    obtain ⟨o3, ho3, hd3⟩ := hc3
    have N5 := news_cell [(I, _), (S, _), (b, _), (a, _), (L2 + 1 + 1 + 1 + 1, _), (L2 + 1 + 1 + 1, _)] (o := on) N hs5 ho3 ?hpre ?hpost
    case hpre =>
      intro p hp
      simp only [List.mem_cons, List.not_mem_nil, or_false] at hp
      rcases hp with rfl | rfl | rfl | rfl | rfl | rfl <;> (show @Ne Nat _ _) <;> (dsimp only) <;> omega
    case hpost =>
      intro p hp
      rcases List.mem_cons.mp hp with rfl | hp
      · show @Ne Nat _ _
        dsimp only
        omega
      rcases List.mem_cons.mp hp with rfl | hp
      · exact Nat.ne_of_lt (Nat.lt_of_lt_of_le e1.1 (Nat.le_add_right L2 2))
      · exact Nat.ne_of_lt (Nat.lt_of_lt_of_le (eL p hp) (Nat.le_add_right L2 2))
    have F5 := F.change hs5 hcm.2.1 hcm.2.2
    rw [agree1 hm] at F5
    simp only [List.cons_append, List.nil_append] at N5
    clear F N
    w_strict ((try k_unmd); (try k_fold); k_steps)
    refine ⟨?_⟩
    rename IsRange _ _ _ _ _ _ _ _ => R3
    rename Fr _ _ _ _ => F9
    rename News _ _ _ _ => N9
    obtain ⟨nl, hnl⟩ := namedL N9
    rw [← hnl] at N9
    k_dflt (refine at_range (n := 3) rfl F9 N9 R3 (by decide) (by decide) (frm_name (by decide) rfl rfl) (fun k ys n₁ => n₁ = nl ∧ IntsAre ys (selJ i 0 (([16, 256, 4096] : List Int).take k))) ⟨rfl, .nil⟩ ?turn1 ?fin1)
    case turn1 =>
      rintro I3 C D hI3 k a' ha ys n₁ ⟨rfl, hys⟩ hyl hoff3 v l' h tk E' hK F
      obtain ⟨hk3, rfl⟩ := range_inv ha
      obtain ⟨⟨hh, hav⟩, oC, m₂, rfl, hC, hx⟩ := hK
      obtain ⟨t5, rfl⟩ := hav
      clear F9 N9
      refine AllObj.cons (fun o1 hc1 => AllObj.nil (fun N => ?_))
      rw [hnl] at N
      dsimp only [testsJ]
      simp only [List.cons_append, List.nil_append] at N ⊢
      w_strict ((try k_unmd); (try k_fold); k_steps)
      · rename _ ≠ 0 => hb
        rename Fr _ _ _ _ => F8
        rename News _ _ _ _ => N8
        refine CEndJ.same (news' := n₁) F8 (by rw [hnl]; exact N8) hoff3 ⟨trivial, rfl, ?_⟩
        rw [← selJ_on (sixteen hk3) (bit_on hb)]
        exact intsAre_append hys (.cons _ _ .nil)
      · rename _ = 0 => hb
        rename Fr _ _ _ _ => F8
        rename News _ _ _ _ => N8
        refine CEndJ.same (news' := n₁) F8 (by rw [hnl]; exact N8) hoff3 ⟨trivial, rfl, ?_⟩
        rw [← selJ_off (sixteen hk3) (bit_off hb)]
        exact hys
    case fin1 =>
      rintro ys n₁ ⟨rfl, hys⟩ - D h tk F N off
      clear F9 N9
      rw [show (([16, 256, 4096] : List Int).take 3) = [16, 256, 4096] from rfl] at hys
      rw [hnl] at N
      w_strict ((try k_unmd); (try k_fold); k_steps)
      refine ⟨?_⟩
      rename Fr _ _ _ _ => F9
      rename News _ _ _ _ => N9
      k_dflt (refine sumK rfl F9 N9 ⟨_, (N9 _ (.head _)).1, rfl, _, rfl⟩ hys ?_)
      intro hh1 tk1 tt1 F1 N1
      clear F9 N9
      have N2 := pickT 1 [] N1
      clear N1
      change News _ _ _ ((I, itR _ _) :: _) at N2
      w_strict ((try k_unmd); (try k_fold); k_steps)
      have hcw := N2 (L2 + 1 + 1 + 1, ow) (by repeat (first | exact List.Mem.head _ | refine List.Mem.tail _ ?_))
      refine wpAny_storeName_cell (c := L2 + 1 + 1 + 1) (by rfl) (by rfl) (by rfl) ⟨ow, hcw.1, how⟩ fun h6 hc6 hs6 => ?_
      obtain ⟨o6, ho6, hd6⟩ := hc6
      have N6 := news_cell [(I, _), (S, _), (b, _), (a, _), (L2 + 1 + 1 + 1 + 1, _)] (o := ow) N2 hs6 ho6 ?hpre6 ?hpost6
      case hpre6 =>
        intro p hp
        simp only [List.mem_cons, List.not_mem_nil, or_false] at hp
        rcases hp with rfl | rfl | rfl | rfl | rfl <;> (show @Ne Nat _ _) <;> (dsimp only) <;> omega
      case hpost6 =>
        intro p hp
        rcases List.mem_cons.mp hp with rfl | hp
        · show @Ne Nat _ _
          dsimp only
          omega
        rcases List.mem_cons.mp hp with rfl | hp
        · show @Ne Nat _ _
          dsimp only
          omega
        rcases List.mem_cons.mp hp with rfl | hp
        · exact Nat.ne_of_lt (Nat.lt_of_lt_of_le e1.1 (Nat.le_add_right L2 3))
        · exact Nat.ne_of_lt (Nat.lt_of_lt_of_le (eL p hp) (Nat.le_add_right L2 3))
      have F6 := F1.change hs6 hcw.2.1 hcw.2.2
      simp only [List.cons_append, List.nil_append] at N6
      clear F1 N2 hcw
      w_strict ((try k_unmd); (try k_fold); k_steps)
      by_cases h4 : i < 4
      · have e4 : Int.fdiv (i : Int) 4 = 0 := by rw [Int.fdiv_eq_ediv_of_nonneg _ (by decide)]; omega
        rw [e4]
        w_strict ((try k_unmd); (try k_fold); k_steps)
        refine ⟨?_⟩
        rename Fr _ _ _ _ => F9
        rename News _ _ _ _ => N9
        obtain ⟨nl2, hnl2⟩ := namedL N9
        rw [← hnl2] at N9
        k_dflt (refine at_list (vs := va.toList) (n := ka) rfl F9 N9 (by rw [hnl2]; repeat (first | exact List.Mem.head _ | refine List.Mem.tail _ ?_)) rfl rfl (by rw [intsAre_length hva]; exact Nat.le_trans (low_len ⟨i, by omega⟩) (by decide)) (frm_name (by decide) rfl rfl) (fun j ys n₁ => n₁ = nl2 ∧ IntsAre ys (((lowF i).take j).map (wF i + ·))) ⟨rfl, .nil⟩ ?turn2 ?fin2)
        case turn2 =>
          rintro I4 C4 D4 hI4 j a4 ha4 ys4 n₄ ⟨rfl, hys4⟩ hyl4 hoff4 v4 l4 h4' tk4 E4 hK4 F
          rw [List.getElem?_map] at ha4
          obtain ⟨u4, g1, g2⟩ := Option.map_eq_some_iff.mp ha4
          obtain ⟨⟨hh4, hav4⟩, oC4, m₄, rfl, hC4, hx4⟩ := hK4
          rw [← g2] at hav4
          have hv4 : v4 = u4 := hav4
          subst hv4
          obtain ⟨x4, t4, rfl, hj4⟩ := intsAre_at hva g1
          clear F9 N9
          refine AllObj.cons (fun o1 hc1 => AllObj.nil (fun N => ?_))
          rw [hnl2] at N
          dsimp only [testsJ]
          simp only [List.cons_append, List.nil_append] at N ⊢
          rw [if_pos trivial]
          w_strict ((try k_unmd); (try k_fold); k_steps)
          rename Fr _ _ _ _ => F8
          rename News _ _ _ _ => N8
          refine CEndJ.same (news' := n₄) F8 (by rw [hnl2]; exact N8) hoff4 ⟨⟨by rw [hnl2]; repeat (first | exact List.Mem.head _ | refine List.Mem.tail _ ?_), trivial⟩, rfl, ?_⟩
          rw [map_take hj4]
          exact intsAre_append hys4 (.cons _ _ .nil)
        case fin2 =>
          rintro ys4 n₄ ⟨rfl, hys4⟩ - D4 h4' tk4 F N off4
          clear F9 N9
          rw [intsAre_length hva, List.take_length] at hys4
          rw [hnl2] at N
          w_strict ((try k_unmd); (try k_fold); k_steps)
          rename Fr _ _ _ _ => F9
          rename News _ _ _ _ => N9
          k_dflt (refine kmk_add_ints (vs := va.toList) (ws := ys4) F9 N9 ⟨_, (N9 (a, _) (by repeat (first | exact List.Mem.head _ | refine List.Mem.tail _ ?_))).1, rfl, _, rfl⟩ ⟨_, (N9 (D4, _) (.head _)).1, rfl, _, rfl⟩ hva hys4 ?_ ?sz5)
          case sz5 =>
            rw [List.length_map]
            have := low_len ⟨i, by omega⟩
            exact Nat.le_trans (Nat.add_le_add this this) (by decide)
          intro D5 us5 h5 F5 N5 l5 hus5
          clear F9 N9
          w_strict ((try k_unmd); (try k_fold); k_steps)
          rw [e4]
          rename Fr _ _ _ _ => F9
          rename News _ _ _ _ => N9
          have N7 := pickT 2 [0] N9
          change News _ _ _ ((D5, _) :: (I, itR _ _) :: (S, listOf _ _) :: (b, _) :: (a, _) :: (L2 + 1 + 1 + 1 + 1, _) :: (L2 + 1 + 1 + 1, _) :: (L2 + 1 + 1, _) :: (L2 + 1, _) :: (lc, _) :: news) at N7
          have hSD : @LT.lt Nat _ S D5 := l5 (S, listOf #[.ref a, .ref b] kS) (by repeat (first | exact List.Mem.head _ | refine List.Mem.tail _ ?_))
          have hID : @LT.lt Nat _ I D5 := l5 (I, itR _ _) (by repeat (first | exact List.Mem.head _ | refine List.Mem.tail _ ?_))
          k_dflt (refine set_T (vs := [.ref a, .ref b]) F9 N7 (Upd.tail (Nat.ne_of_gt hSD) (Upd.tail (Ne.symm hSI) (Upd.head ?up))) (by decide) (show (0 : Int) < ((2 : Nat) : Int) by decide) (by decide) ?_)
          case up =>
            intro p hp
            rcases List.mem_cons.mp hp with rfl | hp
            · exact gbS
            rcases List.mem_cons.mp hp with rfl | hp
            · exact gaS
            rcases List.mem_cons.mp hp with rfl | hp
            · exact Nat.ne_of_lt gS
            rcases List.mem_cons.mp hp with rfl | hp
            · exact Nat.ne_of_lt (Nat.lt_trans (Nat.lt_succ_self _) gS)
            rcases List.mem_cons.mp hp with rfl | hp
            · exact Nat.ne_of_lt (Nat.lt_trans (Nat.lt_trans (Nat.lt_succ_self _) (Nat.lt_succ_self _)) gS)
            rcases List.mem_cons.mp hp with rfl | hp
            · exact Nat.ne_of_lt (Nat.lt_of_le_of_lt (Nat.le_add_right (L2 + 1) 3) gS)
            rcases List.mem_cons.mp hp with rfl | hp
            · exact Nat.ne_of_lt (Nat.lt_trans e1.1 (Nat.lt_of_le_of_lt (Nat.le_add_right L2 4) gS))
            · exact Nat.ne_of_lt (Nat.lt_trans (eL p hp) (Nat.lt_of_le_of_lt (Nat.le_add_right L2 4) gS))
          intro h7 F7 N8
          clear F9 N9 N7
          w_strict ((try k_unmd); (try k_fold); k_steps)
          refine UnrEndW.intro F7 N8 ((S, listOf #[.ref D5, .ref b] kS) :: (b, listOf vb kb) :: (D5, listOf us5.toArray 0) :: (L2 + 1 + 1 + 1 + 1, ox) :: (L2 + 1 + 1 + 1, o6) :: (L2 + 1 + 1, o3) :: (L2 + 1, os) :: (lc, listOf #[.int c0 t0, .int c1 t1, .int c2 t2, .int c3 t3] kc) :: news) ⟨.tail _ (.head _), trivial⟩ (subL_of ?sb) (offW_of ?of) ⟨?hm, S, D5, b, kS, kb, 0, us5.toArray, vb, os, o3, o6, ox, rfl, hos, ⟨_, hd3⟩, ⟨_, hd6⟩, ⟨_, hox⟩, ?i1, ?i2, gS, Nat.lt_trans gS hSD, gb, Nat.ne_of_gt hSD, gbS⟩
          case sb =>
            intro p hp
            rcases List.mem_cons.mp hp with rfl | hp
            · exact .tail _ (.tail _ (.head _))
            rcases List.mem_cons.mp hp with rfl | hp
            · exact .tail _ (.tail _ (.tail _ (.head _)))
            rcases List.mem_cons.mp hp with rfl | hp
            · exact .head _
            · exact .tail _ (.tail _ (.tail _ (.tail _ (.tail _ hp))))
          case of =>
            intro p hp
            rcases List.mem_cons.mp hp with rfl | hp
            · exact hSI
            rcases List.mem_cons.mp hp with rfl | hp
            · exact hbI
            rcases List.mem_cons.mp hp with rfl | hp
            · exact Nat.ne_of_gt hID
            · exact hoff' _ _ _ _ p hp
          case hm =>
            intro z g1
            simp only [upd1, if_neg g1]
          case i1 => show IntsAre us5 (if i < 4 then _ else _); rw [if_pos h4]; exact hus5
          case i2 => show IntsAre vb.toList (if i < 4 then _ else _); rw [if_pos h4]; exact hvb
      · have e4 : Int.fdiv (i : Int) 4 = 1 := by rw [Int.fdiv_eq_ediv_of_nonneg _ (by decide)]; omega
        rw [e4]
        w_strict ((try k_unmd); (try k_fold); k_steps)
        refine ⟨?_⟩
        rename Fr _ _ _ _ => F9
        rename News _ _ _ _ => N9
        obtain ⟨nl2, hnl2⟩ := namedL N9
        rw [← hnl2] at N9
        k_dflt (refine at_list (vs := vb.toList) (n := kb) rfl F9 N9 (by rw [hnl2]; repeat (first | exact List.Mem.head _ | refine List.Mem.tail _ ?_)) rfl rfl (by rw [intsAre_length hvb]; exact Nat.le_trans (high_len ⟨i, by omega⟩) (by decide)) (frm_name (by decide) rfl rfl) (fun j ys n₁ => n₁ = nl2 ∧ IntsAre ys (((highF i).take j).map (wF i + ·))) ⟨rfl, .nil⟩ ?turn2_b ?fin2_b)
        case turn2_b =>
          rintro I4 C4 D4 hI4 j a4 ha4 ys4 n₄ ⟨rfl, hys4⟩ hyl4 hoff4 v4 l4 h4' tk4 E4 hK4 F
          rw [List.getElem?_map] at ha4
          obtain ⟨u4, g1, g2⟩ := Option.map_eq_some_iff.mp ha4
          obtain ⟨⟨hh4, hav4⟩, oC4, m₄, rfl, hC4, hx4⟩ := hK4
          rw [← g2] at hav4
          have hv4 : v4 = u4 := hav4
          subst hv4
          obtain ⟨x4, t4, rfl, hj4⟩ := intsAre_at hvb g1
          clear F9 N9
          refine AllObj.cons (fun o1 hc1 => AllObj.nil (fun N => ?_))
          rw [hnl2] at N
          dsimp only [testsJ]
          simp only [List.cons_append, List.nil_append] at N ⊢
          rw [if_pos trivial]
          w_strict ((try k_unmd); (try k_fold); k_steps)
          rename Fr _ _ _ _ => F8
          rename News _ _ _ _ => N8
          refine CEndJ.same (news' := n₄) F8 (by rw [hnl2]; exact N8) hoff4 ⟨⟨by rw [hnl2]; repeat (first | exact List.Mem.head _ | refine List.Mem.tail _ ?_), trivial⟩, rfl, ?_⟩
          rw [map_take hj4]
          exact intsAre_append hys4 (.cons _ _ .nil)
        case fin2_b =>
          rintro ys4 n₄ ⟨rfl, hys4⟩ - D4 h4' tk4 F N off4
          clear F9 N9
          rw [intsAre_length hvb, List.take_length] at hys4
          rw [hnl2] at N
          w_strict ((try k_unmd); (try k_fold); k_steps)
          rename Fr _ _ _ _ => F9
          rename News _ _ _ _ => N9
          k_dflt (refine kmk_add_ints (vs := vb.toList) (ws := ys4) F9 N9 ⟨_, (N9 (b, _) (by repeat (first | exact List.Mem.head _ | refine List.Mem.tail _ ?_))).1, rfl, _, rfl⟩ ⟨_, (N9 (D4, _) (.head _)).1, rfl, _, rfl⟩ hvb hys4 ?_ ?sz5_b)
          case sz5_b =>
            rw [List.length_map]
            have := high_len ⟨i, by omega⟩
            exact Nat.le_trans (Nat.add_le_add this this) (by decide)
          intro D5 us5 h5 F5 N5 l5 hus5
          clear F9 N9
          w_strict ((try k_unmd); (try k_fold); k_steps)
          rw [e4]
          rename Fr _ _ _ _ => F9
          rename News _ _ _ _ => N9
          have N7 := pickT 2 [0] N9
          change News _ _ _ ((D5, _) :: (I, itR _ _) :: (S, listOf _ _) :: (b, _) :: (a, _) :: (L2 + 1 + 1 + 1 + 1, _) :: (L2 + 1 + 1 + 1, _) :: (L2 + 1 + 1, _) :: (L2 + 1, _) :: (lc, _) :: news) at N7
          have hSD : @LT.lt Nat _ S D5 := l5 (S, listOf #[.ref a, .ref b] kS) (by repeat (first | exact List.Mem.head _ | refine List.Mem.tail _ ?_))
          have hID : @LT.lt Nat _ I D5 := l5 (I, itR _ _) (by repeat (first | exact List.Mem.head _ | refine List.Mem.tail _ ?_))
          k_dflt (refine set_T (vs := [.ref a, .ref b]) F9 N7 (Upd.tail (Nat.ne_of_gt hSD) (Upd.tail (Ne.symm hSI) (Upd.head ?up_b))) (by decide) (show (1 : Int) < ((2 : Nat) : Int) by decide) (by decide) ?_)
          case up_b =>
            intro p hp
            rcases List.mem_cons.mp hp with rfl | hp
            · exact gbS
            rcases List.mem_cons.mp hp with rfl | hp
            · exact gaS
            rcases List.mem_cons.mp hp with rfl | hp
            · exact Nat.ne_of_lt gS
            rcases List.mem_cons.mp hp with rfl | hp
            · exact Nat.ne_of_lt (Nat.lt_trans (Nat.lt_succ_self _) gS)
            rcases List.mem_cons.mp hp with rfl | hp
            · exact Nat.ne_of_lt (Nat.lt_trans (Nat.lt_trans (Nat.lt_succ_self _) (Nat.lt_succ_self _)) gS)
            rcases List.mem_cons.mp hp with rfl | hp
            · exact Nat.ne_of_lt (Nat.lt_of_le_of_lt (Nat.le_add_right (L2 + 1) 3) gS)
            rcases List.mem_cons.mp hp with rfl | hp
            · exact Nat.ne_of_lt (Nat.lt_trans e1.1 (Nat.lt_of_le_of_lt (Nat.le_add_right L2 4) gS))
            · exact Nat.ne_of_lt (Nat.lt_trans (eL p hp) (Nat.lt_of_le_of_lt (Nat.le_add_right L2 4) gS))
          intro h7 F7 N8
          clear F9 N9 N7
          w_strict ((try k_unmd); (try k_fold); k_steps)
          refine UnrEndW.intro F7 N8 ((S, listOf #[.ref a, .ref D5] kS) :: (D5, listOf us5.toArray 0) :: (a, listOf va ka) :: (L2 + 1 + 1 + 1 + 1, ox) :: (L2 + 1 + 1 + 1, o6) :: (L2 + 1 + 1, o3) :: (L2 + 1, os) :: (lc, listOf #[.int c0 t0, .int c1 t1, .int c2 t2, .int c3 t3] kc) :: news) ⟨.tail _ (.head _), trivial⟩ (subL_of ?sb_b) (offW_of ?of_b) ⟨?hm_b, S, a, D5, kS, 0, ka, va, us5.toArray, os, o3, o6, ox, rfl, hos, ⟨_, hd3⟩, ⟨_, hd6⟩, ⟨_, hox⟩, ?i1_b, ?i2_b, gS, ga, Nat.lt_trans gS hSD, gaS, Nat.ne_of_gt hSD⟩
          case sb_b =>
            intro p hp
            rcases List.mem_cons.mp hp with rfl | hp
            · exact .tail _ (.tail _ (.head _))
            rcases List.mem_cons.mp hp with rfl | hp
            · exact .head _
            rcases List.mem_cons.mp hp with rfl | hp
            · exact .tail _ (.tail _ (.tail _ (.tail _ (.head _))))
            · exact .tail _ (.tail _ (.tail _ (.tail _ (.tail _ hp))))
          case of_b =>
            intro p hp
            rcases List.mem_cons.mp hp with rfl | hp
            · exact hSI
            rcases List.mem_cons.mp hp with rfl | hp
            · exact Nat.ne_of_gt hID
            rcases List.mem_cons.mp hp with rfl | hp
            · exact haI
            · exact hoff' _ _ _ _ p hp
          case hm_b =>
            intro z g1
            simp only [upd1, if_neg g1]
          case i1_b => show IntsAre va.toList (if i < 4 then _ else _); rw [if_neg h4]; exact hva
          case i2_b => show IntsAre us5 (if i < 4 then _ else _); rw [if_neg h4]; exact hus5
  case done =>
    rintro m₁ n₁ h tk ⟨hm, S, a, b, kS, kb, ka, va, vb, os, on, ow, ox, rfl, hos, ⟨von, hon⟩, ⟨vow, how⟩, ⟨vox, hox⟩, hva, hvb, gS, ga, gb, gaS, gbS⟩ F N
    clear F9 N9
    rw [agree1 hm] at F
    w_strict ((try k_unmd); (try k_fold); k_steps)
    refine ⟨?_⟩
    rename Fr _ _ _ _ => F9
    rename News _ _ _ _ => N9
    obtain ⟨nl, hnl⟩ := namedL N9
    rw [← hnl] at N9
    k_dflt (refine at_enum rfl F9 N9 (vs := [.int c0 t0, .int c1 t1, .int c2 t2, .int c3 t3]) (n := kc) (by rw [hnl]; repeat (first | exact List.Mem.head _ | refine List.Mem.tail _ ?_)) rfl rfl (show 4 ≤ sizeLine by decide) (frm_pair rfl ?fr3 (by decide) rfl rfl rfl (by decide)) (fun k ys n₁ => n₁ = nl ∧ IntsAre ys ((prodF c0 c1 c2 c3).take k)) ⟨rfl, .nil⟩ ?turn3 ?fin3)
    case fr3 =>
      intro a ha
      simp only [enumItems, List.mem_cons, List.not_mem_nil, or_false] at ha
      rcases ha with rfl | rfl | rfl | rfl <;> exact ⟨_, _, rfl⟩
    case turn3 =>
      rintro I C D hI k a' ha ys n₃ ⟨rfl, hys⟩ hyl hoff v l h tk E' hK F
      obtain ⟨v', hv', ha'⟩ := enum_inv ha
      obtain ⟨f, t, y, oC, m₂, e1', rfl, hC, hx, hy⟩ := hK
      rw [ha'] at e1'
      injection e1' with e1' e2'
      subst e1' e2'
      obtain ⟨c, tc, rfl, hcb, hk4, hpk⟩ := prod_at h0 h1 h2 h3 hv'
      clear F9 N9
      refine AllObj.cons (fun o1 hc1 => AllObj.cons (fun o2 hc2 => AllObj.nil (fun N => ?_)))
      rw [hnl] at N
      dsimp only [testsJ]
      simp only [List.cons_append, List.nil_append] at N ⊢
      rw [if_pos trivial]
      w_strict ((try k_unmd); (try k_fold); k_steps)
      rename Fr _ _ _ _ => F8
      rename News _ _ _ _ => N8
      refine CEndJ.same (news' := n₃) F8 (by rw [hnl]; exact N8) hoff ⟨⟨by rw [hnl]; repeat (first | exact List.Mem.head _ | refine List.Mem.tail _ ?_), trivial⟩, rfl, ?_⟩
      rw [List.take_add_one, hpk]
      exact intsAre_append hys (.cons _ _ .nil)
    case fin3 =>
      rintro ys n₃ ⟨rfl, hys⟩ - D h tk F N off
      clear F9 N9
      rw [hnl] at N
      w_strict ((try k_unmd); (try k_fold); k_steps)
      refine ⟨?_⟩
      rename Fr _ _ _ _ => F9
      rename News _ _ _ _ => N9
      k_dflt (refine sumK rfl F9 N9 ⟨_, (N9 _ (.head _)).1, rfl, _, rfl⟩ hys ?_)
      intro hh1 tk1 tt1 F1 N1
      clear F9 N9
      have N2 := pickT 1 [] N1
      clear N1
      change News _ _ _ ((S, _) :: (b, _) :: (a, _) :: (L2 + 1 + 1 + 1 + 1, _) :: (L2 + 1 + 1 + 1, _) :: (L2 + 1 + 1, _) :: (L2 + 1, _) :: (lc, _) :: news) at N2
      w_strict ((try k_unmd); (try k_fold); k_steps)
      have hcw := N2 (L2 + 1 + 1 + 1 + 1, ox) (by repeat (first | exact List.Mem.head _ | refine List.Mem.tail _ ?_))
      refine wpAny_storeName_cell (c := L2 + 1 + 1 + 1 + 1) (by rfl) (by rfl) (by rfl) ⟨ox, hcw.1, hox⟩ fun h6 hc6 hs6 => ?_
      obtain ⟨o6, ho6, hd6⟩ := hc6
      have N6 := news_cell [(S, _), (b, _), (a, _)] (o := ox) N2 hs6 ho6 ?hpre6 ?hpost6
      case hpre6 =>
        intro p hp
        simp only [List.mem_cons, List.not_mem_nil, or_false] at hp
        rcases hp with rfl | rfl | rfl <;> (show @Ne Nat _ _) <;> (dsimp only) <;> omega
      case hpost6 =>
        intro p hp
        rcases List.mem_cons.mp hp with rfl | hp
        · show @Ne Nat _ _
          dsimp only
          omega
        rcases List.mem_cons.mp hp with rfl | hp
        · show @Ne Nat _ _
          dsimp only
          omega
        rcases List.mem_cons.mp hp with rfl | hp
        · show @Ne Nat _ _
          dsimp only
          omega
        rcases List.mem_cons.mp hp with rfl | hp
        · exact Nat.ne_of_lt (Nat.lt_of_lt_of_le e1.1 (Nat.le_add_right L2 4))
        · exact Nat.ne_of_lt (Nat.lt_of_lt_of_le (eL p hp) (Nat.le_add_right L2 4))
      have F6 := F1.change hs6 hcw.2.1 hcw.2.2
      simp only [List.cons_append, List.nil_append] at N6
      clear F1 N2 hcw
      generalize hW : (List.take ([.int c0 t0, .int c1 t1, .int c2 t2, .int c3 t3] : List Value).length (prodF c0 c1 c2 c3)).sum = W at hd6
      have hW' : W = c0 + c1 * 16 + c2 * 256 + c3 * 4096 := by
        rw [← hW]
        show (prodF c0 c1 c2 c3).sum = _
        simp only [prodF, List.sum_cons, List.sum_nil]
        omega
      w_strict ((try k_unmd); (try k_fold); k_steps)
      refine ⟨?_⟩
      rename Fr _ _ _ _ => F9
      rename News _ _ _ _ => N9
      obtain ⟨nl3, hnl3⟩ := namedL N9
      rw [← hnl3] at N9
      k_dflt (refine src_enum (vs := vb.toList) (n := kb) (lo := listOf vb kb) rfl F9 N9 (by rw [hnl3]; repeat (first | exact List.Mem.head _ | refine List.Mem.tail _ ?_)) rfl rfl ?_)
      intro I0 fp wr P Md St h9 SJ F3 N3 lt3 hk3
      clear F9 N9
      k_dflt (refine ⟨I0 + 1, _, _, _, fp, wr, P, Md, St, nl3, _, (fun i ys => IntsAre ys (famOut W (lowF 8) 0 ((highF 8).take i))), _, _, _, _, rfl, SJ _ _ _, ⟨_, _, rfl⟩, F3, N3, ?nw, ⟨?mem, trivial⟩, ?j0, ?jl, frm_pair rfl ?fr (by decide) rfl rfl rfl (by decide), ?turnO, ?hf, ?fin⟩)
      case nw =>
        intro p hp hI
        have := lt3 p hp
        have hb' : p.1 = I0 + 1 ∨ p.1 = I0 := by simpa using hI
        rcases hb' with e | e
        · rw [e] at this
          exact absurd this (Nat.not_lt_of_le (Nat.le_succ I0))
        · rw [e] at this
          exact Nat.lt_irrefl _ this
      case mem => rw [hnl3]; repeat (first | exact List.Mem.head _ | refine List.Mem.tail _ ?_)
      case j0 => exact .nil
      case jl =>
        intro i ys hJ
        rw [intsAre_length hJ]
        have e1 := famOut_len (w := W) (lows := lowF 8) (rs := (highF 8).take i) (h := 0)
        have e2 := low_len 8
        have e3 := high_len 8
        have e4 : ((highF 8).take i).length ≤ 16 := Nat.le_trans (by rw [List.length_take]; exact Nat.min_le_right _ _) e3
        exact Nat.le_trans e1 (Nat.le_trans (Nat.mul_le_mul e4 e2) (by decide))
      case fr =>
        intro a ha
        obtain ⟨k, hk⟩ := List.getElem_of_mem ha
        obtain ⟨hk, e⟩ := hk
        obtain ⟨v', _, e2⟩ := enum_inv (List.getElem?_eq_some_iff.mpr ⟨hk, e⟩)
        exact ⟨_, _, e2⟩
      case hf => intro C x; rfl
      case turnO =>
        intro C D i a' ha ys hJ v l h tk E' hK hlca F
        obtain ⟨v', hv', ha'⟩ := enum_inv ha
        obtain ⟨f, t, y, oC, m₂, e1', rfl, hC, hx, hy⟩ := hK
        rw [ha'] at e1'
        injection e1' with e1' e2'
        subst e1' e2'
        obtain ⟨r, tr, rfl, hr⟩ := intsAre_at hvb hv'
        refine AllObj.cons (fun o1 hc1 => AllObj.cons (fun o2 hc2 => AllObj.nil (fun N => ?_)))
        rw [hnl3] at N
        dsimp only [testsJ]
        simp only [List.cons_append, List.nil_append] at N ⊢
        w_strict ((try k_unmd); (try k_fold); k_steps)
        · rename r ≤ W => hle
          refine ⟨?_⟩
          rename Fr _ _ _ _ => F9
          rename News _ _ _ _ => N9
          have N9' := relist N9 (l' := [(I0 + 1, o1), (I0, o2)] ++ ([(C, oC)] ++ (D, LCg.lst ys) :: nl3)) (by rw [hnl3]; rfl)
          k_dflt (refine src_enum (vs := va.toList) (n := ka) (lo := listOf va ka) rfl F9 N9' (by rw [hnl3]; repeat (first | exact List.Mem.head _ | refine List.Mem.tail _ ?_)) rfl rfl ?_)
          intro I1 fp2 wr2 P2 Md2 St2 h10 SJ2 F10 N10 lt10 hk10
          clear F9 N9
          have hCg := (N10 (C, oC) (.tail _ (.tail _ (.head _)))).1
          k_dflt (refine ⟨I1 + 1, _, _, _, fp2, wr2, P2, Md2, St2, Inv3 (Str.ofString "high") (Str.ofString "rest") (.int (i : Int) t) (.int r tr) C, K3 (Str.ofString "high") (Str.ofString "rest") (Str.ofString "low") (Str.ofString "other") (.int (i : Int) t) (.int r tr) C, (fun j ys' => IntsAre ys' (famOut W (lowF 8) 0 ((highF 8).take i) ++ famIn W (i : Int) r 0 ((lowF 8).take j))), rfl, SJ2 _ _ _, ⟨_, _, rfl⟩, F10, N10, ?nw2, ⟨?mem2, trivial⟩, ?len2, frm_inner rfl rfl ?fr2 (by rfl) rfl rfl (by decide) (by decide) (by decide) (by decide) (by decide), ?inv0, ?invi, ?j20, ?j2f, ?turnI⟩)
          case nw2 =>
            intro p hp hI
            have := lt10 p hp
            have hb' : p.1 = I1 + 1 ∨ p.1 = I1 := by simpa using hI
            rcases hb' with e | e
            · rw [e] at this
              exact absurd this (Nat.not_lt_of_le (Nat.le_succ I1))
            · rw [e] at this
              exact Nat.lt_irrefl _ this
          case mem2 => rw [hnl3]; repeat (first | exact List.Mem.head _ | refine List.Mem.tail _ ?_)
          case len2 =>
            rw [enumItems_length, intsAre_length hva]
            exact Nat.le_trans (low_len 8) (by decide)
          case fr2 =>
            intro a ha
            obtain ⟨k, hk⟩ := List.getElem_of_mem ha
            obtain ⟨hk, e⟩ := hk
            obtain ⟨v', _, e2⟩ := enum_inv (List.getElem?_eq_some_iff.mpr ⟨hk, e⟩)
            exact ⟨_, _, e2⟩
          case inv0 =>
            obtain ⟨es, ep, q1, q2, q3⟩ := hC
            exact ⟨m₂, ⟨oC, es, ep, hCg, q1, q2, q3⟩, hx, hy⟩
          case invi => exact fun h ⟨m', hn, _⟩ => ⟨m', hn⟩
          case j20 =>
            show IntsAre ys (_ ++ [])
            rw [List.append_nil]
            exact hJ
          case j2f =>
            intro ys' hJ2
            rw [enumItems_length, intsAre_length hva, List.take_length] at hJ2
            rw [famOut_take hr, if_pos hle]
            exact hJ2
          case turnI =>
            rintro j a2 ha2 ys' n' ⟨rfl, hJ2⟩ hyl2 hoff2 v2 l2 h11 tk11 E11 hK2 F11
            clear hC hx hy N9' N10 F10
            obtain ⟨v4, hv4, ha4⟩ := enum_inv ha2
            obtain ⟨f4, t4, u4, oC2, m4, e4, rfl, hC2, c5, c6, c7, c8⟩ := hK2
            rw [ha4] at e4
            injection e4 with e4 e5
            subst e4 e5
            obtain ⟨ov, to, rfl, hor⟩ := intsAre_at hva hv4
            refine AllObj.cons (fun o3 hc3 => AllObj.cons (fun o4 hc4 => AllObj.nil (fun N => ?_)))
            rw [hnl3] at N
            dsimp only [testsJ]
            simp only [List.cons_append, List.nil_append] at N ⊢
            w_strict ((try k_unmd); (try k_fold); k_steps)
            · rename r + ov = W => hb
              rename Fr _ _ _ _ => F8
              rename News _ _ _ _ => N8
              refine CEndJ.same (news' := [(I0 + 1, o1), (I0, o2)] ++ nl3) F8 ?nI hoff2 ⟨⟨?mI, trivial⟩, rfl, ?_⟩
              case nI => exact cb_drop N8 (by
                intro p hp
                rw [hnl3] at hp
                simp only [List.mem_append, List.mem_cons, List.not_mem_nil, or_false, List.cons_append, List.nil_append] at hp ⊢
                first | exact hp | (rcases hp with hp | hp <;> simp_all))
              case mI => rw [hnl3]; repeat (first | exact List.Mem.head _ | refine List.Mem.tail _ ?_)
              rw [famIn_take hor, if_pos hb, ← List.append_assoc]
              exact intsAre_append hJ2 (.cons _ _ .nil)
            · rename ¬ r + ov = W => hb
              rename Fr _ _ _ _ => F8
              rename News _ _ _ _ => N8
              refine CEndJ.same (news' := [(I0 + 1, o1), (I0, o2)] ++ nl3) F8 ?nI2 hoff2 ⟨⟨?mI2, trivial⟩, rfl, ?_⟩
              case nI2 => exact cb_drop N8 (by
                intro p hp
                rw [hnl3] at hp
                simp only [List.mem_append, List.mem_cons, List.not_mem_nil, or_false, List.cons_append, List.nil_append] at hp ⊢
                first | exact hp | (rcases hp with hp | hp <;> simp_all))
              case mI2 => rw [hnl3]; repeat (first | exact List.Mem.head _ | refine List.Mem.tail _ ?_)
              rw [famIn_take hor, if_neg hb, List.append_nil]
              exact hJ2
        · rename ¬ r ≤ W => hle
          rename Fr _ _ _ _ => F8
          rename News _ _ _ _ => N8
          refine CEndJ.same (news' := nl3) F8 (by rw [hnl3]; exact N8) (fun _ _ => trivial) ⟨rfl, ?_⟩
          rw [famOut_take hr, if_neg hle, List.append_nil]
          exact hJ
      case fin =>
        intro ys hJ D h tk F N off
        rw [hnl3] at N
        rw [enumItems_length, intsAre_length hvb, List.take_length] at hJ
        w_strict ((try k_unmd); (try k_fold); k_steps)
        rename Fr h₀ _ _ _ => F8
        rename News h₀ _ _ _ => N8
        exact hret D ys ys.length _ _ (by rw [← hW']; exact hJ) F8 (pickT 8 [0] N8)
end
end
section
open PySem PySem.W PyProof.Rows PySem.Spec PySem.Calls
local macro_rules | `(tactic| walk_at "getMethod ref") => `(tactic| (k_here; (with_reducible show wpAny _ _ (getMethod (Value.ref _) (Str.ofString "search") _) _ _ _); k_dflt (refine' meth_pat ?k1 ?k2 ?k3 ?_; (case k1 => k_asm); (case k2 => k_asm); (case k3 => k_is); k_whole)))
local macro_rules | `(tactic| walk_at "call builtin:re.Pattern.search") => `(tactic| (k_here; k_dflt (refine' search_K ?k1 ?k2 ?k3 ?k4 ?k5 ?k6 ?k7 ?_; (case k1 => k_asm); (case k2 => k_asm); (case k3 => k_is); (case k4 => k_is); (case k5 => first | exact Or.inl (by decide +kernel) | exact Or.inr (by decide +kernel)); (case k6 => assumption); (case k7 => assumption); k_whole)))
local macro_rules | `(tactic| k_room) => `(tactic| ktr_room)
local macro_rules | `(tactic| k_units) => `(tactic| ktr_units)
local macro_rules | `(tactic| k_mem) => `(tactic| assumption)
local macro_rules | `(tactic| walk_at "call ref") => `(tactic| (k_here; (with_reducible show wpAny _ _ (call (Value.ref 120) _ _) _ _ _); k_dflt (refine' conv_k ?k1 ?k2 ?k3 ?k4 ?k5 ?k6 ?k7 ?k8 ?k9 ?_; (case k1 => assumption); (case k2 => assumption); (case k3 => k_asm); (case k4 => k_asm); (case k5 => k_asm); (case k6 => k_asm); (case k7 => k_asm); (case k8 => ktr_room); (case k9 => ktr_units); k_whole); intro h' tk' F' N'; (try dsimp only); (try k_sweep)))
section
open PySem PySem.W PyProof.Rows PySem.Spec PySem.Calls
section
variable {w : World} {mean : ExcName → Option Value} {mg mb : Str → Option Value} {dp un : Nat} {gd : Option (List Code)} {cn : Str} {nms : List (Str × NameKind)} {ig ic : Bool} {mr : List (Str × Const)} {a : Addr} {ccd : Value} {cl : List (Str × Addr)} {outer : List Env} {A₀ : Around} {base h₀ : Heap} {L : Addr} {m : Str → Option Value} {s : Shared} {Q E : Value → Shared → Prop} {news : List (Addr × Obj)}
theorem hint_k {x dx l : Addr} {hsh : Int} {kk : Tok} {its : Array Value} {n : Nat} (hz : its.size ≤ 1000)
    (hx : (x, instObj 219 dx) ∈ news) (hdx : (dx, hdrDict hsh kk l) ∈ news) (hlm : (l, listOf its n) ∈ news)
    (B : Below A₀ base outer h₀) (F : Fr h₀ L s.heap m) (X : (hk.heap_1 w.params).In h₀) (N : News h₀ L s.heap news) (T : Top vw61 LL mean mg mb h₀) (hd : dp + 3 < recursionLimit) (hu : un + 30 < cLine)
    (hret : ∀ t h' tk', Fr h₀ L h' m → News h₀ L h' news → Q (.int (its.size : Nat) t) { s with heap := h', toks := tk' }) :
    wpAny (model prog w) (ktrTop dp un gd cn ⟨.function, nms, ig, ic, mr⟩ L a ccd cl outer) (call (.ref 67) [.ref x]) Q E s := by
  w_strict (refine wpAny_call ?_; k_dflt k_enter; k_steps)
  rename News _ _ _ _ => N9
  refine len_list (News.isList N9 hlm) (Int.lt_of_le_of_lt (Int.ofNat_le.mpr hz) (by decide)) ?_
  w_strict ((try k_unmd); (try k_fold); k_steps)
  rename Fr h₀ _ _ _ => F8
  rename News h₀ _ _ _ => N8
  exact hret _ _ _ F8 N8
end
end
section
open PySem PySem.W PyProof.Rows PySem.Spec PySem.Calls
local macro_rules | `(tactic| walk_at "binaryOp Add ref ref") => `(tactic| (k_here; (with_reducible show wpAny _ _ (binaryOp _ (Value.ref _) (Value.ref _)) _ _ _); refine Stop.intro' ?_))
section
variable {w : World} {mean : ExcName → Option Value} {mg mb : Str → Option Value} {dp un : Nat} {gd : Option (List Code)} {cn : Str} {nms : List (Str × NameKind)} {ig ic : Bool} {mr : List (Str × Const)} {a : Addr} {ccd : Value} {cl : List (Str × Addr)} {outer : List Env} {A₀ : Around} {base h₀ : Heap} {L : Addr} {m : Str → Option Value} {s : Shared} {Q E : Value → Shared → Prop} {news : List (Addr × Obj)}
theorem law_s0 {o1 o2 o3 o4 o5 o6 : Obj} {v1 : Option Value} {Qf : Flow → Shared → Prop} (h1 : o1.data = .cell v1)
    (B : Below A₀ base outer h₀) (F : Fr h₀ L s.heap m) (X : (hk.heap_1 w.params).In h₀) (N : News h₀ L s.heap ((L + 1, o1) :: [(L + 1 + 1 + 1 + 1 + 1 + 1, o6), (L + 1 + 1 + 1 + 1 + 1, o5), (L + 1 + 1 + 1 + 1, o4), (L + 1 + 1 + 1, o3), (L + 1 + 1, o2)])) (T : Top vw61 LL mean mg mb h₀) (hd : dp + 20 < recursionLimit) (hu : un + 200 < cLine)
    (hret : ∀ D o1' vs k h' tk', o1'.data = .cell (some (.ref D)) → StrsP (tkR s.toks tk') vs words8 → s.toks ≤ tk' → Fr h₀ L h' m → News h₀ L h' ((L + 1, o1') :: (D, listOf vs.toArray k) :: [(L + 1 + 1 + 1 + 1 + 1 + 1, o6), (L + 1 + 1 + 1 + 1 + 1, o5), (L + 1 + 1 + 1 + 1, o4), (L + 1 + 1 + 1, o3), (L + 1 + 1, o2)]) → @LT.lt Nat _ (L + 1 + 1 + 1 + 1 + 1 + 1) D → Qf .next { s with heap := h', toks := tk' }) :
    wpAny (model prog w) (ktrTop dp un gd (Str.ofString "law") lawScope L a ccd (cellsFrom (L + 1) lawScope.names []) outer) (exec (lawBody.getD 0 default) (envOfC (Str.ofString "law") lawScope L a ccd)) Qf E s := by
  have hst : lawBody.getD 0 default = Stmt.Assign _ _ _ := rfl
  have hsc : lawScope = Scope.mk _ _ _ _ _ := rfl
  rw [hst, hsc]
  clear hst hsc
  w_strict ((try k_unmd); (try k_fold); k_steps)
  rename Fr _ _ _ _ => F9
  rename News _ _ _ _ => N9
  rename L + 1 < _ ∧ L + 1 + 1 + 1 + 1 + 1 + 1 < _ ∧ _ => q1
  rename Obj.data _ = Data.cell (some (.ref _)) => hd1
  have N10 := pickT 2 [1, 0] N9
  refine hret _ _ _ _ _ _ hd1 ?tt ?tl F9 N10 q1.2.1
  case tl => show @LE.le Nat _ _ _; (try dsimp only); omega
  case tt => exact (.cons _ _ ⟨tk_a (by (try dsimp only); omega), tk_b (by (try dsimp only); omega)⟩ (.cons _ _ ⟨tk_a (by (try dsimp only); omega), tk_b (by (try dsimp only); omega)⟩ (.cons _ _ ⟨tk_a (by (try dsimp only); omega), tk_b (by (try dsimp only); omega)⟩ (.cons _ _ ⟨tk_a (by (try dsimp only); omega), tk_b (by (try dsimp only); omega)⟩ (.cons _ _ ⟨tk_a (by (try dsimp only); omega), tk_b (by (try dsimp only); omega)⟩ (.cons _ _ ⟨tk_a (by (try dsimp only); omega), tk_b (by (try dsimp only); omega)⟩ (.cons _ _ ⟨tk_a (by (try dsimp only); omega), tk_b (by (try dsimp only); omega)⟩ (.cons _ _ ⟨tk_a (by (try dsimp only); omega), tk_b (by (try dsimp only); omega)⟩ .nil))))))))
end
end
section
local macro_rules | `(tactic| walk_at "no such step") => `(tactic| fail)
open PySem PySem.W PyProof.Rows PySem.Spec PySem.Calls
local macro_rules | `(tactic| walk_at "binaryOp Add ref ref") => `(tactic| (k_here; (with_reducible show wpAny _ _ (binaryOp _ (Value.ref _) (Value.ref _)) _ _ _); refine Stop.intro' ?_))
section
variable {w : World} {mean : ExcName → Option Value} {mg mb : Str → Option Value} {dp un : Nat} {gd : Option (List Code)} {cn : Str} {nms : List (Str × NameKind)} {ig ic : Bool} {mr : List (Str × Const)} {a : Addr} {ccd : Value} {cl : List (Str × Addr)} {outer : List Env} {A₀ : Around} {base h₀ : Heap} {L : Addr} {m : Str → Option Value} {s : Shared} {Q E : Value → Shared → Prop} {news : List (Addr × Obj)}
theorem law_s1 {lo : Nat} {D : Addr} {vs : List Value} {k : Nat} {o1 o2 o3 o4 o5 o6 : Obj} {Qf : Flow → Shared → Prop} (h1 : o1.data = .cell (some (.ref D))) (hv : StrsP (tkR lo s.toks) vs words8) (hDL : @LT.lt Nat _ (L + 1 + 1 + 1 + 1 + 1 + 1) D) (hlo : lo ≤ s.toks)
    (B : Below A₀ base outer h₀) (F : Fr h₀ L s.heap m) (X : (hk.heap_1 w.params).In h₀) (N : News h₀ L s.heap ((L + 1, o1) :: (D, listOf vs.toArray k) :: [(L + 1 + 1 + 1 + 1 + 1 + 1, o6), (L + 1 + 1 + 1 + 1 + 1, o5), (L + 1 + 1 + 1 + 1, o4), (L + 1 + 1 + 1, o3), (L + 1 + 1, o2)])) (T : Top vw61 LL mean mg mb h₀) (hd : dp + 20 < recursionLimit) (hu : un + 200 < cLine)
    (hret : ∀ D o1' vs k h' tk', o1'.data = .cell (some (.ref D)) → StrsP (tkR lo tk') vs wordsL → s.toks ≤ tk' → Fr h₀ L h' m → News h₀ L h' ((L + 1, o1') :: (D, listOf vs.toArray k) :: [(L + 1 + 1 + 1 + 1 + 1 + 1, o6), (L + 1 + 1 + 1 + 1 + 1, o5), (L + 1 + 1 + 1 + 1, o4), (L + 1 + 1 + 1, o3), (L + 1 + 1, o2)]) → @LT.lt Nat _ (L + 1 + 1 + 1 + 1 + 1 + 1) D → Qf .next { s with heap := h', toks := tk' }) :
    wpAny (model prog w) (ktrTop dp un gd (Str.ofString "law") lawScope L a ccd (cellsFrom (L + 1) lawScope.names []) outer) (exec (lawBody.getD 1 default) (envOfC (Str.ofString "law") lawScope L a ccd)) Qf E s := by
  have hst : lawBody.getD 1 default = Stmt.Assign _ _ _ := rfl
  have hsc : lawScope = Scope.mk _ _ _ _ _ := rfl
  rw [hst, hsc]
  clear hst hsc
  w_strict ((try k_unmd); (try k_fold); k_steps)
  refine ⟨?_⟩
  rename Fr _ _ _ _ => F9
  rename News _ _ _ _ => N9
  k_dflt (refine kmk_add_lit (zs := vs ++ [.str (Str.ofString "ITERABLE_COROUTINE") _, .str (Str.ofString "ASYNC_GENERATOR") _, .str (Str.ofString "0x400") _, .str (Str.ofString "0x800") _]) F9 N9 ⟨_, (N9 (D, _) (by repeat (first | exact List.Mem.head _ | refine List.Mem.tail _ ?_))).1, rfl, _, rfl⟩ ⟨_, (N9 _ (.head _)).1, rfl, _, rfl⟩ rfl ?_ ?sz)
  case sz =>
    refine Nat.le_trans (m := 12) ?_ (by decide)
    have := hv.length
    show vs.length + 4 ≤ 12
    rw [this]
    decide
  intro D2 h2 F2 N2 l2
  clear F9 N9
  have q2 : @LT.lt Nat _ D D2 := l2 (D, _) (by repeat (first | exact List.Mem.head _ | refine List.Mem.tail _ ?_))
  w_strict ((try k_unmd); (try k_fold); k_steps)
  rename Fr _ _ _ _ => F9
  rename News _ _ _ _ => N9
  rename Obj.data _ = Data.cell (some (.ref _)) => hd1
  have N10 := pickT 4 [2, 0] N9
  refine hret _ _ _ _ _ _ hd1 ?tt ?tl F9 N10 (Nat.lt_trans hDL q2)
  case tl => show @LE.le Nat _ _ _; (try dsimp only); omega
  case tt =>
    refine StrsP.append (hv.mono fun t p => p.mono (Nat.le_refl _) (tk_a (by (try dsimp only); omega))) ?_
    exact (.cons _ _ ⟨tk_a (by (try dsimp only); omega), tk_b (by (try dsimp only); omega)⟩ (.cons _ _ ⟨tk_a (by (try dsimp only); omega), tk_b (by (try dsimp only); omega)⟩ (.cons _ _ ⟨tk_a (by (try dsimp only); omega), tk_b (by (try dsimp only); omega)⟩ (.cons _ _ ⟨tk_a (by (try dsimp only); omega), tk_b (by (try dsimp only); omega)⟩ .nil))))
end
end
section
open PySem PySem.W PyProof.Rows PySem.Spec PySem.Calls
local macro_rules | `(tactic| walk_at "subscriptTail List") => `(tactic| (k_here; (with_reducible show wpAny _ _ (subscriptTail (PySem.Expr.List _ _) _ (Value.ref _) (Value.ref _)) _ _ _); refine Stop.intro' ?_))
section
variable {w : World} {mean : ExcName → Option Value} {mg mb : Str → Option Value} {dp un : Nat} {gd : Option (List Code)} {cn : Str} {nms : List (Str × NameKind)} {ig ic : Bool} {mr : List (Str × Const)} {a : Addr} {ccd : Value} {cl : List (Str × Addr)} {outer : List Env} {A₀ : Around} {base h₀ : Heap} {L : Addr} {m : Str → Option Value} {s : Shared} {Q E : Value → Shared → Prop} {news : List (Addr × Obj)}
theorem law_s2 {D sc : Addr} {vs ss : List Value} {ns : List Int} {k : Nat} {o1 o2 o3 o4 o5 o6 : Obj} {v2 : Option Value} {m₀ : Str → Option Value} {Qf : Flow → Shared → Prop} (h2 : o2.data = .cell v2) (hDL : @LT.lt Nat _ (L + 1 + 1 + 1 + 1 + 1 + 1) D)
    (hlen : ns.length ≤ 63) (hi : IntsAre ss ns) (hls : h₀.IsList sc ss.toArray)
    (B : Below A₀ base outer h₀) (F : Fr h₀ L s.heap (fun z => if z = Str.ofString "script" then some (.ref sc) else m₀ z)) (X : (hk.heap_1 w.params).In h₀) (N : News h₀ L s.heap ((L + 1 + 1, o2) :: (D, listOf vs.toArray k) :: [(L + 1 + 1 + 1 + 1 + 1 + 1, o6), (L + 1 + 1 + 1 + 1 + 1, o5), (L + 1 + 1 + 1 + 1, o4), (L + 1 + 1 + 1, o3), (L + 1, o1)])) (T : Top vw61 LL mean mg mb h₀) (hd : dp + 20 < recursionLimit) (hu : un + 200 < cLine)
    (hret : ∀ D2 o2' ws k2 h' tk', o2'.data = .cell (some (.ref D2)) → IntsAre ws (drawnL ns) → Fr h₀ L h' (fun z => if z = Str.ofString "script" then some (.ref sc) else m₀ z) → News h₀ L h' ((L + 1 + 1, o2') :: (D2, listOf ws.toArray k2) :: (D, listOf vs.toArray k) :: [(L + 1 + 1 + 1 + 1 + 1 + 1, o6), (L + 1 + 1 + 1 + 1 + 1, o5), (L + 1 + 1 + 1 + 1, o4), (L + 1 + 1 + 1, o3), (L + 1, o1)]) → @LT.lt Nat _ D D2 → Qf .next { s with heap := h', toks := tk' }) :
    wpAny (model prog w) (ktrTop dp un gd (Str.ofString "law") lawScope L a ccd (cellsFrom (L + 1) lawScope.names []) outer) (exec (lawBody.getD 2 default) (envOfC (Str.ofString "law") lawScope L a ccd)) Qf E s := by
  have hst : lawBody.getD 2 default = Stmt.Assign _ _ _ := rfl
  have hsc : lawScope = Scope.mk _ _ _ _ _ := rfl
  rw [hst, hsc]
  clear hst hsc
  have hls2 : s.heap.IsList sc ss.toArray := hls.at fun o e => F.keep _ o e
  w_strict ((try k_unmd); (try k_fold); k_steps)
  refine ⟨?_⟩
  rename Fr _ _ _ _ => F9
  rename News _ _ _ _ => N9
  have hlit : ∀ t0 t1 t2 t3 t4 t5, IntsAre [.int 3 t0, .int 1 t1, .int (-2) t2, .int 2 t3, .int 0 t4, .int 27 t5] [3, 1, -2, 2, 0, 27] := fun t0 t1 t2 t3 t4 t5 => .cons _ _ (.cons _ _ (.cons _ _ (.cons _ _ (.cons _ _ (.cons _ _ .nil)))))
  refine kba_turn (value' := PySem.Expr.Name (PySem.Str.ofString "_") ⟨0, 0, 0, 0⟩) (fun _ => rfl) ?_
  have hx : (0 : Int) ≤ (ns.length : Nat) := Int.natCast_nonneg _
  k_dflt (refine' kmk_slice_ints (lo := some ((ns.length : Nat) : Int)) (hi := none) F9 N9 ⟨_, (N9 _ (.head _)).1, rfl, _, rfl⟩ ?pp9 ?qq9 (hlit _ _ _ _ _ _) (kmk_from (hlit _ _ _ _ _ _) hx) rfl ?_ ?s9 ?t9 ?z9)
  case pp9 => kmk_part
  case qq9 => kmk_part
  case s9 => with_unfolding_all rfl
  case t9 => kmk_pure
  case z9 => show 6 ≤ sizeLine; decide
  intro D4 ws4 h4 F4 N4 l4 hw4 _ _
  clear F9 N9
  rename Fr _ _ _ _ => F9
  rename News _ _ _ _ => N9
  rename IntsAre _ (List.take 6 ns) => hi1
  rename L + 1 + 1 < _ ∧ D < _ ∧ _ => q1
  have q2 : @LT.lt Nat _ D D4 := l4 (D, _) (by repeat (first | exact List.Mem.head _ | refine List.Mem.tail _ ?_))
  have q4 : @LT.lt Nat _ (L + 1 + 1) D4 := Nat.lt_trans (Nat.lt_of_le_of_lt (Nat.le_add_right (L + 2) 4) hDL) q2
  k_dflt (refine kmk_add_ints F9 N9 ⟨_, (N9 _ (.tail _ (.tail _ (.head _)))).1, rfl, _, rfl⟩ ⟨_, (N9 _ (.head _)).1, rfl, _, rfl⟩ hi1 hw4 ?_ ?sz9)
  case sz9 =>
    rw [List.length_take, List.length_drop]
    refine Nat.le_trans (m := 12) ?_ (by decide)
    simp only [List.length_cons, List.length_nil]
    omega
  intro D5 us5 h5 F5 N5 l5 hus5
  clear F9 N9
  have q3 : @LT.lt Nat _ D D5 := l5 (D, _) (by repeat (first | exact List.Mem.head _ | refine List.Mem.tail _ ?_))
  have hcw := N5 (L + 1 + 1, o2) (by repeat (first | exact List.Mem.head _ | refine List.Mem.tail _ ?_))
  have N6 := pickT 5 [0] N5
  refine wpAny_storeName_cell (c := L + 1 + 1) (by rfl) (by rfl) (by rfl) ⟨o2, hcw.1, h2⟩ fun h6 hc6 hs6 => ?_
  obtain ⟨o7, ho7, hd7⟩ := hc6
  have N7 := cellput N6 hs6 ho7 hcw.2 ?hne
  case hne =>
    intro p hp
    change p ∈ [_, _, _, _, _, _, _] at hp
    simp only [List.mem_cons, List.not_mem_nil, or_false] at hp
    rcases hp with rfl | rfl | rfl | rfl | rfl | rfl | rfl
    · exact Nat.ne_of_gt (Nat.lt_trans (Nat.lt_of_le_of_lt (Nat.le_add_right (L + 2) 4) hDL) q3)
    · exact Nat.ne_of_gt (Nat.lt_of_le_of_lt (Nat.le_add_right (L + 2) 4) hDL)
    all_goals ((show @Ne Nat _ _); (dsimp only); omega)
  rw [Int.toNat_natCast] at hus5
  exact hret D5 o7 us5 0 h6 _ hd7 hus5 (F5.change hs6 hcw.2.1 hcw.2.2) N7 q3
end
end
section
open PySem PySem.W PyProof.Rows PySem.Spec PySem.Calls
theorem is_str_T {M : Model} {A : Around} {E : Value → Shared → Prop} {s : Shared} {y z : Str} {u v : Tok} {Q : Value → Shared → Prop} (hu : u ≠ 0) (hv : v ≠ 0) (huv : u ≠ v) (hb : NoneBooked s.heap) (h : ∀ b, (b = true → y = z) → Q (.bool b) s) :
    wpAny M A (compareOp .Is (.str y u) (.str z v)) Q E s := by
  have h0 : (u == 0 || v == 0) = false := by simp [hu, hv]
  show wpAny M A (isSame (.str y u) (.str z v) >>= fun b => pure (.bool b)) Q E s
  refine wpAny_bind ?_
  by_cases e : y = z
  · exact wpAny_isSame_str h0 hb fun b => wpAny_pure (h b fun _ => e)
  · exact wpAny_of_eq (isSame_str_other y z u v h0 (by simpa using huv) (by simpa using e)) (wpAny_pure (h false fun q => by cases q))
theorem strKeys_of {es : Array DictEntry} (h : (es.toList.all fun e => match e.key with | .str _ _ => true | _ => false) = true) : StrKeys es := fun e he => by
  have := List.all_eq_true.mp h e (Array.mem_toList_iff.mpr he)
  split at this
  · rename_i y t q
    exact ⟨y, t, q⟩
  · cases this
theorem none_booked {P : Params} {h : Heap} (X : (hk.heap_1 P).In h) : NoneBooked h := by
  have e := X 2 _ rfl
  exact ⟨_, ⟨_, _, _, e, rfl, strKeys_of (by kernel_rfl), fun _ => rfl⟩, by kernel_rfl⟩
theorem NoneBooked.keep {h h' : Heap} (b : NoneBooked h) (k : ∀ a o, h.get? a = some o → h'.get? a = some o) : NoneBooked h' := by
  obtain ⟨mc, ⟨o, es, ep, e1, r⟩, q⟩ := b
  exact ⟨mc, ⟨o, es, ep, k _ _ e1, r⟩, q⟩
noncomputable def countS (ks : List Str) (b : Str) : Nat := (ks.filter fun k => decide (k = b)).length
theorem countS_on {ks : List Str} {b y : Str} {i : Nat} (h : ks[i]? = some y) (e : y = b) : countS (ks.take (i + 1)) b = countS (ks.take i) b + 1 := by
  unfold countS
  rw [List.take_add_one, h, List.filter_append, List.length_append]
  simp [e]
theorem countS_off {ks : List Str} {b y : Str} {i : Nat} (h : ks[i]? = some y) (e : ¬ y = b) : countS (ks.take (i + 1)) b = countS (ks.take i) b := by
  unfold countS
  rw [List.take_add_one, h, List.filter_append, List.length_append]
  simp [e]
section
variable {w : World} {mean : ExcName → Option Value} {mg mb : Str → Option Value} {dp un : Nat} {gd : Option (List Code)} {cn : Str} {nms : List (Str × NameKind)} {ig ic : Bool} {mr : List (Str × Const)} {a : Addr} {ccd : Value} {cl : List (Str × Addr)} {outer : List Env} {A₀ : Around} {base h₀ : Heap} {L : Addr} {m : Str → Option Value} {s : Shared} {Q E : Value → Shared → Prop} {news : List (Addr × Obj)}
local macro_rules | `(tactic| walk_at "exec For Name Name cons nil") => `(tactic| (k_here; (rename Fr _ _ _ _ => lF'); (with_unfolding_all refine' For_turns lF' ?_; k_whole)))
local macro_rules | `(tactic| walk_at "pyIter ref") => `(tactic| (k_here; (with_reducible show wpAny _ _ (pyIter (Value.ref _)) (fun it s₂ => TurnsAt _ _ _ _ _ _ _ _ _ it s₂) _ _); refine Stop.intro' ?_))
local macro_rules | `(tactic| walk_at "compareOp Is str str") => `(tactic| (k_here; (with_reducible show wpAny _ _ (compareOp .Is (Value.str _ _) (Value.str _ _)) _ _ _); refine Stop.intro' ?_))
theorem count_k {P : Tok → Prop} {D : Addr} {b : Str} {tb : Tok} {ys : List Value} {ks : List Str} {k : Nat} (hy : StrsP P ys ks) (hz : ys.length ≤ 1000) (hb0 : tb ≠ 0) (hP : ∀ t, P t → t ≠ 0 ∧ t ≠ tb) (hks : ∀ y ∈ ks, y.length ≤ 1000) (hbl : b.length ≤ 1000)
    (hm : (D, listOf ys.toArray k) ∈ news)
    (B : Below A₀ base outer h₀) (F : Fr h₀ L s.heap m) (X : (hk.heap_1 w.params).In h₀) (N : News h₀ L s.heap news) (T : Top vw61 LL mean mg mb h₀) (hd : dp + 2 < recursionLimit) (hu : un + 20 < cLine)
    (hret : ∀ t h' tk', Fr h₀ L h' m → News h₀ L h' news → Q (.int (countS ks b : Nat) t) { s with heap := h', toks := tk' }) :
    wpAny (model prog w) (ktrTop dp un gd cn ⟨.function, nms, ig, ic, mr⟩ L a ccd cl outer) (call (.ref 59) [.ref D, .str b tb]) Q E s := by
  have hnb := none_booked X
  w_strict (refine wpAny_call ?_; k_dflt k_enter; k_steps)
  refine ⟨?_⟩
  rename Fr _ _ _ _ => F9
  rename News _ _ _ _ => N9
  rename Frag.In _ _ => X9
  have hnb9 := none_booked X9
  k_dflt (refine iter_listTurns (vs := ys) rfl F9 N9 hm rfl rfl ?_)
  intro I hI
  refine items_J (fun m₀ n₀ j m₁ n₁ => (∀ z, z ≠ Str.ofString "i" → z ≠ Str.ofString "count" → m₁ z = m₀ z) ∧ (∃ t, m₁ (Str.ofString "count") = some (.int (countS (ks.take j) b : Nat) t)) ∧ n₁ = n₀) ⟨fun _ _ _ => rfl, ⟨_, rfl⟩, rfl⟩ ?turn ?done
  case turn =>
    rintro j a ha m₁ news₁ ⟨hm1, ⟨tt, htt⟩, rfl⟩ v' h tk hv F
    rw [List.getElem?_map] at ha
    obtain ⟨u, g1, g2⟩ := Option.map_eq_some_iff.mp ha
    subst g2
    have hv' : v' = u := hv
    subst hv'
    obtain ⟨y, t, rfl, hPt, hj⟩ := hy.at g1
    have hyl := hks y (List.mem_of_getElem? hj)
    refine AllObj.cons (fun o' hc' => ?_)
    refine AllObj.nil (fun N' => ?_)
    simp only [List.cons_append, List.nil_append] at N'
    rw [show m₁ = upd2 (Str.ofString "i") (Str.ofString "count") (m₁ (Str.ofString "i")) (m₁ (Str.ofString "count")) _ from agree2 hm1, htt] at F
    clear F9 N9
    w_strict ((try k_unmd); (try k_fold); k_steps)
    refine ⟨?_⟩
    rename Fr _ _ _ _ => F9
    refine is_str_T (hP t hPt).1 hb0 (hP t hPt).2 (NoneBooked.keep hnb9 F9.keep) fun bb hbb => ?_
    cases bb with
    | true =>
      have e := countS_on hj (hbb rfl)
      w_strict ((try k_unmd); (try k_fold); k_steps)
      refine UnrEndW.intro (by k_asm) (by k_asm) news₁ ⟨.head _, trivial⟩ (subL_of fun p hp => .tail _ hp) (offW_of fun p hp => Nat.ne_of_lt (hI p hp)) ⟨⟨hm, trivial⟩, ?_, ?_, rfl⟩
      · intro z h1 h2
        simp only [upd2, if_neg h1, if_neg h2]
      · rw [e]
        exact ⟨_, rfl⟩
    | false =>
      w_strict ((try k_unmd); (try k_fold); k_steps)
      · rename (_ == _) = true => he
        have e := countS_on hj (beq_iff_eq.mp he)
        refine UnrEndW.intro (by k_asm) (by k_asm) news₁ ⟨.head _, trivial⟩ (subL_of fun p hp => .tail _ hp) (offW_of fun p hp => Nat.ne_of_lt (hI p hp)) ⟨⟨hm, trivial⟩, ?_, ?_, rfl⟩
        · intro z h1 h2
          simp only [upd2, if_neg h1, if_neg h2]
        · rw [e]
          exact ⟨_, rfl⟩
      · rename (_ == _) = false => he
        have e := countS_off hj (beq_eq_false_iff_ne.mp he)
        refine UnrEndW.intro (by k_asm) (by k_asm) news₁ ⟨.head _, trivial⟩ (subL_of fun p hp => .tail _ hp) (offW_of fun p hp => Nat.ne_of_lt (hI p hp)) ⟨⟨hm, trivial⟩, ?_, ?_, rfl⟩
        · intro z h1 h2
          simp only [upd2, if_neg h1, if_neg h2]
        · rw [e]
          exact ⟨_, rfl⟩
  case done =>
    rintro m₁ news₁ h tk ⟨hm1, ⟨tt, htt⟩, rfl⟩ F N
    clear F9 N9
    rw [List.length_map, hy.length, List.take_length] at htt
    rw [show m₁ = upd2 (Str.ofString "i") (Str.ofString "count") (m₁ (Str.ofString "i")) (m₁ (Str.ofString "count")) _ from agree2 hm1, htt] at F
    w_strict ((try k_unmd); (try k_fold); k_steps)
    rename Fr h₀ _ _ _ => F8
    rename News h₀ _ _ _ => N8
    exact hret _ _ _ F8 N8
end
end
section
open PySem PySem.W PyProof.Rows PySem.Spec PySem.Calls
local macro_rules | `(tactic| walk_at "eval ListComp") => `(tactic| (k_here; k_dflt (refine ListComp_F (F₀ := by k_asm) (by with_unfolding_all rfl) (by rfl) (by decide) ?_); k_whole))
local macro_rules | `(tactic| walk_at "exec Assign cons ListComp") => `(tactic| (k_here; k_dflt (refine Assign_ListComp_F (F₀ := by k_asm) (by rfl) (by with_unfolding_all rfl) (by rfl) (by decide) (by rfl) (by rfl) ?_); k_whole))
local macro_rules | `(tactic| walk_at "call type:enumerate") => `(tactic| (k_here; (with_reducible show wpAny _ _ (call (Value.type _) [Value.ref _]) (fun xv s₁ => wpAny _ _ (pyIter xv) (fun it s₂ => CompAt _ _ _ _ _ _ _ _ _ _ _ _ _ it s₂) _ s₁) _ _); refine Stop.intro' ?_))
local macro_rules | `(tactic| walk_at "pyIter ref") => `(tactic| (k_here; (with_reducible show wpAny _ _ (pyIter (Value.ref _)) (fun it s₂ => CompAt _ _ _ _ _ _ _ _ _ _ _ _ _ it s₂) _ _); refine Stop.intro' ?_))
local macro_rules | `(tactic| walk_at "call builtin:sum") => `(tactic| (k_here; (with_reducible show wpAny _ _ (call (Value.builtin "sum") [Value.ref _]) _ _ _); refine Stop.intro' ?_))
local macro_rules | `(tactic| walk_at "call builtin:str.split") => `(tactic| (k_here; (with_reducible show wpAny _ _ (call (Value.builtin "str.split") [Value.str _ _, Value.str _ _]) _ _ _); refine Stop.intro' ?_))
local macro_rules | `(tactic| walk_at "call type:int") => `(tactic| (k_here; (with_reducible show wpAny _ _ (call (Value.type "int") [Value.str _ _]) _ _ _); refine Stop.intro' ?_))
local macro_rules | `(tactic| walk_at "exec For Name Name cons nil") => `(tactic| (k_here; (rename Fr _ _ _ _ => lF'); (with_unfolding_all refine' For_turns lF' ?_; k_whole)))
local macro_rules | `(tactic| walk_at "exec For Tuple Name cons nil") => `(tactic| (k_here; (rename Fr _ _ _ _ => lF'); (with_unfolding_all refine' For_turns lF' ?_; k_whole)))
local macro_rules | `(tactic| walk_at "exec For Name BinOp cons nil") => `(tactic| (k_here; (rename Fr _ _ _ _ => lF'); (with_unfolding_all refine' For_turns lF' ?_; k_whole)))
local macro_rules | `(tactic| walk_at "exec For Tuple Call cons nil") => `(tactic| (k_here; (rename Fr _ _ _ _ => lF'); (with_unfolding_all refine' For_turns lF' ?_; k_whole)))
local macro_rules | `(tactic| walk_at "pyIter ref") => `(tactic| (k_here; (with_reducible show wpAny _ _ (pyIter (Value.ref _)) (fun it s₂ => TurnsAt _ _ _ _ _ _ _ _ _ it s₂) _ _); refine Stop.intro' ?_))
local macro_rules | `(tactic| walk_at "call type:zip") => `(tactic| (k_here; (with_reducible show wpAny _ _ (call (Value.type _) [Value.ref _, Value.ref _]) (fun xv s₁ => wpAny _ _ (pyIter xv) (fun it s₂ => TurnsAt _ _ _ _ _ _ _ _ _ it s₂) _ s₁) _ _); refine Stop.intro' ?_))
section
open PySem PySem.W PyProof.Rows PySem.Spec PySem.Calls
local macro_rules | `(tactic| walk_at "PostT") => `(tactic| (dsimp only [PostT]))
local macro_rules | `(tactic| k_go) => `(tactic| repeat' (first | (k_unfold; (try dsimp only)) | (with_reducible refine drop_T (by assumption) ?_) | ((with_reducible refine fun (tkG : @LE.le Nat _ _ _) => ?_); (try dsimp only at tkG)) | (k_end; kc_close) | ((with_reducible refine wpAny_keep (by first | assumption | exact Nat.le_add_right_of_le (by first | assumption | exact Nat.le_add_right_of_le (by assumption))) ?_); walk1) | walk1 | (dsimp only; walk1) | (leave1; walk_say "STEP leave1"; (try dsimp only)) | fail "no step"))
local macro_rules | `(tactic| k_gentoks) => `(tactic| ((with_reducible refine gen_T (by first | assumption | exact Nat.le_add_right_of_le (by first | assumption | exact Nat.le_add_right_of_le (by assumption))) ?_); intro tk9 tkG))
local macro_rules | `(tactic| walk_at "eval ListComp") => `(tactic| (k_here; k_dflt (refine ListComp_F (F₀ := by k_asm) (by with_unfolding_all rfl) (by rfl) (by decide) ?_); k_whole; refine Stop.intro' ?_))
local macro_rules | `(tactic| walk_at "exec Assign cons ListComp") => `(tactic| (k_here; k_dflt (refine Assign_ListComp_F (F₀ := by k_asm) (by rfl) (by with_unfolding_all rfl) (by rfl) (by decide) (by rfl) (by rfl) ?_); k_whole; refine Stop.intro' ?_))
section
variable {w : World} {mean : ExcName → Option Value} {mg mb : Str → Option Value} {dp un : Nat} {gd : Option (List Code)} {cn : Str} {nms : List (Str × NameKind)} {ig ic : Bool} {mr : List (Str × Const)} {a : Addr} {ccd : Value} {cl : List (Str × Addr)} {outer : List Env} {A₀ : Around} {base h₀ : Heap} {L : Addr} {m : Str → Option Value} {s : Shared} {Q E : Value → Shared → Prop} {news : List (Addr × Obj)}
local macro_rules | `(tactic| walk_at "call ref") => `(tactic| (k_here; (with_reducible show wpAny _ _ (call (Value.ref 75) _) _ _ _); refine Stop.intro' ?_))
theorem pf_e {e : Int} {lo : Nat} {tx : Tok} (h0 : 0 ≤ e) (h1 : e < 4096) (hlo : lo ≤ s.toks) (h655 : 655 ≤ lo)
    (B : Below A₀ base outer h₀) (F : Fr h₀ L s.heap m) (X : (hk.heap_1 w.params).In h₀) (N : News h₀ L s.heap news) (T : Top vw61 LL mean mg mb h₀) (hd : dp + 2 < recursionLimit) (hu : un + 20 < cLine)
    (hret : ∀ t h' tk', tkP lo tk' t → Fr h₀ L h' m → News h₀ L h' news → Q (.str (Txt.join (Str.ofString ", ") (mems e.toNat)) t) { s with heap := h', toks := tk' }) :
    wpAny (model prog w) (ktrTop dp un gd cn ⟨.function, nms, ig, ic, mr⟩ L a ccd cl outer) (call (.ref 75) [.int e tx]) Q E s := by
  have e1 : e = ((e.toNat : Nat) : Int) := by omega
  rw [e1]
  exact pf_k (by omega) hlo h655 B F X N T hd hu hret
set_option maxHeartbeats 1000000 in
theorem turn1 {lo : Nat} {Qf : Flow → Shared → Prop} {m₀ : Str → Option Value} {f0 f1 f2 : Int} {tf0 tf1 tf2 ti : Tok} {lf : Addr} {kf : Nat} {oc : Obj} (i : Nat) (hi : i < 8) (hlo : lo ≤ s.toks) (h655 : 655 ≤ lo)
    (hb0 : 0 ≤ f0 ∧ f0 ≤ 8) (hb1 : 0 ≤ f1 ∧ f1 ≤ 128) (hb2 : 0 ≤ f2 ∧ f2 ≤ 2048) (hoc : oc.data = .cell (some (.int (i : Int) ti)))
    (B : Below A₀ base outer h₀) (F : Fr h₀ L s.heap (fun z => if z = Str.ofString "flags" then some (.ref lf) else m₀ z)) (X : (hk.heap_1 w.params).In h₀)
    (N : News h₀ L s.heap ((lf, listOf #[.int f0 tf0, .int f1 tf1, .int f2 tf2] kf) :: (L + 1, oc) :: news)) (T : Top vw61 LL mean mg mb h₀) (hd : dp + 6 < recursionLimit) (hu : un + 60 < cLine)
    (hjl : (Txt.join (Str.ofString ", ") (mems (selJ i 0 [f0, f1, f2]).sum.toNat)).length ≤ 1000)
    (hret : ∀ D h' tk' l, l.map (·.1) = Txt.split (Txt.join (Str.ofString ", ") (mems (selJ i 0 [f0, f1, f2]).sum.toNat)) (Str.ofString ", ") → (∀ p ∈ l, tkP lo tk' p.2) → lo ≤ tk' → Fr h₀ L h' (fun y => if y = Str.ofString "members" then some (.ref D) else if y = Str.ofString "flags" then some (.ref lf) else m₀ y) →
      News h₀ L h' ((D, listOf (strValues l).toArray 0) :: (lf, listOf #[.int f0 tf0, .int f1 tf1, .int f2 tf2] kf) :: (L + 1, oc) :: news) → (∀ p ∈ (lf, listOf #[.int f0 tf0, .int f1 tf1, .int f2 tf2] kf) :: (L + 1, oc) :: news, p.1 < D) → Qf .next { s with heap := h', toks := tk' }) :
    wpAny (model prog w) (ktrTop dp un gd (Str.ofString "_law_table") ltScope L 228 (.ref 227) (cellsFrom (L + 1) ltScope.names []) outer) (exec (ltTurn.getD 0 default) (envOfC (Str.ofString "_law_table") ltScope L 228 (.ref 227))) Qf E s := by
  have hst : ltTurn.getD 0 default = Stmt.Assign _ _ _ := rfl
  have hsc : ltScope = Scope.mk _ _ _ _ _ := rfl
  rw [hst, hsc]
  clear hst hsc
  w_strict ((try k_unmd); (try k_fold); k_go)
  refine ⟨?_⟩
  w_strict k_steps
  refine ⟨?_⟩
  rename Fr _ _ _ _ => F9
  rename News _ _ _ _ => N9
  k_dflt (refine at_enum rfl F9 N9 (vs := [.int f0 tf0, .int f1 tf1, .int f2 tf2]) (n := kf) (.head _) rfl rfl (show 3 ≤ sizeLine by decide) (frm_pair rfl ?fr (by decide) rfl rfl rfl (by decide)) (fun k ys n₁ => n₁ = (lf, listOf #[.int f0 tf0, .int f1 tf1, .int f2 tf2] kf) :: (L + 1, oc) :: news ∧ ys = selJ i 0 (List.take k [.int f0 tf0, .int f1 tf1, .int f2 tf2])) ⟨rfl, rfl⟩ ?turn ?fin)
  case fr =>
    intro a ha
    simp only [enumItems, List.mem_cons, List.not_mem_nil, or_false] at ha
    rcases ha with rfl | rfl | rfl <;> exact ⟨_, _, rfl⟩
  case turn =>
    rintro I C D hI k a ha ys n₁ ⟨rfl, rfl⟩ hyl hoff v l h tk E' hK F
    obtain ⟨v', hv', ha'⟩ := enum_inv ha
    obtain ⟨f, t, y, oC, m₂, e1, rfl, hC, hx, hy⟩ := hK
    rw [ha'] at e1
    injection e1 with e1 e2
    subst e1 e2
    clear F9 N9
    refine AllObj.cons (fun o1 hc1 => AllObj.cons (fun o2 hc2 => AllObj.nil (fun N => ?_)))
    dsimp only [testsJ]
    simp only [List.cons_append, List.nil_append] at N ⊢
    w_strict ((try k_unmd); (try k_fold); k_steps)
    · rename _ ≠ 0 => hb
      rename Fr _ _ _ _ => F8
      rename News _ _ _ _ => N8
      exact CEndJ.same F8 N8 hoff ⟨⟨.head _, trivial⟩, rfl, selJ_on hv' (bit_on hb)⟩
    · rename _ = 0 => hb
      rename Fr _ _ _ _ => F8
      rename News _ _ _ _ => N8
      exact CEndJ.same F8 N8 hoff ⟨⟨.head _, trivial⟩, rfl, selJ_off hv' (bit_off hb)⟩
  case fin =>
    rintro ys n₁ ⟨rfl, rfl⟩ - D h tk F N off
    clear F9 N9
    have hb := sel_bound (n := i) hb0 hb1 hb2
    w_strict ((try k_unmd); (try k_fold); k_go)
    refine ⟨?_⟩
    rename Fr _ _ _ _ => F9
    rename News _ _ _ _ => N9
    refine wpAny_keep (by first | assumption | exact Nat.le_add_right_of_le (by assumption)) ?_
    k_dflt (refine sumK rfl F9 N9 ⟨_, (N9 _ (.head _)).1, rfl, _, rfl⟩ (ints_sel (ns := [f0, f1, f2]) (.cons _ _ (.cons _ _ (.cons _ _ .nil)))) ?_)
    intro h1 tk1 t1 F1 N1 hk1
    dsimp only at hk1
    generalize (selJ i 0 [f0, f1, f2]).sum = e at hb hret hjl ⊢
    obtain ⟨he0, he1⟩ := hb
    clear F9 N9
    w_strict ((try k_unmd); (try k_fold); k_go)
    refine ⟨?_⟩
    rename Fr _ _ _ _ => F9
    rename News _ _ _ _ => N9
    refine wpAny_keep (by first | assumption | exact Nat.le_add_right_of_le (by assumption)) ?_
    k_dflt (refine' pf_e (lo := lo) ?a1 ?a2 ?b1 ?b2 ?k1 ?k2 ?k3 ?k4 ?k5 ?k6 ?k7 ?_)
    case a1 => exact he0
    case a2 => exact he1
    case b1 => first | assumption | exact Nat.le_add_right_of_le (by assumption)
    case b2 => exact h655
    case k1 => k_asm
    case k2 => exact F9
    case k3 => k_asm
    case k4 => exact N9
    case k5 => k_asm
    case k6 => ktr_room
    case k7 => ktr_units
    intro t3 h3 tk3 ht3 F3 N3 hk3
    dsimp only at hk3
    have hk3' := Nat.le_refl tk3
    clear F9 N9
    w_strict ((try k_unmd); (try k_fold); k_go)
    refine ⟨?_⟩
    rename Fr _ _ _ _ => F9
    rename News _ _ _ _ => N9
    have hsz : (Txt.join (Str.ofString ", ") (mems e.toNat)).length + 2 ≤ sizeLine := Nat.le_trans (Nat.add_le_add_right hjl 2) (by decide)
    rename tk3 ≤ _ => hk4
    k_dflt (refine split_T F9 (fun p hp => N9 p (.tail _ hp)) (Nat.le_trans hk3 hk4) (ht3.mono hk4) (by decide) hsz ?_)
    intro l h2 k2 hl hp2 hk2 F2 N2
    have hk2' := Nat.le_refl k2
    have l2 : ∀ p ∈ (lf, listOf #[.int f0 tf0, .int f1 tf1, .int f2 tf2] kf) :: (L + 1, oc) :: news, p.1 < _ := fun p hp => Heap.lt_size (N9 p (.tail _ hp)).1
    clear F9 N9
    w_strict ((try k_unmd); (try k_fold); k_go)
    rename Fr _ _ _ _ => F9
    rename News _ _ _ _ => N9
    rename k2 ≤ _ => hk5
    exact hret _ _ _ l hl (fun p hp => (hp2 p hp).mono hk5) (Nat.le_trans (Nat.le_trans hk3 hk4) (Nat.le_trans hk2 hk5)) F9 N9 l2
end
end
section
open PySem PySem.W PyProof.Rows PySem.Spec PySem.Calls
section
variable {w : World} {mean : ExcName → Option Value} {mg mb : Str → Option Value} {dp un : Nat} {gd : Option (List Code)} {cn : Str} {nms : List (Str × NameKind)} {ig ic : Bool} {mr : List (Str × Const)} {a : Addr} {ccd : Value} {cl : List (Str × Addr)} {outer : List Env} {A₀ : Around} {base h₀ : Heap} {L : Addr} {m : Str → Option Value} {s : Shared} {Q E : Value → Shared → Prop} {news : List (Addr × Obj)}
theorem new_k (B : Below A₀ base outer h₀) (F : Fr h₀ L s.heap m) (X : (hk.heap_1 w.params).In h₀) (N : News h₀ L s.heap news) (T : Top vw61 LL mean mg mb h₀) (hd : dp + 3 < recursionLimit) (hu : un + 30 < cLine)
    (hret : ∀ x dx l hsh kk h' tk', Fr h₀ L h' m → News h₀ L h' ((x, instObj 219 dx) :: (dx, hdrDict hsh kk l) :: (l, listOf #[] 0) :: news) → (∀ p ∈ news, p.1 < dx) → @LT.lt Nat _ dx x → @LT.lt Nat _ x l → Q (.ref x) { s with heap := h', toks := tk' }) :
    wpAny (model prog w) (ktrTop dp un gd cn ⟨.function, nms, ig, ic, mr⟩ L a ccd cl outer) (call (.ref 219) []) Q E s := by
  w_strict ((try k_unmd); (try k_fold); k_steps)
  refine ⟨?_⟩
  rename Fr _ _ _ _ => F9
  rename News _ _ _ _ => N9
  k_dflt (refine iter_listTurns (vs := []) rfl F9 N9 (.head _) rfl rfl ?_)
  intro I hI
  refine ItemsRest.zero (fun h tk F N => ?_)
  clear F9 N9
  w_strict ((try k_unmd); (try k_fold); k_steps)
  rename Fr _ _ _ _ => F9
  rename News _ _ _ _ => N9
  rename _ ∧ _ ∧ AllLt _ news => g1
  rename ∀ p ∈ news, p.1 < _ => g2
  exact hret _ _ _ _ _ _ _ F9 (pickT 3 [1, 2, 0] N9) g2 (by assumption) g1.1
end
end
section
open PySem PySem.W PyProof.Rows PySem.Spec PySem.Calls
theorem Rows.mono {P : Tok → Prop} {n1 n2 : List (Addr × Obj)} {its : List Value} {rs : List (Str × Str)} (h : Rows P n1 its rs) (hs : ∀ p ∈ n1, p ∈ n2) : Rows P n2 its rs := by
  induction h with
  | nil => exact .nil
  | cons hm p _ ih => exact .cons (hs _ hm) p ih
theorem Rows.snoc {P : Tok → Prop} {n1 : List (Addr × Obj)} {its : List Value} {rs : List (Str × Str)} {t : Addr} {a b : Str} {ta tb : Tok} (h : Rows P n1 its rs) (hm : (t, tupObj a b ta tb) ∈ n1) (hp : P ta) : Rows P n1 (its ++ [.ref t]) (rs ++ [(a, b)]) := by
  induction h with
  | nil => exact .cons hm hp .nil
  | cons hm' p' _ ih => exact .cons hm' p' ih
local macro_rules | `(tactic| walk_at "PostT") => `(tactic| (dsimp only [PostT]))
local macro_rules | `(tactic| k_go) => `(tactic| repeat' (first | (k_unfold; (try dsimp only)) | (with_reducible refine drop_T (by assumption) ?_) | ((with_reducible refine fun (tkG : @LE.le Nat _ _ _) => ?_); (try dsimp only at tkG)) | (k_end; kc_close) | ((with_reducible refine wpAny_keep (by first | assumption | exact Nat.le_add_right_of_le (by first | assumption | exact Nat.le_add_right_of_le (by assumption))) ?_); walk1) | walk1 | (dsimp only; walk1) | (leave1; walk_say "STEP leave1"; (try dsimp only)) | fail "no step"))
local macro_rules | `(tactic| k_gentoks) => `(tactic| ((with_reducible refine gen_T (by first | assumption | exact Nat.le_add_right_of_le (by first | assumption | exact Nat.le_add_right_of_le (by assumption))) ?_); intro tk9 tkG))
theorem idig : ∀ i : Fin 8, clean (Str.ofString (toString ((i.val : Nat) : Int))) ∧ (Str.ofString (toString ((i.val : Nat) : Int))).cps.size < 2 ^ 20 := by
  have h : ∀ i : Fin 8, (∀ c ∈ (Str.ofString (toString ((i.val : Nat) : Int))).cps.toList, 32 ≤ c ∧ c < 127) ∧ (Str.ofString (toString ((i.val : Nat) : Int))).cps.size < 2 ^ 20 := by decide +kernel
  exact h
section
variable {w : World} {mean : ExcName → Option Value} {mg mb : Str → Option Value} {dp un : Nat} {gd : Option (List Code)} {cn : Str} {nms : List (Str × NameKind)} {ig ic : Bool} {mr : List (Str × Const)} {a : Addr} {ccd : Value} {cl : List (Str × Addr)} {outer : List Env} {A₀ : Around} {base h₀ : Heap} {L : Addr} {m : Str → Option Value} {s : Shared} {Q E : Value → Shared → Prop} {news : List (Addr × Obj)}
local macro_rules | `(tactic| walk_at "call ref") => `(tactic| (k_here; (with_reducible show wpAny _ _ (call (Value.ref 166) _) _ _ _); refine Stop.intro' ?_))
local macro_rules | `(tactic| walk_at "call ref") => `(tactic| (k_here; (with_reducible show wpAny _ _ (call (Value.ref 216) _) _ _ _); refine Stop.intro' ?_))
local macro_rules | `(tactic| walk_at "exec For Name Name cons nil") => `(tactic| (k_here; (rename Fr _ _ _ _ => lF'); (with_unfolding_all refine' For_turns lF' ?_; k_whole); refine Stop.intro' ?_))
local macro_rules | `(tactic| walk_at "exec For Name BinOp cons nil") => `(tactic| (k_here; k_dflt (refine' wpAny_For ?_ ?hs9; (case hs9 => intro _; rfl)); refine Stop.intro' ?_))
local macro_rules | `(tactic| walk_at "pyIter ref") => `(tactic| (k_here; (with_reducible show wpAny _ _ (pyIter (Value.ref _)) (fun it s₂ => codeAny _ _ _ _ s₂) _ _); refine Stop.intro' ?_))
local macro_rules | `(tactic| walk_at "pyIter ref") => `(tactic| (k_here; (with_reducible show wpAny _ _ (pyIter (Value.ref _)) (fun it s₂ => TurnsAt _ _ _ _ _ _ _ _ _ it s₂) _ _); refine Stop.intro' ?_))
local macro_rules | `(tactic| passes_own) => `(tactic| assumption)
set_option maxHeartbeats 1000000 in
theorem turn_k {lo : Nat} {PH : Tok → Prop} {Qf : Flow → Shared → Prop} {m₀ : Str → Option Value} {f0 f1 f2 q : Int} {tf0 tf1 tf2 tq ti : Tok} {lt xt dt xh dh lh lf : Addr} {kt kh kf : Nat} {h1 h2 : Int} {kk1 kk2 : Tok} {its hits : Array Value} {oc : Obj} {rs hrows : List (Str × Str)} {val : Str → Int} {names : List Str} {tl : List (Addr × Obj)} (i : Nat) (hi : i < 8) (hlo : lo ≤ s.toks) (h655 : 655 ≤ lo)
    (hb0 : 0 ≤ f0 ∧ f0 ≤ 8) (hb1 : 0 ≤ f1 ∧ f1 ≤ 128) (hb2 : 0 ≤ f2 ∧ f2 ≤ 2048) (hoc : oc.data = .cell (some (.int (i : Int) ti)))
    (hjl : (Txt.join (Str.ofString ", ") (mems (selJ i 0 [f0, f1, f2]).sum.toNat)).length ≤ 1000) (hsp : Txt.split (Txt.join (Str.ofString ", ") (mems (selJ i 0 [f0, f1, f2]).sum.toNat)) (Str.ofString ", ") = names) (hnl : names.length ≤ 3)
    (hcl : ∀ nm ∈ names, clean (Txt.lower nm) ∧ (Txt.lower nm).cps.size < 2 ^ 20 ∧ nm.length ≤ 1000 ∧ clean nm ∧ nm.cps.size < 2 ^ 20)
    (hval : ∀ nm ∈ names, hfind hrows nm = some (Str.ofString (toString (val nm))) ∧ PySem.intText? (Str.ofString (toString (val nm))) = some (val nm) ∧ (Str.ofString (toString (val nm))).length ≤ 640)
    (hrl : ∀ r ∈ hrows, r.1.length ≤ 1000) (hits100 : its.size ≤ 100)
    (hne : ∀ b ∈ [L + 1, xt, dt, xh, dh, lh, lf], b ≠ lt) (hne2 : ∀ p ∈ tl, p.1 ≠ lt)
    (hR : Rows (tkP lo s.toks) tl its.toList rs) (hH : Rows PH tl hits.toList hrows)
    (B : Below A₀ base outer h₀) (F : Fr h₀ L s.heap (fun z => if z = Str.ofString "flags" then some (.ref lf) else if z = Str.ofString "house" then some (.ref xh) else if z = Str.ofString "table" then some (.ref xt) else if z = Str.ofString "quota" then some (.int q tq) else m₀ z)) (X : (hk.heap_1 w.params).In h₀)
    (N : News h₀ L s.heap ((lt, listOf its kt) :: (L + 1, oc) :: (xt, instObj 219 dt) :: (dt, hdrDict h1 kk1 lt) :: (xh, instObj 219 dh) :: (dh, hdrDict h2 kk2 lh) :: (lh, listOf hits kh) :: (lf, listOf #[.int f0 tf0, .int f1 tf1, .int f2 tf2] kf) :: tl)) (T : Top vw61 LL mean mg mb h₀) (hd : dp + 6 < recursionLimit) (hu : un + 60 < cLine)
    (hE : PassesOwn (model prog w) (ktrTop dp un gd (Str.ofString "_law_table") ltScope L 228 (.ref 227) (cellsFrom (L + 1) ltScope.names []) outer) (envOfC (Str.ofString "_law_table") ltScope L 228 (.ref 227)) E)
    (hret : ∀ its' k' tl' m' h' tk', (∀ z, z ≠ Str.ofString "members" → z ≠ Str.ofString "total" → z ≠ Str.ofString "name" → m' z = (if z = Str.ofString "flags" then some (.ref lf) else if z = Str.ofString "house" then some (.ref xh) else if z = Str.ofString "table" then some (.ref xt) else if z = Str.ofString "quota" then some (.int q tq) else m₀ z)) →
      Fr h₀ L h' m' → News h₀ L h' ((lt, listOf its' k') :: (L + 1, oc) :: (xt, instObj 219 dt) :: (dt, hdrDict h1 kk1 lt) :: (xh, instObj 219 dh) :: (dh, hdrDict h2 kk2 lh) :: (lh, listOf hits kh) :: (lf, listOf #[.int f0 tf0, .int f1 tf1, .int f2 tf2] kf) :: tl') →
      (∀ p ∈ tl, p ∈ tl') → (∀ p ∈ tl', p ∈ tl ∨ ∀ r ∈ tl, r.1 < p.1) → (∀ p ∈ tl', p.1 ≠ lt) → s.toks ≤ tk' → Rows (tkP lo tk') tl' its'.toList (rs ++ if q ≤ (names.map val).sum then (Str.ofString "set" :: names).map (·, Str.ofString (toString (i : Int))) else []) → (∀ t, Value.ref t ∈ its'.toList → Value.ref t ∈ its.toList ∨ lt < t) → its'.size ≤ its.size + 4 → Qf .next { s with heap := h', toks := tk' }) :
    wpAny (model prog w) (ktrTop dp un gd (Str.ofString "_law_table") ltScope L 228 (.ref 227) (cellsFrom (L + 1) ltScope.names []) outer) (execs ltTurn (envOfC (Str.ofString "_law_table") ltScope L 228 (.ref 227))) Qf E s := by
  have hl : ltTurn = [ltTurn.getD 0 default, Stmt.Assign _ _ _, Stmt.For _ _ _ _ _, Stmt.If _ _ _ _] := rfl
  rw [hl]
  clear hl
  refine wpAny_execs_cons ?_
  have N10 := pickT 8 [7, 1, 0, 2, 3, 4, 5, 6] N
  refine wpAny_keep (Nat.le_refl _) ?_
  refine turn1 (m₀ := fun z => if z = Str.ofString "house" then some (.ref xh) else if z = Str.ofString "table" then some (.ref xt) else if z = Str.ofString "quota" then some (.int q tq) else m₀ z) i hi (lo := lo) hlo h655 hb0 hb1 hb2 hoc B F X (news := (lt, listOf its kt) :: (xt, instObj 219 dt) :: (dt, hdrDict h1 kk1 lt) :: (xh, instObj 219 dh) :: (dh, hdrDict h2 kk2 lh) :: (lh, listOf hits kh) :: tl) N10 T hd hu hjl ?_
  intro D h' tk l hl htl hk1 F1 N1 l1 hk2
  rw [hsp] at hl
  dsimp only at hk2
  dsimp only
  have hsc : ltScope = Scope.mk _ _ _ _ _ := rfl
  rw [hsc]
  clear hsc N N10 F
  have hkk := Nat.le_refl tk
  w_strict ((try k_unmd); (try k_fold); k_go)
  refine ⟨?_⟩
  w_strict k_steps
  refine ⟨?_⟩
  rename Fr _ _ _ _ => F9
  rename News _ _ _ _ => N9
  k_dflt (refine iter_listTurns (vs := strValues l) rfl F9 N9 (.head _) rfl rfl ?_)
  intro I hI
  refine items_J (fun m₀ n₀ j m₁ n₁ => (∀ z, z ≠ Str.ofString "name" → z ≠ Str.ofString "total" → m₁ z = m₀ z) ∧ (∃ t, m₁ (Str.ofString "total") = some (.int ((names.take j).map val).sum t)) ∧ n₁ = n₀) ⟨fun _ _ _ => rfl, ⟨_, rfl⟩, rfl⟩ ?turn ?done
  case turn =>
    rintro j a ha m₁ news₁ ⟨hm, ⟨tt, htt⟩, rfl⟩ v' h tk hv F
    have hnm : ∃ nm t, v' = .str nm t ∧ names[j]? = some nm := by
      rw [List.getElem?_map] at ha
      obtain ⟨u, g1, g2⟩ := Option.map_eq_some_iff.mp ha
      subst g2
      have hv' : v' = u := hv
      subst hv'
      simp only [strValues, List.getElem?_map] at g1
      obtain ⟨p, g3, g4⟩ := Option.map_eq_some_iff.mp g1
      refine ⟨p.1, p.2, g4.symm, ?_⟩
      rw [← hl, List.getElem?_map, g3]
      rfl
    obtain ⟨nm, tnm, rfl, hj⟩ := hnm
    have hmem : nm ∈ names := List.mem_of_getElem? hj
    obtain ⟨c1, c2, c3, c4, c5⟩ := hcl nm hmem
    obtain ⟨v1, v2, v3⟩ := hval nm hmem
    refine AllObj.cons (fun o' hc' => ?_)
    refine AllObj.nil (fun N' => ?_)
    simp only [List.cons_append, List.nil_append] at N'
    rw [show m₁ = upd2 (Str.ofString "name") (Str.ofString "total") (m₁ (Str.ofString "name")) (m₁ (Str.ofString "total")) _ from agree2 hm, htt] at F
    clear F9 N9
    w_strict ((try k_unmd); (try k_fold); k_steps)
    refine ⟨?_⟩
    rename Fr _ _ _ _ => F9
    rename News _ _ _ _ => N9
    refine get_k (its := hits.toList) (n := kh) (hH.mono fun p hp => by repeat (first | exact hp | refine List.Mem.tail _ ?_)) hrl v1 c1 c2 c3 (by repeat (first | exact List.Mem.head _ | refine List.Mem.tail _ ?_)) (by repeat (first | exact List.Mem.head _ | refine List.Mem.tail _ ?_)) (by repeat (first | exact List.Mem.head _ | refine List.Mem.tail _ ?_)) B F9 X N9 T (by ktr_room) (by ktr_units) (fun t2 h2 tk2 F2 N2 => ?_)
    clear F9 N9
    w_strict ((try k_unmd); (try k_fold); k_steps)
    refine ⟨?_⟩
    refine KIN.call_text v2 v3 ?_
    w_strict ((try k_unmd); (try k_fold); k_steps)
    rename Fr _ _ _ _ => F9
    rename News _ _ _ _ => N9
    have hsum : ((names.take (j + 1)).map val).sum = ((names.take j).map val).sum + val nm := by
      rw [List.take_add_one, hj]
      simp
    refine ⟨_, _, _, _, rfl, F9, N9, fun p hp r hr e => ?_, ⟨.head _, trivial⟩, ?hm, (by rw [hsum]; exact ⟨_, rfl⟩), rfl⟩
    · rw [List.mem_singleton.mp hr] at e
      exact Nat.ne_of_lt (hI p hp) e
    case hm =>
      intro z g1 g2
      simp only [upd2, if_neg g1, if_neg g2]
  case done =>
    rintro m₁ news₁ h tk3 ⟨hm, ⟨tt, htt⟩, rfl⟩ F N
    clear F9 N9
    rw [List.length_map, show (strValues l).length = names.length by rw [← hl]; simp [strValues], List.take_length] at htt
    rw [show m₁ = upd2 (Str.ofString "name") (Str.ofString "total") (m₁ (Str.ofString "name")) (m₁ (Str.ofString "total")) _ from agree2 hm, htt] at F
    w_strict ((try k_unmd); (try k_fold); k_go)
    · rename _ ≤ (List.map val names).sum => hq
      refine ⟨?_⟩
      rename tk ≤ _ => hkt
      obtain ⟨tq, htq⟩ := namedN hkt
      subst htq
      w_strict k_steps
      rename Fr _ _ _ _ => F9
      rename News _ _ _ _ => N9
      k_dflt (refine kmk_add_lit (zs := .str (Str.ofString "set") _ :: strValues l) F9 N9 ⟨_, (N9 _ (.head _)).1, rfl, _, rfl⟩ ⟨_, (N9 _ (.tail _ (.head _))).1, rfl, _, rfl⟩ rfl ?_ ?sz)
      case sz =>
        refine Nat.le_trans (m := 4) ?_ (by decide)
        have hsl : (strValues l).length = names.length := by rw [← hl]; simp [strValues]
        show 1 + (strValues l).length ≤ 4
        omega
      intro D2 hp2 F2 N2 l2
      clear F9 N9
      have N3 := pickT 11 [5, 0, 4, 6, 7, 8, 9, 10, 3] N2
      change News _ _ _ (_ :: _ :: _ :: _ :: _ :: _ :: _ :: _ :: _ :: tl) at N3
      clear N2
      w_strict ((try k_unmd); (try k_fold); k_steps)
      refine ⟨?_⟩
      rename Fr _ _ _ _ => F9
      have hlq : lo ≤ tq := Nat.le_trans hk1 hkt
      have hsq : s.toks ≤ tq := Nat.le_trans hk2 hkt
      have hlx : ∀ (j : Nat) (v : Value), (Value.str (Str.ofString "set") tq :: strValues l)[j]? = some v → ∃ nm t, v = .str nm t ∧ tkP lo (tq + 1) t ∧ (Str.ofString "set" :: names)[j]? = some nm := by
        intro j v g
        cases j with
        | zero => exact ⟨_, _, (Option.some.inj g).symm, tkP.new hlq, rfl⟩
        | succ j =>
          simp only [List.getElem?_cons_succ, strValues, List.getElem?_map] at g
          obtain ⟨p, g3, g4⟩ := Option.map_eq_some_iff.mp g
          refine ⟨p.1, p.2, g4.symm, (htl p (List.mem_of_getElem? g3)).mono (Nat.le_succ_of_le hkt), ?_⟩
          rw [List.getElem?_cons_succ, ← hl, List.getElem?_map, g3]
          rfl
      have hcl' : ∀ nm ∈ Str.ofString "set" :: names, clean nm ∧ nm.cps.size < 2 ^ 20 := fun nm h => by
        rcases List.mem_cons.mp h with rfl | h
        · exact ⟨by show ∀ c ∈ _, _; decide +kernel, by with_unfolding_all decide⟩
        · exact (hcl nm h).2.2.2
      k_dflt (refine pyIter_listT (vs := Value.str (Str.ofString "set") tq :: strValues l) rfl F9 N3 (.tail _ (.head _)) rfl rfl hE (fun m₁ n₁ j m₂ n₂ tk5 => tq + 1 ≤ tk5 ∧ (∀ z, z ≠ Str.ofString "name" → m₂ z = m₁ z) ∧ ∃ its' k' tl', n₂ = (lt, listOf its' k') :: (D2, listOf (List.toArray (Value.str (Str.ofString "set") tq :: strValues l)) 0) :: (L + 1, oc) :: (xt, instObj 219 dt) :: (dt, hdrDict h1 kk1 lt) :: (xh, instObj 219 dh) :: (dh, hdrDict h2 kk2 lh) :: (lh, listOf hits kh) :: (lf, listOf #[.int f0 tf0, .int f1 tf1, .int f2 tf2] kf) :: tl' ∧ (∀ p ∈ tl, p ∈ tl') ∧ (∀ p ∈ tl', p ∈ tl ∨ ∀ r ∈ tl, r.1 < p.1) ∧ (∀ p ∈ tl', p.1 ≠ lt) ∧ (∀ t, Value.ref t ∈ its'.toList → Value.ref t ∈ its.toList ∨ lt < t) ∧ Rows (tkP lo (tq + 1)) tl' its'.toList (rs ++ ((Str.ofString "set" :: names).take j).map (·, Str.ofString (toString (i : Int)))) ∧ its'.size = its.size + j) ⟨Nat.le_refl _, fun _ _ => rfl, its, kt, tl, rfl, fun p h => h, fun p h => .inl h, hne2, fun t h => .inl h, by rw [List.take_zero, List.map_nil, List.append_nil]; exact hR.imp fun t p => p.mono (Nat.le_succ_of_le hsq), rfl⟩ ?keep2 ?mono2 ?turn2 ?done2)
      case keep2 =>
        rintro j m₂ n₂ tk5 ⟨-, -, its', k', tl', rfl, -⟩
        exact .tail _ (.head _)
      case mono2 =>
        rintro j m₂ n₂ tk5 tk6 hle ⟨g1, g2⟩
        exact ⟨Nat.le_trans g1 hle, g2⟩
      case turn2 =>
        rintro I2 hI2 j v' ha h tk5 m₂ n₂ o' ⟨hH5, hm2, its', k', tl', rfl, hs1, hs2, hs3, hs4, hR', hsz'⟩ hoff F N'
        obtain ⟨nm, tnm, rfl, htn, hj⟩ := hlx j _ ha
        obtain ⟨c4, c5⟩ := hcl' nm (List.mem_of_getElem? hj)
        have hj4 : j < 4 := by
          have := (List.getElem?_eq_some_iff.mp hj).1
          rw [List.length_cons] at this
          omega
        rw [show m₂ = upd1 (Str.ofString "name") (m₂ (Str.ofString "name")) _ from agree1 hm2] at F
        clear F9 N3
        have hH6 := hH5
        w_strict ((try k_unmd); (try k_fold); k_go)
        refine ⟨?_⟩
        rename Fr _ _ _ _ => F9
        rename News _ _ _ _ => N9
        have hid : clean (Str.ofString (toString (i : Int))) ∧ (Str.ofString (toString (i : Int))).cps.size < 2 ^ 20 := idig ⟨i, hi⟩
        have hltI : lt ≠ I2 := Nat.ne_of_lt (hI2 _ (.head _))
        have hltD : lt < D2 := l2 (lt, listOf its kt) (by repeat (first | exact List.Mem.head _ | refine List.Mem.tail _ ?_))
        refine wpAny_keep (by first | assumption | exact Nat.le_add_right_of_le (by assumption)) ?_
        refine add_k (its := its') (n := k') (by rw [hsz']; omega) hid.1 hid.2 c4 c5 (by repeat (first | exact List.Mem.head _ | refine List.Mem.tail _ ?_)) (by repeat (first | exact List.Mem.head _ | refine List.Mem.tail _ ?_))
          (UpdF.tail (Ne.symm hltI) (UpdF.head ?hoff)) B F9 X N9 T (by ktr_room) (by ktr_units) (fun t tk2 h3 tk3 F3 N3 l3 hk7 => ?_)
        case hoff =>
          intro p hp
          rcases List.mem_cons.mp hp with rfl | hp
          · exact Nat.ne_of_gt hltD
          rcases List.mem_cons.mp hp with rfl | hp
          · exact hne _ (.head _)
          rcases List.mem_cons.mp hp with rfl | hp
          · exact hne _ (.tail _ (.head _))
          rcases List.mem_cons.mp hp with rfl | hp
          · exact hne _ (.tail _ (.tail _ (.head _)))
          rcases List.mem_cons.mp hp with rfl | hp
          · exact hne _ (.tail _ (.tail _ (.tail _ (.head _))))
          rcases List.mem_cons.mp hp with rfl | hp
          · exact hne _ (.tail _ (.tail _ (.tail _ (.tail _ (.head _)))))
          rcases List.mem_cons.mp hp with rfl | hp
          · exact hne _ (.tail _ (.tail _ (.tail _ (.tail _ (.tail _ (.head _))))))
          rcases List.mem_cons.mp hp with rfl | hp
          · exact hne _ (.tail _ (.tail _ (.tail _ (.tail _ (.tail _ (.tail _ (.head _)))))))
          · exact hs3 p hp
        dsimp only at hk7
        have hall := allLt_mem l3
        have hItp : I2 < t := hall (I2, o') (.head _)
        have hltt : lt < t := hall _ (.tail _ (.head _))
        have htl' : ∀ p ∈ tl', p.1 < t := fun p hp => hall p (by repeat (first | exact hp | refine List.Mem.tail _ ?_))
        clear F9 N9 l3 hall
        w_strict ((try k_unmd); (try k_fold); k_go)
        rename Fr _ _ _ _ => F9
        rename News _ _ _ _ => N9
        have N11 := pickT 11 [1, 2, 3, 4, 5, 6, 7, 8, 9, 10, 0] N9
        refine ⟨_, _, _, _, rfl, F9, N11, fun p hp r hr e => ?_, by assumption, ?hm, its'.push (.ref t), k' + 1, (t, _) :: tl', rfl, fun p hp => .tail _ (hs1 p hp), ?h2, ?h3, ?h5, ?h4, by rw [Array.size_push]; omega⟩
        · rw [List.mem_singleton.mp hr] at e
          have e' : p.1 = I2 := e
          rcases List.mem_cons.mp hp with rfl | hp
          · exact hltI e'
          have hp2 : p ∈ [_, _, _, _, _, _, _, _] ++ ((t, _) :: tl') := hp
          rcases List.mem_append.mp hp2 with hp3 | hp3
          · exact Nat.ne_of_lt (hI2 p (List.mem_cons_of_mem _ (List.mem_append_left tl hp3))) e'
          rcases List.mem_cons.mp hp3 with rfl | hp3
          · exact Nat.ne_of_gt hItp e'
          · exact hoff p (by repeat (first | exact hp3 | refine List.Mem.tail _ ?_)) e'
        case hm =>
          intro z g1
          simp only [upd1, if_neg g1]
        case h2 =>
          intro p hp
          rcases List.mem_cons.mp hp with rfl | hp
          · exact .inr fun r hr => htl' r (hs1 r hr)
          · exact hs2 p hp
        case h3 =>
          intro p hp
          rcases List.mem_cons.mp hp with rfl | hp
          · exact Nat.ne_of_gt hltt
          · exact hs3 p hp
        case h5 =>
          intro t2 h2
          rw [Array.toList_push] at h2
          rcases List.mem_append.mp h2 with h2 | h2
          · exact hs4 t2 h2
          · cases List.mem_singleton.mp h2
            exact .inr hltt
        case h4 =>
          rw [Array.toList_push, List.take_add_one, hj, List.map_append, ← List.append_assoc]
          exact (hR'.mono fun p hp => .tail _ hp).snoc (.head _) htn
      case done2 =>
        rintro m₂ n₂ h tk5 ⟨hH5, hm2, its', k', tl', rfl, hs1, hs2, hs3, hs4, hR', hsz'⟩ F N
        have hH6 := hH5
        have N11 := pickT 9 [0, 2, 3, 4, 5, 6, 7, 8] N
        rw [show m₂ = upd1 (Str.ofString "name") (m₂ (Str.ofString "name")) _ from agree1 hm2] at F
        clear F9 N3 N
        w_strict ((try k_unmd); (try k_fold); k_go)
        rename Fr _ _ _ _ => F9
        rename tq + 1 ≤ _ => hH9
        refine hret its' k' tl' _ _ _ ?hm F9 N11 hs1 hs2 hs3 (Nat.le_trans (Nat.le_succ_of_le hsq) hH9) ?hr hs4 ?hz
        case hz =>
          have hsl : (strValues l).length = names.length := by rw [← hl]; simp [strValues]
          rw [hsz', List.length_cons, hsl]; omega
        case hr =>
          have hsl : (strValues l).length = names.length := by rw [← hl]; simp [strValues]
          rw [if_pos hq]
          rw [List.length_cons, hsl, List.take_of_length_le (by simp)] at hR'
          exact hR'.imp fun t p => p.mono hH9
        case hm =>
          intro z g1 g2 g3
          simp only [upd1, upd2, if_neg g1, if_neg g2, if_neg g3]
    · rename ¬ _ => hq
      rename Fr _ _ _ _ => F9
      rename News _ _ _ _ => N9
      rename tk ≤ _ => hkz
      have N3 := pickT 9 [3, 2, 4, 5, 6, 7, 8, 1] N9
      refine hret its kt tl _ _ _ ?hm F9 N3 (fun p hp => hp) (fun p hp => .inl hp) hne2 (Nat.le_trans hk2 hkz) ?hr (fun t h => .inl h) (by omega)
      case hr => rw [if_neg hq, List.append_nil]; exact hR.imp fun t p => p.mono (Nat.le_trans hk2 hkz)
      case hm =>
        intro z g1 g2 g3
        simp only [upd2, if_neg g1, if_neg g2, if_neg g3]
end
end
section
open PySem PySem.W PyProof.Rows PySem.Spec PySem.Calls
theorem Rows.mono' {P : Tok → Prop} {n1 n2 : List (Addr × Obj)} {its : List Value} {rs : List (Str × Str)} (h : Rows P n1 its rs) (hs : ∀ t a b ta tb, Value.ref t ∈ its → (t, tupObj a b ta tb) ∈ n1 → (t, tupObj a b ta tb) ∈ n2) : Rows P n2 its rs := by
  induction h with
  | nil => exact .nil
  | cons hm p _ ih => exact .cons (hs _ _ _ _ _ (.head _) hm) p (ih fun t a b ta tb h => hs t a b ta tb (.tail _ h))
noncomputable def nmF (f0 f1 f2 : Int) (i : Nat) : List Str := mems (selJ i 0 [f0, f1, f2]).sum.toNat
noncomputable def rowF (f0 f1 f2 q : Int) (val : Str → Int) (i : Nat) : List (Str × Str) := if q ≤ ((nmF f0 f1 f2 i).map val).sum then (Str.ofString "set" :: nmF f0 f1 f2 i).map (·, Str.ofString (toString (i : Int))) else []
noncomputable def tabF (f0 f1 f2 q : Int) (val : Str → Int) : Nat → List (Str × Str)
  | 0 => []
  | i + 1 => tabF f0 f1 f2 q val i ++ rowF f0 f1 f2 q val i
noncomputable def houseF (n0 n1 n2 : Str) (w0 w1 w2 : Int) : List (Str × Str) := [(Txt.swapcase (Str.ofString "0x0"), Str.ofString (toString (0 : Int))), (Txt.swapcase n0, Str.ofString (toString w0)), (Txt.swapcase n1, Str.ofString (toString w1)), (Txt.swapcase n2, Str.ofString (toString w2))]
local macro_rules | `(tactic| walk_at "PostT") => `(tactic| (dsimp only [PostT]))
local macro_rules | `(tactic| k_go) => `(tactic| repeat' (first | (k_unfold; (try dsimp only)) | (with_reducible refine drop_T (by assumption) ?_) | ((with_reducible refine fun (tkG : @LE.le Nat _ _ _) => ?_); (try dsimp only at tkG)) | (k_end; kc_close) | ((with_reducible refine wpAny_keep (by first | assumption | exact Nat.le_add_right_of_le (by first | assumption | exact Nat.le_add_right_of_le (by assumption))) ?_); walk1) | walk1 | (dsimp only; walk1) | (leave1; walk_say "STEP leave1"; (try dsimp only)) | fail "no step"))
local macro_rules | `(tactic| k_gentoks) => `(tactic| ((with_reducible refine gen_T (by first | assumption | exact Nat.le_add_right_of_le (by first | assumption | exact Nat.le_add_right_of_le (by assumption))) ?_); intro tk9 tkG))
local macro_rules | `(tactic| k_enter) => `(tactic| (refine' enter_T ?k1 ?k2 ?k3 ?k4 ?k5 ?kA ?kF ?kK ?k6 ?k7 ?k8 ?k9 ?kB ?kD ?kb ?c2 ?c3 ?c4; (case kA => exact rfl); (case kF => exact rfl); (case kK => exact rfl); (case k1 => k_asm); (case k2 => k_asm); (case k3 => k_asm); (case k4 => k_asm); (case k5 => k_asm); (case k6 => k_is); (case k7 => k_is); (case k8 => ktr_room); (case k9 => exact BindsTo.of_eq rfl); (case kB => exact rfl); (case kD => decide +kernel); (case c2 => exact rfl); (case c3 => exact rfl); (case c4 => exact rfl); k_whole; intro g' L' h' tk' cells' hge' FG' F' N' Y' B' X' T' l1; (try k_lt l1); k_cells Y'; (try simp only [List.cons_append, List.nil_append] at N'); (try dsimp only); (try k_lift B'); (try k_fold)))
local macro_rules | `(tactic| walk_at "exec For Name Call cons nil") => `(tactic| (k_here; k_dflt (refine' wpAny_For ?_ ?hs9; (case hs9 => intro _; rfl))))
local macro_rules | `(tactic| walk_at "exec For Tuple Call cons nil") => `(tactic| (k_here; (rename Fr _ _ _ _ => lF'); (with_unfolding_all refine' For_turns lF' ?_; k_whole); refine Stop.intro' ?_))
section
variable {w : World} {mean : ExcName → Option Value} {mg mb : Str → Option Value} {dp un : Nat} {gd : Option (List Code)} {cn : Str} {nms : List (Str × NameKind)} {ig ic : Bool} {mr : List (Str × Const)} {a : Addr} {ccd : Value} {cl : List (Str × Addr)} {outer : List Env} {A₀ : Around} {base h₀ : Heap} {L : Addr} {m : Str → Option Value} {s : Shared} {Q E : Value → Shared → Prop} {news : List (Addr × Obj)}
local macro_rules | `(tactic| walk_at "call ref") => `(tactic| (k_here; (with_reducible show wpAny _ _ (call (Value.ref 219) _) _ _ _); refine Stop.intro' ?_))
local macro_rules | `(tactic| walk_at "call ref") => `(tactic| (k_here; (with_reducible show wpAny _ _ (call (Value.ref 216) _) _ _ _); refine Stop.intro' ?_))
theorem table_k {n0 n1 n2 : Str} {t0 t1 t2 : Tok} {f0 f1 f2 w0 w1 w2 q : Int} {tf0 tf1 tf2 tw0 tw1 tw2 tq : Tok} {ln lf lw : Addr} {kn kf kw : Nat} {val : Str → Int}
    (hs0 : clean (Txt.swapcase n0)) (hs1' : clean (Txt.swapcase n1)) (hs2' : clean (Txt.swapcase n2)) (hz0 : (Txt.swapcase n0).cps.size < 2 ^ 20) (hz1 : (Txt.swapcase n1).cps.size < 2 ^ 20) (hz2 : (Txt.swapcase n2).cps.size < 2 ^ 20)
    (hn0 : n0.length ≤ 1000) (hn1 : n1.length ≤ 1000) (hn2 : n2.length ≤ 1000)
    (hw0 : -(10 ^ 9) < w0 ∧ w0 < 10 ^ 9) (hw1 : -(10 ^ 9) < w1 ∧ w1 < 10 ^ 9) (hw2 : -(10 ^ 9) < w2 ∧ w2 < 10 ^ 9)
    (hc0 : clean (Str.ofString (toString w0))) (hc1' : clean (Str.ofString (toString w1))) (hc2 : clean (Str.ofString (toString w2)))
    (hk0 : (Str.ofString (toString w0)).cps.size < 2 ^ 20) (hk1 : (Str.ofString (toString w1)).cps.size < 2 ^ 20) (hk2 : (Str.ofString (toString w2)).cps.size < 2 ^ 20)
    (hb0 : 0 ≤ f0 ∧ f0 ≤ 8) (hb1 : 0 ≤ f1 ∧ f1 ≤ 128) (hb2 : 0 ≤ f2 ∧ f2 ≤ 2048)
    (hnm : ∀ i < 8, (Txt.join (Str.ofString ", ") (nmF f0 f1 f2 i)).length ≤ 1000 ∧ Txt.split (Txt.join (Str.ofString ", ") (nmF f0 f1 f2 i)) (Str.ofString ", ") = nmF f0 f1 f2 i ∧ (nmF f0 f1 f2 i).length ≤ 3 ∧
      ∀ nm ∈ nmF f0 f1 f2 i, (clean (Txt.lower nm) ∧ (Txt.lower nm).cps.size < 2 ^ 20 ∧ nm.length ≤ 1000 ∧ clean nm ∧ nm.cps.size < 2 ^ 20) ∧
        hfind (houseF n0 n1 n2 w0 w1 w2) nm = some (Str.ofString (toString (val nm))) ∧ PySem.intText? (Str.ofString (toString (val nm))) = some (val nm) ∧ (Str.ofString (toString (val nm))).length ≤ 640)
    (h655 : 655 ≤ s.toks) (hhl : ∀ r ∈ houseF n0 n1 n2 w0 w1 w2, r.1.length ≤ 1000)
    (B : Below A₀ base outer h₀) (F : Fr h₀ L s.heap m) (X : (hk.heap_1 w.params).In h₀) (N : News h₀ L s.heap ((ln, listOf #[.str n0 t0, .str n1 t1, .str n2 t2] kn) :: (lf, listOf #[.int f0 tf0, .int f1 tf1, .int f2 tf2] kf) :: (lw, listOf #[.int w0 tw0, .int w1 tw1, .int w2 tw2] kw) :: news)) (T : Top vw61 LL mean mg mb h₀) (hd : dp + 7 < recursionLimit) (hu : un + 70 < cLine)
    (hret : ∀ xt dt lt h1 kk1 its k tl' h' tk', Fr h₀ L h' m → News h₀ L h' (((xt, instObj 219 dt) :: (dt, hdrDict h1 kk1 lt) :: (lt, listOf its k) :: tl') ++ ((ln, listOf #[.str n0 t0, .str n1 t1, .str n2 t2] kn) :: (lf, listOf #[.int f0 tf0, .int f1 tf1, .int f2 tf2] kf) :: (lw, listOf #[.int w0 tw0, .int w1 tw1, .int w2 tw2] kw) :: news)) →
      (∀ p ∈ (xt, instObj 219 dt) :: (dt, hdrDict h1 kk1 lt) :: (lt, listOf its k) :: tl', ∀ r ∈ (ln, listOf #[.str n0 t0, .str n1 t1, .str n2 t2] kn) :: (lf, listOf #[.int f0 tf0, .int f1 tf1, .int f2 tf2] kf) :: (lw, listOf #[.int w0 tw0, .int w1 tw1, .int w2 tw2] kw) :: news, @LT.lt Nat _ r.1 p.1) →
      s.toks ≤ tk' → Rows (tkP s.toks tk') tl' its.toList (tabF f0 f1 f2 q val 8) → its.size ≤ 32 → Q (.ref xt) { s with heap := h', toks := tk' }) :
    wpAny (model prog w) (ktrTop dp un gd cn ⟨.function, nms, ig, ic, mr⟩ L a ccd cl outer) (call (.ref 228) [.ref ln, .ref lf, .ref lw, .int q tq]) Q E s := by
  w_strict (refine wpAny_call ?_; k_dflt k_enter; k_go)
  refine ⟨?_⟩
  rename Fr _ _ _ _ => F9
  rename News _ _ _ _ => N9
  obtain ⟨L2, hL2⟩ := named F9
  subst hL2
  have e1 : ln < L2 ∧ lf < L2 ∧ lw < L2 ∧ AllLt L2 news := by assumption
  have eL : ∀ p ∈ news, @LT.lt Nat _ p.1 L2 := allLt_mem e1.2.2.2
  refine wpAny_keep (by first | assumption | exact Nat.le_add_right_of_le (by assumption)) ?_
  refine new_k (by assumption) F9 (by assumption) N9 (by assumption) (by ktr_room) (by ktr_units) (fun xh dh lh h2 kk2 hp1 tk1 F1 N1 g1 g2 g3 hk1' => ?_)
  dsimp only at hk1'
  clear F9 N9
  w_strict ((try k_unmd); (try k_fold); k_go)
  refine ⟨?_⟩
  w_strict k_steps
  refine ⟨?_⟩
  rename Fr _ _ _ _ => F9
  rename News _ _ _ _ => N9
  rename _ ∧ _ ∧ _ ∧ _ ∧ _ ∧ _ ∧ _ ∧ _ ∧ _ ∧ _ ∧ AllLt _ news => q1
  rename _ ∧ _ ∧ _ ∧ _ ∧ _ ∧ _ ∧ _ ∧ _ ∧ AllLt _ news => q2
  have N3 := pickT 11 [6, 0, 2, 4, 5, 7, 8, 9, 10] N9
  change News _ _ _ (_ :: _ :: _ :: _ :: _ :: _ :: _ :: _ :: _ :: news) at N3
  have hc1 : clean (Txt.swapcase (Str.ofString "0x0")) ∧ (Txt.swapcase (Str.ofString "0x0")).cps.size < 2 ^ 20 := by
    refine ⟨?_, ?_⟩
    · show ∀ c ∈ _, _
      decide +kernel
    · decide +kernel
  k_dflt (refine ktu_zip (xs := [.str (Str.ofString "0x0") _, .str n0 t0, .str n1 t1, .str n2 t2]) (ys := [.int 0 _, .int w0 tw0, .int w1 tw1, .int w2 tw2]) rfl F9 N3 (.tail _ (.tail _ (.head _))) rfl rfl (.tail _ (.head _)) rfl rfl ?_)
  intro I hI
  refine items_J (fun m₁ n₁ j m₂ n₂ => (∀ z, z ≠ Str.ofString "name" → z ≠ Str.ofString "weight" → m₂ z = m₁ z) ∧ ∃ its' k' tl', n₂ = (lh, listOf its' k') :: (_, _) :: (_, _) :: (xh, instObj 219 dh) :: (dh, hdrDict h2 kk2 lh) :: (_, _) :: (ln, listOf #[.str n0 t0, .str n1 t1, .str n2 t2] kn) :: (lf, listOf #[.int f0 tf0, .int f1 tf1, .int f2 tf2] kf) :: (lw, listOf #[.int w0 tw0, .int w1 tw1, .int w2 tw2] kw) :: tl' ∧
        (∀ p ∈ news, p ∈ tl') ∧ (∀ p ∈ tl', (@LT.lt Nat _ p.1 I ∨ @LT.lt Nat _ (I + 4) p.1) ∧ p.1 ≠ lh ∧ p.1 ≠ L2 + 1) ∧ Rows (fun _ => True) tl' its'.toList ((houseF n0 n1 n2 w0 w1 w2).take j) ∧ its'.size = j)
        ⟨fun _ _ _ => rfl, #[], 0, news, rfl, fun p h => h, fun p h => ⟨.inl (hI p (by repeat (first | exact h | refine List.Mem.tail _ ?_))), ?hl0, Nat.ne_of_lt (Nat.lt_succ_of_lt (eL p h))⟩, .nil, rfl⟩ ?turn ?done
  case hl0 => exact Nat.ne_of_lt (Nat.lt_trans (Nat.lt_trans (g1 p (by repeat (first | exact h | refine List.Mem.tail _ ?_))) g2) g3)
  case turn =>
    rintro j a ha m₂ n₂ ⟨hm2, its', k', tl', rfl, hs1, hs2, hR', hsz'⟩ v' h tk hv F
    have hN3 := hI
    have hx : ∃ nm t wv t2, a = .pair (fun _ => .str nm t) (.int wv t2) ∧ (houseF n0 n1 n2 w0 w1 w2)[j]? = some (Txt.swapcase nm, Str.ofString (toString wv)) ∧ clean (Txt.swapcase nm) ∧ (Txt.swapcase nm).cps.size < 2 ^ 20 ∧ nm.length ≤ 1000 ∧ (-(10 ^ 9) < wv ∧ wv < 10 ^ 9) ∧ clean (Str.ofString (toString wv)) ∧ (Str.ofString (toString wv)).cps.size < 2 ^ 20 := by
      rcases j with _ | _ | _ | _ | j
      · exact ⟨_, _, _, _, (Option.some.inj ha).symm, rfl, hc1.1, hc1.2, by decide +kernel, by decide, idig 0⟩
      · exact ⟨_, _, _, _, (Option.some.inj ha).symm, rfl, hs0, hz0, hn0, hw0, hc0, hk0⟩
      · exact ⟨_, _, _, _, (Option.some.inj ha).symm, rfl, hs1', hz1, hn1, hw1, hc1', hk1⟩
      · exact ⟨_, _, _, _, (Option.some.inj ha).symm, rfl, hs2', hz2, hn2, hw2, hc2, hk2⟩
      · exact absurd (show (none : Option Itm) = some a from ha) (fun e => nomatch e)
    obtain ⟨nm, t, wv, t2, rfl, hrow, c1, c2, c3, c4, c5, c6⟩ := hx
    obtain ⟨T, t', rfl, hT⟩ := hv
    refine AllObj.cons (fun o1 hc1 => AllObj.cons (fun o2 hc2 => AllObj.cons (fun o3 hc3 => AllObj.cons (fun o4 hc4 => AllObj.cons (fun o5 hc5 => AllObj.nil (fun N' => ?_))))))
    simp only [List.cons_append, List.nil_append] at N'
    rw [show m₂ = upd2 (Str.ofString "name") (Str.ofString "weight") (m₂ (Str.ofString "name")) (m₂ (Str.ofString "weight")) _ from agree2 hm2] at F
    clear F9 N3 N9
    w_strict ((try k_unmd); (try k_fold); k_steps)
    refine ⟨?_⟩
    rename Fr _ _ _ _ => F9
    rename News _ _ _ _ => N9
    have hlI : @LT.lt Nat _ lh I := hN3 _ (.head _)
    refine add_k (its := its') (n := k') (by rw [hsz']; have := (List.getElem?_eq_some_iff.mp hrow).1; simp [houseF] at this; omega) c5 c6 c1 c2 (by repeat (first | exact List.Mem.head _ | refine List.Mem.tail _ ?_)) (by repeat (first | exact List.Mem.head _ | refine List.Mem.tail _ ?_))
      (UpdF.tail ?u1 (UpdF.tail ?u2 (UpdF.tail ?u3 (UpdF.tail ?u4 (UpdF.tail ?u5 (UpdF.head ?hoff)))))) (by assumption) F9 (by assumption) N9 (by assumption) (by ktr_room) (by ktr_units) (fun t tk2 h3 tk3 F3 N3 l3 => ?_)
    case u1 => exact Nat.ne_of_gt (Nat.lt_of_lt_of_le hlI (Nat.le_add_right I 4))
    case u2 => exact Nat.ne_of_gt (Nat.lt_of_lt_of_le hlI (Nat.le_add_right I 2))
    case u3 => exact Nat.ne_of_gt (Nat.lt_of_lt_of_le hlI (Nat.le_add_right I 3))
    case u4 => exact Nat.ne_of_gt hlI
    case u5 => exact Nat.ne_of_gt (Nat.lt_of_lt_of_le hlI (Nat.le_add_right I 1))
    case hoff =>
      intro p hp
      rcases List.mem_cons.mp hp with rfl | hp
      · exact Nat.ne_of_gt q1.2.2.2.2.2.1
      rcases List.mem_cons.mp hp with rfl | hp
      · exact Nat.ne_of_gt q2.2.2.2.1
      rcases List.mem_cons.mp hp with rfl | hp
      · exact Nat.ne_of_lt g3
      rcases List.mem_cons.mp hp with rfl | hp
      · exact Nat.ne_of_lt (Nat.lt_trans g2 g3)
      have hp2 : p ∈ [_, _, _, _] ++ tl' := hp
      rcases List.mem_append.mp hp2 with hp3 | hp3
      · exact Nat.ne_of_lt (Nat.lt_trans (Nat.lt_trans (g1 p (List.mem_append_left news hp3)) g2) g3)
      · exact (hs2 p hp3).2.1
    have hall := allLt_mem l3
    have hIt : @LT.lt Nat _ (I + 4) t := hall (I + 4, o1) (.head _)
    have hlt : @LT.lt Nat _ lh t := Nat.lt_of_lt_of_le hlI (Nat.le_of_lt (Nat.lt_of_le_of_lt (Nat.le_add_right I 4) hIt))
    have hct : @LT.lt Nat _ (L2 + 1) t := hall (L2 + 1, _) (by repeat (first | exact List.Mem.head _ | refine List.Mem.tail _ ?_))
    clear F9 N9 l3 hall
    w_strict ((try k_unmd); (try k_fold); k_steps)
    rename Fr _ _ _ _ => F9
    rename News _ _ _ _ => N9
    have N11 := pickT 15 [1, 2, 3, 4, 5, 6, 7, 8, 9, 10, 11, 12, 13, 14, 0] N9
    refine ⟨_, _, _, _, rfl, F9, N11, fun p hp r hr e => ?_, ⟨.tail _ (.tail _ (.head _)), .tail _ (.head _), trivial⟩, ?hm, its'.push (.ref t), k' + 1, (t, _) :: tl', rfl, fun p hp => .tail _ (hs1 p hp), ?h2, ?h4, by rw [Array.size_push]; omega⟩
    · have hr' : @LE.le Nat _ I r.1 ∧ @LE.le Nat _ r.1 (I + 4) := by
        simp only [List.mem_cons, List.not_mem_nil, or_false] at hr
        rcases hr with rfl | rfl | rfl | rfl | rfl
        · exact ⟨Nat.le_add_right I 4, Nat.le_refl _⟩
        · exact ⟨Nat.le_add_right I 2, Nat.add_le_add_left (by decide) I⟩
        · exact ⟨Nat.le_add_right I 3, Nat.add_le_add_left (by decide) I⟩
        · exact ⟨Nat.le_refl I, Nat.le_add_right I 4⟩
        · exact ⟨Nat.le_add_right I 1, Nat.add_le_add_left (by decide) I⟩
      have hp' : @LT.lt Nat _ p.1 I ∨ @LT.lt Nat _ (I + 4) p.1 := by
        rcases List.mem_cons.mp hp with rfl | hp
        · exact .inl hlI
        have hp2 : p ∈ [_, _, _, _, _, _, _, _] ++ ((t, _) :: tl') := hp
        rcases List.mem_append.mp hp2 with hp3 | hp3
        · exact .inl (hN3 p (List.mem_cons_of_mem _ (List.mem_append_left news hp3)))
        rcases List.mem_cons.mp hp3 with rfl | hp3
        · exact .inr hIt
        · exact (hs2 p hp3).1
      rw [e] at hp'
      rcases hp' with hp' | hp'
      · exact Nat.lt_irrefl _ (Nat.lt_of_lt_of_le hp' hr'.1)
      · exact Nat.lt_irrefl _ (Nat.lt_of_lt_of_le hp' hr'.2)
    case hm =>
      intro z g1 g2
      simp only [upd2, if_neg g1, if_neg g2]
    case h2 =>
      intro p hp
      rcases List.mem_cons.mp hp with rfl | hp
      · exact ⟨.inr hIt, Nat.ne_of_gt hlt, Nat.ne_of_gt hct⟩
      · exact hs2 p hp
    case h4 =>
      rw [Array.toList_push, List.take_add_one, hrow]
      exact (hR'.mono fun p hp => .tail _ hp).snoc (.head _) trivial
  case done =>
    rintro m₂ n₂ h tk ⟨hm2, its', k', tl', rfl, hs1, hs2, hR', hsz'⟩ F N
    clear F9 N3 N9
    rw [show m₂ = upd2 (Str.ofString "name") (Str.ofString "weight") (m₂ (Str.ofString "name")) (m₂ (Str.ofString "weight")) _ from agree2 hm2] at F
    w_strict ((try k_unmd); (try k_fold); k_go)
    refine ⟨?_⟩
    rename Fr _ _ _ _ => F9
    rename News _ _ _ _ => N9
    refine wpAny_keep (by first | assumption | exact Nat.le_add_right_of_le (by assumption)) ?_
    refine new_k (by assumption) F9 (by assumption) N9 (by assumption) (by ktr_room) (by ktr_units) (fun xt dt lt h1 kk1 hp2 tk2 F2 N2 g4 g5 g6 hk2' => ?_)
    dsimp only at hk2'
    clear F9 N9
    w_strict ((try k_unmd); (try k_fold); k_go)
    rename Fr _ _ _ _ => F9
    rename News _ _ _ _ => N9
    rename IsRange _ _ _ _ _ _ _ _ => R9
    have N3 := pickT 12 [2, 8, 0, 1, 6, 7, 3, 10, 9, 11] N9
    change News _ _ _ (_ :: (L2 + 1, _) :: _ :: _ :: _ :: _ :: _ :: _ :: (ln, listOf #[.str n0 t0, .str n1 t1, .str n2 t2] kn) :: (lw, listOf #[.int w0 tw0, .int w1 tw1, .int w2 tw2] kw) :: tl') at N3
    have k1 : @LT.lt Nat _ (L2 + 1) dt := g4 (L2 + 1, _) (by repeat (first | exact List.Mem.head _ | refine List.Mem.tail _ ?_))
    have k2 : @LT.lt Nat _ (L2 + 1) dh := g1 (L2 + 1, _) (.head _)
    have k3 : @LT.lt Nat _ lh dt := g4 (lh, listOf its' k') (.head _)
    have k4 : @LT.lt Nat _ dh dt := g4 (dh, hdrDict h2 kk2 lh) (by repeat (first | exact List.Mem.head _ | refine List.Mem.tail _ ?_))
    have k5 : @LT.lt Nat _ xh dt := g4 (xh, instObj 219 dh) (by repeat (first | exact List.Mem.head _ | refine List.Mem.tail _ ?_))
    have k6 : @LT.lt Nat _ lf L2 := e1.2.1
    have k7 : @LT.lt Nat _ ln L2 := e1.1
    have k8 : @LT.lt Nat _ lw L2 := e1.2.2.1
    have k9 : ∀ p ∈ tl', @LT.lt Nat _ p.1 dt := fun p hp => g4 p (by repeat (first | exact hp | refine List.Mem.tail _ ?_))
    have hdt : @LT.lt Nat _ dt lt := Nat.lt_trans g5 g6
    have hR4 : Rows (fun _ => True) tl' its'.toList (houseF n0 n1 n2 w0 w1 w2) := hR'
    clear hR'
    have hdt2 : @LT.lt Nat _ L2 lt := Nat.lt_trans (Nat.lt_succ_self L2) (Nat.lt_trans k1 hdt)
    k_dflt (refine pyIter_rangeT (n := 8) rfl R9 (by decide) F9 N3 (by passes_own) (fun m₁ n₁ i m₂ n₂ tk5 => s.toks ≤ tk5 ∧ (∀ z, z ≠ Str.ofString "members" → z ≠ Str.ofString "total" → z ≠ Str.ofString "name" → m₂ z = m₁ z) ∧ ∃ jts k2 oc tl2, n₂ = (lt, listOf jts k2) :: (L2 + 1, oc) :: (xt, instObj 219 dt) :: (dt, hdrDict h1 kk1 lt) :: (xh, instObj 219 dh) :: (dh, hdrDict h2 kk2 lh) :: (lh, listOf its' k') :: (lf, listOf #[.int f0 tf0, .int f1 tf1, .int f2 tf2] kf) :: tl2 ∧ (∃ v0, oc.data = .cell v0) ∧ (∀ p ∈ (ln, listOf #[.str n0 t0, .str n1 t1, .str n2 t2] kn) :: (lw, listOf #[.int w0 tw0, .int w1 tw1, .int w2 tw2] kw) :: tl', p ∈ tl2) ∧ (∀ p ∈ tl2, p.1 ≠ lt ∧ p.1 ≠ L2 + 1) ∧ (∀ t, Value.ref t ∈ jts.toList → @LT.lt Nat _ L2 t) ∧ Rows (tkP s.toks tk5) tl2 jts.toList (tabF f0 f1 f2 q val i) ∧ jts.size ≤ 4 * i) ?h0 ?mono ?turn ?done)
    case mono =>
      rintro i m₃ n₃ ta tb hle ⟨c1, c2, jts, k3', oc, tl2, c3, c4, c5, c6, c7, c8, c9⟩
      exact ⟨Nat.le_trans c1 hle, c2, jts, k3', oc, tl2, c3, c4, c5, c6, c7, c8.imp fun t p => p.mono hle, c9⟩
    case h0 =>
      refine ⟨by assumption, fun _ _ _ _ => rfl, #[], 0, _, _, rfl, ⟨_, by assumption⟩, fun p h => h, fun p h => ?_, fun t h => (nomatch h), .nil, Nat.le_refl _⟩
      rcases List.mem_cons.mp h with rfl | h
      · exact ⟨Nat.ne_of_lt (Nat.lt_trans k7 (Nat.lt_trans (Nat.lt_succ_self L2) (Nat.lt_trans k1 hdt))), Nat.ne_of_lt (Nat.lt_succ_of_lt k7)⟩
      rcases List.mem_cons.mp h with rfl | h
      · exact ⟨Nat.ne_of_lt (Nat.lt_trans k8 (Nat.lt_trans (Nat.lt_succ_self L2) (Nat.lt_trans k1 hdt))), Nat.ne_of_lt (Nat.lt_succ_of_lt k8)⟩
      · exact ⟨Nat.ne_of_lt (Nat.lt_trans (k9 p h) hdt), (hs2 p h).2.2⟩
    case turn =>
      rintro I2 hI2 i hi t' h tk m₃ n₃ ⟨hlk, hm3, jts, k3', oc, tl2, rfl, ⟨v0, hoc⟩, hs3, hs4, hs9, hR5, hz5⟩ hoff F N
      clear F9 N9
      have N4 := pickT 9 [1, 2, 3, 4, 5, 6, 7, 8, 0] N
      change News _ _ _ ((lt, listOf jts k3') :: (L2 + 1, oc) :: (xt, instObj 219 dt) :: (dt, hdrDict h1 kk1 lt) :: (xh, instObj 219 dh) :: (dh, hdrDict h2 kk2 lh) :: (lh, listOf its' k') :: (lf, listOf #[.int f0 tf0, .int f1 tf1, .int f2 tf2] kf) :: (I2, itR _ _) :: tl2) at N4
      have j1 : @LT.lt Nat _ lt I2 := hI2 (lt, listOf #[] 0) (.head _)
      have j2 : @LT.lt Nat _ (L2 + 1) I2 := Nat.lt_trans k1 (Nat.lt_trans hdt j1)
      have hcm := N4 (L2 + 1, oc) (.tail _ (.head _))
      refine wpAny_assign_Name (wpAny_storeName_cell (c := L2 + 1) (by rfl) (by rfl) (by rfl) ⟨oc, hcm.1, hoc⟩ fun h3 hc3 hs5 => ?_)
      obtain ⟨o3, ho3, hd3⟩ := hc3
      have N5 := news_cell [(lt, listOf jts k3')] (o := oc) N4 hs5 ho3 ?hpre ?hpost
      case hpre =>
        intro p hp
        rw [List.mem_singleton.mp hp]
        exact Nat.ne_of_gt (Nat.lt_trans k1 hdt)
      case hpost =>
        intro p hp
        rcases List.mem_cons.mp hp with rfl | hp
        · exact Nat.ne_of_gt (Nat.lt_trans k1 g5)
        rcases List.mem_cons.mp hp with rfl | hp
        · exact Nat.ne_of_gt k1
        rcases List.mem_cons.mp hp with rfl | hp
        · exact Nat.ne_of_gt (Nat.lt_trans k2 g2)
        rcases List.mem_cons.mp hp with rfl | hp
        · exact Nat.ne_of_gt k2
        rcases List.mem_cons.mp hp with rfl | hp
        · exact Nat.ne_of_gt (Nat.lt_trans k2 (Nat.lt_trans g2 g3))
        rcases List.mem_cons.mp hp with rfl | hp
        · exact Nat.ne_of_lt (Nat.lt_succ_of_lt k6)
        rcases List.mem_cons.mp hp with rfl | hp
        · exact Nat.ne_of_gt j2
        · exact (hs4 p hp).2
      have F5 := F.change hs5 hcm.2.1 hcm.2.2
      have hmF : m₃ = (fun z => if z = Str.ofString "flags" then some (.ref lf) else if z = Str.ofString "house" then some (.ref xh) else if z = Str.ofString "table" then some (.ref xt) else if z = Str.ofString "quota" then some (.int q tq) else m₃ z) := by
        funext z
        split
        · rename_i e; rw [e]; exact (hm3 _ (by decide) (by decide) (by decide)).trans rfl
        split
        · rename_i e; rw [e]; exact (hm3 _ (by decide) (by decide) (by decide)).trans rfl
        split
        · rename_i e; rw [e]; exact (hm3 _ (by decide) (by decide) (by decide)).trans rfl
        split
        · rename_i e; rw [e]; exact (hm3 _ (by decide) (by decide) (by decide)).trans rfl
        · rfl
      obtain ⟨y1, y2, y3, y4⟩ := hnm i hi
      k_dflt (refine turn_k (lo := s.toks) (m₀ := m₃) (rs := tabF f0 f1 f2 q val i) (hrows := houseF n0 n1 n2 w0 w1 w2) (val := val) (names := nmF f0 f1 f2 i) i hi hlk h655 hb0 hb1 hb2 hd3 y1 y2 y3 (fun nm h => (y4 nm h).1) (fun nm h => (y4 nm h).2) hhl (by omega) ?hne ?hne2 (hR5.mono fun p hp => .tail _ hp) ((hR4.mono fun p hp => hs3 p (.tail _ (.tail _ hp))).mono fun p hp => .tail _ hp) (by assumption) (by rw [← hmF]; exact F5) (by assumption) N5 (by assumption) (by ktr_room) (by ktr_units) (by passes_own) (fun its6 kt6 tl6 m6 h6 tk6 hm6 F6 N6 hs6 hs7 hs8 hk6 hR6 hs10 hz6 => ?_))
      case hne =>
        intro b hb
        simp only [List.mem_cons, List.not_mem_nil, or_false] at hb
        rcases hb with rfl | rfl | rfl | rfl | rfl | rfl | rfl
        · exact Nat.ne_of_lt (Nat.lt_trans k1 hdt)
        · exact Nat.ne_of_lt g6
        · exact Nat.ne_of_lt hdt
        · exact Nat.ne_of_lt (Nat.lt_trans k5 hdt)
        · exact Nat.ne_of_lt (Nat.lt_trans k4 hdt)
        · exact Nat.ne_of_lt (Nat.lt_trans k3 hdt)
        · exact Nat.ne_of_lt (Nat.lt_trans k6 hdt2)
      case hne2 =>
        intro p hp
        rcases List.mem_cons.mp hp with rfl | hp
        · exact Nat.ne_of_gt j1
        · exact (hs4 p hp).1
      have hI6 := hs6 _ (.head _)
      have hlI : ∀ p ∈ tl6, p.1 = I2 ∨ (p ∈ tl2 ∧ p.1 ≠ I2) ∨ @LT.lt Nat _ I2 p.1 := fun p hp => by
        rcases hs7 p hp with h | h
        · rcases List.mem_cons.mp h with rfl | h
          · exact .inl rfl
          · exact .inr (.inl ⟨h, hoff p (by repeat (first | exact h | refine List.Mem.tail _ ?_))⟩)
        · exact .inr (.inr (h _ (.head _)))
      dsimp only [PostT]
      refine ⟨h6, tk6, m6, (lt, listOf its6 kt6) :: (L2 + 1, o3) :: (xt, instObj 219 dt) :: (dt, hdrDict h1 kk1 lt) :: (xh, instObj 219 dh) :: (dh, hdrDict h2 kk2 lh) :: (lh, listOf its' k') :: (lf, listOf #[.int f0 tf0, .int f1 tf1, .int f2 tf2] kf) :: tl6.filter (fun p => decide (p.1 ≠ I2)), rfl, F6, ?hN, ?off, Nat.le_trans hlk hk6, ?hm, its6, kt6, o3, tl6.filter (fun p => decide (p.1 ≠ I2)), rfl, ⟨_, hd3⟩, ?a1, ?a2, ?a3, ?a4, ?a5⟩
      case hN =>
        intro p hp
        rcases List.mem_cons.mp hp with rfl | hp
        · exact N6 _ (by repeat (first | exact hI6 | refine List.Mem.tail _ ?_))
        have hp2 : p ∈ [_, _, _, _, _, _, _, _] ++ tl6.filter (fun p => decide (p.1 ≠ I2)) := hp
        refine N6 p ?_
        rcases List.mem_append.mp hp2 with h | h
        · exact List.mem_append_left tl6 h
        · have h' := (List.mem_filter.mp h).1
          repeat (first | exact h' | refine List.Mem.tail _ ?_)
      case off =>
        intro p hp r hr
        rw [List.mem_singleton.mp hr]
        have hp2 : p ∈ [_, _, _, _, _, _, _, _] ++ tl6.filter (fun p => decide (p.1 ≠ I2)) := hp
        rcases List.mem_append.mp hp2 with h | h
        · simp only [List.mem_cons, List.not_mem_nil, or_false] at h
          rcases h with rfl | rfl | rfl | rfl | rfl | rfl | rfl | rfl
          · exact Nat.ne_of_lt j1
          · exact Nat.ne_of_lt j2
          · exact Nat.ne_of_lt (Nat.lt_trans g6 j1)
          · exact Nat.ne_of_lt (Nat.lt_trans hdt j1)
          · exact Nat.ne_of_lt (Nat.lt_trans (Nat.lt_trans k5 hdt) j1)
          · exact Nat.ne_of_lt (Nat.lt_trans (Nat.lt_trans k4 hdt) j1)
          · exact Nat.ne_of_lt (Nat.lt_trans (Nat.lt_trans k3 hdt) j1)
          · exact Nat.ne_of_lt (Nat.lt_trans (Nat.lt_trans k6 hdt2) j1)
        · exact of_decide_eq_true (List.mem_filter.mp h).2
      case hm =>
        intro z c1 c2 c3
        exact (hm6 z c1 c2 c3).trans ((congrFun hmF z).symm.trans (hm3 z c1 c2 c3))
      case a1 =>
        intro p hp
        exact List.mem_filter.mpr ⟨hs6 p (.tail _ (hs3 p hp)), decide_eq_true (hoff p (by have h := hs3 p hp; repeat (first | exact h | refine List.Mem.tail _ ?_)))⟩
      case a2 =>
        intro p hp
        obtain ⟨h, hne⟩ := List.mem_filter.mp hp
        refine ⟨hs8 p h, ?_⟩
        rcases hlI p h with e | h | h
        · exact absurd e (of_decide_eq_true hne)
        · exact (hs4 p h.1).2
        · exact Nat.ne_of_gt (Nat.lt_trans j2 h)
      case a3 =>
        intro t h
        rcases hs10 t h with h | h
        · exact hs9 t h
        · exact Nat.lt_trans hdt2 h
      case a4 =>
        refine Rows.mono' (n1 := tl6) hR6 (fun t a b ta tb _ h => List.mem_filter.mpr ⟨h, decide_eq_true (fun e => ?_)⟩)
        have c1 := (N6 _ (List.mem_append_right [_, _, _, _, _, _, _, _] h)).1
        have c2 := (N6 _ (List.mem_append_right [_, _, _, _, _, _, _, _] hI6)).1
        have e' : t = I2 := e
        subst e'
        rw [c2] at c1
        have c3 := congrArg Obj.cls (Option.some.inj c1)
        injection c3 with c3
        exact absurd c3 (by decide)
      case a5 => omega
    case done =>
      rintro m₃ n₃ h tk ⟨hlk, hm3, jts, k3', oc, tl2, rfl, ⟨v0, hoc⟩, hs3, hs4, hs9, hR5, hz5⟩ F N
      have hkk := Nat.le_refl tk
      clear F9 N9
      have hmT : m₃ = (fun z => if z = Str.ofString "table" then some (.ref xt) else m₃ z) := by
        funext z
        split
        · rename_i e; rw [e]; exact (hm3 _ (by decide) (by decide) (by decide)).trans rfl
        · rfl
      rw [hmT] at F
      w_strict ((try k_unmd); (try k_fold); k_go)
      rename Fr h₀ L _ _ => F9
      rename tk ≤ _ => hkf
      rename News h₀ L _ _ => N9
      have hnw : ∀ p ∈ news, p ∈ tl2 := fun p hp => hs3 p (.tail _ (.tail _ (hs1 p hp)))
      refine hret xt dt lt h1 kk1 jts k3' (tl2.filter fun p => decide (@LT.lt Nat _ L2 p.1)) _ _ F9 ?gN ?gf (Nat.le_trans hlk hkf) ?gr (by omega)
      case gN =>
        intro p hp
        refine N9 p ?_
        rcases List.mem_append.mp hp with hp | hp
        · rcases List.mem_cons.mp hp with rfl | hp
          · repeat (first | exact List.Mem.head _ | refine List.Mem.tail _ ?_)
          rcases List.mem_cons.mp hp with rfl | hp
          · repeat (first | exact List.Mem.head _ | refine List.Mem.tail _ ?_)
          rcases List.mem_cons.mp hp with rfl | hp
          · repeat (first | exact List.Mem.head _ | refine List.Mem.tail _ ?_)
          · exact List.mem_append_right [_, _, _, _, _, _, _, _] (List.mem_filter.mp hp).1
        · rcases List.mem_cons.mp hp with rfl | hp
          · exact List.mem_append_right [_, _, _, _, _, _, _, _] (hs3 _ (.head _))
          rcases List.mem_cons.mp hp with rfl | hp
          · repeat (first | exact List.Mem.head _ | refine List.Mem.tail _ ?_)
          rcases List.mem_cons.mp hp with rfl | hp
          · exact List.mem_append_right [_, _, _, _, _, _, _, _] (hs3 _ (.tail _ (.head _)))
          · exact List.mem_append_right [_, _, _, _, _, _, _, _] (hnw p hp)
      case gf =>
        intro p hp r hr
        have hr' : @LT.lt Nat _ r.1 L2 := by
          rcases List.mem_cons.mp hr with rfl | hr
          · exact k7
          rcases List.mem_cons.mp hr with rfl | hr
          · exact k6
          rcases List.mem_cons.mp hr with rfl | hr
          · exact k8
          · exact eL r hr
        refine Nat.lt_trans hr' ?_
        rcases List.mem_cons.mp hp with rfl | hp
        · exact Nat.lt_trans (Nat.lt_trans (Nat.lt_succ_self L2) k1) g5
        rcases List.mem_cons.mp hp with rfl | hp
        · exact Nat.lt_trans (Nat.lt_succ_self L2) k1
        rcases List.mem_cons.mp hp with rfl | hp
        · exact hdt2
        · exact of_decide_eq_true (List.mem_filter.mp hp).2
      case gr =>
        exact (hR5.imp fun t p => p.mono hkf).mono' fun t a b ta tb ht hm => List.mem_filter.mpr ⟨hm, decide_eq_true (hs9 t ht)⟩
end
end
section
open PySem PySem.W PyProof.Rows PySem.Spec PySem.Calls
section
variable {w : World} {mean : ExcName → Option Value} {mg mb : Str → Option Value} {dp un : Nat} {gd : Option (List Code)} {cn : Str} {nms : List (Str × NameKind)} {ig ic : Bool} {mr : List (Str × Const)} {a : Addr} {ccd : Value} {cl : List (Str × Addr)} {outer : List Env} {A₀ : Around} {base h₀ : Heap} {L : Addr} {m : Str → Option Value} {s : Shared} {Q E : Value → Shared → Prop} {news : List (Addr × Obj)}
theorem keys_k {P : Tok → Prop} {x dx l : Addr} {hsh : Int} {kk : Tok} {its : Array Value} {n : Nat} {rs : List (Str × Str)} (hr : Rows P news its.toList rs) (hz : its.size ≤ 1000)
    (hx : (x, instObj 219 dx) ∈ news) (hdx : (dx, hdrDict hsh kk l) ∈ news) (hlm : (l, listOf its n) ∈ news)
    (B : Below A₀ base outer h₀) (F : Fr h₀ L s.heap m) (X : (hk.heap_1 w.params).In h₀) (N : News h₀ L s.heap news) (T : Top vw61 LL mean mg mb h₀) (hd : dp + 2 < recursionLimit) (hu : un + 20 < cLine)
    (hret : ∀ D ys k h' tk', StrsP P ys (rs.map (·.1)) → Fr h₀ L h' m → News h₀ L h' ((D, listOf ys.toArray k) :: news) → (∀ p ∈ news, p.1 ≠ D) → Q (.ref D) { s with heap := h', toks := tk' }) :
    wpAny (model prog w) (ktrTop dp un gd cn ⟨.function, nms, ig, ic, mr⟩ L a ccd cl outer) (call (.ref 171) [.ref x]) Q E s := by
  obtain ⟨qs, hits, hrs, hq⟩ := hr.quads
  w_strict (refine wpAny_call ?_; k_dflt k_enter; k_steps)
  refine ⟨?_⟩
  rename Fr _ _ _ _ => F9
  rename News _ _ _ _ => N9
  have hlen : qs.length ≤ 1000 := by
    have := congrArg List.length hits
    simp at this
    omega
  k_dflt (refine at_quads (qs := qs) (n := n) rfl F9 N9 hlm rfl ?hd (Nat.le_trans hlen (by decide)) (fun q h => (hq q h).1) (frm_pair rfl ?fr (by decide) rfl rfl rfl (by decide)) (fun i ys n₁ => n₁ = news ∧ StrsP P ys ((qs.take i).map (·.a))) ⟨rfl, .nil⟩ ?turn ?fin)
  case hd => rw [← hits]
  case fr =>
    intro a ha
    obtain ⟨q, -, e⟩ := List.mem_map.mp ha
    exact ⟨_, _, e.symm⟩
  case turn =>
    rintro I C D hI i a ha ys n₁ ⟨rfl, hys⟩ hyl hoff v l' h tk E' hK F
    rw [List.getElem?_map] at ha
    obtain ⟨q, g1, g2⟩ := Option.map_eq_some_iff.mp ha
    obtain ⟨f, t, y, oC, m₂, e1, rfl, hC, hx, hy⟩ := hK
    rw [← g2] at e1
    injection e1 with e1 e2
    subst e1 e2
    clear F9 N9
    refine AllObj.cons (fun o1 hc1 => AllObj.nil (fun N => ?_))
    dsimp only [testsJ]
    simp only [List.cons_append, List.nil_append] at N ⊢
    rw [if_pos trivial]
    w_strict ((try k_unmd); (try k_fold); k_steps)
    rename Fr _ _ _ _ => F8
    rename News _ _ _ _ => N8
    refine CEndJ.same F8 N8 hoff ⟨subL_of fun p hp => hp, rfl, ?_⟩
    rw [List.take_add_one, g1, List.map_append]
    have hpq := (hq q (List.mem_of_getElem? g1)).2
    exact hys.snoc hpq
  case fin =>
    rintro ys n₁ ⟨rfl, hys⟩ - D h tk F N off
    clear F9 N9
    rw [List.take_length, show qs.map (·.a) = rs.map (·.1) by rw [hrs]; simp] at hys
    w_strict ((try k_unmd); (try k_fold); k_steps)
    rename Fr _ _ _ _ => F8
    rename News _ _ _ _ => N8
    exact hret D ys _ _ _ hys F8 N8 off
end
end
section
local macro_rules | `(tactic| walk_at "no such step") => `(tactic| fail)
open PySem PySem.W PyProof.Rows PySem.Spec PySem.Calls
noncomputable def pickR (rs : List (Str × Str)) (nm : Str) : List Str := (rs.filter fun r => decide (Txt.lower r.1 = Txt.lower nm)).map (·.2)
theorem strsAre_snoc {vs : List Value} {ys : List Str} {y : Str} {t : Tok} (h : StrsAre vs ys) : StrsAre (vs ++ [.str y t]) (ys ++ [y]) := by
  induction h with
  | nil => exact .cons y t .nil
  | cons y' t' _ ih => exact .cons y' t' ih
theorem pickR_on {rs : List (Str × Str)} {nm a b : Str} {i : Nat} (h : rs[i]? = some (a, b)) (e : Txt.lower a = Txt.lower nm) : pickR (rs.take (i + 1)) nm = pickR (rs.take i) nm ++ [b] := by
  unfold pickR
  rw [List.take_add_one, h, List.filter_append, List.map_append]
  simp [e]
theorem pickR_off {rs : List (Str × Str)} {nm a b : Str} {i : Nat} (h : rs[i]? = some (a, b)) (e : ¬ Txt.lower a = Txt.lower nm) : pickR (rs.take (i + 1)) nm = pickR (rs.take i) nm := by
  unfold pickR
  rw [List.take_add_one, h, List.filter_append, List.map_append]
  simp [e]
section
variable {w : World} {mean : ExcName → Option Value} {mg mb : Str → Option Value} {dp un : Nat} {gd : Option (List Code)} {cn : Str} {nms : List (Str × NameKind)} {ig ic : Bool} {mr : List (Str × Const)} {a : Addr} {ccd : Value} {cl : List (Str × Addr)} {outer : List Env} {A₀ : Around} {base h₀ : Heap} {L : Addr} {m : Str → Option Value} {s : Shared} {Q E : Value → Shared → Prop} {news : List (Addr × Obj)}
theorem get_all_k {P : Tok → Prop} {x dx l : Addr} {nm : Str} {tn : Tok} {hsh : Int} {kk : Tok} {its : List Value} {n : Nat} {rs : List (Str × Str)} (hr : Rows P news its rs) (hz : its.length ≤ 1000) (hs : ∀ r ∈ rs, r.1.length ≤ 1000)
    (hc : clean (Txt.lower nm)) (hl : (Txt.lower nm).cps.size < 2 ^ 20) (hnl : nm.length ≤ 1000)
    (hx : (x, instObj 219 dx) ∈ news) (hdx : (dx, hdrDict hsh kk l) ∈ news) (hlm : (l, listOf its.toArray n) ∈ news)
    (B : Below A₀ base outer h₀) (F : Fr h₀ L s.heap m) (X : (hk.heap_1 w.params).In h₀) (N : News h₀ L s.heap news) (T : Top vw61 LL mean mg mb h₀) (hd : dp + 2 < recursionLimit) (hu : un + 20 < cLine)
    (hret : ∀ D ys k h' tk', StrsAre ys (pickR rs nm) → Fr h₀ L h' m → News h₀ L h' ((D, listOf ys.toArray k) :: news) → (∀ p ∈ news, p.1 ≠ D) → Q (.ref D) { s with heap := h', toks := tk' }) :
    wpAny (model prog w) (ktrTop dp un gd cn ⟨.function, nms, ig, ic, mr⟩ L a ccd cl outer) (call (.ref 158) [.ref x, .str nm tn]) Q E s := by
  have hl2 : (Txt.lower nm).cps.size < 2 ^ 62 := Nat.lt_trans hl (by decide)
  w_strict (refine wpAny_call ?_; k_dflt k_enter; k_steps)
  rename Fr _ _ _ _ => F9
  rename News _ _ _ _ => N9
  obtain ⟨L2, hL2⟩ := named F9
  subst hL2
  have hcm := N9 _ (.head _)
  rename ∀ p ∈ news, p.1 < _ => e1
  refine wpAny_storeName_cell (c := L2 + 1) (by rfl) (by rfl) (by rfl) ⟨_, hcm.1, by assumption⟩ fun h3 hc3 hs5 => ?_
  obtain ⟨o3, ho3, hd3⟩ := hc3
  have N5 := news_cell [] N9 hs5 ho3 (fun p h => nomatch h) (fun p hp => Nat.ne_of_lt (Nat.lt_succ_of_lt (e1 p hp)))
  have F5 := F9.change hs5 hcm.2.1 hcm.2.2
  clear F9 N9 hcm
  simp only [List.nil_append] at N5
  w_strict ((try k_unmd); (try k_fold); k_steps)
  refine ⟨?_⟩
  rename Fr _ _ _ _ => F9
  rename News _ _ _ _ => N9
  k_dflt (refine at_list (vs := its) (n := n) rfl F9 N9 (.tail _ hlm) rfl rfl (Nat.le_trans hz (by decide)) (frm_name (by decide) rfl rfl) (fun i ys n₁ => n₁ = (L2 + 1, o3) :: news ∧ StrsAre ys (pickR (rs.take i) nm)) ⟨rfl, .nil⟩ ?turn ?fin)
  case turn =>
    rintro I C D hI i a ha ys n₁ ⟨rfl, hys⟩ hyl hoff v l' h tk E' hK F
    rw [List.getElem?_map] at ha
    obtain ⟨u, g1, g2⟩ := Option.map_eq_some_iff.mp ha
    obtain ⟨⟨hh, hav⟩, oC, m₂, rfl, hC, hx⟩ := hK
    rw [← g2] at hav
    have hvu : v = u := hav
    subst hvu
    obtain ⟨t, ka, vb, ta, tb, rfl, hm, hri⟩ := hr.at g1
    have hsr := hs _ (List.mem_of_getElem? hri)
    clear F9 N9
    refine AllObj.cons (fun o1 hc1 => AllObj.nil (fun N => ?_))
    have hm2 := List.mem_cons_of_mem (I, o1) (List.mem_cons_of_mem (C, oC) (List.mem_cons_of_mem (D, listOf ys.toArray 0) (List.mem_cons_of_mem (L2 + 1, o3) hm)))
    dsimp only [testsJ]
    simp only [List.cons_append, List.nil_append] at N ⊢
    w_strict ((try k_unmd); (try k_fold); k_steps)
    · rename (_ == _) = true => he
      have hb := beq_iff_eq.mp he
      rename Fr _ _ _ _ => F8
      rename News _ _ _ _ => N8
      refine CEndJ.same F8 N8 hoff ⟨⟨.tail _ hlm, trivial⟩, rfl, ?_⟩
      rw [pickR_on hri hb]
      exact strsAre_snoc hys
    · rename (_ == _) = false => he
      have hb := beq_eq_false_iff_ne.mp he
      rename Fr _ _ _ _ => F8
      rename News _ _ _ _ => N8
      refine CEndJ.same F8 N8 hoff ⟨⟨.tail _ hlm, trivial⟩, rfl, ?_⟩
      rw [pickR_off hri hb]
      exact hys
  case fin =>
    rintro ys n₁ ⟨rfl, hys⟩ - D h tk F N off
    clear F9 N9
    rw [hr.length, List.take_length] at hys
    w_strict ((try k_unmd); (try k_fold); k_steps)
    rename Fr h₀ _ _ _ => F8
    rename News h₀ _ _ _ => N8
    exact hret D ys _ _ _ hys F8 (pickT 2 [0] N8) (fun p hp => off p (.tail _ hp))
end
end
section
open PySem PySem.W PyProof.Rows PySem.Spec PySem.Calls
section
variable {w : World} {mean : ExcName → Option Value} {mg mb : Str → Option Value} {dp un : Nat} {gd : Option (List Code)} {cn : Str} {nms : List (Str × NameKind)} {ig ic : Bool} {mr : List (Str × Const)} {a : Addr} {ccd : Value} {cl : List (Str × Addr)} {outer : List Env} {A₀ : Around} {base h₀ : Heap} {L : Addr} {m : Str → Option Value} {s : Shared} {Q E : Value → Shared → Prop} {news : List (Addr × Obj)}
theorem law_s3 {D : Addr} {ws : List Value} {d0 d1 d2 d3 d4 d5 : Int} {u0 u1 u2 u3 u4 u5 : Tok} {k : Nat} {o2 : Obj} {tl : List (Addr × Obj)} {Qf : Flow → Shared → Prop} (h2 : o2.data = .cell (some (.ref D)))
    (B : Below A₀ base outer h₀) (F : Fr h₀ L s.heap m) (X : (hk.heap_1 w.params).In h₀) (N : News h₀ L s.heap ((L + 1 + 1, o2) :: (D, listOf #[.int d0 u0, .int d1 u1, .int d2 u2, .int d3 u3, .int d4 u4, .int d5 u5] k) :: tl)) (T : Top vw61 LL mean mg mb h₀) (hd : dp + 20 < recursionLimit) (hu : un + 200 < cLine)
    (hret : ∀ D3 v0 v1 v2 v3 v4 t0 t1 t2 t3 t4 k3 h' tk', (∀ v ∈ [v0, v1, v2, v3, v4], -(10 ^ 9) < v ∧ v < 10 ^ 9) → Fr h₀ L h' (fun z => if z = Str.ofString "numbers" then some (.ref D3) else m z) → News h₀ L h' ((D3, listOf #[.int v0 t0, .int v1 t1, .int v2 t2, .int v3 t3, .int v4 t4] k3) :: (L + 1 + 1, o2) :: (D, listOf #[.int d0 u0, .int d1 u1, .int d2 u2, .int d3 u3, .int d4 u4, .int d5 u5] k) :: tl) → (∀ p ∈ tl, p.1 ≠ D3) → D ≠ D3 → L + 1 + 1 ≠ D3 → Qf .next { s with heap := h', toks := tk' }) :
    wpAny (model prog w) (ktrTop dp un gd (Str.ofString "law") lawScope L a ccd (cellsFrom (L + 1) lawScope.names []) outer) (exec (lawBody.getD 3 default) (envOfC (Str.ofString "law") lawScope L a ccd)) Qf E s := by
  have hst : lawBody.getD 3 default = Stmt.Assign _ _ _ := rfl
  have hsc : lawScope = Scope.mk _ _ _ _ _ := rfl
  rw [hst, hsc]
  clear hst hsc
  w_strict ((try k_unmd); (try k_fold); k_steps)
  refine ⟨?_⟩
  rename Fr _ _ _ _ => F9
  rename News _ _ _ _ => N9
  obtain ⟨nl, hnl⟩ := namedL N9
  rw [← hnl] at N9
  k_dflt (refine at_list (vs := [.int d0 u0, .int d1 u1, .int d2 u2, .int d3 u3, .int d4 u4]) (n := 0) rfl F9 N9 (by rw [hnl]; exact .head _) rfl rfl (show 5 ≤ sizeLine by decide) (frm_name (by decide) rfl rfl) (fun j ys n₁ => n₁ = nl ∧ ∃ xs : List Int, IntsAre ys xs ∧ xs.length = j ∧ ∀ v ∈ xs, -(10 ^ 9) < v ∧ v < 10 ^ 9) ⟨rfl, [], .nil, rfl, fun v h => nomatch h⟩ ?turn2 ?fin2)
  case turn2 =>
    rintro I4 C4 D4 hI4 j a4 ha4 ys4 n₄ ⟨rfl, xs, hys4, hxl, hxb⟩ hyl4 hoff4 v4 l4 h4' tk4 E4 hK4 F
    rw [List.getElem?_map] at ha4
    obtain ⟨u4', g1, g2⟩ := Option.map_eq_some_iff.mp ha4
    obtain ⟨⟨hh4, hav4⟩, oC4, m₄, rfl, hC4, hx4⟩ := hK4
    rw [← g2] at hav4
    have hv4 : v4 = u4' := hav4
    subst hv4
    have hint : ∃ x t, v4 = .int x t := by
      rcases j with _ | _ | _ | _ | _ | j
      · exact ⟨_, _, (Option.some.inj g1).symm⟩
      · exact ⟨_, _, (Option.some.inj g1).symm⟩
      · exact ⟨_, _, (Option.some.inj g1).symm⟩
      · exact ⟨_, _, (Option.some.inj g1).symm⟩
      · exact ⟨_, _, (Option.some.inj g1).symm⟩
      · exact absurd g1 (by simp)
    obtain ⟨x4, t4, rfl⟩ := hint
    clear F9 N9
    refine AllObj.cons (fun o1 hc1 => AllObj.nil (fun N => ?_))
    rw [hnl] at N
    dsimp only [testsJ]
    simp only [List.cons_append, List.nil_append] at N ⊢
    rw [if_pos trivial]
    have hm1 := Int.fmod_nonneg_of_pos x4 (show (0 : Int) < 10 ^ 9 by decide)
    have hm2 := Int.fmod_lt_of_pos x4 (show (0 : Int) < 10 ^ 9 by decide)
    have hm3 := Int.emod_nonneg x4 (show ((10 : Int) ^ 9) ≠ 0 by decide)
    have hm4 := Int.emod_lt_of_pos x4 (show (0 : Int) < 10 ^ 9 by decide)
    w_strict ((try k_unmd); (try k_fold); k_steps)
    all_goals (
      rename Fr _ _ _ _ => F8
      rename News _ _ _ _ => N8
      refine CEndJ.same (news' := n₄) F8 (by rw [hnl]; exact N8) hoff4 ⟨⟨by rw [hnl]; exact .head _, trivial⟩, rfl, _, intsAre_append hys4 (.cons _ _ .nil), by rw [List.length_append, hxl]; rfl, fun v hv => ?_⟩
      rcases List.mem_append.mp hv with h | h
      · exact hxb v h
      · cases List.mem_singleton.mp h
        first | omega | (constructor <;> simp_all <;> omega))
  case fin2 =>
    rintro ys4 n₄ ⟨rfl, xs, hys4, hxl, hxb⟩ - D4 h4' tk4 F N off4
    clear F9 N9
    obtain ⟨v0, v1, v2, v3, v4, rfl⟩ : ∃ a b c d e, xs = [a, b, c, d, e] := by
      match xs, hxl with
      | [a, b, c, d, e], _ => exact ⟨a, b, c, d, e, rfl⟩
    obtain ⟨t0, t1, t2, t3, t4, rfl⟩ := ints5 hys4
    rw [hnl] at N off4
    w_strict ((try k_unmd); (try k_fold); k_steps)
    exact hret D4 v0 v1 v2 v3 v4 t0 t1 t2 t3 t4 _ _ _ hxb F (pickT 2 [0] N) (fun p hp => off4 p (.tail _ (.tail _ (.tail _ hp)))) (off4 _ (.tail _ (.tail _ (.head _)))) (off4 _ (.tail _ (.head _)))
end
end
section
local macro_rules | `(tactic| walk_at "no such step") => `(tactic| fail)
open PySem PySem.W PyProof.Rows PySem.Spec PySem.Calls
section
variable {w : World} {mean : ExcName → Option Value} {mg mb : Str → Option Value} {dp un : Nat} {gd : Option (List Code)} {cn : Str} {nms : List (Str × NameKind)} {ig ic : Bool} {mr : List (Str × Const)} {a : Addr} {ccd : Value} {cl : List (Str × Addr)} {outer : List Env} {A₀ : Around} {base h₀ : Heap} {L : Addr} {m : Str → Option Value} {s : Shared} {Q E : Value → Shared → Prop} {news : List (Addr × Obj)}
theorem law_s4 {D : Addr} {d0 d1 d2 d3 d4 d5 : Int} {u0 u1 u2 u3 u4 u5 : Tok} {k : Nat} {o2 : Obj} {tl : List (Addr × Obj)} {Qf : Flow → Shared → Prop} (h2 : o2.data = .cell (some (.ref D)))
    (B : Below A₀ base outer h₀) (F : Fr h₀ L s.heap m) (X : (hk.heap_1 w.params).In h₀) (N : News h₀ L s.heap ((L + 1 + 1, o2) :: (D, listOf #[.int d0 u0, .int d1 u1, .int d2 u2, .int d3 u3, .int d4 u4, .int d5 u5] k) :: tl)) (T : Top vw61 LL mean mg mb h₀) (hd : dp + 20 < recursionLimit) (hu : un + 200 < cLine)
    (hret : ∀ D4 t0 t1 t2 k4 h' tk', Fr h₀ L h' (fun z => if z = Str.ofString "places" then some (.ref D4) else m z) → News h₀ L h' ((D4, listOf #[.int (placeL d5 0) t0, .int (placeL d5 1) t1, .int (placeL d5 2) t2] k4) :: (L + 1 + 1, o2) :: (D, listOf #[.int d0 u0, .int d1 u1, .int d2 u2, .int d3 u3, .int d4 u4, .int d5 u5] k) :: tl) → (∀ p ∈ (L + 1 + 1, o2) :: (D, listOf #[.int d0 u0, .int d1 u1, .int d2 u2, .int d3 u3, .int d4 u4, .int d5 u5] k) :: tl, p.1 ≠ D4) → Qf .next { s with heap := h', toks := tk' }) :
    wpAny (model prog w) (ktrTop dp un gd (Str.ofString "law") lawScope L a ccd (cellsFrom (L + 1) lawScope.names []) outer) (exec (lawBody.getD 4 default) (envOfC (Str.ofString "law") lawScope L a ccd)) Qf E s := by
  have hst : lawBody.getD 4 default = Stmt.Assign _ _ _ := rfl
  have hsc : lawScope = Scope.mk _ _ _ _ _ := rfl
  rw [hst, hsc]
  clear hst hsc
  w_strict ((try k_unmd); (try k_fold); k_steps)
  refine ⟨?_⟩
  rename IsRange _ _ _ _ _ _ _ _ => R3
  rename Fr _ _ _ _ => F9
  rename News _ _ _ _ => N9
  obtain ⟨nl, hnl⟩ := namedL N9
  rw [← hnl] at N9
  k_dflt (refine at_range (n := 3) rfl F9 N9 R3 (by decide) (by decide) (frm_name (by decide) rfl rfl) (fun k ys n₁ => n₁ = nl ∧ IntsAre ys (([placeL d5 0, placeL d5 1, placeL d5 2] : List Int).take k)) ⟨rfl, .nil⟩ ?turn1 ?fin1)
  case turn1 =>
    rintro I3 C D3 hI3 k a' ha ys n₁ ⟨rfl, hys⟩ hyl hoff3 v l' h tk E' hK F
    obtain ⟨hk3, rfl⟩ := range_inv ha
    obtain ⟨⟨hh, hav⟩, oC, m₂, rfl, hC, hx⟩ := hK
    obtain ⟨t5, rfl⟩ := hav
    clear F9 N9
    refine AllObj.cons (fun o1 hc1 => AllObj.nil (fun N => ?_))
    rw [hnl] at N
    dsimp only [testsJ]
    simp only [List.cons_append, List.nil_append] at N ⊢
    rw [if_pos trivial]
    rcases k with _ | _ | _ | k
    · w_strict ((try k_unmd); (try k_fold); k_steps)
      rename Fr _ _ _ _ => F8
      rename News _ _ _ _ => N8
      refine CEndJ.same (news' := n₁) F8 (by rw [hnl]; exact N8) hoff3 ⟨trivial, rfl, ?_⟩
      exact intsAre_append hys (.cons _ _ .nil)
    · w_strict ((try k_unmd); (try k_fold); k_steps)
      rename Fr _ _ _ _ => F8
      rename News _ _ _ _ => N8
      refine CEndJ.same (news' := n₁) F8 (by rw [hnl]; exact N8) hoff3 ⟨trivial, rfl, ?_⟩
      exact intsAre_append hys (.cons _ _ .nil)
    · w_strict ((try k_unmd); (try k_fold); k_steps)
      rename Fr _ _ _ _ => F8
      rename News _ _ _ _ => N8
      refine CEndJ.same (news' := n₁) F8 (by rw [hnl]; exact N8) hoff3 ⟨trivial, rfl, ?_⟩
      exact intsAre_append hys (.cons _ _ .nil)
    · omega
  case fin1 =>
    rintro ys n₁ ⟨rfl, hys⟩ - D3 h tk F N off
    clear F9 N9
    obtain ⟨t0, t1, t2, rfl⟩ := ints3 hys
    rw [hnl] at N off
    w_strict ((try k_unmd); (try k_fold); k_steps)
    exact hret D3 t0 t1 t2 _ _ _ F N off
end
end
section
local macro_rules | `(tactic| walk_at "no such step") => `(tactic| fail)
open PySem PySem.W PyProof.Rows PySem.Spec PySem.Calls
local macro_rules | `(tactic| walk_at "subscriptTail") => `(tactic| (k_here; (with_reducible show wpAny _ _ (subscriptTail _ _ (Value.ref _) (Value.int _ _)) _ _ _); refine Stop.intro' ?_))
section
variable {w : World} {mean : ExcName → Option Value} {mg mb : Str → Option Value} {dp un : Nat} {gd : Option (List Code)} {cn : Str} {nms : List (Str × NameKind)} {ig ic : Bool} {mr : List (Str × Const)} {a : Addr} {ccd : Value} {cl : List (Str × Addr)} {outer : List Env} {A₀ : Around} {base h₀ : Heap} {L : Addr} {m : Str → Option Value} {s : Shared} {Q E : Value → Shared → Prop} {news : List (Addr × Obj)}
theorem law_s5 {lo hi : Nat} {D lp : Addr} {vs : List Value} {p0 p1 p2 : Int} {u0 u1 u2 : Tok} {k kp : Nat} {o1 : Obj} {m₀ : Str → Option Value} {tl : List (Addr × Obj)} {Qf : Flow → Shared → Prop} (h1 : o1.data = .cell (some (.ref D))) (hv : StrsP (tkR lo hi) vs wordsL)
    (hp0 : 0 ≤ p0 ∧ p0 ≤ 11) (hp1 : 0 ≤ p1 ∧ p1 ≤ 11) (hp2 : 0 ≤ p2 ∧ p2 ≤ 11)
    (B : Below A₀ base outer h₀) (F : Fr h₀ L s.heap (fun z => if z = Str.ofString "places" then some (.ref lp) else m₀ z)) (X : (hk.heap_1 w.params).In h₀) (N : News h₀ L s.heap ((L + 1, o1) :: (lp, listOf #[.int p0 u0, .int p1 u1, .int p2 u2] kp) :: (D, listOf vs.toArray k) :: tl)) (T : Top vw61 LL mean mg mb h₀) (hd : dp + 20 < recursionLimit) (hu : un + 200 < cLine)
    (hret : ∀ D5 t0 t1 t2 k5 h' tk', tkR lo hi t0 → tkR lo hi t1 → tkR lo hi t2 → Fr h₀ L h' (fun z => if z = Str.ofString "names" then some (.ref D5) else if z = Str.ofString "places" then some (.ref lp) else m₀ z) → News h₀ L h' ((D5, listOf #[.str (wordsL.getD p0.toNat default) t0, .str (wordsL.getD p1.toNat default) t1, .str (wordsL.getD p2.toNat default) t2] k5) :: (L + 1, o1) :: (lp, listOf #[.int p0 u0, .int p1 u1, .int p2 u2] kp) :: (D, listOf vs.toArray k) :: tl) → (∀ p ∈ (L + 1, o1) :: (lp, listOf #[.int p0 u0, .int p1 u1, .int p2 u2] kp) :: (D, listOf vs.toArray k) :: tl, p.1 ≠ D5) → Qf .next { s with heap := h', toks := tk' }) :
    wpAny (model prog w) (ktrTop dp un gd (Str.ofString "law") lawScope L a ccd (cellsFrom (L + 1) lawScope.names []) outer) (exec (lawBody.getD 5 default) (envOfC (Str.ofString "law") lawScope L a ccd)) Qf E s := by
  have hst : lawBody.getD 5 default = Stmt.Assign _ _ _ := rfl
  have hsc : lawScope = Scope.mk _ _ _ _ _ := rfl
  rw [hst, hsc]
  clear hst hsc
  w_strict ((try k_unmd); (try k_fold); k_steps)
  refine ⟨?_⟩
  rename Fr _ _ _ _ => F9
  rename News _ _ _ _ => N9
  obtain ⟨nl, hnl⟩ := namedL N9
  rw [← hnl] at N9
  k_dflt (refine at_list (vs := [.int p0 u0, .int p1 u1, .int p2 u2]) (n := kp) rfl F9 N9 (by rw [hnl]; exact .tail _ (.head _)) rfl rfl (show 3 ≤ sizeLine by decide) (frm_name (by decide) rfl rfl) (fun j ys n₁ => n₁ = nl ∧ StrsP (tkR lo hi) ys (([wordsL.getD p0.toNat default, wordsL.getD p1.toNat default, wordsL.getD p2.toNat default] : List Str).take j)) ⟨rfl, .nil⟩ ?turn2 ?fin2)
  case turn2 =>
    rintro I4 C4 D4 hI4 j a4 ha4 ys4 n₄ ⟨rfl, hys4⟩ hyl4 hoff4 v4 l4 h4' tk4 E4 hK4 F
    rw [List.getElem?_map] at ha4
    obtain ⟨u4', g1, g2⟩ := Option.map_eq_some_iff.mp ha4
    obtain ⟨⟨hh4, hav4⟩, oC4, m₄, rfl, hC4, hx4⟩ := hK4
    rw [← g2] at hav4
    have hv4 : v4 = u4' := hav4
    subst hv4
    have hint : ∃ x t, v4 = .int x t ∧ (0 ≤ x ∧ x ≤ 11) ∧ List.take (j + 1) [wordsL.getD p0.toNat default, wordsL.getD p1.toNat default, wordsL.getD p2.toNat default] = List.take j [wordsL.getD p0.toNat default, wordsL.getD p1.toNat default, wordsL.getD p2.toNat default] ++ [wordsL.getD x.toNat default] := by
      rcases j with _ | _ | _ | j
      · exact ⟨p0, _, (Option.some.inj g1).symm, hp0, rfl⟩
      · exact ⟨p1, _, (Option.some.inj g1).symm, hp1, rfl⟩
      · exact ⟨p2, _, (Option.some.inj g1).symm, hp2, rfl⟩
      · exact absurd g1 (by simp)
    obtain ⟨x4, t4, rfl, hxb, htk⟩ := hint
    clear F9 N9
    refine AllObj.cons (fun o1 hc1 => AllObj.nil (fun N => ?_))
    rw [hnl] at N
    dsimp only [testsJ]
    simp only [List.cons_append, List.nil_append] at N ⊢
    rw [if_pos trivial]
    w_strict ((try k_unmd); (try k_fold); k_steps)
    refine ⟨?_⟩
    rename Fr _ _ _ _ => F8
    rename News _ _ _ _ => N8
    have hlt : x4.toNat < vs.length := by rw [hv.length]; show x4.toNat < 12; omega
    obtain ⟨y, ty, hy, hpy, hyw⟩ := hv.at (List.getElem?_eq_getElem hlt)
    k_dflt (refine item_list (x := .str y ty) (News.isList (a := D) N8 (by repeat (first | exact List.Mem.head _ | refine List.Mem.tail _ ?_))) hxb.1 (Int.lt_of_le_of_lt hxb.2 (by decide)) ?hx ?_)
    case hx => rw [List.getElem?_toArray, List.getElem?_eq_getElem hlt, hy]
    w_strict ((try k_unmd); (try k_fold); k_steps)
    rename Fr _ _ _ _ => F7
    rename News _ _ _ _ => N7
    refine CEndJ.same (news' := n₄) F7 (by rw [hnl]; exact N7) hoff4 ⟨⟨by rw [hnl]; exact .tail _ (.head _), trivial⟩, rfl, ?_⟩
    have hyw' : wordsL.getD x4.toNat default = y := by rw [List.getD_eq_getElem?_getD, hyw]; rfl
    rw [htk, hyw']
    exact hys4.snoc hpy
  case fin2 =>
    rintro ys4 n₄ ⟨rfl, hys4⟩ - D4 h4' tk4 F N off4
    clear F9 N9
    obtain ⟨t0, t1, t2, rfl, q0, q1, q2⟩ := strs3 hys4
    rw [hnl] at N off4
    w_strict ((try k_unmd); (try k_fold); k_steps)
    exact hret D4 t0 t1 t2 _ _ _ q0 q1 q2 F N off4
end
end
section
open PySem PySem.W PyProof.Rows PySem.Spec PySem.Calls
section
variable {w : World} {mean : ExcName → Option Value} {mg mb : Str → Option Value} {dp un : Nat} {gd : Option (List Code)} {cn : Str} {nms : List (Str × NameKind)} {ig ic : Bool} {mr : List (Str × Const)} {a : Addr} {ccd : Value} {cl : List (Str × Addr)} {outer : List Env} {A₀ : Around} {base h₀ : Heap} {L : Addr} {m : Str → Option Value} {s : Shared} {Q E : Value → Shared → Prop} {news : List (Addr × Obj)}
theorem law_s6 {ln : Addr} {v0 v1 v2 v3 v4 : Int} {t0 t1 t2 t3 t4 : Tok} {k : Nat} {o3 : Obj} {v3' : Option Value} {m₀ : Str → Option Value} {tl : List (Addr × Obj)} {Qf : Flow → Shared → Prop} (h3 : o3.data = .cell v3') (htl : ∀ p ∈ tl, p.1 ≠ L + 1 + 1 + 1) (hln : ln ≠ L + 1 + 1 + 1)
    (B : Below A₀ base outer h₀) (F : Fr h₀ L s.heap (fun z => if z = Str.ofString "numbers" then some (.ref ln) else m₀ z)) (X : (hk.heap_1 w.params).In h₀) (N : News h₀ L s.heap ((L + 1 + 1 + 1, o3) :: (ln, listOf #[.int v0 t0, .int v1 t1, .int v2 t2, .int v3 t3, .int v4 t4] k) :: tl)) (T : Top vw61 LL mean mg mb h₀) (hd : dp + 20 < recursionLimit) (hu : un + 200 < cLine)
    (hret : ∀ D6 o3' k6 h' tk', o3'.data = .cell (some (.ref D6)) → Fr h₀ L h' (fun z => if z = Str.ofString "numbers" then some (.ref ln) else m₀ z) → News h₀ L h' ((D6, listOf #[.int v0 t0, .int v1 t1, .int v2 t2] k6) :: (L + 1 + 1 + 1, o3') :: (ln, listOf #[.int v0 t0, .int v1 t1, .int v2 t2, .int v3 t3, .int v4 t4] k) :: tl) → (∀ p ∈ tl, @LT.lt Nat _ p.1 D6) → Qf .next { s with heap := h', toks := tk' }) :
    wpAny (model prog w) (ktrTop dp un gd (Str.ofString "law") lawScope L a ccd (cellsFrom (L + 1) lawScope.names []) outer) (exec (lawBody.getD 6 default) (envOfC (Str.ofString "law") lawScope L a ccd)) Qf E s := by
  have hst : lawBody.getD 6 default = Stmt.Assign _ _ _ := rfl
  have hsc : lawScope = Scope.mk _ _ _ _ _ := rfl
  rw [hst, hsc]
  clear hst hsc
  w_strict ((try k_unmd); (try k_fold); k_steps)
  rename Fr _ _ _ _ => F9
  rename News _ _ _ _ => N9
  rename L + 1 + 1 + 1 < _ ∧ ln < _ ∧ AllLt _ tl => q1
  have hcw := N9 (L + 1 + 1 + 1, o3) (by repeat (first | exact List.Mem.head _ | refine List.Mem.tail _ ?_))
  refine wpAny_storeName_cell (c := L + 1 + 1 + 1) (by rfl) (by rfl) (by rfl) ⟨o3, hcw.1, h3⟩ fun h6 hc6 hs6 => ?_
  obtain ⟨o7, ho7, hd7⟩ := hc6
  have N7 := cellput (pickT 2 [0] N9) hs6 ho7 hcw.2 ?hne
  case hne =>
    intro p hp
    rcases List.mem_cons.mp hp with rfl | hp
    · exact Nat.ne_of_gt q1.1
    rcases List.mem_cons.mp hp with rfl | hp
    · exact hln
    · exact htl p hp
  exact hret _ o7 0 h6 _ hd7 (F9.change hs6 hcw.2.1 hcw.2.2) (pickT 2 [1, 0] N7) (allLt_mem q1.2.2)
end
end
section
local macro_rules | `(tactic| walk_at "no such step") => `(tactic| fail)
open PySem PySem.W PyProof.Rows PySem.Spec PySem.Calls
section
variable {w : World} {mean : ExcName → Option Value} {mg mb : Str → Option Value} {dp un : Nat} {gd : Option (List Code)} {cn : Str} {nms : List (Str × NameKind)} {ig ic : Bool} {mr : List (Str × Const)} {a : Addr} {ccd : Value} {cl : List (Str × Addr)} {outer : List Env} {A₀ : Around} {base h₀ : Heap} {L : Addr} {m : Str → Option Value} {s : Shared} {Q E : Value → Shared → Prop} {news : List (Addr × Obj)}
theorem law_t1 {lw : Addr} {w0 w1 w2 q : Int} {y0 y1 y2 tq : Tok} {kw : Nat} {ow owt oq : Obj} {vw : Option Value} {tl : List (Addr × Obj)} {Qf : Flow → Shared → Prop}
    (how : ow.data = .cell vw) (hwt : owt.data = .cell (some (.ref lw))) (hq : oq.data = .cell (some (.int q tq))) (hcell : ∀ p ∈ (L + 1 + 1 + 1, owt) :: (L + 1 + 1 + 1 + 1, oq) :: (lw, listOf #[.int w0 y0, .int w1 y1, .int w2 y2] kw) :: tl, p.1 ≠ L + 1 + 1 + 1 + 1 + 1 + 1)
    (B : Below A₀ base outer h₀) (F : Fr h₀ L s.heap m) (X : (hk.heap_1 w.params).In h₀) (N : News h₀ L s.heap ((L + 1 + 1 + 1 + 1 + 1 + 1, ow) :: (L + 1 + 1 + 1, owt) :: (L + 1 + 1 + 1 + 1, oq) :: (lw, listOf #[.int w0 y0, .int w1 y1, .int w2 y2] kw) :: tl)) (T : Top vw61 LL mean mg mb h₀) (hd : dp + 20 < recursionLimit) (hu : un + 200 < cLine)
    (hret : ∀ D vs k ow' h' tk', ow'.data = .cell (some (.ref D)) → IntsAre vs (winL w0 w1 w2 q 8) → Fr h₀ L h' m → News h₀ L h' ((L + 1 + 1 + 1 + 1 + 1 + 1, ow') :: (D, listOf vs.toArray k) :: (L + 1 + 1 + 1, owt) :: (L + 1 + 1 + 1 + 1, oq) :: (lw, listOf #[.int w0 y0, .int w1 y1, .int w2 y2] kw) :: tl) → D ≠ L + 1 + 1 + 1 + 1 + 1 + 1 → (∀ p ∈ (L + 1 + 1 + 1, owt) :: (L + 1 + 1 + 1 + 1, oq) :: (lw, listOf #[.int w0 y0, .int w1 y1, .int w2 y2] kw) :: tl, p.1 ≠ D) → Qf .next { s with heap := h', toks := tk' }) :
    wpAny (model prog w) (ktrTop dp un gd (Str.ofString "law") lawScope L a ccd (cellsFrom (L + 1) lawScope.names []) outer) (exec (lawTurn.getD 1 default) (envOfC (Str.ofString "law") lawScope L a ccd)) Qf E s := by
  have hst : lawTurn.getD 1 default = Stmt.Assign _ _ _ := rfl
  have hsc : lawScope = Scope.mk _ _ _ _ _ := rfl
  rw [hst, hsc]
  clear hst hsc
  w_strict ((try k_unmd); (try k_fold); k_steps)
  refine ⟨?_⟩
  rename IsRange _ _ _ _ _ _ _ _ => R3
  rename Fr _ _ _ _ => F9
  rename News _ _ _ _ => N9
  obtain ⟨nl, hnl⟩ := namedL N9
  rw [← hnl] at N9
  k_dflt (refine at_range (n := 8) rfl F9 N9 R3 (by decide) (by decide) (frm_cell rfl (fun _ => rfl) (fun _ => rfl) (fun _ => rfl)) (fun k ys n₁ => n₁ = nl ∧ IntsAre ys (winL w0 w1 w2 q k)) ⟨rfl, .nil⟩ ?turn1 ?fin1)
  case turn1 =>
    rintro I3 C D hI3 i a' ha ys n₁ ⟨rfl, hys⟩ hyl hoff3 v l' h tk E' hK F
    obtain ⟨hi8, rfl⟩ := range_inv ha
    obtain ⟨⟨hh, hav⟩, oC, m₂, oK, rfl, hC, hcK⟩ := hK
    obtain ⟨t5, rfl⟩ := hav
    clear F9 N9
    refine AllObj.cons (fun o1 hc1 => AllObj.nil (fun N => ?_))
    rw [hnl] at N
    dsimp only [testsJ]
    simp only [List.cons_append, List.nil_append] at N ⊢
    w_strict ((try k_unmd); (try k_fold); k_steps)
    refine ⟨?_⟩
    rename Fr _ _ _ _ => F9
    rename News _ _ _ _ => N9
    obtain ⟨nl2, hnl2⟩ := namedL N9
    rw [← hnl2] at N9
    k_dflt (refine at_enum rfl F9 N9 (vs := [.int w0 y0, .int w1 y1, .int w2 y2]) (n := kw) (by rw [hnl2]; repeat (first | exact List.Mem.head _ | refine List.Mem.tail _ ?_)) rfl rfl (show 3 ≤ sizeLine by decide) (frm_pair rfl ?fr (by decide) rfl rfl rfl (by decide)) (fun k ys n₁ => n₁ = nl2 ∧ IntsAre ys (selJ i 0 (List.take k [w0, w1, w2]))) ⟨rfl, .nil⟩ ?turn2 ?fin2)
    case fr =>
      intro a ha
      simp only [enumItems, List.mem_cons, List.not_mem_nil, or_false] at ha
      rcases ha with rfl | rfl | rfl <;> exact ⟨_, _, rfl⟩
    case turn2 =>
      rintro I C2 D2 hI2 k a ha ys2 n2 ⟨rfl, hys2⟩ hyl2 hoff2 v l h2 tk2 E2 hK2 F2
      obtain ⟨v', hv', ha'⟩ := enum_inv ha
      obtain ⟨f, t, y, oC2, m2, e1, rfl, hC2, hx2, hy2⟩ := hK2
      rw [ha'] at e1
      injection e1 with e1 e2
      subst e1 e2
      have hv2 : ∃ x t, v' = .int x t ∧ [w0, w1, w2][k]? = some x := by
        rcases k with _ | _ | _ | k
        · exact ⟨_, _, (Option.some.inj hv').symm, rfl⟩
        · exact ⟨_, _, (Option.some.inj hv').symm, rfl⟩
        · exact ⟨_, _, (Option.some.inj hv').symm, rfl⟩
        · exact absurd hv' (by simp)
      obtain ⟨x, tx, rfl, hxk⟩ := hv2
      clear F9 N9
      refine AllObj.cons (fun o3 hc3 => AllObj.cons (fun o2 hc2 => AllObj.nil (fun N => ?_)))
      rw [hnl2] at N
      dsimp only [testsJ]
      simp only [List.cons_append, List.nil_append] at N ⊢
      w_strict ((try k_unmd); (try k_fold); k_steps)
      · rename _ ≠ 0 => hb
        rename Fr _ _ _ _ => F8
        rename News _ _ _ _ => N8
        refine CEndJ.same (news' := n2) F8 (by rw [hnl2]; exact N8) hoff2 ⟨⟨by rw [hnl2]; repeat (first | exact List.Mem.head _ | refine List.Mem.tail _ ?_), trivial⟩, rfl, ?_⟩
        rw [← selJ_on hxk (bit_on hb)]
        exact intsAre_append hys2 (.cons _ _ .nil)
      · rename _ = 0 => hb
        rename Fr _ _ _ _ => F8
        rename News _ _ _ _ => N8
        refine CEndJ.same (news' := n2) F8 (by rw [hnl2]; exact N8) hoff2 ⟨⟨by rw [hnl2]; repeat (first | exact List.Mem.head _ | refine List.Mem.tail _ ?_), trivial⟩, rfl, ?_⟩
        rw [← selJ_off hxk (bit_off hb)]
        exact hys2
    case fin2 =>
      rintro ys2 n2 ⟨rfl, hys2⟩ - D2 h2 tk2 F2 N2 off2
      clear F9 N9
      rw [show List.take ([Value.int w0 y0, .int w1 y1, .int w2 y2] : List Value).length [w0, w1, w2] = [w0, w1, w2] from rfl] at hys2
      rw [hnl2] at N2
      w_strict ((try k_unmd); (try k_fold); k_steps)
      refine ⟨?_⟩
      rename Fr _ _ _ _ => F9
      rename News _ _ _ _ => N9
      k_dflt (refine sumK rfl F9 N9 ⟨_, (N9 _ (.head _)).1, rfl, _, rfl⟩ hys2 ?_)
      intro hh1 tk1 tt1 F1 N1
      clear F9 N9
      have N3 := pickT 1 [] N1
      clear N1
      change News _ _ _ ((I3, o1) :: (C, oC) :: (C + 1, oK) :: _) at N3
      w_strict ((try k_unmd); (try k_fold); k_steps)
      · rename q ≤ _ => hqs
        rename Fr _ _ _ _ => F8
        rename News _ _ _ _ => N8
        refine CEndJ.same (news' := n₁) F8 (by rw [hnl]; exact N8) hoff3 ⟨trivial, rfl, ?_⟩
        rw [win_on hqs]
        exact intsAre_append hys (.cons _ _ .nil)
      · rename ¬ q ≤ _ => hqs
        rename Fr _ _ _ _ => F8
        rename News _ _ _ _ => N8
        refine CEndJ.same (news' := n₁) F8 (by rw [hnl]; exact N8) hoff3 ⟨trivial, rfl, ?_⟩
        rw [win_off hqs]
        exact hys
  case fin1 =>
    rintro ys n₁ ⟨rfl, hys⟩ - D h tk F N off
    clear F9 N9
    rw [hnl] at N off
    w_strict ((try k_unmd); (try k_fold); k_steps)
    have hcw := N (L + 1 + 1 + 1 + 1 + 1 + 1, ow) (.tail _ (.head _))
    refine wpAny_storeName_cell (c := L + 1 + 1 + 1 + 1 + 1 + 1) (by rfl) (by rfl) (by rfl) ⟨ow, hcw.1, how⟩ fun h6 hc6 hs6 => ?_
    obtain ⟨o7, ho7, hd7⟩ := hc6
    have hDc : D ≠ L + 1 + 1 + 1 + 1 + 1 + 1 := fun e => off _ (.head _) e.symm
    have N7 := cellput (pickT 2 [0] N) hs6 ho7 hcw.2 ?hne
    case hne =>
      intro p hp
      rcases List.mem_cons.mp hp with rfl | hp
      · exact hDc
      · exact hcell p hp
    exact hret D ys _ o7 h6 _ hd7 hys (F.change hs6 hcw.2.1 hcw.2.2) N7 hDc (fun p hp => off p (.tail _ hp))
end
end
section
open PySem PySem.W PyProof.Rows PySem.Spec PySem.Calls
/-- what the table asks of the names, the flags and the weights -/
structure TabFacts (n0 n1 n2 : Str) (f0 f1 f2 w0 w1 w2 : Int) (val : Str → Int) : Prop where
  hs0 : clean (Txt.swapcase n0)
  hs1 : clean (Txt.swapcase n1)
  hs2 : clean (Txt.swapcase n2)
  hz0 : (Txt.swapcase n0).cps.size < 2 ^ 20
  hz1 : (Txt.swapcase n1).cps.size < 2 ^ 20
  hz2 : (Txt.swapcase n2).cps.size < 2 ^ 20
  hn0 : n0.length ≤ 1000
  hn1 : n1.length ≤ 1000
  hn2 : n2.length ≤ 1000
  hw0 : -(10 ^ 9) < w0 ∧ w0 < 10 ^ 9
  hw1 : -(10 ^ 9) < w1 ∧ w1 < 10 ^ 9
  hw2 : -(10 ^ 9) < w2 ∧ w2 < 10 ^ 9
  hc0 : clean (Str.ofString (toString w0))
  hc1 : clean (Str.ofString (toString w1))
  hc2 : clean (Str.ofString (toString w2))
  hk0 : (Str.ofString (toString w0)).cps.size < 2 ^ 20
  hk1 : (Str.ofString (toString w1)).cps.size < 2 ^ 20
  hk2 : (Str.ofString (toString w2)).cps.size < 2 ^ 20
  hb0 : 0 ≤ f0 ∧ f0 ≤ 8
  hb1 : 0 ≤ f1 ∧ f1 ≤ 128
  hb2 : 0 ≤ f2 ∧ f2 ≤ 2048
  hnm : ∀ i < 8, (Txt.join (Str.ofString ", ") (nmF f0 f1 f2 i)).length ≤ 1000 ∧ Txt.split (Txt.join (Str.ofString ", ") (nmF f0 f1 f2 i)) (Str.ofString ", ") = nmF f0 f1 f2 i ∧ (nmF f0 f1 f2 i).length ≤ 3 ∧
      ∀ nm ∈ nmF f0 f1 f2 i, (clean (Txt.lower nm) ∧ (Txt.lower nm).cps.size < 2 ^ 20 ∧ nm.length ≤ 1000 ∧ clean nm ∧ nm.cps.size < 2 ^ 20) ∧
        hfind (houseF n0 n1 n2 w0 w1 w2) nm = some (Str.ofString (toString (val nm))) ∧ PySem.intText? (Str.ofString (toString (val nm))) = some (val nm) ∧ (Str.ofString (toString (val nm))).length ≤ 640
  hhl : ∀ r ∈ houseF n0 n1 n2 w0 w1 w2, r.1.length ≤ 1000
end
section
open PySem PySem.W PyProof.Rows PySem.Spec PySem.Calls
/-- refs of lists, each of which the ledger knows -/
inductive RefL {α : Type} (R : List Value → List α → Prop) (news : List (Addr × Obj)) : List Value → List (List α) → Prop
  | nil : RefL R news [] []
  | cons {D : Addr} {vs : List Value} {k : Nat} {ys : List α} {us : List Value} {yss : List (List α)} : (D, listOf vs.toArray k) ∈ news → R vs ys → RefL R news us yss → RefL R news (.ref D :: us) (ys :: yss)
theorem RefL.mono {α : Type} {R : List Value → List α → Prop} {n1 n2 : List (Addr × Obj)} {us : List Value} {yss : List (List α)} (h : RefL R n1 us yss) (hs : ∀ p ∈ n1, p ∈ n2) : RefL R n2 us yss := by
  induction h with
  | nil => exact .nil
  | cons m r _ ih => exact .cons (hs _ m) r ih
theorem RefL.append {α : Type} {R : List Value → List α → Prop} {n : List (Addr × Obj)} {us vs : List Value} {yss zss : List (List α)} (h : RefL R n us yss) (g : RefL R n vs zss) : RefL R n (us ++ vs) (yss ++ zss) := by
  induction h with
  | nil => exact g
  | cons m r _ ih => exact .cons m r ih
theorem RefL.length {α : Type} {R : List Value → List α → Prop} {n : List (Addr × Obj)} {us : List Value} {yss : List (List α)} (h : RefL R n us yss) : us.length = yss.length := by
  induction h with
  | nil => rfl
  | cons m r _ ih => exact congrArg (· + 1) ih
theorem RefL.at {α : Type} {R : List Value → List α → Prop} {n : List (Addr × Obj)} {us : List Value} {yss : List (List α)} (h : RefL R n us yss) : ∀ {i : Nat} {u : Value}, us[i]? = some u → ∃ D vs k ys, u = .ref D ∧ (D, listOf vs.toArray k) ∈ n ∧ R vs ys ∧ yss[i]? = some ys := by
  induction h with
  | nil => intro i u e; cases e
  | cons m r _ ih =>
    intro i u e
    cases i with
    | zero => exact ⟨_, _, _, _, (Option.some.inj e).symm, m, r, rfl⟩
    | succ i => exact ih e
end
section
open PySem PySem.W PyProof.Rows PySem.Spec PySem.Calls PyProof.V PySem.SeqAt
noncomputable def dataR (yss : List (List Str)) : List PyData := yss.map fun ys => PyData.list (ys.map PyData.str)
theorem readsAll_strs {h : Heap} : ∀ {vs : List Value} {ys : List Str}, StrsAre vs ys → ReadsAll h vs (ys.map PyData.str) []
  | _, _, .nil => .nil
  | _, _, .cons y t r => by
    have := ReadsAll.cons (Reads.str (h := h) y t) (readsAll_strs (h := h) r)
    simpa using this
theorem readsAll_rows {h₀ h : Heap} {L : Addr} {news : List (Addr × Obj)} (N : News h₀ L h news) {us : List Value} {yss : List (List Str)} (hr : RefL StrsAre news us yss) : ∃ as, ReadsAll h us (dataR yss) as := by
  induction hr with
  | nil => exact ⟨_, .nil⟩
  | cons m r _ ih =>
    obtain ⟨as, ih⟩ := ih
    exact ⟨_, .cons (Reads.list (N _ m).1 rfl rfl (by simpa using readsAll_strs r)) ih⟩
theorem canLay_strs : ∀ ys : List Str, (∀ y ∈ ys, PyData.strOk y = true) → PyData.canLayAll0 (ys.map PyData.str) = true
  | [], _ => by simp [PyData.canLayAll0]
  | n :: r, h => by simp [PyData.canLayAll0, PyData.canLay0, h n (.head _), canLay_strs r fun y hy => h y (.tail _ hy)]
theorem canLay_rows : ∀ yss : List (List Str), (∀ ys ∈ yss, ∀ y ∈ ys, PyData.strOk y = true) → PyData.canLayAll0 (dataR yss) = true
  | [], _ => by simp [dataR, PyData.canLayAll0]
  | ys :: r, h => by
    have := canLay_rows r fun y hy => h y (.tail _ hy)
    simp only [dataR] at this
    simp [dataR, PyData.canLayAll0, PyData.canLay0, canLay_strs ys (h ys (.head _)), this]
theorem depth_strs : ∀ ys : List Str, PyData.depthAll (ys.map PyData.str) ≤ 1
  | [] => by simp [PyData.depthAll]
  | n :: r => by
    have := depth_strs r
    simp only [List.map_cons, PyData.depthAll, PyData.depth]
    omega
theorem depth_rows : ∀ yss : List (List Str), PyData.depthAll (dataR yss) ≤ 3
  | [] => by simp [dataR, PyData.depthAll]
  | ys :: r => by
    have h1 := depth_rows r
    have h2 := depth_strs ys
    simp only [dataR] at h1
    simp only [dataR, List.map_cons, PyData.depthAll, PyData.depth]
    omega
theorem shaped_rows (yss : List (List Str)) (hok : ∀ ys ∈ yss, ∀ y ∈ ys, PyData.strOk y = true) : shaped (.list (dataR yss)) = true := by
  have h1 := depth_rows yss
  have h2 : PyData.depth (.list (dataR yss)) ≤ 64 := by simp only [PyData.depth]; omega
  show (PyData.canLay0 (.list (dataR yss)) && decide (PyData.depth (.list (dataR yss)) ≤ 64)) = true
  rw [Bool.and_eq_true]
  exact ⟨by simp only [PyData.canLay0]; exact canLay_rows yss hok, decide_eq_true h2⟩
theorem noMix_strs : ∀ ns : List Str, noMixAll (ns.map PyData.str) (ns.map PyData.str) = true
  | [] => by simp [noMixAll]
  | _ :: r => by simp [noMixAll, noMix, noMix_strs r]
theorem noMix_rows : ∀ ns : List (List Str), noMixAll (dataR ns) (dataR ns) = true
  | [] => by simp [dataR, noMixAll]
  | ys :: r => by
    have := noMix_rows r
    simp only [dataR] at this
    simp [dataR, noMixAll, noMix, noMix_strs ys, this]
theorem same_strs : ∀ ns : List Str, PySem.Spec.sameAll (ns.map PyData.str) (ns.map PyData.str) = true
  | [] => by simp [PySem.Spec.sameAll]
  | n :: r => by simp [PySem.Spec.sameAll, PySem.Spec.same, same_strs r]
theorem same_rows : ∀ ns : List (List Str), PySem.Spec.sameAll (dataR ns) (dataR ns) = true
  | [] => by simp [dataR, PySem.Spec.sameAll]
  | ys :: r => by
    have := same_rows r
    simp only [dataR] at this
    simp [dataR, PySem.Spec.sameAll, PySem.Spec.same, same_strs ys, this]
section
variable {prog : Program} {w : World} {A : Around} {E : Value → Shared → Prop} {s : Shared} {h₀ : Heap} {L : Addr}
theorem ne_rows {a b : Addr} {vs us : List Value} {ka kb : Nat} {yss : List (List Str)} {news : List (Addr × Obj)} {Q : Value → Shared → Prop} (N : News h₀ L s.heap news) (hl : (a, listOf vs.toArray ka) ∈ news) (hi : RefL StrsAre news vs yss) (hl' : (b, listOf us.toArray kb) ∈ news) (hi' : RefL StrsAre news us yss) (hu : A.units + 64 < cLine) (hok : ∀ ys ∈ yss, ∀ y ∈ ys, PyData.strOk y = true)
    (h : Q (.bool false) s) : wpAny (model prog w) A (compareOp .NotEq (.ref a) (.ref b)) Q E s := by
  obtain ⟨as, r1⟩ := readsAll_rows N hi
  obtain ⟨bs, r2⟩ := readsAll_rows N hi'
  refine ne_dataH_same (Reads.list (N _ hl).1 rfl rfl (by simpa using r1)) (Reads.list (N _ hl').1 rfl rfl (by simpa using r2)) (shaped_rows yss hok) (shaped_rows yss hok) hu (by simp only [noMix]; exact noMix_rows yss) ?_
  simp only [PySem.Spec.same]
  rw [same_rows]
  exact h
end
end
section
open PySem PySem.W PyProof.Rows PySem.Spec PySem.Calls
local macro_rules | `(tactic| walk_at "PostT") => `(tactic| (dsimp only [PostT]))
local macro_rules | `(tactic| k_go) => `(tactic| repeat' (first | (k_unfold; (try dsimp only)) | (with_reducible refine drop_T (by assumption) ?_) | ((with_reducible refine fun (tkG : @LE.le Nat _ _ _) => ?_); (try dsimp only at tkG)) | (k_end; kc_close) | ((with_reducible refine wpAny_keep (by first | assumption | exact Nat.le_add_right_of_le (by first | assumption | exact Nat.le_add_right_of_le (by assumption))) ?_); walk1) | walk1 | (dsimp only; walk1) | (leave1; walk_say "STEP leave1"; (try dsimp only)) | fail "no step"))
local macro_rules | `(tactic| k_gentoks) => `(tactic| ((with_reducible refine gen_T (by first | assumption | exact Nat.le_add_right_of_le (by first | assumption | exact Nat.le_add_right_of_le (by assumption))) ?_); intro tk9 tkG))
local macro_rules | `(tactic| walk_at "call ref") => `(tactic| (k_here; (with_reducible show wpAny _ _ (call (Value.ref 228) _) _ _ _); refine Stop.intro' ?_))
local macro_rules | `(tactic| walk_at "eval ListComp") => `(tactic| (k_here; k_dflt (refine ListComp_F (F₀ := by k_asm) (by with_unfolding_all rfl) (by rfl) (by decide) ?_); k_whole; refine Stop.intro' ?_))
section
variable {w : World} {mean : ExcName → Option Value} {mg mb : Str → Option Value} {dp un : Nat} {gd : Option (List Code)} {cn : Str} {nms : List (Str × NameKind)} {ig ic : Bool} {mr : List (Str × Const)} {a : Addr} {ccd : Value} {cl : List (Str × Addr)} {outer : List Env} {A₀ : Around} {base h₀ : Heap} {L : Addr} {m : Str → Option Value} {s : Shared} {Q E : Value → Shared → Prop} {news : List (Addr × Obj)}
theorem law_t0 {lo : Nat} {ln lp lw : Addr} {n0 n1 n2 : Str} {p0 p1 p2 w0 w1 w2 q : Int} {x0 x1 x2 u0 u1 u2 y0 y1 y2 tq : Tok} {kn kp kw : Nat} {ot owt oq : Obj} {vt : Option Value} {val : Str → Int} {m₀ : Str → Option Value} {tl : List (Addr × Obj)} {Qf : Flow → Shared → Prop}
    (ht : ot.data = .cell vt) (hwt : owt.data = .cell (some (.ref lw))) (hq : oq.data = .cell (some (.int q tq))) (hlo : lo ≤ s.toks) (h655 : 655 ≤ lo)
    (hp0 : 0 ≤ p0 ∧ p0 ≤ 3) (hp1 : 4 ≤ p1 ∧ p1 ≤ 7) (hp2 : 8 ≤ p2 ∧ p2 ≤ 11) (hcell : ∀ p ∈ (L + 1 + 1 + 1, owt) :: (L + 1 + 1 + 1 + 1, oq) :: (ln, listOf #[.str n0 x0, .str n1 x1, .str n2 x2] kn) :: (lp, listOf #[.int p0 u0, .int p1 u1, .int p2 u2] kp) :: (lw, listOf #[.int w0 y0, .int w1 y1, .int w2 y2] kw) :: tl, p.1 ≠ L + 1 + 1 + 1 + 1 + 1)
    (TF : TabFacts n0 n1 n2 (1 * 2 ^ p0.toNat) (1 * 2 ^ p1.toNat) (1 * 2 ^ p2.toNat) w0 w1 w2 val)
    (B : Below A₀ base outer h₀) (F : Fr h₀ L s.heap (fun z => if z = Str.ofString "names" then some (.ref ln) else if z = Str.ofString "places" then some (.ref lp) else m₀ z)) (X : (hk.heap_1 w.params).In h₀) (N : News h₀ L s.heap ((L + 1 + 1 + 1 + 1 + 1, ot) :: (L + 1 + 1 + 1, owt) :: (L + 1 + 1 + 1 + 1, oq) :: (ln, listOf #[.str n0 x0, .str n1 x1, .str n2 x2] kn) :: (lp, listOf #[.int p0 u0, .int p1 u1, .int p2 u2] kp) :: (lw, listOf #[.int w0 y0, .int w1 y1, .int w2 y2] kw) :: tl)) (T : Top vw61 LL mean mg mb h₀) (hd : dp + 20 < recursionLimit) (hu : un + 200 < cLine)
    (hret : ∀ xt dt lt h1 kk1 its k tlr ot' lo' h' tk', ot'.data = .cell (some (.ref xt)) → lo ≤ lo' → Fr h₀ L h' (fun z => if z = Str.ofString "names" then some (.ref ln) else if z = Str.ofString "places" then some (.ref lp) else m₀ z) → News h₀ L h' ((L + 1 + 1 + 1 + 1 + 1, ot') :: (xt, instObj 219 dt) :: (dt, hdrDict h1 kk1 lt) :: (lt, listOf its k) :: (tlr ++ ((L + 1 + 1 + 1, owt) :: (L + 1 + 1 + 1 + 1, oq) :: (ln, listOf #[.str n0 x0, .str n1 x1, .str n2 x2] kn) :: (lp, listOf #[.int p0 u0, .int p1 u1, .int p2 u2] kp) :: (lw, listOf #[.int w0 y0, .int w1 y1, .int w2 y2] kw) :: tl))) →
      (∀ p ∈ (xt, instObj 219 dt) :: (dt, hdrDict h1 kk1 lt) :: (lt, listOf its k) :: tlr, (∀ r ∈ (L + 1 + 1 + 1, owt) :: (L + 1 + 1 + 1 + 1, oq) :: (ln, listOf #[.str n0 x0, .str n1 x1, .str n2 x2] kn) :: (lp, listOf #[.int p0 u0, .int p1 u1, .int p2 u2] kp) :: (lw, listOf #[.int w0 y0, .int w1 y1, .int w2 y2] kw) :: tl, @LT.lt Nat _ r.1 p.1) ∧ @LT.lt Nat _ (L + 1 + 1 + 1 + 1 + 1) p.1) →
      lo' ≤ tk' → Rows (tkP lo' tk') tlr its.toList (tabF (1 * 2 ^ p0.toNat) (1 * 2 ^ p1.toNat) (1 * 2 ^ p2.toNat) q val 8) → its.size ≤ 32 → Qf .next { s with heap := h', toks := tk' }) :
    wpAny (model prog w) (ktrTop dp un gd (Str.ofString "law") lawScope L a ccd (cellsFrom (L + 1) lawScope.names []) outer) (exec (lawTurn.getD 0 default) (envOfC (Str.ofString "law") lawScope L a ccd)) Qf E s := by
  have hst : lawTurn.getD 0 default = Stmt.Assign _ _ _ := rfl
  have hsc : lawScope = Scope.mk _ _ _ _ _ := rfl
  rw [hst, hsc]
  clear hst hsc
  w_strict ((try k_unmd); (try k_fold); k_go)
  refine ⟨?_⟩
  w_strict k_steps
  refine ⟨?_⟩
  rename Fr _ _ _ _ => F9
  rename News _ _ _ _ => N9
  obtain ⟨nl, hnl⟩ := namedL N9
  rw [← hnl] at N9
  k_dflt (refine at_list (vs := [.int p0 u0, .int p1 u1, .int p2 u2]) (n := kp) rfl F9 N9 (by rw [hnl]; repeat (first | exact List.Mem.head _ | refine List.Mem.tail _ ?_)) rfl rfl (show 3 ≤ sizeLine by decide) (frm_name (by decide) rfl rfl) (fun j ys n₁ => n₁ = nl ∧ IntsAre ys (([1 * 2 ^ p0.toNat, 1 * 2 ^ p1.toNat, 1 * 2 ^ p2.toNat] : List Int).take j)) ⟨rfl, .nil⟩ ?turn2 ?fin2)
  case turn2 =>
    rintro I4 C4 D4 hI4 j a4 ha4 ys4 n₄ ⟨rfl, hys4⟩ hyl4 hoff4 v4 l4 h4' tk4 E4 hK4 F
    rw [List.getElem?_map] at ha4
    obtain ⟨u4', g1, g2⟩ := Option.map_eq_some_iff.mp ha4
    obtain ⟨⟨hh4, hav4⟩, oC4, m₄, rfl, hC4, hx4⟩ := hK4
    rw [← g2] at hav4
    have hv4 : v4 = u4' := hav4
    subst hv4
    have hint : ∃ (x : Int) (t : Tok), v4 = .int x t ∧ (0 ≤ x ∧ x ≤ 11) ∧ List.take (j + 1) ([1 * 2 ^ p0.toNat, 1 * 2 ^ p1.toNat, 1 * 2 ^ p2.toNat] : List Int) = List.take j ([1 * 2 ^ p0.toNat, 1 * 2 ^ p1.toNat, 1 * 2 ^ p2.toNat] : List Int) ++ [1 * 2 ^ x.toNat] := by
      rcases j with _ | _ | _ | j
      · exact ⟨p0, _, (Option.some.inj g1).symm, by omega, rfl⟩
      · exact ⟨p1, _, (Option.some.inj g1).symm, by omega, rfl⟩
      · exact ⟨p2, _, (Option.some.inj g1).symm, by omega, rfl⟩
      · exact absurd g1 (by simp)
    obtain ⟨x4, t4, rfl, hxb, htk⟩ := hint
    obtain ⟨hxb1, hxb2⟩ := hxb
    clear F9 N9
    refine AllObj.cons (fun o1 hc1 => AllObj.nil (fun N => ?_))
    rw [hnl] at N
    dsimp only [testsJ]
    simp only [List.cons_append, List.nil_append] at N ⊢
    rw [if_pos trivial]
    w_strict ((try k_unmd); (try k_fold); k_steps)
    rename Fr _ _ _ _ => F7
    rename News _ _ _ _ => N7
    refine CEndJ.same (news' := n₄) F7 (by rw [hnl]; exact N7) hoff4 ⟨⟨by rw [hnl]; repeat (first | exact List.Mem.head _ | refine List.Mem.tail _ ?_), trivial⟩, rfl, ?_⟩
    rw [htk]
    exact intsAre_append hys4 (.cons _ _ .nil)
  case fin2 =>
    rintro ys4 n₄ ⟨rfl, hys4⟩ - D4 h4' tk4 F N off4
    clear F9 N9
    obtain ⟨t0, t1, t2, rfl⟩ := ints3 hys4
    rw [hnl] at N off4
    w_strict ((try k_unmd); (try k_fold); k_go)
    refine ⟨?_⟩
    rename Fr _ _ _ _ => F9
    rename News _ _ _ _ => N9
    rename lo ≤ _ => hlo9
    have N8 := pickT 7 [4, 0, 6, 1, 2, 3, 5] N9
    clear N9
    k_dflt (refine' table_k (val := val) TF.hs0 TF.hs1 TF.hs2 TF.hz0 TF.hz1 TF.hz2 TF.hn0 TF.hn1 TF.hn2 TF.hw0 TF.hw1 TF.hw2 TF.hc0 TF.hc1 TF.hc2 TF.hk0 TF.hk1 TF.hk2 TF.hb0 TF.hb1 TF.hb2 TF.hnm (Nat.le_trans h655 hlo9) TF.hhl ?b1 F9 ?b3 N8 ?b5 ?b6 ?b7 ?_)
    case b1 => assumption
    case b3 => assumption
    case b5 => assumption
    case b6 => ktr_room
    case b7 => ktr_units
    intro xt dt lt h1 kk1 its k tlr h' tk' F' N' hfr hk' hR hsz
    clear F9 N8
    w_strict ((try k_unmd); (try k_fold); k_steps)
    have hold : ∀ r ∈ (L + 1 + 1 + 1, owt) :: (L + 1 + 1 + 1 + 1, oq) :: (ln, listOf #[.str n0 x0, .str n1 x1, .str n2 x2] kn) :: (lp, listOf #[.int p0 u0, .int p1 u1, .int p2 u2] kp) :: (lw, listOf #[.int w0 y0, .int w1 y1, .int w2 y2] kw) :: tl, r ∈ ((ln, listOf #[.str n0 x0, .str n1 x1, .str n2 x2] kn) :: (D4, LCg.lst [.int (1 * 2 ^ p0.toNat) t0, .int (1 * 2 ^ p1.toNat) t1, .int (1 * 2 ^ p2.toNat) t2]) :: (lw, listOf #[.int w0 y0, .int w1 y1, .int w2 y2] kw) :: (L + 1 + 1 + 1 + 1 + 1, ot) :: (L + 1 + 1 + 1, owt) :: (L + 1 + 1 + 1 + 1, oq) :: (lp, listOf #[.int p0 u0, .int p1 u1, .int p2 u2] kp) :: tl) := by
      intro r hr
      rcases List.mem_cons.mp hr with rfl | hr
      · repeat (first | exact List.Mem.head _ | refine List.Mem.tail _ ?_)
      rcases List.mem_cons.mp hr with rfl | hr
      · repeat (first | exact List.Mem.head _ | refine List.Mem.tail _ ?_)
      rcases List.mem_cons.mp hr with rfl | hr
      · repeat (first | exact List.Mem.head _ | refine List.Mem.tail _ ?_)
      rcases List.mem_cons.mp hr with rfl | hr
      · repeat (first | exact List.Mem.head _ | refine List.Mem.tail _ ?_)
      rcases List.mem_cons.mp hr with rfl | hr
      · repeat (first | exact List.Mem.head _ | refine List.Mem.tail _ ?_)
      · repeat (first | exact hr | refine List.Mem.tail _ ?_)
    have hct : (L + 1 + 1 + 1 + 1 + 1, ot) ∈ ((ln, listOf #[.str n0 x0, .str n1 x1, .str n2 x2] kn) :: (D4, LCg.lst [.int (1 * 2 ^ p0.toNat) t0, .int (1 * 2 ^ p1.toNat) t1, .int (1 * 2 ^ p2.toNat) t2]) :: (lw, listOf #[.int w0 y0, .int w1 y1, .int w2 y2] kw) :: (L + 1 + 1 + 1 + 1 + 1, ot) :: (L + 1 + 1 + 1, owt) :: (L + 1 + 1 + 1 + 1, oq) :: (lp, listOf #[.int p0 u0, .int p1 u1, .int p2 u2] kp) :: tl) := by repeat (first | exact List.Mem.head _ | refine List.Mem.tail _ ?_)
    have hcw := N' _ (List.mem_append_right _ hct)
    refine wpAny_storeName_cell (c := L + 1 + 1 + 1 + 1 + 1) (by rfl) (by rfl) (by rfl) ⟨ot, hcw.1, ht⟩ fun h6 hc6 hs6 => ?_
    obtain ⟨o7, ho7, hd7⟩ := hc6
    have N5 := cb_drop (news := (xt, instObj 219 dt) :: (dt, hdrDict h1 kk1 lt) :: (lt, listOf its k) :: (tlr ++ ((L + 1 + 1 + 1, owt) :: (L + 1 + 1 + 1 + 1, oq) :: (ln, listOf #[.str n0 x0, .str n1 x1, .str n2 x2] kn) :: (lp, listOf #[.int p0 u0, .int p1 u1, .int p2 u2] kp) :: (lw, listOf #[.int w0 y0, .int w1 y1, .int w2 y2] kw) :: tl))) N' (by
      intro p hp
      have hp2 : p ∈ ((xt, instObj 219 dt) :: (dt, hdrDict h1 kk1 lt) :: (lt, listOf its k) :: tlr) ++ ((L + 1 + 1 + 1, owt) :: (L + 1 + 1 + 1 + 1, oq) :: (ln, listOf #[.str n0 x0, .str n1 x1, .str n2 x2] kn) :: (lp, listOf #[.int p0 u0, .int p1 u1, .int p2 u2] kp) :: (lw, listOf #[.int w0 y0, .int w1 y1, .int w2 y2] kw) :: tl) := hp
      rcases List.mem_append.mp hp2 with h | h
      · exact List.mem_append_left _ h
      · exact List.mem_append_right _ (hold p h))
    have N7 := cellput N5 hs6 ho7 hcw.2 ?hne
    case hne =>
      intro p hp
      have hp2 : p ∈ ((xt, instObj 219 dt) :: (dt, hdrDict h1 kk1 lt) :: (lt, listOf its k) :: tlr) ++ ((L + 1 + 1 + 1, owt) :: (L + 1 + 1 + 1 + 1, oq) :: (ln, listOf #[.str n0 x0, .str n1 x1, .str n2 x2] kn) :: (lp, listOf #[.int p0 u0, .int p1 u1, .int p2 u2] kp) :: (lw, listOf #[.int w0 y0, .int w1 y1, .int w2 y2] kw) :: tl) := hp
      rcases List.mem_append.mp hp2 with h | h
      · exact Nat.ne_of_gt (hfr p h _ hct)
      · exact hcell p h
    intros
    exact hret xt dt lt h1 kk1 its k tlr o7 _ h6 _ hd7 hlo9 (F'.change hs6 hcw.2.1 hcw.2.2) N7 (fun p hp => ⟨fun r hr => hfr p hp r (hold r hr), hfr p hp _ hct⟩) hk' hR hsz
end
end
section
open PySem PySem.W PyProof.Rows PySem.Spec PySem.Calls
local macro_rules | `(tactic| walk_at "call ref") => `(tactic| (k_here; (with_reducible show wpAny _ _ (call (Value.ref 233) _) _ _ _); refine Stop.intro' ?_))
noncomputable def bitsL (ns : List Int) : List Int := ns.map fun x => 1 * 2 ^ x.toNat
section
variable {w : World} {mean : ExcName → Option Value} {mg mb : Str → Option Value} {dp un : Nat} {gd : Option (List Code)} {cn : Str} {nms : List (Str × NameKind)} {ig ic : Bool} {mr : List (Str × Const)} {a : Addr} {ccd : Value} {cl : List (Str × Addr)} {outer : List Env} {A₀ : Around} {base h₀ : Heap} {L : Addr} {m : Str → Option Value} {s : Shared} {Q E : Value → Shared → Prop} {news : List (Addr × Obj)}
theorem law_t3 {lc D : Addr} {c0 c1 c2 c3 : Int} {t0 t1 t2 t3 : Tok} {kc k : Nat} {ow : Obj} {vs : List Value} {ns : List Int} {m₀ : Str → Option Value} {tl : List (Addr × Obj)} {Qf : Flow → Shared → Prop}
    (how : ow.data = .cell (some (.ref D))) (hv : IntsAre vs ns) (hlen : ns.length ≤ 8) (hns : ∀ x ∈ ns, 0 ≤ x ∧ x ≤ 7) (hfam : famL (c0 + c1 * 16 + c2 * 256 + c3 * 4096) = [(bitsL ns).sum])
    (hb0 : 0 ≤ c0 ∧ c0 ≤ 8) (hb1 : 0 ≤ c1 ∧ c1 ≤ 8) (hb2 : 0 ≤ c2 ∧ c2 ≤ 8) (hb3 : 0 ≤ c3 ∧ c3 ≤ 8)
    (B : Below A₀ base outer h₀) (F : Fr h₀ L s.heap (fun z => if z = Str.ofString "counts" then some (.ref lc) else m₀ z)) (X : (hk.heap_1 w.params).In h₀) (N : News h₀ L s.heap ((lc, listOf #[.int c0 t0, .int c1 t1, .int c2 t2, .int c3 t3] kc) :: (L + 1 + 1 + 1 + 1 + 1 + 1, ow) :: (D, listOf vs.toArray k) :: tl)) (T : Top vw61 LL mean mg mb h₀) (hd : dp + 20 < recursionLimit) (hu : un + 200 < cLine)
    (hret : ∀ h' tk', Fr h₀ L h' (fun z => if z = Str.ofString "counts" then some (.ref lc) else m₀ z) → News h₀ L h' ((lc, listOf #[.int c0 t0, .int c1 t1, .int c2 t2, .int c3 t3] kc) :: (L + 1 + 1 + 1 + 1 + 1 + 1, ow) :: (D, listOf vs.toArray k) :: tl) → Qf .next { s with heap := h', toks := tk' }) :
    wpAny (model prog w) (ktrTop dp un gd (Str.ofString "law") lawScope L a ccd (cellsFrom (L + 1) lawScope.names []) outer) (exec (lawTurn.getD 3 default) (envOfC (Str.ofString "law") lawScope L a ccd)) Qf E s := by
  have hst : lawTurn.getD 3 default = Stmt.If _ _ _ _ := rfl
  have hsc : lawScope = Scope.mk _ _ _ _ _ := rfl
  rw [hst, hsc]
  clear hst hsc
  w_strict ((try k_unmd); (try k_fold); k_steps)
  refine ⟨?_⟩
  rename Fr _ _ _ _ => F9
  rename News _ _ _ _ => N9
  k_dflt (refine' fam_k hb0 hb1 hb2 hb3 ?c1 F9 ?c3 N9 ?c5 ?c6 ?c7 ?_)
  case c1 => assumption
  case c3 => assumption
  case c5 => assumption
  case c6 => ktr_room
  case c7 => ktr_units
  intro D1 us1 k1 h1 tk1 hus F1 N1
  clear F9 N9
  rw [hfam] at hus
  obtain ⟨tt, rfl⟩ : ∃ t, us1 = [.int (bitsL ns).sum t] := by
    cases hus with
    | cons _ t h => cases h; exact ⟨t, rfl⟩
  w_strict ((try k_unmd); (try k_fold); k_steps)
  refine ⟨?_⟩
  rename Fr _ _ _ _ => F9
  rename News _ _ _ _ => N9
  obtain ⟨nl, hnl⟩ := namedL N9
  rw [← hnl] at N9
  have hvl := intsAre_length hv
  k_dflt (refine at_list (vs := vs) (n := k) rfl F9 N9 (by rw [hnl]; repeat (first | exact List.Mem.head _ | refine List.Mem.tail _ ?_)) rfl rfl (Nat.le_trans (m := 8) (by rw [hvl]; exact hlen) (by decide)) (frm_name (by decide) rfl rfl) (fun j ys n₁ => n₁ = nl ∧ IntsAre ys (bitsL (ns.take j))) ⟨rfl, .nil⟩ ?turn2 ?fin2)
  case turn2 =>
    rintro I4 C4 D4 hI4 j a4 ha4 ys4 n₄ ⟨rfl, hys4⟩ hyl4 hoff4 v4 l4 h4' tk4 E4 hK4 F
    rw [List.getElem?_map] at ha4
    obtain ⟨u4', g1, g2⟩ := Option.map_eq_some_iff.mp ha4
    obtain ⟨⟨hh4, hav4⟩, oC4, m₄, rfl, hC4, hx4⟩ := hK4
    rw [← g2] at hav4
    have hv4 : v4 = u4' := hav4
    subst hv4
    obtain ⟨x4, t4, rfl, hx4n⟩ := intsAre_at hv g1
    obtain ⟨hxb1, hxb2⟩ := hns x4 (List.mem_of_getElem? hx4n)
    clear F9 N9
    refine AllObj.cons (fun o1 hc1 => AllObj.nil (fun N => ?_))
    rw [hnl] at N
    dsimp only [testsJ]
    simp only [List.cons_append, List.nil_append] at N ⊢
    rw [if_pos trivial]
    w_strict ((try k_unmd); (try k_fold); k_steps)
    rename Fr _ _ _ _ => F7
    rename News _ _ _ _ => N7
    refine CEndJ.same (news' := n₄) F7 (by rw [hnl]; exact N7) hoff4 ⟨⟨by rw [hnl]; repeat (first | exact List.Mem.head _ | refine List.Mem.tail _ ?_), trivial⟩, rfl, ?_⟩
    rw [List.take_add_one, hx4n, show bitsL (List.take j ns ++ (some x4).toList) = bitsL (ns.take j) ++ [1 * 2 ^ x4.toNat] from by unfold bitsL; rw [List.map_append]; rfl]
    exact intsAre_append hys4 (.cons _ _ .nil)
  case fin2 =>
    rintro ys4 n₄ ⟨rfl, hys4⟩ - D4 h4' tk4 F N off4
    clear F9 N9
    rw [hvl, List.take_length] at hys4
    rw [hnl] at N off4
    w_strict ((try k_unmd); (try k_fold); k_steps)
    refine ⟨?_⟩
    rename Fr _ _ _ _ => F9
    rename News _ _ _ _ => N9
    k_dflt (refine sumK rfl F9 N9 ⟨_, (N9 _ (.head _)).1, rfl, _, rfl⟩ hys4 ?_)
    intro hh1 tk1 tt1 F1 N1
    clear F9 N9
    w_strict ((try k_unmd); (try k_fold); k_steps)
    rename Fr _ _ _ _ => F8
    rename News _ _ _ _ => N8
    exact hret _ _ F8 (pickT 3 [] N8)
end
end
section
local macro_rules | `(tactic| walk_at "no such step") => `(tactic| fail)
open PySem PySem.W PyProof.Rows PySem.Spec PySem.Calls
local macro_rules | `(tactic| walk_at "binaryOp Add ref ref") => `(tactic| (k_here; (with_reducible show wpAny _ _ (binaryOp _ (Value.ref _) (Value.ref _)) _ _ _); refine Stop.intro' ?_))
noncomputable def selB (i : Nat) (ns : List Int) : List Int := ns.filter fun x => x.toNat.testBit i
theorem selB_on {i n j : Nat} {ns : List Int} (h : ns[j]? = some (n : Int)) (hb : n.testBit i = true) : selB i (ns.take (j + 1)) = selB i (ns.take j) ++ [(n : Int)] := by
  unfold selB
  rw [List.take_add_one, h, List.filter_append]
  simp [hb]
theorem selB_off {i n j : Nat} {ns : List Int} (h : ns[j]? = some (n : Int)) (hb : n.testBit i = false) : selB i (ns.take (j + 1)) = selB i (ns.take j) := by
  unfold selB
  rw [List.take_add_one, h, List.filter_append]
  simp [hb]
noncomputable def selZ (ns : List Int) : List Int := ns.filter fun x => decide (x = 0)
theorem selZ_on {j : Nat} {x : Int} {ns : List Int} (h : ns[j]? = some x) (hb : x = 0) : selZ (ns.take (j + 1)) = selZ (ns.take j) ++ [x] := by
  unfold selZ
  rw [List.take_add_one, h, List.filter_append]
  simp [hb]
theorem selZ_off {j : Nat} {x : Int} {ns : List Int} (h : ns[j]? = some x) (hb : ¬ x = 0) : selZ (ns.take (j + 1)) = selZ (ns.take j) := by
  unfold selZ
  rw [List.take_add_one, h, List.filter_append]
  simp [hb]
section
variable {w : World} {mean : ExcName → Option Value} {mg mb : Str → Option Value} {dp un : Nat} {gd : Option (List Code)} {cn : Str} {nms : List (Str × NameKind)} {ig ic : Bool} {mr : List (Str × Const)} {a : Addr} {ccd : Value} {cl : List (Str × Addr)} {outer : List Env} {A₀ : Around} {base h₀ : Heap} {L : Addr} {m : Str → Option Value} {s : Shared} {Q E : Value → Shared → Prop} {news : List (Addr × Obj)}
theorem law_t4 {D : Addr} {k : Nat} {ow : Obj} {vs : List Value} {ns : List Int} {tl : List (Addr × Obj)} {Qf : Flow → Shared → Prop}
    (how : ow.data = .cell (some (.ref D))) (hv : IntsAre vs ns) (hlen : ns.length ≤ 8) (hns : ∀ x ∈ ns, 0 ≤ x ∧ x ≤ 7)
    (B : Below A₀ base outer h₀) (F : Fr h₀ L s.heap m) (X : (hk.heap_1 w.params).In h₀) (N : News h₀ L s.heap ((L + 1 + 1 + 1 + 1 + 1 + 1, ow) :: (D, listOf vs.toArray k) :: tl)) (T : Top vw61 LL mean mg mb h₀) (hd : dp + 20 < recursionLimit) (hu : un + 200 < cLine)
    (hret : ∀ D9 ys k9 n9 h' tk', RefL IntsAre n9 ys [ns, selB 0 ns, selB 1 ns, selB 2 ns, selZ ns] → Fr h₀ L h' (fun z => if z = Str.ofString "due" then some (.ref D9) else m z) → News h₀ L h' ((D9, listOf ys.toArray k9) :: n9) → (∀ p ∈ (L + 1 + 1 + 1 + 1 + 1 + 1, ow) :: (D, listOf vs.toArray k) :: tl, p ∈ n9) → Qf .next { s with heap := h', toks := tk' }) :
    wpAny (model prog w) (ktrTop dp un gd (Str.ofString "law") lawScope L a ccd (cellsFrom (L + 1) lawScope.names []) outer) (exec (lawTurn.getD 4 default) (envOfC (Str.ofString "law") lawScope L a ccd)) Qf E s := by
  have hst : lawTurn.getD 4 default = Stmt.Assign _ _ _ := rfl
  have hsc : lawScope = Scope.mk _ _ _ _ _ := rfl
  rw [hst, hsc]
  clear hst hsc
  have hvl := intsAre_length hv
  w_strict ((try k_unmd); (try k_fold); k_steps)
  refine ⟨?_⟩
  rename IsRange _ _ _ _ _ _ _ _ => R3
  rename Fr _ _ _ _ => F9
  rename News _ _ _ _ => N9
  obtain ⟨nl, hnl⟩ := namedL N9
  rw [← hnl] at N9
  have hex : ∀ p ∈ (L + 1 + 1 + 1 + 1 + 1 + 1, ow) :: (D, listOf vs.toArray k) :: tl, p ∈ nl := by
    intro p hp
    rw [hnl]
    repeat (first | exact hp | refine List.Mem.tail _ ?_)
  k_dflt (refine at_range (n := 3) rfl F9 N9 R3 (by decide) (by decide) (frm_cell rfl (fun _ => rfl) (fun _ => rfl) (fun _ => rfl)) (fun j ys n₁ => (∀ p ∈ nl, p ∈ n₁) ∧ RefL IntsAre n₁ ys ([selB 0 ns, selB 1 ns, selB 2 ns].take j)) ⟨fun p hp => hp, .nil⟩ ?turn1 ?fin1)
  case turn1 =>
    rintro I3 C D3 hI3 i a' ha ys n₁ ⟨hsub, hys⟩ hyl hoff3 v l' h tk E' hK F
    obtain ⟨hi8, rfl⟩ := range_inv ha
    obtain ⟨⟨hh, hav⟩, oC, m₂, oK, rfl, hC, hcK⟩ := hK
    obtain ⟨t5, rfl⟩ := hav
    clear F9 N9
    refine AllObj.cons (fun o1 hc1 => AllObj.nil (fun N => ?_))
    simp only [List.cons_append, List.nil_append] at N
    have N' := cb_drop (news := (I3, o1) :: (C, oC) :: (C + 1, oK) :: (D3, LCg.lst ys) :: (L + 1 + 1 + 1 + 1 + 1 + 1, ow) :: (D, listOf vs.toArray k) :: n₁) N (by
      intro p hp
      have hp2 : p ∈ [(I3, o1), (C, oC), (C + 1, oK), (D3, LCg.lst ys)] ++ ([(L + 1 + 1 + 1 + 1 + 1 + 1, ow), (D, listOf vs.toArray k)] ++ n₁) := hp
      rcases List.mem_append.mp hp2 with h | h
      · exact List.mem_append_left n₁ h
      rcases List.mem_append.mp h with h | h
      · exact List.mem_append_right [(I3, o1), (C, oC), (C + 1, oK), (D3, LCg.lst ys)] (hsub p (hex p (List.mem_append_left tl h)))
      · exact List.mem_append_right [(I3, o1), (C, oC), (C + 1, oK), (D3, LCg.lst ys)] h)
    clear N
    dsimp only [testsJ]
    simp only [List.cons_append, List.nil_append]
    rw [if_pos trivial]
    w_strict ((try k_unmd); (try k_fold); k_steps)
    refine ⟨?_⟩
    rename Fr _ _ _ _ => F9
    rename News _ _ _ _ => N9
    obtain ⟨nl2, hnl2⟩ := namedL N9
    rw [← hnl2] at N9
    k_dflt (refine at_list (vs := vs) (n := k) rfl F9 N9 (by rw [hnl2]; repeat (first | exact List.Mem.head _ | refine List.Mem.tail _ ?_)) rfl rfl (Nat.le_trans (m := 8) (by rw [hvl]; exact hlen) (by decide)) (frm_name (by decide) rfl rfl) (fun j ys n₁ => n₁ = nl2 ∧ IntsAre ys (selB i (ns.take j))) ⟨rfl, .nil⟩ ?turn2 ?fin2)
    case turn2 =>
      rintro I4 C4 D4 hI4 j a4 ha4 ys4 n₄ ⟨rfl, hys4⟩ hyl4 hoff4 v4 l4 h4' tk4 E4 hK4 F
      rw [List.getElem?_map] at ha4
      obtain ⟨u4', g1, g2⟩ := Option.map_eq_some_iff.mp ha4
      obtain ⟨⟨hh4, hav4⟩, oC4, m₄, rfl, hC4, hx4⟩ := hK4
      rw [← g2] at hav4
      have hv4 : v4 = u4' := hav4
      subst hv4
      obtain ⟨x4, t4, rfl, hx4n⟩ := intsAre_at hv g1
      obtain ⟨hxb1, hxb2⟩ := hns x4 (List.mem_of_getElem? hx4n)
      obtain ⟨xn, rfl⟩ := Int.eq_ofNat_of_zero_le hxb1
      clear F9 N9
      refine AllObj.cons (fun o1 hc1 => AllObj.nil (fun N => ?_))
      rw [hnl2] at N
      dsimp only [testsJ]
      simp only [List.cons_append, List.nil_append] at N ⊢
      w_strict ((try k_unmd); (try k_fold); k_steps)
      · rename _ ≠ 0 => hb
        rename Fr _ _ _ _ => F7
        rename News _ _ _ _ => N7
        refine CEndJ.same (news' := n₄) F7 (by rw [hnl2]; exact N7) hoff4 ⟨⟨by rw [hnl2]; repeat (first | exact List.Mem.head _ | refine List.Mem.tail _ ?_), trivial⟩, rfl, ?_⟩
        rw [selB_on hx4n (bit_on hb)]
        exact intsAre_append hys4 (.cons _ _ .nil)
      · rename _ = 0 => hb
        rename Fr _ _ _ _ => F7
        rename News _ _ _ _ => N7
        refine CEndJ.same (news' := n₄) F7 (by rw [hnl2]; exact N7) hoff4 ⟨⟨by rw [hnl2]; repeat (first | exact List.Mem.head _ | refine List.Mem.tail _ ?_), trivial⟩, rfl, ?_⟩
        rw [selB_off hx4n (bit_off hb)]
        exact hys4
    case fin2 =>
      rintro ys4 n₄ ⟨rfl, hys4⟩ - D4 h4' tk4 F N off4
      clear F9 N9
      rw [hvl, List.take_length] at hys4
      rw [hnl2] at N off4
      w_strict ((try k_unmd); (try k_fold); k_steps)
      rename Fr _ _ _ _ => F8
      rename News _ _ _ _ => N8
      refine CEndJ.same (news' := (D4, LCg.lst ys4) :: n₁) F8 (cb_drop N8 ?gr) ?go ⟨trivial, fun p hp => .tail _ (hsub p hp), ?_⟩
      case gr =>
        intro p hp
        have hp2 : p ∈ [(I3, o1), (C, oC), (C + 1, oK), (D3, LCg.lst ys), (D4, LCg.lst ys4)] ++ n₁ := hp
        rcases List.mem_append.mp hp2 with h | h
        · have h' : p ∈ [(D4, LCg.lst ys4), (I3, o1), (C, oC), (C + 1, oK), (D3, LCg.lst ys)] := by
            simp only [List.mem_cons, List.not_mem_nil, or_false] at h ⊢
            rcases h with h | h | h | h | h
            · exact .inr (.inl h)
            · exact .inr (.inr (.inl h))
            · exact .inr (.inr (.inr (.inl h)))
            · exact .inr (.inr (.inr (.inr h)))
            · exact .inl h
          exact List.mem_append_left ([(L + 1 + 1 + 1 + 1 + 1 + 1, ow), (D, listOf vs.toArray k)] ++ n₁) h'
        · repeat (first | exact h | refine List.Mem.tail _ ?_)
      case go =>
        intro p hp
        rcases List.mem_cons.mp hp with rfl | hp
        · refine ⟨fun h => ?_, fun h => ?_, fun h => ?_⟩
          · exact off4 _ (.head _) (List.mem_singleton.mp h).symm
          · rcases List.mem_cons.mp h with h | h
            · exact off4 _ (.tail _ (.head _)) h.symm
            · exact off4 _ (.tail _ (.tail _ (.head _))) (List.mem_singleton.mp h).symm
          · exact off4 _ (.tail _ (.tail _ (.tail _ (.head _)))) h.symm
        · exact hoff3 p hp
      rw [show List.take (i + 1) [selB 0 ns, selB 1 ns, selB 2 ns] = List.take i [selB 0 ns, selB 1 ns, selB 2 ns] ++ [selB i ns] from ?tk]
      · exact (hys.mono fun p hp => .tail _ hp).append (.cons (.head _) hys4 .nil)
      case tk =>
        rcases i with _ | _ | _ | i
        · rfl
        · rfl
        · rfl
        · omega
  case fin1 =>
    rintro ys n₁ ⟨hsub, hys⟩ - D3 h3' tk3 F N off3
    clear F9 N9
    obtain ⟨E0, E1, E2, rfl⟩ : ∃ E0 E1 E2, ys = [.ref E0, .ref E1, .ref E2] := by
      cases hys with
      | cons _ _ h => cases h with
        | cons _ _ h => cases h with
          | cons _ _ h => cases h with
            | nil => exact ⟨_, _, _, rfl⟩
    have N' := cb_drop (news := (D3, LCg.lst [.ref E0, .ref E1, .ref E2]) :: nl ++ n₁) N (by
      intro p hp
      rcases List.mem_cons.mp hp with rfl | hp
      · exact .head _
      rcases List.mem_append.mp hp with h | h
      · exact .tail _ (hsub p h)
      · exact .tail _ h)
    rw [hnl] at N'
    simp only [List.cons_append] at N'
    clear N
    w_strict ((try k_unmd); (try k_fold); k_steps)
    refine ⟨?_⟩
    rename Fr _ _ _ _ => F9
    rename News _ _ _ _ => N9
    k_dflt (refine kmk_add_lit (zs := [.ref D, .ref E0, .ref E1, .ref E2]) F9 N9 ⟨_, (N9 _ (.tail _ (.head _))).1, rfl, _, rfl⟩ ⟨_, (N9 _ (.head _)).1, rfl, _, rfl⟩ rfl ?_ ?sz)
    case sz => show 4 ≤ sizeLine; decide
    intro D5 h5 F5 N5 l5
    clear F9 N9
    w_strict ((try k_unmd); (try k_fold); k_steps)
    refine ⟨?_⟩
    rename Fr _ _ _ _ => F9
    rename News _ _ _ _ => N9
    obtain ⟨nl3, hnl3⟩ := namedL N9
    rw [← hnl3] at N9
    k_dflt (refine at_list (vs := vs) (n := k) rfl F9 N9 (by rw [hnl3]; repeat (first | exact List.Mem.head _ | refine List.Mem.tail _ ?_)) rfl rfl (Nat.le_trans (m := 8) (by rw [hvl]; exact hlen) (by decide)) (frm_name (by decide) rfl rfl) (fun j ys n₁ => n₁ = nl3 ∧ IntsAre ys (selZ (ns.take j))) ⟨rfl, .nil⟩ ?turn3 ?fin3)
    case turn3 =>
      rintro I4 C4 D4 hI4 j a4 ha4 ys4 n₄ ⟨rfl, hys4⟩ hyl4 hoff4 v4 l4 h4' tk4 E4 hK4 F
      rw [List.getElem?_map] at ha4
      obtain ⟨u4', g1, g2⟩ := Option.map_eq_some_iff.mp ha4
      obtain ⟨⟨hh4, hav4⟩, oC4, m₄, rfl, hC4, hx4⟩ := hK4
      rw [← g2] at hav4
      have hv4 : v4 = u4' := hav4
      subst hv4
      obtain ⟨x4, t4, rfl, hx4n⟩ := intsAre_at hv g1
      clear F9 N9
      refine AllObj.cons (fun o1 hc1 => AllObj.nil (fun N => ?_))
      rw [hnl3] at N
      dsimp only [testsJ]
      simp only [List.cons_append, List.nil_append] at N ⊢
      w_strict ((try k_unmd); (try k_fold); k_steps)
      · rename x4 = 0 => hb
        rename Fr _ _ _ _ => F7
        rename News _ _ _ _ => N7
        refine CEndJ.same (news' := n₄) F7 (by rw [hnl3]; exact N7) hoff4 ⟨⟨by rw [hnl3]; repeat (first | exact List.Mem.head _ | refine List.Mem.tail _ ?_), trivial⟩, rfl, ?_⟩
        rw [selZ_on hx4n hb]
        exact intsAre_append hys4 (.cons _ _ .nil)
      · rename ¬ x4 = 0 => hb
        rename Fr _ _ _ _ => F7
        rename News _ _ _ _ => N7
        refine CEndJ.same (news' := n₄) F7 (by rw [hnl3]; exact N7) hoff4 ⟨⟨by rw [hnl3]; repeat (first | exact List.Mem.head _ | refine List.Mem.tail _ ?_), trivial⟩, rfl, ?_⟩
        rw [selZ_off hx4n hb]
        exact hys4
    case fin3 =>
      rintro ys4 n₄ ⟨rfl, hys4⟩ - D4 h4' tk4 F N off4
      clear F9 N9
      rw [hvl, List.take_length] at hys4
      rw [hnl3] at N off4
      w_strict ((try k_unmd); (try k_fold); k_steps)
      refine ⟨?_⟩
      rename Fr _ _ _ _ => F9
      rename News _ _ _ _ => N9
      k_dflt (refine kmk_add_lit (zs := [.ref D, .ref E0, .ref E1, .ref E2, .ref D4]) F9 N9 ⟨_, (N9 _ (.tail _ (.tail _ (.head _)))).1, rfl, _, rfl⟩ ⟨_, (N9 _ (.head _)).1, rfl, _, rfl⟩ rfl ?_ ?sz)
      case sz => show 5 ≤ sizeLine; decide
      intro D6 h6 F6 N6 l6
      clear F9 N9
      w_strict ((try k_unmd); (try k_fold); k_steps)
      rename Fr _ _ _ _ => F8
      rename News _ _ _ _ => N8
      refine hret D6 _ _ _ _ _ ?rr F8 N8 ?ss
      case rr =>
        refine .cons (k := k) ?m0 hv (RefL.append (us := [.ref E0, .ref E1, .ref E2]) (vs := [.ref D4]) (yss := [selB 0 ns, selB 1 ns, selB 2 ns]) (zss := [selZ ns]) (hys.mono fun p hp => ?m1) (.cons (.tail _ (.head _)) hys4 .nil))
        case m0 => repeat (first | exact List.Mem.head _ | refine List.Mem.tail _ ?_)
        case m1 => exact .tail _ (.tail _ (.tail _ (.tail _ (.tail _ (.tail _ (.tail _ (List.mem_append_right tl hp)))))))
      case ss =>
        intro p hp
        exact .tail _ (.tail _ (.tail _ (.tail _ (.tail _ (List.mem_append_left n₁ hp)))))
end
end
section
open PySem PySem.W PyProof.Rows PySem.Spec PySem.Calls
local macro_rules | `(tactic| walk_at "compareOp NotEq ref ref") => `(tactic| (k_here; (with_reducible show wpAny _ _ (compareOp CmpOp.NotEq (Value.ref _) (Value.ref _)) _ _ _); refine Stop.intro' ?_))
noncomputable def strL (ns : List Int) : List Str := ns.map fun x => Str.ofString (toString x)
theorem strOk_num {x : Int} (h : 0 ≤ x ∧ x ≤ 7) : PyData.strOk (Str.ofString (toString x)) = true := by
  obtain ⟨n, rfl⟩ := Int.eq_ofNat_of_zero_le h.1
  obtain ⟨-, h⟩ := h
  have h : n ≤ 7 := by omega
  rcases n with _ | _ | _ | _ | _ | _ | _ | _ | n
  · decide +kernel
  · decide +kernel
  · decide +kernel
  · decide +kernel
  · decide +kernel
  · decide +kernel
  · decide +kernel
  · decide +kernel
  · omega
theorem strL_ok {rows : List (List Int)} (h : ∀ r ∈ rows, ∀ x ∈ r, 0 ≤ x ∧ x ≤ 7) : ∀ ys ∈ rows.map strL, ∀ y ∈ ys, PyData.strOk y = true := by
  intro ys hys y hy
  obtain ⟨r, hr, rfl⟩ := List.mem_map.mp hys
  obtain ⟨x, hx, rfl⟩ := List.mem_map.mp hy
  exact strOk_num (h r hr x hx)
section
variable {w : World} {mean : ExcName → Option Value} {mg mb : Str → Option Value} {dp un : Nat} {gd : Option (List Code)} {cn : Str} {nms : List (Str × NameKind)} {ig ic : Bool} {mr : List (Str × Const)} {a : Addr} {ccd : Value} {cl : List (Str × Addr)} {outer : List Env} {A₀ : Around} {base h₀ : Heap} {L : Addr} {m : Str → Option Value} {s : Shared} {Q E : Value → Shared → Prop} {news : List (Addr × Obj)}
theorem law_t6 {Dl Dd : Addr} {k1 k2 : Nat} {us vs : List Value} {rows : List (List Int)} {m₀ : Str → Option Value} {Qf : Flow → Shared → Prop}
    (hl : RefL StrsAre news us (rows.map strL)) (hdd : RefL IntsAre news vs rows) (hlen : rows.length ≤ 5) (hrl : ∀ r ∈ rows, r.length ≤ 8) (hns : ∀ r ∈ rows, ∀ x ∈ r, 0 ≤ x ∧ x ≤ 7) (hm1 : (Dl, listOf us.toArray k1) ∈ news) (hm2 : (Dd, listOf vs.toArray k2) ∈ news)
    (B : Below A₀ base outer h₀) (F : Fr h₀ L s.heap (fun z => if z = Str.ofString "lists" then some (.ref Dl) else if z = Str.ofString "due" then some (.ref Dd) else m₀ z)) (X : (hk.heap_1 w.params).In h₀) (N : News h₀ L s.heap news) (T : Top vw61 LL mean mg mb h₀) (hd : dp + 20 < recursionLimit) (hu : un + 200 < cLine)
    (hret : ∀ h' tk', Fr h₀ L h' (fun z => if z = Str.ofString "lists" then some (.ref Dl) else if z = Str.ofString "due" then some (.ref Dd) else m₀ z) → News h₀ L h' news → Qf .next { s with heap := h', toks := tk' }) :
    wpAny (model prog w) (ktrTop dp un gd (Str.ofString "law") lawScope L a ccd (cellsFrom (L + 1) lawScope.names []) outer) (exec (lawTurn.getD 6 default) (envOfC (Str.ofString "law") lawScope L a ccd)) Qf E s := by
  have hst : lawTurn.getD 6 default = Stmt.If _ _ _ _ := rfl
  have hsc : lawScope = Scope.mk _ _ _ _ _ := rfl
  rw [hst, hsc]
  clear hst hsc
  have hvl := hdd.length
  w_strict ((try k_unmd); (try k_fold); k_steps)
  refine ⟨?_⟩
  rename Fr _ _ _ _ => F9
  rename News _ _ _ _ => N9
  k_dflt (refine at_list (vs := vs) (n := k2) rfl F9 N9 hm2 rfl rfl (Nat.le_trans (m := 5) (by rw [hvl]; exact hlen) (by decide)) (frm_name (by decide) rfl rfl) (fun j ys n₁ => (∀ p ∈ news, p ∈ n₁) ∧ RefL StrsAre n₁ ys ((rows.take j).map strL)) ⟨fun p hp => hp, .nil⟩ ?turn1 ?fin1)
  case turn1 =>
    rintro I C D hI i a ha ys n₁ ⟨hsub, hys⟩ hyl hoff v l' h tk E' hK F
    rw [List.getElem?_map] at ha
    obtain ⟨u4', g1, g2⟩ := Option.map_eq_some_iff.mp ha
    obtain ⟨⟨hh4, hav4⟩, oC, m₄, rfl, hC, hx4⟩ := hK
    rw [← g2] at hav4
    have hv4 : v = u4' := hav4
    subst hv4
    obtain ⟨R, rv, rk, rn, rfl, hRm, hRi, hRr⟩ := hdd.at g1
    have hrn1 := hrl rn (List.mem_of_getElem? hRr)
    have hrn2 := hns rn (List.mem_of_getElem? hRr)
    have hrvl := intsAre_length hRi
    clear F9 N9
    refine AllObj.cons (fun o1 hc1 => AllObj.nil (fun N => ?_))
    simp only [List.cons_append, List.nil_append] at N
    have N' := cb_drop (news := (I, o1) :: (C, oC) :: (D, LCg.lst ys) :: (R, listOf rv.toArray rk) :: n₁) N (by
      intro p hp
      rcases List.mem_cons.mp hp with rfl | hp
      · exact .head _
      rcases List.mem_cons.mp hp with rfl | hp
      · exact .tail _ (.head _)
      rcases List.mem_cons.mp hp with rfl | hp
      · exact .tail _ (.tail _ (.head _))
      rcases List.mem_cons.mp hp with rfl | hp
      · exact .tail _ (.tail _ (.tail _ (hsub _ hRm)))
      · exact .tail _ (.tail _ (.tail _ hp)))
    clear N
    dsimp only [testsJ]
    simp only [List.cons_append, List.nil_append]
    rw [if_pos trivial]
    w_strict ((try k_unmd); (try k_fold); k_steps)
    refine ⟨?_⟩
    rename Fr _ _ _ _ => F9
    rename News _ _ _ _ => N9
    obtain ⟨nl2, hnl2⟩ := namedL N9
    rw [← hnl2] at N9
    k_dflt (refine at_list (vs := rv) (n := rk) rfl F9 N9 (by rw [hnl2]; repeat (first | exact List.Mem.head _ | refine List.Mem.tail _ ?_)) rfl rfl (Nat.le_trans (m := 8) (by rw [hrvl]; exact hrn1) (by decide)) (frm_name (by decide) rfl rfl) (fun j ys n₁ => n₁ = nl2 ∧ StrsAre ys (strL (rn.take j))) ⟨rfl, .nil⟩ ?turn2 ?fin2)
    case turn2 =>
      rintro I4 C4 D4 hI4 j a4 ha4 ys4 n₄ ⟨rfl, hys4⟩ hyl4 hoff4 v4 l4 h4' tk4 E4 hK4 F
      rw [List.getElem?_map] at ha4
      obtain ⟨u4', g1, g2⟩ := Option.map_eq_some_iff.mp ha4
      obtain ⟨⟨hh4, hav4⟩, oC4, m₄, rfl, hC4, hx4⟩ := hK4
      rw [← g2] at hav4
      have hv4 : v4 = u4' := hav4
      subst hv4
      obtain ⟨x4, t4, rfl, hx4n⟩ := intsAre_at hRi g1
      obtain ⟨hxb1, hxb2⟩ := hrn2 x4 (List.mem_of_getElem? hx4n)
      clear F9 N9
      refine AllObj.cons (fun o1 hc1 => AllObj.nil (fun N => ?_))
      rw [hnl2] at N
      dsimp only [testsJ]
      simp only [List.cons_append, List.nil_append] at N ⊢
      rw [if_pos trivial]
      w_strict ((try k_unmd); (try k_fold); k_steps)
      rename Fr _ _ _ _ => F7
      rename News _ _ _ _ => N7
      refine CEndJ.same (news' := n₄) F7 (by rw [hnl2]; exact N7) hoff4 ⟨⟨by rw [hnl2]; repeat (first | exact List.Mem.head _ | refine List.Mem.tail _ ?_), trivial⟩, rfl, ?_⟩
      rw [List.take_add_one, hx4n, show strL (List.take j rn ++ (some x4).toList) = strL (rn.take j) ++ [Str.ofString (toString x4)] from by unfold strL; rw [List.map_append]; rfl]
      exact strsAre_snoc hys4
    case fin2 =>
      rintro ys4 n₄ ⟨rfl, hys4⟩ - D4 h4' tk4 F N off4
      clear F9 N9
      rw [hrvl, List.take_length] at hys4
      rw [hnl2] at N off4
      w_strict ((try k_unmd); (try k_fold); k_steps)
      rename Fr _ _ _ _ => F8
      rename News _ _ _ _ => N8
      refine CEndJ.same (news' := (D4, LCg.lst ys4) :: n₁) F8 (cb_drop N8 ?gr) ?go ⟨⟨.tail _ (hsub _ hm2), trivial⟩, fun p hp => .tail _ (hsub p hp), ?_⟩
      case gr =>
        intro p hp
        have hp2 : p ∈ [(I, o1), (C, oC), (D, LCg.lst ys), (D4, LCg.lst ys4)] ++ n₁ := hp
        rcases List.mem_append.mp hp2 with h | h
        · have h' : p ∈ [(D4, LCg.lst ys4), (I, o1), (C, oC), (D, LCg.lst ys)] := by
            simp only [List.mem_cons, List.not_mem_nil, or_false] at h ⊢
            rcases h with h | h | h | h
            · exact .inr (.inl h)
            · exact .inr (.inr (.inl h))
            · exact .inr (.inr (.inr h))
            · exact .inl h
          exact List.mem_append_left ([(R, listOf rv.toArray rk)] ++ n₁) h'
        · repeat (first | exact h | refine List.Mem.tail _ ?_)
      case go =>
        intro p hp
        rcases List.mem_cons.mp hp with rfl | hp
        · refine ⟨fun h => ?_, fun h => ?_, fun h => ?_⟩
          · exact off4 _ (.head _) (List.mem_singleton.mp h).symm
          · exact off4 _ (.tail _ (.head _)) (List.mem_singleton.mp h).symm
          · exact off4 _ (.tail _ (.tail _ (.head _))) h.symm
        · exact hoff p hp
      rw [List.take_add_one, hRr, List.map_append]
      exact (hys.mono fun p hp => .tail _ hp).append (.cons (.head _) hys4 .nil)
  case fin1 =>
    rintro ys n₁ ⟨hsub, hys⟩ - D h3' tk3 F N off3
    clear F9 N9
    rw [hvl, List.take_length] at hys
    w_strict ((try k_unmd); (try k_fold); k_steps)
    refine ⟨?_⟩
    rename Fr _ _ _ _ => F9
    rename News _ _ _ _ => N9
    k_dflt (refine ne_rows N9 (.tail _ (hsub _ hm1)) (hl.mono fun p hp => .tail _ (hsub p hp)) (.head _) (hys.mono fun p hp => .tail _ hp) ?un ?ok ?_)
    case ok => exact strL_ok hns
    case un => ktr_units
    w_strict ((try k_unmd); (try k_fold); k_steps)
    exact hret _ _ F9 (fun p hp => N9 p (.tail _ (hsub p hp)))
end
end
section
local macro_rules | `(tactic| walk_at "no such step") => `(tactic| fail)
open PySem PySem.W PyProof.Rows PySem.Spec PySem.Calls
local macro_rules | `(tactic| walk_at "call ref") => `(tactic| (k_here; (with_reducible show wpAny _ _ (call (Value.ref 67) _) _ _ _); refine Stop.intro' ?_))
noncomputable def lenL (rows : List (List Int)) : List Int := rows.map fun r => ((r.length : Nat) : Int)
section
variable {w : World} {mean : ExcName → Option Value} {mg mb : Str → Option Value} {dp un : Nat} {gd : Option (List Code)} {cn : Str} {nms : List (Str × NameKind)} {ig ic : Bool} {mr : List (Str × Const)} {a : Addr} {ccd : Value} {cl : List (Str × Addr)} {outer : List Env} {A₀ : Around} {base h₀ : Heap} {L : Addr} {m : Str → Option Value} {s : Shared} {Q E : Value → Shared → Prop} {news : List (Addr × Obj)}
theorem law_t7 {xt dt lt Dd : Addr} {h1 : Int} {kk1 : Tok} {its : Array Value} {k k2 : Nat} {ot : Obj} {vs : List Value} {rows : List (List Int)} {m₀ : Str → Option Value} {tl : List (Addr × Obj)} {Qf : Flow → Shared → Prop}
    (ht : ot.data = .cell (some (.ref xt))) (hz : its.size ≤ 32) (hdd : RefL IntsAre tl vs rows) (hlen : rows.length ≤ 5) (hrl : ∀ r ∈ rows, r.length ≤ 8) (hm2 : (Dd, listOf vs.toArray k2) ∈ tl) (heq : ((its.size : Nat) : Int) = (lenL rows).sum)
    (B : Below A₀ base outer h₀) (F : Fr h₀ L s.heap (fun z => if z = Str.ofString "due" then some (.ref Dd) else m₀ z)) (X : (hk.heap_1 w.params).In h₀) (N : News h₀ L s.heap ((L + 1 + 1 + 1 + 1 + 1, ot) :: (xt, instObj 219 dt) :: (dt, hdrDict h1 kk1 lt) :: (lt, listOf its k) :: tl)) (T : Top vw61 LL mean mg mb h₀) (hd : dp + 20 < recursionLimit) (hu : un + 200 < cLine)
    (hret : ∀ h' tk', Fr h₀ L h' (fun z => if z = Str.ofString "due" then some (.ref Dd) else m₀ z) → News h₀ L h' ((L + 1 + 1 + 1 + 1 + 1, ot) :: (xt, instObj 219 dt) :: (dt, hdrDict h1 kk1 lt) :: (lt, listOf its k) :: tl) → Qf .next { s with heap := h', toks := tk' }) :
    wpAny (model prog w) (ktrTop dp un gd (Str.ofString "law") lawScope L a ccd (cellsFrom (L + 1) lawScope.names []) outer) (exec (lawTurn.getD 7 default) (envOfC (Str.ofString "law") lawScope L a ccd)) Qf E s := by
  have hst : lawTurn.getD 7 default = Stmt.If _ _ _ _ := rfl
  have hsc : lawScope = Scope.mk _ _ _ _ _ := rfl
  rw [hst, hsc]
  clear hst hsc
  have hvl := hdd.length
  w_strict ((try k_unmd); (try k_fold); k_steps)
  refine ⟨?_⟩
  rename Fr _ _ _ _ => F9
  rename News _ _ _ _ => N9
  k_dflt (refine' hint_k (x := xt) (dx := dt) (l := lt) (its := its) (n := k) (hsh := h1) (kk := kk1) (Nat.le_trans hz (by decide)) ?m1 ?m2 ?m3 ?c1 F9 ?c3 N9 ?c5 ?c6 ?c7 ?_)
  case m1 => repeat (first | exact List.Mem.head _ | refine List.Mem.tail _ ?_)
  case m2 => repeat (first | exact List.Mem.head _ | refine List.Mem.tail _ ?_)
  case m3 => repeat (first | exact List.Mem.head _ | refine List.Mem.tail _ ?_)
  case c1 => assumption
  case c3 => assumption
  case c5 => assumption
  case c6 => ktr_room
  case c7 => ktr_units
  intro t0 h1' tk1 F1 N1
  clear F9 N9
  w_strict ((try k_unmd); (try k_fold); k_steps)
  refine ⟨?_⟩
  rename Fr _ _ _ _ => F9
  rename News _ _ _ _ => N9
  obtain ⟨nl, hnl⟩ := namedL N9
  rw [← hnl] at N9
  have htl : ∀ p ∈ tl, p ∈ nl := by
    intro p hp
    rw [hnl]
    exact .tail _ (.tail _ (.tail _ (.tail _ hp)))
  k_dflt (refine at_list (vs := vs) (n := k2) rfl F9 N9 (htl _ hm2) rfl rfl (Nat.le_trans (m := 5) (by rw [hvl]; exact hlen) (by decide)) (frm_name (by decide) rfl rfl) (fun j ys n₁ => n₁ = nl ∧ IntsAre ys (lenL (rows.take j))) ⟨rfl, .nil⟩ ?turn1 ?fin1)
  case turn1 =>
    rintro I C D hI i a ha ys n₁ ⟨rfl, hys⟩ hyl hoff v l' h tk E' hK F
    rw [List.getElem?_map] at ha
    obtain ⟨u4', g1, g2⟩ := Option.map_eq_some_iff.mp ha
    obtain ⟨⟨hh4, hav4⟩, oC, m₄, rfl, hC, hx4⟩ := hK
    rw [← g2] at hav4
    have hv4 : v = u4' := hav4
    subst hv4
    obtain ⟨R, rv, rk, rn, rfl, hRm, hRi, hRr⟩ := hdd.at g1
    have hrn1 := hrl rn (List.mem_of_getElem? hRr)
    have hrvl := intsAre_length hRi
    clear F9 N9
    refine AllObj.cons (fun o1 hc1 => AllObj.nil (fun N => ?_))
    simp only [List.cons_append, List.nil_append] at N
    have N' := cb_drop (news := (I, o1) :: (C, oC) :: (D, LCg.lst ys) :: (R, listOf rv.toArray rk) :: n₁) N (by
      intro p hp
      rcases List.mem_cons.mp hp with rfl | hp
      · exact .head _
      rcases List.mem_cons.mp hp with rfl | hp
      · exact .tail _ (.head _)
      rcases List.mem_cons.mp hp with rfl | hp
      · exact .tail _ (.tail _ (.head _))
      rcases List.mem_cons.mp hp with rfl | hp
      · exact .tail _ (.tail _ (.tail _ (htl _ hRm)))
      · exact .tail _ (.tail _ (.tail _ hp)))
    clear N
    have hsz : rv.toArray.size ≤ 1000 := by
      rw [List.size_toArray, hrvl]
      exact Nat.le_trans hrn1 (by decide)
    dsimp only [testsJ]
    simp only [List.cons_append, List.nil_append]
    rw [if_pos trivial]
    w_strict ((try k_unmd); (try k_fold); k_steps)
    rename Fr _ _ _ _ => F8
    rename News _ _ _ _ => N8
    refine CEndJ.same (news' := n₁) F8 (pickT 4 [0, 1, 2] N8) hoff ⟨⟨htl _ hm2, trivial⟩, rfl, ?_⟩
    rw [List.take_add_one, hRr, show lenL (List.take i rows ++ (some rn).toList) = lenL (rows.take i) ++ [((rn.length : Nat) : Int)] from by unfold lenL; rw [List.map_append]; rfl]
    exact intsAre_append hys (.cons _ _ .nil)
  case fin1 =>
    rintro ys n₁ ⟨rfl, hys⟩ - D h3' tk3 F N off3
    clear F9 N9
    rw [hvl, List.take_length] at hys
    rw [hnl] at N
    w_strict ((try k_unmd); (try k_fold); k_steps)
    refine ⟨?_⟩
    rename Fr _ _ _ _ => F9
    rename News _ _ _ _ => N9
    k_dflt (refine sumK rfl F9 N9 ⟨_, (N9 _ (.head _)).1, rfl, _, rfl⟩ hys ?_)
    intro hh1 tk1 tt1 F1 N1
    clear F9 N9
    w_strict ((try k_unmd); (try k_fold); k_steps)
    · rename _ ≠ _ => hbad
      exact absurd heq hbad
    · rename Fr _ _ _ _ => F8
      rename News _ _ _ _ => N8
      exact hret _ _ F8 (pickT 1 [] N8)
end
end
end
section
open PySem PySem.W PyProof.Rows PySem.Spec PySem.Calls
local macro_rules | `(tactic| walk_at "eval ListComp") => `(tactic| (k_here; k_dflt (refine ListComp_F (F₀ := by k_asm) (by with_unfolding_all rfl) (by rfl) (by decide) ?_); k_whole; refine Stop.intro' ?_))
local macro_rules | `(tactic| walk_at "exec Assign cons ListComp") => `(tactic| (k_here; k_dflt (refine Assign_ListComp_F (F₀ := by k_asm) (by rfl) (by with_unfolding_all rfl) (by rfl) (by decide) (by rfl) (by rfl) ?_); k_whole; refine Stop.intro' ?_))
local macro_rules | `(tactic| walk_at "binaryOp Add ref ref") => `(tactic| (k_here; (with_reducible show wpAny _ _ (binaryOp _ (Value.ref _) (Value.ref _)) _ _ _); refine Stop.intro' ?_))
local macro_rules | `(tactic| walk_at "pyIter ref") => `(tactic| (k_here; (with_reducible show wpAny _ _ (pyIter (Value.ref _)) (fun it s₂ => CompAt _ _ _ _ _ _ _ _ _ _ _ _ _ it s₂) _ _); refine Stop.intro' ?_))
local macro_rules | `(tactic| walk_at "call ref") => `(tactic| (k_here; (first | (with_reducible show wpAny _ _ (call (Value.ref 171) _) _ _ _) | (with_reducible show wpAny _ _ (call (Value.ref 59) _) _ _ _)); refine Stop.intro' ?_))
section
variable {w : World} {mean : ExcName → Option Value} {mg mb : Str → Option Value} {dp un : Nat} {gd : Option (List Code)} {cn : Str} {nms : List (Str × NameKind)} {ig ic : Bool} {mr : List (Str × Const)} {a : Addr} {ccd : Value} {cl : List (Str × Addr)} {outer : List Env} {A₀ : Around} {base h₀ : Heap} {L : Addr} {m : Str → Option Value} {s : Shared} {Q E : Value → Shared → Prop} {news : List (Addr × Obj)}
theorem law_t2 {P : Tok → Prop} {xt dt lt ln : Addr} {h1 : Int} {kk1 : Tok} {its : Array Value} {n0 n1 n2 : Str} {x0 x1 x2 : Tok} {k kn : Nat} {ot : Obj} {rs : List (Str × Str)} {m₀ : Str → Option Value} {tl : List (Addr × Obj)} {Qf : Flow → Shared → Prop}
    (ht : ot.data = .cell (some (.ref xt))) (hr : Rows P tl its.toList rs) (hz : its.size ≤ 32) (hrl : ∀ r ∈ rs, r.1.length ≤ 1000)
    (hP : ∀ t, P t → t ≠ 0 ∧ t ≠ x0 ∧ t ≠ x1 ∧ t ≠ x2 ∧ @LT.lt Nat _ t s.toks) (hx0 : x0 ≠ 0) (hx1 : x1 ≠ 0) (hx2 : x2 ≠ 0) (hs0 : @LT.lt Nat _ 0 s.toks) (hl0 : n0.length ≤ 1000) (hl1 : n1.length ≤ 1000) (hl2 : n2.length ≤ 1000)
    (B : Below A₀ base outer h₀) (F : Fr h₀ L s.heap (fun z => if z = Str.ofString "names" then some (.ref ln) else m₀ z)) (X : (hk.heap_1 w.params).In h₀) (N : News h₀ L s.heap ((L + 1 + 1 + 1 + 1 + 1, ot) :: (xt, instObj 219 dt) :: (dt, hdrDict h1 kk1 lt) :: (lt, listOf its k) :: (ln, listOf #[.str n0 x0, .str n1 x1, .str n2 x2] kn) :: tl)) (T : Top vw61 LL mean mg mb h₀) (hd : dp + 20 < recursionLimit) (hu : un + 200 < cLine)
    (hret : ∀ D ys k9 h' tk', IntsAre ys [((countS (rs.map (·.1)) (Str.ofString "set") : Nat) : Int), ((countS (rs.map (·.1)) n0 : Nat) : Int), ((countS (rs.map (·.1)) n1 : Nat) : Int), ((countS (rs.map (·.1)) n2 : Nat) : Int)] → Fr h₀ L h' (fun z => if z = Str.ofString "counts" then some (.ref D) else if z = Str.ofString "names" then some (.ref ln) else m₀ z) → News h₀ L h' ((D, listOf ys.toArray k9) :: (L + 1 + 1 + 1 + 1 + 1, ot) :: (xt, instObj 219 dt) :: (dt, hdrDict h1 kk1 lt) :: (lt, listOf its k) :: (ln, listOf #[.str n0 x0, .str n1 x1, .str n2 x2] kn) :: tl) → (∀ p ∈ (L + 1 + 1 + 1 + 1 + 1, ot) :: (xt, instObj 219 dt) :: (dt, hdrDict h1 kk1 lt) :: (lt, listOf its k) :: (ln, listOf #[.str n0 x0, .str n1 x1, .str n2 x2] kn) :: tl, p.1 ≠ D) → Qf .next { s with heap := h', toks := tk' }) :
    wpAny (model prog w) (ktrTop dp un gd (Str.ofString "law") lawScope L a ccd (cellsFrom (L + 1) lawScope.names []) outer) (exec (lawTurn.getD 2 default) (envOfC (Str.ofString "law") lawScope L a ccd)) Qf E s := by
  have hst : lawTurn.getD 2 default = Stmt.Assign _ _ _ := rfl
  have hsc : lawScope = Scope.mk _ _ _ _ _ := rfl
  rw [hst, hsc]
  clear hst hsc
  w_strict ((try k_unmd); (try k_fold); k_steps)
  refine ⟨?_⟩
  w_strict ((try k_unmd); (try k_fold); k_steps)
  refine ⟨?_⟩
  rename Fr _ _ _ _ => F9
  rename News _ _ _ _ => N9
  k_dflt (refine kmk_add_lit (zs := [.str (Str.ofString "set") _, .str n0 x0, .str n1 x1, .str n2 x2]) F9 N9 ⟨_, (N9 _ (.head _)).1, rfl, _, rfl⟩ ⟨_, (N9 (ln, _) (by repeat (first | exact List.Mem.head _ | refine List.Mem.tail _ ?_))).1, rfl, _, rfl⟩ rfl ?_ ?sz)
  case sz => show 4 ≤ sizeLine; decide
  intro D2 h2 F2 N2 l2
  clear F9 N9
  w_strict ((try k_unmd); (try k_fold); k_steps)
  refine ⟨?_⟩
  rename Fr _ _ _ _ => F9
  rename News _ _ _ _ => N9
  obtain ⟨nl, hnl⟩ := namedL N9
  rw [← hnl] at N9
  have hml : (ln, listOf #[.str n0 x0, .str n1 x1, .str n2 x2] kn) ∈ nl := by rw [hnl]; repeat (first | exact List.Mem.head _ | refine List.Mem.tail _ ?_)
  have hrl2 : ∀ y ∈ rs.map (·.1), y.length ≤ 1000 := by
    intro y hy
    obtain ⟨r, hr, e⟩ := List.mem_map.mp hy
    rw [← e]
    exact hrl r hr
  k_dflt (refine at_list (vs := [.str (Str.ofString "set") s.toks, .str n0 x0, .str n1 x1, .str n2 x2]) (n := 0) rfl F9 N9 (by rw [hnl]; exact .head _) rfl rfl (show 4 ≤ sizeLine by decide) (frm_name (by decide) rfl rfl) (fun j ys n₁ => n₁ = nl ∧ IntsAre ys (([((countS (rs.map (·.1)) (Str.ofString "set") : Nat) : Int), ((countS (rs.map (·.1)) n0 : Nat) : Int), ((countS (rs.map (·.1)) n1 : Nat) : Int), ((countS (rs.map (·.1)) n2 : Nat) : Int)] : List Int).take j)) ⟨rfl, .nil⟩ ?turn2 ?fin2)
  case turn2 =>
    rintro I4 C4 D4 hI4 j a4 ha4 ys4 n₄ ⟨rfl, hys4⟩ hyl4 hoff4 v4 l4 h4' tk4 E4 hK4 F
    rw [List.getElem?_map] at ha4
    obtain ⟨u4', g1, g2⟩ := Option.map_eq_some_iff.mp ha4
    obtain ⟨⟨hh4, hav4⟩, oC4, m₄, rfl, hC4, hx4⟩ := hK4
    rw [← g2] at hav4
    have hv4 : v4 = u4' := hav4
    subst hv4
    have hint : ∃ x t, v4 = .str x t ∧ t ≠ 0 ∧ (∀ t', P t' → t' ≠ 0 ∧ t' ≠ t) ∧ x.length ≤ 1000 ∧ List.take (j + 1) ([((countS (rs.map (·.1)) (Str.ofString "set") : Nat) : Int), ((countS (rs.map (·.1)) n0 : Nat) : Int), ((countS (rs.map (·.1)) n1 : Nat) : Int), ((countS (rs.map (·.1)) n2 : Nat) : Int)] : List Int) = List.take j ([((countS (rs.map (·.1)) (Str.ofString "set") : Nat) : Int), ((countS (rs.map (·.1)) n0 : Nat) : Int), ((countS (rs.map (·.1)) n1 : Nat) : Int), ((countS (rs.map (·.1)) n2 : Nat) : Int)] : List Int) ++ [((countS (rs.map (·.1)) x : Nat) : Int)] := by
      rcases j with _ | _ | _ | _ | j
      · exact ⟨_, _, (Option.some.inj g1).symm, Nat.ne_of_gt hs0, fun t' h => ⟨(hP t' h).1, Nat.ne_of_lt (hP t' h).2.2.2.2⟩, by decide, rfl⟩
      · exact ⟨_, _, (Option.some.inj g1).symm, hx0, fun t' h => ⟨(hP t' h).1, (hP t' h).2.1⟩, hl0, rfl⟩
      · exact ⟨_, _, (Option.some.inj g1).symm, hx1, fun t' h => ⟨(hP t' h).1, (hP t' h).2.2.1⟩, hl1, rfl⟩
      · exact ⟨_, _, (Option.some.inj g1).symm, hx2, fun t' h => ⟨(hP t' h).1, (hP t' h).2.2.2.1⟩, hl2, rfl⟩
      · exact absurd g1 (by simp)
    obtain ⟨x4, t4, rfl, hx0', hP4, hxl4, htk⟩ := hint
    clear F9 N9
    refine AllObj.cons (fun o1 hc1 => AllObj.nil (fun N => ?_))
    rw [hnl] at N
    dsimp only [testsJ]
    simp only [List.cons_append, List.nil_append] at N ⊢
    rw [if_pos trivial]
    w_strict ((try k_unmd); (try k_fold); k_steps)
    refine ⟨?_⟩
    rename Fr _ _ _ _ => F8
    rename News _ _ _ _ => N8
    k_dflt (refine' keys_k (P := P) (its := its) (rs := rs) (dx := dt) (l := lt) ?r1 (Nat.le_trans hz (by decide)) ?m1 ?m2 ?m3 ?b1 F8 ?b3 N8 ?b5 ?b6 ?b7 ?_)
    case r1 => exact hr.mono fun p hp => by repeat (first | exact hp | refine List.Mem.tail _ ?_)
    case m1 => repeat (first | exact List.Mem.head _ | refine List.Mem.tail _ ?_)
    case m2 => repeat (first | exact List.Mem.head _ | refine List.Mem.tail _ ?_)
    case m3 => repeat (first | exact List.Mem.head _ | refine List.Mem.tail _ ?_)
    case b1 => assumption
    case b3 => assumption
    case b5 => assumption
    case b6 => ktr_room
    case b7 => ktr_units
    intro D6 ys6 k6 h6 tk6 hy6 F6 N6 off6
    clear F8 N8
    have hy6l := hy6.length
    w_strict ((try k_unmd); (try k_fold); k_steps)
    refine ⟨?_⟩
    rename Fr _ _ _ _ => F8
    rename News _ _ _ _ => N8
    k_dflt (refine' count_k (P := P) (ys := ys6) (k := k6) hy6 ?z1 hx0' hP4 hrl2 hxl4 ?m4 ?c1 F8 ?c3 N8 ?c5 ?c6 ?c7 ?_)
    case z1 =>
      rw [hy6l, List.length_map, ← hr.length, Array.length_toList]
      exact Nat.le_trans hz (by decide)
    case m4 => repeat (first | exact List.Mem.head _ | refine List.Mem.tail _ ?_)
    case c1 => assumption
    case c3 => assumption
    case c5 => assumption
    case c6 => ktr_room
    case c7 => ktr_units
    intro t7 h7 tk7 F7 N7
    clear F8 N8
    w_strict ((try k_unmd); (try k_fold); k_steps)
    rename Fr _ _ _ _ => F8
    rename News _ _ _ _ => N8
    refine CEndJ.same (news' := n₄) F8 (by rw [hnl]; exact pickT 1 [] N8) hoff4 ⟨⟨by rw [hnl]; exact .head _, trivial⟩, rfl, ?_⟩
    rw [htk]
    exact intsAre_append hys4 (.cons _ _ .nil)
  case fin2 =>
    rintro ys4 n₄ ⟨rfl, hys4⟩ - D4 h4' tk4 F N off4
    clear F9 N9
    rw [hnl] at N off4
    w_strict ((try k_unmd); (try k_fold); k_steps)
    rename Fr _ _ _ _ => F9
    rename News _ _ _ _ => N9
    exact hret D4 ys4 _ _ _ hys4 F9 (pickT 3 [0] N9) (fun p hp => off4 p (.tail _ (.tail _ hp)))
end
end
section
local macro_rules | `(tactic| walk_at "no such step") => `(tactic| fail)
open PySem PySem.W PyProof.Rows PySem.Spec PySem.Calls
local macro_rules | `(tactic| walk_at "eval ListComp") => `(tactic| (k_here; k_dflt (refine ListComp_F (F₀ := by k_asm) (by with_unfolding_all rfl) (by rfl) (by decide) ?_); k_whole; refine Stop.intro' ?_))
local macro_rules | `(tactic| walk_at "exec Assign cons ListComp") => `(tactic| (k_here; k_dflt (refine Assign_ListComp_F (F₀ := by k_asm) (by rfl) (by with_unfolding_all rfl) (by rfl) (by decide) (by rfl) (by rfl) ?_); k_whole; refine Stop.intro' ?_))
local macro_rules | `(tactic| walk_at "binaryOp Add ref ref") => `(tactic| (k_here; (with_reducible show wpAny _ _ (binaryOp _ (Value.ref _) (Value.ref _)) _ _ _); refine Stop.intro' ?_))
local macro_rules | `(tactic| walk_at "pyIter ref") => `(tactic| (k_here; (with_reducible show wpAny _ _ (pyIter (Value.ref _)) (fun it s₂ => CompAt _ _ _ _ _ _ _ _ _ _ _ _ _ it s₂) _ _); refine Stop.intro' ?_))
local macro_rules | `(tactic| walk_at "call ref") => `(tactic| (k_here; (with_reducible show wpAny _ _ (call (Value.ref 158) _) _ _ _); refine Stop.intro' ?_))
section
variable {w : World} {mean : ExcName → Option Value} {mg mb : Str → Option Value} {dp un : Nat} {gd : Option (List Code)} {cn : Str} {nms : List (Str × NameKind)} {ig ic : Bool} {mr : List (Str × Const)} {a : Addr} {ccd : Value} {cl : List (Str × Addr)} {outer : List Env} {A₀ : Around} {base h₀ : Heap} {L : Addr} {m : Str → Option Value} {s : Shared} {Q E : Value → Shared → Prop} {news : List (Addr × Obj)}
theorem law_t5 {P : Tok → Prop} {xt dt lt ln : Addr} {h1 : Int} {kk1 : Tok} {its : Array Value} {n0 n1 n2 : Str} {x0 x1 x2 : Tok} {k kn : Nat} {ot : Obj} {rs : List (Str × Str)} {m₀ : Str → Option Value} {tl : List (Addr × Obj)} {Qf : Flow → Shared → Prop}
    (ht : ot.data = .cell (some (.ref xt))) (hr : Rows P tl its.toList rs) (hz : its.size ≤ 32) (hrl : ∀ r ∈ rs, r.1.length ≤ 1000)
    (hsw : ∀ x ∈ [Str.ofString "set", n0, n1, n2, Str.ofString "0x0"], clean (Txt.swapcase x) ∧ (Txt.swapcase x).cps.size < 2 ^ 20 ∧ clean (Txt.lower (Txt.swapcase x)) ∧ (Txt.lower (Txt.swapcase x)).cps.size < 2 ^ 20 ∧ (Txt.swapcase x).length ≤ 1000 ∧ x.length ≤ 1000)
    (B : Below A₀ base outer h₀) (F : Fr h₀ L s.heap (fun z => if z = Str.ofString "names" then some (.ref ln) else m₀ z)) (X : (hk.heap_1 w.params).In h₀) (N : News h₀ L s.heap ((L + 1 + 1 + 1 + 1 + 1, ot) :: (xt, instObj 219 dt) :: (dt, hdrDict h1 kk1 lt) :: (lt, listOf its k) :: (ln, listOf #[.str n0 x0, .str n1 x1, .str n2 x2] kn) :: tl)) (T : Top vw61 LL mean mg mb h₀) (hd : dp + 20 < recursionLimit) (hu : un + 200 < cLine)
    (hret : ∀ D ys k9 n9 h' tk', RefL StrsAre n9 ys [pickR rs (Txt.swapcase (Str.ofString "set")), pickR rs (Txt.swapcase n0), pickR rs (Txt.swapcase n1), pickR rs (Txt.swapcase n2), pickR rs (Txt.swapcase (Str.ofString "0x0"))] → Fr h₀ L h' (fun z => if z = Str.ofString "lists" then some (.ref D) else if z = Str.ofString "names" then some (.ref ln) else m₀ z) → News h₀ L h' ((D, listOf ys.toArray k9) :: n9) → (∀ p ∈ (L + 1 + 1 + 1 + 1 + 1, ot) :: (xt, instObj 219 dt) :: (dt, hdrDict h1 kk1 lt) :: (lt, listOf its k) :: (ln, listOf #[.str n0 x0, .str n1 x1, .str n2 x2] kn) :: tl, p ∈ n9) → Qf .next { s with heap := h', toks := tk' }) :
    wpAny (model prog w) (ktrTop dp un gd (Str.ofString "law") lawScope L a ccd (cellsFrom (L + 1) lawScope.names []) outer) (exec (lawTurn.getD 5 default) (envOfC (Str.ofString "law") lawScope L a ccd)) Qf E s := by
  have hst : lawTurn.getD 5 default = Stmt.Assign _ _ _ := rfl
  have hsc : lawScope = Scope.mk _ _ _ _ _ := rfl
  rw [hst, hsc]
  clear hst hsc
  w_strict ((try k_unmd); (try k_fold); k_steps)
  refine ⟨?_⟩
  w_strict ((try k_unmd); (try k_fold); k_steps)
  refine ⟨?_⟩
  rename Fr _ _ _ _ => F9
  rename News _ _ _ _ => N9
  k_dflt (refine kmk_add_lit (zs := [.str (Str.ofString "set") _, .str n0 x0, .str n1 x1, .str n2 x2]) F9 N9 ⟨_, (N9 _ (.head _)).1, rfl, _, rfl⟩ ⟨_, (N9 (ln, _) (by repeat (first | exact List.Mem.head _ | refine List.Mem.tail _ ?_))).1, rfl, _, rfl⟩ rfl ?_ ?sz)
  case sz => show 4 ≤ sizeLine; decide
  intro D2 h2 F2 N2 l2
  clear F9 N9
  w_strict ((try k_unmd); (try k_fold); k_steps)
  refine ⟨?_⟩
  rename Fr _ _ _ _ => F9
  rename News _ _ _ _ => N9
  k_dflt (refine kmk_add_lit (zs := [.str (Str.ofString "set") _, .str n0 x0, .str n1 x1, .str n2 x2, .str (Str.ofString "0x0") _]) F9 N9 ⟨_, (N9 (D2, _) (by repeat (first | exact List.Mem.head _ | refine List.Mem.tail _ ?_))).1, rfl, _, rfl⟩ ⟨_, (N9 _ (.head _)).1, rfl, _, rfl⟩ rfl ?_ ?sz)
  case sz => show 5 ≤ sizeLine; decide
  intro D3 h3 F3 N3 l3
  clear F9 N9
  w_strict ((try k_unmd); (try k_fold); k_steps)
  refine ⟨?_⟩
  rename Fr _ _ _ _ => F9
  rename News _ _ _ _ => N9
  obtain ⟨nl, hnl⟩ := namedL N9
  rw [← hnl] at N9
  have hex : ∀ p ∈ (L + 1 + 1 + 1 + 1 + 1, ot) :: (xt, instObj 219 dt) :: (dt, hdrDict h1 kk1 lt) :: (lt, listOf its k) :: (ln, listOf #[.str n0 x0, .str n1 x1, .str n2 x2] kn) :: tl, p ∈ nl := by
    intro p hp
    rw [hnl]
    repeat (first | exact hp | refine List.Mem.tail _ ?_)
  have hr2 : Rows P nl its.toList rs := hr.mono fun p hp => hex p (by repeat (first | exact hp | refine List.Mem.tail _ ?_))
  k_dflt (refine at_list (vs := [.str (Str.ofString "set") s.toks, .str n0 x0, .str n1 x1, .str n2 x2, .str (Str.ofString "0x0") (s.toks + 1)]) (n := 0) rfl F9 N9 (by rw [hnl]; exact .head _) rfl rfl (show 5 ≤ sizeLine by decide) (frm_name (by decide) rfl rfl) (fun j ys n₁ => (∀ p ∈ nl, p ∈ n₁) ∧ RefL StrsAre n₁ ys ([pickR rs (Txt.swapcase (Str.ofString "set")), pickR rs (Txt.swapcase n0), pickR rs (Txt.swapcase n1), pickR rs (Txt.swapcase n2), pickR rs (Txt.swapcase (Str.ofString "0x0"))].take j)) ⟨fun p hp => hp, .nil⟩ ?turn2 ?fin2)
  case turn2 =>
    rintro I4 C4 D4 hI4 j a4 ha4 ys4 n₄ ⟨hsub, hys4⟩ hyl4 hoff4 v4 l4 h4' tk4 E4 hK4 F
    rw [List.getElem?_map] at ha4
    obtain ⟨u4', g1, g2⟩ := Option.map_eq_some_iff.mp ha4
    obtain ⟨⟨hh4, hav4⟩, oC4, m₄, rfl, hC4, hx4⟩ := hK4
    rw [← g2] at hav4
    have hv4 : v4 = u4' := hav4
    subst hv4
    have hint : ∃ x t, v4 = .str x t ∧ x ∈ [Str.ofString "set", n0, n1, n2, Str.ofString "0x0"] ∧ List.take (j + 1) [pickR rs (Txt.swapcase (Str.ofString "set")), pickR rs (Txt.swapcase n0), pickR rs (Txt.swapcase n1), pickR rs (Txt.swapcase n2), pickR rs (Txt.swapcase (Str.ofString "0x0"))] = List.take j [pickR rs (Txt.swapcase (Str.ofString "set")), pickR rs (Txt.swapcase n0), pickR rs (Txt.swapcase n1), pickR rs (Txt.swapcase n2), pickR rs (Txt.swapcase (Str.ofString "0x0"))] ++ [pickR rs (Txt.swapcase x)] := by
      rcases j with _ | _ | _ | _ | _ | j
      · exact ⟨_, _, (Option.some.inj g1).symm, .head _, rfl⟩
      · exact ⟨_, _, (Option.some.inj g1).symm, .tail _ (.head _), rfl⟩
      · exact ⟨_, _, (Option.some.inj g1).symm, .tail _ (.tail _ (.head _)), rfl⟩
      · exact ⟨_, _, (Option.some.inj g1).symm, .tail _ (.tail _ (.tail _ (.head _))), rfl⟩
      · exact ⟨_, _, (Option.some.inj g1).symm, .tail _ (.tail _ (.tail _ (.tail _ (.head _)))), rfl⟩
      · exact absurd g1 (by simp)
    obtain ⟨x4, t4, rfl, hxm, htk⟩ := hint
    obtain ⟨hw1, hw2, hw3, hw4, hw5, hw6⟩ := hsw x4 hxm
    clear F9 N9
    refine AllObj.cons (fun o1 hc1 => AllObj.nil (fun N => ?_))
    simp only [List.cons_append, List.nil_append] at N
    have N' := cb_drop (news := (I4, o1) :: (C4, oC4) :: (D4, LCg.lst ys4) :: (L + 1 + 1 + 1 + 1 + 1, ot) :: (xt, instObj 219 dt) :: (dt, hdrDict h1 kk1 lt) :: (lt, listOf its k) :: (ln, listOf #[.str n0 x0, .str n1 x1, .str n2 x2] kn) :: n₄) N (by
      intro p hp
      rcases List.mem_cons.mp hp with rfl | hp
      · exact .head _
      rcases List.mem_cons.mp hp with rfl | hp
      · exact .tail _ (.head _)
      rcases List.mem_cons.mp hp with rfl | hp
      · exact .tail _ (.tail _ (.head _))
      refine .tail _ (.tail _ (.tail _ ?_))
      have hp2 : p ∈ [(L + 1 + 1 + 1 + 1 + 1, ot), (xt, instObj 219 dt), (dt, hdrDict h1 kk1 lt), (lt, listOf its k), (ln, listOf #[.str n0 x0, .str n1 x1, .str n2 x2] kn)] ++ n₄ := hp
      rcases List.mem_append.mp hp2 with h | h
      · exact hsub p (hex p (List.mem_append_left tl h))
      · exact h)
    clear N
    dsimp only [testsJ]
    simp only [List.cons_append, List.nil_append]
    rw [if_pos trivial]
    w_strict ((try k_unmd); (try k_fold); k_steps)
    refine ⟨?_⟩
    rename Fr _ _ _ _ => F8
    rename News _ _ _ _ => N8
    k_dflt (refine' get_all_k (P := P) (its := its.toList) (rs := rs) (dx := dt) (l := lt) ?r1 (Nat.le_trans hz (by decide)) hrl hw3 hw4 hw5 ?m1 ?m2 ?m3 ?b1 F8 ?b3 N8 ?b5 ?b6 ?b7 ?_)
    case r1 => exact hr2.mono fun p hp => .tail _ (.tail _ (.tail _ (.tail _ (.tail _ (.tail _ (.tail _ (.tail _ (hsub p hp))))))))
    case m1 => repeat (first | exact List.Mem.head _ | refine List.Mem.tail _ ?_)
    case m2 => repeat (first | exact List.Mem.head _ | refine List.Mem.tail _ ?_)
    case m3 => repeat (first | exact List.Mem.head _ | refine List.Mem.tail _ ?_)
    case b1 => assumption
    case b3 => assumption
    case b5 => assumption
    case b6 => ktr_room
    case b7 => ktr_units
    intro D6 ys6 k6 h6 tk6 hy6 F6 N6 off6
    clear F8 N8
    w_strict ((try k_unmd); (try k_fold); k_steps)
    rename Fr _ _ _ _ => F8
    rename News _ _ _ _ => N8
    refine CEndJ.same (news' := (D6, listOf ys6.toArray k6) :: n₄) F8 (cb_drop N8 ?gr) ?go ⟨⟨.tail _ (hsub _ (by rw [hnl]; exact .head _)), trivial⟩, fun p hp => .tail _ (hsub p hp), ?_⟩
    case gr =>
      intro p hp
      have hp2 : p ∈ [(I4, o1), (C4, oC4), (D4, LCg.lst ys4), (D6, listOf ys6.toArray k6)] ++ n₄ := hp
      rcases List.mem_append.mp hp2 with h | h
      · have h' : p ∈ [(D6, listOf ys6.toArray k6), (I4, o1), (C4, oC4), (D4, LCg.lst ys4)] := by
          simp only [List.mem_cons, List.not_mem_nil, or_false] at h ⊢
          rcases h with h | h | h | h
          · exact .inr (.inl h)
          · exact .inr (.inr (.inl h))
          · exact .inr (.inr (.inr h))
          · exact .inl h
        exact List.mem_append_left ([(L + 1 + 1 + 1 + 1 + 1, ot), (xt, instObj 219 dt), (dt, hdrDict h1 kk1 lt), (lt, listOf its k), (ln, listOf #[.str n0 x0, .str n1 x1, .str n2 x2] kn)] ++ n₄) h'
      · repeat (first | exact h | refine List.Mem.tail _ ?_)
    case go =>
      intro p hp
      rcases List.mem_cons.mp hp with rfl | hp
      · refine ⟨fun h => ?_, fun h => ?_, fun h => ?_⟩
        · exact off6 _ (.head _) (List.mem_singleton.mp h).symm
        · exact off6 _ (.tail _ (.head _)) (List.mem_singleton.mp h).symm
        · exact off6 _ (.tail _ (.tail _ (.head _))) h.symm
      · exact hoff4 p hp
    rw [htk]
    exact (hys4.mono fun p hp => .tail _ hp).append (.cons (.head _) hy6 .nil)
  case fin2 =>
    rintro ys4 n₄ ⟨hsub, hys4⟩ - D4 h4' tk4 F N off4
    clear F9 N9
    w_strict ((try k_unmd); (try k_fold); k_steps)
    rename Fr _ _ _ _ => F9
    rename News _ _ _ _ => N9
    exact hret D4 ys4 _ n₄ _ _ hys4 F9 N9 (fun p hp => hsub p (hex p hp))
end
end
section
open PySem PySem.W PyProof.Rows PySem.Spec PySem.Calls
theorem fr_look {m : Str → Option Value} {x : Str} {v : Value} (h : m x = some v) : (fun z => if z = x then some v else m z) = m := by
  funext z
  by_cases e : z = x
  · rw [if_pos e, e, h]
  · rw [if_neg e]
/-- what one turn asks of the names, the places, the weights and the quota -/
structure TurnFacts (n0 n1 n2 : Str) (p0 p1 p2 w0 w1 w2 q : Int) (val : Str → Int) : Prop where
  TF : TabFacts n0 n1 n2 (1 * 2 ^ p0.toNat) (1 * 2 ^ p1.toNat) (1 * 2 ^ p2.toNat) w0 w1 w2 val
  hrl : ∀ r ∈ tabF (1 * 2 ^ p0.toNat) (1 * 2 ^ p1.toNat) (1 * 2 ^ p2.toNat) q val 8, r.1.length ≤ 1000
  hb0 : countS ((tabF (1 * 2 ^ p0.toNat) (1 * 2 ^ p1.toNat) (1 * 2 ^ p2.toNat) q val 8).map (·.1)) (Str.ofString "set") ≤ 8
  hb1 : countS ((tabF (1 * 2 ^ p0.toNat) (1 * 2 ^ p1.toNat) (1 * 2 ^ p2.toNat) q val 8).map (·.1)) n0 ≤ 8
  hb2 : countS ((tabF (1 * 2 ^ p0.toNat) (1 * 2 ^ p1.toNat) (1 * 2 ^ p2.toNat) q val 8).map (·.1)) n1 ≤ 8
  hb3 : countS ((tabF (1 * 2 ^ p0.toNat) (1 * 2 ^ p1.toNat) (1 * 2 ^ p2.toNat) q val 8).map (·.1)) n2 ≤ 8
  hfam : famL (((countS ((tabF (1 * 2 ^ p0.toNat) (1 * 2 ^ p1.toNat) (1 * 2 ^ p2.toNat) q val 8).map (·.1)) (Str.ofString "set") : Nat) : Int) + ((countS ((tabF (1 * 2 ^ p0.toNat) (1 * 2 ^ p1.toNat) (1 * 2 ^ p2.toNat) q val 8).map (·.1)) n0 : Nat) : Int) * 16 + ((countS ((tabF (1 * 2 ^ p0.toNat) (1 * 2 ^ p1.toNat) (1 * 2 ^ p2.toNat) q val 8).map (·.1)) n1 : Nat) : Int) * 256 + ((countS ((tabF (1 * 2 ^ p0.toNat) (1 * 2 ^ p1.toNat) (1 * 2 ^ p2.toNat) q val 8).map (·.1)) n2 : Nat) : Int) * 4096) = [(bitsL (winL w0 w1 w2 q 8)).sum]
  hsw : ∀ x ∈ [Str.ofString "set", n0, n1, n2, Str.ofString "0x0"], clean (Txt.swapcase x) ∧ (Txt.swapcase x).cps.size < 2 ^ 20 ∧ clean (Txt.lower (Txt.swapcase x)) ∧ (Txt.lower (Txt.swapcase x)).cps.size < 2 ^ 20 ∧ (Txt.swapcase x).length ≤ 1000 ∧ x.length ≤ 1000
  hlists : [pickR (tabF (1 * 2 ^ p0.toNat) (1 * 2 ^ p1.toNat) (1 * 2 ^ p2.toNat) q val 8) (Txt.swapcase (Str.ofString "set")), pickR (tabF (1 * 2 ^ p0.toNat) (1 * 2 ^ p1.toNat) (1 * 2 ^ p2.toNat) q val 8) (Txt.swapcase n0), pickR (tabF (1 * 2 ^ p0.toNat) (1 * 2 ^ p1.toNat) (1 * 2 ^ p2.toNat) q val 8) (Txt.swapcase n1), pickR (tabF (1 * 2 ^ p0.toNat) (1 * 2 ^ p1.toNat) (1 * 2 ^ p2.toNat) q val 8) (Txt.swapcase n2), pickR (tabF (1 * 2 ^ p0.toNat) (1 * 2 ^ p1.toNat) (1 * 2 ^ p2.toNat) q val 8) (Txt.swapcase (Str.ofString "0x0"))] = [winL w0 w1 w2 q 8, selB 0 (winL w0 w1 w2 q 8), selB 1 (winL w0 w1 w2 q 8), selB 2 (winL w0 w1 w2 q 8), selZ (winL w0 w1 w2 q 8)].map strL
  hlen : (((tabF (1 * 2 ^ p0.toNat) (1 * 2 ^ p1.toNat) (1 * 2 ^ p2.toNat) q val 8).length : Nat) : Int) = (lenL [winL w0 w1 w2 q 8, selB 0 (winL w0 w1 w2 q 8), selB 1 (winL w0 w1 w2 q 8), selB 2 (winL w0 w1 w2 q 8), selZ (winL w0 w1 w2 q 8)]).sum
theorem win_len {w0 w1 w2 q : Int} : (winL w0 w1 w2 q 8).length ≤ 8 := by
  unfold winL
  rw [List.length_map]
  exact List.length_filter_le _ _
theorem win_mem {w0 w1 w2 q : Int} : ∀ x ∈ winL w0 w1 w2 q 8, 0 ≤ x ∧ x ≤ 7 := by
  intro x hx
  unfold winL at hx
  obtain ⟨n, hn, rfl⟩ := List.mem_map.mp hx
  have := List.mem_range.mp (List.mem_filter.mp hn).1
  omega
theorem frl {h₀ h : Heap} {L : Addr} {m : Str → Option Value} {x : Str} {v : Value} (F : Fr h₀ L h m) (e : m x = some v) : Fr h₀ L h (fun z => if z = x then some v else m z) := by
  rw [fr_look e]
  exact F
theorem cbc {a : Addr × Obj} {S l : List (Addr × Obj)} (h : a ∈ S) (g : ∀ p ∈ l, p ∈ S) : ∀ p ∈ a :: l, p ∈ S := fun p hp => by
  rcases List.mem_cons.mp hp with rfl | hp
  · exact h
  · exact g p hp
theorem cba {S l1 l2 : List (Addr × Obj)} (h : ∀ p ∈ l1, p ∈ S) (g : ∀ p ∈ l2, p ∈ S) : ∀ p ∈ l1 ++ l2, p ∈ S := fun p hp => by
  rcases List.mem_append.mp hp with hp | hp
  · exact h p hp
  · exact g p hp
theorem cbP {P : Addr × Obj → Prop} {a : Addr × Obj} {l : List (Addr × Obj)} (h : P a) (g : ∀ p ∈ l, P p) : ∀ p ∈ a :: l, P p := fun p hp => by
  rcases List.mem_cons.mp hp with rfl | hp
  · exact h
  · exact g p hp
theorem tok_ne {lo lo' tk x : Nat} (h1 : 655 ≤ x) (h2 : x < lo) (hl : lo ≤ lo') : ∀ t, tkP lo' tk t → t ≠ x := fun t ht e => by
  subst e
  obtain ⟨h, -⟩ := ht
  rcases h with h | h
  · exact absurd h.2 (Nat.not_lt_of_le h1)
  · exact absurd (Nat.lt_of_lt_of_le h2 hl) (Nat.not_lt_of_le h)
theorem tok_pos {lo' tk : Nat} (h1 : 0 < lo') : ∀ t, tkP lo' tk t → t ≠ 0 := fun t ht e => by
  subst e
  obtain ⟨h, -⟩ := ht
  rcases h with h | h
  · exact absurd h.1 (Nat.lt_irrefl 0)
  · exact absurd h1 (Nat.not_lt_of_le h)
section
variable {w : World} {mean : ExcName → Option Value} {mg mb : Str → Option Value} {dp un : Nat} {gd : Option (List Code)} {cn : Str} {nms : List (Str × NameKind)} {ig ic : Bool} {mr : List (Str × Const)} {a : Addr} {ccd : Value} {cl : List (Str × Addr)} {outer : List Env} {A₀ : Around} {base h₀ : Heap} {L : Addr} {m : Str → Option Value} {s : Shared} {Q E : Value → Shared → Prop} {news : List (Addr × Obj)}
theorem law_turn {lo : Nat} {ln lp lw : Addr} {n0 n1 n2 : Str} {p0 p1 p2 w0 w1 w2 q : Int} {x0 x1 x2 u0 u1 u2 y0 y1 y2 tq : Tok} {kn kp kw : Nat} {ot ow owt oq : Obj} {vt vw : Option Value} {val : Str → Int} {tl : List (Addr × Obj)} {Qf : Flow → Shared → Prop}
    (TT : TurnFacts n0 n1 n2 p0 p1 p2 w0 w1 w2 q val)
    (ht : ot.data = .cell vt) (how : ow.data = .cell vw) (hwt : owt.data = .cell (some (.ref lw))) (hq : oq.data = .cell (some (.int q tq))) (hlo : lo ≤ s.toks) (h655 : 655 ≤ lo)
    (hx0 : 655 ≤ x0 ∧ @LT.lt Nat _ x0 lo) (hx1 : 655 ≤ x1 ∧ @LT.lt Nat _ x1 lo) (hx2 : 655 ≤ x2 ∧ @LT.lt Nat _ x2 lo)
    (hp0 : 0 ≤ p0 ∧ p0 ≤ 3) (hp1 : 4 ≤ p1 ∧ p1 ≤ 7) (hp2 : 8 ≤ p2 ∧ p2 ≤ 11) (hmn : m (Str.ofString "names") = some (.ref ln)) (hmp : m (Str.ofString "places") = some (.ref lp))
    (hm3 : (L + 1 + 1 + 1, owt) ∈ tl) (hm4 : (L + 1 + 1 + 1 + 1, oq) ∈ tl) (hmln : (ln, listOf #[.str n0 x0, .str n1 x1, .str n2 x2] kn) ∈ tl) (hmlp : (lp, listOf #[.int p0 u0, .int p1 u1, .int p2 u2] kp) ∈ tl) (hmlw : (lw, listOf #[.int w0 y0, .int w1 y1, .int w2 y2] kw) ∈ tl)
    (hcell : ∀ p ∈ tl, p.1 ≠ L + 1 + 1 + 1 + 1 + 1 ∧ p.1 ≠ L + 1 + 1 + 1 + 1 + 1 + 1)
    (B : Below A₀ base outer h₀) (F : Fr h₀ L s.heap m) (X : (hk.heap_1 w.params).In h₀) (N : News h₀ L s.heap ((L + 1 + 1 + 1 + 1 + 1, ot) :: (L + 1 + 1 + 1 + 1 + 1 + 1, ow) :: tl)) (T : Top vw61 LL mean mg mb h₀) (hd : dp + 20 < recursionLimit) (hu : un + 200 < cLine)
    (hret : ∀ ot' ow' vt' vw' m' h' tk', ot'.data = .cell vt' → ow'.data = .cell vw' → m' (Str.ofString "names") = some (.ref ln) → m' (Str.ofString "places") = some (.ref lp) → Fr h₀ L h' m' → News h₀ L h' ((L + 1 + 1 + 1 + 1 + 1, ot') :: (L + 1 + 1 + 1 + 1 + 1 + 1, ow') :: tl) → lo ≤ tk' → Qf .next { s with heap := h', toks := tk' }) :
    wpAny (model prog w) (ktrTop dp un gd (Str.ofString "law") lawScope L a ccd (cellsFrom (L + 1) lawScope.names []) outer) (execs lawTurn (envOfC (Str.ofString "law") lawScope L a ccd)) Qf E s := by
  have hls : lawTurn = [lawTurn.getD 0 default, lawTurn.getD 1 default, lawTurn.getD 2 default, lawTurn.getD 3 default, lawTurn.getD 4 default, lawTurn.getD 5 default, lawTurn.getD 6 default, lawTurn.getD 7 default] := rfl
  rw [hls]
  clear hls
  have F0 : Fr h₀ L s.heap (fun z => if z = Str.ofString "names" then some (.ref ln) else if z = Str.ofString "places" then some (.ref lp) else m z) := by
    have e3 : (fun z => if z = Str.ofString "names" then some (Value.ref ln) else if z = Str.ofString "places" then some (.ref lp) else m z) = m := by
      funext z
      by_cases e : z = Str.ofString "names"
      · rw [if_pos e, e, hmn]
      · rw [if_neg e]
        exact congrFun (fr_look hmp) z
    rw [e3]
    exact F
  have N0 : News h₀ L s.heap ((L + 1 + 1 + 1 + 1 + 1, ot) :: (L + 1 + 1 + 1, owt) :: (L + 1 + 1 + 1 + 1, oq) :: (ln, listOf #[.str n0 x0, .str n1 x1, .str n2 x2] kn) :: (lp, listOf #[.int p0 u0, .int p1 u1, .int p2 u2] kp) :: (lw, listOf #[.int w0 y0, .int w1 y1, .int w2 y2] kw) :: (L + 1 + 1 + 1 + 1 + 1 + 1, ow) :: tl) := cb_drop N (cbc (.head _) (cbc (.tail _ (.tail _ hm3)) (cbc (.tail _ (.tail _ hm4)) (cbc (.tail _ (.tail _ hmln)) (cbc (.tail _ (.tail _ hmlp)) (cbc (.tail _ (.tail _ hmlw)) (cbc (.tail _ (.head _)) (fun p hp => .tail _ (.tail _ hp)))))))))
  have hc0 : ∀ p ∈ (L + 1 + 1 + 1, owt) :: (L + 1 + 1 + 1 + 1, oq) :: (ln, listOf #[.str n0 x0, .str n1 x1, .str n2 x2] kn) :: (lp, listOf #[.int p0 u0, .int p1 u1, .int p2 u2] kp) :: (lw, listOf #[.int w0 y0, .int w1 y1, .int w2 y2] kw) :: (L + 1 + 1 + 1 + 1 + 1 + 1, ow) :: tl, p.1 ≠ L + 1 + 1 + 1 + 1 + 1 := cbP (hcell _ hm3).1 (cbP (hcell _ hm4).1 (cbP (hcell _ hmln).1 (cbP (hcell _ hmlp).1 (cbP (hcell _ hmlw).1 (cbP (Nat.ne_of_gt (Nat.lt_succ_self _)) fun p hp => (hcell p hp).1)))))
  refine wpAny_execs_cons ?_
  refine law_t0 (lo := lo) (val := val) (vt := vt) (tl := (L + 1 + 1 + 1 + 1 + 1 + 1, ow) :: tl) ht hwt hq hlo h655 hp0 hp1 hp2 hc0 TT.TF B F0 X N0 T hd hu ?_
  intro xt dt lt h1 kk1 its k tlr ot1 lo' h1' tk0 hot1 hlo' F1 N1 hfr hk' hR hsz
  have htt : ∀ p ∈ tlr ++ tl, p ∈ (L + 1 + 1 + 1 + 1 + 1, ot1) :: (xt, instObj 219 dt) :: (dt, hdrDict h1 kk1 lt) :: (lt, listOf its k) :: (tlr ++ ((L + 1 + 1 + 1, owt) :: (L + 1 + 1 + 1 + 1, oq) :: (ln, listOf #[.str n0 x0, .str n1 x1, .str n2 x2] kn) :: (lp, listOf #[.int p0 u0, .int p1 u1, .int p2 u2] kp) :: (lw, listOf #[.int w0 y0, .int w1 y1, .int w2 y2] kw) :: (L + 1 + 1 + 1 + 1 + 1 + 1, ow) :: tl)) :=
    cba (fun p hp => .tail _ (.tail _ (.tail _ (.tail _ (List.mem_append_left _ hp))))) (fun p hp => .tail _ (.tail _ (.tail _ (.tail _ (List.mem_append_right tlr (.tail _ (.tail _ (.tail _ (.tail _ (.tail _ (.tail _ hp))))))))))) 
  have N1' : News h₀ L h1' ((L + 1 + 1 + 1 + 1 + 1 + 1, ow) :: (L + 1 + 1 + 1, owt) :: (L + 1 + 1 + 1 + 1, oq) :: (lw, listOf #[.int w0 y0, .int w1 y1, .int w2 y2] kw) :: (L + 1 + 1 + 1 + 1 + 1, ot1) :: (xt, instObj 219 dt) :: (dt, hdrDict h1 kk1 lt) :: (lt, listOf its k) :: (tlr ++ tl)) :=
    cb_drop N1 (cbc (.tail _ (.tail _ (.tail _ (.tail _ (List.mem_append_right tlr (.tail _ (.tail _ (.tail _ (.tail _ (.tail _ (.head _)))))))))))
      (cbc (htt _ (List.mem_append_right tlr hm3)) (cbc (htt _ (List.mem_append_right tlr hm4)) (cbc (htt _ (List.mem_append_right tlr hmlw)) (cbc (.head _) (cbc (.tail _ (.head _)) (cbc (.tail _ (.tail _ (.head _))) (cbc (.tail _ (.tail _ (.tail _ (.head _)))) htt))))))))
  have hold6 : (L + 1 + 1 + 1 + 1 + 1 + 1, ow) ∈ (L + 1 + 1 + 1, owt) :: (L + 1 + 1 + 1 + 1, oq) :: (ln, listOf #[.str n0 x0, .str n1 x1, .str n2 x2] kn) :: (lp, listOf #[.int p0 u0, .int p1 u1, .int p2 u2] kp) :: (lw, listOf #[.int w0 y0, .int w1 y1, .int w2 y2] kw) :: (L + 1 + 1 + 1 + 1 + 1 + 1, ow) :: tl := .tail _ (.tail _ (.tail _ (.tail _ (.tail _ (.head _)))))
  have hc1 : ∀ p ∈ (L + 1 + 1 + 1, owt) :: (L + 1 + 1 + 1 + 1, oq) :: (lw, listOf #[.int w0 y0, .int w1 y1, .int w2 y2] kw) :: (L + 1 + 1 + 1 + 1 + 1, ot1) :: (xt, instObj 219 dt) :: (dt, hdrDict h1 kk1 lt) :: (lt, listOf its k) :: (tlr ++ tl), p.1 ≠ L + 1 + 1 + 1 + 1 + 1 + 1 :=
    cbP (hcell _ hm3).2 (cbP (hcell _ hm4).2 (cbP (hcell _ hmlw).2 (cbP (Nat.ne_of_lt (Nat.lt_succ_self _)) (cbP (Nat.ne_of_gt ((hfr _ (.head _)).1 _ hold6)) (cbP (Nat.ne_of_gt ((hfr _ (.tail _ (.head _))).1 _ hold6)) (cbP (Nat.ne_of_gt ((hfr _ (.tail _ (.tail _ (.head _)))).1 _ hold6)) (fun p hp => by
      rcases List.mem_append.mp hp with hp | hp
      · exact Nat.ne_of_gt ((hfr p (.tail _ (.tail _ (.tail _ hp)))).1 _ hold6)
      · exact (hcell p hp).2)))))))
  refine wpAny_execs_cons ?_
  refine wpAny_keep (Nat.le_refl tk0) ?_
  refine law_t1 (vw := vw) how hwt hq hc1 B F1 X N1' T hd hu ?_
  intro D vs kD ow1 h2 tk1 how1 hvs F2 N2 hDc hDo hk1
  have htt2 : ∀ p ∈ tlr ++ tl, p ∈ (L + 1 + 1 + 1 + 1 + 1 + 1, ow1) :: (D, listOf vs.toArray kD) :: (L + 1 + 1 + 1, owt) :: (L + 1 + 1 + 1 + 1, oq) :: (lw, listOf #[.int w0 y0, .int w1 y1, .int w2 y2] kw) :: (L + 1 + 1 + 1 + 1 + 1, ot1) :: (xt, instObj 219 dt) :: (dt, hdrDict h1 kk1 lt) :: (lt, listOf its k) :: (tlr ++ tl) := fun p hp => by
    repeat (first | exact hp | refine List.Mem.tail _ ?_)
  have N2' : News h₀ L h2 ((L + 1 + 1 + 1 + 1 + 1, ot1) :: (xt, instObj 219 dt) :: (dt, hdrDict h1 kk1 lt) :: (lt, listOf its k) :: (ln, listOf #[.str n0 x0, .str n1 x1, .str n2 x2] kn) :: (L + 1 + 1 + 1 + 1 + 1 + 1, ow1) :: (D, listOf vs.toArray kD) :: (tlr ++ tl)) := by
    refine cb_drop N2 (cbc ?_ (cbc ?_ (cbc ?_ (cbc ?_ (cbc (htt2 _ (List.mem_append_right tlr hmln)) (cbc ?_ (cbc ?_ htt2)))))))
    all_goals repeat (first | exact List.Mem.head _ | refine List.Mem.tail _ ?_)
  have h0lo : @LT.lt Nat _ 0 lo' := Nat.lt_of_lt_of_le (Nat.lt_of_lt_of_le (by decide) h655) hlo'
  have hx0' : x0 ≠ 0 := Nat.ne_of_gt (Nat.lt_of_lt_of_le (by decide) hx0.1)
  have hx1' : x1 ≠ 0 := Nat.ne_of_gt (Nat.lt_of_lt_of_le (by decide) hx1.1)
  have hx2' : x2 ≠ 0 := Nat.ne_of_gt (Nat.lt_of_lt_of_le (by decide) hx2.1)
  have hR2 : Rows (tkP lo' tk0) ((L + 1 + 1 + 1 + 1 + 1 + 1, ow1) :: (D, listOf vs.toArray kD) :: (tlr ++ tl)) its.toList (tabF (1 * 2 ^ p0.toNat) (1 * 2 ^ p1.toNat) (1 * 2 ^ p2.toNat) q val 8) := hR.mono fun p hp => .tail _ (.tail _ (List.mem_append_left tl hp))
  have F2' : Fr h₀ L h2 (fun z => if z = Str.ofString "names" then some (.ref ln) else (fun z => if z = Str.ofString "places" then some (.ref lp) else m z) z) := F2
  refine wpAny_execs_cons ?_
  refine wpAny_keep hk1 ?_
  refine law_t2 (P := tkP lo' tk0) (ln := ln) (kn := kn) hot1 hR2 hsz TT.hrl ?hP hx0' hx1' hx2' ?hs0 TT.TF.hn0 TT.TF.hn1 TT.TF.hn2 B F2' X N2' T hd hu ?_
  case hP => exact fun t ht => ⟨tok_pos h0lo t ht, tok_ne hx0.1 hx0.2 hlo' t ht, tok_ne hx1.1 hx1.2 hlo' t ht, tok_ne hx2.1 hx2.2 hlo' t ht, Nat.lt_of_lt_of_le ht.2 hk1⟩
  case hs0 => exact Nat.lt_of_lt_of_le (Nat.lt_of_lt_of_le h0lo hk') hk1
  intro lc ys kc h3 tk2 hys F3 N3 hlc hk2
  obtain ⟨t0, t1, t2, t3, rfl⟩ := ints4 hys
  have N3' := pickT 8 [0, 6, 7, 1, 2, 3, 4, 5] N3
  refine wpAny_execs_cons ?_
  refine wpAny_keep hk2 ?_
  refine law_t3 (D := D) (k := kD) (vs := vs) (ns := winL w0 w1 w2 q 8) (tl := (L + 1 + 1 + 1 + 1 + 1, ot1) :: (xt, instObj 219 dt) :: (dt, hdrDict h1 kk1 lt) :: (lt, listOf its k) :: (ln, listOf #[.str n0 x0, .str n1 x1, .str n2 x2] kn) :: (tlr ++ tl)) how1 hvs win_len win_mem TT.hfam ⟨Int.natCast_nonneg _, Int.ofNat_le.mpr TT.hb0⟩ ⟨Int.natCast_nonneg _, Int.ofNat_le.mpr TT.hb1⟩ ⟨Int.natCast_nonneg _, Int.ofNat_le.mpr TT.hb2⟩ ⟨Int.natCast_nonneg _, Int.ofNat_le.mpr TT.hb3⟩ B F3 X N3' T hd hu ?_
  intro h4 tk3 F4 N4 hk3
  have N4' : News h₀ L h4 ((L + 1 + 1 + 1 + 1 + 1 + 1, ow1) :: (D, listOf vs.toArray kD) :: (L + 1 + 1 + 1 + 1 + 1, ot1) :: (xt, instObj 219 dt) :: (dt, hdrDict h1 kk1 lt) :: (lt, listOf its k) :: (ln, listOf #[.str n0 x0, .str n1 x1, .str n2 x2] kn) :: (tlr ++ tl)) := fun p hp => N4 p (.tail _ hp)
  refine wpAny_execs_cons ?_
  refine wpAny_keep hk3 ?_
  refine law_t4 how1 hvs win_len win_mem B F4 X N4' T hd hu ?_
  intro Dd vd kd n5 h5 tk4 hdue F5 N5 hs5 hk4
  have F5' := frl (x := Str.ofString "names") (v := .ref ln) F5 rfl
  have N5' : News h₀ L h5 ((L + 1 + 1 + 1 + 1 + 1, ot1) :: (xt, instObj 219 dt) :: (dt, hdrDict h1 kk1 lt) :: (lt, listOf its k) :: (ln, listOf #[.str n0 x0, .str n1 x1, .str n2 x2] kn) :: (Dd, listOf vd.toArray kd) :: n5) := by
    refine cb_drop N5 (cbc (.tail _ (hs5 _ ?_)) (cbc (.tail _ (hs5 _ ?_)) (cbc (.tail _ (hs5 _ ?_)) (cbc (.tail _ (hs5 _ ?_)) (cbc (.tail _ (hs5 _ ?_)) (fun p hp => hp))))))
    all_goals repeat (first | exact List.Mem.head _ | refine List.Mem.tail _ ?_)
  have hR5 : Rows (tkP lo' tk0) ((Dd, listOf vd.toArray kd) :: n5) its.toList (tabF (1 * 2 ^ p0.toNat) (1 * 2 ^ p1.toNat) (1 * 2 ^ p2.toNat) q val 8) := hR.mono fun p hp => .tail _ (hs5 p (.tail _ (.tail _ (.tail _ (.tail _ (.tail _ (.tail _ (.tail _ (List.mem_append_left tl hp)))))))))
  refine wpAny_execs_cons ?_
  refine wpAny_keep hk4 ?_
  refine law_t5 hot1 hR5 hsz TT.hrl TT.hsw B F5' X N5' T hd hu ?_
  intro Dl vl kl n6 h6 tk5 hli F6 N6 hs6 hk5
  have F6' : Fr h₀ L h6 (fun z => if z = Str.ofString "lists" then some (.ref Dl) else if z = Str.ofString "due" then some (.ref Dd) else if z = Str.ofString "names" then some (.ref ln) else if z = Str.ofString "due" then some (Value.ref Dd) else if z = Str.ofString "counts" then some (.ref lc) else if z = Str.ofString "names" then some (.ref ln) else (fun z => if z = Str.ofString "places" then some (Value.ref lp) else m z) z) := by
    have e := fr_look (m := fun z => if z = Str.ofString "names" then some (.ref ln) else if z = Str.ofString "due" then some (Value.ref Dd) else if z = Str.ofString "counts" then some (.ref lc) else if z = Str.ofString "names" then some (.ref ln) else (fun z => if z = Str.ofString "places" then some (Value.ref lp) else m z) z) (x := Str.ofString "due") (v := .ref Dd) rfl
    have e2 : (fun z => if z = Str.ofString "lists" then some (Value.ref Dl) else if z = Str.ofString "due" then some (.ref Dd) else if z = Str.ofString "names" then some (.ref ln) else if z = Str.ofString "due" then some (Value.ref Dd) else if z = Str.ofString "counts" then some (.ref lc) else if z = Str.ofString "names" then some (.ref ln) else (fun z => if z = Str.ofString "places" then some (Value.ref lp) else m z) z) = (fun z => if z = Str.ofString "lists" then some (Value.ref Dl) else if z = Str.ofString "names" then some (.ref ln) else if z = Str.ofString "due" then some (Value.ref Dd) else if z = Str.ofString "counts" then some (.ref lc) else if z = Str.ofString "names" then some (.ref ln) else (fun z => if z = Str.ofString "places" then some (Value.ref lp) else m z) z) := by
      funext z
      by_cases h : z = Str.ofString "lists"
      · rw [if_pos h, if_pos h]
      · rw [if_neg h, if_neg h]
        exact congrFun e z
    rw [e2]
    exact F6
  rw [TT.hlists] at hli
  have hdue6 : RefL IntsAre ((Dl, listOf vl.toArray kl) :: n6) vd [winL w0 w1 w2 q 8, selB 0 (winL w0 w1 w2 q 8), selB 1 (winL w0 w1 w2 q 8), selB 2 (winL w0 w1 w2 q 8), selZ (winL w0 w1 w2 q 8)] := hdue.mono fun p hp => .tail _ (hs6 p (.tail _ (.tail _ (.tail _ (.tail _ (.tail _ (.tail _ hp)))))))
  have hrows : ∀ r ∈ [winL w0 w1 w2 q 8, selB 0 (winL w0 w1 w2 q 8), selB 1 (winL w0 w1 w2 q 8), selB 2 (winL w0 w1 w2 q 8), selZ (winL w0 w1 w2 q 8)], r.length ≤ 8 ∧ ∀ x ∈ r, 0 ≤ x ∧ x ≤ 7 := by
    intro r hr
    simp only [List.mem_cons, List.not_mem_nil, or_false] at hr
    rcases hr with rfl | rfl | rfl | rfl | rfl
    · exact ⟨win_len, win_mem⟩
    all_goals exact ⟨Nat.le_trans (List.length_filter_le _ _) win_len, fun x hx => win_mem x (List.mem_filter.mp hx).1⟩
  have hmd6 : (Dd, listOf vd.toArray kd) ∈ n6 := hs6 _ (.tail _ (.tail _ (.tail _ (.tail _ (.tail _ (.head _))))))
  refine wpAny_execs_cons ?_
  refine wpAny_keep hk5 ?_
  refine law_t6 (news := (Dl, listOf vl.toArray kl) :: n6) (hli.mono fun p hp => .tail _ hp) hdue6 (Nat.le_refl 5) (fun r hr => (hrows r hr).1) (fun r hr => (hrows r hr).2) (.head _) (.tail _ hmd6) B F6' X N6 T hd hu ?_
  intro h7 tk6 F7 N7 hk6
  have F7' := frl (x := Str.ofString "due") (v := .ref Dd) F7 rfl
  have N7' : News h₀ L h7 ((L + 1 + 1 + 1 + 1 + 1, ot1) :: (xt, instObj 219 dt) :: (dt, hdrDict h1 kk1 lt) :: (lt, listOf its k) :: n6) := by
    refine cb_drop N7 (cbc (.tail _ (hs6 _ ?_)) (cbc (.tail _ (hs6 _ ?_)) (cbc (.tail _ (hs6 _ ?_)) (cbc (.tail _ (hs6 _ ?_)) (fun p hp => .tail _ hp)))))
    all_goals repeat (first | exact List.Mem.head _ | refine List.Mem.tail _ ?_)
  have hsz7 : ((its.size : Nat) : Int) = (lenL [winL w0 w1 w2 q 8, selB 0 (winL w0 w1 w2 q 8), selB 1 (winL w0 w1 w2 q 8), selB 2 (winL w0 w1 w2 q 8), selZ (winL w0 w1 w2 q 8)]).sum := by
    rw [← TT.hlen, ← hR.length, Array.length_toList]
  refine wpAny_execs_cons ?_
  refine wpAny_keep hk6 ?_
  refine law_t7 hot1 hsz (hdue.mono fun p hp => hs6 p (.tail _ (.tail _ (.tail _ (.tail _ (.tail _ (.tail _ hp))))))) (Nat.le_refl 5) (fun r hr => (hrows r hr).1) hmd6 hsz7 B F7' X N7' T hd hu ?_
  intro h8 tk7 F8 N8 hk7
  refine wpAny_execs_nil ?_
  refine hret ot1 ow1 _ _ _ _ _ hot1 how1 ?_ ?_ F8 ?_ (Nat.le_trans (Nat.le_trans hlo' hk') hk7)
  · rfl
  · rfl
  · refine cb_drop N8 (cbc (.head _) (cbc ?_ ?_))
    · have a1 := hs5 _ (.head _)
      have a2 := hs6 _ (.tail _ (.tail _ (.tail _ (.tail _ (.tail _ (.tail _ a1))))))
      exact .tail _ (.tail _ (.tail _ (.tail _ a2)))
    · intro p hp
      have a0 : p ∈ tlr ++ tl := List.mem_append_right tlr hp
      have a1 := hs5 p (.tail _ (.tail _ (.tail _ (.tail _ (.tail _ (.tail _ (.tail _ a0)))))))
      have a2 := hs6 p (.tail _ (.tail _ (.tail _ (.tail _ (.tail _ (.tail _ a1))))))
      exact .tail _ (.tail _ (.tail _ (.tail _ a2)))
end
end
section
open PySem PySem.W PyProof.Rows PySem.Spec PySem.Calls
local macro_rules | `(tactic| walk_at "exec For Name Subscript cons nil") => `(tactic| (k_here; k_dflt (refine' wpAny_For ?_ ?hs9; (case hs9 => intro _; rfl)); refine Stop.intro' ?_))
local macro_rules | `(tactic| walk_at "pyIter ref") => `(tactic| (k_here; (with_reducible show wpAny _ _ (pyIter (Value.ref _)) _ _ _); refine Stop.intro' ?_))
section
variable {w : World} {mean : ExcName → Option Value} {mg mb : Str → Option Value} {dp un : Nat} {gd : Option (List Code)} {cn : Str} {nms : List (Str × NameKind)} {ig ic : Bool} {mr : List (Str × Const)} {a : Addr} {ccd : Value} {cl : List (Str × Addr)} {outer : List Env} {A₀ : Around} {base h₀ : Heap} {L : Addr} {m : Str → Option Value} {s : Shared} {Q E : Value → Shared → Prop} {news : List (Addr × Obj)}
theorem law_for {lo : Nat} {lnn ln lp lw : Addr} {n0 n1 n2 : Str} {p0 p1 p2 w0 w1 w2 a0 a1 a2 q3 q4 : Int} {x0 x1 x2 u0 u1 u2 y0 y1 y2 t0 t1 t2 t3 t4 : Tok} {knn kn kp kw : Nat} {ot ow owt oq : Obj} {vt vw vq : Option Value} {val : Str → Int} {m₀ : Str → Option Value} {tl : List (Addr × Obj)} {Qf : Flow → Shared → Prop}
    (TT3 : TurnFacts n0 n1 n2 p0 p1 p2 w0 w1 w2 q3 val) (TT4 : TurnFacts n0 n1 n2 p0 p1 p2 w0 w1 w2 q4 val)
    (ht : ot.data = .cell vt) (how : ow.data = .cell vw) (hwt : owt.data = .cell (some (.ref lw))) (hq : oq.data = .cell vq) (hlo : lo ≤ s.toks) (h655 : 655 ≤ lo)
    (hx0 : 655 ≤ x0 ∧ @LT.lt Nat _ x0 lo) (hx1 : 655 ≤ x1 ∧ @LT.lt Nat _ x1 lo) (hx2 : 655 ≤ x2 ∧ @LT.lt Nat _ x2 lo)
    (hp0 : 0 ≤ p0 ∧ p0 ≤ 3) (hp1 : 4 ≤ p1 ∧ p1 ≤ 7) (hp2 : 8 ≤ p2 ∧ p2 ≤ 11) (hmn : m₀ (Str.ofString "names") = some (.ref ln)) (hmp : m₀ (Str.ofString "places") = some (.ref lp))
    (hm3 : (L + 1 + 1 + 1, owt) ∈ tl) (hmln : (ln, listOf #[.str n0 x0, .str n1 x1, .str n2 x2] kn) ∈ tl) (hmlp : (lp, listOf #[.int p0 u0, .int p1 u1, .int p2 u2] kp) ∈ tl) (hmlw : (lw, listOf #[.int w0 y0, .int w1 y1, .int w2 y2] kw) ∈ tl)
    (hcell : ∀ p ∈ (lnn, listOf #[.int a0 t0, .int a1 t1, .int a2 t2, .int q3 t3, .int q4 t4] knn) :: tl, p.1 ≠ L + 1 + 1 + 1 + 1 ∧ p.1 ≠ L + 1 + 1 + 1 + 1 + 1 ∧ p.1 ≠ L + 1 + 1 + 1 + 1 + 1 + 1)
    (B : Below A₀ base outer h₀) (F : Fr h₀ L s.heap (fun z => if z = Str.ofString "numbers" then some (.ref lnn) else m₀ z)) (X : (hk.heap_1 w.params).In h₀) (N : News h₀ L s.heap ((L + 1 + 1 + 1 + 1, oq) :: (L + 1 + 1 + 1 + 1 + 1, ot) :: (L + 1 + 1 + 1 + 1 + 1 + 1, ow) :: (lnn, listOf #[.int a0 t0, .int a1 t1, .int a2 t2, .int q3 t3, .int q4 t4] knn) :: tl)) (T : Top vw61 LL mean mg mb h₀) (hd : dp + 20 < recursionLimit) (hu : un + 200 < cLine)
    (hE : PassesOwn (model prog w) (ktrTop dp un gd (Str.ofString "law") lawScope L a ccd (cellsFrom (L + 1) lawScope.names []) outer) (envOfC (Str.ofString "law") lawScope L a ccd) E)
    (hret : ∀ m' h' tk', Fr h₀ L h' m' → News h₀ L h' tl → Qf .next { s with heap := h', toks := tk' }) :
    wpAny (model prog w) (ktrTop dp un gd (Str.ofString "law") lawScope L a ccd (cellsFrom (L + 1) lawScope.names []) outer) (exec (lawBody.getD 7 default) (envOfC (Str.ofString "law") lawScope L a ccd)) Qf E s := by
  have hst : lawBody.getD 7 default = Stmt.For _ _ _ _ _ := rfl
  have hsc : lawScope = Scope.mk _ _ _ _ _ := rfl
  rw [hst, hsc]
  clear hst hsc
  w_strict ((try k_unmd); (try k_fold); k_steps)
  refine ⟨?_⟩
  w_strict ((try k_unmd); (try k_fold); k_steps)
  refine ⟨?_⟩
  rename Fr _ _ _ _ => F9
  rename News _ _ _ _ => N9
  have hlo9 : lo ≤ s.toks + 1 := Nat.le_succ_of_le hlo
  rename _ ∧ _ ∧ _ ∧ lnn < _ ∧ AllLt _ tl => e1
  obtain ⟨g4, g5, g6, gn, gtl⟩ := e1
  have gtl := allLt_mem gtl
  k_dflt (refine pyIter_listT (vs := [.int q3 t3, .int q4 t4]) (k0 := 0) (by rfl) F9 N9 (by exact .head _) (by rfl) (by rfl) hE (fun m₁ n₁ i m₂ n₂ tk5 => lo ≤ tk5 ∧ m₂ (Str.ofString "names") = some (.ref ln) ∧ m₂ (Str.ofString "places") = some (.ref lp) ∧ ∃ ax oq ot ow vq vt vw, n₂ = (ax, listOf #[.int q3 t3, .int q4 t4] 0) :: (L + 1 + 1 + 1 + 1, oq) :: (L + 1 + 1 + 1 + 1 + 1, ot) :: (L + 1 + 1 + 1 + 1 + 1 + 1, ow) :: (lnn, listOf #[.int a0 t0, .int a1 t1, .int a2 t2, .int q3 t3, .int q4 t4] knn) :: tl ∧ oq.data = .cell vq ∧ ot.data = .cell vt ∧ ow.data = .cell vw ∧ n₁ = (ax, listOf #[.int q3 t3, .int q4 t4] 0) :: n₁.tail) ?h0 ?keep ?mono ?turn ?done)
  case h0 => exact ⟨hlo9, hmn, hmp, _, oq, ot, ow, _, _, _, rfl, hq, ht, how, rfl⟩
  case keep =>
    rintro i m₃ n₃ tk ⟨-, -, -, ax, oq2, ot2, ow2, _, _, _, rfl, -, -, -, e⟩
    injection e with e1 e2
    rw [e1]
    exact .head _
  case mono =>
    rintro i m₃ n₃ ta tb hle ⟨c1, c2⟩
    exact ⟨Nat.le_trans c1 hle, c2⟩
  case turn =>
    rintro I hI i v hv h tk m₃ n₃ oI ⟨hlk, hmn3, hmp3, ax, oq2, ot2, ow2, vq2, vt2, vw2, rfl, hq2, ht2, how2, e⟩ hoff F N
    have hIax : @LT.lt Nat _ ax I := hI (ax, _) (by rw [e]; exact .head _)
    have hI2 : ∀ p ∈ [(L + 1 + 1 + 1 + 1, oq), (L + 1 + 1 + 1 + 1 + 1, ot), (L + 1 + 1 + 1 + 1 + 1 + 1, ow)], @LT.lt Nat _ p.1 I := fun p hp => hI p (.tail _ (List.mem_append_left ((lnn, listOf #[.int a0 t0, .int a1 t1, .int a2 t2, .int q3 t3, .int q4 t4] knn) :: tl) hp))
    have hcm := N (L + 1 + 1 + 1 + 1, oq2) (.tail _ (.tail _ (.head _)))
    have hax : ax ≠ L + 1 + 1 + 1 + 1 ∧ ax ≠ L + 1 + 1 + 1 + 1 + 1 ∧ ax ≠ L + 1 + 1 + 1 + 1 + 1 + 1 := by
      injection e with e1 e2
      injection e1 with e1 e3
      rw [← e1]
      exact ⟨Nat.ne_of_gt g4, Nat.ne_of_gt g5, Nat.ne_of_gt g6⟩
    refine wpAny_assign_Name (wpAny_storeName_cell (c := L + 1 + 1 + 1 + 1) (by rfl) (by rfl) (by rfl) ⟨oq2, hcm.1, hq2⟩ fun h3 hc3 hs5 => ?_)
    obtain ⟨o3, ho3, hd3⟩ := hc3
    have N1 := cb_drop (news := (I, oI) :: (ax, listOf #[.int q3 t3, .int q4 t4] 0) :: (L + 1 + 1 + 1 + 1 + 1, ot2) :: (L + 1 + 1 + 1 + 1 + 1 + 1, ow2) :: (lnn, listOf #[.int a0 t0, .int a1 t1, .int a2 t2, .int q3 t3, .int q4 t4] knn) :: tl) N (cbc (.head _) (cbc (.tail _ (.head _)) (fun p hp => .tail _ (.tail _ (.tail _ hp)))))
    have N5 := cellput N1 hs5 ho3 hcm.2 (cbP (Nat.ne_of_gt (hI2 _ (.head _))) (cbP hax.1 (cbP (Nat.ne_of_gt (Nat.lt_succ_self _)) (cbP (Nat.ne_of_gt (Nat.lt_succ_of_lt (Nat.lt_succ_self _))) fun p hp => (hcell p hp).1))))
    have F5 := F.change hs5 hcm.2.1 hcm.2.2
    have N6 := cb_drop (news := (L + 1 + 1 + 1 + 1 + 1, ot2) :: (L + 1 + 1 + 1 + 1 + 1 + 1, ow2) :: (I, oI) :: (ax, listOf #[.int q3 t3, .int q4 t4] 0) :: (L + 1 + 1 + 1 + 1, o3) :: (lnn, listOf #[.int a0 t0, .int a1 t1, .int a2 t2, .int q3 t3, .int q4 t4] knn) :: tl) N5 (cbc (.tail _ (.tail _ (.tail _ (.head _)))) (cbc (.tail _ (.tail _ (.tail _ (.tail _ (.head _))))) (cbc (.tail _ (.head _)) (cbc (.tail _ (.tail _ (.head _))) (cbc (.head _) (fun p hp => .tail _ (.tail _ (.tail _ (.tail _ (.tail _ hp))))))))))
    have hce : ∀ p ∈ (I, oI) :: (ax, listOf #[.int q3 t3, .int q4 t4] 0) :: (L + 1 + 1 + 1 + 1, o3) :: (lnn, listOf #[.int a0 t0, .int a1 t1, .int a2 t2, .int q3 t3, .int q4 t4] knn) :: tl, p.1 ≠ L + 1 + 1 + 1 + 1 + 1 ∧ p.1 ≠ L + 1 + 1 + 1 + 1 + 1 + 1 := cbP ⟨Nat.ne_of_gt (hI2 _ (.tail _ (.head _))), Nat.ne_of_gt (hI2 _ (.tail _ (.tail _ (.head _))))⟩ (cbP hax.2 (cbP ⟨Nat.ne_of_lt (Nat.lt_succ_self _), Nat.ne_of_lt (Nat.lt_succ_of_lt (Nat.lt_succ_self _))⟩ fun p hp => (hcell p hp).2))
    have hq9 : ∃ q tq, v = .int q tq ∧ TurnFacts n0 n1 n2 p0 p1 p2 w0 w1 w2 q val := by
      rcases i with _ | _ | i
      · exact ⟨q3, _, (Option.some.inj hv).symm, TT3⟩
      · exact ⟨q4, _, (Option.some.inj hv).symm, TT4⟩
      · exact absurd hv (by simp)
    obtain ⟨q, tq, rfl, TT⟩ := hq9
    have hup : ∀ p ∈ tl, p ∈ (I, oI) :: (ax, listOf #[.int q3 t3, .int q4 t4] 0) :: (L + 1 + 1 + 1 + 1, o3) :: (lnn, listOf #[.int a0 t0, .int a1 t1, .int a2 t2, .int q3 t3, .int q4 t4] knn) :: tl := fun p hp => .tail _ (.tail _ (.tail _ (.tail _ hp)))
    clear F9 N9 N1 N5
    have hlt : ∀ p ∈ (lnn, listOf #[.int a0 t0, .int a1 t1, .int a2 t2, .int q3 t3, .int q4 t4] knn) :: tl, @LT.lt Nat _ p.1 I := fun p hp => hI p (.tail _ (.tail _ (.tail _ (.tail _ hp))))
    refine law_turn (lo := lo) (val := val) (lw := lw) (ln := ln) (lp := lp) (tq := tq) (oq := o3) (tl := (I, oI) :: (ax, listOf #[.int q3 t3, .int q4 t4] 0) :: (L + 1 + 1 + 1 + 1, o3) :: (lnn, listOf #[.int a0 t0, .int a1 t1, .int a2 t2, .int q3 t3, .int q4 t4] knn) :: tl) TT ht2 how2 hwt hd3 hlk h655 hx0 hx1 hx2 hp0 hp1 hp2 hmn3 hmp3 (hup _ hm3) (.tail _ (.tail _ (.head _))) (hup _ hmln) (hup _ hmlp) (hup _ hmlw) hce B F5 X N6 T hd hu ?_
    intro ot' ow' vt' vw' m' h' tk' hot' how' hmn' hmp' F' N' hk'
    refine EndT.intro F' N' ((ax, listOf #[.int q3 t3, .int q4 t4] 0) :: (L + 1 + 1 + 1 + 1, o3) :: (L + 1 + 1 + 1 + 1 + 1, ot') :: (L + 1 + 1 + 1 + 1 + 1 + 1, ow') :: (lnn, listOf #[.int a0 t0, .int a1 t1, .int a2 t2, .int q3 t3, .int q4 t4] knn) :: tl) ?sub ?off ⟨hk', hmn', hmp', ax, o3, ot', ow', _, _, _, rfl, hd3, hot', how', e⟩
    case sub => exact cbc (.tail _ (.tail _ (.head _))) (cbc (.tail _ (.tail _ (.tail _ (.head _)))) (cbc (.tail _ (.tail _ (.tail _ (.tail _ (.head _))))) (cbc (.head _) (cbc (.tail _ (.head _)) (fun p hp => .tail _ (.tail _ (.tail _ (.tail _ (.tail _ hp)))))))))
    case off =>
      refine cbP ?_ (cbP ?_ (cbP ?_ (cbP ?_ ?_)))
      · intro q hq
        rw [List.mem_singleton.mp hq]
        exact Nat.ne_of_lt hIax
      · intro q hq
        rw [List.mem_singleton.mp hq]
        exact Nat.ne_of_lt (hI2 (L + 1 + 1 + 1 + 1, oq) (.head _))
      · intro q hq
        rw [List.mem_singleton.mp hq]
        exact Nat.ne_of_lt (hI2 (L + 1 + 1 + 1 + 1 + 1, ot) (.tail _ (.head _)))
      · intro q hq
        rw [List.mem_singleton.mp hq]
        exact Nat.ne_of_lt (hI2 (L + 1 + 1 + 1 + 1 + 1 + 1, ow) (.tail _ (.tail _ (.head _))))
      · intro p hp q hq
        rw [List.mem_singleton.mp hq]
        exact Nat.ne_of_lt (hlt p hp)
  case done =>
    rintro m₃ n₃ h tk ⟨hlk, hmn3, hmp3, ax, oq2, ot2, ow2, vq2, vt2, vw2, rfl, hq2, ht2, how2, e⟩ F N
    refine wpAny_execs_nil ?_
    exact hret _ _ _ F (fun p hp => N p (.tail _ (.tail _ (.tail _ (.tail _ (.tail _ hp))))))
end
end
section
open PySem PySem.W PyProof.Rows PySem.Spec PySem.Calls
theorem len6 {l : List Int} (h : l.length = 6) : ∃ a b c d e f, l = [a, b, c, d, e, f] := by
  match l, h with
  | [a, b, c, d, e, f], _ => exact ⟨a, b, c, d, e, f, rfl⟩
noncomputable def nmW (d : Int) (k : Nat) : Str := wordsL.getD (placeL d k).toNat default
section
variable {w : World} {mean : ExcName → Option Value} {mg mb : Str → Option Value} {dp un : Nat} {gd : Option (List Code)} {cn : Str} {nms : List (Str × NameKind)} {ig ic : Bool} {mr : List (Str × Const)} {a : Addr} {ccd : Value} {cl : List (Str × Addr)} {outer : List Env} {A₀ : Around} {base h₀ : Heap} {L : Addr} {m : Str → Option Value} {s : Shared} {Q E : Value → Shared → Prop} {news : List (Addr × Obj)}
theorem law_body {sc : Addr} {ss : List Value} {ns : List Int} {o1 o2 o3 o4 o5 o6 : Obj} {c1 c2 c3 c4 c5 c6 : Option Value} {m₀ : Str → Option Value} {valF : Int → Int → Int → Int → Str → Int} {Qf : Flow → Shared → Prop}
    (hT : ∀ d w0 w1 w2 q, (-(10 ^ 9) < w0 ∧ w0 < 10 ^ 9) → (-(10 ^ 9) < w1 ∧ w1 < 10 ^ 9) → (-(10 ^ 9) < w2 ∧ w2 < 10 ^ 9) → TurnFacts (nmW d 0) (nmW d 1) (nmW d 2) (placeL d 0) (placeL d 1) (placeL d 2) w0 w1 w2 q (valF d w0 w1 w2))
    (h1 : o1.data = .cell c1) (h2 : o2.data = .cell c2) (h3 : o3.data = .cell c3) (h4 : o4.data = .cell c4) (h5 : o5.data = .cell c5) (h6 : o6.data = .cell c6) (h655 : 655 ≤ s.toks)
    (hlen : ns.length ≤ 63) (hi : IntsAre ss ns) (hls : h₀.IsList sc ss.toArray)
    (B : Below A₀ base outer h₀) (F : Fr h₀ L s.heap (fun z => if z = Str.ofString "script" then some (.ref sc) else m₀ z)) (X : (hk.heap_1 w.params).In h₀) (N : News h₀ L s.heap [(L + 1, o1), (L + 1 + 1 + 1 + 1 + 1 + 1, o6), (L + 1 + 1 + 1 + 1 + 1, o5), (L + 1 + 1 + 1 + 1, o4), (L + 1 + 1 + 1, o3), (L + 1 + 1, o2)]) (T : Top vw61 LL mean mg mb h₀) (hd : dp + 20 < recursionLimit) (hu : un + 200 < cLine)
    (hE : PassesOwn (model prog w) (ktrTop dp un gd (Str.ofString "law") lawScope L a ccd (cellsFrom (L + 1) lawScope.names []) outer) (envOfC (Str.ofString "law") lawScope L a ccd) E)
    (hret : ∀ m' h' tk', Fr h₀ L h' m' → Qf (.ret (.bool true)) { s with heap := h', toks := tk' }) :
    wpAny (model prog w) (ktrTop dp un gd (Str.ofString "law") lawScope L a ccd (cellsFrom (L + 1) lawScope.names []) outer) (execs lawBody (envOfC (Str.ofString "law") lawScope L a ccd)) Qf E s := by
  have hb : lawBody = [lawBody.getD 0 default, lawBody.getD 1 default, lawBody.getD 2 default, lawBody.getD 3 default, lawBody.getD 4 default, lawBody.getD 5 default, lawBody.getD 6 default, lawBody.getD 7 default, lawBody.getD 8 default] := rfl
  rw [hb]
  clear hb
  refine wpAny_execs_cons ?_
  refine law_s0 (v1 := c1) h1 B F X N T hd hu ?_
  intro D1 o1' vs1 k1 h1' tk1 g1 gv1 gk1 F1 N1 gD1
  refine wpAny_execs_cons ?_
  refine law_s1 (lo := s.toks) g1 gv1 gD1 gk1 B F1 X N1 T hd hu ?_
  intro D o1c vs k h2' tk2 g2 gv gk2 F2 N2 gD
  have N2' := pickT 7 [6, 1, 2, 3, 4, 5, 0] N2
  refine wpAny_execs_cons ?_
  refine wpAny_keep (Nat.le_refl tk2) ?_
  refine law_s2 (D := D) (v2 := c2) h2 gD hlen hi hls B F2 X N2' T hd hu ?_
  intro D2 o2' ws k2 h3' tk3 g3 gw F3 N3 gD2 gk3
  obtain ⟨d0, d1, d2, d3, d4, d5, hdr⟩ := len6 (drawn_len (ns := ns))
  rw [hdr] at gw
  obtain ⟨u0, u1, u2, u3, u4, u5, rfl⟩ := ints6 gw
  refine wpAny_execs_cons ?_
  refine wpAny_keep gk3 ?_
  refine law_s3 (ws := []) g3 B F3 X N3 T hd hu ?_
  intro D3 v0 v1 v2 v3 v4 t0 t1 t2 t3 t4 k3 h4' tk4 gb F4 N4 go4 go4a go4b gk4
  have N4' := pickT 3 [1, 2, 0] N4
  refine wpAny_execs_cons ?_
  refine wpAny_keep gk4 ?_
  refine law_s4 g3 B F4 X N4' T hd hu ?_
  intro D4 z0 z1 z2 k4 h5' tk5 F5 N5 go5 gk5
  have b0 := place_bound (d := d5) (k := 0)
  have b1 := place_bound (d := d5) (k := 1)
  have b2 := place_bound (d := d5) (k := 2)
  have N5' := pickT 10 [9, 0, 4, 3, 5, 6, 7, 8] N5
  refine wpAny_execs_cons ?_
  refine wpAny_keep gk5 ?_
  refine law_s5 (lo := s.toks) (hi := tk2) (D := D) (k := k) (p0 := placeL d5 0) (p1 := placeL d5 1) (p2 := placeL d5 2) g2 gv ⟨by omega, by omega⟩ ⟨by omega, by omega⟩ ⟨by omega, by omega⟩ B F5 X N5' T hd hu ?_
  intro D5 x0 x1 x2 k5 h6' tk6 gx0 gx1 gx2 F6 N6 go6 gk6
  have N6' := pickT 9 [8, 4, 0, 2, 5, 6, 7] N6
  have F6' := frl (x := Str.ofString "numbers") (v := .ref D3) F6 rfl
  have q53 : D5 ≠ L + 1 + 1 + 1 := (go6 (L + 1 + 1 + 1, o3) (by repeat (first | exact List.Mem.head _ | refine List.Mem.tail _ ?_))).symm
  have q43 : D4 ≠ L + 1 + 1 + 1 := (go5 (L + 1 + 1 + 1, o3) (by repeat (first | exact List.Mem.head _ | refine List.Mem.tail _ ?_))).symm
  have q33 : D3 ≠ L + 1 + 1 + 1 := (go4 (L + 1 + 1 + 1, o3) (by repeat (first | exact List.Mem.head _ | refine List.Mem.tail _ ?_))).symm
  refine wpAny_execs_cons ?_
  refine wpAny_keep gk6 ?_
  refine law_s6 (v3' := c3) (tl := (D5, listOf #[.str (wordsL.getD (placeL d5 0).toNat default) x0, .str (wordsL.getD (placeL d5 1).toNat default) x1, .str (wordsL.getD (placeL d5 2).toNat default) x2] k5) :: (D4, listOf #[.int (placeL d5 0) z0, .int (placeL d5 1) z1, .int (placeL d5 2) z2] k4) :: [(L + 1 + 1 + 1 + 1 + 1 + 1, o6), (L + 1 + 1 + 1 + 1 + 1, o5), (L + 1 + 1 + 1 + 1, o4)]) h3 ?ht q33 B F6' X N6' T hd hu ?_
  case ht => exact cbP q53 (cbP q43 (cbP (Nat.ne_of_gt (Nat.lt_succ_of_lt (Nat.lt_succ_of_lt (Nat.lt_succ_self _)))) (cbP (Nat.ne_of_gt (Nat.lt_succ_of_lt (Nat.lt_succ_self _))) (cbP (Nat.ne_of_gt (Nat.lt_succ_self _)) (fun p hp => nomatch hp)))))
  intro D6 o3' k6 h7' tk7 g7 F7 N7 go7 gk7
  have N7' := pickT 8 [7, 6, 5, 2, 1, 3, 4, 0] N7
  refine wpAny_execs_cons ?_
  refine law_for (lo := tk2) (knn := k3) (lw := D6) (TT3 := hT d5 v0 v1 v2 v3 (gb _ (.head _)) (gb _ (.tail _ (.head _))) (gb _ (.tail _ (.tail _ (.head _))))) (TT4 := hT d5 v0 v1 v2 v4 (gb _ (.head _)) (gb _ (.tail _ (.head _))) (gb _ (.tail _ (.tail _ (.head _))))) (vt := c5) (vw := c6) (vq := c4) h5 h6 g7 h4 gk7 (Nat.le_trans h655 (Nat.le_trans gk1 gk2)) ⟨Nat.le_trans h655 gx0.1, gx0.2⟩ ⟨Nat.le_trans h655 gx1.1, gx1.2⟩ ⟨Nat.le_trans h655 gx2.1, gx2.2⟩ ⟨by omega, by omega⟩ ⟨by omega, by omega⟩ ⟨by omega, by omega⟩ rfl rfl (.head _) (.tail _ (.head _)) (.tail _ (.tail _ (.head _))) (.tail _ (.tail _ (.tail _ (.head _)))) ?hcell B F7 X N7' T hd hu hE ?_
  case hcell =>
    have a4 : ∀ o, (L + 1 + 1 + 1 + 1, o) ∈ [(L + 1 + 1 + 1 + 1 + 1 + 1, o6), (L + 1 + 1 + 1 + 1 + 1, o5), (L + 1 + 1 + 1 + 1, o)] := fun o => .tail _ (.tail _ (.head _))
    refine cbP ⟨?_, ?_, ?_⟩ (cbP ⟨?_, ?_, ?_⟩ (cbP ⟨?_, ?_, ?_⟩ (cbP ⟨?_, ?_, ?_⟩ (cbP ⟨?_, ?_, ?_⟩ (fun p hp => nomatch hp)))))
    · exact (go4 (L + 1 + 1 + 1 + 1, o4) (by repeat (first | exact List.Mem.head _ | refine List.Mem.tail _ ?_))).symm
    · exact (go4 (L + 1 + 1 + 1 + 1 + 1, o5) (by repeat (first | exact List.Mem.head _ | refine List.Mem.tail _ ?_))).symm
    · exact (go4 (L + 1 + 1 + 1 + 1 + 1 + 1, o6) (by repeat (first | exact List.Mem.head _ | refine List.Mem.tail _ ?_))).symm
    · exact Nat.ne_of_lt (Nat.lt_succ_self _)
    · exact Nat.ne_of_lt (Nat.lt_succ_of_lt (Nat.lt_succ_self _))
    · exact Nat.ne_of_lt (Nat.lt_succ_of_lt (Nat.lt_succ_of_lt (Nat.lt_succ_self _)))
    · exact (go6 (L + 1 + 1 + 1 + 1, o4) (by repeat (first | exact List.Mem.head _ | refine List.Mem.tail _ ?_))).symm
    · exact (go6 (L + 1 + 1 + 1 + 1 + 1, o5) (by repeat (first | exact List.Mem.head _ | refine List.Mem.tail _ ?_))).symm
    · exact (go6 (L + 1 + 1 + 1 + 1 + 1 + 1, o6) (by repeat (first | exact List.Mem.head _ | refine List.Mem.tail _ ?_))).symm
    · exact (go5 (L + 1 + 1 + 1 + 1, o4) (by repeat (first | exact List.Mem.head _ | refine List.Mem.tail _ ?_))).symm
    · exact (go5 (L + 1 + 1 + 1 + 1 + 1, o5) (by repeat (first | exact List.Mem.head _ | refine List.Mem.tail _ ?_))).symm
    · exact (go5 (L + 1 + 1 + 1 + 1 + 1 + 1, o6) (by repeat (first | exact List.Mem.head _ | refine List.Mem.tail _ ?_))).symm
    · exact Nat.ne_of_gt (go7 (L + 1 + 1 + 1 + 1, o4) (by repeat (first | exact List.Mem.head _ | refine List.Mem.tail _ ?_)))
    · exact Nat.ne_of_gt (go7 (L + 1 + 1 + 1 + 1 + 1, o5) (by repeat (first | exact List.Mem.head _ | refine List.Mem.tail _ ?_)))
    · exact Nat.ne_of_gt (go7 (L + 1 + 1 + 1 + 1 + 1 + 1, o6) (by repeat (first | exact List.Mem.head _ | refine List.Mem.tail _ ?_)))
  intro m9 h8' tk8 F8 N8
  refine wpAny_execs_cons ?_
  have hst : lawBody.getD 8 default = Stmt.Return _ _ := rfl
  have hsc : lawScope = Scope.mk _ _ _ _ _ := rfl
  rw [hst, hsc]
  clear hst hsc
  w_strict ((try k_unmd); (try k_fold); k_steps)
  exact hret m9 _ _ F8
end
end
end
section
open PySem PySem.W PyProof.Rows PySem.Spec PySem.Calls PySem.NumText
theorem alld_digits (m : Nat) : AllDigits ((Nat.toDigits 10 m).map Char.toNat) := by
  intro c hc
  obtain ⟨ch, hch, e⟩ := List.mem_map.mp hc
  rw [← e]
  exact digit_range (Nat.isDigit_of_mem_toDigits (by decide) (by decide) hch)
theorem digs_ne (m : Nat) : (Nat.toDigits 10 m).map Char.toNat ≠ [] := by
  intro e
  have h := toDigits_len_ge 10 m
  rw [List.map_eq_nil_iff.mp e] at h
  exact absurd h (by decide)
theorem cps_neg (m : Nat) : (Str.ofString (toString (Int.negSucc m))).cps.toList = 45 :: (Nat.toDigits 10 (m + 1)).map Char.toNat := by
  rw [signs_ofString]
  show ("-" ++ Nat.repr (m + 1)).toList.map Char.toNat = _
  rw [String.toList_append, Nat.toList_repr, List.map_append]
  rfl
theorem digs_len {m : Nat} (h : m < 10 ^ 10) : (Nat.toDigits 10 m).length ≤ 10 := toDigits_len_pow (by decide) (by decide) h
/-- the text of an int of at most ten figures: its signs -/
theorem int_signs {w : Int} (h : -(10 ^ 9) < w ∧ w < 10 ^ 9) : (∀ c ∈ (Str.ofString (toString w)).cps.toList, c = 45 ∨ (48 ≤ c ∧ c ≤ 57)) ∧ (Str.ofString (toString w)).cps.toList.length ≤ 11 ∧ PySem.intText? (Str.ofString (toString w)) = some w := by
  obtain ⟨h0, h1⟩ := h
  cases w with
  | ofNat m =>
    have hm : m < 10 ^ 10 := by
      have : (Int.ofNat m) = (m : Int) := rfl
      omega
    have e := KIN.signs_num m
    refine ⟨fun c hc => .inr (alld_digits m c (by rw [← e]; exact hc)), ?_, KIN.num_reads (Int.natCast_nonneg m) (by have : (Int.ofNat m) = (m : Int) := rfl; omega)⟩
    show ((Str.ofString (toString ((m : Nat) : Int))).cps.toList).length ≤ 11
    rw [e, List.length_map]
    exact Nat.le_trans (digs_len hm) (by decide)
  | negSucc m =>
    have hm : m + 1 < 10 ^ 10 := by omega
    have e := cps_neg m
    have hl : (Str.ofString (toString (Int.negSucc m))).cps.toList.length ≤ 11 := by
      rw [e, List.length_cons, List.length_map]
      exact Nat.succ_le_succ (digs_len hm)
    refine ⟨fun c hc => ?_, hl, ?_⟩
    · rw [e] at hc
      rcases List.mem_cons.mp hc with h | h
      · exact .inl h
      · exact .inr (alld_digits _ c h)
    · have h9 := intText_neg e (alld_digits _) (digs_ne _) (by rw [← show _ = Str.length _ from Array.length_toList]; omega)
      rw [h9, KIN.val_back]
      rfl
theorem int_clean {w : Int} (h : -(10 ^ 9) < w ∧ w < 10 ^ 9) : clean (Str.ofString (toString w)) := fun c hc => by
  rcases (int_signs h).1 c hc with e | e <;> omega
theorem int_len {w : Int} (h : -(10 ^ 9) < w ∧ w < 10 ^ 9) : (Str.ofString (toString w)).length ≤ 640 := by
  have := (int_signs h).2.1
  rw [Array.length_toList] at this
  exact Nat.le_trans this (by decide)
theorem int_size {w : Int} (h : -(10 ^ 9) < w ∧ w < 10 ^ 9) : (Str.ofString (toString w)).cps.size < 2 ^ 20 := by
  have := (int_signs h).2.1
  rw [Array.length_toList] at this
  exact Nat.lt_of_le_of_lt this (by decide)
end
section
open PySem PySem.W PyProof.Rows PySem.Spec PySem.Calls
noncomputable def words14 : List Str := wordsL ++ [Str.ofString "set", Str.ofString "0x0"]
noncomputable def lows14 : List Str := [Str.ofString "optimized", Str.ofString "newlocals", Str.ofString "varargs", Str.ofString "varkeywords", Str.ofString "nested", Str.ofString "generator", Str.ofString "nofree", Str.ofString "coroutine", Str.ofString "iterable_coroutine", Str.ofString "async_generator", Str.ofString "0x400", Str.ofString "0x800", Str.ofString "set", Str.ofString "0x0"]
noncomputable def W14 (i : Fin 14) : Str := words14.getD i.val default
noncomputable def L14 (i : Fin 14) : Str := lows14.getD i.val default
noncomputable def cleanB (v : Str) : Bool := v.cps.toList.all fun c => decide (32 ≤ c) && decide (c < 127)
theorem clean_of {v : Str} (h : cleanB v = true) : clean v := fun c hc => by
  have := List.all_eq_true.mp h c hc
  rw [Bool.and_eq_true, decide_eq_true_eq, decide_eq_true_eq] at this
  exact this
theorem lowW : ∀ i : Fin 14, Txt.lower (W14 i) = L14 i := by decide +kernel
theorem lowS : ∀ i : Fin 14, Txt.lower (Txt.swapcase (W14 i)) = L14 i := by decide +kernel
theorem L14_inj : ∀ i j : Fin 14, L14 i = L14 j → i = j := by decide +kernel
theorem W14_inj : ∀ i j : Fin 14, W14 i = W14 j → i = j := fun i j h => L14_inj i j (by rw [← lowW, ← lowW, h])
/-- all that is asked of one word -/
noncomputable def wordOk (x : Str) : Prop := (clean (Txt.swapcase x) ∧ (Txt.swapcase x).cps.size < 2 ^ 20 ∧ clean (Txt.lower (Txt.swapcase x)) ∧ (Txt.lower (Txt.swapcase x)).cps.size < 2 ^ 20 ∧ (Txt.swapcase x).length ≤ 1000 ∧ x.length ≤ 1000) ∧ clean (Txt.lower x) ∧ (Txt.lower x).cps.size < 2 ^ 20 ∧ clean x ∧ x.cps.size < 2 ^ 20
noncomputable abbrev wordOkB (x : Str) : Prop := (cleanB (Txt.swapcase x) = true ∧ (Txt.swapcase x).cps.size < 2 ^ 20 ∧ cleanB (Txt.lower (Txt.swapcase x)) = true ∧ (Txt.lower (Txt.swapcase x)).cps.size < 2 ^ 20 ∧ (Txt.swapcase x).length ≤ 1000 ∧ x.length ≤ 1000) ∧ cleanB (Txt.lower x) = true ∧ (Txt.lower x).cps.size < 2 ^ 20 ∧ cleanB x = true ∧ x.cps.size < 2 ^ 20
theorem wordsOkB : ∀ i : Fin 14, wordOkB (W14 i) := by decide +kernel
theorem wordsOk (i : Fin 14) : wordOk (W14 i) := by
  obtain ⟨⟨a1, a2, a3, a4, a5, a6⟩, b1, b2, b3, b4⟩ := wordsOkB i
  exact ⟨⟨clean_of a1, a2, clean_of a3, a4, a5, a6⟩, clean_of b1, b2, clean_of b3, b4⟩
/-- the places of the names of one set -/
noncomputable def nmI (a b c : Fin 14) (i : Nat) : List (Fin 14) := if i = 0 then [13] else selJ i 0 [a, b, c]
noncomputable def pA (a : Fin 4) : Fin 14 := ⟨a.val, by omega⟩
noncomputable def pB (b : Fin 4) : Fin 14 := ⟨4 + b.val, by omega⟩
noncomputable def pC (c : Fin 4) : Fin 14 := ⟨8 + c.val, by omega⟩
theorem names_are : ∀ a b c : Fin 4, ∀ i : Fin 8, nmF (1 * 2 ^ (pA a).val) (1 * 2 ^ (pB b).val) (1 * 2 ^ (pC c).val) i.val = (nmI (pA a) (pB b) (pC c) i.val).map W14 := by decide +kernel
noncomputable def codes14 : List (List Nat) := [[79, 80, 84, 73, 77, 73, 90, 69, 68], [78, 69, 87, 76, 79, 67, 65, 76, 83], [86, 65, 82, 65, 82, 71, 83], [86, 65, 82, 75, 69, 89, 87, 79, 82, 68, 83], [78, 69, 83, 84, 69, 68], [71, 69, 78, 69, 82, 65, 84, 79, 82], [78, 79, 70, 82, 69, 69], [67, 79, 82, 79, 85, 84, 73, 78, 69], [73, 84, 69, 82, 65, 66, 76, 69, 95, 67, 79, 82, 79, 85, 84, 73, 78, 69], [65, 83, 89, 78, 67, 95, 71, 69, 78, 69, 82, 65, 84, 79, 82], [48, 120, 52, 48, 48], [48, 120, 56, 48, 48], [115, 101, 116], [48, 120, 48]]
noncomputable def C14 (i : Fin 14) : Str := ⟨(codes14.getD i.val []).toArray⟩
noncomputable def comma : Str := ⟨#[44, 32]⟩
theorem W14_C : ∀ i : Fin 14, W14 i = C14 i := by decide +kernel
theorem comma_C : Str.ofString ", " = comma := by decide +kernel
noncomputable def joinOk (l : List Str) : Prop := (Txt.join (Str.ofString ", ") l).length ≤ 1000 ∧ Txt.split (Txt.join (Str.ofString ", ") l) (Str.ofString ", ") = l ∧ l.length ≤ 3
noncomputable abbrev joinOkC (l : List Str) : Prop := (Txt.join comma l).length ≤ 1000 ∧ Txt.split (Txt.join comma l) comma = l ∧ l.length ≤ 3
theorem joinOk_C {l : List (Fin 14)} (h : joinOkC (l.map C14)) : joinOk (l.map W14) := by
  have e : W14 = C14 := funext W14_C
  unfold joinOk
  rw [e, comma_C]
  exact h
theorem j0 : joinOkC [C14 13] := by decide +kernel
theorem j1 : ∀ a : Fin 4, joinOkC [C14 (pA a)] := by decide +kernel
theorem j2 : ∀ a : Fin 4, joinOkC [C14 (pB a)] := by decide +kernel
theorem j4 : ∀ a : Fin 4, joinOkC [C14 (pC a)] := by decide +kernel
theorem j3 : ∀ a b : Fin 4, joinOkC [C14 (pA a), C14 (pB b)] := by decide +kernel
theorem j5 : ∀ a b : Fin 4, joinOkC [C14 (pA a), C14 (pC b)] := by decide +kernel
theorem j6 : ∀ a b : Fin 4, joinOkC [C14 (pB a), C14 (pC b)] := by decide +kernel
theorem j70 : ∀ b c : Fin 4, joinOkC [C14 (pA 0), C14 (pB b), C14 (pC c)] := by decide +kernel
theorem j71 : ∀ b c : Fin 4, joinOkC [C14 (pA 1), C14 (pB b), C14 (pC c)] := by decide +kernel
theorem j72 : ∀ b c : Fin 4, joinOkC [C14 (pA 2), C14 (pB b), C14 (pC c)] := by decide +kernel
theorem j73 : ∀ b c : Fin 4, joinOkC [C14 (pA 3), C14 (pB b), C14 (pC c)] := by decide +kernel
theorem j7 : ∀ a b c : Fin 4, joinOkC [C14 (pA a), C14 (pB b), C14 (pC c)]
  | 0, b, c => j70 b c
  | 1, b, c => j71 b c
  | 2, b, c => j72 b c
  | 3, b, c => j73 b c
theorem joinsOk (a b c : Fin 4) : ∀ i : Fin 8, joinOk ((nmI (pA a) (pB b) (pC c) i.val).map W14)
  | 0 => joinOk_C (l := [13]) j0
  | 1 => joinOk_C (l := [pA a]) (j1 a)
  | 2 => joinOk_C (l := [pB b]) (j2 b)
  | 3 => joinOk_C (l := [pA a, pB b]) (j3 a b)
  | 4 => joinOk_C (l := [pC c]) (j4 c)
  | 5 => joinOk_C (l := [pA a, pC c]) (j5 a c)
  | 6 => joinOk_C (l := [pB b, pC c]) (j6 b c)
  | 7 => joinOk_C (l := [pA a, pB b, pC c]) (j7 a b c)
end
section
open PySem PySem.W PyProof.Rows PySem.Spec PySem.Calls
/-- the counts that tell of eight sets: all, and those with each voter -/
noncomputable def bq (b : Bool) : Int := if b then 1 else 0
noncomputable def codeB (b0 b1 b2 b3 b4 b5 b6 b7 : Bool) : Int := (bq b0 + bq b1 + bq b2 + bq b3 + bq b4 + bq b5 + bq b6 + bq b7) + (bq b1 + bq b3 + bq b5 + bq b7) * 16 + (bq b2 + bq b3 + bq b6 + bq b7) * 256 + (bq b4 + bq b5 + bq b6 + bq b7) * 4096
noncomputable def maskB (b0 b1 b2 b3 b4 b5 b6 b7 : Bool) : Int := bq b0 * 1 + bq b1 * 2 + bq b2 * 4 + bq b3 * 8 + bq b4 * 16 + bq b5 * 32 + bq b6 * 64 + bq b7 * 128
noncomputable def bAt (b0 b1 b2 b3 b4 b5 b6 b7 : Bool) : Nat → Bool
  | 0 => b0 | 1 => b1 | 2 => b2 | 3 => b3 | 4 => b4 | 5 => b5 | 6 => b6 | _ => b7
/-- two sets that win and two that lose, with the same voters together -/
noncomputable def pairs8 : List (Nat × Nat × Nat × Nat) := [(0,3,1,2),(0,5,1,4),(0,6,2,4),(0,7,1,6),(0,7,2,5),(0,7,3,4),(1,6,2,5),(1,6,3,4),(2,5,3,4),(1,7,3,5),(2,7,3,6),(4,7,5,6)]
noncomputable def crossB (f : Nat → Bool) : Bool := pairs8.any fun (i, j, k, l) => (f i && f j && !f k && !f l) || (!f i && !f j && f k && f l)
noncomputable def tellsB (b0 b1 b2 b3 b4 b5 b6 b7 : Bool) : Bool := crossB (bAt b0 b1 b2 b3 b4 b5 b6 b7) || decide (famL (codeB b0 b1 b2 b3 b4 b5 b6 b7) = [maskB b0 b1 b2 b3 b4 b5 b6 b7])
set_option profiler true
theorem tells : ∀ b0 b1 b2 b3 b4 b5 b6 b7 : Bool, tellsB b0 b1 b2 b3 b4 b5 b6 b7 = true := by decide +kernel
end
section
open PySem PySem.W PyProof.Rows PySem.Spec PySem.Calls
theorem win_succ {w0 w1 w2 q : Int} {i : Nat} : winL w0 w1 w2 q (i + 1) = winL w0 w1 w2 q i ++ if decide (q ≤ (selJ i 0 [w0, w1, w2]).sum) then [(i : Int)] else [] := by
  by_cases h : q ≤ (selJ i 0 [w0, w1, w2]).sum
  · rw [win_on h, decide_eq_true h]; rfl
  · rw [win_off h, decide_eq_false h]; exact (List.append_nil _).symm
noncomputable def one (b : Bool) (i : Int) : List Int := if b then [i] else []
noncomputable def winB (b0 b1 b2 b3 b4 b5 b6 b7 : Bool) : List Int := ((((((([] ++ one b0 0) ++ one b1 1) ++ one b2 2) ++ one b3 3) ++ one b4 4) ++ one b5 5) ++ one b6 6) ++ one b7 7
theorem win_B {w0 w1 w2 q : Int} : winL w0 w1 w2 q 8 = winB (decide (q ≤ 0)) (decide (q ≤ w0)) (decide (q ≤ w1)) (decide (q ≤ w0 + w1)) (decide (q ≤ w2)) (decide (q ≤ w0 + w2)) (decide (q ≤ w1 + w2)) (decide (q ≤ w0 + (w1 + w2))) := by
  have e0 : (selJ 0 0 [w0, w1, w2]).sum = 0 := rfl
  have e1 : (selJ 1 0 [w0, w1, w2]).sum = w0 := Int.add_zero w0
  have e2 : (selJ 2 0 [w0, w1, w2]).sum = w1 := Int.add_zero w1
  have e3 : (selJ 3 0 [w0, w1, w2]).sum = w0 + w1 := congrArg (w0 + ·) (Int.add_zero w1)
  have e4 : (selJ 4 0 [w0, w1, w2]).sum = w2 := Int.add_zero w2
  have e5 : (selJ 5 0 [w0, w1, w2]).sum = w0 + w2 := congrArg (w0 + ·) (Int.add_zero w2)
  have e6 : (selJ 6 0 [w0, w1, w2]).sum = w1 + w2 := congrArg (w1 + ·) (Int.add_zero w2)
  have e7 : (selJ 7 0 [w0, w1, w2]).sum = w0 + (w1 + w2) := congrArg (fun z => w0 + (w1 + z)) (Int.add_zero w2)
  rw [win_succ, win_succ, win_succ, win_succ, win_succ, win_succ, win_succ, win_succ, e0, e1, e2, e3, e4, e5, e6, e7]
  rfl
noncomputable def lenB (l : List Int) : Int := ((l.length : Nat) : Int)
noncomputable def codeW (l : List Int) : Int := lenB l + lenB (selB 0 l) * 16 + lenB (selB 1 l) * 256 + lenB (selB 2 l) * 4096
theorem code_B : ∀ b0 b1 b2 b3 b4 b5 b6 b7 : Bool, codeW (winB b0 b1 b2 b3 b4 b5 b6 b7) = codeB b0 b1 b2 b3 b4 b5 b6 b7 := by decide +kernel
theorem mask_B : ∀ b0 b1 b2 b3 b4 b5 b6 b7 : Bool, (bitsL (winB b0 b1 b2 b3 b4 b5 b6 b7)).sum = maskB b0 b1 b2 b3 b4 b5 b6 b7 := by decide +kernel
/-- weights and a quota never let two sets win and two lose that have the same voters together -/
theorem no_cross {w0 w1 w2 q : Int} : crossB (bAt (decide (q ≤ 0)) (decide (q ≤ w0)) (decide (q ≤ w1)) (decide (q ≤ w0 + w1)) (decide (q ≤ w2)) (decide (q ≤ w0 + w2)) (decide (q ≤ w1 + w2)) (decide (q ≤ w0 + (w1 + w2)))) = false := by
  have h2 : ∀ {a b c d : Int}, a + b = c + d → ((decide (q ≤ a) && decide (q ≤ b) && !decide (q ≤ c) && !decide (q ≤ d)) || (!decide (q ≤ a) && !decide (q ≤ b) && decide (q ≤ c) && decide (q ≤ d))) = false := by
    intro a b c d e
    rw [Bool.eq_false_iff]
    intro h
    simp only [Bool.or_eq_true, Bool.and_eq_true, Bool.not_eq_true', decide_eq_true_eq, decide_eq_false_iff_not] at h
    omega
  unfold crossB
  rw [List.any_eq_false]
  intro x hx
  simp only [pairs8, List.mem_cons, List.not_mem_nil, or_false] at hx
  rw [Bool.not_eq_true]
  rcases hx with rfl | rfl | rfl | rfl | rfl | rfl | rfl | rfl | rfl | rfl | rfl | rfl
  all_goals exact h2 (by omega)
theorem fam_tells {w0 w1 w2 q : Int} : famL (codeW (winL w0 w1 w2 q 8)) = [(bitsL (winL w0 w1 w2 q 8)).sum] := by
  have h := tells (decide (q ≤ 0)) (decide (q ≤ w0)) (decide (q ≤ w1)) (decide (q ≤ w0 + w1)) (decide (q ≤ w2)) (decide (q ≤ w0 + w2)) (decide (q ≤ w1 + w2)) (decide (q ≤ w0 + (w1 + w2)))
  unfold tellsB at h
  rw [no_cross, Bool.false_or] at h
  rw [win_B, code_B, mask_B]
  exact of_decide_eq_true h
end
section
open PySem PySem.W PyProof.Rows PySem.Spec PySem.Calls
theorem selJ_map {α β : Type} {f : α → β} {n : Nat} : ∀ {l : List α} {i : Nat}, (selJ n i l).map f = selJ n i (l.map f)
  | [], _ => rfl
  | x :: r, i => by
    have ih := selJ_map (f := f) (n := n) (l := r) (i := i + 1)
    simp only [selJ, List.map_cons]
    split
    · rw [List.map_cons, ih]
    · exact ih
theorem selJ_mem {α : Type} {n : Nat} {x : α} : ∀ {l : List α} {i : Nat}, x ∈ selJ n i l → x ∈ l
  | [], _, h => h
  | y :: r, i, h => by
    simp only [selJ] at h
    split at h
    · rcases List.mem_cons.mp h with rfl | h
      · exact .head _
      · exact .tail _ (selJ_mem h)
    · exact .tail _ (selJ_mem h)
theorem nmI_mem {a b c x : Fin 14} {i : Nat} (h : x ∈ nmI a b c i) : x = 13 ∨ x = a ∨ x = b ∨ x = c := by
  unfold nmI at h
  split at h
  · exact .inl (List.mem_singleton.mp h)
  · have := selJ_mem h
    simp only [List.mem_cons, List.not_mem_nil, or_false] at this
    exact .inr this
/-- the worth of a name -/
noncomputable def valW (n0 n1 n2 : Str) (w0 w1 w2 : Int) (nm : Str) : Int := if nm = n0 then w0 else if nm = n1 then w1 else if nm = n2 then w2 else 0
section
variable {a b c : Fin 4} {w0 w1 w2 q : Int}
theorem pAB : pA a ≠ pB b := by revert a b; decide
theorem pAC : pA a ≠ pC c := by revert a c; decide
theorem pBC : pB b ≠ pC c := by revert b c; decide
theorem pA13 : (13 : Fin 14) ≠ pA a := by revert a; decide
theorem pB13 : (13 : Fin 14) ≠ pB b := by revert b; decide
theorem pC13 : (13 : Fin 14) ≠ pC c := by revert c; decide
theorem W_ne {i j : Fin 14} (h : i ≠ j) : W14 i ≠ W14 j := fun e => h (W14_inj i j e)
theorem val_a : valW (W14 (pA a)) (W14 (pB b)) (W14 (pC c)) w0 w1 w2 (W14 (pA a)) = w0 := if_pos rfl
theorem val_b : valW (W14 (pA a)) (W14 (pB b)) (W14 (pC c)) w0 w1 w2 (W14 (pB b)) = w1 := by
  unfold valW
  rw [if_neg (W_ne pAB.symm), if_pos rfl]
theorem val_c : valW (W14 (pA a)) (W14 (pB b)) (W14 (pC c)) w0 w1 w2 (W14 (pC c)) = w2 := by
  unfold valW
  rw [if_neg (W_ne pAC.symm), if_neg (W_ne pBC.symm), if_pos rfl]
theorem val_0 : valW (W14 (pA a)) (W14 (pB b)) (W14 (pC c)) w0 w1 w2 (W14 13) = 0 := by
  unfold valW
  rw [if_neg (W_ne pA13), if_neg (W_ne pB13), if_neg (W_ne pC13)]
theorem val_sum {i : Nat} : (((nmI (pA a) (pB b) (pC c) i).map W14).map (valW (W14 (pA a)) (W14 (pB b)) (W14 (pC c)) w0 w1 w2)).sum = (selJ i 0 [w0, w1, w2]).sum := by
  by_cases h : i = 0
  · subst h
    show (valW (W14 (pA a)) (W14 (pB b)) (W14 (pC c)) w0 w1 w2 (W14 13) + 0) = 0
    rw [val_0]
    rfl
  · unfold nmI
    rw [if_neg h, selJ_map, selJ_map]
    simp only [List.map_cons, List.map_nil]
    rw [val_a, val_b, val_c]
theorem lows_iff {i j : Fin 14} : (Txt.lower (Txt.swapcase (W14 i)) = Txt.lower (W14 j)) ↔ i = j := by
  rw [lowS, lowW]
  exact ⟨L14_inj i j, fun h => by rw [h]⟩
theorem find_cons {x j : Fin 14} {v : Str} {r : List (Str × Str)} : hfind ((Txt.swapcase (W14 x), v) :: r) (W14 j) = if x = j then some v else hfind r (W14 j) := by
  unfold hfind
  rw [List.find?_cons]
  by_cases h : x = j
  · rw [if_pos h]
    have e : decide (Txt.lower (Txt.swapcase (W14 x)) = Txt.lower (W14 j)) = true := decide_eq_true (lows_iff.mpr h)
    simp only [e]
    rfl
  · rw [if_neg h]
    have e : decide (Txt.lower (Txt.swapcase (W14 x)) = Txt.lower (W14 j)) = false := decide_eq_false fun g => h (lows_iff.mp g)
    simp only [e]
theorem house_find {j : Fin 14} (h : j = 13 ∨ j = pA a ∨ j = pB b ∨ j = pC c) : hfind (houseF (W14 (pA a)) (W14 (pB b)) (W14 (pC c)) w0 w1 w2) (W14 j) = some (Str.ofString (toString (valW (W14 (pA a)) (W14 (pB b)) (W14 (pC c)) w0 w1 w2 (W14 j)))) := by
  have e0 : Str.ofString "0x0" = W14 13 := rfl
  unfold houseF
  rw [e0, find_cons, find_cons, find_cons, find_cons]
  rcases h with rfl | rfl | rfl | rfl
  · rw [if_pos rfl, val_0]
  · rw [if_neg pA13, if_pos rfl, val_a]
  · rw [if_neg pB13, if_neg pAB, if_pos rfl, val_b]
  · rw [if_neg pC13, if_neg pAC, if_neg pBC, if_pos rfl, val_c]
theorem val_bound {j : Fin 14} (h : j = 13 ∨ j = pA a ∨ j = pB b ∨ j = pC c) (h0 : -(10 ^ 9) < w0 ∧ w0 < 10 ^ 9) (h1 : -(10 ^ 9) < w1 ∧ w1 < 10 ^ 9) (h2 : -(10 ^ 9) < w2 ∧ w2 < 10 ^ 9) :
    -(10 ^ 9) < valW (W14 (pA a)) (W14 (pB b)) (W14 (pC c)) w0 w1 w2 (W14 j) ∧ valW (W14 (pA a)) (W14 (pB b)) (W14 (pC c)) w0 w1 w2 (W14 j) < 10 ^ 9 := by
  rcases h with rfl | rfl | rfl | rfl
  · rw [val_0]; decide
  · rw [val_a]; exact h0
  · rw [val_b]; exact h1
  · rw [val_c]; exact h2
theorem flag_a : 0 ≤ (1 : Int) * 2 ^ (pA a).val ∧ (1 : Int) * 2 ^ (pA a).val ≤ 8 := by revert a; decide
theorem flag_b : 0 ≤ (1 : Int) * 2 ^ (pB b).val ∧ (1 : Int) * 2 ^ (pB b).val ≤ 128 := by revert b; decide
theorem flag_c : 0 ≤ (1 : Int) * 2 ^ (pC c).val ∧ (1 : Int) * 2 ^ (pC c).val ≤ 2048 := by revert c; decide
theorem tab_facts (h0 : -(10 ^ 9) < w0 ∧ w0 < 10 ^ 9) (h1 : -(10 ^ 9) < w1 ∧ w1 < 10 ^ 9) (h2 : -(10 ^ 9) < w2 ∧ w2 < 10 ^ 9) :
    TabFacts (W14 (pA a)) (W14 (pB b)) (W14 (pC c)) (1 * 2 ^ (pA a).val) (1 * 2 ^ (pB b).val) (1 * 2 ^ (pC c).val) w0 w1 w2 (valW (W14 (pA a)) (W14 (pB b)) (W14 (pC c)) w0 w1 w2) where
  hs0 := (wordsOk _).1.1
  hs1 := (wordsOk _).1.1
  hs2 := (wordsOk _).1.1
  hz0 := (wordsOk _).1.2.1
  hz1 := (wordsOk _).1.2.1
  hz2 := (wordsOk _).1.2.1
  hn0 := (wordsOk _).1.2.2.2.2.2
  hn1 := (wordsOk _).1.2.2.2.2.2
  hn2 := (wordsOk _).1.2.2.2.2.2
  hw0 := h0
  hw1 := h1
  hw2 := h2
  hc0 := int_clean h0
  hc1 := int_clean h1
  hc2 := int_clean h2
  hk0 := int_size h0
  hk1 := int_size h1
  hk2 := int_size h2
  hb0 := flag_a
  hb1 := flag_b
  hb2 := flag_c
  hnm := fun i hi => by
    rw [names_are a b c ⟨i, hi⟩]
    obtain ⟨g1, g2, g3⟩ := joinsOk a b c ⟨i, hi⟩
    refine ⟨g1, g2, g3, fun nm hnm => ?_⟩
    obtain ⟨j, hj, rfl⟩ := List.mem_map.mp hnm
    have hk := nmI_mem hj
    have hb := val_bound hk h0 h1 h2
    have ok := wordsOk j
    exact ⟨⟨ok.2.1, ok.2.2.1, ok.1.2.2.2.2.2, ok.2.2.2⟩, house_find hk, (int_signs hb).2.2, int_len hb⟩
  hhl := by
    have e0 : Str.ofString "0x0" = W14 13 := rfl
    unfold houseF
    rw [e0]
    intro r hr
    simp only [List.mem_cons, List.not_mem_nil, or_false] at hr
    rcases hr with rfl | rfl | rfl | rfl
    all_goals exact (wordsOk _).1.2.2.2.2.1
end
end
section
open PySem PySem.W PyProof.Rows PySem.Spec PySem.Calls
/-- the notes of one set -/
noncomputable def rowI (a b c : Fin 14) (i : Nat) : List (Str × Str) := ((12 :: nmI a b c i).map W14).map (·, Str.ofString (toString (i : Int)))
/-- the table of the sets that win, up to a number -/
noncomputable def tabI (a b c : Fin 14) (w0 w1 w2 q : Int) : Nat → List (Str × Str)
  | 0 => []
  | i + 1 => tabI a b c w0 w1 w2 q i ++ if decide (q ≤ (selJ i 0 [w0, w1, w2]).sum) then rowI a b c i else []
noncomputable def hits (x : Fin 14) (l : List (Fin 14)) : Nat := (l.filter fun j => decide (j = x)).length
theorem hits_cons {x j : Fin 14} {l : List (Fin 14)} : hits x (j :: l) = (if j = x then 1 else 0) + hits x l := by
  unfold hits
  rw [List.filter_cons]
  by_cases h : j = x
  · rw [if_pos (decide_eq_true h), if_pos h, List.length_cons, Nat.add_comm]
  · rw [if_neg (by rw [decide_eq_false h]; exact Bool.false_ne_true), if_neg h, Nat.zero_add]
theorem pick_append {r1 r2 : List (Str × Str)} {nm : Str} : pickR (r1 ++ r2) nm = pickR r1 nm ++ pickR r2 nm := by
  unfold pickR
  rw [List.filter_append, List.map_append]
theorem count_append {k1 k2 : List Str} {nm : Str} : countS (k1 ++ k2) nm = countS k1 nm + countS k2 nm := by
  unfold countS
  rw [List.filter_append, List.length_append]
theorem pick_hits {x : Fin 14} {v : Str} : ∀ {l : List (Fin 14)}, pickR ((l.map W14).map (·, v)) (Txt.swapcase (W14 x)) = List.replicate (hits x l) v
  | [] => rfl
  | j :: l => by
    have ih := pick_hits (x := x) (v := v) (l := l)
    unfold pickR at ih ⊢
    rw [hits_cons, List.map_cons, List.map_cons, List.filter_cons]
    by_cases h : j = x
    · rw [if_pos (decide_eq_true (show Txt.lower (W14 j) = _ from (lows_iff.mpr h.symm).symm)), if_pos h, Nat.add_comm, List.replicate_succ, List.map_cons, ih]
    · rw [if_neg (by rw [decide_eq_false (fun g : Txt.lower (W14 j) = _ => h (lows_iff.mp g.symm).symm)]; exact Bool.false_ne_true), if_neg h, Nat.zero_add, ih]
theorem count_hits {x : Fin 14} : ∀ {l : List (Fin 14)}, countS (l.map W14) (W14 x) = hits x l
  | [] => rfl
  | j :: l => by
    have ih := count_hits (x := x) (l := l)
    unfold countS at ih ⊢
    rw [hits_cons, List.map_cons, List.filter_cons]
    by_cases h : j = x
    · rw [if_pos (decide_eq_true (congrArg W14 h)), if_pos h, List.length_cons, ih, Nat.add_comm]
    · rw [if_neg (by rw [decide_eq_false (W_ne h)]; exact Bool.false_ne_true), if_neg h, Nat.zero_add, ih]
section
variable {a b c : Fin 4} {w0 w1 w2 q : Int}
theorem tab_eq : ∀ {k : Nat}, k ≤ 8 → tabF (1 * 2 ^ (pA a).val) (1 * 2 ^ (pB b).val) (1 * 2 ^ (pC c).val) q (valW (W14 (pA a)) (W14 (pB b)) (W14 (pC c)) w0 w1 w2) k = tabI (pA a) (pB b) (pC c) w0 w1 w2 q k
  | 0, _ => rfl
  | k + 1, h => by
    have ih := tab_eq (k := k) (Nat.le_of_succ_le h)
    have hn := names_are a b c ⟨k, h⟩
    show tabF _ _ _ _ _ k ++ rowF _ _ _ _ _ k = tabI _ _ _ _ _ _ _ k ++ _
    rw [ih]
    congr 1
    unfold rowF
    rw [show nmF (1 * 2 ^ (pA a).val) (1 * 2 ^ (pB b).val) (1 * 2 ^ (pC c).val) k = _ from hn, val_sum]
    by_cases g : q ≤ (selJ k 0 [w0, w1, w2]).sum
    · rw [if_pos g, if_pos (decide_eq_true g)]
      rfl
    · rw [if_neg g, if_neg (by rw [decide_eq_false g]; exact Bool.false_ne_true)]
/-- the sets that a name's notes tell of -/
noncomputable abbrev okT (a b c x : Fin 14) (t : Nat → Bool) : Prop := ∀ i : Fin 8, hits x (12 :: nmI a b c i.val) = if t i.val then 1 else 0
theorem okS : ∀ a b c : Fin 4, okT (pA a) (pB b) (pC c) 12 (fun _ => true) := by decide +kernel
theorem okA : ∀ a b c : Fin 4, okT (pA a) (pB b) (pC c) (pA a) (fun i => i.testBit 0) := by decide +kernel
theorem okB : ∀ a b c : Fin 4, okT (pA a) (pB b) (pC c) (pB b) (fun i => i.testBit 1) := by decide +kernel
theorem okC : ∀ a b c : Fin 4, okT (pA a) (pB b) (pC c) (pC c) (fun i => i.testBit 2) := by decide +kernel
theorem okZ : ∀ a b c : Fin 4, okT (pA a) (pB b) (pC c) 13 (fun i => decide (i = 0)) := by decide +kernel
theorem winf_succ {t : Nat → Bool} {k : Nat} : (winL w0 w1 w2 q (k + 1)).filter (fun z => t z.toNat) = (winL w0 w1 w2 q k).filter (fun z => t z.toNat) ++ if decide (q ≤ (selJ k 0 [w0, w1, w2]).sum) then (if t k then [(k : Int)] else []) else [] := by
  rw [win_succ, List.filter_append]
  congr 1
  split
  · rw [List.filter_cons]
    rfl
  · rfl
theorem tab_pick {a b c x : Fin 14} {t : Nat → Bool} (h : okT a b c x t) : ∀ {k : Nat}, k ≤ 8 → pickR (tabI a b c w0 w1 w2 q k) (Txt.swapcase (W14 x)) = strL ((winL w0 w1 w2 q k).filter fun z => t z.toNat)
  | 0, _ => rfl
  | k + 1, hk => by
    have ih := tab_pick h (k := k) (Nat.le_of_succ_le hk)
    have hh := h ⟨k, hk⟩
    have hh : hits x (12 :: nmI a b c k) = if t k then 1 else 0 := hh
    rw [winf_succ]
    show pickR (tabI a b c w0 w1 w2 q k ++ _) _ = _
    rw [pick_append, ih]
    unfold strL
    rw [List.map_append]
    congr 1
    by_cases g : decide (q ≤ (selJ k 0 [w0, w1, w2]).sum) = true
    · rw [if_pos g, if_pos g]
      unfold rowI
      rw [pick_hits, hh]
      by_cases e : t k = true
      · rw [if_pos e, if_pos e]
        rfl
      · rw [if_neg e, if_neg e]
        rfl
    · rw [if_neg g, if_neg g]
      rfl
theorem tab_count {a b c x : Fin 14} {t : Nat → Bool} (h : okT a b c x t) : ∀ {k : Nat}, k ≤ 8 → countS ((tabI a b c w0 w1 w2 q k).map (·.1)) (W14 x) = ((winL w0 w1 w2 q k).filter fun z => t z.toNat).length
  | 0, _ => rfl
  | k + 1, hk => by
    have ih := tab_count h (k := k) (Nat.le_of_succ_le hk)
    have hh : hits x (12 :: nmI a b c k) = if t k then 1 else 0 := h ⟨k, hk⟩
    rw [winf_succ, List.length_append]
    show countS ((tabI a b c w0 w1 w2 q k ++ _).map _) _ = _
    rw [List.map_append, count_append, ih]
    congr 1
    by_cases g : decide (q ≤ (selJ k 0 [w0, w1, w2]).sum) = true
    · rw [if_pos g, if_pos g]
      have e2 : (rowI a b c k).map (·.1) = (12 :: nmI a b c k).map W14 := by
        unfold rowI
        rw [List.map_map]
        exact List.map_id _
      rw [e2, count_hits, hh]
      split <;> rfl
    · rw [if_neg g, if_neg g]
      rfl
theorem tab_mem {a b c : Fin 14} {r : Str × Str} : ∀ {k : Nat}, r ∈ tabI a b c w0 w1 w2 q k → ∃ j, r.1 = W14 j
  | 0, h => nomatch h
  | k + 1, h => by
    have h : r ∈ tabI a b c w0 w1 w2 q k ++ _ := h
    rcases List.mem_append.mp h with h | h
    · exact tab_mem h
    · split at h
      · unfold rowI at h
        obtain ⟨s, hs, rfl⟩ := List.mem_map.mp h
        obtain ⟨j, _, rfl⟩ := List.mem_map.mp hs
        exact ⟨j, rfl⟩
      · cases h
noncomputable def bn (t : Bool) : Nat := if t then 1 else 0
theorem row_len : ∀ a b c : Fin 4, ∀ i : Fin 8, (nmI (pA a) (pB b) (pC c) i.val).length = bn (i.val.testBit 0) + bn (i.val.testBit 1) + bn (i.val.testBit 2) + bn (decide (i.val = 0)) := by decide +kernel
theorem tab_len : ∀ {k : Nat}, k ≤ 8 → (tabI (pA a) (pB b) (pC c) w0 w1 w2 q k).length = (winL w0 w1 w2 q k).length + ((winL w0 w1 w2 q k).filter fun z => (fun i : Nat => i.testBit 0) z.toNat).length + ((winL w0 w1 w2 q k).filter fun z => (fun i : Nat => i.testBit 1) z.toNat).length + ((winL w0 w1 w2 q k).filter fun z => (fun i : Nat => i.testBit 2) z.toNat).length + ((winL w0 w1 w2 q k).filter fun z => (fun i : Nat => decide (i = 0)) z.toNat).length
  | 0, _ => rfl
  | k + 1, hk => by
    have ih := tab_len (k := k) (Nat.le_of_succ_le hk)
    have hh := row_len a b c ⟨k, hk⟩
    have hr : (rowI (pA a) (pB b) (pC c) k).length = 1 + (nmI (pA a) (pB b) (pC c) k).length := by
      unfold rowI
      rw [List.length_map, List.length_map, List.length_cons, Nat.add_comm]
    have hb : ∀ t : Bool, (if t then [(k : Int)] else []).length = bn t := fun t => by cases t <;> rfl
    rw [winf_succ (t := fun i : Nat => i.testBit 0), winf_succ (t := fun i : Nat => i.testBit 1), winf_succ (t := fun i : Nat => i.testBit 2), winf_succ (t := fun i : Nat => decide (i = 0)), win_succ]
    show (tabI (pA a) (pB b) (pC c) w0 w1 w2 q k ++ _).length = _
    simp only [List.length_append]
    rw [ih]
    by_cases g : decide (q ≤ (selJ k 0 [w0, w1, w2]).sum) = true
    · simp only [g, if_true]
      rw [hb, hb, hb, hb, hr, hh]
      simp only [List.length_cons, List.length_nil]
      omega
    · simp only [g]
      simp only [Bool.false_eq_true, if_false, List.length_nil]
      omega
theorem filt_true {l : List Int} : l.filter (fun z => (fun _ : Nat => true) z.toNat) = l := List.filter_eq_self.mpr fun _ _ => rfl
theorem filt_zero : (winL w0 w1 w2 q 8).filter (fun z => (fun i : Nat => decide (i = 0)) z.toNat) = selZ (winL w0 w1 w2 q 8) := by
  unfold selZ
  refine List.filter_congr fun x hx => ?_
  have := win_mem x hx
  exact decide_eq_decide.mpr ⟨fun h => by omega, fun h => by omega⟩
theorem filt_bit {i : Nat} {l : List Int} : l.filter (fun z => (fun n : Nat => n.testBit i) z.toNat) = selB i l := rfl
theorem turn_facts (h0 : -(10 ^ 9) < w0 ∧ w0 < 10 ^ 9) (h1 : -(10 ^ 9) < w1 ∧ w1 < 10 ^ 9) (h2 : -(10 ^ 9) < w2 ∧ w2 < 10 ^ 9) {p0 p1 p2 : Int} (e0 : p0.toNat = (pA a).val) (e1 : p1.toNat = (pB b).val) (e2 : p2.toNat = (pC c).val) :
    TurnFacts (W14 (pA a)) (W14 (pB b)) (W14 (pC c)) p0 p1 p2 w0 w1 w2 q (valW (W14 (pA a)) (W14 (pB b)) (W14 (pC c)) w0 w1 w2) := by
  have eT : tabF (1 * 2 ^ p0.toNat) (1 * 2 ^ p1.toNat) (1 * 2 ^ p2.toNat) q (valW (W14 (pA a)) (W14 (pB b)) (W14 (pC c)) w0 w1 w2) 8 = tabI (pA a) (pB b) (pC c) w0 w1 w2 q 8 := by rw [e0, e1, e2]; exact tab_eq (Nat.le_refl _)
  have es : Str.ofString "set" = W14 12 := rfl
  have ez : Str.ofString "0x0" = W14 13 := rfl
  have c0 := tab_count (w0 := w0) (w1 := w1) (w2 := w2) (q := q) (okS a b c) (Nat.le_refl 8)
  have c1 := tab_count (w0 := w0) (w1 := w1) (w2 := w2) (q := q) (okA a b c) (Nat.le_refl 8)
  have c2 := tab_count (w0 := w0) (w1 := w1) (w2 := w2) (q := q) (okB a b c) (Nat.le_refl 8)
  have c3 := tab_count (w0 := w0) (w1 := w1) (w2 := w2) (q := q) (okC a b c) (Nat.le_refl 8)
  rw [filt_true] at c0
  rw [filt_bit] at c1 c2 c3
  have g0 := tab_pick (w0 := w0) (w1 := w1) (w2 := w2) (q := q) (okS a b c) (Nat.le_refl 8)
  have g1 := tab_pick (w0 := w0) (w1 := w1) (w2 := w2) (q := q) (okA a b c) (Nat.le_refl 8)
  have g2 := tab_pick (w0 := w0) (w1 := w1) (w2 := w2) (q := q) (okB a b c) (Nat.le_refl 8)
  have g3 := tab_pick (w0 := w0) (w1 := w1) (w2 := w2) (q := q) (okC a b c) (Nat.le_refl 8)
  have g4 := tab_pick (w0 := w0) (w1 := w1) (w2 := w2) (q := q) (okZ a b c) (Nat.le_refl 8)
  rw [filt_true] at g0
  rw [filt_bit] at g1 g2 g3
  rw [filt_zero] at g4
  have hl := tab_len (a := a) (b := b) (c := c) (w0 := w0) (w1 := w1) (w2 := w2) (q := q) (Nat.le_refl 8)
  rw [filt_bit, filt_bit, filt_bit, filt_zero] at hl
  have wl := win_len (w0 := w0) (w1 := w1) (w2 := w2) (q := q)
  have bl : ∀ i, (selB i (winL w0 w1 w2 q 8)).length ≤ 8 := fun i => Nat.le_trans (List.length_filter_le _ _) wl
  constructor
  · rw [e0, e1, e2]; exact tab_facts h0 h1 h2
  · rw [eT]
    intro r hr
    obtain ⟨j, ej⟩ := tab_mem hr
    rw [ej]
    exact (wordsOk j).1.2.2.2.2.2
  · rw [eT, es, c0]; exact wl
  · rw [eT, c1]; exact bl 0
  · rw [eT, c2]; exact bl 1
  · rw [eT, c3]; exact bl 2
  · rw [eT, es, c0, c1, c2, c3]
    exact fam_tells
  · rw [es, ez]
    intro x hx
    simp only [List.mem_cons, List.not_mem_nil, or_false] at hx
    rcases hx with rfl | rfl | rfl | rfl | rfl
    all_goals exact (wordsOk _).1
  · rw [eT, es, ez, g0, g1, g2, g3, g4]
    rfl
  · rw [eT, hl]
    simp only [lenL, List.map_cons, List.map_nil, List.sum_cons, List.sum_nil]
    omega
end
theorem place_pick (d : Int) : (∃ a : Fin 4, (placeL d 0).toNat = (pA a).val) ∧ (∃ b : Fin 4, (placeL d 1).toNat = (pB b).val) ∧ ∃ c : Fin 4, (placeL d 2).toNat = (pC c).val := by
  have b0 := place_bound (d := d) (k := 0)
  have b1 := place_bound (d := d) (k := 1)
  have b2 := place_bound (d := d) (k := 2)
  refine ⟨⟨⟨(placeL d 0).toNat, by omega⟩, rfl⟩, ⟨⟨(placeL d 1).toNat - 4, by omega⟩, ?_⟩, ⟨⟨(placeL d 2).toNat - 8, by omega⟩, ?_⟩⟩
  · show _ = 4 + ((placeL d 1).toNat - 4)
    omega
  · show _ = 8 + ((placeL d 2).toNat - 8)
    omega
theorem word_at : ∀ i : Fin 12, wordsL.getD i.val default = words14.getD i.val default := by decide +kernel
theorem nm_at {d : Int} {k : Nat} {j : Fin 14} (h : (placeL d k).toNat = j.val) (hj : j.val < 12) : nmW d k = W14 j := by
  unfold nmW W14
  rw [h]
  exact word_at ⟨j.val, hj⟩
noncomputable def valF (d w0 w1 w2 : Int) : Str → Int := valW (nmW d 0) (nmW d 1) (nmW d 2) w0 w1 w2
/-- the plain law: what the walk asks of every draw -/
theorem plain_law (d w0 w1 w2 q : Int) (h0 : -(10 ^ 9) < w0 ∧ w0 < 10 ^ 9) (h1 : -(10 ^ 9) < w1 ∧ w1 < 10 ^ 9) (h2 : -(10 ^ 9) < w2 ∧ w2 < 10 ^ 9) :
    TurnFacts (nmW d 0) (nmW d 1) (nmW d 2) (placeL d 0) (placeL d 1) (placeL d 2) w0 w1 w2 q (valF d w0 w1 w2) := by
  obtain ⟨⟨a, ea⟩, ⟨b, eb⟩, ⟨c, ec⟩⟩ := place_pick d
  unfold valF
  rw [nm_at ea (by have : (pA a).val = a.val := rfl; omega), nm_at eb (by have : (pB b).val = 4 + b.val := rfl; omega), nm_at ec (by have : (pC c).val = 8 + c.val := rfl; omega)]
  exact turn_facts h0 h1 h2 ea eb ec
end
section
open PySem PySem.W PyProof.Rows PySem.Spec PySem.Calls PySem.W.X
theorem as61_keys (P : Params) : as61 = (hk.heap_1 P).map (·.1) := by kernel_rfl
local macro_rules | `(tactic| k_qdec) => `(tactic| decide +kernel)
local macro_rules | `(tactic| w_call $k $ho $hd $hcd $hD $T $F) => `(tactic| (have he := Dflts.none $hD rfl; subst he; have he := Dflts.noKw $hD; subst he; refine enter_top_T (by decide) $ho (fd_plain $hd) (Top.nolimit $T) $hcd rfl ?kinds9 (by decide) (fun h₁ tk₁ cells hge $F N0 X0 => ?_) rfl rfl rfl; rotate_right; (case kinds9 => intro n; exact kinds_of (by kinds_ok)); cells_open X0))
theorem fin : PySem.Challenge.rw_wj0061_01.Holds := by
  w_on
  refine holds_law said61 fun said => ?_
  refine holds_openX (q := vw61) (loose := loose61) (Xt := Xt61) (XP := XL vw61 []) (Yf := Yf61) (Ya := Ya61) (N := 2974) left61 (fun s e => xl_of s (Bool.and_eq_true_iff.mp e).1) XL.keeps (by rfl) (by rfl) (by rfl) (fun s e => recFacts_of (Bool.and_eq_true_iff.mp e).2) (by rfl) (by first | assumption | decide +kernel) (by decide +kernel) ⟨rfl, rfl, rfl, rfl, rfl, by decide +kernel⟩ ?hw ?hc
  case hw => w_witness2
  case hc =>
    clear said
    intro w s₀ s₁ mg mb G y fa o pm cd doc dV kV ho hd hcd hD hmg hg args vals as L hpre hlay hrd hwl hlo
    have KX : (hk.heap_1 w.params).In s₁.heap := InK.keeps w s₀.heap s₁.heap (InK.of as61_keys w s₀ (congrArg Prod.fst y)) L.keeps
    have ZT : s₀.toks = 655 := congrArg Prod.snd y
    clear y
    k_behind G ho hd hcd hD hmg hpre hlay hrd hwl hlo cd
    rename Fr _ _ _ _ => F9
    rename News _ _ _ _ => N9
    rename IntsAre _ _ => hI9
    rename Heap.IsList _ _ _ => hL9
    rename Below _ _ _ _ => B9
    rename Top _ _ _ _ _ _ => T9
    rename Not _ => hlen9
    have h655 := script_toks L ZT
    have N8 := pickT 6 [5, 0, 1, 2, 3, 4] N9
    refine' law_body (dp := 1 + claimMargin + 1) (un := 7) (gd := some []) (outer := []) (A₀ := callerA) (L := s₁.heap.objs.size) (h₀ := s₁.heap) (m₀ := fun _ => none) (valF := valF) plain_law ?h1 ?h2 ?h3 ?h4 ?h5 ?h6 ?h655 ?hlen hI9 hL9 B9 ?hF KX N8 T9 ?r1 ?r2 ?hE ?hret
    case h655 => exact Nat.le_trans h655 (by assumption)
    case hlen => omega
    case h1 => assumption
    case h2 => assumption
    case h3 => assumption
    case h4 => assumption
    case h5 => assumption
    case h6 => assumption
    case hF => exact F9
    case r1 => decide
    case r2 => decide
    case hE => passes_own
    case hret =>
      intro m' h' tk' F'
      kc_close
end
end Mine
theorem PySem.Challenge.cw_wj0061_01_holds : PySem.Challenge.rw_wj0061_01.Holds := by
  exact Mine.fin
