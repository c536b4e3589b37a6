import PyProof.Rows.All
import Wide.All
import OpenK.AllK
import Wide.FinOn
import PySem.Challenge.RW_dv0018_04
set_option Elab.async false

section
open PySem PySem.W PyProof.Rows PySem.Calls
namespace Mine

/-- what a walk knows: the frame's known names, the ledger of made objects; the rest of the machine is as at s₁ -/
structure St (h₀ : Heap) (L : Addr) (s₁ : Shared) (vs : List (Str × Value)) (news : List (Addr × Obj)) (s : Shared) : Prop where
  gens : s.gens = s₁.gens
  drawn : s.drawn = s₁.drawn
  os : s.os = s₁.os
  fr : ∃ m, Fr h₀ L s.heap m ∧ ∀ p ∈ vs, m p.1 = some p.2
  nw : News h₀ L s.heap news

def upd (x : Str) (v : Value) (vs : List (Str × Value)) : List (Str × Value) := (x, v) :: vs.filter fun p => !(p.1 == x)
theorem mem_upd {x : Str} {v : Value} {vs : List (Str × Value)} : (x, v) ∈ upd x v vs := List.Mem.head _
theorem mem_upd_ne {x y : Str} {v u : Value} {vs : List (Str × Value)} (h : (y == x) = false) (hm : (y, u) ∈ vs) : (y, u) ∈ upd x v vs :=
  List.Mem.tail _ (List.mem_filter.mpr ⟨hm, by simp [h]⟩)
theorem mem_of_upd {x : Str} {v : Value} {vs : List (Str × Value)} {p : Str × Value} (h : p ∈ upd x v vs) : p = (x, v) ∨ (p ∈ vs ∧ p.1 ≠ x) := by
  rcases List.mem_cons.mp h with h | h
  · exact .inl h
  · obtain ⟨h1, h2⟩ := List.mem_filter.mp h
    exact .inr ⟨h1, fun e => by rw [e] at h2; simp at h2⟩

section
variable {h₀ : Heap} {L : Addr} {s₁ : Shared} {vs : List (Str × Value)} {news : List (Addr × Obj)} {s : Shared}
theorem St.tok (S : St h₀ L s₁ vs news s) (k : Nat) : St h₀ L s₁ vs news { s with toks := k } := ⟨S.gens, S.drawn, S.os, S.fr, S.nw⟩
theorem St.grow (S : St h₀ L s₁ vs news s) {h' : Heap} (k : Nat) (hk : ∀ b o, s.heap.get? b = some o → h'.get? b = some o) : St h₀ L s₁ vs news { s with heap := h', toks := k } := by
  obtain ⟨m, F, hm⟩ := S.fr
  exact ⟨S.gens, S.drawn, S.os, ⟨m, F.keptAll hk, hm⟩, S.nw.grown hk⟩
theorem St.weak (S : St h₀ L s₁ vs news s) {vs' : List (Str × Value)} {news' : List (Addr × Obj)} (hv : ∀ p ∈ vs', p ∈ vs) (hn : ∀ p ∈ news', p ∈ news) : St h₀ L s₁ vs' news' s := by
  obtain ⟨m, F, hm⟩ := S.fr
  exact ⟨S.gens, S.drawn, S.os, ⟨m, F, fun p hp => hm p (hv p hp)⟩, fun p hp => S.nw p (hn p hp)⟩
theorem St.of (S : St h₀ L s₁ vs news s) {h' : Heap} {k : Nat} {m : Str → Option Value} {vs' : List (Str × Value)} {news' : List (Addr × Obj)} (F : Fr h₀ L h' m) (hm : ∀ p ∈ vs', m p.1 = some p.2) (N : News h₀ L h' news') :
    St h₀ L s₁ vs' news' { s with heap := h', toks := k } := ⟨S.gens, S.drawn, S.os, ⟨m, F, hm⟩, N⟩
theorem St.push (S : St h₀ L s₁ vs news s) (o : Obj) (hf : o.isFreed = false := by rfl) : St h₀ L s₁ vs ((s.heap.objs.size, o) :: news) { s with heap := s.heap.push o } := by
  obtain ⟨m, F, hm⟩ := S.fr
  exact ⟨S.gens, S.drawn, S.os, ⟨m, F.push o, hm⟩, S.nw.push F o hf⟩
theorem St.lt (S : St h₀ L s₁ vs news s) : ∀ p ∈ news, p.1 < s.heap.objs.size := fun p hp => Heap.lt_size (S.nw p hp).1
theorem St.shape (S : St h₀ L s₁ vs news s) : s = { s₁ with heap := s.heap, toks := s.toks } := by
  obtain ⟨h, g, d, t, o⟩ := s
  obtain ⟨hg, hd, ho, _, _⟩ := S
  simp only at hg hd ho
  subst hg hd ho
  rfl
end

/-- the names of the module and of builtins, at the frame's ground -/
structure Glo (mg mb : Str → Option Value) (h₀ : Heap) : Prop where
  g : h₀.Ns mainGlobals mg
  b : h₀.Ns builtinsNs mb
  nolimit : h₀.NoLimit
theorem Glo.keeps {mg mb : Str → Option Value} {h h' : Heap} (G : Glo mg mb h) (hk : ∀ b o, h.get? b = some o → h'.get? b = some o) : Glo mg mb h' := ⟨G.g.keeps hk, G.b.keeps hk, G.nolimit.keeps hk⟩

section
variable {prog : Program} {w : World} {M : Model} {A : Around} {E : Value → Shared → Prop} {s : Shared} {h₀ : Heap} {L : Addr} {s₁ : Shared} {vs : List (Str × Value)} {news : List (Addr × Obj)}
  {name : Str} {scope : Scope} {a : Addr} {cd : Value} {x : Str} {pos : Pos} {v : Value} {mg mb : Str → Option Value} {env : Env}

theorem e_loc {Q : Value → Shared → Prop} (S : St h₀ L s₁ vs news s) (hx : (x, v) ∈ vs) (h : Q v s)
    (hk : scope.kind = .function := by rfl) (hl : (envOf name scope L a cd).kindOf x = some .local := by rfl) (hd : (x == ("__debug__" : Str)) = false := by decide) :
    wpAny M A (eval (.Name x pos) (envOf name scope L a cd)) Q E s := by
  obtain ⟨m, F, hm⟩ := S.fr
  exact ld F (hm _ hx) h hk hl hd
theorem e_locn {Q : Value → Shared → Prop} (S : St h₀ L s₁ vs news s) (hx : (x, v) ∈ vs) (h : Q v s)
    (hk : scope.kind = .function := by rfl) (hl : (envOf name scope L a cd).kindOf x = some .local := by rfl) :
    wpAny M A (loadName (envOf name scope L a cd) x) Q E s := by
  obtain ⟨m, F, hm⟩ := S.fr
  exact ldn F (hm _ hx) h hk hl
theorem e_blt {Q : Value → Shared → Prop} (S : St h₀ L s₁ vs news s) (G : Glo mg mb h₀) (hg : mg x = none ∧ mb x = some v) (h : Q v s)
    (hk : scope.kind = .function := by rfl) (hx : (envOf name scope L a cd).kindOf x = some .globalImplicit := by rfl) (hd : (x == ("__debug__" : Str)) = false := by decide) :
    wpAny M A (eval (.Name x pos) (envOf name scope L a cd)) Q E s := by
  obtain ⟨m, F, hm⟩ := S.fr
  exact ld_builtin_at F G.g hg.1 G.b hg.2 h hk hx hd
theorem e_glo {Q : Value → Shared → Prop} (S : St h₀ L s₁ vs news s) (G : Glo mg mb h₀) (hg : mg x = some v) (h : Q v s)
    (hk : scope.kind = .function := by rfl) (hx : (envOf name scope L a cd).kindOf x = some .globalImplicit := by rfl) (hd : (x == ("__debug__" : Str)) = false := by decide) :
    wpAny M A (eval (.Name x pos) (envOf name scope L a cd)) Q E s := by
  obtain ⟨m, F, hm⟩ := S.fr
  exact ld_global_at F G.g hg h hk hx hd
theorem e_int {i : Int} {k : Nat} {Q : Value → Shared → Prop} (S : St h₀ L s₁ vs news s) (h : ∀ t s', St h₀ L s₁ vs news s' → Q (.int i t) s') : wpAny M A (eval (.Constant (.int i) k pos) env) Q E s :=
  wpAny_Constant_int (h _ _ (S.tok _))
theorem e_byt {b : List UInt8} {k : Nat} {Q : Value → Shared → Prop} (S : St h₀ L s₁ vs news s) (h : ∀ t s', St h₀ L s₁ vs news s' → Q (.bytes b.toArray t) s') : wpAny M A (eval (.Constant (.bytes b) k pos) env) Q E s :=
  Constant_bytes (h _ _ (S.tok _))
theorem e_st {Q : Unit → Shared → Prop} (S : St h₀ L s₁ vs news s) (h : ∀ s', St h₀ L s₁ (upd x v vs) news s' → Q () s')
    (hk : scope.kind = .function := by rfl) (hl : (envOf name scope L a cd).kindOf x = some .local := by rfl) :
    wpAny M A (storeName (envOf name scope L a cd) x v) Q E s := by
  obtain ⟨m, F, hm⟩ := S.fr
  refine stN F S.nw (fun h' F' N' => h _ (S.of F' (fun p hp => ?_) N')) hk hl
  rcases mem_of_upd hp with rfl | ⟨h1, h2⟩
  · simp
  · simp only [h2, if_false]
    exact hm p h1
theorem o_add {i j : Int} {t u : Tok} {Q : Value → Shared → Prop} (S : St h₀ L s₁ vs news s) (h : ∀ t s', St h₀ L s₁ vs news s' → Q (.int (i + j) t) s') : wpAny (model prog w) A (binaryOp .Add (.int i t) (.int j u)) Q E s :=
  add_int (h _ _ (S.tok _))
theorem o_sub {i j : Int} {t u : Tok} {Q : Value → Shared → Prop} (S : St h₀ L s₁ vs news s) (h : ∀ t s', St h₀ L s₁ vs news s' → Q (.int (i - j) t) s') : wpAny (model prog w) A (binaryOp .Sub (.int i t) (.int j u)) Q E s :=
  sub_int (h _ _ (S.tok _))
theorem o_cat {b c : Array UInt8} {t u : Tok} {Q : Value → Shared → Prop} (S : St h₀ L s₁ vs news s) (hz : b.size + c.size ≤ 16777216) (h : ∀ t s', St h₀ L s₁ vs news s' → Q (.bytes (b ++ c) t) s') : wpAny (model prog w) A (binaryOp .Add (.bytes b t) (.bytes c u)) Q E s :=
  KBy.add_bytes hz fun t' k => h t' _ (S.tok k)
theorem c_len {b : Array UInt8} {t : Tok} {Q : Value → Shared → Prop} (S : St h₀ L s₁ vs news s) (hz : b.size ≤ 16777216) (h : ∀ t s', St h₀ L s₁ vs news s' → Q (.int (b.size : Nat) t) s') : wpAny (model prog w) A (call (.builtin "len") [.bytes b t]) Q E s :=
  len_bytes (Nat.le_trans hz (by decide)) (h _ _ (S.tok _))
theorem t_byt {b : Array UInt8} {t : Tok} {Q : Bool → Shared → Prop} (S : St h₀ L s₁ vs news s) (hz : b.size ≤ 16777216) (h : ∀ s', St h₀ L s₁ vs news s' → Q ((b.size : Int) != 0) s') : wpAny (model prog w) A (truthy (.bytes b t)) Q E s :=
  truthy_bytes (Nat.le_trans hz (by decide)) (h _ (S.tok _))
end
end Mine

end

section
open PySem PySem.W PyProof.Rows PySem.Calls
set_option maxRecDepth 100000
namespace Mine
namespace FP
theorem slot : Slot "bytes" "partition" "bytes.partition" :=
  .of (owner := "bytes") (n := "partition") (by rw [typeLookup_type, builtinLookup_eq_fast]; kernel_rfl) (by decide +kernel) (by decide +kernel) (by decide +kernel)
    (by first | exact .inl (by decide +kernel) | exact .inr (by decide +kernel)) (by rw [isSubtype_type]; kernel_rfl)
theorem ty : typeOf (.builtin "bytes.partition") = pure (.type "method_descriptor") := by show builtinType _ = _; rw [builtinType_eq_fast]; kernel_rfl
theorem entry : entryFor table "bytes.partition" = some Builtin.«bytes.partition» := entryFor_of_tree (by kernel_rfl)
theorem args (a b : Value) : argsOk "bytes.partition" ⟨[a, b], []⟩ := by
  unfold argsOk; rw [signature?_of (id := "bytes.partition") (n := ['n', 'o', 'i', 't', 'i', 't', 'r', 'a', 'p']) (o := ['s', 'e', 't', 'y', 'b']) (by kernel_rfl) FB.owner_bytes]; kernel_rfl
end FP
open Builtin

theorem extract_one (l : List UInt8) (i : Nat) (c : UInt8) : (l.toArray.extract i (i + 1) == #[c]) = (l[i]? == some c) := by
  rw [List.extract_toArray]
  have e : List.extract l i (i + 1) = l[i]?.toList := by
    rw [List.extract_eq_take_drop]
    have : i + 1 - i = 1 := by omega
    rw [this]
    cases h : l[i]? with
    | none => rw [List.getElem?_eq_none_iff] at h; rw [List.drop_of_length_le h]; rfl
    | some x =>
      obtain ⟨hi, rfl⟩ := List.getElem?_eq_some_iff.mp h
      rw [List.drop_eq_getElem_cons hi]; rfl
  rw [e]
  cases h : l[i]? with
  | none => rfl
  | some x => simp

/-- the first place of an octet: the list's own findIdx, none where it is the length -/
theorem find_one (l : List UInt8) (c : UInt8) : Bytes.find? l.toArray #[c] 0 l.toArray.size = if l.findIdx (· == c) < l.length then some (l.findIdx (· == c)) else none := by
  unfold Bytes.find?
  have hr : l.toArray.size + 1 - (0 + (#[c] : Array UInt8).size) = l.length := by simp
  rw [hr]
  simp only [Nat.add_zero, List.map_id']
  have hp : (fun i => l.toArray.extract i (i + (#[c] : Array UInt8).size) == #[c]) = fun i => l[i]? == some c := by
    funext i; exact extract_one l i c
  rw [hp]
  by_cases hlt : l.findIdx (· == c) < l.length
  · rw [if_pos hlt]
    rw [List.find?_range_eq_some]
    refine ⟨?_, ?_, ?_⟩
    · rw [List.getElem?_eq_getElem hlt]
      have := List.findIdx_getElem (w := hlt)
      simpa using this
    · simpa using hlt
    · intro j hj
      have h2 := List.not_of_lt_findIdx hj
      rw [List.getElem?_eq_getElem (by omega)]
      simpa using h2
  · rw [if_neg hlt]
    rw [List.find?_range_eq_none]
    intro i hi
    rw [List.getElem?_eq_getElem hi]
    have hlen : l.findIdx (· == c) = l.length := by have := List.findIdx_le_length (p := (· == c)) (xs := l); omega
    have := List.findIdx_eq_length.mp hlen l[i] (List.getElem_mem _)
    simpa using this

def tupObj (vs : List Value) : Obj := { cls := .type "tuple", data := .seq vs.toArray }
theorem selfOne {id : String} {a b : Value} : selfAndOne id ⟨[a, b], []⟩ = pure (a, b) := rfl
theorem ext_take (l : List UInt8) (i : Nat) : l.toArray.extract 0 i = (l.take i).toArray := by
  rw [List.extract_toArray, List.extract_eq_take_drop]; simp
theorem ext_drop (l : List UInt8) (i : Nat) : l.toArray.extract i l.toArray.size = (l.drop i).toArray := by
  rw [List.extract_toArray, List.extract_eq_take_drop]
  congr 1
  rw [List.take_of_length_le]
  simp
theorem partition_meets (l : List UInt8) (c : UInt8) (t u : Tok) :
    Meets («bytes.partition» ⟨[.bytes l.toArray t, .bytes #[c] u], []⟩) (fun _ R s => l.length ≤ 16777216 ∧
      if l.findIdx (· == c) < l.length then ∀ t1 t2 k, R (.ok (.ret (.ref s.heap.objs.size))) { s with heap := s.heap.push (tupObj [.bytes (l.take (l.findIdx (· == c))).toArray t1, .bytes #[c] u, .bytes (l.drop (l.findIdx (· == c) + 1)).toArray t2]), toks := k }
      else ∀ t1 k, R (.ok (.ret (.ref s.heap.objs.size))) { s with heap := s.heap.push (tupObj [.bytes l.toArray t, .bytes #[] t1, .bytes #[] t1]), toks := k }) := by
  refine .of_wp fun prog w A R s hS => ?_
  obtain ⟨hz, h⟩ := hS
  show wpAny _ _ (selfAndOne _ ⟨[.bytes l.toArray t, .bytes #[c] u], []⟩ >>= fun r => _) _ _ s
  refine wpAny_bind (wpAny_of_eq selfOne ?_)
  show wpAny _ _ (Bytes.buffer? _ (.bytes #[c] u) >>= fun r => _) _ _ s
  refine wpAny_bind (wpAny_of_eq KBy.buffer_eq ?_)
  refine bm_if_false rfl ?_
  show wpAny _ _ (Bytes.payload (.bytes l.toArray t) >>= fun r => _) _ _ s
  refine wpAny_bind (wpAny_of_eq (a := l.toArray) rfl ?_)
  show wpAny _ _ (match (if false = true then _ else Bytes.find? l.toArray #[c] 0 l.toArray.size) with | some i => _ | none => _) _ _ s
  rw [if_neg Bool.false_ne_true, find_one]
  by_cases hlt : l.findIdx (· == c) < l.length
  · rw [if_pos hlt] at h ⊢
    dsimp only
    have h1 : (l.take (l.findIdx (· == c))).toArray.size ≤ sizeLine := by rw [sizeLine_eq]; simp; omega
    have h2 : (l.drop (l.findIdx (· == c) + 1)).toArray.size ≤ sizeLine := by rw [sizeLine_eq]; simp; omega
    have e1 := ext_take l (l.findIdx (· == c))
    have e2 := ext_drop l (l.findIdx (· == c) + (#[c] : Array UInt8).size)
    refine bm_if_true rfl ?_
    rw [e1, e2]
    refine wpAny_bind (wpAny_pure ?_)
    refine wpAny_bind (wpAny_mkBytes ?_ h1)
    refine wpAny_bind (wpAny_mkBytes ?_ h2)
    refine wpAny_bind (wpAny_newObj_type ?_ (by show (_ : Nat) ≤ _; rw [sizeLine_eq]; simp))
    exact wpAny_pure ⟨_, rfl, h _ _ _⟩
  · rw [if_neg hlt] at h ⊢
    dsimp only
    refine wpAny_bind (wpAny_rule ?_)
    refine bm_if_true rfl ?_
    refine wpAny_bind (wpAny_pure ?_)
    refine wpAny_bind (wpAny_mkBytes (b := #[]) ?_ (by decide))
    refine bm_if_true rfl ?_
    refine wpAny_bind (wpAny_pure ?_)
    refine wpAny_bind (wpAny_newObj_type ?_ (by show (_ : Nat) ≤ _; rw [sizeLine_eq]; simp))
    exact wpAny_pure ⟨_, rfl, h _ _⟩

theorem starts_meets (l : List UInt8) (c : UInt8) (t u : Tok) :
    Meets («bytes.startswith» ⟨[.bytes l.toArray t, .bytes #[c] u], []⟩) (fun _ R s => R (.ok (.ret (.bool (l[0]? == some c)))) s) := by
  refine .of_wp fun prog w A R s h => ?_
  show wpAny _ _ (selfAndSome _ _ 1 3 ⟨[.bytes l.toArray t, .bytes #[c] u], []⟩ >>= fun r => _) _ _ s
  refine wpAny_bind (wpAny_of_eq (a := (Value.bytes l.toArray t, [Value.bytes #[c] u])) rfl ?_)
  refine wpAny_bind (wpAny_of_eq (a := none) rfl ?_)
  refine wpAny_bind (wpAny_of_eq (a := none) rfl ?_)
  show wpAny _ _ (Bytes.payload (.bytes l.toArray t) >>= fun r => _) _ _ s
  refine wpAny_bind (wpAny_of_eq (a := l.toArray) rfl ?_)
  show wpAny _ _ (isInstance (.bytes #[c] u) (.type "tuple") >>= fun r => _) _ _ s
  refine wpAny_bind (wpAny_isInstance (T := "bytes") (b := false) (typeIs_bytes s _ u) (by rw [isSubtype_type]; kernel_rfl) ?_)
  refine bm_if_false rfl ?_
  show wpAny _ _ (Bytes.buffer? _ (.bytes #[c] u) >>= fun r => _) _ _ s
  refine wpAny_bind (wpAny_of_eq KBy.buffer_eq ?_)
  refine wpAny_pure ⟨_, rfl, ?_⟩
  have key : ∀ b : Bool, b = (l[0]? == some c) → R (.ok (.ret (.bool b))) s := fun b hb => by rw [hb]; exact h
  refine key _ ?_
  show (if ((min ((l.toArray.size : Nat) : Int) (if ((l.toArray.size : Nat) : Int) < 0 then _ else ((l.toArray.size : Nat) : Int))) - (if (0 : Int) < 0 then _ else 0) < (((#[c] : Array UInt8).size : Nat) : Int)) then false else _) = _
  cases l with
  | nil => rfl
  | cons x r =>
    rw [if_neg (by simp; omega)]
    show ((x :: r).toArray.extract 0 (0 + 1) == #[c]) = _
    rw [extract_one]

section
variable {prog : Program} {w : World} {M : Model} {A : Around} {E : Value → Shared → Prop} {s : Shared} {h₀ : Heap} {L : Addr} {s₁ : Shared} {vs : List (Str × Value)} {news : List (Addr × Obj)}
theorem m_part {b : Array UInt8} {t : Tok} {pl : Sem Bool} {Q : Value × List Value → Shared → Prop} (h : Q (.builtin "bytes.partition", [.bytes b t]) s) : wpAny M A (getMethod (.bytes b t) "partition" pl) Q E s := by
  with_reducible exact KBd.method_of (.bytes b t) (typeIs_bytes _ _ _) FP.slot FP.ty KBd.noRef h
theorem m_starts {b : Array UInt8} {t : Tok} {pl : Sem Bool} {Q : Value × List Value → Shared → Prop} (h : Q (.builtin "bytes.startswith", [.bytes b t]) s) : wpAny M A (getMethod (.bytes b t) "startswith" pl) Q E s := by
  with_reducible exact KBd.method_of (.bytes b t) (typeIs_bytes _ _ _) FB.slot_bytes_startswith FB.type_bytes_startswith KBd.noRef h
theorem c_part {l : List UInt8} {c : UInt8} {t u : Tok} {Q : Value → Shared → Prop} (S : St h₀ L s₁ vs news s) (hz : l.length ≤ 16777216)
    (h1 : l.findIdx (· == c) < l.length → ∀ T t1 t2 s', St h₀ L s₁ vs ((T, tupObj [.bytes (l.take (l.findIdx (· == c))).toArray t1, .bytes #[c] u, .bytes (l.drop (l.findIdx (· == c) + 1)).toArray t2]) :: news) s' → Q (.ref T) s')
    (h2 : ¬ l.findIdx (· == c) < l.length → ∀ T t1 s', St h₀ L s₁ vs ((T, tupObj [.bytes l.toArray t, .bytes #[] t1, .bytes #[] t1]) :: news) s' → Q (.ref T) s') :
    wpAny (model prog w) A (call (.builtin "bytes.partition") [.bytes l.toArray t, .bytes #[c] u]) Q E s := by
  refine call_meets FP.slot (typeIs_bytes _ _ _) FP.entry (FP.args _ _) (partition_meets l c t u) ⟨hz, ?_⟩
  by_cases hlt : l.findIdx (· == c) < l.length
  · rw [if_pos hlt]
    exact fun t1 t2 k => h1 hlt _ t1 t2 _ ((S.push (tupObj _)).tok k)
  · rw [if_neg hlt]
    exact fun t1 k => h2 hlt _ t1 _ ((S.push (tupObj _)).tok k)
theorem c_starts {l : List UInt8} {c : UInt8} {t u : Tok} {Q : Value → Shared → Prop} (h : Q (.bool (l[0]? == some c)) s) :
    wpAny (model prog w) A (call (.builtin "bytes.startswith") [.bytes l.toArray t, .bytes #[c] u]) Q E s :=
  call_meets FB.slot_bytes_startswith (typeIs_bytes _ _ _) FB.entry_bytes_startswith (FB.args_bytes_startswith_2 _ _) (starts_meets l c t u) h
end

namespace FI
theorem no_iadd : typeLookup (.type "bytes") (dunderI "add") = pure none := by rw [typeLookup_type, builtinLookup_eq_fast]; kernel_rfl
end FI
section
variable {prog : Program} {w : World} {M : Model} {A : Around} {E : Value → Shared → Prop} {s : Shared} {h₀ : Heap} {L : Addr} {s₁ : Shared} {vs : List (Str × Value)} {news : List (Addr × Obj)} {env : Env}
theorem o_icat {b c : List UInt8} {t u : Tok} {Q : Value → Shared → Prop} (S : St h₀ L s₁ vs news s) (hz : b.length + c.length ≤ 16777216) (h : ∀ t s', St h₀ L s₁ vs news s' → Q (.bytes (b ++ c).toArray t) s') :
    wpAny (model prog w) A (inplaceOp .Add (.bytes b.toArray t) (.bytes c.toArray u)) Q E s := by
  refine wpAny_inplaceOp_concat (typeIs_bytes s _ t) (typeIs_bytes s _ u) FI.no_iadd KBy.noFill_bytes_add KBy.seq_bytes_add
    (call_gives FB.slot_bytes_add (typeIs_bytes s _ t) FB.entry_bytes_add (FB.args_bytes_add_2 _ _) (KBy.gives_bytes_add (KBy.tooLong_not (by simpa using hz))) ?_)
  by_cases hb : b.toArray.isEmpty = true
  · rw [if_pos hb]
    have e : b = [] := by simpa using hb
    subst e
    exact h u _ S
  · rw [if_neg hb]
    by_cases hc : c.toArray.isEmpty = true
    · rw [if_pos hc]
      have e : c = [] := by simpa using hc
      subst e
      have := h t _ S
      rw [List.append_nil] at this
      exact this
    · rw [if_neg hc]
      refine ⟨by rw [sizeLine_eq]; simpa using hz, ?_⟩
      rw [List.append_toArray]
      exact h _ _ (S.tok _)
theorem St.tup (S : St h₀ L s₁ vs news s) {T : Addr} {xs : List Value} (hm : (T, tupObj xs) ∈ news) : IsTup s.heap T xs.toArray := ⟨_, (S.nw _ hm).1, rfl, 0, rfl⟩
theorem St.ext (S : St h₀ L s₁ vs news s) {h' : Heap} (he : Heap.ExtBut s.heap.objs.size s.heap h') : St h₀ L s₁ vs news { s with heap := h' } := by
  obtain ⟨m, F, hm⟩ := S.fr
  exact ⟨S.gens, S.drawn, S.os, ⟨m, F.extBut he (Nat.le_refl _), hm⟩, S.nw.extBut he (Nat.le_refl _)⟩
theorem e_unp {elts : List Expr} {k : Nat} {pos : Pos} {T : Addr} {xs : List Value} {Q : Unit → Shared → Prop} (S : St h₀ L s₁ vs news s) (hm : (T, tupObj xs) ∈ news) (hh : A.handled = none)
    (h : ∀ s', St h₀ L s₁ vs news s' → wpAny (model prog w) A (assignInOrder ((assignEach elts env).map (·.2)) xs) Q E s')
    (hn : (assignEach elts env).length = xs.length := by rfl) (hstar : (assignEach elts env).findIdx? (·.1) = none := by rfl) :
    wpAny (model prog w) A (assign (.Tuple elts k pos) env (.ref T)) Q E s :=
  assign_Tuple_tuple hh (S.tup hm) (by rw [hn]; simp) hstar fun h' he => h _ (S.ext he)
end
end Mine

end

section
open PySem PySem.W PyProof.Rows PySem.Calls
set_option maxRecDepth 100000
namespace Mine

section
variable {prog : Program} {w : World} {M : Model} {A₀ A : Around} {E : Value → Shared → Prop} {s : Shared} {base h₀ : Heap} {L : Addr} {s₁ : Shared} {vs : List (Str × Value)} {news : List (Addr × Obj)}
  {mg mb : Str → Option Value} {env : Env} {outer : List Env} {pos : Pos} {f : Addr} {fo : Obj}

theorem St.old (S : St h₀ L s₁ vs news s) {b : Addr} {o : Obj} (h : h₀.get? b = some o) : s.heap.get? b = some o := by
  obtain ⟨m, F, _⟩ := S.fr
  exact F.keep b o h

/-- f(..), f a def of the text: the arguments, then the call -/
theorem k_fn {e : Expr} {rest : List Expr} {first : List Value} {fd : FuncData} {Q : Value → Shared → Prop} (hd : fo.data = .func fd)
    (h : wpAny M A (spliced (backTo pos (starEach (e :: rest) env))) (fun xs s' => s'.heap.get? f = some fo ∧ wpAny M A (call (.ref f) (first ++ xs)) Q E s') E s)
    (he : starEach (e :: rest) env = (false, eval e env) :: starEach rest env := by rfl) (hplain : (backTo pos (starEach rest env)).any (·.1) = false := by rfl) :
    wpAny M A (callWith pos (.ref f) first (backTo pos (starEach (e :: rest) env)) []) Q E s := by
  rw [he] at h ⊢
  refine callWith_of (P := fun h => h.get? f = some fo) (by show ((false || (backTo pos (starEach rest env)).any (·.1)) || false) = false; rw [hplain]; rfl) (fun h' ho => ?_) (evalArgs_plain h)
  refine ⟨.frame, .inl rfl, (Looks.ld (part := none) ho).andThen ?_⟩
  rw [hd]
  exact .now

/-- the call of a def of the text, its frame without cells -/
theorem c_fn {name qual : Str} {params : Arguments} {body : List Stmt} {scope : Scope} {cl : List (Str × Addr)} {dV kV doc pm cdv ct : Value} {an : Option Addr} {args : List Value} {binds : List (Str × Value)} {Q : Value → Shared → Prop}
    (B : Below A₀ base outer h₀) (S : St h₀ L s₁ vs news s) (G : Glo mg mb h₀) (hA : A.frames = some (env :: outer)) (hf : env.frame = some L) (hke : env.scope.kind = .function)
    (ho : h₀.get? f = some fo) (hd : fo.data = .func (fnX name qual params body scope cl dV kV doc pm an cdv ct)) (hcd : h₀.CodeRec cdv qual) (hroom : A.depth < recursionLimit)
    (hbind : bindArgs (fnX name qual params body scope cl dV kV doc pm an cdv ct) ⟨args, []⟩ = pure binds) (hloc : ∀ y ∈ binds, scope.names.lookup y.1 = some .local)
    (hlk : ∀ p ∈ binds, binds.reverse.lookup p.1 = some p.2)
    (h : ∀ g L' s', St g L' s₁ binds news s' → Below A base (env :: outer) g → Glo mg mb g → h₀.StaysIn g → (∀ p ∈ news, p.1 < L') →
      wpAny (model prog w) (A.deeper (envX qual scope L' f cdv cl)) (execs body (envX qual scope L' f cdv cl))
        (fun fl s'' => ∃ news', St g L' s₁ [] news' s'' ∧ (St h₀ L s₁ vs news' s'' → Q (match fl with | .ret v => v | _ => .none) s''))
        (fun e s'' => ∃ a news' hh cls xs, e = .ref a ∧ St g L' s₁ [] news' { s'' with heap := hh } ∧ Heap.MadeExcOf hh s''.heap a cls xs ∧
          ∀ h' t m, RaisedK base (env :: outer) a cls t xs news' h' → Fr h₀ L g m → (∀ p ∈ vs, m p.1 = some p.2) → g.UpToSlots h' → E (.ref a) { s'' with heap := h' }) s')
    (hcell : ∀ x ∈ scope.names, x.2 ≠ .cell) (hco : scope.isCoroutine = false := by rfl) (hgen : scope.isGenerator = false := by rfl) (hk : scope.kind = .function := by rfl)
    (hcl : cl = [] := by rfl) :
    wpAny (model prog w) A (call (.ref f) args) Q E s := by
  subst hcl
  obtain ⟨m, F, hm⟩ := S.fr
  refine wpAny_call (callX_plain B F S.nw G.nolimit hA hf hke (F.keep _ _ ho) hd (hcd.keeps F.keep) hroom (BindsTo.of_eq hbind) hloc (fun g L' h₁ Fg F' N' B' st hl => ?_) hcell hco hgen hk)
  have S' : St g L' s₁ binds news { heap := h₁, gens := s.gens, drawn := s.drawn, toks := s.toks + binds.length, os := s.os } := ⟨S.gens, S.drawn, S.os, ⟨_, F', hlk⟩, N'⟩
  refine wpAny_mono (h g L' _ S' B' (G.keeps st) st hl) (fun fl s'' hq => ?_) (fun e s'' he => ?_)
  · obtain ⟨news', S'', hq⟩ := hq
    obtain ⟨m', F'', _⟩ := S''.fr
    refine leaveK_ F'' S''.nw fun F3 N3 => ?_
    exact hq ⟨S''.gens, S''.drawn, S''.os, ⟨m, F3, hm⟩, N3⟩
  · obtain ⟨a, news', hh, cls, xs, rfl, S'', hx, he⟩ := he
    obtain ⟨m', F'', _⟩ := S''.fr
    refine leave_raiseK B' hx F'' S''.nw (fun h' t R' U' => ?_) hk
    exact he h' t m R' Fg hm U'
end
end Mine

end

section
open PySem PySem.W PyProof.Rows PySem.Calls
set_option maxRecDepth 100000
namespace Mine
def del (n : Str) (vs : List (Str × Value)) : List (Str × Value) := vs.filter fun p => !(p.1 == n)
theorem mem_del {n y : Str} {u : Value} {vs : List (Str × Value)} (h : (y == n) = false) (hm : (y, u) ∈ vs) : (y, u) ∈ del n vs := List.mem_filter.mpr ⟨hm, by simp [h]⟩

theorem eq_byt (A : Around) (s : Shared) (b c : List UInt8) (t u : Tok) : SeqAt.EqAt A s (.bytes b.toArray t) (.bytes c.toArray u) (b == c) := fun prog w E Q h => by
  unfold eqBool
  show wpAny _ _ (if (Value.bytes b.toArray t == Value.bytes c.toArray u) = true then _ else _) Q E s
  by_cases hab : (Value.bytes b.toArray t == Value.bytes c.toArray u) = true
  · rw [if_pos hab]
    have e : b.toArray = c.toArray := by have := eq_of_beq hab; injection this
    have e' : b = c := by simpa using congrArg Array.toList e
    subst e'
    exact wpAny_bind (wpAny_rule (wpAny_pure (by simpa using h)))
  · rw [if_neg hab]
    exact wpAny_bind (eq_bytes (wpAny_truthy_bool h))

section
variable {prog : Program} {w : World} {M : Model} {A₀ A : Around} {E : Value → Shared → Prop} {s : Shared} {h₀ : Heap} {L : Addr} {s₁ : Shared} {vs : List (Str × Value)} {news : List (Addr × Obj)}
  {name : Str} {scope : Scope} {a : Addr} {cd : Value} {n : Str} {pos np : Pos} {outer : List Env} {p : Program} {loose : List Str} {mg mb : Str → Option Value} {x : Str} {X T' : String}
  {b₀ : Stmt} {suite : List Stmt} {rest : List ExceptHandler}
theorem e_gone {Q : Unit → Shared → Prop} (S : St h₀ L s₁ vs news s) (h : ∀ s', St h₀ L s₁ (del n vs) news s' → Q () s')
    (hk : scope.kind = .function := by rfl) (hl : (envOf name scope L a cd).kindOf n = some .local := by rfl) :
    wpAny M A (do bindName (envOf name scope L a cd) n .none; unbindBehindTheSuite (envOf name scope L a cd) n pos) Q E s := by
  obtain ⟨m, F, hm⟩ := S.fr
  refine wpAny_nameGoes_keeps hl F.ns (by show (scope.kind == .class || (scope.kind == .module && L != mainGlobals)) = false; rw [hk]; rfl) fun h' v hn hs => h _ (S.of (F.set hn hs) (fun q hq => ?_) (S.nw.set hs))
  obtain ⟨h1, h2⟩ := List.mem_filter.mp hq
  have h3 : q.1 ≠ n := fun e => by rw [e] at h2; simp at h2
  simp only [h3, if_false]
  exact hm q h1

/-- the exception at hand: its object and the tuple of its arguments, both of the ledger -/
structure ExcIs (X : String) (e t : Addr) (xs : List Value) (oe ot : Obj) : Prop where
  cls : oe.cls = .type X
  data : ∃ ws, oe.data = .fields ws ∧ ws[0]? = some (.ref t)
  tcls : ot.cls = .type "tuple"
  tdata : ∃ k, ot.data = .seq xs.toArray k

theorem x_caught {e t : Addr} {xs : List Value} {g : Heap} {m : Str → Option Value} {Q : Flow → Shared → Prop} (K : Below A₀ h₀ outer h₀) (F : Fr h₀ L g m) (hm : ∀ q ∈ vs, m q.1 = some q.2) (U : g.UpToSlots s.heap)
    (R : RaisedK h₀ (envOf name scope L a cd :: outer) e (.type X) t xs news s.heap) (hs : s.gens = s₁.gens ∧ s.drawn = s₁.drawn ∧ s.os = s₁.os)
    (T : TopRead p loose mg mb h₀) (hv : bootBuiltins x = some (.type T'))
    (hexc : isSubtype (.type T') (.type "BaseException") = pure true) (hnt : isSubtype (.type ((Manifest.find? T').elim "type" fun y => y.metatype)) (.type "tuple") = pure false) (hsub : isSubtype (.type X) (.type T') = pure true)
    (h1 : x ∉ startupNames) (h2 : x ∉ loose) (h3 : x ∉ (recsOf p).map (·.name)) (h4 : x ∉ (litsOf p).map (·.1)) (h4c : x ∉ (clssOf p loose).map (·.name)) (hn : x ≠ "__name__")
    (k : ∀ s' oe ot, St h₀ L s₁ (upd n (.ref e) vs) ((e, oe) :: (t, ot) :: news) s' → ExcIs X e t xs oe ot →
      wpAny (model prog w) ((A₀.deeper (envOf name scope L a cd)).mark (some (.ref e))) (execs (b₀ :: suite) (envOf name scope L a cd))
        (fun f s₄ => wpAny (model prog w) (A₀.deeper (envOf name scope L a cd)) (do bindName (envOf name scope L a cd) n .none; unbindBehindTheSuite (envOf name scope L a cd) n pos) (fun _ s₅ => Q f s₅) E s₄)
        (AsSuiteRaised (model prog w) ((A₀.deeper (envOf name scope L a cd)).mark (some (.ref e))) (envOf name scope L a cd) n pos (notedBy (model prog w) ((A₀.deeper (envOf name scope L a cd)).mark (some (.ref e))) (envOf name scope L a cd) (cameBackBy (model prog w) (A₀.deeper (envOf name scope L a cd)) (envOf name scope L a cd) E)))
        s')
    (hk : scope.kind = .function := by rfl) (hlo : (envOf name scope L a cd).kindOf n = some .local := by rfl) (hx : (envOf name scope L a cd).kindOf x = some .globalImplicit := by rfl) (hd : (x == ("__debug__" : Str)) = false := by decide) :
    wpAny (model prog w) (A₀.deeper (envOf name scope L a cd)) (noteFrame (.ref e) (envOf name scope L a cd))
      (fun _ s₂ => wpAny (model prog w) (A₀.deeper (envOf name scope L a cd)) (setFlight (.ref e) none) (fun _ s₃ =>
        wpAny (model prog w) (A₀.deeper (envOf name scope L a cd)) (handleBy (.ref e) (envOf name scope L a cd) (.ExceptHandler (some (.Name x np)) (some n) (b₀ :: suite) pos :: rest)) Q E s₃) E s₂) E s := by
  refine caught_KB K F U R T hv hexc hnt hsub (fun h' n₂ tk F' N₂ G' N' => ?_) h1 h2 h3 h4 h4c hn hk hlo hx hd
  obtain ⟨oe, ot, ws, nt, m1, m2, c1, d1, w0, c2, d2⟩ := G'
  refine k _ oe ot ⟨hs.1, hs.2.1, hs.2.2, ⟨_, F', fun q hq => ?_⟩, ?_⟩ ⟨c1, ⟨ws, d1, w0⟩, c2, nt, d2⟩
  · rcases mem_of_upd hq with rfl | ⟨q1, q2⟩
    · simp
    · simp only [q2, if_false]
      exact hm q q1
  · intro q hq
    rcases List.mem_cons.mp hq with rfl | hq
    · exact N₂ _ m1
    · rcases List.mem_cons.mp hq with rfl | hq
      · exact N₂ _ m2
      · exact N' q hq

theorem a_args {e t : Addr} {oe ot : Obj} {xs : List Value} {expr : Bool} {Q : Value → Shared → Prop} (FX : ExcAttrFacts X) (S : St h₀ L s₁ vs news s) (he : (e, oe) ∈ news) (x : ExcIs X e t xs oe ot) (h : ∀ s', St h₀ L s₁ vs news s' → Q (.ref t) s') :
    wpAny (model prog w) A (getAttr (.ref e) "args" expr) Q E s := by
  obtain ⟨ws, hd, h0⟩ := x.data
  obtain ⟨hp, g, d, tk, o⟩ := s
  exact args_attr FX (S.nw _ he).1 x.cls hd h0 (h _ (S.tok _))
theorem t_type {e : Addr} {oe : Obj} {C : Value} {Q : Value → Shared → Prop} (S : St h₀ L s₁ vs news s) (he : (e, oe) ∈ news) (hc : oe.cls = C) (hne : (C == .type "builtin_function_or_method") = false) (h : Q C s) :
    wpAny (model prog w) A (call (.type "type") [.ref e]) Q E s := by
  obtain ⟨hp, g, d, tk, o⟩ := s
  exact call_type_obj (S.nw _ he).1 (by rw [hc]; exact hne) (by rw [hc]; exact h)
theorem t_typeB {b : Array UInt8} {t : Tok} {Q : Value → Shared → Prop} (h : Q (.type "bytes") s) : wpAny (model prog w) A (call (.type "type") [.bytes b t]) Q E s := by
  obtain ⟨hp, g, d, tk, o⟩ := s
  refine wpAny_call (codeAny_of_tree ?_)
  show wpAny _ _ (callAny (.type "type") ⟨[.bytes b t], []⟩) _ _ _
  simp only [callAny]
  refine wpAny_pure ⟨Code.quiet_builtin _ (by decide +kernel), codeAny_builtin entry_type_call ?_⟩
  unfold Builtin.«type.__call__»
  dsimp only
  unfold shownTypeOf
  repeat wp_step
  exact h
theorem St.tupE (S : St h₀ L s₁ vs news s) {t e : Addr} {xs : List Value} {oe ot : Obj} (hm : (t, ot) ∈ news) (x : ExcIs X e t xs oe ot) : IsTup s.heap t xs.toArray := by
  obtain ⟨k, hk⟩ := x.tdata
  exact ⟨ot, (S.nw _ hm).1, x.tcls, k, hk⟩
/-- two tuples of one octet string each: != -/
theorem o_ne1 {l m : Addr} {b c : List UInt8} {t u : Tok} {Q : Value → Shared → Prop} (hu : A.units < cLine) (hl : IsTup s.heap l [Value.bytes b.toArray t].toArray) (hm : IsTup s.heap m [Value.bytes c.toArray u].toArray)
    (h : Q (.bool (!(b == c))) s) : wpAny (model prog w) A (compareOp .NotEq (.ref l) (.ref m)) Q E s := by
  refine SeqAt.RcNeAt.tuples (e := fun _ => b == c) hl hm hu (fun j h1 h2 => ?_) prog w E Q ?_
  · have : j = 0 := by simpa using h1
    subst this
    exact eq_byt _ _ b c t u
  · simpa [List.range_succ] using h
end
end Mine

end

section
open PySem PySem.W PyProof.Rows PySem.Calls
set_option maxRecDepth 100000
namespace Mine
section
variable {prog : Program} {w : World} {M : Model} {A : Around} {E : Value → Shared → Prop} {s : Shared} {h₀ : Heap} {L : Addr} {s₁ : Shared} {vs : List (Str × Value)} {news : List (Addr × Obj)} {env : Env} {pos : Pos}
theorem e_bool {b : Bool} {k : Nat} {Q : Value → Shared → Prop} (h : Q (.bool b) s) : wpAny M A (eval (.Constant (.bool b) k pos) env) Q E s := fun _ _ _ => h
theorem clip_nn {n : Nat} {i : Int} (h : 0 ≤ i) : clipAt n i = min i.toNat n := by
  obtain ⟨k, rfl⟩ := Int.eq_ofNat_of_zero_le h
  rw [clipAt_nat]; simp
theorem pick_hi (l : List UInt8) {i : Int} (h : 0 ≤ i) : KBy.picked l.toArray none (some i) = (l.take i.toNat).toArray := by
  rw [KBc.picked_eq]
  simp only [Option.elim, List.drop_zero, Nat.sub_zero, clip_nn h]
  congr 1
  simp only [List.size_toArray]
  rcases Nat.le_total i.toNat l.length with h1 | h1
  · rw [Nat.min_eq_left h1]
  · rw [Nat.min_eq_right h1, List.take_of_length_le h1, List.take_of_length_le (Nat.le_refl _)]
theorem pick_lo (l : List UInt8) {i : Int} (h : 0 ≤ i) : KBy.picked l.toArray (some i) none = (l.drop i.toNat).toArray := by
  rw [KBc.picked_eq]
  simp only [Option.elim, clip_nn h]
  congr 1
  simp only [List.size_toArray]
  rcases Nat.le_total i.toNat l.length with h1 | h1
  · rw [Nat.min_eq_left h1, List.take_of_length_le (by simp)]
  · rw [Nat.min_eq_right h1, List.drop_of_length_le h1, List.drop_of_length_le (Nat.le_refl _)]; simp
theorem pick_both (l : List UInt8) {i j : Int} (h : 0 ≤ i) (h' : 0 ≤ j) : KBy.picked l.toArray (some i) (some j) = ((l.drop i.toNat).take (j.toNat - i.toNat)).toArray := by
  rw [KBc.picked_eq]
  simp only [Option.elim, clip_nn h, clip_nn h']
  congr 1
  simp only [List.size_toArray]
  rcases Nat.le_total i.toNat l.length with h1 | h1
  · rw [Nat.min_eq_left h1]
    rcases Nat.le_total j.toNat l.length with h2 | h2
    · rw [Nat.min_eq_left h2]
    · rw [Nat.min_eq_right h2, List.take_of_length_le (by simp), List.take_of_length_le (by simp; omega)]
  · rw [Nat.min_eq_right h1, List.drop_of_length_le h1, List.drop_of_length_le (Nat.le_refl _)]; simp
theorem s_cut {value slice : Expr} {l : List UInt8} {t : Tok} {lv uv : Value} {lo hi : Option Int} {Q : Value → Shared → Prop} (S : St h₀ L s₁ vs news s) (hl : IsPart lv lo) (hu : IsPart uv hi) (hz : l.length ≤ 16777216)
    (h : ∀ t s', St h₀ L s₁ vs news s' → Q (.bytes (KBy.picked l.toArray lo hi) t) s')
    (hs : subscripted slice false (.bytes l.toArray t) (.ref s.heap.objs.size) = operate [.ref s.heap.objs.size, .bytes l.toArray t] (getItem (.bytes l.toArray t) (.ref s.heap.objs.size)) := by with_unfolding_all rfl)
    (ht : ∀ r, letTemporaryGo value (.bytes l.toArray t) r = pure () := by intro _; with_unfolding_all rfl) :
    wpAny (model prog w) A (subscriptTail value slice (.bytes l.toArray t) (.ref s.heap.objs.size)) Q E { s with heap := s.heap.push { cls := .type "slice", data := .fields #[lv, uv, .none] } } := by
  obtain ⟨m, F, hm⟩ := S.fr
  refine KBc.slice_K (ks := KBw.bInts l.toArray) F S.nw rfl hl hu (by rw [KBw.ints_length]; simpa using hz) (fun h' t' k F' N' _ => h t' _ (S.of F' hm N')) hs ht
theorem s_item {value slice : Expr} {l : List UInt8} {t ui : Tok} {i : Int} {Q : Value → Shared → Prop} (S : St h₀ L s₁ vs news s) (hz : l.length ≤ 16777216) (h0 : 0 ≤ i) (h1 : i < (l.length : Int)) (h : ∀ t s', St h₀ L s₁ vs news s' → Q (.int (l.getD i.toNat 0).toNat t) s')
    (hs : subscripted slice false (.bytes l.toArray t) (.int i ui) = operate [.bytes l.toArray t, .int i ui] (getItem (.bytes l.toArray t) (.int i ui)) := by with_unfolding_all rfl)
    (ht : ∀ r, letTemporaryGo value (.bytes l.toArray t) r = pure () := by intro _; with_unfolding_all rfl) :
    wpAny (model prog w) A (subscriptTail value slice (.bytes l.toArray t) (.int i ui)) Q E s :=
  KBy.item_N (Nat.le_trans hz (by decide)) h0 h1 (h _ _ (S.tok _)) hs ht
theorem e_tup {vals : List Value} {Q : Value → Shared → Prop} (S : St h₀ L s₁ vs news s) (hz : vals.length ≤ 1000) (h : ∀ T s', St h₀ L s₁ vs ((T, tupObj vals) :: news) s' → (∀ p ∈ news, p.1 < T) → Q (.ref T) s') : wpAny M A (newTuple vals) Q E s :=
  wpAny_newObj_type (h _ _ (S.push (tupObj vals)) S.lt) (by show vals.toArray.size ≤ sizeLine; rw [List.size_toArray, sizeLine_eq]; omega)
end
end Mine

end

section
open PySem PySem.W PyProof.Rows PySem.Calls
set_option maxRecDepth 100000
namespace Mine
section
variable {prog : Program} {w : World} {A : Around} {E : Value → Shared → Prop} {s : Shared} {h₀ : Heap} {s₁ : Shared} {vs : List (Str × Value)} {news : List (Addr × Obj)} {env : Env}

/-- what a turn leaves -/
def TurnEnd (h₀ : Heap) (L : Addr) (s₁ : Shared) (Jn : List (Str × Value) → List (Addr × Obj) → Prop) (adr : List Addr) (own : List (Addr × Obj)) (Q : Flow → Shared → Prop) (f : Flow) (s : Shared) : Prop :=
  match f with
  | .ret v => Q (.ret v) s
  | .brk => Q .next s
  | _ => ∃ vs₂ news₂, Jn vs₂ news₂ ∧ news₂.map (·.1) = adr ∧ St h₀ L s₁ vs₂ (news₂ ++ own) s

theorem loop_St {target : Expr} {body : List Stmt} {I : Addr} {fp wr : List Addr} {n : Nat} {P : Nat → Value → Prop} {Sw : Nat → Heap → Prop} {Q : Flow → Shared → Prop} (W : Walks prog w A I fp wr n P Sw)
    (hLf : env.locals ∉ fp) (hwr : ∀ b ∈ wr, h₀.get? b = none) (hnw : ∀ p ∈ news, p.1 ∉ wr) (hst : Sw 0 s.heap) (S : St h₀ env.locals s₁ vs news s)
    (J : Nat → List (Str × Value) → List (Addr × Obj) → Prop) (h0 : J 0 vs news)
    (turn : ∀ i v vs₁ news₁ s' own, i < n → P i v → J i vs₁ news₁ → news₁.map (·.1) = news.map (·.1) → (∀ p ∈ own, p.1 ∈ fp) → Sw (i + 1) s'.heap → St h₀ env.locals s₁ vs₁ (news₁ ++ own) s' →
      wpAny (model prog w) A (letOwnedTupleGo target (.ref I) v) (fun _ s₂ => wpAny (model prog w) A (assign target env v) (fun _ s₃ =>
        wpAny (model prog w) A (execs body env) (TurnEnd h₀ env.locals s₁ (J (i + 1)) (news.map (·.1)) own Q) E s₃) E s₂) E s')
    (done : ∀ vs₁ news₁ s', J n vs₁ news₁ → news₁.map (·.1) = news.map (·.1) → St h₀ env.locals s₁ vs₁ news₁ s' → Q .next s')
    (hE : PassesOwn (model prog w) A env E) :
    codeAny (model prog w) A (.forLoop target (.ref I) body [] env) (fun r s' => match r with | .ok f => Q f s' | .error e => cameBackBy (model prog w) A env E e s') s := by
  have hLw : env.locals ∉ wr := fun h => hLf (W.sub _ h)
  have old : ∀ b o, h₀.get? b = some o → b ∉ wr := fun b o e hb => by rw [hwr b hb] at e; cases e
  have adr : ∀ news₁ : List (Addr × Obj), news₁.map (·.1) = news.map (·.1) → ∀ p ∈ news₁, p.1 ∉ wr := fun news₁ e p hp => by
    have : p.1 ∈ news₁.map (·.1) := List.mem_map.mpr ⟨p, hp, rfl⟩
    rw [e] at this
    obtain ⟨q, hq, hqe⟩ := List.mem_map.mp this
    rw [← hqe]; exact hnw q hq
  refine codeAny_forLoop_any (fun k s' => ∃ vs₁ news₁ i, Sw i s'.heap ∧ St h₀ env.locals s₁ vs₁ news₁ s' ∧ news₁.map (·.1) = news.map (·.1) ∧ J i vs₁ news₁ ∧ i ≤ n ∧ k = n + 1 - i) ?_ (n + 1) ⟨vs, news, 0, hst, S, rfl, h0, Nat.zero_le _, rfl⟩
  rintro k s' ⟨vs₁, news₁, i, hst', S', ha, hJ, hi, rfl⟩
  have next : ∀ (h₁ : Heap) (tk : Nat), (∀ b o, b ∉ wr → s'.heap.get? b = some o → h₁.get? b = some o) → St h₀ env.locals s₁ vs₁ news₁ { s' with heap := h₁, toks := tk } := fun h₁ tk hk₁ => by
    obtain ⟨m, F, hm⟩ := S'.fr
    exact S'.of ⟨F.ns.at' fun o e => hk₁ _ o hLw e, fun b o e => hk₁ b o (old b o e) (F.keep b o e), F.above⟩ hm fun p hp => ⟨hk₁ _ _ (adr _ ha p hp) (S'.nw p hp).1, (S'.nw p hp).2⟩
  by_cases hlt : i < n
  · refine W.item i _ _ _ hlt hst' fun v h₁ tk₁ hP hst₁ hk₁ => ?_
    have S₁ := next h₁ tk₁ hk₁
    have Nown : News h₀ env.locals h₁ (ownOf h₀ fp h₁) := news_ownOf hLf
    have S₂ : St h₀ env.locals s₁ vs₁ (news₁ ++ ownOf h₀ fp h₁) { s' with heap := h₁, toks := tk₁ } := ⟨S₁.gens, S₁.drawn, S₁.os, S₁.fr, fun p hp => (List.mem_append.mp hp).elim (S₁.nw p) (Nown p)⟩
    have fin : ∀ (s₃ : Shared) (vs₂ : List (Str × Value)) (news₂ : List (Addr × Obj)), J (i + 1) vs₂ news₂ → news₂.map (·.1) = news.map (·.1) → St h₀ env.locals s₁ vs₂ (news₂ ++ ownOf h₀ fp h₁) s₃ →
        ∃ m, m < n + 1 - i ∧ ∃ vs₁ news₁ i, Sw i s₃.heap ∧ St h₀ env.locals s₁ vs₁ news₁ s₃ ∧ news₁.map (·.1) = news.map (·.1) ∧ J i vs₁ news₁ ∧ i ≤ n ∧ m = n + 1 - i := fun s₃ vs₂ news₂ hJ₂ ha₂ S₃ => by
      refine ⟨n + 1 - (i + 1), by omega, vs₂, news₂, i + 1, ?_, S₃.weak (fun _ h => h) (fun p hp => List.mem_append_left _ hp), ha₂, hJ₂, hlt, rfl⟩
      refine W.frame _ _ _ hst₁ fun b hb o e => ?_
      obtain ⟨m, F, hm⟩ := S₂.fr
      obtain ⟨m₃, F₃, _⟩ := S₃.fr
      cases hn : h₀.get? b with
      | some o₀ =>
        have : o₀ = o := by have := F.keep b o₀ hn; rw [e] at this; exact (Option.some.inj this).symm
        exact this ▸ F₃.keep b o₀ hn
      | none => exact (S₃.nw _ (List.mem_append_right _ (mem_ownOf hb hn e))).1
    refine wpAny_passesOwn hE (wpAny_mono (turn i v vs₁ news₁ _ _ hlt hP hJ ha ownOf_sub hst₁ S₂) (fun _ s₂ h₂ => ?_) fun _ _ e => e)
    refine wpAny_passesOwn hE (wpAny_mono h₂ (fun _ s₃ h₃ => ?_) fun _ _ e => e)
    refine wpAny_passesOwn hE (wpAny_mono h₃ (fun f s₄ h₄ => ?_) fun _ _ e => e)
    cases f with
    | ret v => exact h₄
    | brk => exact h₄
    | next => obtain ⟨vs₂, news₂, hJ₂, ha₂, S₃⟩ := h₄; exact fin _ _ _ hJ₂ ha₂ S₃
    | cont => obtain ⟨vs₂, news₂, hJ₂, ha₂, S₃⟩ := h₄; exact fin _ _ _ hJ₂ ha₂ S₃
  · have hin : i = n := by omega
    subst hin
    refine W.done _ _ _ hst' fun h₁ tk₁ hk₁ => wpAny_execs_nil ?_
    exact done vs₁ news₁ _ hJ ha (next h₁ tk₁ hk₁)
end

section
variable {prog : Program} {w : World} {A : Around} {E : Value → Shared → Prop} {s : Shared} {h₀ : Heap} {L : Addr} {s₁ : Shared} {vs : List (Str × Value)} {news : List (Addr × Obj)} {name : Str} {scope : Scope} {a : Addr} {cd : Value} {x : Str} {px : Pos} {body : List Stmt} {Q : Flow → Shared → Prop}
theorem St.freshAt (S : St h₀ L s₁ vs news s) : h₀.get? s.heap.objs.size = none := by
  obtain ⟨m, F, _⟩ := S.fr
  exact next_is_new F
theorem St.Llt (S : St h₀ L s₁ vs news s) : L < s.heap.objs.size := by
  obtain ⟨m, F, _⟩ := S.fr
  exact F.ns.lt

/-- for x in range(..): by what holds between the turns -/
theorem loop_range {r : Addr} {a₀ b₀ c₀ : Int} {t₀ u₀ v₀ : Tok} {n : Nat} (hh : A.handled = none) (hr : IsRange s.heap r a₀ b₀ c₀ t₀ u₀ v₀) (hsmall : Builtin.Range.small a₀ b₀ c₀ = true) (hn : Builtin.Range.rangeSize a₀ b₀ c₀ = (n : Int))
    (S : St h₀ L s₁ vs news s) (J : Nat → List (Str × Value) → List (Addr × Obj) → Prop) (h0 : J 0 vs news)
    (turn : ∀ i t vs₁ news₁ s' own, i < n → J i vs₁ news₁ → news₁.map (·.1) = news.map (·.1) → (∀ p ∈ own, ∀ q ∈ news, p.1 ≠ q.1) → St h₀ L s₁ (upd x (.int (a₀ + i * c₀) t) vs₁) (news₁ ++ own) s' →
      wpAny (model prog w) A (execs body (envOf name scope L a cd)) (TurnEnd h₀ L s₁ (J (i + 1)) (news.map (·.1)) own Q) E s')
    (done : ∀ vs₁ news₁ s', J n vs₁ news₁ → news₁.map (·.1) = news.map (·.1) → St h₀ L s₁ vs₁ news₁ s' → Q .next s')
    (hE : PassesOwn (model prog w) A (envOf name scope L a cd) E) (hk : scope.kind = .function := by rfl) (hl : (envOf name scope L a cd).kindOf x = some .local := by rfl) :
    wpAny (model prog w) A (pyIter (.ref r)) (fun it s₂ => codeAny (model prog w) A (.forLoop (.Name x px) it body [] (envOf name scope L a cd)) (fun r s' => match r with | .ok f => Q f s' | .error e => cameBackBy (model prog w) A (envOf name scope L a cd) E e s') s₂) E s := by
  refine wpAny_pyIter_range hr hsmall ?_
  have W : Walks prog w A s.heap.objs.size [s.heap.objs.size] [s.heap.objs.size] n (fun i v => ∃ t, v = .int (a₀ + i * c₀) t) (fun i h => IsRangeIter h s.heap.objs.size (a₀ + (i : Nat) * c₀) ((n : Int) - (i : Nat)) c₀) := Walks.range hh _ a₀ c₀ n
  have Sp := S.push { cls := .type "range_iterator", data := .fields #[rawInt a₀, rawInt (Builtin.Range.rangeSize a₀ b₀ c₀), rawInt c₀] }
  refine loop_St (env := envOf name scope L a cd) W ?_ ?_ (fun p hp hI => ?_) (by show IsRangeIter _ _ _ _ _; rw [hn]; simpa using Heap.get?_push_size _ rfl) (Sp.weak (fun _ h => h) (fun p hp => .tail _ hp)) J h0 ?_ done hE
  · intro hm
    exact absurd S.Llt ((List.mem_singleton.mp hm) ▸ Nat.lt_irrefl _)
  · intro b hb
    rw [List.mem_singleton.mp hb]
    exact S.freshAt
  · exact absurd (S.lt p hp) ((List.mem_singleton.mp hI) ▸ Nat.lt_irrefl _)
  · rintro i v vs₁ news₁ s' own hi ⟨t, rfl⟩ hJ ha hown _ S'
    refine wpAny_pure (wpAny_assign_Name (e_st S' (fun s₂ S₂ => ?_) hk hl))
    refine turn i t vs₁ news₁ s₂ own hi hJ ha (fun p hp q hq e => ?_) S₂
    have h1 := List.mem_singleton.mp (hown p hp)
    exact absurd (S.lt q hq) (by rw [← e, h1]; exact Nat.lt_irrefl _)

/-- for x in a tuple of the ledger; the target any -/
theorem loop_tup {target : Expr} {T : Addr} {xs : List Value} (hh : A.handled = none) (hT : (T, tupObj xs) ∈ news) (S : St h₀ L s₁ vs news s) (J : Nat → List (Str × Value) → List (Addr × Obj) → Prop) (h0 : J 0 vs news)
    (turn : ∀ i v vs₁ news₁ s' own, xs[i]? = some v → J i vs₁ news₁ → news₁.map (·.1) = news.map (·.1) → (∀ p ∈ own, p.1 = T ∨ ∀ q ∈ news, p.1 ≠ q.1) → St h₀ L s₁ vs₁ (news₁ ++ own) s' →
      wpAny (model prog w) A (assign target (envOf name scope L a cd) v) (fun _ s₃ => wpAny (model prog w) A (execs body (envOf name scope L a cd)) (TurnEnd h₀ L s₁ (J (i + 1)) (news.map (·.1)) own Q) E s₃) E s')
    (done : ∀ vs₁ news₁ s', J xs.length vs₁ news₁ → news₁.map (·.1) = news.map (·.1) → St h₀ L s₁ vs₁ news₁ s' → Q .next s')
    (hE : PassesOwn (model prog w) A (envOf name scope L a cd) E) :
    wpAny (model prog w) A (pyIter (.ref T)) (fun it s₂ => codeAny (model prog w) A (.forLoop target it body [] (envOf name scope L a cd)) (fun r s' => match r with | .ok f => Q f s' | .error e => cameBackBy (model prog w) A (envOf name scope L a cd) E e s') s₂) E s := by
  have ht : s.heap.IsTuple T xs.toArray := S.tup hT
  have hne : T ≠ s.heap.objs.size := Nat.ne_of_lt (S.lt _ hT)
  refine wpAny_pyIter_tuple ht ?_
  have W := Walks.tuple (prog := prog) (w := w) hh s.heap.objs.size T hne xs.toArray
  have Sp := S.push { cls := .type "tuple_iterator", data := .fields #[.ref T, .int 0 0] }
  have hLT : L ≠ T := fun e => (S.nw _ hT).2.1 e.symm
  refine loop_St (env := envOf name scope L a cd) W ?_ ?_ (fun p hp hI => ?_) ⟨⟨_, Heap.get?_push_size _ rfl, rfl, rfl⟩, ht.at fun o e => Heap.get?_push_of_some _ e⟩ (Sp.weak (fun _ h => h) (fun p hp => .tail _ hp)) J h0 ?_ (fun vs₁ news₁ s' hJ => done vs₁ news₁ s' (by simpa using hJ)) hE
  · intro hm
    rcases List.mem_cons.mp hm with e | hm
    · exact absurd S.Llt (by rw [show L = s.heap.objs.size from e]; exact Nat.lt_irrefl _)
    · exact hLT (List.mem_singleton.mp hm)
  · intro b hb
    rw [List.mem_singleton.mp hb]
    exact S.freshAt
  · exact absurd (S.lt p hp) ((List.mem_singleton.mp hI) ▸ Nat.lt_irrefl _)
  · intro i v vs₁ news₁ s' own hi hP hJ ha hown hsw S'
    have hgo : ∀ {R : Unit → Shared → Prop}, R () s' → wpAny (model prog w) A (letOwnedTupleGo target (.ref s.heap.objs.size) v) R E s' := fun {R} hR => by
      obtain ⟨oi, hoi, hci, hdi⟩ := hsw.1
      unfold letOwnedTupleGo
      split
      · cases v <;> first
          | exact wpAny_pure hR
          | (refine wpAny_bind (wpAny_load hoi ?_); rw [hci, hdi]; exact wpAny_pure hR)
      · cases v <;> first
          | exact wpAny_pure hR
          | (refine wpAny_bind (wpAny_load hoi ?_); rw [hci, hdi]; exact wpAny_pure hR)
      · exact wpAny_pure hR
    refine hgo (turn i v vs₁ news₁ s' own (by simpa using hP) hJ ha (fun p hp => ?_) S')
    rcases List.mem_cons.mp (hown p hp) with h1 | h1
    · exact .inr fun q hq e => absurd (S.lt q hq) (by rw [← e, h1]; exact Nat.lt_irrefl _)
    · exact .inl (List.mem_singleton.mp h1)
end
end Mine

end

section
open PySem PySem.W PyProof.Rows PySem.Calls
set_option maxRecDepth 100000
namespace Mine
section
variable {prog : Program} {w : World} {M : Model} {A : Around} {E : Value → Shared → Prop} {s : Shared} {h₀ : Heap} {L : Addr} {s₁ : Shared} {vs : List (Str × Value)} {news : List (Addr × Obj)}
theorem St.lst (S : St h₀ L s₁ vs news s) {l : Addr} {xs : List Value} {c : Nat} (hm : (l, listOf xs.toArray c) ∈ news) : s.heap.IsList l xs.toArray := ⟨_, (S.nw _ hm).1, rfl, c, rfl⟩
theorem s_litem {value slice : Expr} {l : Addr} {xs : List Value} {k : Int} {u : Tok} {v : Value} {Q : Value → Shared → Prop} (hl : s.heap.IsList l xs.toArray) (h0 : 0 ≤ k) (hhi : k < 2 ^ 63) (hx : xs[k.toNat]? = some v) (h : Q v s)
    (hs : subscripted slice false (.ref l) (.int k u) = operate [.ref l, .int k u] (getItem (.ref l) (.int k u)) := by with_unfolding_all rfl) :
    wpAny (model prog w) A (subscriptTail value slice (.ref l) (.int k u)) Q E s :=
  tail_any hl.typeIs slot_list_getitem.lookup (wpAny_getItem_list hl h0 hhi (by simpa using hx) h) hs

theorem c_range1 {n : Int} {t : Tok} {Q : Value → Shared → Prop} (S : St h₀ L s₁ vs news s) (h : ∀ r t₀ u₀ v₀ s', St h₀ L s₁ vs news s' → IsRange s'.heap r 0 n 1 t₀ u₀ v₀ → Q (.ref r) s') : wpAny (model prog w) A (call (.type "range") [.int n t]) Q E s :=
  call_range_1 (h _ _ _ _ _ (((S.push _).weak (fun _ h => h) (fun _ hp => .tail _ hp)).tok _) (IsRange.new _ _ _ _ _ _ _))
theorem c_range3 {x y c : Int} {t u v : Tok} {Q : Value → Shared → Prop} (S : St h₀ L s₁ vs news s) (hc : c ≠ 0) (hp : c.natAbs < 1073741824) (h : ∀ r t₀ u₀ v₀ s', St h₀ L s₁ vs news s' → IsRange s'.heap r x y c t₀ u₀ v₀ → Q (.ref r) s') :
    wpAny (model prog w) A (call (.type "range") [.int x t, .int y u, .int c v]) Q E s :=
  call_range_3 hc (h _ _ _ _ _ ((S.push _).weak (fun _ h => h) (fun _ hp => .tail _ hp)) (IsRange.new _ _ _ _ _ _ _)) (.inl (PyProof.noPylong_small (by omega)))
theorem s_set {D : Addr} {xs : List Value} {c : Nat} {ns : List Int} {k i : Int} {t u : Tok} {rest : List (Addr × Obj)} {Q : Unit → Shared → Prop} (S : St h₀ L s₁ vs ((D, listOf xs.toArray c) :: rest) s) (hr : ∀ p ∈ rest, p.1 ≠ D) (hi : IntsAre xs ns) (h0 : 0 ≤ k) (h1 : k < ns.length) (hfit : k < 2 ^ 63)
    (h : ∀ s', St h₀ L s₁ vs ((D, listOf (xs.set k.toNat (.int i u)).toArray c) :: rest) s' → Q () s') : wpAny (model prog w) A (setItem (.ref D) (.int k t) (.int i u)) Q E s := by
  obtain ⟨m, F, hm⟩ := S.fr
  exact ksa_set F S.nw (Upd.head hr) hi h0 h1 hfit fun h' F' N' _ _ _ => h _ (S.of F' hm N')
theorem o_lmul {l : Addr} {xs : List Value} {c : Nat} {n : Int} {u : Tok} {Q : Value → Shared → Prop} (S : St h₀ L s₁ vs news s) (hm : (l, listOf xs.toArray c) ∈ news) (h0 : 0 ≤ n) (hhi : n < 2 ^ 63) (hsz : xs.length * n.toNat ≤ 256)
    (h : ∀ D s', St h₀ L s₁ vs ((D, listOf ((List.replicate n.toNat xs).flatten).toArray 0) :: news) s' → Q (.ref D) s') : wpAny (model prog w) A (binaryOp .Mult (.ref l) (.int n u)) Q E s := by
  obtain ⟨m, F, hm'⟩ := S.fr
  exact KMa.mul F S.nw (S.lst hm) (by omega) hhi hsz rfl fun D h' F' N' _ => h D _ (S.of (k := s.toks) F' hm' N')
theorem e_lst {vals : List Value} {Q : Value → Shared → Prop} (S : St h₀ L s₁ vs news s) (hz : vals.length ≤ 10000) (h : ∀ D s', St h₀ L s₁ vs ((D, listOf vals.toArray 0) :: news) s' → (∀ p ∈ news, p.1 < D) → Q (.ref D) s') : wpAny M A (newList vals) Q E s :=
  wpAny_newObj_type (h _ _ (S.push (listOf vals.toArray 0)) S.lt) (by show vals.toArray.size ≤ sizeLine; rw [List.size_toArray, sizeLine_eq]; omega)
theorem rep_one {α : Type} (n : Nat) (x : α) : (List.replicate n [x]).flatten = List.replicate n x := by
  induction n with
  | zero => rfl
  | succ n ih => simp [List.replicate_succ, ih]
theorem ints_rep (n : Nat) (i : Int) (t : Tok) : IntsAre (List.replicate n (.int i t)) (List.replicate n i) := by
  induction n with
  | zero => exact .nil
  | succ n ih => exact .cons _ _ ih

theorem c_mkb {D : Addr} {ys : List Value} {ns : List Int} {Q : Value → Shared → Prop} (S : St h₀ L s₁ vs news s) (hh : A.handled = none) (hl : s.heap.IsList D ys.toArray) (hi : IntsAre ys ns) (hr : KBa.In ns) (hn : ns.length ≤ 16777216)
    (h : ∀ t s', St h₀ L s₁ vs news s' → Q (.bytes (ns.map fun n => n.toNat.toUInt8).toArray t) s') : wpAny (model prog w) A (call (.type "bytes") [.ref D]) Q E s := by
  obtain ⟨m, F, hm⟩ := S.fr
  exact KBa.make_K F S.nw hh hl hi hr hn fun h' t' k F' N' _ => h t' _ (S.of F' hm N')
end
end Mine

end

section
open PySem PySem.W PyProof.Rows PySem.Calls
set_option maxRecDepth 100000
namespace Mine

/-- what a namespace's object says of the names -/
def ObjHas (o : Obj) (vs : List (Str × Value)) : Prop := ∃ (m : Str → Option Value), (∃ es ep, o.data = .dict es ep ∧ StrKeys es ∧ ∀ name, nsFind es name = m name) ∧ ∀ p ∈ vs, m p.1 = some p.2

section
variable {prog : Program} {w : World} {M : Model} {A : Around} {E : Value → Shared → Prop} {s : Shared} {h₀ : Heap} {L C : Addr} {s₁ : Shared} {vs vsC vsL : List (Str × Value)} {news rest : List (Addr × Obj)}
  {x : Str} {pos : Pos} {v : Value} {mg mb : Str → Option Value} {env : Env}

theorem St.above (S : St h₀ L s₁ vs news s) : h₀.objs.size ≤ L := by
  obtain ⟨m, F, _⟩ := S.fr
  exact F.above
/-- two namespaces at hand: the one as the frame, the other as an object of the ledger -/
theorem St.swap {oL : Obj} (S : St h₀ C s₁ vsC ((L, oL) :: rest) s) (hL : ObjHas oL vsL) (ha : h₀.objs.size ≤ L) (hr : ∀ p ∈ rest, p.1 ≠ L) : ∃ oC, ObjHas oC vsC ∧ St h₀ L s₁ vsL ((C, oC) :: rest) s := by
  obtain ⟨m, F, hm⟩ := S.fr
  obtain ⟨oC, es, ep, hC, d1, d2, d3⟩ := id F.ns
  have hl := S.nw _ (.head _)
  obtain ⟨mL, ⟨esL, epL, e1, e2, e3⟩, hmL⟩ := hL
  refine ⟨oC, ⟨m, ⟨es, ep, d1, d2, d3⟩, hm⟩, S.gens, S.drawn, S.os, ⟨mL, ⟨⟨oL, esL, epL, hl.1, e1, e2, e3⟩, F.keep, ha⟩, hmL⟩, fun p hp => ?_⟩
  rcases List.mem_cons.mp hp with rfl | hp
  · exact ⟨hC, Ne.symm hl.2.1, Heap.get?_none_of_le F.above⟩
  · exact ⟨(S.nw p (.tail _ hp)).1, hr p hp, (S.nw p (.tail _ hp)).2.2⟩

theorem e_locE {Q : Value → Shared → Prop} (S : St h₀ env.locals s₁ vs news s) (hx : (x, v) ∈ vs) (h : Q v s)
    (hk : env.scope.kind = .function := by rfl) (hl : env.kindOf x = some .local := by rfl) (hd : (x == ("__debug__" : Str)) = false := by decide) :
    wpAny M A (eval (.Name x pos) env) Q E s := by
  obtain ⟨m, F, hm⟩ := S.fr
  exact wpAny_Name (wpAny_loadName_local hk hl F.ns (hm _ hx) h) hd
theorem e_bltE {Q : Value → Shared → Prop} (S : St h₀ L s₁ vs news s) (G : Glo mg mb h₀) (hg : mg x = none ∧ mb x = some v) (h : Q v s)
    (hk : env.scope.kind = .function := by rfl) (hx : env.kindOf x = some .globalImplicit := by rfl) (h1 : env.globals = mainGlobals := by rfl) (h2 : env.builtins = builtinsNs := by rfl) (hd : (x == ("__debug__" : Str)) = false := by decide) :
    wpAny M A (eval (.Name x pos) env) Q E s := by
  obtain ⟨m, F, hm⟩ := S.fr
  exact Name_function_global hk hx (loadGlobal_builtin (env := env) (by rw [h1]; exact G.g.keeps F.keep) hg.1 (by rw [h2]; exact G.b.keeps F.keep) hg.2 h) hd
theorem e_gloE {Q : Value → Shared → Prop} (S : St h₀ L s₁ vs news s) (G : Glo mg mb h₀) (hg : mg x = some v) (h : Q v s)
    (hk : env.scope.kind = .function := by rfl) (hx : env.kindOf x = some .globalImplicit := by rfl) (h1 : env.globals = mainGlobals := by rfl) (hd : (x == ("__debug__" : Str)) = false := by decide) :
    wpAny M A (eval (.Name x pos) env) Q E s := by
  obtain ⟨m, F, hm⟩ := S.fr
  exact Name_function_global hk hx (loadGlobal_global (env := env) (by rw [h1]; exact G.g.keeps F.keep) hg h) hd
theorem e_stE {Q : Unit → Shared → Prop} (S : St h₀ env.locals s₁ vs news s) (h : ∀ s', St h₀ env.locals s₁ (upd x v vs) news s' → Q () s')
    (hk : env.scope.kind = .function := by rfl) (hl : env.kindOf x = some .local := by rfl) :
    wpAny M A (storeName env x v) Q E s := by
  obtain ⟨m, F, hm⟩ := S.fr
  refine wpAny_storeName_local hl F.ns (fun h' hn hs => h _ (S.of (F.set hn hs) (fun p hp => ?_) (S.nw.set hs))) (by rw [hk]; rfl)
  rcases mem_of_upd hp with rfl | ⟨h1, h2⟩
  · simp
  · simp only [h2, if_false]
    exact hm p h1
theorem s_app {D : Addr} {xs : List Value} {c : Nat} {y : Value} {Q : Value → Shared → Prop} (S : St h₀ L s₁ vs ((D, listOf xs.toArray c) :: rest) s) (hr : ∀ p ∈ rest, p.1 ≠ D) (hz : xs.length ≤ 16777216)
    (h : ∀ s', St h₀ L s₁ vs ((D, listOf (xs ++ [y]).toArray (c + 1)) :: rest) s' → Q .none s') : wpAny (model prog w) A (call (.builtin "list.append") [.ref D, y]) Q E s := by
  obtain ⟨m, F, hm⟩ := S.fr
  refine append_K F S.nw (Upd.head hr) (fun h' F' N' => h _ ?_) (by rw [sizeLine_eq]; simpa using hz)
  have e : xs.toArray.push y = (xs ++ [y]).toArray := by simp
  rw [e] at N'
  exact S.of (k := s.toks) F' hm N'
end

/-- iterating: the next item, and what the loop does with an owned tuple -/
structure Its (prog : Program) (w : World) (A : Around) (target : Expr) (I : Addr) (fp wr : List Addr) (n : Nat) (P : Nat → Value → Heap → Prop) (Sw : Nat → Heap → Prop) : Prop where
  sub : ∀ b ∈ wr, b ∈ fp
  frame : ∀ i h h', Sw i h → (∀ b ∈ fp, ∀ o, h.get? b = some o → h'.get? b = some o) → Sw i h'
  item : ∀ i (s : Shared) (Q : Value → Shared → Prop) (E : Value → Shared → Prop), i < n → Sw i s.heap →
    (∀ v h' tk, P i v h' → Sw (i + 1) h' → (∀ b o, b ∉ wr → s.heap.get? b = some o → h'.get? b = some o) → Q v { s with heap := h', toks := tk }) →
    wpAny (model prog w) A (pyNext (.ref I)) (fun r s₁ => ∃ v, r = some v ∧ wpAny (model prog w) A (letOwnedTupleGo target (.ref I) v) (fun _ s₂ => Q v s₂) E s₁) E s
  done : ∀ (s : Shared) (Q : Option Value → Shared → Prop) (E : Value → Shared → Prop), Sw n s.heap →
    (∀ h' tk, (∀ b o, b ∉ wr → s.heap.get? b = some o → h'.get? b = some o) → Q none { s with heap := h', toks := tk }) → wpAny (model prog w) A (pyNext (.ref I)) Q E s
  self : ∀ i (s : Shared) (Q : Value → Shared → Prop) (E : Value → Shared → Prop), Sw i s.heap → Q (.ref I) s → wpAny (model prog w) A (pyIter (.ref I)) Q E s

theorem Its.ofName {prog : Program} {w : World} {A : Around} {x : Str} {px : Pos} {I : Addr} {fp wr : List Addr} {n : Nat} {P : Nat → Value → Prop} {Sw : Nat → Heap → Prop} (W : Walks prog w A I fp wr n P Sw) :
    Its prog w A (.Name x px) I fp wr n (fun i v _ => P i v) Sw where
  sub := W.sub
  frame := W.frame
  item := fun i s Q E hi hs hQ => W.item i s _ E hi hs fun v h' tk hP hs' hk => ⟨v, rfl, wpAny_pure (hQ v h' tk hP hs' hk)⟩
  done := W.done
  self := W.self
theorem Its.ofTuple {prog : Program} {w : World} {A : Around} {elts : List Expr} {k : Nat} {px : Pos} {I : Addr} {fp wr : List Addr} {n : Nat} {Pt : Nat → Array Value → Prop} {Sw : Nat → Heap → Prop} {Mid : Nat → Addr → Heap → Prop} (W : WalksU prog w A I fp wr n Pt Sw Mid) :
    Its prog w A (.Tuple elts k px) I fp wr n (fun i v h => ∃ T vals, v = .ref T ∧ Pt i vals ∧ h.IsTuple T vals) Sw where
  sub := W.sub
  frame := W.frame
  item := fun i s _ E hi hs hQ => W.item i s _ E hi hs fun T vals h' tk hP hT hm hk => by
    refine ⟨.ref T, rfl, W.go elts k px i T _ _ E hm fun h'' hs'' hk'' => ?_⟩
    refine hQ (.ref T) h'' tk ⟨T, vals, rfl, hP, ?_⟩ hs'' fun b o hb e => hk'' b o hb (hk b o hb e)
    exact hT.at fun o e => hk'' T o (W.apart i T _ hm) e
  done := W.done
  self := W.self
end Mine

end

section
open PySem PySem.W PyProof.Rows PySem.Calls
set_option maxRecDepth 100000
namespace Mine

abbrev testsOf (ifs : List Expr) (env : Env) : Sem Bool := forIn ifs true fun c r => if r = true then do let ok ← PySem.isTrue c env (eval c env); pure (ForInStep.yield ok) else pure (ForInStep.yield r)

section
variable {prog : Program} {w : World} {A : Around} {E : Value → Shared → Prop} {R : Result → Shared → Prop} {s : Shared} {h₀ : Heap} {s₁ : Shared} {news : List (Addr × Obj)}
theorem compLoop_any {elt target iter : Expr} {ifs : List Expr} {scope : Scope} {pos : Pos} {it acc : Value} {env : Env} (I : Nat → Shared → Prop)
    (turn : ∀ n s, I n s → wpAny (model prog w) A (pyNext it) (fun r s₁ => match r with
      | none => R (.ok .next) s₁
      | some v => wpAny (model prog w) A (letOwnedTupleGo target it v) (fun _ s₁' => wpAny (model prog w) A (assign target env v) (fun _ s₂ =>
          wpAny (model prog w) A (testsOf ifs env) (fun ok s₃ =>
            if ok = true then wpAny (model prog w) A (eval elt env) (fun x s₄ =>
              wpAny (model prog w) A (call (.builtin "list.append") [acc, x]) (fun _ s₅ => ∃ m, m < n ∧ I m s₅) (fun _ _ => False) s₄) (fun _ _ => False) s₃
            else ∃ m, m < n ∧ I m s₃) (fun _ _ => False) s₂) (fun _ _ => False) s₁') (fun _ _ => False) s₁) (fun _ _ => False) s)
    (n : Nat) (h : I n s) :
    codeAny (model prog w) A (.compLoop (.ListComp elt [⟨target, iter, ifs, 0⟩] scope pos) 0 it acc env) R s := by
  refine codeAny_loop rfl I (fun n s hI => ?_) n h
  show wpAny _ A ((compTurn (.ListComp elt [⟨target, iter, ifs, 0⟩] scope pos) 0 it acc env).onRaise (fun x => do noteFrame x env; theTreesLotGoes x)) _ _ s
  refine wpAny_noted ?_
  rw [compTurn_list]
  refine wpAny_bind (wpAny_standAt (wpAny_bind (wpAny_mono (turn n s hI) (fun r s₁ h₁ => ?_) fun _ _ h' => h'.elim)))
  cases r with
  | none => exact wpAny_pure h₁
  | some v =>
    refine wpAny_bind (wpAny_mono h₁ (fun _ s₁' h₁' => ?_) fun _ _ h' => h'.elim)
    refine wpAny_bind (wpAny_mono h₁' (fun _ s₂ h₂ => wpAny_bind (wpAny_mono h₂ (fun ok s₃ h₃ => ?_) fun _ _ h' => h'.elim)) fun _ _ h' => h'.elim)
    cases ok with
    | false => exact wpAny_pure ⟨rfl, h₃⟩
    | true =>
      exact wpAny_bind (wpAny_bind (wpAny_mono h₃ (fun x s₄ h₄ => wpAny_bind (wpAny_mono h₄ (fun _ s₅ h₅ => wpAny_pure (wpAny_pure ⟨rfl, h₅⟩)) fun _ _ h' => h'.elim)) fun _ _ h' => h'.elim))

theorem comp_loop {elt target iter : Expr} {ifs : List Expr} {scope : Scope} {pos : Pos} {cenv : Env} {I D : Addr} {fp wr : List Addr} {n : Nat} {P : Nat → Value → Heap → Prop} {Sw : Nat → Heap → Prop} {Lx : Addr} {Ko : Obj → Prop} {oL : Obj}
    (W : Its prog w A target I fp wr n P Sw) (hCf : cenv.locals ∉ fp) (hDf : D ∉ fp) (hwr : ∀ b ∈ wr, h₀.get? b = none) (hnw : ∀ p ∈ news, p.1 ∉ wr) (hDn : ∀ p ∈ news, p.1 ≠ D) (hLxw : Lx ∉ wr) (hLxD : Lx ≠ D) (hKo : Ko oL) (hst : Sw 0 s.heap)
    (S : St h₀ cenv.locals s₁ [] ((D, listOf ([] : List Value).toArray 0) :: (Lx, oL) :: news) s) (hn : n ≤ 1000000) (J : Nat → List Value → Prop) (h0 : J 0 [])
    (turn : ∀ oL i v ys c s' own, Ko oL → i < n → P i v s'.heap → J i ys → (∀ p ∈ own, p.1 ∈ fp) → ys.length ≤ i → St h₀ cenv.locals s₁ [] ((D, listOf ys.toArray c) :: ((Lx, oL) :: news ++ own)) s' →
      wpAny (model prog w) A (assign target cenv v) (fun _ s₂ => wpAny (model prog w) A (testsOf ifs cenv) (fun ok s₃ =>
        if ok = true then wpAny (model prog w) A (eval elt cenv) (fun y s₄ => J (i + 1) (ys ++ [y]) ∧ ∃ oL, Ko oL ∧ St h₀ cenv.locals s₁ [] ((D, listOf ys.toArray c) :: ((Lx, oL) :: news ++ own)) s₄) (fun _ _ => False) s₃
        else J (i + 1) ys ∧ ∃ oL, Ko oL ∧ St h₀ cenv.locals s₁ [] ((D, listOf ys.toArray c) :: ((Lx, oL) :: news ++ own)) s₃) (fun _ _ => False) s₂) (fun _ _ => False) s')
    (done : ∀ oL ys c s', Ko oL → J n ys → ys.length ≤ n → St h₀ cenv.locals s₁ [] ((D, listOf ys.toArray c) :: (Lx, oL) :: news) s' → R (.ok .next) s') :
    codeAny (model prog w) A (.compLoop (.ListComp elt [⟨target, iter, ifs, 0⟩] scope pos) 0 (.ref I) (.ref D) cenv) R s := by
  have hCw : cenv.locals ∉ wr := fun h => hCf (W.sub _ h)
  have hDw : D ∉ wr := fun h => hDf (W.sub _ h)
  have old : ∀ b o, h₀.get? b = some o → b ∉ wr := fun b o e hb => by rw [hwr b hb] at e; cases e
  refine compLoop_any (fun k s' => ∃ i ys c oL, Ko oL ∧ Sw i s'.heap ∧ St h₀ cenv.locals s₁ [] ((D, listOf ys.toArray c) :: (Lx, oL) :: news) s' ∧ J i ys ∧ ys.length ≤ i ∧ i ≤ n ∧ k = n + 1 - i) ?_ (n + 1) ⟨0, [], 0, oL, hKo, hst, S, h0, Nat.le_refl _, Nat.zero_le _, rfl⟩
  rintro k s' ⟨i, ys, c, oL, hKo, hsw, S', hJ, hyl, hi, rfl⟩
  have next : ∀ (h₁ : Heap) (tk : Nat), (∀ b o, b ∉ wr → s'.heap.get? b = some o → h₁.get? b = some o) → St h₀ cenv.locals s₁ [] ((D, listOf ys.toArray c) :: (Lx, oL) :: news) { s' with heap := h₁, toks := tk } := fun h₁ tk hk₁ => by
    obtain ⟨m, F, hm⟩ := S'.fr
    refine S'.of ⟨F.ns.at' fun o e => hk₁ _ o hCw e, fun b o e => hk₁ b o (old b o e) (F.keep b o e), F.above⟩ hm fun p hp => ⟨hk₁ _ _ ?_ (S'.nw p hp).1, (S'.nw p hp).2⟩
    rcases List.mem_cons.mp hp with rfl | hp
    · exact hDw
    · rcases List.mem_cons.mp hp with rfl | hp
      · exact hLxw
      · exact hnw p hp
  by_cases hlt : i < n
  · refine wpAny_mono (W.item i s' (fun v s₂ => wpAny (model prog w) A (assign target cenv v) (fun _ s₂ =>
          wpAny (model prog w) A (testsOf ifs cenv) (fun ok s₃ =>
            if ok = true then wpAny (model prog w) A (eval elt cenv) (fun x s₄ =>
              wpAny (model prog w) A (call (.builtin "list.append") [.ref D, x]) (fun _ s₅ => ∃ m, m < n + 1 - i ∧ ∃ i ys c oL, Ko oL ∧ Sw i s₅.heap ∧ St h₀ cenv.locals s₁ [] ((D, listOf ys.toArray c) :: (Lx, oL) :: news) s₅ ∧ J i ys ∧ ys.length ≤ i ∧ i ≤ n ∧ m = n + 1 - i) (fun _ _ => False) s₄) (fun _ _ => False) s₃
            else ∃ m, m < n + 1 - i ∧ ∃ i ys c oL, Ko oL ∧ Sw i s₃.heap ∧ St h₀ cenv.locals s₁ [] ((D, listOf ys.toArray c) :: (Lx, oL) :: news) s₃ ∧ J i ys ∧ ys.length ≤ i ∧ i ≤ n ∧ m = n + 1 - i) (fun _ _ => False) s₂) (fun _ _ => False) s₂) (fun _ _ => False) hlt hsw fun v h₁ tk₁ hP hsw₁ hk₁ => ?_)
      (fun r s₂ hr => by obtain ⟨v, rfl, hv⟩ := hr; exact hv) fun _ _ e => e
    have S₁ := next h₁ tk₁ hk₁
    have Nown : News h₀ cenv.locals h₁ (ownOf h₀ fp h₁) := news_ownOf hCf
    have S₂ : St h₀ cenv.locals s₁ [] ((D, listOf ys.toArray c) :: ((Lx, oL) :: news ++ ownOf h₀ fp h₁)) { s' with heap := h₁, toks := tk₁ } := ⟨S₁.gens, S₁.drawn, S₁.os, S₁.fr, fun p hp => by
      rcases List.mem_cons.mp hp with rfl | hp
      · exact S₁.nw _ (.head _)
      · rcases List.mem_append.mp hp with hp | hp
        · exact S₁.nw p (.tail _ hp)
        · exact Nown p hp⟩
    have hDr : ∀ oL, ∀ p ∈ (Lx, oL) :: news ++ ownOf h₀ fp h₁, p.1 ≠ D := fun oL p hp => (List.mem_append.mp hp).elim (fun h => by
      rcases List.mem_cons.mp h with rfl | h
      · exact hLxD
      · exact hDn p h) fun h e => hDf (e ▸ ownOf_sub p h)
    have fin : ∀ (s₃ : Shared) (ys' : List Value) (c' : Nat) (oL' : Obj), Ko oL' → J (i + 1) ys' → ys'.length ≤ i + 1 → St h₀ cenv.locals s₁ [] ((D, listOf ys'.toArray c') :: ((Lx, oL') :: news ++ ownOf h₀ fp h₁)) s₃ →
        ∃ m, m < n + 1 - i ∧ ∃ i ys c oL, Ko oL ∧ Sw i s₃.heap ∧ St h₀ cenv.locals s₁ [] ((D, listOf ys.toArray c) :: (Lx, oL) :: news) s₃ ∧ J i ys ∧ ys.length ≤ i ∧ i ≤ n ∧ m = n + 1 - i := fun s₃ ys' c' oL' hKo' hJ' hl' S₃ => by
      refine ⟨n + 1 - (i + 1), by omega, i + 1, ys', c', oL', hKo', ?_, S₃.weak (fun _ h => h) (fun p hp => ?_), hJ', hl', hlt, rfl⟩
      · refine W.frame _ _ _ hsw₁ fun b hb o e => ?_
        obtain ⟨m, F, _⟩ := S₂.fr
        obtain ⟨m₃, F₃, _⟩ := S₃.fr
        cases hn : h₀.get? b with
        | some o₀ =>
          have : o₀ = o := by have := F.keep b o₀ hn; rw [e] at this; exact (Option.some.inj this).symm
          exact this ▸ F₃.keep b o₀ hn
        | none => exact (S₃.nw _ (.tail _ (List.mem_append_right _ (mem_ownOf hb hn e)))).1
      · rcases List.mem_cons.mp hp with rfl | hp
        · exact .head _
        · exact .tail _ (List.mem_append_left _ hp)
    refine wpAny_mono (turn oL i v ys c _ _ hKo hlt hP hJ ownOf_sub hyl S₂) (fun _ s₃ h₃ => ?_) fun _ _ e => e
    refine wpAny_mono h₃ (fun ok s₄ h₄ => ?_) fun _ _ e => e
    cases ok with
    | false =>
      simp only [Bool.false_eq_true, if_false] at h₄ ⊢
      obtain ⟨h₄, oL', hKo', S₄⟩ := h₄
      exact fin _ ys c oL' hKo' h₄ (by omega) S₄
    | true =>
      simp only [if_true] at h₄ ⊢
      refine wpAny_mono h₄ (fun y s₅ h₅ => ?_) fun _ _ e => e
      obtain ⟨h₅, oL', hKo', S₅⟩ := h₅
      refine s_app S₅ (hDr oL') (by omega) fun s₆ S₆ => ?_
      exact fin _ (ys ++ [y]) (c + 1) oL' hKo' h₅ (by simp; omega) S₆
  · have hin : i = n := by omega
    subst hin
    refine W.done _ _ _ hsw fun h₁ tk₁ hk₁ => ?_
    exact done oL ys c _ hKo hJ hyl (next h₁ tk₁ hk₁)
end
end Mine

end

section
open PySem PySem.W PyProof.Rows PySem.Calls
set_option maxRecDepth 100000
namespace Mine
section
variable {prog : Program} {w : World} {A : Around} {E : Value → Shared → Prop} {s : Shared} {h₀ : Heap} {s₁ : Shared} {vs : List (Str × Value)} {news : List (Addr × Obj)} {env : Env}
theorem St.same {L C : Addr} (S : St h₀ L s₁ vs news s) {h' : Heap} (hs : Heap.SameBut C s.heap h') (hL : L ≠ C) (h0 : h₀.get? C = none) (hn : ∀ p ∈ news, p.1 ≠ C) : St h₀ L s₁ vs news { s with heap := h' } := by
  obtain ⟨m, F, hm⟩ := S.fr
  refine ⟨S.gens, S.drawn, S.os, ⟨m, ⟨F.ns.sameBut hs hL, fun b o e => (hs.2 b (fun q => ?_)).trans (F.keep b o e), F.above⟩, hm⟩, fun p hp => ⟨(hs.2 p.1 (hn p hp)).trans (S.nw p hp).1, (S.nw p hp).2⟩⟩
  rw [q, h0] at e; cases e

/-- a list comprehension of one clause, from its iterator on -/
theorem comp_go {elt target iter : Expr} {ifs : List Expr} {scope : Scope} {pos : Pos} {cl : List (Str × Addr)} {I : Addr} {fp wr : List Addr} {n : Nat} {P : Nat → Value → Heap → Prop} {Sw : Nat → Heap → Prop}
    {R : Addr → Addr → Result → Shared → Prop}
    (W : Its prog w A target I fp wr n P Sw) (S : St h₀ env.locals s₁ vs news s) (hfp : ∀ b ∈ fp, b < s.heap.objs.size) (hLw : env.locals ∉ wr) (hwr : ∀ b ∈ wr, h₀.get? b = none) (hnw : ∀ p ∈ news, p.1 ∉ wr) (hst : Sw 0 s.heap)
    (hn : n ≤ 1000000) (J : Nat → List Value → Prop) (h0 : J 0 [])
    (turn : ∀ C D oL i v ys c s' own, ObjHas oL vs → h₀.objs.size ≤ C → (∀ p ∈ news, p.1 ≠ C) → env.locals ≠ C → D ≠ env.locals → D ≠ C → (∀ p ∈ own, p.1 ≠ D ∧ p.1 ≠ C ∧ p.1 ∈ fp) → i < n → P i v s'.heap → J i ys → ys.length ≤ i →
      St h₀ C s₁ [] ((D, listOf ys.toArray c) :: ((env.locals, oL) :: news ++ own)) s' →
      wpAny (model prog w) A (assign target (compEnvC scope cl C env) v) (fun _ s₂ => wpAny (model prog w) A (testsOf ifs (compEnvC scope cl C env)) (fun ok s₃ =>
        if ok = true then wpAny (model prog w) A (eval elt (compEnvC scope cl C env)) (fun y s₄ => J (i + 1) (ys ++ [y]) ∧ ∃ oL, ObjHas oL vs ∧ St h₀ C s₁ [] ((D, listOf ys.toArray c) :: ((env.locals, oL) :: news ++ own)) s₄) (fun _ _ => False) s₃
        else J (i + 1) ys ∧ ∃ oL, ObjHas oL vs ∧ St h₀ C s₁ [] ((D, listOf ys.toArray c) :: ((env.locals, oL) :: news ++ own)) s₃) (fun _ _ => False) s₂) (fun _ _ => False) s')
    (fin : ∀ ys D c C oC s', J n ys → ys.length ≤ n → (∀ p ∈ news, p.1 ≠ D) → ObjHas oC [] → env.locals ≠ C → D ≠ C → h₀.get? C = none → (∀ p ∈ news, p.1 ≠ C) → St h₀ env.locals s₁ vs ((C, oC) :: (D, listOf ys.toArray c) :: news) s' → R D C (.ok .next) s')
    (hcell : ∀ x ∈ scope.names, x.2 ≠ .cell) (hkind : scope.kind = .function) :
    wpAny (model prog w) A (newList []) (fun acc s₃ => wpAny (model prog w) A (newFunctionEnv scope env.globals cl [] env.qual none .none (some env)) (fun cenv s₄ =>
      codeAny (model prog w) A (.compStart (.ListComp elt [⟨target, iter, ifs, 0⟩] scope pos) 0 (.ref I) acc { cenv with scope := relabel scope env }) (fun r s' => ∃ D C, acc = .ref D ∧ cenv.locals = C ∧ R D C r s') s₄) E s₃) E s := by
  have hLlt := ltN S.Llt
  refine wpAny_newObj_type ?_ (by show (_ : Nat) ≤ sizeLine; rw [sizeLine_eq]; simp)
  have S3 := S.push (listOf ([] : List Value).toArray 0)
  refine wpAny_newFunctionEnv hcell (by simp) (fun h' hns hsb => ?_) hkind
  have hC : (s.heap.push (listOf ([] : List Value).toArray 0)).objs.size = s.heap.objs.size + 1 := Heap.size_push _ _
  have hCpos : env.locals ≠ s.heap.objs.size + 1 := neN (by omega)
  have hDL : s.heap.objs.size ≠ env.locals := neN (by omega)
  have hDC : s.heap.objs.size ≠ s.heap.objs.size + 1 := by omega
  have habove := S.above
  have hC0 : h₀.get? (s.heap.objs.size + 1) = none := Heap.get?_none_of_le (by omega)
  have hkeep : ∀ b o, (s.heap.push (listOf ([] : List Value).toArray 0)).get? b = some o → h'.get? b = some o := fun b o e =>
    hsb.extBut b o (Nat.ne_of_lt (Heap.lt_size e)) (Heap.get?_push_of_some _ e)
  have S4 := S3.grow (s.toks + ([] : List (Str × Value)).length) hkeep
  obtain ⟨oC, es, ep, hoC, d1, d2, d3⟩ := hns
  have hoC' : h'.get? (s.heap.objs.size + 1) = some oC := by rw [← hC]; exact hoC
  have S5 : St h₀ env.locals s₁ vs ((s.heap.objs.size + 1, oC) :: (s.heap.objs.size, listOf ([] : List Value).toArray 0) :: news) _ := ⟨S4.gens, S4.drawn, S4.os, S4.fr, fun p hp => by
    rcases List.mem_cons.mp hp with rfl | hp
    · exact ⟨hoC', Ne.symm hCpos, hC0⟩
    · exact S4.nw p hp⟩
  have hnC : ∀ p ∈ news, p.1 ≠ s.heap.objs.size + 1 := fun p hp => neN (by have := ltN (S.lt p hp); omega)
  have hnD : ∀ p ∈ news, p.1 ≠ s.heap.objs.size := fun p hp => neN (by have := ltN (S.lt p hp); omega)
  obtain ⟨oL, hoL, S6⟩ := S5.swap (vsL := []) ⟨_, ⟨es, ep, d1, d2, d3⟩, by simp⟩ (by omega) (fun p hp => by
    rcases List.mem_cons.mp hp with rfl | hp
    · exact hDC
    · exact hnC p hp)
  have S7 : St h₀ (s.heap.objs.size + 1) s₁ [] ((s.heap.objs.size, listOf ([] : List Value).toArray 0) :: (env.locals, oL) :: news) _ := S6.weak (fun _ h => h) (fun p hp => by
    rcases List.mem_cons.mp hp with rfl | hp
    · exact .tail _ (.head _)
    · rcases List.mem_cons.mp hp with rfl | hp
      · exact .head _
      · exact .tail _ (.tail _ hp))
  have hst4 : Sw 0 h' := W.frame 0 _ _ hst fun b _ o e => hkeep b o (Heap.get?_push_of_some _ e)
  have main : codeAny (model prog w) A (.compLoop (.ListComp elt [⟨target, iter, ifs, 0⟩] scope pos) 0 (.ref I) (.ref s.heap.objs.size) (compEnvC scope cl (s.heap.objs.size + 1) env)) (fun r s' => ∃ D C, (Value.ref s.heap.objs.size) = .ref D ∧ s.heap.objs.size + 1 = C ∧ R D C r s')
      { heap := h', gens := s.gens, drawn := s.drawn, toks := s.toks + ([] : List (Str × Value)).length, os := s.os } := by
    refine comp_loop (cenv := compEnvC scope cl (s.heap.objs.size + 1) env) (Lx := env.locals) (Ko := fun o => ObjHas o vs) (oL := oL) W ?_ ?_ hwr hnw hnD hLw (Ne.symm hDL) hoL hst4 S7 hn J h0 ?_ ?_
    · intro hm; have := ltN (hfp _ hm); simp only [compEnvC] at this; omega
    · intro hm; have := ltN (hfp _ hm); omega
    · intro oL i v ys c s' own hoL hi hP hJ hown hyl S'
      exact turn (s.heap.objs.size + 1) s.heap.objs.size oL i v ys c s' own hoL (by omega) hnC hCpos hDL hDC (fun p hp => ⟨neN (by have := ltN (hfp _ (hown p hp)); omega), neN (by have := ltN (hfp _ (hown p hp)); omega), hown p hp⟩) hi hP hJ hyl S'
    · intro oL ys c s' hoL hJ hyl S'
      refine ⟨s.heap.objs.size, s.heap.objs.size + 1, rfl, rfl, ?_⟩
      have S8 : St h₀ (s.heap.objs.size + 1) s₁ [] ((env.locals, oL) :: (s.heap.objs.size, listOf ys.toArray c) :: news) s' := S'.weak (fun _ h => h) (fun p hp => by
        rcases List.mem_cons.mp hp with rfl | hp
        · exact .tail _ (.head _)
        · rcases List.mem_cons.mp hp with rfl | hp
          · exact .head _
          · exact .tail _ (.tail _ hp))
      obtain ⟨oC', hoC', S9⟩ := S8.swap hoL habove (fun p hp => by
        rcases List.mem_cons.mp hp with rfl | hp
        · exact hDL
        · exact (S.nw p hp).2.1)
      exact fin ys _ c _ oC' s' hJ hyl hnD hoC' hCpos hDC hC0 hnC S9
  have e1 : ({ newEnv scope (s.heap.push (listOf ([] : List Value).toArray 0)).objs.size env.globals cl env.qual none .none (some env) env.builtins with scope := relabel scope env } : Env) = compEnvC scope cl (s.heap.objs.size + 1) env := by
    rw [hC]; rfl
  refine codeAny_compStart_list ?_ ?_
  · exact e1 ▸ (by simpa only [newEnv, hC] using main)
  · refine W.self 0 _ _ _ hst4 ?_
    exact e1 ▸ (by simpa only [newEnv, hC] using main)
end
end Mine

end

section
open PySem PySem.W PyProof.Rows PySem.Calls
set_option maxRecDepth 100000
namespace Mine
section
variable {prog : Program} {w : World} {M : Model} {A : Around} {E : Value → Shared → Prop} {s : Shared} {h₀ : Heap} {s₁ : Shared} {vs : List (Str × Value)} {news : List (Addr × Obj)} {env : Env}
  {elt target iter : Expr} {ifs : List Expr} {scope : Scope} {pos : Pos} {cl : List (Str × Addr)} {I : Addr} {fp wr : List Addr} {n : Nat} {P : Nat → Value → Heap → Prop} {Sw : Nat → Heap → Prop}

/-- what is left of a comprehension behind its iterator -/
def CompIt (prog : Program) (w : World) (A : Around) (E : Value → Shared → Prop) (env : Env) (elt target iter : Expr) (ifs : List Expr) (scope : Scope) (pos : Pos) (cl : List (Str × Addr)) (use : Option (Value → Sem Unit)) (Q : Value → Shared → Prop) (it : Value) (s : Shared) : Prop :=
  wpAny (model prog w) A (newList []) (fun acc s₃ => wpAny (model prog w) A (newFunctionEnv scope env.globals cl [] env.qual none .none (some env)) (fun cenv s₄ =>
      codeAny (model prog w) A (.compStart (.ListComp elt [⟨target, iter, ifs, 0⟩] scope pos) 0 it acc { cenv with scope := relabel scope env }) (compPost (model prog w) A E use Q acc cenv.locals) s₄) E s₃) E s

theorem e_lc {Q : Value → Shared → Prop} (h : wpAny (model prog w) A (eval iter env) (fun x s₁ => wpAny (model prog w) A (pyIter x) (fun it s₂ => CompIt prog w A E env elt target iter ifs scope pos cl none Q it s₂) E s₁) E s)
    (hclos : closureFor scope env = pure cl := by rfl) (hkind : scope.kind = .function := by rfl) (hnames : ∀ x ∈ scope.names, x.2 = .local → scope.names.lookup x.1 = some .local := by decide) (hs : ∀ x, foldedSetIterable iter env x = pure x := by intro _; rfl) :
    wpAny (model prog w) A (eval (.ListComp elt [⟨target, iter, ifs, 0⟩] scope pos) env) Q E s := by
  rw [eval_ListComp]
  exact wpAny_comprehension_free rfl hs hclos hkind hnames h
theorem x_lc {y : Str} {py apos : Pos} {Q : Flow → Shared → Prop} (h : wpAny (model prog w) A (eval iter env) (fun x s₁ => wpAny (model prog w) A (pyIter x) (fun it s₂ => CompIt prog w A E env elt target iter ifs scope pos cl (some (assign (.Name y py) env)) (fun _ => Q .next) it s₂) E s₁) E s)
    (hsw : swapsWith (.ListComp elt [⟨target, iter, ifs, 0⟩] scope pos) (some (.Name y py)) apos.line env = pure true := by rfl)
    (hclos : closureFor scope env = pure cl := by rfl) (hkind : scope.kind = .function := by rfl) (hnames : ∀ x ∈ scope.names, x.2 = .local → scope.names.lookup x.1 = some .local := by decide) (hs : ∀ x, foldedSetIterable iter env x = pure x := by intro _; rfl) :
    wpAny (model prog w) A (exec (.Assign [.Name y py] (.ListComp elt [⟨target, iter, ifs, 0⟩] scope pos) apos) env) Q E s := by
  rw [exec_Assign_Name_used _ _ _ _ hsw]
  refine wpAny_bind (wpAny_standAt (wpAny_bind ?_))
  show wpAny _ _ (comprehension (.ListComp elt [⟨target, iter, ifs, 0⟩] scope pos) scope env _ (newList []) false _ (some (assign (.Name y py) env)) >>= fun _ => pure ()) _ _ _
  refine wpAny_bind (wpAny_mono (wpAny_comprehension_free rfl hs hclos hkind hnames h) (fun _ s' hq => wpAny_pure (wpAny_pure hq)) fun _ _ e => e)

section
variable (W : Its prog w A target I fp wr n P Sw) (S : St h₀ env.locals s₁ vs news s) (hfp : ∀ b ∈ fp, b < s.heap.objs.size) (hLw : env.locals ∉ wr) (hwr : ∀ b ∈ wr, h₀.get? b = none) (hnw : ∀ p ∈ news, p.1 ∉ wr) (hst : Sw 0 s.heap)
    (hn : n ≤ 1000000) (J : Nat → List Value → Prop) (h0 : J 0 [])
    (turn : ∀ C D oL i v ys c s' own, ObjHas oL vs → h₀.objs.size ≤ C → (∀ p ∈ news, p.1 ≠ C) → env.locals ≠ C → D ≠ env.locals → D ≠ C → (∀ p ∈ own, p.1 ≠ D ∧ p.1 ≠ C ∧ p.1 ∈ fp) → i < n → P i v s'.heap → J i ys → ys.length ≤ i →
      St h₀ C s₁ [] ((D, listOf ys.toArray c) :: ((env.locals, oL) :: news ++ own)) s' →
      wpAny (model prog w) A (assign target (compEnvC scope cl C env) v) (fun _ s₂ => wpAny (model prog w) A (testsOf ifs (compEnvC scope cl C env)) (fun ok s₃ =>
        if ok = true then wpAny (model prog w) A (eval elt (compEnvC scope cl C env)) (fun y s₄ => J (i + 1) (ys ++ [y]) ∧ ∃ oL, ObjHas oL vs ∧ St h₀ C s₁ [] ((D, listOf ys.toArray c) :: ((env.locals, oL) :: news ++ own)) s₄) (fun _ _ => False) s₃
        else J (i + 1) ys ∧ ∃ oL, ObjHas oL vs ∧ St h₀ C s₁ [] ((D, listOf ys.toArray c) :: ((env.locals, oL) :: news ++ own)) s₃) (fun _ _ => False) s₂) (fun _ _ => False) s')
include W S hfp hLw hwr hnw hst hn h0 turn
theorem comp_ev {Q : Value → Shared → Prop}
    (done : ∀ ys D c s', J n ys → ys.length ≤ n → (∀ p ∈ news, p.1 ≠ D) → St h₀ env.locals s₁ vs ((D, listOf ys.toArray c) :: news) s' → Q (.ref D) s')
    (hcell : ∀ x ∈ scope.names, x.2 ≠ .cell := by decide) (hkind : scope.kind = .function := by rfl) : CompIt prog w A E env elt target iter ifs scope pos cl none Q (.ref I) s := by
  refine wpAny_mono (comp_go (E := E) (iter := iter) (pos := pos) (R := fun D C r s' => r = .ok .next ∧ ∃ m, s'.heap.Ns C m ∧ ∀ h', Heap.SameBut C s'.heap h' → Q (.ref D) { s' with heap := h' }) W S hfp hLw hwr hnw hst hn J h0 turn (fun ys D c C oC s' hJ hl hD hoC hLC hDC hC0 hnC S' => ?_) hcell hkind)
    (fun acc s₃ h₃ => wpAny_mono h₃ (fun cenv s₄ h₄ => codeAny_mono h₄ fun r s' hr => ?_) fun _ _ e => e) fun _ _ e => e
  · refine ⟨rfl, ?_⟩
    obtain ⟨m, ⟨es, ep, d1, d2, d3⟩, _⟩ := hoC
    refine ⟨m, ⟨oC, es, ep, (S'.nw _ (.head _)).1, d1, d2, d3⟩, fun h' hs => done ys D c _ hJ hl hD ?_⟩
    exact (S'.weak (fun _ h => h) (fun p hp => .tail _ hp)).same hs hLC hC0 (fun p hp => by
      rcases List.mem_cons.mp hp with rfl | hp
      · exact hDC
      · exact hnC p hp)
  · obtain ⟨D, C, rfl, rfl, rfl, hr⟩ := hr
    exact hr
theorem comp_us {y : Str} {py : Pos} {Q : Value → Shared → Prop}
    (done : ∀ ys D c s', J n ys → ys.length ≤ n → (∀ p ∈ news, p.1 ≠ D) → St h₀ env.locals s₁ (upd y (.ref D) vs) ((D, listOf ys.toArray c) :: news) s' → Q .none s')
    (hcell : ∀ x ∈ scope.names, x.2 ≠ .cell := by decide) (hkind : scope.kind = .function := by rfl) (hek : env.scope.kind = .function := by rfl) (hey : env.kindOf y = some .local := by rfl) :
    CompIt prog w A E env elt target iter ifs scope pos cl (some (assign (.Name y py) env)) Q (.ref I) s := by
  refine wpAny_mono (comp_go (E := E) (iter := iter) (pos := pos) (R := fun D C r s' => r = .ok .next ∧ wpAny (model prog w) A (assign (.Name y py) env (.ref D)) (fun _ s'' => ∃ m, s''.heap.Ns C m ∧ ∀ h', Heap.SameBut C s''.heap h' → Q .none { s'' with heap := h' }) E s') W S hfp hLw hwr hnw hst hn J h0 turn (fun ys D c C oC s' hJ hl hD hoC hLC hDC hC0 hnC S' => ?_) hcell hkind)
    (fun acc s₃ h₃ => wpAny_mono h₃ (fun cenv s₄ h₄ => codeAny_mono h₄ fun r s' hr => ?_) fun _ _ e => e) fun _ _ e => e
  · refine ⟨rfl, wpAny_assign_Name (e_stE S' (fun s'' S'' => ?_) hek hey)⟩
    obtain ⟨m, ⟨es, ep, d1, d2, d3⟩, _⟩ := hoC
    refine ⟨m, ⟨oC, es, ep, (S''.nw _ (.head _)).1, d1, d2, d3⟩, fun h' hs => done ys D c _ hJ hl hD ?_⟩
    exact (S''.weak (fun _ h => h) (fun p hp => .tail _ hp)).same hs hLC hC0 (fun p hp => by
      rcases List.mem_cons.mp hp with rfl | hp
      · exact hDC
      · exact hnC p hp)
  · obtain ⟨D, C, rfl, rfl, rfl, hr⟩ := hr
    exact hr
end
end
end Mine

end

section
open PySem PySem.W PyProof.Rows PySem.Calls
set_option maxRecDepth 100000
namespace Mine
open Builtin
namespace FX
theorem slot : Slot "bytes" "index" "bytes.index" :=
  .of (owner := "bytes") (n := "index") (by rw [typeLookup_type, builtinLookup_eq_fast]; kernel_rfl) (by decide +kernel) (by decide +kernel) (by decide +kernel)
    (by first | exact .inl (by decide +kernel) | exact .inr (by decide +kernel)) (by rw [isSubtype_type]; kernel_rfl)
theorem ty : typeOf (.builtin "bytes.index") = pure (.type "method_descriptor") := by show builtinType _ = _; rw [builtinType_eq_fast]; kernel_rfl
theorem entry : entryFor table "bytes.index" = some Builtin.«bytes.index» := entryFor_of_tree (by kernel_rfl)
theorem args (a b : Value) : argsOk "bytes.index" ⟨[a, b], []⟩ := by
  unfold argsOk; rw [signature?_of (id := "bytes.index") (n := ['x', 'e', 'd', 'n', 'i']) (o := ['s', 'e', 't', 'y', 'b']) (by kernel_rfl) FB.owner_bytes]; kernel_rfl
theorem look_buf : typeLookup (.type "int") "__buffer__" = pure none := by rw [typeLookup_type, builtinLookup_eq_fast]; kernel_rfl
theorem look_idx : typeLookup (.type "int") "__index__" = pure (some (.builtin "int.__index__")) := by rw [typeLookup_type, builtinLookup_eq_fast]; kernel_rfl
theorem buf_int {id : String} {i : Int} {t : Tok} : Bytes.buffer? id (.int i t) = pure none := by
  unfold Bytes.buffer? specialOf
  show ((typeLookup (.type "int") "__buffer__") >>= fun r => _) = _
  rw [look_buf]; rfl
theorem idx_int {i : Int} {t : Tok} : specialOf (.int i t) "__index__" = pure (some (.builtin "int.__index__")) := look_idx
end FX
theorem index_meets (l : List UInt8) (t u : Tok) (h : l.findIdx (· == 37) < l.length) :
    Meets («bytes.index» ⟨[.bytes l.toArray t, .int 37 u], []⟩) (fun _ R s => R (.ok (.ret (.int (l.findIdx (· == 37) : Nat) s.toks))) { s with toks := s.toks + 1 }) := by
  refine .of_wp fun prog w A R s hR => ?_
  have e : Bytes.searchArgs .bytes "index" ⟨[.bytes l.toArray t, .int 37 u], []⟩ = pure (l.toArray, #[37], some (0, l.toArray.size)) := by
    unfold Bytes.searchArgs
    show (Bytes.buffer? "bytes.index" (.int 37 u) >>= fun r => _) = _
    rw [FX.buf_int]
    show (specialOf (.int 37 u) "__index__" >>= fun r => _) = _
    rw [FX.idx_int]
    show (Bytes.indexHeld _ (.int 37 u) >>= fun r => _) = _
    have ei : Bytes.indexHeld [.bytes l.toArray t] (.int 37 u) = pure 37 := rfl
    rw [ei]
    show (pure (l.toArray, #[37], if (min ((l.toArray.size : Nat) : Int) (if ((l.toArray.size : Nat) : Int) < 0 then _ else ((l.toArray.size : Nat) : Int))) - (if (0 : Int) < 0 then _ else 0) < (((#[37] : Array UInt8).size : Nat) : Int) then none else some ((if (0 : Int) < 0 then _ else 0 : Int).toNat, (min ((l.toArray.size : Nat) : Int) (if ((l.toArray.size : Nat) : Int) < 0 then _ else ((l.toArray.size : Nat) : Int))).toNat)) : Sem _) = _
    have hs : l.toArray.size = l.length := by simp
    rw [hs]
    rw [if_neg (by simp; omega)]
    have h0 : ¬ ((l.length : Int) < 0) := by omega
    rw [if_neg h0]
    simp
  show wpAny _ _ (Bytes.searchArgs .bytes "index" ⟨[.bytes l.toArray t, .int 37 u], []⟩ >>= fun r => _) _ _ s
  refine wpAny_bind (wpAny_of_eq e ?_)
  show wpAny _ _ (match Bytes.find? l.toArray #[37] 0 l.toArray.size with | some i => _ | none => _) _ _ s
  rw [find_one, if_pos h]
  show wpAny _ _ (mkInt _ >>= fun r => _) _ _ s
  refine wpAny_bind (wpAny_mkInt ?_)
  exact wpAny_pure ⟨_, rfl, hR⟩
section
variable {prog : Program} {w : World} {M : Model} {A : Around} {E : Value → Shared → Prop} {s : Shared} {h₀ : Heap} {L : Addr} {s₁ : Shared} {vs : List (Str × Value)} {news : List (Addr × Obj)}
theorem m_index {b : Array UInt8} {t : Tok} {pl : Sem Bool} {Q : Value × List Value → Shared → Prop} (h : Q (.builtin "bytes.index", [.bytes b t]) s) : wpAny M A (getMethod (.bytes b t) "index" pl) Q E s := by
  with_reducible exact KBd.method_of (.bytes b t) (typeIs_bytes _ _ _) FX.slot FX.ty KBd.noRef h
theorem c_index {l : List UInt8} {t u : Tok} {Q : Value → Shared → Prop} (S : St h₀ L s₁ vs news s) (hl : l.findIdx (· == 37) < l.length)
    (h : ∀ t s', St h₀ L s₁ vs news s' → Q (.int (l.findIdx (· == 37) : Nat) t) s') :
    wpAny (model prog w) A (call (.builtin "bytes.index") [.bytes l.toArray t, .int 37 u]) Q E s :=
  call_meets FX.slot (typeIs_bytes _ _ _) FX.entry (FX.args _ _) (index_meets l t u hl) (h _ _ (S.tok _))
end
end Mine

end

section
open PySem PySem.W PyProof.Rows PySem.Calls
set_option maxRecDepth 100000
namespace Mine
open Builtin
namespace FJ
theorem slot : Slot "bytes" "join" "bytes.join" :=
  .of (owner := "bytes") (n := "join") (by rw [typeLookup_type, builtinLookup_eq_fast]; kernel_rfl) (by decide +kernel) (by decide +kernel) (by decide +kernel)
    (by first | exact .inl (by decide +kernel) | exact .inr (by decide +kernel)) (by rw [isSubtype_type]; kernel_rfl)
theorem ty : typeOf (.builtin "bytes.join") = pure (.type "method_descriptor") := by show builtinType _ = _; rw [builtinType_eq_fast]; kernel_rfl
theorem entry : entryFor table "bytes.join" = some Builtin.«bytes.join» := entryFor_of_tree (by kernel_rfl)
theorem args (a b : Value) : argsOk "bytes.join" ⟨[a, b], []⟩ := by
  unfold argsOk; rw [signature?_of (id := "bytes.join") (n := ['n', 'i', 'o', 'j']) (o := ['s', 'e', 't', 'y', 'b']) (by kernel_rfl) FB.owner_bytes]; kernel_rfl
theorem take_eq {id : String} {b : Array UInt8} {t : Tok} : Bytes.takeBufferQuiet? id (.bytes b t) 0 = pure (some (b, none)) := by
  unfold Bytes.takeBufferQuiet? Bytes.takeBuffer?
  rw [KBy.special_eq KBy.look_buffer, KBy.own_buffer]
  show ((Bytes.buffer? id (.bytes b t) false >>= fun r => _).attempt >>= fun r => _) = _
  rw [KBy.buffer_eq]
  rfl
end FJ
/-- values that are octets -/
inductive BAre : List Value → List (List UInt8) → Prop
  | nil : BAre [] []
  | cons (l : List UInt8) (t : Tok) {vs : List Value} {ls : List (List UInt8)} (h : BAre vs ls) : BAre (.bytes l.toArray t :: vs) (l :: ls)
theorem BAre.len {vs : List Value} {ls : List (List UInt8)} (h : BAre vs ls) : vs.length = ls.length := by
  induction h with
  | nil => rfl
  | cons _ _ _ ih => simp [ih]
theorem BAre.app {vs ws : List Value} {ls ms : List (List UInt8)} (h : BAre vs ls) (h' : BAre ws ms) : BAre (vs ++ ws) (ls ++ ms) := by
  induction h with
  | nil => exact h'
  | cons l t _ ih => exact .cons l t ih
theorem BAre.get {vs : List Value} {ls : List (List UInt8)} (h : BAre vs ls) {i : Nat} {l : List UInt8} (hi : ls[i]? = some l) : ∃ t, vs[i]? = some (.bytes l.toArray t) := by
  induction h generalizing i with
  | nil => simp at hi
  | cons l' t _ ih =>
    cases i with
    | zero => simp at hi; subst hi; exact ⟨t, rfl⟩
    | succ i => simp at hi; simpa using ih hi
theorem BAre.take {vs : List Value} {ls : List (List UInt8)} (h : BAre vs ls) (k : Nat) : BAre (vs.take k) (ls.take k) := by
  induction h generalizing k with
  | nil => simpa using BAre.nil
  | cons l t _ ih =>
    cases k with
    | zero => exact .nil
    | succ k => exact .cons l t (ih k)
theorem BAre.drop {vs : List Value} {ls : List (List UInt8)} (h : BAre vs ls) (k : Nat) : BAre (vs.drop k) (ls.drop k) := by
  induction h generalizing k with
  | nil => simpa using BAre.nil
  | cons l t h ih =>
    cases k with
    | zero => exact .cons l t h
    | succ k => exact ih k

theorem joined_go (ps : List (Array UInt8)) (k : Nat) (acc : Array UInt8) : (ps.zipIdx k).foldl (fun out (x : Array UInt8 × Nat) => (if x.2 > 0 then out ++ (#[] : Array UInt8) else out) ++ x.1) acc = acc ++ (ps.map Array.toList).flatten.toArray := by
  induction ps generalizing k acc with
  | nil => simp
  | cons p r ih =>
    rw [List.zipIdx_cons, List.foldl_cons, ih]
    have e : p = p.toList.toArray := by simp
    by_cases h : k > 0
    · rw [if_pos h, Array.append_empty, List.map_cons, List.flatten_cons, Array.append_assoc]
      congr 1
      conv => lhs; rw [e]
      rw [List.append_toArray]
    · rw [if_neg h, List.map_cons, List.flatten_cons, Array.append_assoc]
      congr 1
      conv => lhs; rw [e]
      rw [List.append_toArray]
theorem joined_nil (ps : List (Array UInt8)) : Bytes.joined #[] ps = (ps.map Array.toList).flatten.toArray := by
  unfold Bytes.joined
  have := joined_go ps 0 #[]
  simpa using this

section
variable {prog : Program} {w : World} {A : Around} {E : Value → Shared → Prop} {s : Shared}
theorem letGo_nil {M : Model} (taken : List (Value × Option Value)) (hw : ∀ p ∈ taken, p.2 = none) (keep : List Value) {Q : Unit → Shared → Prop} (h : Q () s) : wpAny M A (Bytes.joinLetGo taken keep) Q E s := by
  induction taken with
  | nil => exact wpAny_pure h
  | cons p r ih =>
    obtain ⟨x, w'⟩ := p
    have : w' = none := hw _ (.head _)
    subst this
    unfold Bytes.joinLetGo
    refine wpAny_bind (wpAny_letGo ?_)
    exact ih fun p hp => hw p (.tail _ hp)
end
theorem one_split {α : Type} {M : Model} {A : Around} {E : Value → Shared → Prop} {s : Shared} {xs : List Value} {k : Value → Sem α} {d : Sem α} {Q : α → Shared → Prop} (h1 : ∀ x, xs = [x] → wpAny M A (k x) Q E s) (h2 : wpAny M A d Q E s) :
    wpAny M A (match xs.toArray with | #[x] => k x | _ => d) Q E s := by
  rcases xs with _ | ⟨v, _ | ⟨v2, r⟩⟩
  · exact h2
  · exact h1 v rfl
  · exact h2
theorem join_meets (t : Tok) (l : Addr) (vs : List Value) (ls : List (List UInt8)) (hB : BAre vs ls) (hz : ls.flatten.length ≤ 16777216) :
    Meets («bytes.join» ⟨[.bytes #[] t, .ref l], []⟩) (fun _ R s => s.heap.IsList l vs.toArray ∧ ∀ t' k, R (.ok (.ret (.bytes ls.flatten.toArray t'))) { s with toks := k }) := by
  refine .of_wp fun prog w A R s ⟨hl, hR⟩ => ?_
  show wpAny _ _ (selfAndOne _ ⟨[.bytes #[] t, .ref l], []⟩ >>= fun r => _) _ _ s
  refine wpAny_bind (wpAny_of_eq selfOne ?_)
  show wpAny _ _ (Bytes.joinItems (.ref l) >>= fun r => _) _ _ s
  refine wpAny_bind ?_
  unfold Bytes.joinItems
  refine wpAny_bind (wpAny_typeOf hl.typeIs ?_)
  refine bm_if_true rfl ?_
  refine wpAny_pure ?_
  obtain ⟨o, ho, hc, n, hd⟩ := hl
  refine wpAny_bind (wpAny_seqItems ho hd ?_)
  have hlen : vs.toArray.size = ls.length := by simpa using hB.len
  refine one_split (xs := vs) ?_ ?_
  · rintro x rfl
    cases hB with
    | cons l' t' h =>
    cases h
    refine wpAny_bind (wpAny_typeOf (typeIs_bytes s _ _) ?_)
    refine bm_if_true rfl ?_
    refine wpAny_bind (wpAny_rule ?_)
    refine wpAny_pure ⟨_, rfl, ?_⟩
    have := hR t' s.toks
    simpa using this
  · show wpAny _ _ (forIn [:vs.toArray.size] ((#[] : Array (Array UInt8)), ([] : List (Value × Option Value))) _ >>= fun r => _) _ _ s
    refine wpAny_bind ?_
    rw [Std.Legacy.Range.forIn_eq_forIn_range']
    refine wpAny_forIn_list _ (fun rest b s' => s' = s ∧ ∃ i, i ≤ ls.length ∧ rest = List.range' i (ls.length - i) ∧ b.1 = ((ls.take i).map List.toArray).toArray ∧ (∀ p ∈ b.2, p.2 = none ∧ p.1.onHeap = false)) _ ?_ ?_ _ _ ⟨rfl, 0, Nat.zero_le _, ?_, by simp, by simp⟩
    · rintro j rest ⟨parts, taken⟩ s' ⟨rfl, i, hi, hr, hb, ht⟩
      simp only at hb ht
      have hil : i < ls.length := by
        rcases Nat.lt_or_ge i ls.length with h | h
        · exact h
        · rw [Nat.sub_eq_zero_of_le h] at hr; cases hr
      obtain ⟨rfl, rfl⟩ : j = i ∧ rest = List.range' (i + 1) (ls.length - (i + 1)) := by
        have e : ls.length - i = (ls.length - (i + 1)) + 1 := by omega
        rw [e, List.range'_succ] at hr
        simpa using hr
      obtain ⟨t', hv⟩ := hB.get (List.getElem?_eq_getElem hil)
      refine wpAny_bind (wpAny_seqItems ho hd ?_)
      have hany : (Bytes.Kind.bytes == Bytes.Kind.bytearray || taken.any fun x => x.fst.onHeap) = false := by
        have : (taken.any fun x => x.fst.onHeap) = false := by
          rw [List.any_eq_false]
          intro p hp
          simp [(ht p hp).2]
        rw [this]; rfl
      refine bm_if_false hany ?_
      have hx : vs.toArray.getD j Value.none = .bytes (ls[j]).toArray t' := by
        simp [Array.getD_eq_getD_getElem?, hv]
      have hh : ∀ held, holding held (Bytes.takeBufferQuiet? "bytes.join" (vs.toArray.getD j Value.none) 0) = holding held (pure (some ((ls[j]).toArray, none))) := fun held => by rw [hx, FJ.take_eq]
      refine wpAny_bind ?_
      show wpAny _ _ (holding _ (Bytes.takeBufferQuiet? "bytes.join" (vs.toArray.getD j Value.none) 0)) _ _ _
      rw [hh]
      refine wpAny_holding (wpAny_pure ?_)
      show wpAny _ _ (seqItems? (.ref l) >>= fun r => _) _ _ _
      refine wpAny_bind (wpAny_seqItems ho hd ?_)
      refine bm_if_false (by simp) ?_
      refine wpAny_pure ⟨rfl, j + 1, hil, rfl, ?_, ?_⟩
      · show parts.push _ = _
        rw [hb, List.take_add_one, List.getElem?_eq_getElem hil, List.map_append]
        simp only [Option.toList_some, List.map_cons, List.map_nil, List.push_toArray]
      · intro p hp
        rcases List.mem_append.mp hp with hp | hp
        · exact ht p hp
        · rw [List.mem_singleton.mp hp, hx]
          exact ⟨rfl, rfl⟩
    · rintro ⟨parts, taken⟩ s' ⟨rfl, i, hi, hr, hb, ht⟩
      simp only at hb ht
      have hil : i = ls.length := by
        rcases Nat.lt_or_ge i ls.length with h | h
        · exfalso
          have e : ls.length - i = (ls.length - (i + 1)) + 1 := by omega
          rw [e, List.range'_succ] at hr
          cases hr
        · omega
      subst hil
      rw [List.take_length] at hb
      have hj : Bytes.joined #[] parts.toList = ls.flatten.toArray := by
        rw [joined_nil, hb]
        congr 2
        simp [List.map_map, Function.comp_def]
      have hsum : ∀ (xs : List (List UInt8)) (k : Nat), (xs.map List.toArray).foldl (fun x1 (x2 : Array UInt8) => x1 + x2.size) k = k + xs.flatten.length := fun xs => by
        induction xs with
        | nil => intro k; simp
        | cons x r ih => intro k; rw [List.map_cons, List.foldl_cons, ih]; simp; omega
      refine wpAny_bind (wpAny_of_eq (a := #[]) rfl ?_)
      refine bm_if_false (KBy.tooLong_not ?_) ?_
      · rw [hb]
        have h5 := hsum ls (0 * (((List.map List.toArray ls).toArray).size - 1))
        rw [List.foldl_toArray]
        show List.foldl (fun x1 (x2 : Array UInt8) => x1 + x2.size) (0 * (((List.map List.toArray ls).toArray).size - 1)) (List.map List.toArray ls) ≤ _
        rw [h5]
        omega
      show wpAny _ _ (mkBytes (Bytes.joined #[] parts.toList) >>= fun r => _) _ _ _
      rw [hj]
      refine wpAny_bind (wpAny_mkBytes ?_ (by rw [sizeLine_eq]; simpa using hz))
      refine wpAny_bind (wpAny_holding (wpAny_point ?_))
      refine wpAny_bind (letGo_nil _ (fun p hp => (ht p hp).1) _ ?_)
      exact wpAny_pure ⟨_, rfl, hR _ _⟩
    · simp [hlen, Std.Legacy.Range.size]
section
variable {prog : Program} {w : World} {M : Model} {A : Around} {E : Value → Shared → Prop} {s : Shared} {h₀ : Heap} {L : Addr} {s₁ : Shared} {vs : List (Str × Value)} {news : List (Addr × Obj)}
theorem m_join {b : Array UInt8} {t : Tok} {pl : Sem Bool} {Q : Value × List Value → Shared → Prop} (h : Q (.builtin "bytes.join", [.bytes b t]) s) : wpAny M A (getMethod (.bytes b t) "join" pl) Q E s := by
  with_reducible exact KBd.method_of (.bytes b t) (typeIs_bytes _ _ _) FJ.slot FJ.ty KBd.noRef h
theorem c_join {t : Tok} {l : Addr} {xs : List Value} {ls : List (List UInt8)} {Q : Value → Shared → Prop} (S : St h₀ L s₁ vs news s) (hl : s.heap.IsList l xs.toArray) (hB : BAre xs ls) (hz : ls.flatten.length ≤ 16777216)
    (h : ∀ t s', St h₀ L s₁ vs news s' → Q (.bytes ls.flatten.toArray t) s') :
    wpAny (model prog w) A (call (.builtin "bytes.join") [.bytes #[] t, .ref l]) Q E s :=
  call_meets FJ.slot (typeIs_bytes _ _ _) FJ.entry (FJ.args _ _) (join_meets t l xs ls hB hz) ⟨hl, fun t' k => h t' _ (S.tok k)⟩
end
end Mine

end

section
open PySem PySem.W PyProof.Rows PySem.Calls
set_option maxRecDepth 100000
namespace Mine
def cnt (bs : List Bool) : Nat := (bs.filter id).length
def bval (b : Bool) : Int := if b then 1 else 0
section
variable {prog : Program} {w : World} {A : Around} {R : Result → Shared → Prop} {I : Addr} {fp wr : List Addr} {n : Nat} {P : Nat → Value → Prop} {Sw : Nat → Heap → Prop}
theorem sum_loop (W : Walks prog w A.in1 I fp wr n P Sw) (val : Nat → Bool) (hval : ∀ i v, P i v → v = .bool (val i)) (hn : n ≤ 1000000) (S : Addr) (hSf : S ∉ fp) :
    ∀ (k i : Nat) (s : Shared) (tA : Tok) (c : Nat), n - i = k → i ≤ n → Sw i s.heap → s.heap.get? S = some { cls := .type "list", dict := none, data := .seq #[.int (cnt ((List.range i).map val) : Nat) tA] c, slots := #[] } →
    (∀ h' tk t', (∀ b o, b ∉ wr → b ≠ S → s.heap.get? b = some o → h'.get? b = some o) → R (.ok (.ret (.int (cnt ((List.range n).map val) : Nat) t'))) { s with heap := h', toks := tk }) →
    codeAny (model prog w) A (.builtin "sum.loop" ⟨[.ref I, .ref S, rawInt 0, rawInt 0], []⟩) R s := by
  have hSw : S ∉ wr := fun h => hSf (W.sub _ h)
  have step : ∀ i, ((cnt ((List.range i).map val) : Nat) : Int) + bval (val i) = (cnt ((List.range (i + 1)).map val) : Nat) := fun i => by
    unfold cnt bval
    simp only [List.range_succ, List.map_append, List.filter_append, List.length_append, List.map_cons, List.map_nil]
    cases val i <;> simp
  have le : ∀ i, cnt ((List.range i).map val) ≤ i := fun i => by
    unfold cnt
    refine Nat.le_trans (List.length_filter_le _ _) ?_
    simp
  intro k
  induction k with
  | zero =>
    intro i s tA c hk hi hst hS hR
    have hin : i = n := by omega
    subst hin
    refine codeAny_builtin F.entry_sum_loop ?_
    rw [Around.under_plainId F.plain_sum_loop _]
    show wpAny _ A.in1 (seqItems? (.ref S) >>= _) _ _ s
    refine wpAny_bind (wpAny_seqItems hS rfl ?_)
    show wpAny _ A.in1 (tryCatch (pyNext (.ref I)) _ >>= _) _ _ s
    refine wpAny_bind (wpAny_tryCatch (W.done s _ _ hst fun h' tk hk' => ?_))
    exact wpAny_pure (hR h' tk tA fun b o hbw _ e => hk' b o hbw e)
  | succ k ih =>
    intro i s tA c hk hi hst hS hR
    have hlt : i < n := by omega
    refine codeAny_builtin F.entry_sum_loop ?_
    rw [Around.under_plainId F.plain_sum_loop _]
    show wpAny _ A.in1 (seqItems? (.ref S) >>= _) _ _ s
    refine wpAny_bind (wpAny_seqItems hS rfl ?_)
    show wpAny _ A.in1 (tryCatch (pyNext (.ref I)) _ >>= _) _ _ s
    refine wpAny_bind (wpAny_tryCatch (W.item i s _ _ hlt hst fun v h' tk hP hst' hk' => ?_))
    obtain ⟨b, hb⟩ : ∃ b, val i = b := ⟨_, rfl⟩
    have hv := hval i v hP
    rw [hb] at hv
    subst hv
    have hS' := hk' S _ hSw hS
    have h1 := le i
    have h3 := step i
    rw [hb] at h3
    have hb01 : (if b = true then (1 : Int) else 0) = 0 ∨ (if b = true then (1 : Int) else 0) = 1 := by cases b <;> simp
    have h3' : ((cnt ((List.range i).map val) : Nat) : Int) + (if b = true then 1 else 0) = (cnt ((List.range (i + 1)).map val) : Nat) := h3
    show wpAny _ A.in1 (if (_ && _ : Bool) = true then (mkInt (((cnt ((List.range i).map val) : Nat) : Int) + (if b = true then 1 else 0)) >>= _) else _) _ _ _
    refine bm_if_true (Bool.and_eq_true_iff.mpr ⟨Bool.and_eq_true_iff.mpr ⟨decide_eq_true ?_, decide_eq_true ?_⟩, Bool.and_eq_true_iff.mpr ⟨decide_eq_true ?_, decide_eq_true ?_⟩⟩) ?_
    · omega
    · omega
    · omega
    · omega
    refine wpAny_bind (wpAny_mkInt ?_)
    rw [h3']
    refine wpAny_bind ?_
    refine wpAny_updateSeq hS' rfl (wpAny_pure ⟨plainId_quiet F.plain_sum_loop _, ih (i + 1) _ tk _ (by omega) hlt (W.frame _ _ _ hst' fun b hb o e => ?_) (Heap.get?_update_self _ hS' rfl) fun h'' tk'' t'' hk'' => ?_⟩)
    · exact (Heap.get?_update_other _ _ (fun h : S = b => hSf (by rw [h]; exact hb))).trans e
    · exact hR h'' tk'' t'' fun b o hbw hbS e => hk'' b o hbw hbS ((Heap.get?_update_other _ _ (Ne.symm hbS)).trans (hk' b o hbw e))
end
section
variable {prog : Program} {w : World} {A : Around} {E : Value → Shared → Prop} {s : Shared} {h₀ : Heap} {L : Addr} {s₁ : Shared} {vs : List (Str × Value)} {news : List (Addr × Obj)}
theorem call_sum_bools {x : Value} {Q : Value → Shared → Prop}
    (h : wpAny (model prog w) A.in1 (pyIter x) (fun it s₂ => ∃ I fp wr n P Sw val, it = .ref I ∧ Walks prog w A.in1 I fp wr n P Sw ∧ Sw 0 s₂.heap ∧ (∀ b ∈ fp, b < s₂.heap.objs.size) ∧
      (∀ i v, P i v → v = .bool (val i)) ∧ n ≤ 1000000 ∧
      ∀ h' tk t', (∀ b o, b ∉ wr → s₂.heap.get? b = some o → h'.get? b = some o) → Q (.int (cnt ((List.range n).map val) : Nat) t') { s₂ with heap := h', toks := tk }) E s) :
    wpAny (model prog w) A (call (.builtin "sum") [x]) Q E s := by
  refine call_function_tree F.kind_sum F.plain_sum F.entry_sum (F.args_sum1 _) ?_
  unfold Builtin.«sum»
  simp only [List.length_cons, List.length_nil]
  rw [if_neg (by decide)]
  refine wpAny_bind (wpAny_of_eq (show Builtin.Builtins.bindParams "sum" ["start"] 0 { } = pure [none] from rfl) ?_)
  refine wpAny_bind (wpAny_mono h (fun it s₂ h₂ => ?_) fun _ _ e => e)
  obtain ⟨I, fp, wr, n, P, Sw, val, rfl, W, hst, hfp, hval, hfit, hQ⟩ := h₂
  refine wpAny_bind (wpAny_mkInt ?_)
  refine wpAny_bind (wpAny_pure ?_)
  simp only [List.forIn_cons, List.forIn_nil]
  refine wpAny_bind (wpAny_bind (wpAny_bind (wpAny_isInstance (T := "int") (b := false) (typeIs_int _ _ _) PySem.sub_int_str ?_)))
  simp only [Bool.false_eq_true, if_false]
  refine wpAny_pure (wpAny_bind (wpAny_bind (wpAny_isInstance (T := "int") (b := false) (typeIs_int _ _ _) PySem.sub_int_bytes ?_)))
  simp only [Bool.false_eq_true, if_false]
  refine wpAny_pure (wpAny_bind (wpAny_bind (wpAny_isInstance (T := "int") (b := false) (typeIs_int _ _ _) PySem.sub_int_bytearray ?_)))
  simp only [Bool.false_eq_true, if_false]
  refine wpAny_pure (wpAny_pure ?_)
  refine wpAny_bind (wpAny_newObj_type ?_)
  have hSf : s₂.heap.objs.size ∉ fp := fun hm => Nat.lt_irrefl _ (hfp _ hm)
  refine wpAny_pure ⟨plainId_quiet F.plain_sum_loop _, sum_loop W val hval hfit s₂.heap.objs.size hSf n 0 _ s₂.toks 0 rfl (Nat.zero_le _)
    (W.frame _ _ _ hst fun b _ o e => Heap.get?_push_of_some _ e) (Heap.get?_push_size _ rfl) fun h' tk t' hk => ?_⟩
  exact hQ h' tk t' fun b o hbw e => hk b o hbw (Nat.ne_of_lt (Heap.lt_size e)) (Heap.get?_push_of_some _ e)
end
end Mine

end

section
open PySem PySem.W PyProof.Rows PySem.Calls
set_option maxRecDepth 100000
namespace Mine
/-- an iterator stands ready at a state -/
def Ready (prog : Program) (w : World) (A : Around) (target : Expr) (h₀ : Heap) (L : Addr) (news : List (Addr × Obj)) (n : Nat) (P : Nat → Value → Heap → Prop) (I : Addr) (s : Shared) : Prop :=
  ∃ fp wr Sw, Its prog w A target I fp wr n P Sw ∧ (∀ b ∈ fp, b < s.heap.objs.size) ∧ L ∉ fp ∧ L ∉ wr ∧ (∀ b ∈ wr, h₀.get? b = none) ∧ (∀ p ∈ news, p.1 ∉ wr) ∧ Sw 0 s.heap

theorem Its.map {prog : Program} {w : World} {A : Around} {target : Expr} {I : Addr} {fp wr : List Addr} {n n' : Nat} {P P' : Nat → Value → Heap → Prop} {Sw : Nat → Heap → Prop} (W : Its prog w A target I fp wr n P Sw) (hn : n = n') (hP : ∀ i v h, P i v h → P' i v h) :
    Its prog w A target I fp wr n' P' Sw := by
  subst hn
  exact { sub := W.sub, frame := W.frame, item := fun i s Q E hi hs hQ => W.item i s Q E hi hs fun v h' tk hp => hQ v h' tk (hP _ _ _ hp), done := W.done, self := W.self }
section
variable {prog : Program} {w : World} {M : Model} {A : Around} {E : Value → Shared → Prop} {s : Shared} {h₀ : Heap} {L : Addr} {s₁ : Shared} {vs : List (Str × Value)} {news : List (Addr × Obj)}
theorem St.new_ge (S : St h₀ L s₁ vs news s) {b : Addr} (h : s.heap.objs.size ≤ b) : h₀.get? b = none ∧ L ≠ b ∧ ∀ p ∈ news, p.1 ≠ b := by
  have h1 := ltN S.Llt
  have h2 : h₀.objs.size ≤ L := S.above
  exact ⟨Heap.get?_none_of_le (Nat.le_trans h2 (Nat.le_of_lt (Nat.lt_of_lt_of_le h1 h))), neN (Nat.ne_of_lt (Nat.lt_of_lt_of_le h1 h)), fun p hp => neN (Nat.ne_of_lt (Nat.lt_of_lt_of_le (ltN (S.lt p hp)) h))⟩
theorem St.notList (S : St h₀ L s₁ vs news s) {l : Addr} {xs : Array Value} (hl : s.heap.IsList l xs) : L ≠ l := by
  obtain ⟨m, F, _⟩ := S.fr
  obtain ⟨o, es, ep, h1, h2, _, _⟩ := F.ns
  obtain ⟨o', h1', _, k, h2'⟩ := hl
  rintro rfl
  rw [h1] at h1'
  cases h1'
  rw [h2] at h2'
  cases h2'
theorem i_list {l : Addr} {xs : List Value} {Q : Value → Shared → Prop} (hh : A.handled = none) (S : St h₀ L s₁ vs news s) (hl : s.heap.IsList l xs.toArray)
    (h : ∀ I s', St h₀ L s₁ vs news s' → (∀ x px, Ready prog w A (.Name x px) h₀ L news xs.length (fun i v _ => xs[i]? = some v) I s') → Q (.ref I) s') :
    wpAny (model prog w) A (pyIter (.ref l)) Q E s := by
  have hlt : l < s.heap.objs.size := by obtain ⟨o, ho, _⟩ := id hl; exact Heap.lt_size ho
  have hne : l ≠ s.heap.objs.size := Nat.ne_of_lt hlt
  refine wpAny_pyIter_list hl ?_
  have Sp := S.push { cls := .type "list_iterator", data := .fields #[.ref l, .int 0 0] }
  obtain ⟨g1, g2, g3⟩ := S.new_ge (Nat.le_refl _)
  have W : Walks prog w A s.heap.objs.size [s.heap.objs.size, l] [s.heap.objs.size] xs.length (fun i v => xs[i]? = some v) (fun i h => h.IsListIter s.heap.objs.size l i ∧ h.IsList l xs.toArray) := by
    have W := Walks.list (prog := prog) (w := w) hh s.heap.objs.size l hne xs.toArray
    simpa using W
  refine h _ _ (Sp.weak (fun _ h => h) (fun p hp => .tail _ hp)) fun x px => ⟨_, _, _, Its.ofName W, ?_, ?_, ?_, ?_, ?_, ⟨⟨_, Heap.get?_push_size _ rfl, rfl, rfl⟩, hl.push _⟩⟩
  · intro b hb
    show b < (s.heap.push _).objs.size
    rw [Heap.size_push]
    rcases List.mem_cons.mp hb with rfl | hb
    · exact Nat.lt_succ_self _
    · rw [List.mem_singleton.mp hb]; exact Nat.lt_succ_of_lt hlt
  · intro hb
    rcases List.mem_cons.mp hb with e | hb
    · exact g2 e
    · exact S.notList hl (List.mem_singleton.mp hb)
  · simpa using g2
  · intro b hb; rw [List.mem_singleton.mp hb]; exact g1
  · intro p hp; simpa using g3 p hp
theorem c_zip {l1 l2 : Addr} {xs ys : List Value} {Q : Value → Shared → Prop} (hh : A.handled = none) (S : St h₀ L s₁ vs news s) (hl1 : s.heap.IsList l1 xs.toArray) (hl2 : s.heap.IsList l2 ys.toArray)
    (h : ∀ I s', St h₀ L s₁ vs news s' → (∀ elts k px, Ready prog w A (.Tuple elts k px) h₀ L news (min xs.length ys.length) (fun i v h => ∃ T vals, v = .ref T ∧ (∃ x y, xs[i]? = some x ∧ ys[i]? = some y ∧ vals = #[x, y]) ∧ h.IsTuple T vals) I s') → Q (.ref I) s') :
    wpAny (model prog w) A (call (.type "zip") [.ref l1, .ref l2]) (fun x s₂ => wpAny (model prog w) A (pyIter x) Q E s₂) E s := by
  have hlt1 : l1 < s.heap.objs.size := by obtain ⟨o, ho, _⟩ := id hl1; exact Heap.lt_size ho
  have hlt2 : l2 < s.heap.objs.size := by obtain ⟨o, ho, _⟩ := id hl2; exact Heap.lt_size ho
  have n1 := ltN hlt1
  have n2 := ltN hlt2
  refine call_zip_2 hl1 hl2 fun h' z1 z2 z3 z4 z5 z6 z7 => ?_
  have Sg : St h₀ L s₁ vs news { s with heap := h' } := S.grow s.toks z7
  have hd : ZipApart (s.heap.objs.size + 4) (s.heap.objs.size + 2) (s.heap.objs.size + 3) s.heap.objs.size (s.heap.objs.size + 1) l1 l2 := by
    constructor <;> exact neN (by omega)
  have hW := fun elts k px => (Its.ofTuple (elts := elts) (k := k) (px := px) (WalksT.zip2 (prog := prog) (w := w) hh _ _ _ _ _ l1 l2 hd xs.toArray ys.toArray).toU).map
    (n' := min xs.length ys.length) (P' := fun i v h => ∃ T vals, v = .ref T ∧ (∃ x y, xs[i]? = some x ∧ ys[i]? = some y ∧ vals = #[x, y]) ∧ h.IsTuple T vals) (by simp) (fun i v h hp => by simpa using hp)
  have hsw : _ := (⟨z1, z2, ⟨_, _, z3⟩, z4, z5, hl1.at fun o e => z7 _ o e, hl2.at fun o e => z7 _ o e⟩ : IsZip h' (s.heap.objs.size + 4) (s.heap.objs.size + 2) (s.heap.objs.size + 3) .none ∧ IsPair h' (s.heap.objs.size + 2) (.ref s.heap.objs.size) (.ref (s.heap.objs.size + 1)) ∧ (∃ a b, IsPair h' (s.heap.objs.size + 3) a b) ∧ h'.IsListIter s.heap.objs.size l1 0 ∧ h'.IsListIter (s.heap.objs.size + 1) l2 0 ∧ h'.IsList l1 xs.toArray ∧ h'.IsList l2 ys.toArray)
  refine (hW [] 0 ⟨0, 0, 0, 0⟩).self 0 _ _ _ hsw ?_
  refine h _ _ Sg fun elts k px => ⟨_, _, _, hW elts k px, ?_, ?_, ?_, ?_, ?_, hsw⟩
  · intro b hb
    show (b : Nat) < h'.objs.size
    rw [z6]
    simp only [List.mem_cons, List.not_mem_nil, or_false] at hb
    rcases hb with rfl | rfl | rfl | rfl | rfl | rfl | rfl <;> first | exact Nat.add_lt_add_left (by decide) _ | exact Nat.lt_add_of_pos_right (by decide) | exact Nat.lt_of_lt_of_le n1 (Nat.le_add_right _ _) | exact Nat.lt_of_lt_of_le n2 (Nat.le_add_right _ _)
  · intro hb
    simp only [List.mem_cons, List.not_mem_nil, or_false] at hb
    rcases hb with e | e | e | e | e | e | e <;> first | exact S.notList hl1 e | exact S.notList hl2 e | exact (S.new_ge (by first | exact Nat.le_refl _ | exact Nat.le_add_right _ _)).2.1 e
  · intro hb
    simp only [List.mem_cons, List.not_mem_nil, or_false] at hb
    rcases hb with e | e | e | e <;> exact (S.new_ge (by first | exact Nat.le_refl _ | exact Nat.le_add_right _ _)).2.1 e
  · intro b hb
    simp only [List.mem_cons, List.not_mem_nil, or_false] at hb
    refine (S.new_ge ?_).1
    rcases hb with rfl | rfl | rfl | rfl <;> first | exact Nat.le_refl _ | exact Nat.le_add_right _ _
  · intro p hp hb
    simp only [List.mem_cons, List.not_mem_nil, or_false] at hb
    rcases hb with e | e | e | e <;> exact (S.new_ge (by first | exact Nat.le_refl _ | exact Nat.le_add_right _ _)).2.2 p hp e
theorem c_enum {l : Addr} {xs : List Value} {Q : Value → Shared → Prop} (hh : A.handled = none) (S : St h₀ L s₁ vs news s) (hl : s.heap.IsList l xs.toArray)
    (h : ∀ I s', St h₀ L s₁ vs news s' → (∀ elts k px, Ready prog w A (.Tuple elts k px) h₀ L news xs.length (fun i v h => ∃ T vals, v = .ref T ∧ (∃ t x, xs[i]? = some x ∧ vals = #[.int i t, x]) ∧ h.IsTuple T vals) I s') → Q (.ref I) s') :
    wpAny (model prog w) A (call (.type "enumerate") [.ref l]) (fun x s₂ => wpAny (model prog w) A (pyIter x) Q E s₂) E s := by
  have hlt : l < s.heap.objs.size := by obtain ⟨o, ho, _⟩ := id hl; exact Heap.lt_size ho
  have n1 := ltN hlt
  refine call_enumerate_list hl fun h' z1 z2 z6 z7 => ?_
  have Sg : St h₀ L s₁ vs news { s with heap := h' } := S.grow s.toks z7
  have hW := fun elts k px => (Its.ofTuple (elts := elts) (k := k) (px := px) (WalksT.enumerate (prog := prog) (w := w) hh (s.heap.objs.size + 1) s.heap.objs.size l (neN (by omega)) (neN (by omega)) (neN (by omega)) xs.toArray).toU).map
    (n' := xs.length) (P' := fun i v h => ∃ T vals, v = .ref T ∧ (∃ t x, xs[i]? = some x ∧ vals = #[.int i t, x]) ∧ h.IsTuple T vals) (by simp) (fun i v h hp => by simpa using hp)
  have hsw : _ := (⟨⟨_, z1⟩, z2, hl.at fun o e => z7 _ o e⟩ : (∃ old, IsEnum h' (s.heap.objs.size + 1) s.heap.objs.size (0 : Nat) old) ∧ h'.IsListIter s.heap.objs.size l 0 ∧ h'.IsList l xs.toArray)
  refine (hW [] 0 ⟨0, 0, 0, 0⟩).self 0 _ _ _ hsw ?_
  refine h _ _ Sg fun elts k px => ⟨_, _, _, hW elts k px, ?_, ?_, ?_, ?_, ?_, hsw⟩
  · intro b hb
    show (b : Nat) < h'.objs.size
    rw [z6]
    simp only [List.mem_cons, List.not_mem_nil, or_false] at hb
    rcases hb with rfl | rfl | rfl <;> first | exact Nat.add_lt_add_left (by decide) _ | exact Nat.lt_add_of_pos_right (by decide) | exact Nat.lt_of_lt_of_le n1 (Nat.le_add_right _ _)
  · intro hb
    simp only [List.mem_cons, List.not_mem_nil, or_false] at hb
    rcases hb with e | e | e <;> first | exact S.notList hl e | exact (S.new_ge (by first | exact Nat.le_refl _ | exact Nat.le_add_right _ _)).2.1 e
  · intro hb
    simp only [List.mem_cons, List.not_mem_nil, or_false] at hb
    rcases hb with e | e <;> exact (S.new_ge (by first | exact Nat.le_refl _ | exact Nat.le_add_right _ _)).2.1 e
  · intro b hb
    simp only [List.mem_cons, List.not_mem_nil, or_false] at hb
    refine (S.new_ge ?_).1
    rcases hb with rfl | rfl <;> first | exact Nat.le_refl _ | exact Nat.le_add_right _ _
  · intro p hp hb
    simp only [List.mem_cons, List.not_mem_nil, or_false] at hb
    rcases hb with e | e <;> exact (S.new_ge (by first | exact Nat.le_refl _ | exact Nat.le_add_right _ _)).2.2 p hp e

theorem c_sumb {l : Addr} {xs : List Value} {bs : List Bool} {Q : Value → Shared → Prop} (hh : A.in1.handled = none) (S : St h₀ L s₁ vs news s) (hl : s.heap.IsList l xs.toArray) (hb : xs = bs.map Value.bool) (hn : bs.length ≤ 1000000)
    (h : ∀ t s', St h₀ L s₁ vs news s' → Q (.int (cnt bs : Nat) t) s') : wpAny (model prog w) A (call (.builtin "sum") [.ref l]) Q E s := by
  have hlt : l < s.heap.objs.size := by obtain ⟨o, ho, _⟩ := id hl; exact Heap.lt_size ho
  have hne : l ≠ s.heap.objs.size := Nat.ne_of_lt hlt
  refine call_sum_bools (wpAny_pyIter_list hl ?_)
  have Sp := S.push { cls := .type "list_iterator", data := .fields #[.ref l, .int 0 0] }
  obtain ⟨g1, g2, g3⟩ := S.new_ge (Nat.le_refl _)
  subst hb
  have W : Walks prog w A.in1 s.heap.objs.size [s.heap.objs.size, l] [s.heap.objs.size] bs.length (fun i v => (bs.map Value.bool)[i]? = some v) (fun i h => h.IsListIter s.heap.objs.size l i ∧ h.IsList l (bs.map Value.bool).toArray) := by
    have W := Walks.list (prog := prog) (w := w) hh s.heap.objs.size l hne (bs.map Value.bool).toArray
    simpa using W
  refine ⟨_, _, _, _, _, _, fun i => bs.getD i false, rfl, W, ⟨⟨_, Heap.get?_push_size _ rfl, rfl, rfl⟩, hl.push _⟩, ?_, ?_, hn, ?_⟩
  · intro b hb
    show b < (s.heap.push _).objs.size
    rw [Heap.size_push]
    rcases List.mem_cons.mp hb with rfl | hb
    · exact Nat.lt_succ_self _
    · rw [List.mem_singleton.mp hb]; exact Nat.lt_succ_of_lt hlt
  · intro i v hv
    rw [List.getElem?_map] at hv
    cases hbi : bs[i]? with
    | none => rw [hbi] at hv; cases hv
    | some x =>
      rw [hbi] at hv
      show v = .bool (bs.getD i false)
      rw [List.getD_eq_getElem?_getD, hbi]
      exact (Option.some.inj hv).symm
  · intro h' tk t' hk
    have e : (List.range bs.length).map (fun i => bs.getD i false) = bs := by
      apply List.ext_getElem
      · simp
      · intro i h1 h2
        simp only [List.getElem_map, List.getElem_range]
        rw [List.getD_eq_getElem?_getD, List.getElem?_eq_getElem h2]; rfl
    rw [e]
    obtain ⟨m, F, hm⟩ := S.fr
    refine h t' _ (S.of (k := tk) ⟨F.ns.at' fun o e => hk _ o (by simpa using g2) (Heap.get?_push_of_some _ e), fun b o e => hk b o (fun hb => ?_) (Heap.get?_push_of_some _ (F.keep b o e)), F.above⟩ hm fun p hp => ⟨hk _ _ (by simpa using g3 p hp) (Heap.get?_push_of_some _ (S.nw p hp).1), (S.nw p hp).2⟩)
    rw [List.mem_singleton.mp hb, g1] at e; cases e
theorem c_min {l : Addr} {xs : List Value} {ns : List Int} {Q : Value → Shared → Prop} (hh : A.handled = none) (S : St h₀ L s₁ vs news s) (hl : s.heap.IsList l xs.toArray) (hi : IntsAre xs ns) (hne : 0 < ns.length)
    (h : ∀ (m : Int) t s', m ∈ ns → (∀ a, a ∈ ns → m ≤ a) → St h₀ L s₁ vs news s' → Q (.int m t) s') : wpAny (model prog w) A (call (.builtin "min") [.ref l]) Q E s := by
  obtain ⟨m, F, hm⟩ := S.fr
  exact min_list_N hh F S.nw hl hi hne fun h' M t tk F' N' h1 h2 => h M t _ h1 h2 (S.of F' hm N')
theorem o_ladd {a b : Addr} {xs ys : List Value} {Q : Value → Shared → Prop} (S : St h₀ L s₁ vs news s) (ha : s.heap.IsList a xs.toArray) (hb : s.heap.IsList b ys.toArray) (hz : xs.length + ys.length ≤ 16777216)
    (h : ∀ D s', St h₀ L s₁ vs ((D, listOf (xs ++ ys).toArray 0) :: news) s' → (∀ p ∈ news, p.1 < D) → Q (.ref D) s') : wpAny (model prog w) A (binaryOp .Add (.ref a) (.ref b)) Q E s := by
  obtain ⟨m, F, hm⟩ := S.fr
  exact PyProof.Rows.add_lists F S.nw ha hb (fun h' F' N' => h _ _ (S.of (k := s.toks) F' hm N') S.lt) (by rw [sizeLine_eq]; exact hz)
theorem s_lfrom {value slice : Expr} {l : Addr} {xs : List Value} {k : Int} {u : Tok} {Q : Value → Shared → Prop} (S : St h₀ L s₁ vs news s) (hl : s.heap.IsList l xs.toArray) (h0 : 0 ≤ k) (hz : xs.length ≤ 1000000)
    (h : ∀ D s', St h₀ L s₁ vs ((D, listOf (xs.drop k.toNat).toArray 0) :: news) s' → Q (.ref D) s')
    (hs : subscripted slice false (.ref l) (.ref s.heap.objs.size) = operate [.ref s.heap.objs.size, .ref l] (getItem (.ref l) (.ref s.heap.objs.size)) := by with_unfolding_all rfl)
    (ht : ∀ r, letTemporaryGo value (.ref l) r = pure () := by intro _; with_unfolding_all rfl) :
    wpAny (model prog w) A (subscriptTail value slice (.ref l) (.ref s.heap.objs.size)) Q E { s with heap := s.heap.push { cls := .type "slice", data := .fields #[.int k u, .none, .none] } } := by
  obtain ⟨m, F, hm⟩ := S.fr
  have ex : k = (k.toNat : Int) := by omega
  have e : slicePick xs.toArray (some k) none none = (xs.drop k.toNat).toArray := by
    rw [ex, slicePick_from' xs.toArray k.toNat]
    simp [← ex]
  refine slice_list F S.nw hl (.int _ _) .none (fun h' F' N' => ?_) hs ht (by rw [sizeLine_eq]; simp; omega)
  rw [e] at N'
  exact h _ _ (S.of (k := s.toks) F' hm N')
theorem s_lupto {value slice : Expr} {l : Addr} {xs : List Value} {k : Int} {u : Tok} {Q : Value → Shared → Prop} (S : St h₀ L s₁ vs news s) (hl : s.heap.IsList l xs.toArray) (h0 : 0 ≤ k) (hz : xs.length ≤ 1000000)
    (h : ∀ D s', St h₀ L s₁ vs ((D, listOf (xs.take k.toNat).toArray 0) :: news) s' → Q (.ref D) s')
    (hs : subscripted slice false (.ref l) (.ref s.heap.objs.size) = operate [.ref s.heap.objs.size, .ref l] (getItem (.ref l) (.ref s.heap.objs.size)) := by with_unfolding_all rfl)
    (ht : ∀ r, letTemporaryGo value (.ref l) r = pure () := by intro _; with_unfolding_all rfl) :
    wpAny (model prog w) A (subscriptTail value slice (.ref l) (.ref s.heap.objs.size)) Q E { s with heap := s.heap.push { cls := .type "slice", data := .fields #[.none, .int k u, .none] } } := by
  obtain ⟨m, F, hm⟩ := S.fr
  have ex : k = (k.toNat : Int) := by omega
  have e : slicePick xs.toArray none (some k) none = (xs.take k.toNat).toArray := by
    rw [ex, slicePick_upto' xs.toArray k.toNat]
    simp [← ex]
  refine slice_list F S.nw hl .none (.int _ _) (fun h' F' N' => ?_) hs ht (by rw [sizeLine_eq]; simp; omega)
  rw [e] at N'
  exact h _ _ (S.of (k := s.toks) F' hm N')
end
end Mine

end

section
open PySem PySem.W PyProof.Rows PySem.Calls
set_option maxRecDepth 100000
namespace Mine
section
variable {prog : Program} {w : World} {M : Model} {A : Around} {E : Value → Shared → Prop} {s : Shared} {h₀ : Heap} {s₁ : Shared} {vs : List (Str × Value)} {news : List (Addr × Obj)} {env : Env}
  {elt target iter : Expr} {ifs : List Expr} {scope : Scope} {pos : Pos} {cl : List (Str × Addr)} {I : Addr} {n : Nat} {P : Nat → Value → Heap → Prop}
section
variable (R : Ready prog w A target h₀ env.locals news n P I s) (S : St h₀ env.locals s₁ vs news s)
    (hn : n ≤ 1000000) (J : Nat → List Value → Prop) (h0 : J 0 [])
    (turn : ∀ C D oL i v ys c s' own, ObjHas oL vs → h₀.objs.size ≤ C → (∀ p ∈ news, p.1 ≠ C) → env.locals ≠ C → D ≠ env.locals → D ≠ C → (∀ p ∈ own, p.1 ≠ D ∧ p.1 ≠ C ∧ p.1 ≠ env.locals) → i < n → P i v s'.heap → J i ys → ys.length ≤ i →
      St h₀ C s₁ [] ((D, listOf ys.toArray c) :: ((env.locals, oL) :: news ++ own)) s' →
      wpAny (model prog w) A (assign target (compEnvC scope cl C env) v) (fun _ s₂ => wpAny (model prog w) A (testsOf ifs (compEnvC scope cl C env)) (fun ok s₃ =>
        if ok = true then wpAny (model prog w) A (eval elt (compEnvC scope cl C env)) (fun y s₄ => J (i + 1) (ys ++ [y]) ∧ ∃ oL, ObjHas oL vs ∧ St h₀ C s₁ [] ((D, listOf ys.toArray c) :: ((env.locals, oL) :: news ++ own)) s₄) (fun _ _ => False) s₃
        else J (i + 1) ys ∧ ∃ oL, ObjHas oL vs ∧ St h₀ C s₁ [] ((D, listOf ys.toArray c) :: ((env.locals, oL) :: news ++ own)) s₃) (fun _ _ => False) s₂) (fun _ _ => False) s')
include R S hn h0 turn
theorem lc_ev {Q : Value → Shared → Prop}
    (done : ∀ ys D c s', J n ys → ys.length ≤ n → (∀ p ∈ news, p.1 ≠ D) → St h₀ env.locals s₁ vs ((D, listOf ys.toArray c) :: news) s' → Q (.ref D) s')
    (hcell : ∀ x ∈ scope.names, x.2 ≠ .cell := by decide) (hkind : scope.kind = .function := by rfl) : CompIt prog w A E env elt target iter ifs scope pos cl none Q (.ref I) s := by
  obtain ⟨fp, wr, Sw, W, h1, hLf, h2, h3, h4, h5⟩ := R
  exact comp_ev W S h1 h2 h3 h4 h5 hn J h0 (fun C D oL i v ys c s' own g1 g2 g3 g4 g5 g6 g7 => turn C D oL i v ys c s' own g1 g2 g3 g4 g5 g6 (fun p hp => ⟨(g7 p hp).1, (g7 p hp).2.1, fun e => hLf (e ▸ (g7 p hp).2.2)⟩)) done hcell hkind
theorem lc_us {y : Str} {py : Pos} {Q : Value → Shared → Prop}
    (done : ∀ ys D c s', J n ys → ys.length ≤ n → (∀ p ∈ news, p.1 ≠ D) → St h₀ env.locals s₁ (upd y (.ref D) vs) ((D, listOf ys.toArray c) :: news) s' → Q .none s')
    (hcell : ∀ x ∈ scope.names, x.2 ≠ .cell := by decide) (hkind : scope.kind = .function := by rfl) (hek : env.scope.kind = .function := by rfl) (hey : env.kindOf y = some .local := by rfl) :
    CompIt prog w A E env elt target iter ifs scope pos cl (some (assign (.Name y py) env)) Q (.ref I) s := by
  obtain ⟨fp, wr, Sw, W, h1, hLf, h2, h3, h4, h5⟩ := R
  exact comp_us W S h1 h2 h3 h4 h5 hn J h0 (fun C D oL i v ys c s' own g1 g2 g3 g4 g5 g6 g7 => turn C D oL i v ys c s' own g1 g2 g3 g4 g5 g6 (fun p hp => ⟨(g7 p hp).1, (g7 p hp).2.1, fun e => hLf (e ▸ (g7 p hp).2.2)⟩)) done hcell hkind hek hey
end
end

section
variable {prog : Program} {w : World} {A : Around} {E : Value → Shared → Prop} {s : Shared} {h₀ : Heap} {L : Addr} {s₁ : Shared} {vs : List (Str × Value)} {news : List (Addr × Obj)} {name : Str} {scope : Scope} {a : Addr} {cd : Value} {x : Str} {px : Pos} {body : List Stmt} {Q : Flow → Shared → Prop}
theorem loop_list {l : Addr} {xs : List Value} (hh : A.handled = none) (hl : s.heap.IsList l xs.toArray) (hLl : L ≠ l) (S : St h₀ L s₁ vs news s) (J : Nat → List (Str × Value) → List (Addr × Obj) → Prop) (h0 : J 0 vs news)
    (turn : ∀ i v vs₁ news₁ s' own, xs[i]? = some v → J i vs₁ news₁ → news₁.map (·.1) = news.map (·.1) → St h₀ L s₁ (upd x v vs₁) (news₁ ++ own) s' →
      wpAny (model prog w) A (execs body (envOf name scope L a cd)) (TurnEnd h₀ L s₁ (J (i + 1)) (news.map (·.1)) own Q) E s')
    (done : ∀ vs₁ news₁ s', J xs.length vs₁ news₁ → news₁.map (·.1) = news.map (·.1) → St h₀ L s₁ vs₁ news₁ s' → Q .next s')
    (hE : PassesOwn (model prog w) A (envOf name scope L a cd) E) (hk : scope.kind = .function := by rfl) (hl' : (envOf name scope L a cd).kindOf x = some .local := by rfl) :
    wpAny (model prog w) A (pyIter (.ref l)) (fun it s₂ => codeAny (model prog w) A (.forLoop (.Name x px) it body [] (envOf name scope L a cd)) (fun r s' => match r with | .ok f => Q f s' | .error e => cameBackBy (model prog w) A (envOf name scope L a cd) E e s') s₂) E s := by
  have hlt : l < s.heap.objs.size := by obtain ⟨o, ho, _⟩ := id hl; exact Heap.lt_size ho
  have hne : l ≠ s.heap.objs.size := Nat.ne_of_lt hlt
  refine wpAny_pyIter_list hl ?_
  have W := Walks.list (prog := prog) (w := w) hh s.heap.objs.size l hne xs.toArray
  have Sp := S.push { cls := .type "list_iterator", data := .fields #[.ref l, .int 0 0] }
  obtain ⟨g1, g2, g3⟩ := S.new_ge (Nat.le_refl _)
  refine loop_St (env := envOf name scope L a cd) W ?_ ?_ (fun p hp hI => ?_) ⟨⟨_, Heap.get?_push_size _ rfl, rfl, rfl⟩, hl.push _⟩ (Sp.weak (fun _ h => h) (fun p hp => .tail _ hp)) J h0 ?_ (fun vs₁ news₁ s' hJ => done vs₁ news₁ s' (by simpa using hJ)) hE
  · intro hm
    rcases List.mem_cons.mp hm with e | hm
    · exact g2 e
    · exact hLl (List.mem_singleton.mp hm)
  · intro b hb; rw [List.mem_singleton.mp hb]; exact g1
  · exact g3 p hp (List.mem_singleton.mp hI)
  · intro i v vs₁ news₁ s' own hi hP hJ ha hown hsw S'
    refine wpAny_pure (wpAny_assign_Name (e_st S' (fun s₂ S₂ => ?_) hk hl'))
    exact turn i v vs₁ news₁ s₂ own (by simpa using hP) hJ ha S₂
end
end Mine

end

section
open PySem PySem.W PyProof.Rows PySem.Calls
set_option maxRecDepth 100000
namespace Mine
section
variable {prog : Program} {w : World} {M : Model} {A₀ A : Around} {E : Value → Shared → Prop} {s : Shared} {base h₀ : Heap} {L : Addr} {s₁ : Shared} {vs : List (Str × Value)} {news : List (Addr × Obj)}
  {mg mb : Str → Option Value} {env : Env} {outer : List Env} {pos : Pos} {f : Addr} {fo : Obj}
/-- the call of a def of the text that never raises, its frame with cells -/
theorem c_fnC {name qual : Str} {params : Arguments} {body : List Stmt} {scope : Scope} {dV kV doc pm cdv ct : Value} {an : Option Addr} {args : List Value} {binds : List (Str × Value)} {Q : Value → Shared → Prop}
    (B : Below A₀ base outer h₀) (S : St h₀ L s₁ vs news s) (G : Glo mg mb h₀) (hA : A.frames = some (env :: outer)) (hf : env.frame = some L) (hke : env.scope.kind = .function)
    (ho : h₀.get? f = some fo) (hd : fo.data = .func (fnX name qual params body scope [] dV kV doc pm an cdv ct)) (hcd : h₀.CodeRec cdv qual) (hroom : A.depth < recursionLimit)
    (hbind : bindArgs (fnX name qual params body scope [] dV kV doc pm an cdv ct) ⟨args, []⟩ = pure binds)
    (hkind : ∀ n, ∀ x ∈ binds, scope.names.lookup x.1 = some .local ∨ (scope.names.lookup x.1 = some .cell ∧ ((cellsFrom n scope.names []).lookup x.1).isSome = true))
    (hnd : ((cellsFrom 0 scope.names []).map (·.1)).Nodup)
    {vsN : List (Str × Value)} (hvs : ∀ L', ∀ p ∈ vsN, bindL (envOfC qual scope L' f cdv).kindOf binds (fun _ => none) p.1 = some p.2)
    (h : ∀ g L' s' cells, St g L' s₁ vsN (cells ++ news) s' → CellsAre (bindC (envOfC qual scope L' f cdv).kindOf binds fun _ => none) (cellsFrom (L' + 1) scope.names []) cells → Glo mg mb g → (∀ p ∈ news, p.1 < L') →
      wpAny (model prog w) (A.deeper (envOfC qual scope L' f cdv)) (execs body (envOfC qual scope L' f cdv))
        (fun fl s'' => ∃ news', St g L' s₁ [] news' s'' ∧ (St h₀ L s₁ vs news' s'' → Q (match fl with | .ret v => v | _ => .none) s''))
        (fun _ _ => False) s')
    (hco : scope.isCoroutine = false := by rfl) (hgen : scope.isGenerator = false := by rfl) (hk : scope.kind = .function := by rfl) :
    wpAny (model prog w) A (call (.ref f) args) Q E s := by
  obtain ⟨m, F, hm⟩ := S.fr
  refine wpAny_call (callX_cells B F S.nw G.nolimit hA hf hke (F.keep _ _ ho) hd (hcd.keeps F.keep) hroom (BindsTo.of_eq hbind) hkind hnd (fun g L' h₁ tk cells Fg F' N' Y B' st hl => ?_) hco hgen hk)
  have S' : St g L' s₁ vsN (cells ++ news) { heap := h₁, gens := s.gens, drawn := s.drawn, toks := tk, os := s.os } := ⟨S.gens, S.drawn, S.os, ⟨_, F', hvs L'⟩, N'⟩
  refine wpAny_mono (h g L' _ cells S' Y (G.keeps st) hl) (fun fl s'' hq => ?_) (fun e s'' he => he.elim)
  obtain ⟨news', S'', hq⟩ := hq
  obtain ⟨m', F'', _⟩ := S''.fr
  refine leaveK_ F'' S''.nw fun F3 N3 => ?_
  exact hq ⟨S''.gens, S''.drawn, S''.os, ⟨m, F3, hm⟩, N3⟩

/-- a cell of the frame, at the head of the ledger, is set -/
theorem e_stC {cn : Str} {cs : Scope} {a : Addr} {ccd : Value} {x : Str} {v : Value} {c : Addr} {o : Obj} {v₀ : Option Value} {Q : Unit → Shared → Prop} (S : St h₀ L s₁ vs ((c, o) :: news) s) (hn : ∀ p ∈ news, p.1 ≠ c)
    (hc : (envOfC cn cs L a ccd).cells.lookup x = some c) (hd : o.data = .cell v₀) (h : ∀ s' o', o'.data = .cell (some v) → St h₀ L s₁ vs ((c, o') :: news) s' → Q () s')
    (hk : cs.kind = .function := by rfl) (hx : (envOfC cn cs L a ccd).kindOf x = some .cell := by rfl) : wpAny M A (storeName (envOfC cn cs L a ccd) x v) Q E s := by
  obtain ⟨m, F, hm⟩ := S.fr
  have hmem := S.nw _ (.head _)
  refine wpAny_storeName_cell hk hx hc ⟨o, hmem.1, hd⟩ fun h' hv hs => ?_
  obtain ⟨o', ho', hd'⟩ := hv
  refine h _ o' hd' (S.of (k := s.toks) ⟨F.ns.sameBut hs (Ne.symm hmem.2.1), fun b ob e => (hs.2 b (fun q => ?_)).trans (F.keep b ob e), F.above⟩ hm fun p hp => ?_)
  · rw [q, hmem.2.2] at e; cases e
  · rcases List.mem_cons.mp hp with rfl | hp
    · exact ⟨ho', hmem.2⟩
    · exact ⟨(hs.2 _ (hn p hp)).trans (S.nw p (.tail _ hp)).1, (S.nw p (.tail _ hp)).2⟩
/-- a free name of a comprehension, by its cell -/
theorem e_cellE {x : Str} {px : Pos} {v : Value} {c : Addr} {o : Obj} {Q : Value → Shared → Prop} (S : St h₀ L s₁ vs news s) (hm : (c, o) ∈ news) (hd : o.data = .cell (some v)) (h : Q v s)
    (hc : env.cells.lookup x = some c) (hk : env.scope.kind = .function := by rfl) (hx : env.kindOf x = some .cell := by rfl) (hb : (x == ("__debug__" : Str)) = false := by decide) :
    wpAny M A (eval (.Name x px) env) Q E s := wpAny_Name (wpAny_loadName_cell hk hx hc ⟨o, (S.nw _ hm).1, hd⟩ h) hb

theorem o_fdiv {i j : Int} {t u : Tok} {Q : Value → Shared → Prop} (S : St h₀ L s₁ vs news s) (hj : j ≠ 0) (hp : j.natAbs < 1073741824) (h : ∀ t s', St h₀ L s₁ vs news s' → Q (.int (i.fdiv j) t) s') : wpAny (model prog w) A (binaryOp .FloorDiv (.int i t) (.int j u)) Q E s :=
  floordiv_int hj (h _ _ (S.tok _)) (.inl (PyProof.noPylong_small hp))
theorem o_mod {i j : Int} {t u : Tok} {Q : Value → Shared → Prop} (S : St h₀ L s₁ vs news s) (hj : j ≠ 0) (h : ∀ t s', St h₀ L s₁ vs news s' → Q (.int (i.fmod j) t) s') : wpAny (model prog w) A (binaryOp .Mod (.int i t) (.int j u)) Q E s :=
  mod_int' hj (h _ _ (S.tok _))
theorem o_pow {i j : Int} {t u : Tok} {Q : Value → Shared → Prop} (S : St h₀ L s₁ vs news s) (h0 : 0 ≤ j) (h1 : j ≤ 1000000) (hi : i.natAbs < 2 ^ 64) (h : ∀ t s', St h₀ L s₁ vs news s' → Q (.int (i ^ j.toNat) t) s') : wpAny (model prog w) A (binaryOp .Pow (.int i t) (.int j u)) Q E s :=
  pow_int_small h0 h1 hi (h _ _ (S.tok _))
theorem i_range {r : Addr} {b₀ : Int} {n : Nat} {t₀ u₀ v₀ : Tok} {Q : Value → Shared → Prop} (hh : A.handled = none) (S : St h₀ L s₁ vs news s) (hr : IsRange s.heap r 0 b₀ 1 t₀ u₀ v₀) (hb : b₀ = (n : Int)) (hn : n ≤ 1000000)
    (h : ∀ I s', St h₀ L s₁ vs news s' → (∀ x px, Ready prog w A (.Name x px) h₀ L news n (fun i v _ => ∃ t, v = .int i t) I s') → Q (.ref I) s') :
    wpAny (model prog w) A (pyIter (.ref r)) Q E s := by
  subst hb
  refine wpAny_pyIter_range hr (small_one (by decide) (by decide) (by omega) (by omega)) ?_
  have hz : Builtin.Range.rangeSize 0 (n : Int) 1 = (n : Int) := by rw [rangeSize_nat]; omega
  have W : Walks prog w A s.heap.objs.size [s.heap.objs.size] [s.heap.objs.size] n (fun i v => ∃ t, v = .int (0 + i * 1) t) (fun i h => IsRangeIter h s.heap.objs.size (0 + (i : Nat) * 1) ((n : Int) - (i : Nat)) 1) := Walks.range hh _ 0 1 n
  have Sp := S.push { cls := .type "range_iterator", data := .fields #[rawInt 0, rawInt (Builtin.Range.rangeSize 0 (n : Int) 1), rawInt 1] }
  obtain ⟨g1, g2, g3⟩ := S.new_ge (Nat.le_refl _)
  refine h _ _ (Sp.weak (fun _ h => h) (fun p hp => .tail _ hp)) fun x px => ⟨_, _, _, (Its.ofName W).map rfl (fun i v h hp => ?_), ?_, ?_, ?_, ?_, ?_, ?_⟩
  · obtain ⟨t, rfl⟩ := hp
    exact ⟨t, by congr 1; omega⟩
  · intro b hb
    show b < (s.heap.push _).objs.size
    rw [Heap.size_push, List.mem_singleton.mp hb]
    exact Nat.lt_succ_self _
  · simpa using g2
  · simpa using g2
  · intro b hb; rw [List.mem_singleton.mp hb]; exact g1
  · intro p hp; simpa using g3 p hp
  · show IsRangeIter _ _ _ _ _
    rw [hz]
    simpa using Heap.get?_push_size _ rfl
end
end Mine

end

section
open PySem PySem.W PyProof.Rows PySem.Calls
set_option maxRecDepth 100000
namespace Mine
open Builtin Builtin.ObjectAttr
namespace FE
theorem mro : mroOf (.type "Exception") = pure [.type "Exception", .type "BaseException", .type "object"] := by kernel_rfl
theorem lk_ga : typeLookup (.type "Exception") "__getattribute__" = pure (some (.builtin "BaseException.__getattribute__")) := by rw [typeLookup_type, builtinLookup_eq_fast]; kernel_rfl
theorem lk_getattr : typeLookup (.type "Exception") "__getattr__" = pure none := by rw [typeLookup_type, builtinLookup_eq_fast]; kernel_rfl
theorem lk_readline : typeLookup (.type "Exception") "readline" = pure none := by rw [typeLookup_type, builtinLookup_eq_fast]; kernel_rfl
theorem canon : (Manifest.canonical "BaseException.__getattribute__" != "object.__getattribute__") = false := by decide +kernel
theorem canon2 : Manifest.canonical "BaseException.__getattribute__" = "object.__getattribute__" := by decide +kernel
end FE
section
variable {prog : Program} {w : World} {A : Around} {E : Value → Shared → Prop} {h : Heap} {g : Array GenState} {d : Drawn} {t : Nat} {os : OsState}
variable {nm q : Str} {C N x : Addr} {bs : List Value} {sn : List Str} {sub : List Value} {ab : Bool} {col : Option Bool} {dd : Option Addr} {k0 k1 k2 k3 k5 : Option Value} {newId : String}
  {mN mA : Str → Option Value} {name : Str} {v : Value}
theorem exc_entry {tk : Tok} {Q : PySem.Fin → Shared → Prop}
    (hC : h.get? C = some (excClassObj nm q C N bs [.type "Exception", .type "BaseException", .type "object"] true sn sub ab col dd k0 k1 k2 k3 k5 newId)) (hn : h.Ns N mN) (hna : mN name = none)
    (hB : typeLookup (.type "Exception") name = pure none) (I : h.Inst x C mA) (hv : mA name = some v) (hq : Q (.done (.ret v)) ⟨h, g, d, t, os⟩) :
    wpAny (model prog w) A (Builtin.«object.__getattribute__» ⟨[.ref x, .str name tk], []⟩) Q E ⟨h, g, d, t, os⟩ := by
  obtain ⟨o, hx, hc, hnc, hd⟩ := I
  rcases hd with ⟨_, hmA⟩ | ⟨dx, hdx, hne, hns⟩
  · rw [hmA name] at hv; cases hv
  unfold Builtin.«object.__getattribute__»
  repeat (first | (with_reducible refine wpAny_loadPart_at hx ?_; rw [hc]) | (with_reducible refine wpAny_typeLookup_exc hC hn FE.mro hB ?_; rw [hna]) | wp_step)
  split
  · rename_i c hcd
    exact absurd hcd (hnc c)
  unfold instanceDict
  repeat (first | (with_reducible refine wpAny_loadPart_at hx ?_; rw [hc]) | with_reducible refine wpAny_loadPart_at hC ?_ | wp_step)
  rw [hdx]
  repeat (first | (with_reducible refine wpAny_nsGet hns.ns ?_; rw [hv]) | wp_step)
  exact hq
theorem exc_call {tk : Tok} {R : Result → Shared → Prop}
    (hC : h.get? C = some (excClassObj nm q C N bs [.type "Exception", .type "BaseException", .type "object"] true sn sub ab col dd k0 k1 k2 k3 k5 newId)) (hn : h.Ns N mN) (hna : mN name = none)
    (hB : typeLookup (.type "Exception") name = pure none) (I : h.Inst x C mA) (hv : mA name = some v) (hq : R (.ok (.ret v)) ⟨h, g, d, t, os⟩) :
    codeAny (model prog w) A (.call (.builtin "BaseException.__getattribute__") ⟨[.ref x, .str name tk], []⟩) R ⟨h, g, d, t, os⟩ := by
  obtain ⟨o, hx, hc, _⟩ := id I
  exact codeAny_call_builtin PySem.F.attrBase_Exception.ga.plain PySem.F.entry_bexc_ga (wpAny_check_ga_own PySem.F.attrBase_Exception hC .base hx hc (exc_entry hC hn hna hB I hv hq))
theorem exc_method {pl : Sem Bool} {Q : Value × List Value → Shared → Prop}
    (hC : h.get? C = some (excClassObj nm q C N bs [.type "Exception", .type "BaseException", .type "object"] true sn sub ab col dd k0 k1 k2 k3 k5 newId)) (hn : h.Ns N mN) (hng : mN "__getattribute__" = none) (hnh : mN "__getattr__" = none)
    (hna : mN name = none) (hB : typeLookup (.type "Exception") name = pure none)
    (I : h.Inst x C mA) (hv : mA name = some v) (hh : handedOut v = pure v) (hq : Q (v, []) ⟨h, g, d, t + 1, os⟩) :
    wpAny (model prog w) A (getMethod (.ref x) name pl) Q E ⟨h, g, d, t, os⟩ := by
  obtain ⟨o, hx, hc, hnc, hd⟩ := id I
  have hcan := FE.canon
  have f3 := PySem.F.attrBase_Exception.ga.bind (.ref x)
  unfold getMethod specialOf
  repeat (first | (with_reducible refine wpAny_loadPart_at hx ?_; rw [hc]) | (with_reducible refine wpAny_typeLookup_exc hC hn FE.mro FE.lk_ga ?_; rw [hng]) | (with_reducible refine wpAny_typeLookup_exc hC hn FE.mro FE.lk_getattr ?_; rw [hnh]) | (with_reducible refine wpAny_typeLookup_exc hC hn FE.mro hB ?_; rw [hna]) | wp_step)
  refine exc_call hC hn hna hB I hv ?_
  show wpAny _ _ (handedOut v) _ _ _
  rw [hh]
  exact wpAny_pure (wpAny_pure hq)
end
end Mine

end

section
open PySem PySem.W PyProof.Rows PySem.Calls
set_option maxRecDepth 100000
namespace Mine
open Builtin Builtin.ObjectAttr
section
variable {prog : Program} {w : World} {A : Around} {E : Value → Shared → Prop} {h : Heap} {g : Array GenState} {d : Drawn} {t : Nat} {os : OsState}
variable {nm q : Str} {C N x : Addr} {bs : List Value} {sn : List Str} {sub : List Value} {ab : Bool} {col : Option Bool} {dd : Option Addr} {k0 k1 k2 k3 k5 : Option Value} {newId : String}
  {mN : Str → Option Value} {name : Str} {v : Value} {o : Obj}
/-- a dict object of one name -/
def OneName (name : Str) (v : Value) (od : Obj) : Prop := ∃ es ep, od.data = .dict es ep ∧ StrKeys es ∧ UniqKeys es ∧ ∀ y, nsFind es y = if y = name then some v else none
theorem exc_put {tk : Tok} {Q : PySem.Fin → Shared → Prop}
    (hC : h.get? C = some (excClassObj nm q C N bs [.type "Exception", .type "BaseException", .type "object"] true sn sub ab col dd k0 k1 k2 k3 k5 newId)) (hn : h.Ns N mN) (hna : mN name = none)
    (hB : typeLookup (.type "Exception") name = pure none) (hx : h.get? x = some o) (hc : o.cls = .ref C) (hnc : ∀ c, o.data ≠ .cls c) (hdn : o.dict = none)
    (hq : ∀ h' tk' od, h'.get? x = some { o with dict := some h.objs.size } → h'.get? h.objs.size = some od → OneName name v od → (∀ b ob, b ≠ x → h.get? b = some ob → h'.get? b = some ob) → Q (.done (.ret .none)) ⟨h', g, d, tk', os⟩) :
    wpAny (model prog w) A (Builtin.«object.__setattr__» ⟨[.ref x, .str name tk, v], []⟩) Q E ⟨h, g, d, t, os⟩ := by
  have hpass := PySem.F.store_Exception.passes (.ref x)
  unfold Builtin.«object.__setattr__»
  repeat (first | rw [refuse_eq] | (rw [refuseLoop_ref, hpass]) | (with_reducible refine wpAny_loadPart_at hx ?_; rw [hc]) | with_reducible refine wpAny_mroOf_exc hC ?_ | (with_reducible refine wpAny_typeLookup_exc hC hn FE.mro hB ?_; rw [hna]) | wp_step)
  rw [hdn, if_neg (by simp [typeHasDict])]
  split
  · rename_i hcd
    cases hcd
  split
  · rename_i c hcd
    exact absurd hcd (hnc c)
  have hx₁ : (h.push { cls := .type "dict", data := .dict #[] }).get? x = some o := Heap.get?_push_of_some _ hx
  have hxs : x ≠ h.objs.size := Nat.ne_of_lt (Heap.lt_size hx)
  refine wpAny_bind (wpAny_alloc' ?_)
  refine wpAny_bind (wpAny_update' hx₁ ?_)
  refine wpAny_pure ?_
  have hgd : ((h.push { cls := .type "dict", data := .dict #[] }).update x fun o => { cls := o.cls, dict := some h.objs.size, data := o.data, slots := o.slots }).get? h.objs.size
      = some { cls := .type "dict", data := .dict #[] } :=
    (Heap.get?_update_ne _ _ _ _ hxs.symm).trans (Heap.get?_push_at rfl rfl)
  have hnd : ((h.push { cls := .type "dict", data := .dict #[] }).update x fun o => { cls := o.cls, dict := some h.objs.size, data := o.data, slots := o.slots }).Ns h.objs.size (fun _ => none) :=
    ⟨_, #[], _, hgd, rfl, fun e he => absurd he (by simp), fun _ => rfl⟩
  show wpAny _ _ (storeInDict h.objs.size (.str name tk) name v) _ _ _
  unfold storeInDict newKeyGuard
  refine wpAny_bind (wpAny_pure (wpAny_bind (wpAny_nsSet1 (Heap.Ns1.of_empty hnd) fun h' hn' hs => ?_)))
  obtain ⟨oD, esD, epD, hoD, hdD, hcD⟩ := hn'.count (Within.cons name v Within.nil)
  refine wpAny_bind (wpAny_lookBehind hoD (by rw [hdD]; exact pastItsLine_dict (Nat.le_trans hcD (by rw [List.length_cons, List.length_nil, sizeLine_eq]; omega))) ?_)
  wp_walk
  obtain ⟨o', es, ep, e1, e2, e3, eu, e4⟩ := hn'
  refine hq h' _ o' ?_ e1 ⟨es, ep, e2, e3, eu, e4⟩ (fun b ob hbx hb => ?_)
  · refine (hs.2 x hxs).trans (Heap.get?_update_self _ hx₁ ?_)
    have hfr := (Heap.get?_some_iff.mp hx).2
    obtain ⟨oc, od, odt, osl⟩ := o
    cases odt <;> first | rfl | exact hfr
  · exact (hs.2 b (Nat.ne_of_lt (Heap.lt_size hb))).trans ((Heap.get?_update_ne _ _ _ _ hbx).trans (Heap.get?_push_of_some _ hb))
theorem exc_putCall {tk : Tok} {R : Result → Shared → Prop} {sa owner : String} (SF : StoreFacts "Exception" [.type "Exception", .type "BaseException", .type "object"] sa owner)
    (hC : h.get? C = some (excClassObj nm q C N bs [.type "Exception", .type "BaseException", .type "object"] true sn sub ab col dd k0 k1 k2 k3 k5 newId)) (hn : h.Ns N mN) (hna : mN name = none)
    (hB : typeLookup (.type "Exception") name = pure none) (hx : h.get? x = some o) (hc : o.cls = .ref C) (hnc : ∀ c, o.data ≠ .cls c) (hdn : o.dict = none)
    (hq : ∀ h' tk' od, h'.get? x = some { o with dict := some h.objs.size } → h'.get? h.objs.size = some od → OneName name v od → (∀ b ob, b ≠ x → h.get? b = some ob → h'.get? b = some ob) → R (.ok (.ret .none)) ⟨h', g, d, tk', os⟩) :
    codeAny (model prog w) A (.call (.builtin sa) ⟨[.ref x, .str name tk, v], []⟩) R ⟨h, g, d, t, os⟩ :=
  codeAny_call_builtin SF.slot.plain SF.entry (wpAny_check_sa SF hC hx hc (exc_put hC hn hna hB hx hc hnc hdn hq))
theorem exc_storeF {Q : Unit → Shared → Prop} {sa owner : String} (SF : StoreFacts "Exception" [.type "Exception", .type "BaseException", .type "object"] sa owner)
    (hC : h.get? C = some (excClassObj nm q C N bs [.type "Exception", .type "BaseException", .type "object"] true sn sub ab col dd k0 k1 k2 k3 k5 newId)) (hn : h.Ns N mN) (hns : mN "__setattr__" = none) (hna : mN name = none)
    (hB : typeLookup (.type "Exception") name = pure none) (hx : h.get? x = some o) (hc : o.cls = .ref C) (hnc : ∀ c, o.data ≠ .cls c) (hdn : o.dict = none)
    (hq : ∀ h' tk' od, h'.get? x = some { o with dict := some h.objs.size } → h'.get? h.objs.size = some od → OneName name v od → (∀ b ob, b ≠ x → h.get? b = some ob → h'.get? b = some ob) → Q () ⟨h', g, d, tk', os⟩) :
    wpAny (model prog w) A (setAttr (.ref x) name v) Q E ⟨h, g, d, t, os⟩ := by
  have f3 := SF.slot.bind (.ref x)
  unfold setAttr callSpecial? specialOf
  repeat (any_goals (first | assumption | (with_reducible refine wpAny_loadPart_at hx ?_; rw [hc]) | (with_reducible refine wpAny_typeLookup_exc hC hn SF.mro SF.slot.lookup ?_; rw [hns]) | wp_step))
  refine exc_putCall SF hC hn hna hB hx hc hnc hdn (fun h' tk' od a1 a2 a3 a4 => ?_)
  repeat wp_step
  exact hq h' tk' od a1 a2 a3 a4
theorem exc_store {Q : Unit → Shared → Prop}
    (hC : h.get? C = some (excClassObj nm q C N bs [.type "Exception", .type "BaseException", .type "object"] true sn sub ab col dd k0 k1 k2 k3 k5 newId)) (hn : h.Ns N mN) (hns : mN "__setattr__" = none) (hna : mN name = none)
    (hB : typeLookup (.type "Exception") name = pure none) (hx : h.get? x = some o) (hc : o.cls = .ref C) (hnc : ∀ c, o.data ≠ .cls c) (hdn : o.dict = none)
    (hq : ∀ h' tk' od, h'.get? x = some { o with dict := some h.objs.size } → h'.get? h.objs.size = some od → OneName name v od → (∀ b ob, b ≠ x → h.get? b = some ob → h'.get? b = some ob) → Q () ⟨h', g, d, tk', os⟩) :
    wpAny (model prog w) A (setAttr (.ref x) name v) Q E ⟨h, g, d, t, os⟩ := exc_storeF PySem.F.store_Exception hC hn hns hna hB hx hc hnc hdn hq
end
end Mine

end

section
open PySem PySem.W PyProof.Rows PySem.Calls
set_option maxRecDepth 100000
namespace Mine
abbrev bmE : List Value := [.type "Exception", .type "BaseException", .type "object"]
/-- an own class right under Exception, quiet -/
structure HX (mg : Str → Option Value) (h₀ : Heap) (x : Str) (C : Addr) : Prop where
  bound : mg x = some (.ref C)
  cls : ∃ nm q N bs sn sub ab col dd k0 k1 k2 k3 k5 mN, h₀.get? C = some (excClassObj nm q C N bs bmE true sn sub ab col dd k0 k1 k2 k3 k5 "Exception.__new__") ∧ h₀.Ns N mN ∧
    (∀ n ∈ quietNames, mN n = none) ∧ mN "__setattr__" = none ∧ mN "readline" = none
theorem HX.keeps {mg : Str → Option Value} {h h' : Heap} {x : Str} {C : Addr} (X : HX mg h x C) (hk : ∀ b o, h.get? b = some o → h'.get? b = some o) : HX mg h' x C := by
  obtain ⟨nm, q, N, bs, sn, sub, ab, col, dd, k0, k1, k2, k3, k5, mN, h1, h2, h3⟩ := X.cls
  exact ⟨X.bound, nm, q, N, bs, sn, sub, ab, col, dd, k0, k1, k2, k3, k5, mN, hk _ _ h1, h2.keeps hk, h3⟩
theorem HX.own {mg : Str → Option Value} {h : Heap} {x : Str} {C : Addr} (X : HX mg h x C) : OwnCls x C bmE "Exception.__new__" mg h := by
  obtain ⟨nm, q, N, bs, sn, sub, ab, col, dd, k0, k1, k2, k3, k5, mN, h1, h2, h3, _⟩ := X.cls
  exact ⟨X.bound, bmE, N, nm, q, bs, true, sn, sub, ab, col, dd, k0, k1, k2, k3, k5, mN, h1, h2, h3 _ (.head _), .base⟩
/-- an exception object of class C, its tuple at t -/
def excObj (C t : Addr) (dct : Option Addr) : Obj := { cls := .ref C, dict := dct, data := .fields #[.ref t, .none, .none, .none, .bool false, .none] }
section
variable {prog : Program} {w : World} {A : Around} {E : Value → Shared → Prop} {s : Shared} {h₀ : Heap} {L : Addr} {s₁ : Shared} {vs : List (Str × Value)} {news : List (Addr × Obj)} {mg : Str → Option Value} {C : Addr} {x : Str}
theorem x_new {Q : Value → Shared → Prop} (X : HX mg h₀ x C) (S : St h₀ L s₁ vs news s)
    (h : ∀ e t s', (∀ p ∈ news, p.1 ≠ e) → (∀ p ∈ news, p.1 ≠ t) → e ≠ t → St h₀ L s₁ vs ((e, excObj C t none) :: (t, tupObj []) :: news) s' → Q (.ref e) s') : wpAny (model prog w) A (call (.ref C) []) Q E s := by
  obtain ⟨m, F, hm⟩ := S.fr
  obtain ⟨nm, q, N, bs, sn, sub, ab, col, dd, k0, k1, k2, k3, k5, mN, h1, h2, h3, _⟩ := (X.keeps F.keep).cls
  obtain ⟨hp, g, d, tk, o⟩ := s
  refine wpAny_call_exc_subT PySem.F.excBase_Exception .base h1 h2 (h3 _ (.head _)) (fun h' e he => ?_) (Nat.zero_le _)
  obtain ⟨t, he1, ht, he2⟩ := he.there
  obtain ⟨oL, _, _, hL, _⟩ := F.ns
  have n0 : ∀ b, hp.get? b = none → h₀.get? b = none := fun b hb => by
    cases q : h₀.get? b with
    | none => rfl
    | some o => have := F.keep b o q; rw [hb] at this; cases this
  have nL : ∀ b, hp.get? b = none → b ≠ L := fun b hb e => by rw [e, hL] at hb; cases hb
  have nn : ∀ b, hp.get? b = none → ∀ p ∈ news, p.1 ≠ b := fun b hb p hp e => by have := (S.nw p hp).1; rw [e] at this; simp only at this; rw [hb] at this; cases this
  refine h e t _ (nn e he.new) (nn t ht) (fun hh => by rw [hh, he2] at he1; cases he1) ⟨S.gens, S.drawn, S.os, ⟨m, F.keptAll he.keeps, hm⟩, fun p hp => ?_⟩
  rcases List.mem_cons.mp hp with rfl | hp
  · exact ⟨he1, nL e he.new, n0 e he.new⟩
  · rcases List.mem_cons.mp hp with rfl | hp
    · exact ⟨he2, nL t ht, n0 t ht⟩
    · exact ⟨he.keeps _ _ (S.nw p hp).1, (S.nw p hp).2⟩
theorem x_set {e t : Addr} {v : Value} {Q : Unit → Shared → Prop} (X : HX mg h₀ x C) (S : St h₀ L s₁ vs ((e, excObj C t none) :: news) s) (hn : ∀ p ∈ news, p.1 ≠ e)
    (h : ∀ d od s', OneName "readline" v od → (∀ p ∈ news, p.1 ≠ d) → d ≠ e → St h₀ L s₁ vs ((e, excObj C t (some d)) :: (d, od) :: news) s' → Q () s') : wpAny (model prog w) A (setAttr (.ref e) "readline" v) Q E s := by
  obtain ⟨m, F, hm⟩ := S.fr
  obtain ⟨nm, q, N, bs, sn, sub, ab, col, dd, k0, k1, k2, k3, k5, mN, h1, h2, h3, h4, h5⟩ := (X.keeps F.keep).cls
  obtain ⟨g1, g2, g3⟩ := S.new_ge (Nat.le_refl _)
  have he := S.nw _ (.head _)
  have hLe : L ≠ e := Ne.symm he.2.1
  obtain ⟨hp, g, d, tk, o⟩ := s
  refine exc_store h1 h2 h4 h5 FE.lk_readline he.1 rfl (by intro c hc; cases hc) rfl (fun h' tk' od a1 a2 a3 a4 => ?_)
  refine h _ od _ a3 (fun p hp => g3 p (.tail _ hp)) (Ne.symm (g3 _ (.head _))) ⟨S.gens, S.drawn, S.os, ⟨m, ⟨F.ns.at' fun o e => a4 _ o hLe e, fun b ob eb => a4 b ob (fun q => ?_) (F.keep b ob eb), F.above⟩, hm⟩, fun p hp => ?_⟩
  · rw [q, he.2.2] at eb; cases eb
  · rcases List.mem_cons.mp hp with rfl | hp
    · exact ⟨a1, he.2⟩
    · rcases List.mem_cons.mp hp with rfl | hp
      · exact ⟨a2, Ne.symm g2, g1⟩
      · exact ⟨a4 _ _ (hn p hp) (S.nw p (.tail _ hp)).1, (S.nw p (.tail _ hp)).2⟩
theorem x_meth {e t d f : Addr} {od : Obj} {pl : Sem Bool} {Q : Value × List Value → Shared → Prop} (X : HX mg h₀ x C) (S : St h₀ L s₁ vs news s) (he : (e, excObj C t (some d)) ∈ news) (hd : (d, od) ∈ news) (hne : d ≠ e) (ho : OneName "readline" (.ref f) od)
    (hh : handedOut (.ref f) = pure (.ref f))
    (h : ∀ s', St h₀ L s₁ vs news s' → s'.heap = s.heap → Q (.ref f, []) s') : wpAny (model prog w) A (getMethod (.ref e) "readline" pl) Q E s := by
  obtain ⟨m, F, hm⟩ := S.fr
  obtain ⟨nm, q, N, bs, sn, sub, ab, col, dd, k0, k1, k2, k3, k5, mN, h1, h2, h3, h4, h5⟩ := (X.keeps F.keep).cls
  have he' := (S.nw _ he).1
  have hd' := (S.nw _ hd).1
  obtain ⟨es, ep, a1, a2, a3, a4⟩ := ho
  obtain ⟨hp, g, dr, tk, o⟩ := s
  exact exc_method h1 h2 (h3 _ (.tail _ (.head _))) (h3 _ (.tail _ (.tail _ (.head _)))) h5 FE.lk_readline ⟨_, he', rfl, (by intro c hc; cases hc), .inr ⟨d, rfl, hne, _, es, ep, hd', a1, a2, a3, a4⟩⟩ (by simp) hh (h _ (S.tok _) rfl)
end
end Mine

end

section
open PySem PySem.W PyProof.Rows PySem.Calls
set_option maxRecDepth 100000
namespace Mine
section
variable {prog : Program} {w : World} {M : Model} {A₀ A : Around} {E : Value → Shared → Prop} {s : Shared} {base h₀ : Heap} {L : Addr} {s₁ : Shared} {vs : List (Str × Value)} {news : List (Addr × Obj)}
  {mg mb : Str → Option Value} {env : Env} {outer : List Env} {pos : Pos} {f : Addr} {p : Program} {loose : List Str} {mean : ExcName → Option Value}
/-- def inside a def, for the first time: its code is made and noted in the table P -/
theorem s_def {name : Str} {params : Arguments} {body : List Stmt} {scope : Scope} {clos : List (Str × Addr)} {cn : Str} {cs : Scope} {a c P : Addr} {Q : Flow → Shared → Prop} (T : Top p loose mean mg mb h₀) (C : CodeHd h₀ c P)
    (S : St h₀ L s₁ vs ((P, tabObj #[]) :: news) s) (hP : ∀ q ∈ news, q.1 ≠ P)
    (h : ∀ f c' oc ws t ctv doc ps s', oc.data = .fields ws → ws[1]? = some (.str (qualnameIn (envOfC cn cs L a (.ref c)) name name) t) → (∀ q ∈ news, q.1 ≠ c') → (∀ q ∈ news, q.1 ≠ f) → c' ≠ f → P ≠ c' → P ≠ f →
      St h₀ L s₁ (upd name (.ref f) vs) ((f, fnMade name (qualnameIn (envOfC cn cs L a (.ref c)) name name) params body scope clos doc ((mg "__name__").getD .none) c' ctv) :: (c', oc) :: (P, tabObj ps) :: news) s' → Q .next s')
    (hcl : closureFor scope (envOfC cn cs L a (.ref c)) = pure clos := by rfl) (hd0 : params.defaults = [] := by rfl) (hk0 : params.kw_defaults = [] := by rfl) (ha : annTrees params none (envOfC cn cs L a (.ref c)) = [] := by rfl)
    (hk : cs.kind = .function := by rfl) (hl : (envOfC cn cs L a (.ref c)).kindOf name = some .local := by rfl) :
    wpAny M A (exec (.FunctionDef name params body [] none [] scope none name pos) (envOfC cn cs L a (.ref c))) Q E s := by
  obtain ⟨m, F, hm⟩ := S.fr
  refine nestDef_K hd0 hk0 ha ?_
  refine nest_K (cl := cellsFrom (L + 1) cs.names []) F S.nw T C rfl (.head hP) True.intro rfl hcl (fun f c' oc ws t ctv doc h' tk F' N' d1 d2 l1 l2 => ?_)
  have S' : St h₀ L s₁ vs _ { s with heap := h', toks := tk } := S.of F' hm N'
  refine e_stE (env := envOfC cn cs L a (.ref c)) S' (fun s' S'' => ?_) hk hl
  have l1' := fun q hq => ltN (l1 q hq)
  have l2' := ltN l2
  refine h f c' oc ws t ctv doc _ s' d1 d2 (fun q hq => neN (Nat.ne_of_lt (l1' q (.tail _ hq)))) (fun q hq => neN (Nat.ne_of_lt (Nat.lt_trans (l1' q (.tail _ hq)) l2'))) (neN (Nat.ne_of_lt l2')) (neN (Nat.ne_of_lt (l1' _ (.head _)))) (neN (Nat.ne_of_lt (Nat.lt_trans (l1' _ (.head _)) l2'))) S''

/-- the call of a def of the ledger that never raises, its frame without cells of its own -/
theorem c_fnN {name qual : Str} {params : Arguments} {body : List Stmt} {scope : Scope} {cl : List (Str × Addr)} {doc pm ctv : Value} {c' : Addr} {oc : Obj} {ws : Array Value} {t : Tok} {args : List Value} {binds : List (Str × Value)} {Q : Value → Shared → Prop}
    (B : Below A₀ base outer h₀) (S : St h₀ L s₁ vs news s) (G : Glo mg mb h₀) (hA : A.frames = some (env :: outer)) (hf : env.frame = some L) (hke : env.scope.kind = .function)
    (ho : (f, fnMade name qual params body scope cl doc pm c' ctv) ∈ news) (hoc : (c', oc) ∈ news) (hd1 : oc.data = .fields ws) (hd2 : ws[1]? = some (.str qual t)) (hroom : A.depth < recursionLimit)
    (hbind : bindArgs (fnX name qual params body scope cl .none .none doc pm none (.ref c') ctv) ⟨args, []⟩ = pure binds) (hloc : ∀ y ∈ binds, scope.names.lookup y.1 = some .local)
    (hlk : ∀ p ∈ binds, binds.reverse.lookup p.1 = some p.2)
    (h : ∀ g L' s', St g L' s₁ binds news s' → Below A base (env :: outer) g → Glo mg mb g → h₀.StaysIn g → (∀ p ∈ news, p.1 < L') →
      wpAny (model prog w) (A.deeper (envX qual scope L' f (.ref c') cl)) (execs body (envX qual scope L' f (.ref c') cl))
        (fun fl s'' => ∃ news', St g L' s₁ [] news' s'' ∧ (St h₀ L s₁ vs news' s'' → Q (match fl with | .ret v => v | _ => .none) s''))
        (fun _ _ => False) s')
    (hcell : ∀ x ∈ scope.names, x.2 ≠ .cell := by decide) (hco : scope.isCoroutine = false := by rfl) (hgen : scope.isGenerator = false := by rfl) (hk : scope.kind = .function := by rfl) :
    wpAny (model prog w) A (call (.ref f) args) Q E s := by
  obtain ⟨m, F, hm⟩ := S.fr
  refine wpAny_call (callX_plain B F S.nw G.nolimit hA hf hke (S.nw _ ho).1 rfl (codeRec_news S.nw hoc hd1 hd2) hroom (BindsTo.of_eq hbind) hloc (fun g L' h₁ Fg F' N' B' st hl => ?_) hcell hco hgen hk)
  have S' : St g L' s₁ binds news { heap := h₁, gens := s.gens, drawn := s.drawn, toks := s.toks + binds.length, os := s.os } := ⟨S.gens, S.drawn, S.os, ⟨_, F', hlk⟩, N'⟩
  refine wpAny_mono (h g L' _ S' B' (G.keeps st) st hl) (fun fl s'' hq => ?_) (fun e s'' he => he.elim)
  obtain ⟨news', S'', hq⟩ := hq
  obtain ⟨m', F'', _⟩ := S''.fr
  refine leaveK_ F'' S''.nw fun F3 N3 => ?_
  exact hq ⟨S''.gens, S''.drawn, S''.os, ⟨m, F3, hm⟩, N3⟩
/-- a free name, by its cell -/
theorem e_freeE {x : Str} {px : Pos} {v : Value} {c : Addr} {o : Obj} {Q : Value → Shared → Prop} (S : St h₀ L s₁ vs news s) (hm : (c, o) ∈ news) (hd : o.data = .cell (some v)) (h : Q v s)
    (hc : env.cells.lookup x = some c) (hk : env.scope.kind = .function := by rfl) (hx : env.kindOf x = some .free := by rfl) (hb : (x == ("__debug__" : Str)) = false := by decide) (hn : (x == ("__classdict__" : Str)) = false := by decide) :
    wpAny M A (eval (.Name x px) env) Q E s := wpAny_Name (wpAny_loadName_free hk hx hc ⟨o, (S.nw _ hm).1, hd⟩ h hn) hb
end
end Mine

end

section
open PySem PySem.W PyProof.Rows PySem.Calls
set_option maxRecDepth 100000
namespace Mine
section
variable {prog : Program} {w : World} {A₀ : Around} {E : Value → Shared → Prop} {s : Shared} {h₀ : Heap} {L : Addr} {s₁ : Shared} {vs : List (Str × Value)} {news : List (Addr × Obj)}
  {env : Env} {n : Str} {pos np : Pos} {outer : List Env} {mg mb : Str → Option Value} {x : Str} {C : Addr} {b₀ : Stmt} {suite : List Stmt} {rest : List ExceptHandler}
/-- the exception at hand: an own one, its object and the tuple of its arguments -/
structure ExcOf (cls : Value) (e t : Addr) (xs : List Value) (oe ot : Obj) : Prop where
  cls : oe.cls = cls
  data : ∃ ws, oe.data = .fields ws ∧ ws[0]? = some (.ref t)
  tcls : ot.cls = .type "tuple"
  tdata : ∃ k, ot.data = .seq xs.toArray k
theorem x_caughtO {e t : Addr} {xs : List Value} {g : Heap} {m : Str → Option Value} {Q : Flow → Shared → Prop} (K : Below A₀ h₀ outer h₀) (G : Glo mg mb h₀) (F : Fr h₀ env.locals g m) (hm : ∀ q ∈ vs, m q.1 = some q.2) (U : g.UpToSlots s.heap)
    (R : RaisedK h₀ (env :: outer) e (.ref C) t xs news s.heap) (hs : s.gens = s₁.gens ∧ s.drawn = s₁.drawn ∧ s.os = s₁.os) (X : HX mg h₀ x C)
    (k : ∀ s' oe ot, St h₀ env.locals s₁ (upd n (.ref e) vs) ((e, oe) :: (t, ot) :: news) s' → ExcOf (.ref C) e t xs oe ot →
      wpAny (model prog w) ((A₀.deeper env).mark (some (.ref e))) (execs (b₀ :: suite) env)
        (fun f s₄ => wpAny (model prog w) (A₀.deeper env) (do bindName env n .none; unbindBehindTheSuite env n pos) (fun _ s₅ => Q f s₅) E s₄)
        (AsSuiteRaised (model prog w) ((A₀.deeper env).mark (some (.ref e))) env n pos (notedBy (model prog w) ((A₀.deeper env).mark (some (.ref e))) env (cameBackBy (model prog w) (A₀.deeper env) env E)))
        s')
    (hfr : env.frame = some env.locals) (hg : env.globals = mainGlobals := by rfl) (hk : env.scope.kind = .function := by rfl) (hlo : env.kindOf n = some .local := by rfl) (hx : env.kindOf x = some .globalImplicit := by rfl) (hd : (x == ("__debug__" : Str)) = false := by decide) :
    wpAny (model prog w) (A₀.deeper env) (noteFrame (.ref e) env)
      (fun _ s₂ => wpAny (model prog w) (A₀.deeper env) (setFlight (.ref e) none) (fun _ s₃ =>
        wpAny (model prog w) (A₀.deeper env) (handleBy (.ref e) env (.ExceptHandler (some (.Name x np)) (some n) (b₀ :: suite) pos :: rest)) Q E s₃) E s₂) E s := by
  obtain ⟨⟨B, hB, hl, hfl, hnew⟩, htup⟩ := R
  have hL : B.get? env.locals = none := by
    obtain ⟨_, ⟨L', _, hf, hn', _⟩, _⟩ := hfl.2.2.1
    rw [hfr] at hf
    obtain rfl : env.locals = L' := Option.some.inj hf
    exact hn'
  refine wpAny_looks_onW (Around.frames_deeper K.stack) hfr hfl fun h₄ hheld₄ hsm₄ => ?_
  refine wpAny_landsW hheld₄ fun h₅ hheld hsm₅' => ?_
  have hsm₅ := hsm₄.trans hsm₅'
  have hheld' := flyingW_base hB hheld
  have F₅ := F.of_stays hheld'.1 (U.trans hsm₅)
  obtain ⟨ob, hob, hobc⟩ := hheld'.there
  have X₅ := X.keeps F₅.keep
  obtain ⟨nm, q, N, bs, sn, sub, ab, col, dd, k0, k1, k2, k3, k5, mN, h1, h2, h3, h4, h5⟩ := X₅.cls
  refine wpAny_handleBy_cons (codeAny_handlers_test (Name_function_global hk hx (loadGlobal_global (env := env) (by rw [hg]; exact G.g.keeps F₅.keep) X.bound ?_) hd)) (by intro q; cases q)
  refine wpAny_excMatches_sub_self h1 hob hobc (by decide) (codeAny_handlers_suite_as ?_)
  refine lands_againW hheld fun h₆ hfl₆ hsm₆ => ?_
  have hfl₆' := flyingW_base hB hfl₆
  have F₆ := F.of_stays hfl₆'.1 ((U.trans hsm₅).trans hsm₆)
  obtain ⟨oe, ws, hoe, hoec, hoed, hoe0⟩ := hfl₆'.first
  obtain ⟨ot, nt, hot, hotc, hotd⟩ := (htup.of_slots hsm₅).of_slots hsm₆
  have N₆ := News.more F₆ (News.more F₆ News.nil hot (fun es n q => by rw [hotd] at q; cases q) (fresh_of_stays hB hnew)) hoe (fun es n q => by rw [hoed] at q; cases q) hfl₆'.2.1
  have Nl : News h₀ env.locals h₆ news := fun q hq => ⟨hfl₆.1 _ _ (hl q hq).1, (fun z => by have := (hl q hq).1; rw [z, hL] at this; cases this), (hl q hq).2⟩
  have S6 : St h₀ env.locals s₁ vs ((e, oe) :: (t, ot) :: news) { s with heap := h₆ } := ⟨hs.1, hs.2.1, hs.2.2, ⟨m, F₆, hm⟩, fun q hq => by
    rcases List.mem_cons.mp hq with rfl | hq
    · exact N₆ _ (.head _)
    · rcases List.mem_cons.mp hq with rfl | hq
      · exact N₆ _ (.tail _ (.head _))
      · exact Nl q hq⟩
  refine e_stE S6 (fun s7 S7 => ?_) hk hlo
  exact k s7 oe ot S7 ⟨hoec, ⟨ws, hoed, hoe0⟩, hotc, nt, hotd⟩
theorem e_goneE {M : Model} {A : Around} {Q : Unit → Shared → Prop} (S : St h₀ env.locals s₁ vs news s) (h : ∀ s', St h₀ env.locals s₁ (del n vs) news s' → Q () s')
    (hk : env.scope.kind = .function := by rfl) (hl : env.kindOf n = some .local := by rfl) :
    wpAny M A (do bindName env n .none; unbindBehindTheSuite env n pos) Q E s := by
  obtain ⟨m, F, hm⟩ := S.fr
  refine wpAny_nameGoes_keeps hl F.ns (by rw [hk]; rfl) fun h' v hn hs => h _ (S.of (F.set hn hs) (fun q hq => ?_) (S.nw.set hs))
  obtain ⟨h1, h2⟩ := List.mem_filter.mp hq
  have h3 : q.1 ≠ n := fun e => by rw [e] at h2; simp at h2
  simp only [h3, if_false]
  exact hm q h1
/-- err.args of an own one -/
theorem a_argsO {A : Around} {e t : Addr} {oe ot : Obj} {xs : List Value} {expr : Bool} {Q : Value → Shared → Prop} (X : HX mg h₀ x C) (S : St h₀ L s₁ vs news s) (he : (e, oe) ∈ news) (xo : ExcOf (.ref C) e t xs oe ot) (h : ∀ s', St h₀ L s₁ vs news s' → Q (.ref t) s') :
    wpAny (model prog w) A (getAttr (.ref e) "args" expr) Q E s := by
  obtain ⟨m, F, hm⟩ := S.fr
  obtain ⟨nm, q, N, bs, sn, sub, ab, col, dd, k0, k1, k2, k3, k5, mN, h1, h2, h3, h4, h5⟩ := (X.keeps F.keep).cls
  obtain ⟨ws, hd, h0⟩ := xo.data
  have hx := (S.nw _ he).1
  obtain ⟨hp, g, d, tk, o⟩ := s
  exact args_attr_own PySem.F.attrBase_Exception h1 h2 h3 .base hx xo.cls hd h0 (h _ (S.tok _))
end
end Mine

end

section
open PySem PySem.W PyProof.Rows PySem.Calls
set_option maxRecDepth 100000
namespace Mine
section
variable {prog : Program} {w : World} {M : Model} {A₀ A : Around} {E : Value → Shared → Prop} {s : Shared} {base h₀ : Heap} {L : Addr} {s₁ : Shared} {vs : List (Str × Value)} {news : List (Addr × Obj)}
  {mg mb : Str → Option Value} {env : Env} {outer : List Env} {pos : Pos} {f : Addr} {fo : Obj}
/-- what a raise in a called def's frame promises: it leaves the frame -/
abbrev Leaves (prog : Program) (w : World) (A : Around) (env : Env) (E : Value → Shared → Prop) : Value → Shared → Prop :=
  fun e s => wpAny (model prog w) A (leaving env e) (fun _ s' => E e s') (fun e' s' => E e' s') s
/-- the call of a def of the text, its frame without cells; its body may raise out of loops -/
theorem c_fnL {name qual : Str} {params : Arguments} {body : List Stmt} {scope : Scope} {dV kV doc pm cdv ct : Value} {an : Option Addr} {args : List Value} {binds : List (Str × Value)} {Q : Value → Shared → Prop}
    (B : Below A₀ base outer h₀) (S : St h₀ L s₁ vs news s) (G : Glo mg mb h₀) (hA : A.frames = some (env :: outer)) (hf : env.frame = some L) (hke : env.scope.kind = .function)
    (ho : h₀.get? f = some fo) (hd : fo.data = .func (fnX name qual params body scope [] dV kV doc pm an cdv ct)) (hcd : h₀.CodeRec cdv qual) (hroom : A.depth < recursionLimit)
    (hbind : bindArgs (fnX name qual params body scope [] dV kV doc pm an cdv ct) ⟨args, []⟩ = pure binds) (hloc : ∀ y ∈ binds, scope.names.lookup y.1 = some .local)
    (hlk : ∀ p ∈ binds, binds.reverse.lookup p.1 = some p.2)
    (h : ∀ g L' s', St g L' s₁ binds news s' → Below A base (env :: outer) g → Glo mg mb g → h₀.StaysIn g → (∀ p ∈ news, p.1 < L') →
      (∀ a news' hh cls xs (s'' : Shared), St g L' s₁ [] news' { s'' with heap := hh } → Heap.MadeExcOf hh s''.heap a cls xs →
        (∀ h' t m, RaisedK base (env :: outer) a cls t xs news' h' → Fr h₀ L g m → (∀ p ∈ vs, m p.1 = some p.2) → g.UpToSlots h' → E (.ref a) { s'' with heap := h' }) →
        Leaves prog w (A.deeper (envX qual scope L' f cdv [])) (envX qual scope L' f cdv []) E (.ref a) s'') →
      wpAny (model prog w) (A.deeper (envX qual scope L' f cdv [])) (execs body (envX qual scope L' f cdv []))
        (fun fl s'' => ∃ news', St g L' s₁ [] news' s'' ∧ (St h₀ L s₁ vs news' s'' → Q (match fl with | .ret v => v | _ => .none) s''))
        (Leaves prog w (A.deeper (envX qual scope L' f cdv [])) (envX qual scope L' f cdv []) E) s')
    (hcell : ∀ x ∈ scope.names, x.2 ≠ .cell) (hco : scope.isCoroutine = false := by rfl) (hgen : scope.isGenerator = false := by rfl) (hk : scope.kind = .function := by rfl) :
    wpAny (model prog w) A (call (.ref f) args) Q E s := by
  obtain ⟨m, F, hm⟩ := S.fr
  refine wpAny_call (callX_plain B F S.nw G.nolimit hA hf hke (F.keep _ _ ho) hd (hcd.keeps F.keep) hroom (BindsTo.of_eq hbind) hloc (fun g L' h₁ Fg F' N' B' st hl => ?_) hcell hco hgen hk)
  have S' : St g L' s₁ binds news { heap := h₁, gens := s.gens, drawn := s.drawn, toks := s.toks + binds.length, os := s.os } := ⟨S.gens, S.drawn, S.os, ⟨_, F', hlk⟩, N'⟩
  refine wpAny_mono (h g L' _ S' B' (G.keeps st) st hl (fun a news' hh cls xs s'' S'' hx he => ?_)) (fun fl s'' hq => ?_) (fun e s'' he => he)
  · obtain ⟨m', F'', _⟩ := S''.fr
    refine leave_raiseK B' hx F'' S''.nw (fun h' t R' U' => ?_) hk
    exact he h' t m R' Fg hm U'
  · obtain ⟨news', S'', hq⟩ := hq
    obtain ⟨m', F'', _⟩ := S''.fr
    refine leaveK_ F'' S''.nw fun F3 N3 => ?_
    exact hq ⟨S''.gens, S''.drawn, S''.os, ⟨m, F3, hm⟩, N3⟩
theorem Leaves.passes : PassesOwn (model prog w) A env (Leaves prog w A env E) := PassesOwn.leaving
/-- while True: by a count that sinks -/
theorem loop_while {body : List Stmt} {test : Expr} {Q : Flow → Shared → Prop} (I : Nat → Shared → Prop) (hE : PassesOwn (model prog w) A env E)
    (turn : ∀ n s, I n s → wpAny (model prog w) A (PySem.isTrue test env (eval test env)) (fun b s₂ => b = true ∧ wpAny (model prog w) A (execs body env) (fun fl s₃ => match fl with
        | .next | .cont => ∃ m, m < n ∧ I m s₃
        | .brk => Q .next s₃
        | .ret v => Q (.ret v) s₃) E s₂) E s) (n : Nat) (h : I n s) :
    wpAny (model prog w) A (exec (.While test body [] pos) env) Q E s := by
  refine wpAny_While (codeAny_whileLoop I (fun n s hI => ?_) n h)
  refine wpAny_passesOwn hE (wpAny_mono (turn n s hI) (fun b s₂ hb => ?_) fun _ _ e => e)
  obtain ⟨rfl, hb⟩ := hb
  rw [if_pos rfl]
  exact wpAny_passesOwn hE hb
end
end Mine

end

section
open PySem PySem.W PyProof.Rows PySem.Calls
set_option maxRecDepth 100000
namespace Mine
def hxNames : List Str := ["__init__", "__getattribute__", "__getattr__", "args", "__setattr__", "readline"]
/-- the written part says that C is an own class right under Exception, quiet -/
def hxIn (K : Frag) (C : Addr) : Bool := match K.lookup C with
  | some ⟨.type "type", _, .cls cd, sl⟩ => (match cd.mro, sl.toList with
    | .ref C' :: bm, [_, _, _, _, some (.builtin n), _] => C' == C && n == "Exception.__new__" && !cd.hasDel && bm == bmE && cd.hasDict && nsOkIn K cd.ns && hxNames.all fun x => nsIn K cd.ns x == some none
    | _, _ => false)
  | _ => false
theorem hx_of_in {K : Frag} {h₀ : Heap} {mg : Str → Option Value} {x : Str} {C : Addr} (X : K.In h₀) (G : h₀.Ns mainGlobals mg) (e : nsIn K mainGlobals x = some (some (.ref C))) (q : hxIn K C = true) : HX mg h₀ x C := by
  refine ⟨mg_of X G e, ?_⟩
  unfold hxIn at q
  split at q
  · rename_i dd cd sl ho
    split at q
    · rename_i C' bm k0 k1 k2 k3 n k5 hm hs
      simp only [Bool.and_eq_true, beq_iff_eq, Bool.not_eq_true'] at q
      obtain ⟨⟨⟨⟨⟨⟨rfl, rfl⟩, hdel⟩, rfl⟩, hdc⟩, hok⟩, hni⟩ := q
      obtain ⟨nm, bs, mro, ns, qn, hd, sn, sub, ab, col, del⟩ := cd
      dsimp only at hm hdel hok hni hdc
      subst hm hdel hdc
      have hsl : sl = #[k0, k1, k2, k3, some (.builtin "Exception.__new__"), k5] := by
        obtain ⟨l⟩ := sl
        simp only at hs
        rw [hs]
      subst hsl
      have hno : ∀ x ∈ hxNames, h₀.nsMap ns x = none := fun x hx => by
        have := List.all_eq_true.mp hni x hx
        exact nsMap_none_of_in X hok (by simpa using this)
      exact ⟨nm, qn, ns, bs, sn, sub, ab, col, dd, k0, k1, k2, k3, k5, _, X _ _ ho, .of_isNs (isNs_of_in X hok), fun n hn => hno n (by
          have : ∀ n ∈ quietNames, n ∈ hxNames := by decide
          exact this n hn), hno _ (by decide), hno _ (by decide)⟩
    · cases q
  · cases q
theorem keep_of_in {K : Frag} {h₀ : Heap} {mg : Str → Option Value} {x : Str} {C : Addr} (_ : K.In h₀) (_ : HX mg h₀ x C) (h : keepIn K (.ref C) = true) : keepIn K (.ref C) = true := h
end Mine

end

section
open PySem PySem.W PyProof.Rows PySem.Calls
set_option maxRecDepth 100000
namespace Mine
local macro_rules | `(tactic| ktr_rel) => `(tactic| first | assumption | with_reducible exact mem_upd | ((with_reducible refine' mem_upd_ne ?h9 ?m9); (case h9 => decide); (case m9 => ktr_rel)) | ((with_reducible refine' mem_del ?h9 ?m9); (case h9 => decide); (case m9 => ktr_rel)) | exact List.Mem.head _ | exact List.Mem.tail _ (by ktr_rel))

def fBody : Stmt → List Stmt
  | .FunctionDef _ _ b _ _ _ _ _ _ _ => b
  | _ => []
def fScope : Stmt → Scope
  | .FunctionDef _ _ _ _ _ _ sc _ _ _ => sc
  | _ => { kind := .function, names := [], isGenerator := false, isCoroutine := false, more := [] }
def noSt : Stmt := .Pass ⟨0, 0, 0, 0⟩
def top (i : Nat) : Stmt := PySem.Challenge.pw_dv0018_04.main.body.getD i noSt
def forBody : Stmt → List Stmt
  | .For _ _ b _ _ => b
  | _ => []
def readDef : Stmt := match PySem.Challenge.pw_dv0018_04.main.body with
  | _ :: _ :: _ :: d :: _ => d
  | _ => noSt
def octDef : Stmt := match PySem.Challenge.pw_dv0018_04.main.body with
  | _ :: _ :: _ :: _ :: _ :: _ :: _ :: d :: _ => d
  | _ => noSt
def srcDef : Stmt := match PySem.Challenge.pw_dv0018_04.main.body with
  | _ :: _ :: _ :: _ :: _ :: _ :: _ :: _ :: d :: _ => d
  | _ => noSt
def lawDef : Stmt := match PySem.Challenge.pw_dv0018_04.main.body with
  | _ :: _ :: _ :: _ :: _ :: _ :: _ :: _ :: _ :: d :: _ => d
  | _ => noSt
def octFor : Stmt := match fBody octDef with
  | _ :: _ :: d :: _ => d
  | _ => noSt
def octScope : Scope := fScope octDef

section
variable {prog : Program} {w : World} {M : Model} {A : Around} {E : Value → Shared → Prop} {s : Shared} {h₀ : Heap} {L : Addr} {s₁ : Shared} {vs : List (Str × Value)} {news : List (Addr × Obj)} {mg mb : Str → Option Value} {f : Addr} {cd : Value} {qual : Str}
theorem c_sumI {l : Addr} {xs : List Value} {ns : List Int} {Q : Value → Shared → Prop} (hh : A.handled = none) (S : St h₀ L s₁ vs news s) (hl : s.heap.IsList l xs.toArray) (hi : IntsAre xs ns)
    (h : ∀ n t s', St h₀ L s₁ vs news s' → Q (.int n t) s') : wpAny (model prog w) A (call (.builtin "sum") [.ref l]) Q E s := by
  obtain ⟨ys, e⟩ := hi.allInts.items
  rw [e] at hl
  exact sum_intListG hh hl fun h' tk t' hk => h _ t' _ (S.grow tk hk)
theorem o_bmul {b : List UInt8} {n : Int} {t u : Tok} {Q : Value → Shared → Prop} (S : St h₀ L s₁ vs news s) (hb : b ≠ []) (hlo : 0 ≤ n) (hn : n ≤ 1048576) (hs : b.length ≤ 16)
    (h : ∀ t s', St h₀ L s₁ vs news s' → Q (.bytes ((List.replicate n.toNat b).flatten).toArray t) s') : wpAny (model prog w) A (binaryOp .Mult (.bytes b.toArray t) (.int n u)) Q E s :=
  bytes_mul_any hb (by omega) hn hs fun t' k => h t' _ (S.tok k)
theorem rep_len (n : Nat) (b : List UInt8) : ((List.replicate n b).flatten).length = n * b.length := by
  induction n with
  | zero => simp
  | succ n ih => rw [List.replicate_succ, List.flatten_cons, List.length_append, ih]; rw [Nat.succ_mul]; omega
theorem fmodp (x : Int) (k : Int) (h : 0 < k) : 0 ≤ x.fmod k ∧ x.fmod k < k := ⟨Int.fmod_nonneg_of_pos x h, Int.fmod_lt_of_pos x h⟩
def octPieces : List (List UInt8) := [[10], [13, 10], [13], [97], [98, 58, 32, 99, 13, 10], [32, 100, 10], [13, 13, 10], [10, 13], [32, 10], [0, 255]]
set_option maxHeartbeats 4000000 in
theorem oct_turn {x : Int} {tx : Tok} {l : List UInt8} {tl : Tok} {P : Addr} {pv : List Value} {c : Nat} {Q : Flow → Shared → Prop} (G : Glo mg mb h₀) (hby : mg "bytes" = none ∧ mb "bytes" = some (.type "bytes")) (hh : A.handled = none)
    (S : St h₀ L s₁ vs news s) (h1 : (("x" : Str), Value.int x tx) ∈ vs) (h2 : (("octets" : Str), Value.bytes l.toArray tl) ∈ vs) (h3 : (("pieces" : Str), Value.ref P) ∈ vs) (hP : (P, listOf pv.toArray c) ∈ news) (hB : BAre pv octPieces) (hl : l.length ≤ 100000)
    (hQ : ∀ (l' : List UInt8) t s', l'.length ≤ l.length + 12 → St h₀ L s₁ (upd "octets" (.bytes l'.toArray t) vs) news s' → Q .next s') :
    wpAny (model prog w) A (execs (forBody octFor) (envOf qual octScope L f cd)) Q E s := by
  have hx := fmodp x 12 (by decide)
  dsimp only [forBody, octFor, fBody, octDef, PySem.Challenge.pw_dv0018_04]
  refine wpAny_execs_cons ?_
  refine wpAny_If ?_
  refine wpAny_isTrue_Compare1 ?_
  refine wpAny_BinOp ?_
  refine e_loc S (by ktr_rel) ?_
  refine e_int S ?_
  intro t1 s1 S1
  refine o_mod S1 (by decide) ?_
  intro t2 s2 S2
  refine e_int S2 ?_
  intro t3 s3 S3
  refine lt_int ?_
  refine wpAny_truthy_bool ?_
  by_cases hlt : x.fmod 12 < 10
  · rw [if_pos (by simpa using hlt)]
    refine wpAny_execs_cons ?_
    refine wpAny_Assign_Name ?_
    refine wpAny_BinOp ?_
    refine e_loc S3 (by ktr_rel) ?_
    refine Subscript_ ?_
    refine e_loc S3 (by ktr_rel) ?_
    refine wpAny_BinOp ?_
    refine e_loc S3 (by ktr_rel) ?_
    refine e_int S3 ?_
    intro t4 s4 S4
    refine o_mod S4 (by decide) ?_
    intro t5 s5 S5
    have hlen : (x.fmod 12).toNat < octPieces.length := by show _ < 10; omega
    obtain ⟨tp, hp⟩ := hB.get (List.getElem?_eq_getElem hlen)
    have hp6 : (octPieces[(x.fmod 12).toNat]).length ≤ 6 := by
      have : ∀ q ∈ octPieces, q.length ≤ 6 := by decide
      exact this _ (List.getElem_mem _)
    refine s_litem (S5.lst hP) (by omega) (by omega) hp ?_
    refine o_cat S5 (by simp; omega) ?_
    intro t6 s6 S6
    rw [List.append_toArray]
    refine e_st S6 ?_
    intro s7 S7
    dsimp only
    refine wpAny_execs_nil ?_
    dsimp only
    refine wpAny_execs_nil ?_
    exact hQ _ t6 s7 (by simp; omega) S7
  · rw [if_neg (by simpa using hlt)]
    refine wpAny_execs_cons ?_
    refine wpAny_If ?_
    refine wpAny_isTrue_Compare1 ?_
    refine wpAny_BinOp ?_
    refine e_loc S3 (by ktr_rel) ?_
    refine e_int S3 ?_
    intro t4 s4 S4
    refine o_mod S4 (by decide) ?_
    intro t5 s5 S5
    refine e_int S5 ?_
    intro t6 s6 S6
    refine eq_int ?_
    refine wpAny_truthy_bool ?_
    by_cases he : x.fmod 12 = 10
    · rw [if_pos (by simpa using he)]
      refine wpAny_execs_cons ?_
      refine wpAny_Assign_Name ?_
      refine wpAny_BinOp ?_
      refine e_loc S6 (by ktr_rel) ?_
      refine wpAny_BinOp ?_
      refine e_byt S6 ?_
      intro t7 s7 S7
      refine wpAny_BinOp ?_
      refine e_int S7 ?_
      intro t8 s8 S8
      refine wpAny_BinOp ?_
      refine wpAny_BinOp ?_
      refine e_loc S8 (by ktr_rel) ?_
      refine e_int S8 ?_
      intro t9 s9 S9
      refine o_fdiv S9 (by decide) (by decide) ?_
      intro t10 s10 S10
      refine e_int S10 ?_
      intro t11 s11 S11
      refine o_mod S11 (by decide) ?_
      intro t12 s12 S12
      refine o_add S12 ?_
      intro t13 s13 S13
      have h6 := fmodp (x.fdiv 12) 6 (by decide)
      refine o_bmul S13 (by decide) (by omega) (by omega) (by decide) ?_
      intro t14 s14 S14
      have hr := rep_len (1 + (x.fdiv 12).fmod 6).toNat [101, 10]
      have hr2 : ((List.replicate (1 + (x.fdiv 12).fmod 6).toNat ([101, 10] : List UInt8)).flatten).length ≤ 12 := by rw [hr]; show _ * 2 ≤ 12; omega
      refine o_cat S14 (by simp only [List.size_toArray]; omega) ?_
      intro t15 s15 S15
      rw [List.append_toArray]
      refine e_st S15 ?_
      intro s16 S16
      dsimp only
      refine wpAny_execs_nil ?_
      dsimp only
      refine wpAny_execs_nil ?_
      dsimp only
      refine wpAny_execs_nil ?_
      exact hQ _ t15 s16 (by rw [List.length_append]; omega) S16
    · rw [if_neg (by simpa using he)]
      refine wpAny_execs_cons ?_
      refine wpAny_Assign_Name ?_
      refine wpAny_BinOp ?_
      refine e_loc S6 (by ktr_rel) ?_
      refine Call_ ?_
      refine e_blt S6 G hby ?_
      refine PyProof.Rows.callWith_type1 ?_
      refine spliced_more ?_
      refine List_ ?_
      refine spliced_more ?_
      refine wpAny_BinOp ?_
      refine wpAny_BinOp ?_
      refine e_loc S6 (by ktr_rel) ?_
      refine e_int S6 ?_
      intro t9 s9 S9
      refine o_fdiv S9 (by decide) (by decide) ?_
      intro t10 s10 S10
      refine e_int S10 ?_
      intro t11 s11 S11
      refine o_mod S11 (by decide) ?_
      intro t12 s12 S12
      refine spliced_none ?_
      refine e_lst S12 (by simp) ?_
      intro D s13 S13 _
      refine spliced_none ?_
      have h6 := fmodp (x.fdiv 12) 256 (by decide)
      refine c_mkb S13 hh (S13.lst (.head _)) (.cons _ _ .nil) ?_ (by simp) ?_
      · intro n hn
        rw [List.mem_singleton.mp hn]
        exact h6
      intro t14 s14 S14
      refine o_cat S14 (by simp; omega) ?_
      intro t15 s15 S15
      rw [List.append_toArray]
      refine e_st S15 ?_
      intro s16 S16
      dsimp only
      refine wpAny_execs_nil ?_
      dsimp only
      refine wpAny_execs_nil ?_
      dsimp only
      refine wpAny_execs_nil ?_
      exact hQ _ t15 s16 (by simp) (S16.weak (fun _ h => h) (fun _ h => .tail _ h))
end
end Mine

end

section
open PySem PySem.W PyProof.Rows PySem.Calls
set_option maxRecDepth 100000
namespace Mine
local macro_rules | `(tactic| ktr_rel) => `(tactic| first | assumption | with_reducible exact mem_upd | ((with_reducible refine' mem_upd_ne ?h9 ?m9); (case h9 => decide); (case m9 => ktr_rel)) | ((with_reducible refine' mem_del ?h9 ?m9); (case h9 => decide); (case m9 => ktr_rel)) | exact List.Mem.head _ | exact List.Mem.tail _ (by ktr_rel))
theorem IntsAre.getV {xs : List Value} {ns : List Int} (h : IntsAre xs ns) {i : Nat} {v : Value} (hv : xs[i]? = some v) : ∃ n t, v = .int n t := by
  induction h generalizing i with
  | nil => simp at hv
  | cons n t _ ih =>
    cases i with
    | zero => simp at hv; exact ⟨n, t, hv.symm⟩
    | succ i => exact ih (by simpa using hv)
/-- what the law needs of a def of the text -/
structure DefAt (mg : Str → Option Value) (h₀ : Heap) (nm : Str) (df : Stmt) (arg : Str) (f : Addr) (fo : Obj) (body : List Stmt) (dV kV doc pm cdv ct : Value) (an : Option Addr) (params : Arguments) (name qual : Str) : Prop where
  bd : body = fBody df
  nm : mg nm = some (.ref f)
  ob : h₀.get? f = some fo
  dat : fo.data = .func (fnX name qual params body (fScope df) [] dV kV doc pm an cdv ct)
  code : h₀.CodeRec cdv qual
  bind : ∀ v, bindArgs (fnX name qual params body (fScope df) [] dV kV doc pm an cdv ct) ⟨[v], []⟩ = pure [(arg, v)]
/-- the builtins that the law names -/
structure Blts (mg mb : Str → Option Value) : Prop where
  len : mg "len" = none ∧ mb "len" = some (.builtin "len")
  type : mg "type" = none ∧ mb "type" = some (.type "type")
  bytes : mg "bytes" = none ∧ mb "bytes" = some (.type "bytes")
  range : mg "range" = none ∧ mb "range" = some (.type "range")
  min : mg "min" = none ∧ mb "min" = some (.builtin "min")
  sum : mg "sum" = none ∧ mb "sum" = some (.builtin "sum")
section
variable {prog : Program} {w : World} {M : Model} {A : Around} {E : Value → Shared → Prop} {s : Shared} {h₀ : Heap} {L : Addr} {s₁ : Shared} {vs : List (Str × Value)} {news : List (Addr × Obj)} {mg mb : Str → Option Value} {f : Addr}
  {fo : Obj} {dV kV doc pm cdv ct cd : Value} {an : Option Addr} {params : Arguments} {name qual : Str}
set_option maxHeartbeats 4000000 in
theorem oct_body {B : List Stmt} (hB0 : B = fBody octDef) {sc : Addr} {xs : List Value} {ns : List Int} {Q : Flow → Shared → Prop} (G : Glo mg mb h₀) (BL : Blts mg mb) (hh : A.handled = none) (hE : PassesOwn (model prog w) A (envOf qual octScope L f cd) E)
    (S : St h₀ L s₁ [(("script" : Str), Value.ref sc)] news s) (hsc : s.heap.IsList sc xs.toArray) (hks : ∀ s', St h₀ L s₁ [] news s' → s'.heap.IsList sc xs.toArray) (hI : IntsAre xs ns) (hlen : ns.length ≤ 63)
    (hQ : ∀ (l : List UInt8) t s', l.length ≤ 1300 → St h₀ L s₁ [] news s' → Q (.ret (.bytes l.toArray t)) s') :
    wpAny (model prog w) A (execs B (envOf qual octScope L f cd)) Q E s := by
  have hxl : xs.length = ns.length := hI.length
  have e : fBody octDef = (fBody octDef).headD noSt :: ((fBody octDef).drop 1).headD noSt :: octFor :: (fBody octDef).drop 3 := rfl
  rw [hB0, e]
  refine wpAny_execs_cons ?_
  dsimp only [fBody, octDef, PySem.Challenge.pw_dv0018_04, List.headD, List.drop]
  refine wpAny_Assign_Name ?_
  refine List_ ?_
  refine spliced_more ?_
  refine e_byt S ?_
  intro t1 s1 S1
  refine spliced_more ?_
  refine e_byt S1 ?_
  intro t2 s2 S2
  refine spliced_more ?_
  refine e_byt S2 ?_
  intro t3 s3 S3
  refine spliced_more ?_
  refine e_byt S3 ?_
  intro t4 s4 S4
  refine spliced_more ?_
  refine e_byt S4 ?_
  intro t5 s5 S5
  refine spliced_more ?_
  refine e_byt S5 ?_
  intro t6 s6 S6
  refine spliced_more ?_
  refine e_byt S6 ?_
  intro t7 s7 S7
  refine spliced_more ?_
  refine e_byt S7 ?_
  intro t8 s8 S8
  refine spliced_more ?_
  refine e_byt S8 ?_
  intro t9 s9 S9
  refine spliced_more ?_
  refine e_byt S9 ?_
  intro t10 s10 S10
  refine spliced_none ?_
  refine e_lst S10 (by simp) ?_
  intro P s11 S11 hPn
  refine e_st S11 ?_
  intro s12 S12
  dsimp only
  refine wpAny_execs_cons ?_
  refine wpAny_Assign_Name ?_
  refine wpAny_BinOp ?_
  refine e_byt S12 ?_
  intro t13 s13 S13
  refine wpAny_BinOp ?_
  refine e_int S13 ?_
  intro t14 s14 S14
  refine wpAny_BinOp ?_
  refine Call_ ?_
  refine e_blt S14 G BL.sum ?_
  refine PyProof.Rows.callWith_builtin1 ?_
  refine spliced_more ?_
  refine e_loc S14 (by ktr_rel) ?_
  refine spliced_none ?_
  have hk' : ∀ {vs' : List (Str × Value)} {o : Obj} {s' : Shared}, St h₀ L s₁ vs' ((P, o) :: news) s' → s'.heap.IsList sc xs.toArray := fun S' => hks _ (S'.weak (by simp) (fun _ h => .tail _ h))
  refine c_sumI hh S14 (hk' S14) hI ?_
  intro n t15 s15 S15
  refine e_int S15 ?_
  intro t16 s16 S16
  refine o_mod S16 (by decide) ?_
  intro t17 s17 S17
  refine o_add S17 ?_
  intro t18 s18 S18
  have h9 := fmodp n 9 (by decide)
  refine o_bmul S18 (by decide) (by omega) (by omega) (by decide) ?_
  intro t19 s19 S19
  have hr : ((List.replicate (94 + n.fmod 9).toNat ([104, 58, 32, 105, 10] : List UInt8)).flatten).length ≤ 510 := by rw [rep_len]; show _ * 5 ≤ 510; omega
  refine e_st S19 ?_
  intro s20 S20
  dsimp only
  refine wpAny_execs_cons ?_
  have e2 : octFor = .For (match octFor with | .For t .. => t | _ => .Name "" ⟨0, 0, 0, 0⟩) (match octFor with | .For _ i .. => i | _ => .Name "" ⟨0, 0, 0, 0⟩) (forBody octFor) [] (match octFor with | .For _ _ _ _ p => p | _ => ⟨0, 0, 0, 0⟩) := rfl
  rw [e2]
  refine wpAny_For ?_ (by intro _; rfl)
  dsimp only [octFor, fBody, octDef, PySem.Challenge.pw_dv0018_04]
  refine Subscript_ ?_
  refine e_loc S20 (by ktr_rel) ?_
  refine wpAny_Slice ?_
  refine evalPart_none_step ?_
  refine evalPart_some_step ?_
  refine e_int S20 ?_
  intro t21 s21 S21
  refine evalPart_none_step ?_
  refine s_lupto S21 (hk' S21) (by decide) (by omega) ?_
  intro D s22 S22
  have hB : BAre [_, _, _, _, _, _, _, _, _, _] octPieces := .cons _ t1 (.cons _ t2 (.cons _ t3 (.cons _ t4 (.cons _ t5 (.cons _ t6 (.cons _ t7 (.cons _ t8 (.cons _ t9 (.cons _ t10 .nil)))))))))
  refine loop_list hh (S22.lst (.head _)) (S22.notList (S22.lst (.head _))) S22 (fun i vs' news' => news' = _ :: _ :: news ∧ ∃ (l : List UInt8) (t : Tok), (("octets" : Str), Value.bytes l.toArray t) ∈ vs' ∧ (("pieces" : Str), Value.ref P) ∈ vs' ∧ l.length ≤ 510 + 12 * i) ⟨rfl, _, t19, by ktr_rel, by ktr_rel, by omega⟩ ?_ ?_ hE
  · rintro i v vs₁ news₁ s23 own hv ⟨rfl, l, t, h1, h2, h3⟩ _ S23
    have hi : i < 63 := by
      have := (List.getElem?_eq_some_iff.mp hv).1
      simp at this; omega
    obtain ⟨x, tx, rfl⟩ := IntsAre.getV hI (i := i) (v := v) (by rw [List.getElem?_take] at hv; split at hv; exact hv; cases hv)
    refine oct_turn G BL.bytes hh S23 mem_upd (mem_upd_ne (by decide) h1) (mem_upd_ne (by decide) h2) (.tail _ (.head _)) hB (by omega) ?_
    intro l' t' s24 hl' S24
    refine ⟨_, _, ⟨rfl, l', t', mem_upd, mem_upd_ne (by decide) (mem_upd_ne (by decide) h2), by omega⟩, rfl, S24⟩
  · rintro vs₁ news₁ s23 ⟨rfl, l, t, h1, h2, h3⟩ _ S23
    dsimp only [List.drop]
    refine wpAny_execs_cons ?_
    refine wpAny_Return_some ?_
    refine e_loc S23 (by ktr_rel) ?_
    refine hQ l t s23 ?_ (S23.weak (by simp) (fun _ h => .tail _ (.tail _ h)))
    have : (xs.take (Int.toNat 63)).length ≤ 63 := by rw [List.length_take]; show min 63 _ ≤ 63; omega
    omega
end
end Mine

end

section
open PySem PySem.W PyProof.Rows PySem.Calls
set_option maxRecDepth 100000
namespace Mine
theorem oct_nocell : ∀ x ∈ octScope.names, x.2 ≠ .cell := by decide
section
variable {prog : Program} {w : World} {M : Model} {A : Around} {E : Value → Shared → Prop} {s : Shared} {h₀ : Heap} {L : Addr} {s₁ : Shared} {vs : List (Str × Value)} {news : List (Addr × Obj)} {mg mb : Str → Option Value} {f : Addr}
  {fo : Obj} {dV kV doc pm cdv ct cd : Value} {an : Option Addr} {params : Arguments} {name qual : Str} {body : List Stmt}
theorem oct_call {env : Env} {outer : List Env} {A₀ : Around} {base : Heap} {sc : Addr} {xs : List Value} {ns : List Int} {Q : Value → Shared → Prop} (K : Below A₀ base outer h₀) (G : Glo mg mb h₀) (FO : DefAt mg h₀ "_law_octets" octDef "script" f fo body dV kV doc pm cdv ct an params name qual) (BL : Blts mg mb)
    (S : St h₀ L s₁ vs news s) (hh : A.handled = none) (hA : A.frames = some (env :: outer)) (hf : env.frame = some L) (hke : env.scope.kind = .function) (hroom : A.depth < recursionLimit) (hsc : h₀.IsList sc xs.toArray) (hI : IntsAre xs ns) (hlen : ns.length ≤ 63)
    (hQ : ∀ (l : List UInt8) t s', l.length ≤ 1300 → St h₀ L s₁ vs news s' → Q (.bytes l.toArray t) s') :
    wpAny (model prog w) A (call (.ref f) [.ref sc]) Q E s := by
  refine c_fn K S G hA hf hke FO.ob FO.dat FO.code hroom (FO.bind _) ?_ ?_ (fun g L' s' S' B' G' st hl => ?_) oct_nocell
  · intro y hy
    rw [List.mem_singleton.mp hy]; rfl
  · intro q hq
    rw [List.mem_singleton.mp hq]; simp
  have hsc' := hsc.at fun o e => st _ o e
  have key : wpAny (model prog w) (A.deeper (envX qual octScope L' f cdv [])) (execs body (envX qual octScope L' f cdv [])) (fun fl s'' => ∃ news', St g L' s₁ [] news' s'' ∧ (St h₀ L s₁ vs news' s'' → Q (match fl with | .ret v => v | _ => .none) s'')) (fun _ _ => False) s' := by
    refine oct_body FO.bd G' BL hh PassesOwn.never S' (hsc'.at fun o e => S'.old e) (fun s2 S2 => hsc'.at fun o e => S2.old e) hI hlen ?_
    intro l t s2 hl2 S2
    exact ⟨news, S2, fun S3 => hQ l t _ hl2 S3⟩
  exact wpAny_mono key (fun _ _ h => h) (fun _ _ h => h.elim)
end
end Mine

end

section
open PySem PySem.W PyProof.Rows PySem.Calls
set_option maxRecDepth 100000
namespace Mine
open Builtin
namespace FF
theorem slot : Slot "bytes" "find" "bytes.find" :=
  .of (owner := "bytes") (n := "find") (by rw [typeLookup_type, builtinLookup_eq_fast]; kernel_rfl) (by decide +kernel) (by decide +kernel) (by decide +kernel)
    (by first | exact .inl (by decide +kernel) | exact .inr (by decide +kernel)) (by rw [isSubtype_type]; kernel_rfl)
theorem ty : typeOf (.builtin "bytes.find") = pure (.type "method_descriptor") := by show builtinType _ = _; rw [builtinType_eq_fast]; kernel_rfl
theorem entry : entryFor table "bytes.find" = some Builtin.«bytes.find» := entryFor_of_tree (by kernel_rfl)
theorem args2 (a b : Value) : argsOk "bytes.find" ⟨[a, b], []⟩ := by
  unfold argsOk; rw [signature?_of (id := "bytes.find") (n := ['d', 'n', 'i', 'f']) (o := ['s', 'e', 't', 'y', 'b']) (by kernel_rfl) FB.owner_bytes]; kernel_rfl
theorem args3 (a b c : Value) : argsOk "bytes.find" ⟨[a, b, c], []⟩ := by
  unfold argsOk; rw [signature?_of (id := "bytes.find") (n := ['d', 'n', 'i', 'f']) (o := ['s', 'e', 't', 'y', 'b']) (by kernel_rfl) FB.owner_bytes]; kernel_rfl
end FF
/-- where m stands in l, from lo on; none if it does not -/
def fnd? (l m : List UInt8) (lo : Nat) : Option Nat := Bytes.find? l.toArray m.toArray lo l.length
def fndI (o : Option Nat) : Int := match o with | some i => (i : Int) | none => -1
theorem fnd_short (l m : List UInt8) (lo : Nat) (h : l.length < lo + m.length) : fnd? l m lo = none := by
  unfold fnd? Bytes.find?
  have : l.length + 1 - (lo + m.toArray.size) = 0 := by rw [List.size_toArray]; omega
  rw [this]; rfl
theorem args_eq3 (l m : List UInt8) (t u v : Tok) (lo : Nat) : Bytes.searchArgs .bytes "find" ⟨[.bytes l.toArray t, .bytes m.toArray u, .int lo v], []⟩ = pure (l.toArray, m.toArray, if ((l.length : Nat) : Int) - (lo : Int) < ((m.length : Nat) : Int) then none else some (lo, l.length)) := by
  unfold Bytes.searchArgs
  show (Bytes.bound? (some (.int lo v)) >>= fun r => _) = _
  have eb : Bytes.bound? (some (.int lo v)) = pure (some (lo : Int)) := by
    unfold Bytes.bound?
    show (specialOf (.int lo v) "__index__" >>= fun r => _) = _
    rw [FX.idx_int]; rfl
  rw [eb]
  show (Bytes.buffer? "bytes.find" (.bytes m.toArray u) >>= fun r => _) = _
  rw [KBy.buffer_eq]
  show (pure (l.toArray, m.toArray, if (min ((l.toArray.size : Nat) : Int) (if ((l.toArray.size : Nat) : Int) < 0 then _ else ((l.toArray.size : Nat) : Int))) - (if (lo : Int) < 0 then _ else (lo : Int)) < ((m.toArray.size : Nat) : Int) then none else some ((if (lo : Int) < 0 then _ else (lo : Int) : Int).toNat, (min ((l.toArray.size : Nat) : Int) (if ((l.toArray.size : Nat) : Int) < 0 then _ else ((l.toArray.size : Nat) : Int))).toNat)) : Sem _) = _
  have h0 : ¬ ((l.length : Int) < 0) := by omega
  have h1 : ¬ ((lo : Int) < 0) := by omega
  simp only [List.size_toArray, h0, h1, if_false]
  simp
theorem args_eq2 (l m : List UInt8) (t u : Tok) : Bytes.searchArgs .bytes "find" ⟨[.bytes l.toArray t, .bytes m.toArray u], []⟩ = pure (l.toArray, m.toArray, if ((l.length : Nat) : Int) - ((0 : Nat) : Int) < ((m.length : Nat) : Int) then none else some (0, l.length)) := by
  unfold Bytes.searchArgs
  show (Bytes.buffer? "bytes.find" (.bytes m.toArray u) >>= fun r => _) = _
  rw [KBy.buffer_eq]
  show (pure (l.toArray, m.toArray, if (min ((l.toArray.size : Nat) : Int) (if ((l.toArray.size : Nat) : Int) < 0 then _ else ((l.toArray.size : Nat) : Int))) - (if (0 : Int) < 0 then _ else 0) < ((m.toArray.size : Nat) : Int) then none else some ((if (0 : Int) < 0 then _ else 0 : Int).toNat, (min ((l.toArray.size : Nat) : Int) (if ((l.toArray.size : Nat) : Int) < 0 then _ else ((l.toArray.size : Nat) : Int))).toNat)) : Sem _) = _
  have h0 : ¬ ((l.length : Int) < 0) := by omega
  simp only [List.size_toArray, h0, if_false]
  simp
theorem find_tail (l m : List UInt8) (lo : Nat) (hlo : lo ≤ l.length) {A : Args} (e : Bytes.searchArgs .bytes "find" A = pure (l.toArray, m.toArray, if ((l.length : Nat) : Int) - (lo : Int) < ((m.length : Nat) : Int) then none else some (lo, l.length))) :
    Meets («bytes.find» A) (fun _ R s => R (.ok (.ret (.int (fndI (fnd? l m lo)) s.toks))) { s with toks := s.toks + 1 }) := by
  refine .of_wp fun prog w A R s hR => ?_
  show wpAny _ _ (Bytes.searchArgs .bytes "find" _ >>= fun r => _) _ _ s
  refine wpAny_bind (wpAny_of_eq e ?_)
  dsimp only
  by_cases hs : ((l.length : Nat) : Int) - (lo : Int) < ((m.length : Nat) : Int)
  · rw [if_pos hs]
    rw [fnd_short l m lo (by omega)] at hR
    show wpAny _ _ (rule _ >>= fun _ => mkInt (-1) >>= fun r => _) _ _ s
    refine wpAny_bind (wpAny_rule (wpAny_bind (wpAny_mkInt ?_)))
    exact wpAny_pure ⟨_, rfl, hR⟩
  · rw [if_neg hs]
    show wpAny _ _ (match fnd? l m lo with | some i => _ | none => _) _ _ s
    cases h : fnd? l m lo with
    | some i =>
      rw [h] at hR
      show wpAny _ _ (mkInt _ >>= fun r => _) _ _ s
      refine wpAny_bind (wpAny_mkInt ?_)
      exact wpAny_pure ⟨_, rfl, hR⟩
    | none =>
      rw [h] at hR
      show wpAny _ _ (rule _ >>= fun _ => mkInt (-1) >>= fun r => _) _ _ s
      refine wpAny_bind (wpAny_rule (wpAny_bind (wpAny_mkInt ?_)))
      exact wpAny_pure ⟨_, rfl, hR⟩
section
variable {prog : Program} {w : World} {M : Model} {A : Around} {E : Value → Shared → Prop} {s : Shared} {h₀ : Heap} {L : Addr} {s₁ : Shared} {vs : List (Str × Value)} {news : List (Addr × Obj)}
theorem m_find {b : Array UInt8} {t : Tok} {pl : Sem Bool} {Q : Value × List Value → Shared → Prop} (h : Q (.builtin "bytes.find", [.bytes b t]) s) : wpAny M A (getMethod (.bytes b t) "find" pl) Q E s := by
  with_reducible exact KBd.method_of (.bytes b t) (typeIs_bytes _ _ _) FF.slot FF.ty KBd.noRef h
theorem c_find2 {l m : List UInt8} {t u : Tok} {Q : Value → Shared → Prop} (S : St h₀ L s₁ vs news s) (h : ∀ t s', St h₀ L s₁ vs news s' → Q (.int (fndI (fnd? l m 0)) t) s') :
    wpAny (model prog w) A (call (.builtin "bytes.find") [.bytes l.toArray t, .bytes m.toArray u]) Q E s :=
  call_meets FF.slot (typeIs_bytes _ _ _) FF.entry (FF.args2 _ _) (find_tail l m 0 (Nat.zero_le _) (args_eq2 l m t u)) (h _ _ (S.tok _))
theorem c_find3 {l m : List UInt8} {t u v : Tok} {lo : Nat} {Q : Value → Shared → Prop} (S : St h₀ L s₁ vs news s) (hlo : lo ≤ l.length) (h : ∀ t s', St h₀ L s₁ vs news s' → Q (.int (fndI (fnd? l m lo)) t) s') :
    wpAny (model prog w) A (call (.builtin "bytes.find") [.bytes l.toArray t, .bytes m.toArray u, .int lo v]) Q E s :=
  call_meets FF.slot (typeIs_bytes _ _ _) FF.entry (FF.args3 _ _ _) (find_tail l m lo hlo (args_eq3 l m t u v lo)) (h _ _ (S.tok _))
theorem c_min2 {a b : Int} {t u : Tok} {Q : Value → Shared → Prop} (hh : A.handled = none) (S : St h₀ L s₁ vs news s) (h : ∀ t s', St h₀ L s₁ vs news s' → Q (.int (if b < a then b else a) t) s') :
    wpAny (model prog w) A (call (.builtin "min") [.int a t, .int b u]) Q E s := by
  obtain ⟨m, F, hm⟩ := S.fr
  exact min_two_N hh F S.nw fun h' tk F' N' => h _ _ (S.of F' hm N')
theorem m_app {D : Addr} {xs : List Value} {c : Nat} {pl : Sem Bool} {Q : Value × List Value → Shared → Prop} (S : St h₀ L s₁ vs news s) (hm : (D, listOf xs.toArray c) ∈ news) (h : Q (.builtin "list.append", [.ref D]) s) :
    wpAny (model prog w) A (getMethod (.ref D) "append" pl) Q E s := listMethod_K S.nw hm PySem.F.slot_list_append PySem.F.type_list_append h
end
end Mine

end

section
open PySem PySem.W PyProof.Rows PySem.Calls
set_option maxRecDepth 100000
namespace Mine
local macro_rules | `(tactic| ktr_rel) => `(tactic| first | assumption | with_reducible exact mem_upd | ((with_reducible refine' mem_upd_ne ?h9 ?m9); (case h9 => decide); (case m9 => ktr_rel)) | ((with_reducible refine' mem_del ?h9 ?m9); (case h9 => decide); (case m9 => ktr_rel)) | exact List.Mem.head _ | exact List.Mem.tail _ (by ktr_rel))
def lineDef : Stmt := match fBody srcDef with
  | d :: _ => d
  | _ => noSt
def lineScope : Scope := fScope lineDef
/-- how long the first line is -/
def lnl (r : List UInt8) : Nat := if r.findIdx (· == 10) < r.length then r.findIdx (· == 10) + 1 else r.length
theorem lnl_le (r : List UInt8) : lnl r ≤ r.length := by unfold lnl; split <;> omega
theorem fnd_one (l : List UInt8) (p : Nat) (hp : p ≤ l.length) : fnd? l [10] p = if (l.drop p).findIdx (· == 10) < (l.drop p).length then some (p + (l.drop p).findIdx (· == 10)) else none := by
  unfold fnd? Builtin.Bytes.find?
  have hr : l.length + 1 - (p + (([10] : List UInt8).toArray).size) = (l.drop p).length := by rw [List.length_drop]; show l.length + 1 - (p + 1) = _; omega
  rw [hr, List.find?_map]
  have hpr : ((fun i => l.toArray.extract i (i + (([10] : List UInt8).toArray).size) == ([10] : List UInt8).toArray) ∘ fun x => x + p) = fun i => (l.drop p)[i]? == some 10 := by
    funext i
    show (l.toArray.extract (i + p) (i + p + 1) == #[10]) = _
    rw [extract_one, List.getElem?_drop, Nat.add_comm]
  rw [hpr]
  by_cases hlt : (l.drop p).findIdx (· == 10) < (l.drop p).length
  · rw [if_pos hlt]
    have : (List.range (l.drop p).length).find? (fun i => (l.drop p)[i]? == some 10) = some ((l.drop p).findIdx (· == 10)) := by
      rw [List.find?_range_eq_some]
      refine ⟨?_, by simpa using hlt, ?_⟩
      · rw [List.getElem?_eq_getElem hlt]
        have := List.findIdx_getElem (w := hlt)
        simpa using this
      · intro j hj
        have h2 := List.not_of_lt_findIdx hj
        rw [List.getElem?_eq_getElem (by omega)]
        simpa using h2
    rw [this]
    simp [Nat.add_comm]
  · rw [if_neg hlt]
    have : (List.range (l.drop p).length).find? (fun i => (l.drop p)[i]? == some 10) = none := by
      rw [List.find?_range_eq_none]
      intro i hi
      rw [List.getElem?_eq_getElem hi]
      have hlen : (l.drop p).findIdx (· == 10) = (l.drop p).length := by have := List.findIdx_le_length (p := (· == (10 : UInt8))) (xs := l.drop p); omega
      have := List.findIdx_eq_length.mp hlen (l.drop p)[i] (List.getElem_mem _)
      simpa using this
    rw [this]; rfl
section
variable {prog : Program} {w : World} {A : Around} {E : Value → Shared → Prop} {s : Shared} {h₀ : Heap} {L : Addr} {s₁ : Shared} {vs : List (Str × Value)} {news R : List (Addr × Obj)} {mg mb : Str → Option Value} {f : Addr} {cd : Value} {qual : Str} {cl : List (Str × Addr)}
set_option maxHeartbeats 4000000 in
theorem line_body {B : List Stmt} (hB : B = fBody lineDef) {l : List UInt8} {p : Nat} {tl tp tO : Tok} {PL AS cA cP cO : Addr} {oA oP oO : Obj} {av : List Value} {c1 c2 : Nat} {Q : Flow → Shared → Prop} (G : Glo mg mb h₀) (BL : Blts mg mb) (hh : A.handled = none)
    (S : St h₀ L s₁ [(("limit" : Str), Value.int 65537 tl)] ((PL, listOf [Value.int p tp].toArray c1) :: (AS, listOf av.toArray c2) :: R) s) (hPA : PL ≠ AS) (hRP : ∀ q ∈ R, q.1 ≠ PL) (hRA : ∀ q ∈ R, q.1 ≠ AS)
    (hcA : cl.lookup ("asked" : Str) = some cA) (hcP : cl.lookup ("place" : Str) = some cP) (hcO : cl.lookup ("octets" : Str) = some cO)
    (mA : (cA, oA) ∈ R) (mP : (cP, oP) ∈ R) (mO : (cO, oO) ∈ R) (dA : oA.data = .cell (some (.ref AS))) (dP : oP.data = .cell (some (.ref PL))) (dO : oO.data = .cell (some (.bytes l.toArray tO)))
    (hp : p ≤ l.length) (hl : l.length ≤ 1300) (hav : av.length ≤ 1000000)
    (hQ : ∀ t1 t2 s', St h₀ L s₁ [] ((PL, listOf [Value.int ((p + lnl (l.drop p) : Nat) : Int) t1].toArray c1) :: (AS, listOf (av ++ [Value.int 65537 tl]).toArray (c2 + 1)) :: R) s' → Q (.ret (.bytes ((l.drop p).take (lnl (l.drop p))).toArray t2)) s') :
    wpAny (model prog w) A (execs B (envX qual lineScope L f cd cl)) Q E s := by
  have hle := lnl_le (l.drop p)
  rw [List.length_drop] at hle
  rw [hB]
  dsimp only [fBody, lineDef, srcDef, PySem.Challenge.pw_dv0018_04]
  refine wpAny_execs_cons ?_
  refine wpAny_Expr ?_
  refine MethodCall_ ?_
  refine e_freeE S (.tail _ (.tail _ mA)) dA ?_ hcA
  refine m_app S (.tail _ (.head _)) ?_
  refine callWith_method1 ?_
  refine spliced_more ?_
  refine e_locE (env := envX qual lineScope L f cd cl) S (by ktr_rel) ?_
  refine spliced_none ?_
  have S0 : St h₀ L s₁ [(("limit" : Str), Value.int 65537 tl)] ((AS, listOf av.toArray c2) :: (PL, listOf [Value.int p tp].toArray c1) :: R) s := S.weak (fun _ h => h) (fun q hq => by
    rcases List.mem_cons.mp hq with rfl | hq
    · exact .tail _ (.head _)
    · rcases List.mem_cons.mp hq with rfl | hq
      · exact .head _
      · exact .tail _ (.tail _ hq))
  refine s_app S0 (fun q hq => by
    rcases List.mem_cons.mp hq with rfl | hq
    · exact hPA
    · exact hRA q hq) (by omega) ?_
  intro s1 S1
  dsimp only
  refine wpAny_execs_cons ?_
  refine wpAny_Assign_Name ?_
  refine Subscript_ ?_
  refine e_freeE S1 (.tail _ (.tail _ mP)) dP ?_ hcP
  refine e_int S1 ?_
  intro t2 s2 S2
  refine s_litem (S2.lst (.tail _ (.head _))) (by decide) (by decide) (v := .int p tp) rfl ?_
  refine e_stE (env := envX qual lineScope L f cd cl) S2 ?_
  intro s3 S3
  dsimp only
  refine wpAny_execs_cons ?_
  refine wpAny_Assign_Name ?_
  refine wpAny_BinOp ?_
  refine MethodCall_ ?_
  refine e_freeE S3 (.tail _ (.tail _ mO)) dO ?_ hcO
  refine m_find ?_
  refine callWith_method1 ?_
  refine spliced_more ?_
  refine e_byt S3 ?_
  intro t4 s4 S4
  refine spliced_more ?_
  refine e_locE (env := envX qual lineScope L f cd cl) S4 (by ktr_rel) ?_
  refine spliced_none ?_
  refine c_find3 S4 hp ?_
  intro t5 s5 S5
  refine e_int S5 ?_
  intro t6 s6 S6
  refine o_add S6 ?_
  intro t7 s7 S7
  refine e_stE (env := envX qual lineScope L f cd cl) S7 ?_
  intro s8 S8
  dsimp only
  refine wpAny_execs_cons ?_
  refine wpAny_Assign_Subscript ?_
  refine Call_ ?_
  refine e_bltE S8 G BL.min ?_
  refine PyProof.Rows.callWith_builtin1 ?_
  refine spliced_more ?_
  refine IfExp_ ?_
  refine wpAny_isTrue_Compare1 ?_
  refine e_locE (env := envX qual lineScope L f cd cl) S8 (by ktr_rel) ?_
  refine e_int S8 ?_
  intro t9 s9 S9
  refine gt_int ?_
  refine wpAny_truthy_bool ?_
  have hAR : ∀ q ∈ (AS, listOf (av ++ [Value.int 65537 tl]).toArray (c2 + 1)) :: R, q.1 ≠ PL := fun q hq => by
    rcases List.mem_cons.mp hq with rfl | hq
    · exact Ne.symm hPA
    · exact hRP q hq
  have swp : ∀ {vs' : List (Str × Value)} {s' : Shared}, St h₀ L s₁ vs' ((AS, listOf (av ++ [Value.int 65537 tl]).toArray (c2 + 1)) :: (PL, listOf [Value.int p tp].toArray c1) :: R) s' →
      St h₀ L s₁ vs' ((PL, listOf [Value.int p tp].toArray c1) :: (AS, listOf (av ++ [Value.int 65537 tl]).toArray (c2 + 1)) :: R) s' := fun S' => S'.weak (fun _ h => h) (fun q hq => by
    rcases List.mem_cons.mp hq with rfl | hq
    · exact .tail _ (.head _)
    · rcases List.mem_cons.mp hq with rfl | hq
      · exact .head _
      · exact .tail _ (.tail _ hq))
  have hfo := fnd_one l p hp
  by_cases hlt : (l.drop p).findIdx (· == 10) < (l.drop p).length
  · rw [if_pos hlt] at hfo
    rw [hfo] at S8 S9 ⊢
    have hlt' := hlt
    rw [List.length_drop] at hlt'
    have zq : fndI (some (p + (l.drop p).findIdx (· == 10))) + 1 = ((p + lnl (l.drop p) : Nat) : Int) := by
      unfold lnl fndI; rw [if_pos hlt]; push_cast; omega
    have hpos : (0 : Int) < fndI (some (p + (l.drop p).findIdx (· == 10))) + 1 := by show (0 : Int) < ((p + (l.drop p).findIdx (· == 10) : Nat) : Int) + 1; omega
    rw [if_pos (by simpa using hpos)]
    refine e_locE (env := envX qual lineScope L f cd cl) S9 (by ktr_rel) ?_
    refine spliced_more ?_
    refine wpAny_BinOp ?_
    refine e_locE (env := envX qual lineScope L f cd cl) S9 (by ktr_rel) ?_
    refine e_locE (env := envX qual lineScope L f cd cl) S9 (by ktr_rel) ?_
    refine o_add S9 ?_
    intro t10 s10 S10
    refine spliced_none ?_
    refine c_min2 hh S10 ?_
    intro t11 s11 S11
    rw [if_neg (by omega)]
    refine e_freeE S11 (.tail _ (.tail _ mP)) dP ?_ hcP
    refine e_int S11 ?_
    intro t12 s12 S12
    have Sx := swp S12
    refine s_set Sx (fun q hq => hAR q hq) (.cons _ _ .nil) (by decide) (by simp) (by decide) ?_
    intro s13 S13
    dsimp only
    refine wpAny_execs_cons ?_
    refine wpAny_Return_some ?_
    refine Subscript_ ?_
    refine e_freeE S13 (.tail _ (.tail _ mO)) dO ?_ hcO
    refine wpAny_Slice ?_
    refine evalPart_some_step ?_
    refine e_locE (env := envX qual lineScope L f cd cl) S13 (by ktr_rel) ?_
    refine evalPart_some_step ?_
    refine Subscript_ ?_
    refine e_freeE S13 (.tail _ (.tail _ mP)) dP ?_ hcP
    refine e_int S13 ?_
    intro t14 s14 S14
    refine s_litem (S14.lst (.head _)) (by decide) (by decide) rfl ?_
    refine evalPart_none_step ?_
    refine s_cut S14 (.int _ _) (.int _ _) (by omega) ?_
    intro t15 s15 S15
    rw [pick_both _ (by omega) (by omega)]
    
    have e2 : ((p + lnl (l.drop p) : Nat) : Int).toNat - ((p : Nat) : Int).toNat = lnl (l.drop p) := by omega
    rw [zq] at S15 ⊢
    rw [e2, Int.toNat_natCast]
    exact hQ _ t15 _ (S15.weak (by simp) (fun _ h => h))
  · rw [if_neg hlt] at hfo
    rw [hfo] at S8 S9 ⊢
    rw [if_neg (by show ¬ (decide ((0 : Int) < -1 + 1) = true); decide)]
    have zq : ((l.toArray.size : Nat) : Int) = ((p + lnl (l.drop p) : Nat) : Int) := by
      unfold lnl; rw [if_neg hlt, List.length_drop]; simp; omega
    refine Call_ ?_
    refine e_bltE S9 G BL.len ?_
    refine PyProof.Rows.callWith_builtin1 ?_
    refine spliced_more ?_
    refine e_freeE S9 (.tail _ (.tail _ mO)) dO ?_ hcO
    refine spliced_none ?_
    refine c_len S9 (by simp; omega) ?_
    intro t20 s20 S20
    refine spliced_more ?_
    refine wpAny_BinOp ?_
    refine e_locE (env := envX qual lineScope L f cd cl) S20 (by ktr_rel) ?_
    refine e_locE (env := envX qual lineScope L f cd cl) S20 (by ktr_rel) ?_
    refine o_add S20 ?_
    intro t21 s21 S21
    refine spliced_none ?_
    refine c_min2 hh S21 ?_
    intro t22 s22 S22
    rw [if_neg (by omega)]
    refine e_freeE S22 (.tail _ (.tail _ mP)) dP ?_ hcP
    refine e_int S22 ?_
    intro t23 s23 S23
    have Sx := swp S23
    refine s_set Sx (fun q hq => hAR q hq) (.cons _ _ .nil) (by decide) (by simp) (by decide) ?_
    intro s24 S24
    dsimp only
    refine wpAny_execs_cons ?_
    refine wpAny_Return_some ?_
    refine Subscript_ ?_
    refine e_freeE S24 (.tail _ (.tail _ mO)) dO ?_ hcO
    refine wpAny_Slice ?_
    refine evalPart_some_step ?_
    refine e_locE (env := envX qual lineScope L f cd cl) S24 (by ktr_rel) ?_
    refine evalPart_some_step ?_
    refine Subscript_ ?_
    refine e_freeE S24 (.tail _ (.tail _ mP)) dP ?_ hcP
    refine e_int S24 ?_
    intro t25 s25 S25
    refine s_litem (S25.lst (.head _)) (by decide) (by decide) rfl ?_
    refine evalPart_none_step ?_
    refine s_cut S25 (.int _ _) (.int _ _) (by omega) ?_
    intro t26 s26 S26
    rw [pick_both _ (by omega) (by omega)]
    
    have e2 : ((p + lnl (l.drop p) : Nat) : Int).toNat - ((p : Nat) : Int).toNat = lnl (l.drop p) := by omega
    rw [zq] at S26 ⊢
    rw [e2, Int.toNat_natCast]
    exact hQ _ t26 _ (S26.weak (by simp) (fun _ h => h))
end
end Mine

end

section
open PySem PySem.W PyProof.Rows PySem.Calls
set_option maxRecDepth 100000
namespace Mine
local macro_rules | `(tactic| ktr_rel) => `(tactic| first | assumption | with_reducible exact mem_upd | ((with_reducible refine' mem_upd_ne ?h9 ?m9); (case h9 => decide); (case m9 => ktr_rel)) | ((with_reducible refine' mem_del ?h9 ?m9); (case h9 => decide); (case m9 => ktr_rel)) | exact List.Mem.head _ | exact List.Mem.tail _ (by ktr_rel))
/-- the made def _law_line in the ledger R, over octets l, place PL, asked AS -/
def LineIs (l : List UInt8) (PL AS f : Addr) (R : List (Addr × Obj)) : Prop :=
  ∃ c' oc ws tq cl cA cP cO oA oP oO tO name qual doc pm ctv body params, (f, fnMade name qual params body lineScope cl doc pm c' ctv) ∈ R ∧ body = fBody lineDef ∧ (c', oc) ∈ R ∧ oc.data = .fields ws ∧ ws[1]? = some (.str qual tq) ∧
    cl.lookup ("asked" : Str) = some cA ∧ cl.lookup ("place" : Str) = some cP ∧ cl.lookup ("octets" : Str) = some cO ∧ (cA, oA) ∈ R ∧ (cP, oP) ∈ R ∧ (cO, oO) ∈ R ∧
    oA.data = .cell (some (.ref AS)) ∧ oP.data = .cell (some (.ref PL)) ∧ oO.data = .cell (some (.bytes l.toArray tO)) ∧
    (∀ v, bindArgs (fnX name qual params body lineScope cl .none .none doc pm none (.ref c') ctv) ⟨[v], []⟩ = pure [(("limit" : Str), v)])
/-- the source object e in the ledger R -/
structure SrcIs (C : Addr) (l : List UInt8) (PL AS e : Addr) (R : List (Addr × Obj)) : Prop where
  ex : ∃ t d od f, (e, excObj C t (some d)) ∈ R ∧ (d, od) ∈ R ∧ d ≠ e ∧ OneName "readline" (.ref f) od ∧ LineIs l PL AS f R
  rp : ∀ q ∈ R, q.1 ≠ PL
  ra : ∀ q ∈ R, q.1 ≠ AS
  pa : PL ≠ AS
theorem LineIs.mono {l : List UInt8} {PL AS f : Addr} {R R' : List (Addr × Obj)} (h : LineIs l PL AS f R) (hR : ∀ q ∈ R, q ∈ R') : LineIs l PL AS f R' := by
  obtain ⟨c', oc, ws, tq, cl, cA, cP, cO, oA, oP, oO, tO, name, qual, doc, pm, ctv, body, params, m1, hb, m2, d1, d2, k1, k2, k3, m3, m4, m5, e1, e2, e3, hbind⟩ := h
  exact ⟨c', oc, ws, tq, cl, cA, cP, cO, oA, oP, oO, tO, name, qual, doc, pm, ctv, body, params, hR _ m1, hb, hR _ m2, d1, d2, k1, k2, k3, hR _ m3, hR _ m4, hR _ m5, e1, e2, e3, hbind⟩
theorem SrcIs.mono {C : Addr} {l : List UInt8} {PL AS e : Addr} {R R' : List (Addr × Obj)} (h : SrcIs C l PL AS e R) (hR : ∀ q ∈ R, q ∈ R') (h1 : ∀ q ∈ R', q.1 ≠ PL) (h2 : ∀ q ∈ R', q.1 ≠ AS) : SrcIs C l PL AS e R' := by
  obtain ⟨t, d, od, f, m1, m2, hne, ho, hl⟩ := h.ex
  exact ⟨⟨t, d, od, f, hR _ m1, hR _ m2, hne, ho, hl.mono hR⟩, h1, h2, h.pa⟩
theorem line_nocell : ∀ x ∈ lineScope.names, x.2 ≠ .cell := by decide
section
variable {prog : Program} {w : World} {A A₀ : Around} {E : Value → Shared → Prop} {s : Shared} {h₀ base : Heap} {L : Addr} {s₁ : Shared} {vs : List (Str × Value)} {news R : List (Addr × Obj)} {mg mb : Str → Option Value} {f : Addr} {env : Env} {outer : List Env}
theorem rl_call {l : List UInt8} {p : Nat} {tl tp : Tok} {PL AS : Addr} {av : List Value} {c1 c2 : Nat} {Q : Value → Shared → Prop} (K : Below A₀ base outer h₀) (G : Glo mg mb h₀) (BL : Blts mg mb)
    (S : St h₀ L s₁ vs ((PL, listOf [Value.int p tp].toArray c1) :: (AS, listOf av.toArray c2) :: R) s) (hPA : PL ≠ AS) (hRP : ∀ q ∈ R, q.1 ≠ PL) (hRA : ∀ q ∈ R, q.1 ≠ AS) (hL : LineIs l PL AS f R)
    (hh : A.handled = none) (hA : A.frames = some (env :: outer)) (hf : env.frame = some L) (hke : env.scope.kind = .function) (hroom : A.depth < recursionLimit)
    (hp : p ≤ l.length) (hl : l.length ≤ 1300) (hav : av.length ≤ 1000000)
    (hQ : ∀ t1 t2 s', St h₀ L s₁ vs ((PL, listOf [Value.int ((p + lnl (l.drop p) : Nat) : Int) t1].toArray c1) :: (AS, listOf (av ++ [Value.int 65537 tl]).toArray (c2 + 1)) :: R) s' → Q (.bytes ((l.drop p).take (lnl (l.drop p))).toArray t2) s') :
    wpAny (model prog w) A (call (.ref f) [.int 65537 tl]) Q E s := by
  obtain ⟨c', oc, ws, tq, cl, cA, cP, cO, oA, oP, oO, tO, name, qual, doc, pm, ctv, body, params, m1, hb, m2, d1, d2, k1, k2, k3, m3, m4, m5, e1, e2, e3, hbind⟩ := hL
  refine c_fnN K S G hA hf hke (.tail _ (.tail _ m1)) (.tail _ (.tail _ m2)) d1 d2 hroom (hbind _) ?_ ?_ (fun g L' s' S' B' G' st hl' => ?_) line_nocell
  · intro y hy
    rw [List.mem_singleton.mp hy]; rfl
  · intro q hq
    rw [List.mem_singleton.mp hq]; rfl
  refine line_body hb G' BL hh S' hPA hRP hRA k1 k2 k3 m3 m4 m5 e1 e2 e3 hp hl hav ?_
  intro t1 t2 s2 S2
  exact ⟨_, S2, fun S3 => hQ t1 t2 _ S3⟩
end
end Mine

end

section
open PySem PySem.W PyProof.Rows PySem.Calls
set_option maxRecDepth 100000
namespace Mine
section
variable {prog : Program} {w : World} {M : Model} {A : Around} {E : Value → Shared → Prop} {s : Shared} {h₀ : Heap} {L : Addr} {s₁ : Shared} {vs : List (Str × Value)} {news : List (Addr × Obj)}
set_option maxHeartbeats 4000000 in
theorem words_raw {t u : Tok} {Q : Value → Shared → Prop} (h : ∀ t' k, Q (.str "got more than 100 headers" t') { s with toks := k }) :
    wpAny (model prog w) A (binaryOp .Mod (.str "got more than %d headers" t) (.int 100 u)) Q E s := by
  refine' KPc.mod_lit ?kpcF ?kpcd ?kpcm ?_
  (case kpcF => kpc_eq)
  (case kpcd => decide +kernel)
  (case kpcm => k_dflt kpc_run)
  exact h
theorem o_words {t u : Tok} {Q : Value → Shared → Prop} (S : St h₀ L s₁ vs news s) (h : ∀ t s', St h₀ L s₁ vs news s' → Q (.str "got more than 100 headers" t) s') :
    wpAny (model prog w) A (binaryOp .Mod (.str "got more than %d headers" t) (.int 100 u)) Q E s := words_raw fun t' k => h t' _ (S.tok k)
theorem c_llen {l : Addr} {xs : List Value} {Q : Value → Shared → Prop} (S : St h₀ L s₁ vs news s) (hl : s.heap.IsList l xs.toArray) (hz : xs.length ≤ 16777216) (h : ∀ t s', St h₀ L s₁ vs news s' → Q (.int (xs.length : Nat) t) s') :
    wpAny (model prog w) A (call (.builtin "len") [.ref l]) Q E s := by
  refine call_len_list hl (by simp; omega) ?_
  have := h (s.toks + 1) _ (S.tok (s.toks + 1 + 1))
  simpa using this
/-- octets in a tuple of three octet strings -/
theorem o_in3 {T : Addr} {x a b c : List UInt8} {tx ta tb tc : Tok} {Q : Value → Shared → Prop} (hT : s.heap.IsTuple T [Value.bytes a.toArray ta, Value.bytes b.toArray tb, Value.bytes c.toArray tc].toArray)
    (h : Q (.bool (a == x || b == x || c == x)) s) : wpAny (model prog w) A (compareOp .In (.bytes x.toArray tx) (.ref T)) Q E s := by
  refine SeqAt.in_tupleAt (fun v => match v with | .bytes d _ => d.toList == x | _ => false) hT (fun y hy => ?_) ?_
  · have hy' : y = .bytes a.toArray ta ∨ y = .bytes b.toArray tb ∨ y = .bytes c.toArray tc := by simpa using hy
    rcases hy' with rfl | rfl | rfl
    · exact eq_byt _ _ a x ta tx
    · exact eq_byt _ _ b x tb tx
    · exact eq_byt _ _ c x tc tx
  · simpa [Bool.or_assoc] using h
end
end Mine

end

section
open PySem PySem.W PyProof.Rows PySem.Calls
set_option maxRecDepth 100000
namespace Mine
local macro_rules | `(tactic| ktr_rel) => `(tactic| first | assumption | with_reducible exact mem_upd | ((with_reducible refine' mem_upd_ne ?h9 ?m9); (case h9 => decide); (case m9 => ktr_rel)) | ((with_reducible refine' mem_del ?h9 ?m9); (case h9 => decide); (case m9 => ktr_rel)) | exact List.Mem.head _ | exact List.Mem.tail _ (by ktr_rel))
def whileBody : Stmt → List Stmt
  | .While _ b _ _ => b
  | _ => []
def readWhile : Stmt := match fBody readDef with
  | _ :: d :: _ => d
  | _ => noSt
def readScope : Scope := fScope readDef
def isEnd (x : List UInt8) : Bool := ([13, 10] : List UInt8) == x || ([10] : List UInt8) == x || ([] : List UInt8) == x
def ln1 (r : List UInt8) : List UInt8 := r.take (lnl r)
section
variable {prog : Program} {w : World} {A A₀ : Around} {E : Value → Shared → Prop} {s : Shared} {h₀ base : Heap} {L : Addr} {s₁ : Shared} {vs : List (Str × Value)} {news R : List (Addr × Obj)} {mg mb : Str → Option Value} {f : Addr} {cd : Value} {qual : Str} {outer : List Env}
theorem e_str {M : Model} {env : Env} {b : Str} {k : Nat} {pos : Pos} {Q : Value → Shared → Prop} (S : St h₀ L s₁ vs news s) (h : ∀ t s', St h₀ L s₁ vs news s' → Q (.str b t) s') : wpAny M A (eval (.Constant (.str b) k pos) env) Q E s :=
  wpAny_Constant_str (h _ _ (S.tok _))
set_option maxHeartbeats 4000000 in
theorem read_turn {Bd : List Stmt} (hBd : Bd = whileBody readWhile) {l : List UInt8} {p : Nat} {tp tm th : Tok} {C PL AS e H : Addr} {av zs : List Value} {hs : List (List UInt8)} {c1 c2 cH : Nat} {Q : Flow → Shared → Prop} (K : Below A₀ base outer h₀) (G : Glo mg mb h₀) (BL : Blts mg mb) (X : HX mg h₀ "HTTPException" C)
    (gm : mg "_MAXLINE" = some (.int 65536 tm)) (gh : mg "_MAXHEADERS" = some (.int 100 th))
    (S : St h₀ L s₁ vs ((H, listOf zs.toArray cH) :: (PL, listOf [Value.int p tp].toArray c1) :: (AS, listOf av.toArray c2) :: R) s) (Z : SrcIs C l PL AS e R) (hHP : H ≠ PL) (hHA : H ≠ AS) (hRH : ∀ q ∈ R, q.1 ≠ H)
    (hfp : (("fp" : Str), Value.ref e) ∈ vs) (hhd : (("headers" : Str), Value.ref H) ∈ vs) (hzs : BAre zs hs) (hk : hs.length ≤ 100)
    (hh : A.handled = none) (hA : A.frames = some (envOf qual readScope L f cd :: outer)) (hroom : A.depth < recursionLimit)
    (hp : p ≤ l.length) (hl : l.length ≤ 1300) (hav : av.length ≤ 900000)
    (hRaise : hs.length = 100 → ∀ t1 t2 t4 (s' : Shared) h' a, St h₀ L s₁ [] ((PL, listOf [Value.int ((p + lnl (l.drop p) : Nat) : Int) t1].toArray c1) :: (AS, listOf (av ++ [Value.int 65537 t2]).toArray (c2 + 1)) :: R) s' →
      Heap.MadeExcOf s'.heap h' a (.ref C) [Value.str "got more than 100 headers" t4] → E (.ref a) { s' with heap := h' })
    (hBrk : hs.length < 100 → isEnd (ln1 (l.drop p)) = true → ∀ t1 t2 t3 s', St h₀ L s₁ (upd "line" (.bytes (ln1 (l.drop p)).toArray t3) vs) ((H, listOf (zs ++ [Value.bytes (ln1 (l.drop p)).toArray t3]).toArray (cH + 1)) :: (PL, listOf [Value.int ((p + lnl (l.drop p) : Nat) : Int) t1].toArray c1) :: (AS, listOf (av ++ [Value.int 65537 t2]).toArray (c2 + 1)) :: R) s' → Q .brk s')
    (hNext : hs.length < 100 → isEnd (ln1 (l.drop p)) = false → ∀ t1 t2 t3 s', St h₀ L s₁ (upd "line" (.bytes (ln1 (l.drop p)).toArray t3) vs) ((H, listOf (zs ++ [Value.bytes (ln1 (l.drop p)).toArray t3]).toArray (cH + 1)) :: (PL, listOf [Value.int ((p + lnl (l.drop p) : Nat) : Int) t1].toArray c1) :: (AS, listOf (av ++ [Value.int 65537 t2]).toArray (c2 + 1)) :: R) s' → Q .next s') :
    wpAny (model prog w) A (execs Bd (envOf qual readScope L f cd)) Q E s := by
  have hzl := hzs.len
  have hle := lnl_le (l.drop p)
  rw [List.length_drop] at hle
  rw [hBd]
  dsimp only [whileBody, readWhile, fBody, readDef, PySem.Challenge.pw_dv0018_04]
  have Z' : SrcIs C l PL AS e ((H, listOf zs.toArray cH) :: R) := Z.mono (fun q hq => .tail _ hq) (fun q hq => by
      rcases List.mem_cons.mp hq with rfl | hq
      · exact hHP
      · exact Z.rp q hq) (fun q hq => by
      rcases List.mem_cons.mp hq with rfl | hq
      · exact hHA
      · exact Z.ra q hq)
  have S0 : St h₀ L s₁ vs ((PL, listOf [Value.int p tp].toArray c1) :: (AS, listOf av.toArray c2) :: (H, listOf zs.toArray cH) :: R) s := S.weak (fun _ h => h) (fun q hq => by
    rcases List.mem_cons.mp hq with rfl | hq
    · exact .tail _ (.head _)
    · rcases List.mem_cons.mp hq with rfl | hq
      · exact .tail _ (.tail _ (.head _))
      · rcases List.mem_cons.mp hq with rfl | hq
        · exact .head _
        · exact .tail _ (.tail _ (.tail _ hq)))
  obtain ⟨t, d, od, fl, m1, m2, hne, ho, hL⟩ := Z'.ex
  have hL0 := hL
  obtain ⟨c', oc, ws, tq, cl, cA, cP, cO, oA, oP, oO, tO, name, qual', doc, pm, ctv, body, params, n1, _⟩ := hL0
  refine wpAny_execs_cons ?_
  refine wpAny_Assign_Name ?_
  refine MethodCall_ ?_
  refine e_loc S0 (by ktr_rel) ?_
  refine x_meth X S0 (.tail _ (.tail _ m1)) (.tail _ (.tail _ m2)) hne ho rfl ?_
  intro s1 S1 _
  refine k_fn (fo := fnMade name qual' params body lineScope cl doc pm c' ctv) rfl ?_
  refine spliced_more ?_
  refine wpAny_BinOp ?_
  refine e_glo S1 G gm ?_
  refine e_int S1 ?_
  intro t2 s2 S2
  refine o_add S2 ?_
  intro t3 s3 S3
  refine spliced_none ?_
  refine ⟨(S3.nw _ (.tail _ (.tail _ n1))).1, ?_⟩
  refine rl_call K G BL S3 Z'.pa Z'.rp Z'.ra hL hh hA rfl rfl hroom hp hl (by omega) ?_
  intro t4 t5 s4 S4
  refine e_st S4 ?_
  intro s5 S5
  dsimp only
  refine wpAny_execs_cons ?_
  refine wpAny_If ?_
  refine wpAny_isTrue_Compare1 ?_
  refine Call_ ?_
  refine e_blt S5 G BL.len ?_
  refine PyProof.Rows.callWith_builtin1 ?_
  refine spliced_more ?_
  refine e_loc S5 (by ktr_rel) ?_
  refine spliced_none ?_
  have hlen : ((l.drop p).take (lnl (l.drop p))).length ≤ 1300 := by rw [List.length_take, List.length_drop]; omega
  refine c_len S5 (by simp only [List.size_toArray]; omega) ?_
  intro t6 s6 S6
  refine e_glo S6 G gm ?_
  refine gt_int ?_
  refine wpAny_truthy_bool ?_
  rw [if_neg (by simp only [List.size_toArray, decide_eq_true_eq]; omega)]
  refine wpAny_execs_nil ?_
  dsimp only
  refine wpAny_execs_cons ?_
  refine wpAny_Expr ?_
  refine MethodCall_ ?_
  refine e_loc S6 (by ktr_rel) ?_
  refine m_app S6 (.tail _ (.tail _ (.head _))) ?_
  refine callWith_method1 ?_
  refine spliced_more ?_
  refine e_loc S6 (by ktr_rel) ?_
  refine spliced_none ?_
  have S6' : St h₀ L s₁ (upd "line" (.bytes ((l.drop p).take (lnl (l.drop p))).toArray t5) vs) ((H, listOf zs.toArray cH) :: (PL, listOf [Value.int ((p + lnl (l.drop p) : Nat) : Int) t4].toArray c1) :: (AS, listOf (av ++ [Value.int (65536 + 1) t3]).toArray (c2 + 1)) :: R) s6 := S6.weak (fun _ h => h) (fun q hq => by
    rcases List.mem_cons.mp hq with rfl | hq
    · exact .tail _ (.tail _ (.head _))
    · rcases List.mem_cons.mp hq with rfl | hq
      · exact .head _
      · rcases List.mem_cons.mp hq with rfl | hq
        · exact .tail _ (.head _)
        · exact .tail _ (.tail _ (.tail _ hq)))
  refine s_app S6' (fun q hq => by
    rcases List.mem_cons.mp hq with rfl | hq
    · exact Ne.symm hHP
    · rcases List.mem_cons.mp hq with rfl | hq
      · exact Ne.symm hHA
      · exact hRH q hq) (by omega) ?_
  intro s7 S7
  dsimp only
  refine wpAny_execs_cons ?_
  refine wpAny_If ?_
  refine wpAny_isTrue_Compare1 ?_
  refine Call_ ?_
  refine e_blt S7 G BL.len ?_
  refine PyProof.Rows.callWith_builtin1 ?_
  refine spliced_more ?_
  refine e_loc S7 (by ktr_rel) ?_
  refine spliced_none ?_
  refine c_llen S7 (S7.lst (.head _)) (by simp; omega) ?_
  intro t8 s8 S8
  refine e_glo S8 G gh ?_
  refine gt_int ?_
  refine wpAny_truthy_bool ?_
  by_cases h100 : hs.length = 100
  · rw [if_pos (by simp; omega)]
    refine wpAny_execs_cons ?_
    obtain ⟨m, F, hm⟩ := S8.fr
    refine Raise_own F G.g X.own PySem.F.excBase_Exception hh ?_
    refine spliced_more ?_
    refine wpAny_BinOp ?_
    refine e_str S8 ?_
    intro t9 s9 S9
    refine e_glo S9 G gh ?_
    refine o_words S9 ?_
    intro t10 s10 S10
    refine spliced_none ?_
    refine ⟨by show 1 ≤ sizeLine; rw [sizeLine_eq]; decide, fun b o eb => S10.old eb, fun h' a hx => ?_⟩
    refine hRaise h100 t4 t3 t10 s10 h' a (S10.weak (by simp) (fun _ h => .tail _ h)) hx
  · rw [if_neg (by simp; omega)]
    refine wpAny_execs_nil ?_
    dsimp only
    refine wpAny_execs_cons ?_
    refine wpAny_If ?_
    refine wpAny_isTrue_Compare1 ?_
    refine e_loc S8 (by ktr_rel) ?_
    refine Tuple_ ?_
    refine spliced_more ?_
    refine e_byt S8 ?_
    intro t9 s9 S9
    refine spliced_more ?_
    refine e_byt S9 ?_
    intro t10 s10 S10
    refine spliced_more ?_
    refine e_byt S10 ?_
    intro t11 s11 S11
    refine spliced_none ?_
    refine e_tup S11 (by simp) ?_
    intro T s12 S12 _
    refine o_in3 (S12.tup (.head _)) ?_
    refine wpAny_truthy_bool ?_
    cases hend : isEnd (ln1 (l.drop p)) with
    | true =>
      have hend' : (([13, 10] : List UInt8) == List.take (lnl (l.drop p)) (l.drop p) || ([10] : List UInt8) == List.take (lnl (l.drop p)) (l.drop p) || ([] : List UInt8) == List.take (lnl (l.drop p)) (l.drop p)) = true := hend
      rw [if_pos hend']
      refine wpAny_execs_cons ?_
      refine wpAny_Break ?_
      dsimp only
      exact hBrk (by omega) hend t4 t3 t5 s12 (S12.weak (fun _ h => h) (fun _ h => .tail _ h))
    | false =>
      have hend' : ¬ ((([13, 10] : List UInt8) == List.take (lnl (l.drop p)) (l.drop p) || ([10] : List UInt8) == List.take (lnl (l.drop p)) (l.drop p) || ([] : List UInt8) == List.take (lnl (l.drop p)) (l.drop p)) = true) := by show ¬ (isEnd (ln1 (l.drop p)) = true); rw [hend]; decide
      rw [if_neg hend']
      refine wpAny_execs_nil ?_
      dsimp only
      refine wpAny_execs_nil ?_
      exact hNext (by omega) hend t4 t3 t5 s12 (S12.weak (fun _ h => h) (fun _ h => .tail _ h))
end
end Mine

end

section
open PySem PySem.W PyProof.Rows PySem.Calls
set_option maxRecDepth 100000
namespace Mine
local macro_rules | `(tactic| ktr_rel) => `(tactic| first | assumption | with_reducible exact mem_upd | ((with_reducible refine' mem_upd_ne ?h9 ?m9); (case h9 => decide); (case m9 => ktr_rel)) | ((with_reducible refine' mem_del ?h9 ?m9); (case h9 => decide); (case m9 => ktr_rel)) | exact List.Mem.head _ | exact List.Mem.tail _ (by ktr_rel))
theorem ln1_nil_of {r : List UInt8} (h : isEnd (ln1 r) = false) : 0 < lnl r ∧ 0 < r.length := by
  rcases Nat.eq_zero_or_pos (lnl r) with h0 | h0
  · exfalso
    unfold ln1 at h
    rw [h0, List.take_zero] at h
    exact absurd h (by decide)
  · exact ⟨h0, Nat.lt_of_lt_of_le h0 (lnl_le r)⟩
/-- the lines up to the first that ends a block -/
def blk (r : List UInt8) : List (List UInt8) :=
  if h : isEnd (ln1 r) = true then [ln1 r] else ln1 r :: blk (r.drop (lnl r))
termination_by r.length
decreasing_by
  have := ln1_nil_of (by simpa using h)
  rw [List.length_drop]; omega
theorem blk_end {r : List UInt8} (h : isEnd (ln1 r) = true) : blk r = [ln1 r] := by rw [blk, dif_pos h]
theorem blk_more {r : List UInt8} (h : isEnd (ln1 r) = false) : blk r = ln1 r :: blk (r.drop (lnl r)) := by rw [blk, dif_neg (by rw [h]; decide)]
theorem blk_head (r : List UInt8) : ∃ q, blk r = ln1 r :: q := by
  cases h : isEnd (ln1 r) with
  | true => exact ⟨[], blk_end h⟩
  | false => exact ⟨_, blk_more h⟩
theorem ln1_len (r : List UInt8) : (ln1 r).length = lnl r := by unfold ln1; rw [List.length_take]; have := lnl_le r; omega
/-- asked: n more of 65537 -/
def Asked (av av' : List Value) (n : Nat) : Prop := ∃ ts : List Tok, av' = av ++ ts.map (fun t => Value.int 65537 t) ∧ ts.length = n
theorem Asked.nil (av : List Value) : Asked av av 0 := ⟨[], by simp, rfl⟩
theorem Asked.more {av av' : List Value} {n : Nat} (h : Asked av av' n) (t : Tok) : Asked av (av' ++ [Value.int 65537 t]) (n + 1) := by
  obtain ⟨ts, rfl, h2⟩ := h
  exact ⟨ts ++ [t], by simp, by simp [h2]⟩
theorem Asked.len {av av' : List Value} {n : Nat} (h : Asked av av' n) : av'.length = av.length + n := by
  obtain ⟨ts, rfl, h2⟩ := h
  simp [h2]
section
variable {prog : Program} {w : World} {A A₀ : Around} {E : Value → Shared → Prop} {s : Shared} {h₀ base : Heap} {L : Addr} {s₁ : Shared} {vs : List (Str × Value)} {news R : List (Addr × Obj)} {mg mb : Str → Option Value} {f : Addr} {cd : Value} {qual : Str} {outer : List Env}
set_option maxHeartbeats 4000000 in
theorem read_body {Bd : List Stmt} (hBd : Bd = fBody readDef) {l : List UInt8} {p : Nat} {tp tm th : Tok} {C PL AS e : Addr} {av : List Value} {c1 c2 : Nat} {Q : Flow → Shared → Prop} (K : Below A₀ base outer h₀) (G : Glo mg mb h₀) (BL : Blts mg mb) (X : HX mg h₀ "HTTPException" C)
    (gm : mg "_MAXLINE" = some (.int 65536 tm)) (gh : mg "_MAXHEADERS" = some (.int 100 th))
    (S : St h₀ L s₁ [(("fp" : Str), Value.ref e)] ((PL, listOf [Value.int p tp].toArray c1) :: (AS, listOf av.toArray c2) :: R) s) (Z : SrcIs C l PL AS e R)
    (hh : A.handled = none) (hA : A.frames = some (envOf qual readScope L f cd :: outer)) (hroom : A.depth < recursionLimit) (hE : PassesOwn (model prog w) A (envOf qual readScope L f cd) E)
    (hp : p ≤ l.length) (hl : l.length ≤ 1300) (hav : av.length ≤ 800000)
    (hRaise : 100 < (blk (l.drop p)).length → ∀ t1 t4 av' c2' (s' : Shared) h' a, Asked av av' 101 → p + ((blk (l.drop p)).take 101).flatten.length ≤ l.length → St h₀ L s₁ [] ((PL, listOf [Value.int ((p + ((blk (l.drop p)).take 101).flatten.length : Nat) : Int) t1].toArray c1) :: (AS, listOf av'.toArray c2') :: R) s' →
      Heap.MadeExcOf s'.heap h' a (.ref C) [Value.str "got more than 100 headers" t4] → E (.ref a) { s' with heap := h' })
    (hRet : (blk (l.drop p)).length ≤ 100 → ∀ t1 av' c2' D zs cD s', Asked av av' (blk (l.drop p)).length → p + (blk (l.drop p)).flatten.length ≤ l.length → BAre zs (blk (l.drop p)) → D ≠ PL → D ≠ AS → (∀ q ∈ R, q.1 ≠ D) →
      St h₀ L s₁ [] ((D, listOf zs.toArray cD) :: (PL, listOf [Value.int ((p + (blk (l.drop p)).flatten.length : Nat) : Int) t1].toArray c1) :: (AS, listOf av'.toArray c2') :: R) s' → Q (.ret (.ref D)) s') :
    wpAny (model prog w) A (execs Bd (envOf qual readScope L f cd)) Q E s := by
  have e0 : fBody readDef = (fBody readDef).headD noSt :: readWhile :: (fBody readDef).drop 2 := rfl
  rw [hBd, e0]
  refine wpAny_execs_cons ?_
  dsimp only [fBody, readDef, PySem.Challenge.pw_dv0018_04, List.headD, List.drop]
  refine wpAny_Assign_Name ?_
  refine List_ ?_
  refine spliced_none ?_
  refine e_lst S (by simp) ?_
  intro H s1 S1 hHn
  have hHP : H ≠ PL := neN (Nat.ne_of_gt (ltN (hHn _ (.head _))))
  have hHA : H ≠ AS := neN (Nat.ne_of_gt (ltN (hHn _ (.tail _ (.head _)))))
  have hRH : ∀ q ∈ R, q.1 ≠ H := fun q hq => neN (Nat.ne_of_lt (ltN (hHn q (.tail _ (.tail _ hq)))))
  refine e_st S1 ?_
  intro s2 S2
  dsimp only
  refine wpAny_execs_cons ?_
  have e2 : readWhile = .While (match readWhile with | .While t .. => t | _ => .Name "" ⟨0, 0, 0, 0⟩) (whileBody readWhile) [] (match readWhile with | .While _ _ _ p => p | _ => ⟨0, 0, 0, 0⟩) := rfl
  rw [e2]
  refine loop_while (fun n s' => ∃ hs zs pp tpp av' c2' cH vs', n + hs.length = 101 ∧ blk (l.drop p) = hs ++ blk (l.drop pp) ∧ pp = p + hs.flatten.length ∧ pp ≤ l.length ∧ BAre zs hs ∧ Asked av av' hs.length ∧ (("fp" : Str), Value.ref e) ∈ vs' ∧ (("headers" : Str), Value.ref H) ∈ vs' ∧ hs.length ≤ 100 ∧
      St h₀ L s₁ vs' ((H, listOf zs.toArray cH) :: (PL, listOf [Value.int ((pp : Nat) : Int) tpp].toArray c1) :: (AS, listOf av'.toArray c2') :: R) s') hE ?_ 101 ⟨[], [], p, tp, av, c2, 0, _, rfl, rfl, by simp, hp, .nil, .nil av, by ktr_rel, by ktr_rel, by simp, S2⟩
  rintro n s3 ⟨hs, zs, pp, tpp, av', c2', cH, vs', hn, hblk, hpp, hppl, hB, hAs, hfp, hhd, hk, S3⟩
  dsimp only [readWhile, fBody, readDef, PySem.Challenge.pw_dv0018_04]
  refine isTrue_plain ?_
  refine e_bool ?_
  refine wpAny_truthy_bool ?_
  refine ⟨rfl, ?_⟩
  have hal := hAs.len
  obtain ⟨rest, hrest⟩ := blk_head (l.drop pp)
  have hfl : ∀ x : List UInt8, (hs ++ [x]).flatten.length = hs.flatten.length + x.length := fun x => by simp
  have hlen1 := ln1_len (l.drop pp)
  have hlle := lnl_le (l.drop pp)
  rw [List.length_drop] at hlle
  refine read_turn (hs := hs) rfl K G BL X gm gh S3 Z hHP hHA hRH hfp hhd hB hk hh hA hroom hppl hl (by omega) ?_ ?_ ?_
  · intro h100 t1 t2 t4 s4 h' a S4 hx
    have htk : (blk (l.drop p)).take 101 = hs ++ [ln1 (l.drop pp)] := by
      rw [hblk, hrest, List.take_append, List.take_of_length_le (by omega)]
      have : 101 - hs.length = 1 := by omega
      rw [this]; rfl
    have hp' : pp + lnl (l.drop pp) = p + ((blk (l.drop p)).take 101).flatten.length := by rw [htk, hfl, hlen1]; omega
    refine hRaise (by rw [hblk, hrest]; simp; omega) t1 t4 (av' ++ [Value.int 65537 t2]) (c2' + 1) s4 h' a (by have := hAs.more t2; rw [h100] at this; exact this) (by omega) ?_ hx
    rw [← hp']
    exact S4
  · intro hlt hend t1 t2 t3 s4 S4
    have hall : blk (l.drop p) = hs ++ [ln1 (l.drop pp)] := by rw [hblk, blk_end hend]
    have hp' : pp + lnl (l.drop pp) = p + (blk (l.drop p)).flatten.length := by rw [hall, hfl, hlen1]; omega
    dsimp only
    refine wpAny_execs_cons ?_
    refine wpAny_Return_some ?_
    refine e_loc S4 (mem_upd_ne (by decide) hhd) ?_
    refine hRet (by rw [hall]; simp; omega) t1 (av' ++ [Value.int 65537 t2]) (c2' + 1) H (zs ++ [Value.bytes (ln1 (l.drop pp)).toArray t3]) (cH + 1) s4 (by rw [hall]; simpa using hAs.more t2) (by omega) (by rw [hall]; exact hB.app (.cons _ t3 .nil)) hHP hHA hRH ?_
    rw [← hp']
    exact S4.weak (by simp) (fun _ h => h)
  · intro hlt hend t1 t2 t3 s4 S4
    refine ⟨n - 1, by omega, hs ++ [ln1 (l.drop pp)], zs ++ [Value.bytes (ln1 (l.drop pp)).toArray t3], pp + lnl (l.drop pp), t1, av' ++ [Value.int 65537 t2], c2' + 1, cH + 1, _, by simp; omega, ?_, by rw [hfl, hlen1]; omega, by omega, hB.app (.cons _ t3 .nil), by simpa using hAs.more t2, mem_upd_ne (by decide) hfp, mem_upd_ne (by decide) hhd, by simp; omega, S4⟩
    rw [hblk, blk_more hend, List.drop_drop]
    simp
end
end Mine

end

section
open PySem PySem.W PyProof.Rows PySem.Calls
set_option maxRecDepth 100000
namespace Mine
theorem read_nocell : ∀ x ∈ readScope.names, x.2 ≠ .cell := by decide
section
variable {prog : Program} {w : World} {A A₀ : Around} {E : Value → Shared → Prop} {s : Shared} {h₀ base : Heap} {L : Addr} {s₁ : Shared} {vs : List (Str × Value)} {news R : List (Addr × Obj)} {mg mb : Str → Option Value} {f : Addr} {env : Env} {outer : List Env}
  {fo : Obj} {dV kV doc pm cdv ct : Value} {an : Option Addr} {params : Arguments} {name qual : Str} {body : List Stmt}
theorem read_call {l : List UInt8} {p : Nat} {tp tm th : Tok} {C PL AS e : Addr} {av : List Value} {c1 c2 : Nat} {Q : Value → Shared → Prop} (K : Below A₀ base outer h₀) (G : Glo mg mb h₀) (BL : Blts mg mb) (X : HX mg h₀ "HTTPException" C)
    (FR : DefAt mg h₀ "_read_headers" readDef "fp" f fo body dV kV doc pm cdv ct an params name qual) (gm : mg "_MAXLINE" = some (.int 65536 tm)) (gh : mg "_MAXHEADERS" = some (.int 100 th))
    (S : St h₀ L s₁ vs ((PL, listOf [Value.int p tp].toArray c1) :: (AS, listOf av.toArray c2) :: R) s) (Z : SrcIs C l PL AS e R)
    (hh : A.handled = none) (hA : A.frames = some (env :: outer)) (hf : env.frame = some L) (hke : env.scope.kind = .function) (hroom : A.depth + 1 < recursionLimit)
    (hp : p ≤ l.length) (hl : l.length ≤ 1300) (hav : av.length ≤ 800000)
    (hRet : (blk (l.drop p)).length ≤ 100 → ∀ t1 av' c2' D zs cD s', Asked av av' (blk (l.drop p)).length → p + (blk (l.drop p)).flatten.length ≤ l.length → BAre zs (blk (l.drop p)) → D ≠ PL → D ≠ AS → (∀ q ∈ R, q.1 ≠ D) →
      St h₀ L s₁ vs ((D, listOf zs.toArray cD) :: (PL, listOf [Value.int ((p + (blk (l.drop p)).flatten.length : Nat) : Int) t1].toArray c1) :: (AS, listOf av'.toArray c2') :: R) s' → Q (.ref D) s')
    (hRaise : 100 < (blk (l.drop p)).length → ∀ t1 t4 av' c2' a t g m (s' : Shared), Asked av av' 101 → p + ((blk (l.drop p)).take 101).flatten.length ≤ l.length → (s'.gens = s₁.gens ∧ s'.drawn = s₁.drawn ∧ s'.os = s₁.os) →
      RaisedK base (env :: outer) a (.ref C) t [Value.str "got more than 100 headers" t4] ((PL, listOf [Value.int ((p + ((blk (l.drop p)).take 101).flatten.length : Nat) : Int) t1].toArray c1) :: (AS, listOf av'.toArray c2') :: R) s'.heap →
      Fr h₀ L g m → (∀ q ∈ vs, m q.1 = some q.2) → g.UpToSlots s'.heap → E (.ref a) s') :
    wpAny (model prog w) A (call (.ref f) [.ref e]) Q E s := by
  refine c_fnL K S G hA hf hke FR.ob FR.dat FR.code (by omega) (FR.bind _) ?_ ?_ (fun g L' s' S' B' G' st hl' hR => ?_) read_nocell
  · intro y hy
    rw [List.mem_singleton.mp hy]; rfl
  · intro q hq
    rw [List.mem_singleton.mp hq]; simp
  refine read_body FR.bd (A := A.deeper (envX qual readScope L' f cdv [])) B' G' BL (X.keeps st) gm gh S' Z hh (Around.frames_deeper hA) hroom Leaves.passes hp hl hav ?_ ?_
  · intro h100 t1 t4 av' c2' s2 h' a hAs hle S2 hx
    refine hR a _ s2.heap (.ref C) _ _ S2 hx ?_
    intro h'' t m RK F hm U
    exact hRaise h100 t1 t4 av' c2' a t g m _ hAs hle ⟨S2.gens, S2.drawn, S2.os⟩ RK F hm U
  · intro h100 t1 av' c2' D zs cD s2 hAs hle hB hDP hDA hRD S2
    exact ⟨_, S2, fun S3 => hRet h100 t1 av' c2' D zs cD _ hAs hle hB hDP hDA hRD S3⟩
end
end Mine

end

section
open PySem PySem.W PyProof.Rows PySem.Calls
set_option maxRecDepth 100000
namespace Mine
local macro_rules | `(tactic| ktr_rel) => `(tactic| first | assumption | with_reducible exact mem_upd | ((with_reducible refine' mem_upd_ne ?h9 ?m9); (case h9 => decide); (case m9 => ktr_rel)) | ((with_reducible refine' mem_del ?h9 ?m9); (case h9 => decide); (case m9 => ktr_rel)) | exact List.Mem.head _ | exact List.Mem.tail _ (by ktr_rel))
def srcScope : Scope := fScope srcDef
section
variable {prog : Program} {w : World} {A A₀ : Around} {E : Value → Shared → Prop} {s : Shared} {h₀ base : Heap} {L : Addr} {s₁ : Shared} {vs : List (Str × Value)} {news R : List (Addr × Obj)} {mg mb : Str → Option Value} {f a : Addr} {env : Env} {outer : List Env}
  {qual : Str} {p : Program} {loose : List Str} {mean : ExcName → Option Value}
set_option maxHeartbeats 4000000 in
theorem src_body {B : List Stmt} (hB : B = fBody srcDef) {l : List UInt8} {tO : Tok} {C PL AS c P : Addr} {oA oP oO : Obj} {KF : Frag} {Q : Flow → Shared → Prop} (T : Top p loose mean mg mb h₀) (CH : CodeHd h₀ c P) (G : Glo mg mb h₀) (X : HX mg h₀ "HTTPException" C) (XF : KF.In h₀) (hkc : keepIn KF (.ref C) = true)
    (S : St h₀ L s₁ [] ((P, tabObj #[]) :: (L + 1 + 1 + 1, oA) :: (L + 1 + 1, oP) :: (L + 1, oO) :: news) s) (hP : ∀ q ∈ (L + 1 + 1 + 1, oA) :: (L + 1 + 1, oP) :: (L + 1, oO) :: news, q.1 ≠ P)
    (dA : oA.data = .cell (some (.ref AS))) (dP : oP.data = .cell (some (.ref PL))) (dO : oO.data = .cell (some (.bytes l.toArray tO)))
    (hcn : ∀ q ∈ news, q.1 ≠ L + 1 + 1 + 1 ∧ q.1 ≠ L + 1 + 1 ∧ q.1 ≠ L + 1)
    (hQ : ∀ e own s', (∃ ps, (P, tabObj ps) ∈ own) → (∀ q ∈ own, ∀ q' ∈ news, q.1 ≠ q'.1) → (∃ t d od f, (e, excObj C t (some d)) ∈ own ∧ (d, od) ∈ own ∧ d ≠ e ∧ OneName "readline" (.ref f) od ∧ LineIs l PL AS f own) → St h₀ L s₁ [] (own ++ news) s' → Q (.ret (.ref e)) s') :
    wpAny (model prog w) A (execs B (envOfC qual srcScope L a (.ref c))) Q E s := by
  rw [hB]
  dsimp only [fBody, srcDef, PySem.Challenge.pw_dv0018_04]
  refine wpAny_execs_cons ?_
  refine s_def (clos := [(("place" : Str), L + 1 + 1), (("octets" : Str), L + 1), (("asked" : Str), L + 1 + 1 + 1)]) T CH S hP ?_
  intro f c' oc ws t ctv doc ps s1 d1 d2 nc nf hcf hPc hPf S1
  dsimp only
  refine wpAny_execs_cons ?_
  refine wpAny_Assign_Name ?_
  refine Call_ ?_
  refine e_gloE S1 G X.bound ?_
  refine callWith_K0 (XF.keeps fun b o eb => S1.old eb) hkc ?_
  refine x_new X S1 ?_
  intro e t1 s2 ne1 nt1 het S2
  refine e_stE (env := envOfC qual srcScope L a (.ref c)) S2 ?_
  intro s3 S3
  dsimp only
  refine wpAny_execs_cons ?_
  refine plainObj_wpAny_Assign_Attribute ?_
  refine e_locE (env := envOfC qual srcScope L a (.ref c)) S3 (by ktr_rel) ?_
  refine e_locE (env := envOfC qual srcScope L a (.ref c)) S3 (by ktr_rel) ?_
  refine x_set X S3 (fun q hq => by
    rcases List.mem_cons.mp hq with rfl | hq
    · exact Ne.symm het
    · exact ne1 q hq) ?_
  intro d od s4 hone nd hde S4
  dsimp only
  refine wpAny_execs_cons ?_
  refine wpAny_Return_some ?_
  refine e_locE (env := envOfC qual srcScope L a (.ref c)) S4 (by ktr_rel) ?_
  refine hQ e [(e, excObj C t1 (some d)), (d, od), (t1, tupObj []), (f, _), (c', oc), (P, tabObj ps), (L + 1 + 1 + 1, oA), (L + 1 + 1, oP), (L + 1, oO)] s4 ⟨ps, .tail _ (.tail _ (.tail _ (.tail _ (.tail _ (.head _)))))⟩ ?_ ⟨t1, d, od, f, .head _, .tail _ (.head _), hde, hone, ?_⟩ (S4.weak (by simp) (fun q hq => hq))
  · intro q hq q' hq'
    have hq5 : q' ∈ (L + 1 + 1 + 1, oA) :: (L + 1 + 1, oP) :: (L + 1, oO) :: news := .tail _ (.tail _ (.tail _ hq'))
    simp only [List.mem_cons, List.not_mem_nil, or_false] at hq
    rcases hq with rfl | rfl | rfl | rfl | rfl | rfl | rfl | rfl | rfl
    · exact Ne.symm (ne1 _ (.tail _ (.tail _ (.tail _ hq5))))
    · exact Ne.symm (nd _ (.tail _ (.tail _ (.tail _ (.tail _ hq5)))))
    · exact Ne.symm (nt1 _ (.tail _ (.tail _ (.tail _ hq5))))
    · exact Ne.symm (nf _ hq5)
    · exact Ne.symm (nc _ hq5)
    · exact Ne.symm (hP _ hq5)
    · exact Ne.symm (hcn _ hq').1
    · exact Ne.symm (hcn _ hq').2.1
    · exact Ne.symm (hcn _ hq').2.2
  · refine ⟨c', oc, ws, t, _, L + 1 + 1 + 1, L + 1 + 1, L + 1, oA, oP, oO, tO, _, _, _, _, _, _, _, .tail _ (.tail _ (.tail _ (.head _))), rfl, .tail _ (.tail _ (.tail _ (.tail _ (.head _)))), d1, d2, rfl, rfl, rfl, ?_, ?_, ?_, dA, dP, dO, fun v => rfl⟩
    · exact .tail _ (.tail _ (.tail _ (.tail _ (.tail _ (.tail _ (.head _))))))
    · exact .tail _ (.tail _ (.tail _ (.tail _ (.tail _ (.tail _ (.tail _ (.head _)))))))
    · exact .tail _ (.tail _ (.tail _ (.tail _ (.tail _ (.tail _ (.tail _ (.tail _ (.head _))))))))
end
end Mine

end

section
open PySem PySem.W PyProof.Rows PySem.Calls
set_option maxRecDepth 100000
namespace Mine
theorem lt_ne3 {a b : Nat} (h : a < b) : a ≠ b + 1 + 1 + 1 ∧ a ≠ b + 1 + 1 ∧ a ≠ b + 1 := by omega
section
variable {prog : Program} {w : World} {A A₀ : Around} {E : Value → Shared → Prop} {s : Shared} {h₀ base : Heap} {L : Addr} {s₁ : Shared} {vs : List (Str × Value)} {news R : List (Addr × Obj)} {mg mb : Str → Option Value} {f a : Addr} {env : Env} {outer : List Env}
  {fo : Obj} {dV kV doc pm cdv ct : Value} {an : Option Addr} {params : Arguments} {name qual : Str} {body : List Stmt} {p : Program} {loose : List Str} {mean : ExcName → Option Value}
structure SrcDefAt (mg : Str → Option Value) (h₀ : Heap) (f : Addr) (fo : Obj) (c : Addr) (body : List Stmt) (dV kV doc pm ct : Value) (an : Option Addr) (params : Arguments) (name qual : Str) : Prop where
  bd : body = fBody srcDef
  nm : mg "_law_source" = some (.ref f)
  ob : h₀.get? f = some fo
  dat : fo.data = .func (fnX name qual params body srcScope [] dV kV doc pm an (.ref c) ct)
  code : h₀.CodeRec (.ref c) qual
  bind : ∀ u v x, bindArgs (fnX name qual params body srcScope [] dV kV doc pm an (.ref c) ct) ⟨[u, v, x], []⟩ = pure [(("octets" : Str), u), (("place" : Str), v), (("asked" : Str), x)]
theorem src_call {l : List UInt8} {tO : Tok} {C PL AS c P : Addr} {KF : Frag} {Q : Value → Shared → Prop} (K : Below A₀ base outer h₀) (T : Top p loose mean mg mb h₀) (CH : CodeHd h₀ c P) (G : Glo mg mb h₀) (X : HX mg h₀ "HTTPException" C) (XF : KF.In h₀) (hkc : keepIn KF (.ref C) = true)
    (FS : SrcDefAt mg h₀ f fo c body dV kV doc pm ct an params name qual)
    (S : St h₀ L s₁ vs ((P, tabObj #[]) :: news) s) (hP : ∀ q ∈ news, q.1 ≠ P) (hA : A.frames = some (env :: outer)) (hf : env.frame = some L) (hke : env.scope.kind = .function) (hroom : A.depth < recursionLimit)
    (hQ : ∀ e own s', (∃ ps, (P, tabObj ps) ∈ own) → (∀ q ∈ own, ∀ q' ∈ news, q.1 ≠ q'.1) → (∃ t d od f, (e, excObj C t (some d)) ∈ own ∧ (d, od) ∈ own ∧ d ≠ e ∧ OneName "readline" (.ref f) od ∧ LineIs l PL AS f own) → St h₀ L s₁ vs (own ++ news) s' → Q (.ref e) s') :
    wpAny (model prog w) A (call (.ref f) [.bytes l.toArray tO, .ref PL, .ref AS]) Q E s := by
  obtain ⟨m, F, hm⟩ := S.fr
  refine wpAny_call (callX_cells K F S.nw G.nolimit hA hf hke (F.keep _ _ FS.ob) FS.dat (FS.code.keeps F.keep) hroom (BindsTo.of_eq (FS.bind _ _ _)) ?_ (by decide) (fun g L' h₁ tk cells Fg F' N' Y B' st hl => ?_))
  · intro n y hy
    simp only [List.mem_cons, List.not_mem_nil, or_false] at hy
    rcases hy with rfl | rfl | rfl <;> exact .inr ⟨rfl, rfl⟩
  cases Y with
  | cons dA Y =>
  cases Y with
  | cons dP Y =>
  cases Y with
  | cons dO Y =>
  cases Y
  rename_i oA oP oO
  have S' : St g L' s₁ [] ((L' + 1 + 1 + 1, oA) :: (L' + 1 + 1, oP) :: (L' + 1, oO) :: (P, tabObj #[]) :: news) { heap := h₁, gens := s.gens, drawn := s.drawn, toks := tk, os := s.os } := ⟨S.gens, S.drawn, S.os, ⟨_, F', by simp⟩, N'⟩
  have hlt : ∀ q ∈ (P, tabObj #[]) :: news, (q.1 : Nat) < L' := fun q hq => ltN (hl q hq)
  have S2 : St g L' s₁ [] ((P, tabObj #[]) :: (L' + 1 + 1 + 1, oA) :: (L' + 1 + 1, oP) :: (L' + 1, oO) :: news) { heap := h₁, gens := s.gens, drawn := s.drawn, toks := tk, os := s.os } := S'.weak (by simp) (fun q hq => by
    simp only [List.mem_cons] at hq ⊢
    rcases hq with h | h | h | h | h
    · exact .inr (.inr (.inr (.inl h)))
    · exact .inl h
    · exact .inr (.inl h)
    · exact .inr (.inr (.inl h))
    · exact .inr (.inr (.inr (.inr h))))
  have key : wpAny (model prog w) (A.deeper (envOfC qual srcScope L' f (.ref c))) (execs body (envOfC qual srcScope L' f (.ref c))) (fun fl s'' => ∃ news', St g L' s₁ [] news' s'' ∧ (St h₀ L s₁ vs news' s'' → Q (match fl with | .ret v => v | _ => .none) s'')) (fun _ _ => False) { heap := h₁, gens := s.gens, drawn := s.drawn, toks := tk, os := s.os } := by
    refine src_body FS.bd (T.keeps st) (CH.keeps st) (G.keeps st) (X.keeps st) (XF.keeps st) hkc S2 ?_ dA dP dO ?_ ?_
    · intro q hq
      simp only [List.mem_cons] at hq
      have hPl := lt_ne3 (hlt _ (.head _))
      rcases hq with rfl | rfl | rfl | hq
      · exact Ne.symm hPl.1
      · exact Ne.symm hPl.2.1
      · exact Ne.symm hPl.2.2
      · exact hP q hq
    · intro q hq
      exact lt_ne3 (hlt q (.tail _ hq))
    · intro e own s2 hPs hown hex S3
      exact ⟨_, S3, fun S4 => hQ e own _ hPs hown hex S4⟩
  refine wpAny_mono key (fun fl s'' hq => ?_) (fun _ _ h => h.elim)
  obtain ⟨news', S'', hq⟩ := hq
  obtain ⟨m', F'', _⟩ := S''.fr
  refine leaveK_ F'' S''.nw fun F3 N3 => ?_
  exact hq ⟨S''.gens, S''.drawn, S''.os, ⟨m, F3, hm⟩, N3⟩
end
end Mine

end

section
open PySem PySem.W PyProof.Rows PySem.Calls
set_option maxRecDepth 100000
namespace Mine
open Builtin
namespace FN
theorem look_idx : typeLookup (.type "bytes") "__index__" = pure none := by rw [typeLookup_type, builtinLookup_eq_fast]; kernel_rfl
end FN
theorem contains_meets (l m : List UInt8) (t u : Tok) :
    Meets («bytes.__contains__» ⟨[.bytes l.toArray t, .bytes m.toArray u], []⟩) (fun A R s => A.in1.handled = none ∧ ∀ h' tk, (∀ b o, s.heap.get? b = some o → h'.get? b = some o) → R (.ok (.ret (.bool (fnd? l m 0).isSome))) { s with heap := h', toks := tk }) := by
  refine .of_wp fun prog w A R s ⟨hh, hR⟩ => ?_
  show wpAny _ _ (Bytes.containsIn "bytes.__contains__" (.bytes l.toArray t) (.bytes m.toArray u) >>= fun r => _) _ _ s
  refine wpAny_bind ?_
  unfold Bytes.containsIn
  refine wpAny_bind (wpAny_attempt ?_)
  unfold asIndex
  refine wpAny_bind (wpAny_of_eq (a := none) rfl ?_)
  show wpAny _ _ (callSpecial? (.bytes m.toArray u) "__index__" >>= fun r => _) _ _ s
  have e : callSpecial? (.bytes m.toArray u) "__index__" = pure none := by
    unfold callSpecial?
    rw [KBy.special_eq FN.look_idx]; rfl
  rw [e]
  show wpAny _ _ (typeNameOfCut 200 (.bytes m.toArray u) >>= fun n => raiseErrorMade "TypeError" _) _ _ s
  have e2 : typeNameOfCut 200 (.bytes m.toArray u) = pure "bytes" := by
    unfold typeNameOfCut shownTypeOf
    kernel_rfl
  rw [e2]
  refine wpAny_bind (wpAny_pure ?_)
  refine wpAny_raiseErrorMade plainExc_TypeError hh (fun h' tk e hx => ?_) (by decide +kernel)
  show wpAny _ _ (Bytes.buffer? "bytes.__contains__" (.bytes l.toArray t) >>= fun r => _) _ _ _
  refine wpAny_bind (wpAny_of_eq KBy.buffer_eq ?_)
  show wpAny _ _ (Bytes.buffer? "bytes.__contains__" (.bytes m.toArray u) >>= fun r => _) _ _ _
  refine wpAny_bind (wpAny_of_eq KBy.buffer_eq ?_)
  refine wpAny_bind (wpAny_rule ?_)
  refine wpAny_pure ?_
  refine wpAny_pure ⟨_, rfl, ?_⟩
  have key : (Bytes.find? l.toArray m.toArray 0 l.toArray.size).isSome = (fnd? l m 0).isSome := by unfold fnd?; simp
  rw [key]
  exact hR h' tk hx.keeps
section
variable {prog : Program} {w : World} {M : Model} {A : Around} {E : Value → Shared → Prop} {s : Shared} {h₀ : Heap} {L : Addr} {s₁ : Shared} {vs : List (Str × Value)} {news : List (Addr × Obj)}
/-- octets in octets -/
theorem o_inb {l m : List UInt8} {t u : Tok} {Q : Value → Shared → Prop} (hh : A.in1.handled = none) (S : St h₀ L s₁ vs news s) (h : ∀ s', St h₀ L s₁ vs news s' → Q (.bool (fnd? l m 0).isSome) s') :
    wpAny (model prog w) A (compareOp .In (.bytes m.toArray u) (.bytes l.toArray t)) Q E s :=
  PySem.SeqRoads2.in_meets (typeIs_bytes s _ _) FB.slot_bytes_contains FB.entry_bytes_contains (FB.args_bytes_contains_2 _ _) (contains_meets l m t u) ⟨hh, fun h' tk hk => ⟨_, rfl, h _ (S.grow tk hk)⟩⟩
end
end Mine

end

section
open PySem PySem.W PyProof.Rows PySem.Calls
set_option maxRecDepth 100000
namespace Mine
open Builtin
namespace FS
theorem slot : Slot "bytes" "split" "bytes.split" :=
  .of (owner := "bytes") (n := "split") (by rw [typeLookup_type, builtinLookup_eq_fast]; kernel_rfl) (by decide +kernel) (by decide +kernel) (by decide +kernel)
    (by first | exact .inl (by decide +kernel) | exact .inr (by decide +kernel)) (by rw [isSubtype_type]; kernel_rfl)
theorem ty : typeOf (.builtin "bytes.split") = pure (.type "method_descriptor") := by show builtinType _ = _; rw [builtinType_eq_fast]; kernel_rfl
theorem entry : entryFor table "bytes.split" = some Builtin.«bytes.split» := entryFor_of_tree (by kernel_rfl)
theorem args (a b : Value) : argsOk "bytes.split" ⟨[a, b], []⟩ := by
  unfold argsOk; rw [signature?_of (id := "bytes.split") (n := ['t', 'i', 'l', 'p', 's']) (o := ['s', 'e', 't', 'y', 'b']) (by kernel_rfl) FB.owner_bytes]; kernel_rfl
end FS
def occs (l : List UInt8) : List Nat := (Bytes.occurrences l.toArray #[10] 0 l.toArray.size).take (l.toArray.size + 1)
def spr (l : List UInt8) : List (List UInt8) := if (occs l).isEmpty = true then [l] else (Bytes.between l.toArray 1 (occs l)).map Array.toList
/-- made octet strings, one behind the other -/
theorem mk_all {M : Model} {A : Around} {E : Value → Shared → Prop} (bs : List (Array UInt8)) (hz : ∀ b ∈ bs, b.size ≤ 16777216) {s : Shared} {Q : List Value → Shared → Prop}
    (h : ∀ vs k, BAre vs (bs.map Array.toList) → Q vs { s with toks := k }) : wpAny M A (bs.mapM (Bytes.Kind.new .bytes)) Q E s := by
  induction bs generalizing s Q with
  | nil => exact wpAny_pure (h [] s.toks .nil)
  | cons b r ih =>
    rw [List.mapM_cons]
    refine wpAny_bind ?_
    show wpAny _ _ (mkBytes b) _ _ _
    refine wpAny_mkBytes ?_ (by rw [sizeLine_eq]; exact hz b (.head _))
    refine wpAny_bind (ih (fun b' hb' => hz b' (.tail _ hb')) fun vs k hB => wpAny_pure ?_)
    have hc : BAre (.bytes b s.toks :: vs) (b.toList :: r.map Array.toList) := by
      have := BAre.cons b.toList s.toks hB
      simpa using this
    exact h (.bytes b s.toks :: vs) k hc
theorem split_meets (l : List UInt8) (t u : Tok) :
    Meets («bytes.split» ⟨[.bytes l.toArray t, .bytes #[10] u], []⟩) (fun _ R s => (∀ b ∈ Bytes.between l.toArray 1 (occs l), b.size ≤ 16777216) ∧ (Bytes.between l.toArray 1 (occs l)).length ≤ 16777216 ∧ ∀ vs k, BAre vs (spr l) → R (.ok (.ret (.ref s.heap.objs.size))) { s with heap := s.heap.push { cls := .type "list", data := .seq vs.toArray }, toks := k }) := by
  refine .of_wp fun prog w A R s ⟨hz, hn, hR⟩ => ?_
  have eb : Bytes.bindOptional "bytes.split" "split" ["sep", "maxsplit"] [.bytes #[10] u] [] = pure [some (.bytes #[10] u), none] := rfl
  show wpAny _ _ (Bytes.bindOptional "bytes.split" "split" ["sep", "maxsplit"] [.bytes #[10] u] [] >>= fun r => _) _ _ s
  refine wpAny_bind (wpAny_of_eq eb ?_)
  refine wpAny_bind (wpAny_pure ?_)
  refine wpAny_bind (wpAny_of_eq (a := l.toArray) rfl ?_)
  show wpAny _ _ (Bytes.bytesLike "bytes.split" (.bytes #[10] u) >>= fun r => _) _ _ s
  have el : Bytes.bytesLike "bytes.split" (.bytes #[10] u) = pure #[10] := by unfold Bytes.bytesLike; rw [KBy.buffer_eq]; rfl
  refine wpAny_bind (wpAny_of_eq el ?_)
  refine bm_if_false rfl ?_
  show wpAny _ _ (if (occs l).isEmpty = true then _ else _) _ _ s
  by_cases he : (occs l).isEmpty = true
  · rw [if_pos he]
    have e1 : spr l = [l] := by unfold spr; rw [if_pos he]
    rw [e1] at hR
    refine wpAny_bind (wpAny_rule ?_)
    refine wpAny_bind ?_
    show wpAny _ _ (Bytes.Kind.same .bytes (.bytes l.toArray t)) _ _ s
    unfold Bytes.Kind.same
    refine bm_if_true rfl ?_
    refine wpAny_bind (wpAny_typeOf (typeIs_bytes s _ _) ?_)
    refine bm_if_true rfl ?_
    refine wpAny_pure ?_
    refine wpAny_bind (wpAny_newObj_type ?_ (by show (1 : Nat) ≤ _; rw [sizeLine_eq]; decide))
    exact wpAny_pure ⟨_, rfl, hR [.bytes l.toArray t] s.toks (.cons l t .nil)⟩
  · rw [if_neg he]
    have e1 : spr l = (Bytes.between l.toArray 1 (occs l)).map Array.toList := by unfold spr; rw [if_neg he]
    rw [e1] at hR
    refine wpAny_bind ?_
    show wpAny _ _ ((Bytes.between l.toArray 1 (occs l)).mapM (Bytes.Kind.new .bytes)) _ _ s
    refine mk_all _ hz fun vs k hB => ?_
    have hl := hB.len
    rw [List.length_map] at hl
    refine wpAny_bind (wpAny_newObj_type ?_ (by show vs.toArray.size ≤ sizeLine; rw [List.size_toArray, sizeLine_eq]; omega))
    exact wpAny_pure ⟨_, rfl, hR vs k hB⟩
section
variable {prog : Program} {w : World} {M : Model} {A : Around} {E : Value → Shared → Prop} {s : Shared} {h₀ : Heap} {L : Addr} {s₁ : Shared} {vs : List (Str × Value)} {news : List (Addr × Obj)}
theorem m_split {b : Array UInt8} {t : Tok} {pl : Sem Bool} {Q : Value × List Value → Shared → Prop} (h : Q (.builtin "bytes.split", [.bytes b t]) s) : wpAny M A (getMethod (.bytes b t) "split" pl) Q E s := by
  with_reducible exact KBd.method_of (.bytes b t) (typeIs_bytes _ _ _) FS.slot FS.ty KBd.noRef h
theorem c_split {l : List UInt8} {t u : Tok} {Q : Value → Shared → Prop} (S : St h₀ L s₁ vs news s) (hz : ∀ b ∈ Bytes.between l.toArray 1 (occs l), b.size ≤ 16777216) (hn : (Bytes.between l.toArray 1 (occs l)).length ≤ 16777216)
    (h : ∀ D zs s', BAre zs (spr l) → (∀ p ∈ news, p.1 < D) → St h₀ L s₁ vs ((D, listOf zs.toArray 0) :: news) s' → Q (.ref D) s') :
    wpAny (model prog w) A (call (.builtin "bytes.split") [.bytes l.toArray t, .bytes #[10] u]) Q E s :=
  call_meets FS.slot (typeIs_bytes _ _ _) FS.entry (FS.args _ _) (split_meets l t u) ⟨hz, hn, fun zs k hB => h _ zs _ hB S.lt ((S.push (listOf zs.toArray 0)).tok k)⟩
end
end Mine

end

section
open PySem PySem.W PyProof.Rows PySem.Calls
namespace Mine
open Builtin
/-- split by line feeds -/
def spl (r : List UInt8) : List (List UInt8) :=
  if h : r.findIdx (· == 10) < r.length then r.take (r.findIdx (· == 10)) :: spl (r.drop (r.findIdx (· == 10) + 1)) else [r]
termination_by r.length
decreasing_by
  rw [List.length_drop]; omega
def betw (l : List UInt8) (last : Nat) : List Nat → List (List UInt8)
  | [] => [l.drop last]
  | p :: ps => (l.drop last).take (p - last) :: betw l (p + 1) ps
def isLf (l : List UInt8) (i : Nat) : Bool := l[i]? == some 10
theorem occ_eq (l : List UInt8) : Bytes.occurrences l.toArray #[10] 0 l.toArray.size = (List.range l.length).filter (isLf l) := by
  unfold Bytes.occurrences
  have hn : l.toArray.size + 1 - (0 + (#[10] : Array UInt8).size) = l.length := by simp
  rw [hn]
  simp only [Nat.add_zero, List.map_id']
  have key : ∀ (n : Nat) (acc : List Nat), ∃ m, m ≤ n ∧ (List.range n).foldl (fun (acc : List Nat × Nat) i => if (decide (i ≥ acc.2) && l.toArray.extract i (i + (#[10] : Array UInt8).size) == #[10]) = true then (i :: acc.1, i + (#[10] : Array UInt8).size) else acc) ([], 0) = (((List.range n).filter (isLf l)).reverse, m) := by
    intro n _
    induction n with
    | zero => exact ⟨0, Nat.le_refl _, rfl⟩
    | succ n ih =>
      obtain ⟨m, hm, e⟩ := ih
      rw [List.range_succ, List.foldl_append, e, List.filter_append]
      have hx : (l.toArray.extract n (n + (#[10] : Array UInt8).size) == #[10]) = isLf l n := extract_one l n 10
      rw [List.foldl_cons, List.foldl_nil]
      by_cases hb : isLf l n = true
      · refine ⟨n + 1, Nat.le_refl _, ?_⟩
        have hc : (decide (n ≥ m) && l.toArray.extract n (n + (#[10] : Array UInt8).size) == #[10]) = true := by rw [hx, hb]; simpa using hm
        show (if (decide (n ≥ m) && l.toArray.extract n (n + (#[10] : Array UInt8).size) == #[10]) = true then _ else _) = _
        rw [if_pos hc]
        have hf : [n].filter (isLf l) = [n] := by rw [List.filter_cons, if_pos hb]; rfl
        rw [hf, List.reverse_append]
        rfl
      · refine ⟨m, by omega, ?_⟩
        have hc : ¬ ((decide (n ≥ m) && l.toArray.extract n (n + (#[10] : Array UInt8).size) == #[10]) = true) := by rw [hx]; simp [hb]
        show (if (decide (n ≥ m) && l.toArray.extract n (n + (#[10] : Array UInt8).size) == #[10]) = true then _ else _) = _
        rw [if_neg hc]
        have hf : [n].filter (isLf l) = [] := by rw [List.filter_cons, if_neg hb]; rfl
        rw [hf, List.append_nil]
  obtain ⟨m, _, e⟩ := key l.length []
  have e2 := congrArg (fun x => x.1.reverse) e
  simp only [List.reverse_reverse] at e2
  exact e2
theorem betw_eq (l : List UInt8) (ps : List Nat) : ((Bytes.between l.toArray 1 ps).map Array.toList) = betw l 0 ps := by
  unfold Bytes.between
  have key : ∀ (ps : List Nat) (parts : Array (Array UInt8)) (last : Nat),
      (let r := ps.foldl (fun (x : Array (Array UInt8) × Nat) p => (x.1.push (l.toArray.extract x.2 p), p + 1)) (parts, last); (r.1.push (l.toArray.extract r.2 l.toArray.size)).toList.map Array.toList) = parts.toList.map Array.toList ++ betw l last ps := by
    intro ps
    induction ps with
    | nil =>
      intro parts last
      simp [betw, List.extract_eq_take_drop, List.take_of_length_le]
    | cons p r ih =>
      intro parts last
      rw [List.foldl_cons]
      have := ih (parts.push (l.toArray.extract last p)) (p + 1)
      refine this.trans ?_
      simp [betw, List.extract_eq_take_drop]
  have := key ps #[] 0
  simpa using this
theorem betw_spl (l : List UInt8) : ∀ (n k : Nat), k + n = l.length → betw l k ((List.range' k n).filter (isLf l)) = spl (l.drop k) := by
  intro n
  induction n using Nat.strongRecOn with
  | _ n ih =>
    intro k hk
    have hlen : (l.drop k).length = n := by rw [List.length_drop]; omega
    have hno : ∀ m, m ≤ n → m ≤ (l.drop k).findIdx (· == 10) → (List.range' k m).filter (isLf l) = [] := by
      intro m hm hj
      rw [List.filter_eq_nil_iff]
      intro i hi
      rw [List.mem_range'_1] at hi
      have h2 := List.not_of_lt_findIdx (p := (· == (10 : UInt8))) (xs := l.drop k) (i := i - k) (by omega)
      unfold isLf
      have e : l[i]? = (l.drop k)[i - k]? := by rw [List.getElem?_drop]; congr 1; omega
      rw [e, List.getElem?_eq_getElem (by omega)]
      simpa using h2
    by_cases hlt : (l.drop k).findIdx (· == 10) < (l.drop k).length
    · have hjn : (l.drop k).findIdx (· == 10) < n := by omega
      have hsp : List.range' k n = List.range' k ((l.drop k).findIdx (· == 10)) ++ ((k + (l.drop k).findIdx (· == 10)) :: List.range' (k + (l.drop k).findIdx (· == 10) + 1) (n - (l.drop k).findIdx (· == 10) - 1)) := by
        have e1 : n = (l.drop k).findIdx (· == 10) + ((n - (l.drop k).findIdx (· == 10) - 1) + 1) := by omega
        conv => lhs; rw [e1]
        rw [← List.range'_append_1, List.range'_succ]
      have hat : isLf l (k + (l.drop k).findIdx (· == 10)) = true := by
        unfold isLf
        rw [← List.getElem?_drop, List.getElem?_eq_getElem hlt]
        have := List.findIdx_getElem (p := (· == (10 : UInt8))) (w := hlt)
        simpa using this
      rw [hsp, List.filter_append, hno _ (by omega) (Nat.le_refl _), List.nil_append, List.filter_cons, if_pos hat]
      rw [spl, dif_pos hlt, List.drop_drop]
      show (l.drop k).take (k + (l.drop k).findIdx (· == 10) - k) :: betw l (k + (l.drop k).findIdx (· == 10) + 1) _ = _
      rw [ih (n - (l.drop k).findIdx (· == 10) - 1) (by omega) (k + (l.drop k).findIdx (· == 10) + 1) (by omega)]
      have e3 : k + (l.drop k).findIdx (· == 10) - k = (l.drop k).findIdx (· == 10) := by omega
      rw [e3]
      rfl
    · rw [hno n (Nat.le_refl _) (by omega), spl, dif_neg hlt]
      rfl
theorem occs_eq (l : List UInt8) : occs l = (List.range' 0 l.length).filter (isLf l) := by
  unfold occs
  rw [occ_eq, ← List.range_eq_range']
  refine List.take_of_length_le (Nat.le_trans (List.length_filter_le _ _) ?_)
  simp
theorem spr_eq (l : List UInt8) : spr l = spl l := by
  have h := betw_spl l l.length 0 (by omega)
  rw [List.drop_zero, ← occs_eq] at h
  unfold spr
  by_cases he : (occs l).isEmpty = true
  · rw [if_pos he]
    have e : occs l = [] := by simpa using he
    rw [e] at h
    exact h
  · rw [if_neg he, betw_eq]
    exact h
theorem betw_small (l : List UInt8) (ps : List Nat) (last : Nat) : (∀ q ∈ betw l last ps, q.length ≤ l.length) ∧ (betw l last ps).length = ps.length + 1 := by
  induction ps generalizing last with
  | nil => exact ⟨fun q hq => by rw [List.mem_singleton.mp hq, List.length_drop]; omega, rfl⟩
  | cons p r ih =>
    obtain ⟨h1, h2⟩ := ih (p + 1)
    refine ⟨fun q hq => ?_, by simp [betw, h2]⟩
    rcases List.mem_cons.mp hq with rfl | hq
    · rw [List.length_take, List.length_drop]; omega
    · exact h1 q hq
section
variable {prog : Program} {w : World} {A : Around} {E : Value → Shared → Prop} {s : Shared} {h₀ : Heap} {L : Addr} {s₁ : Shared} {vs : List (Str × Value)} {news : List (Addr × Obj)}
theorem c_splitP {l : List UInt8} {t u : Tok} {Q : Value → Shared → Prop} (S : St h₀ L s₁ vs news s) (hl : l.length ≤ 1000000)
    (h : ∀ D zs s', BAre zs (spl l) → (∀ p ∈ news, p.1 < D) → St h₀ L s₁ vs ((D, listOf zs.toArray 0) :: news) s' → Q (.ref D) s') :
    wpAny (model prog w) A (call (.builtin "bytes.split") [.bytes l.toArray t, .bytes #[10] u]) Q E s := by
  have hb := betw_small l (occs l) 0
  have he := betw_eq l (occs l)
  have hoc : (occs l).length ≤ l.length := by
    rw [occs_eq]
    refine Nat.le_trans (List.length_filter_le _ _) ?_
    simp
  refine c_split S (fun b hbm => ?_) ?_ (fun D zs s' hB => h D zs s' (by rw [← spr_eq]; exact hB))
  · have : b.toList ∈ betw l 0 (occs l) := by rw [← he]; exact List.mem_map.mpr ⟨b, hbm, rfl⟩
    have := hb.1 _ this
    have e : b.toList.length = b.size := by simp
    omega
  · have : (Bytes.between l.toArray 1 (occs l)).length = (betw l 0 (occs l)).length := by rw [← he, List.length_map]
    omega
end
end Mine

end

section
open PySem PySem.W PyProof.Rows PySem.Calls
namespace Mine
open Builtin
def atI (l m : List UInt8) (i : Nat) : Bool := (l.drop i).take m.length == m
theorem ext_at (l m : List UInt8) (i : Nat) : (l.toArray.extract i (i + m.toArray.size) == m.toArray) = atI l m i := by
  unfold atI
  rw [List.extract_toArray, List.extract_eq_take_drop]
  have e : i + m.toArray.size - i = m.length := by simp
  rw [e, Bool.eq_iff_iff]
  simp
theorem fnd_eq (l m : List UInt8) : fnd? l m 0 = (List.range (l.length + 1 - m.length)).find? (atI l m) := by
  unfold fnd? Bytes.find?
  have e : (fun i => l.toArray.extract i (i + m.toArray.size) == m.toArray) = atI l m := by funext i; exact ext_at l m i
  rw [e]
  simp
theorem at_short {l m : List UInt8} {i : Nat} (hm : m ≠ []) (h : l.length < i + m.length) : atI l m i = false := by
  unfold atI
  rw [Bool.eq_false_iff]
  intro hh
  have e : (l.drop i).take m.length = m := by simpa using hh
  have := congrArg List.length e
  rw [List.length_take, List.length_drop] at this
  have : 0 < m.length := List.length_pos_iff.mpr hm
  omega
theorem fnd_some {l m : List UInt8} {i : Nat} (hm : m ≠ []) : fnd? l m 0 = some i ↔ atI l m i = true ∧ ∀ j, j < i → atI l m j = false := by
  rw [fnd_eq, List.find?_range_eq_some]
  constructor
  · rintro ⟨h1, _, h3⟩
    exact ⟨h1, fun j hj => by simpa using h3 j hj⟩
  · rintro ⟨h1, h3⟩
    refine ⟨h1, ?_, fun j hj => by simpa using h3 j hj⟩
    rcases Nat.lt_or_ge i (l.length + 1 - m.length) with h | h
    · exact List.mem_range.mpr h
    · rw [at_short hm (by omega)] at h1; cases h1
theorem fnd_none {l m : List UInt8} (hm : m ≠ []) : fnd? l m 0 = none ↔ ∀ j, atI l m j = false := by
  rw [fnd_eq, List.find?_range_eq_none]
  constructor
  · intro h j
    rcases Nat.lt_or_ge j (l.length + 1 - m.length) with hj | hj
    · simpa using h j hj
    · exact at_short hm (by omega)
  · intro h j _
    simpa using h j
end Mine

end

section
open PySem PySem.W PyProof.Rows PySem.Calls
namespace Mine
def M1 : List UInt8 := [10, 10]
def M2 : List UInt8 := [10, 13, 10]
theorem at_head {l m' : List UInt8} {j : Nat} {c : UInt8} (hc : l[j]? = some c) (hne : c ≠ 10) : atI l (10 :: m') j = false := by
  unfold atI
  obtain ⟨hj, e⟩ := List.getElem?_eq_some_iff.mp hc
  rw [List.drop_eq_getElem_cons hj, e, List.length_cons, List.take_succ_cons, Bool.eq_false_iff]
  intro h
  have h' : c :: List.take m'.length (l.drop (j + 1)) = 10 :: m' := by simpa using h
  exact hne (List.cons.inj h').1
theorem at_shift (y r' : List UInt8) (hy : ∀ c ∈ y, c ≠ 10) (m' : List UInt8) (h0 : atI (10 :: (y ++ 10 :: r')) (10 :: m') 0 = false) (j : Nat) :
    atI (10 :: (y ++ 10 :: r')) (10 :: m') j = if j < y.length + 1 then false else atI (10 :: r') (10 :: m') (j - (y.length + 1)) := by
  by_cases hj : j < y.length + 1
  · rw [if_pos hj]
    rcases j with _ | j
    · exact h0
    · have hjy : j < y.length := by omega
      refine at_head (c := y[j]) ?_ (hy _ (List.getElem_mem _))
      rw [List.getElem?_cons_succ, List.getElem?_append_left hjy, List.getElem?_eq_getElem hjy]
  · rw [if_neg hj]
    obtain ⟨i, rfl⟩ : ∃ i, j = y.length + 1 + i := ⟨j - (y.length + 1), by omega⟩
    have e : (10 :: (y ++ 10 :: r')).drop (y.length + 1 + i) = (10 :: r').drop i := by
      have : (10 :: (y ++ 10 :: r') : List UInt8) = (10 :: y) ++ (10 :: r') := by simp
      rw [this]
      have hl : y.length + 1 + i = (10 :: y : List UInt8).length + i := by simp
      rw [hl, List.drop_length_add_append]
    unfold atI
    rw [e]
    have e2 : y.length + 1 + i - (y.length + 1) = i := by omega
    rw [e2]
theorem fnd_shift (y r' : List UInt8) (hy : ∀ c ∈ y, c ≠ 10) (m' : List UInt8) (h0 : atI (10 :: (y ++ 10 :: r')) (10 :: m') 0 = false) :
    fnd? (10 :: (y ++ 10 :: r')) (10 :: m') 0 = (fnd? (10 :: r') (10 :: m') 0).map (· + (y.length + 1)) := by
  cases h : fnd? (10 :: r') (10 :: m') 0 with
  | none =>
    rw [Option.map_none, fnd_none (by simp)]
    intro j
    rw [at_shift y r' hy m' h0]
    split
    · rfl
    · exact (fnd_none (by simp)).mp h _
  | some i =>
    obtain ⟨h1, h2⟩ := (fnd_some (by simp)).mp h
    rw [Option.map_some, fnd_some (by simp)]
    refine ⟨?_, fun j hj => ?_⟩
    · rw [at_shift y r' hy m' h0, if_neg (by omega)]
      have : i + (y.length + 1) - (y.length + 1) = i := by omega
      rw [this]; exact h1
    · rw [at_shift y r' hy m' h0]
      split
      · rfl
      · exact h2 _ (by omega)
end Mine

end

section
open PySem PySem.W PyProof.Rows PySem.Calls
namespace Mine
/-- how r begins: nothing; one line without an end; a line with its end -/
theorem line_cases (r : List UInt8) : r = [] ∨ (r ≠ [] ∧ (∀ c ∈ r, c ≠ 10) ∧ ln1 r = r ∧ lnl r = r.length) ∨ ∃ y r', r = y ++ 10 :: r' ∧ (∀ c ∈ y, c ≠ 10) ∧ ln1 r = y ++ [10] ∧ r.drop (lnl r) = r' ∧ lnl r = y.length + 1 := by
  by_cases hlt : r.findIdx (· == 10) < r.length
  · refine .inr (.inr ⟨r.take (r.findIdx (· == 10)), r.drop (r.findIdx (· == 10) + 1), ?_, ?_, ?_, ?_, ?_⟩)
    · have hg := List.findIdx_getElem (p := (· == (10 : UInt8))) (w := hlt)
      have e : r[r.findIdx (· == 10)]'hlt = 10 := by simpa using hg
      have h2 := List.drop_eq_getElem_cons hlt
      rw [e] at h2
      rw [← h2, List.take_append_drop]
    · intro c hc
      obtain ⟨i, hi, rfl⟩ := List.getElem_of_mem hc
      rw [List.length_take] at hi
      have := List.not_of_lt_findIdx (p := (· == (10 : UInt8))) (xs := r) (i := i) (by omega)
      rw [List.getElem_take]
      simpa using this
    · unfold ln1 lnl
      rw [if_pos hlt, List.take_add_one, List.getElem?_eq_getElem hlt]
      have hg := List.findIdx_getElem (p := (· == (10 : UInt8))) (w := hlt)
      have e : r[r.findIdx (· == 10)]'hlt = 10 := by simpa using hg
      rw [e]; rfl
    · unfold lnl; rw [if_pos hlt]
    · unfold lnl; rw [if_pos hlt, List.length_take]; omega
  · by_cases hr : r = []
    · exact .inl hr
    · refine .inr (.inl ⟨hr, ?_, ?_, ?_⟩)
      · intro c hc
        have hlen : r.findIdx (· == 10) = r.length := by have := List.findIdx_le_length (p := (· == (10 : UInt8))) (xs := r); omega
        have := List.findIdx_eq_length.mp hlen c hc
        simpa using this
      · unfold ln1 lnl; rw [if_neg hlt, List.take_length]
      · unfold lnl; rw [if_neg hlt]
end Mine

end

section
open PySem PySem.W PyProof.Rows PySem.Calls
namespace Mine
theorem spl_line (y r' : List UInt8) (hy : ∀ c ∈ y, c ≠ 10) : spl (y ++ 10 :: r') = y :: spl r' := by
  have hidx : (y ++ 10 :: r').findIdx (· == 10) = y.length := by
    rw [List.findIdx_append]
    have hnf : y.findIdx (· == 10) = y.length := List.findIdx_eq_length.mpr fun c hc => by simpa using hy c hc
    rw [hnf, if_neg (by omega), List.findIdx_cons]
    simp
  have hlt : (y ++ 10 :: r').findIdx (· == 10) < (y ++ 10 :: r').length := by rw [hidx, List.length_append, List.length_cons]; omega
  rw [spl, dif_pos hlt, hidx, List.take_left]
  congr 1
  have e : (y ++ 10 :: r' : List UInt8) = (y ++ [10]) ++ r' := by simp
  have e2 : y.length + 1 = (y ++ [10] : List UInt8).length := by simp
  rw [e, e2, List.drop_left]
theorem spl_no (r : List UInt8) (h : ∀ c ∈ r, c ≠ 10) : spl r = [r] := by
  have hnf : r.findIdx (· == 10) = r.length := List.findIdx_eq_length.mpr fun c hc => by simpa using h c hc
  rw [spl, dif_neg (by omega)]
end Mine

end

section
open PySem PySem.W PyProof.Rows PySem.Calls
namespace Mine
/-- the law's own rows when no block ends -/
def rowsE (r : List UInt8) : List (List UInt8) := (spl r).dropLast.map (· ++ [10]) ++ ((spl r).getLast?.toList.filter (· ≠ [])) ++ [[]]
theorem spl_ne (r : List UInt8) : spl r ≠ [] := by
  rw [spl]; split <;> simp
theorem end_of_no {r : List UInt8} (hr : r ≠ []) (h : ∀ c ∈ r, c ≠ 10) : isEnd r = false := by
  unfold isEnd
  rw [Bool.eq_false_iff]
  intro hh
  simp only [Bool.or_eq_true, beq_iff_eq] at hh
  rcases hh with (rfl | rfl) | rfl
  · exact h 10 (by simp) rfl
  · exact h 10 (by simp) rfl
  · exact hr rfl
theorem blk_nil : blk [] = [[]] := by rw [blk_end (by decide)]; rfl
theorem blk_rowsE : ∀ (n : Nat) (r : List UInt8), r.length ≤ n → (blk r).getLast? = some [] → blk r = rowsE r := by
  intro n
  induction n with
  | zero =>
    intro r hn _
    have : r = [] := by simpa using hn
    subst this
    rw [blk_nil]; unfold rowsE; rw [spl_no [] (by simp)]; rfl
  | succ n ih =>
    intro r hn hlast
    rcases line_cases r with rfl | ⟨hr, hno, h1, h2⟩ | ⟨y, r', rfl, hy, h1, h2, h3⟩
    · rw [blk_nil]; unfold rowsE; rw [spl_no [] (by simp)]; rfl
    · have he : isEnd (ln1 r) = false := by rw [h1]; exact end_of_no hr hno
      rw [blk_more he, h1, h2, List.drop_length, blk_nil]
      unfold rowsE
      rw [spl_no r hno]
      simp [hr]
    · cases he : isEnd (ln1 (y ++ 10 :: r')) with
      | true =>
        rw [blk_end he, h1] at hlast
        simp at hlast
      | false =>
        rw [blk_more he, h2] at hlast ⊢
        have hbl : blk r' ≠ [] := by obtain ⟨q, hq⟩ := blk_head r'; rw [hq]; simp
        have hlast' : (blk r').getLast? = some [] := by
          rw [List.getLast?_cons] at hlast
          cases hb : (blk r').getLast? with
          | none => rw [List.getLast?_eq_none_iff] at hb; exact absurd hb hbl
          | some z => rw [hb] at hlast; simpa using hlast
        rw [ih r' (by simp at hn; omega) hlast', h1]
        unfold rowsE
        rw [spl_line y r' hy, List.dropLast_cons_of_ne_nil (spl_ne r')]
        have hg : (y :: spl r').getLast? = (spl r').getLast? := by
          rw [List.getLast?_cons]
          cases hb : (spl r').getLast? with
          | none => rw [List.getLast?_eq_none_iff] at hb; exact absurd hb (spl_ne r')
          | some z => rfl
        rw [hg]
        simp
end Mine

end

section
open PySem PySem.W PyProof.Rows PySem.Calls
namespace Mine
theorem blk_pre : ∀ (n : Nat) (r : List UInt8), r.length ≤ n → (blk r).flatten = r.take (blk r).flatten.length := by
  intro n
  induction n with
  | zero =>
    intro r hn
    have : r = [] := by simpa using hn
    subst this
    rw [blk_nil]; rfl
  | succ n ih =>
    intro r hn
    cases he : isEnd (ln1 r) with
    | true =>
      rw [blk_end he]
      have hl := ln1_len r
      show ln1 r ++ [] = _
      rw [List.append_nil, List.flatten_cons, List.flatten_nil, List.append_nil, hl]; rfl
    | false =>
      have h0 := ln1_nil_of he
      have h := ih (r.drop (lnl r)) (by rw [List.length_drop]; omega)
      rw [blk_more he, List.flatten_cons, List.length_append, ln1_len, List.take_add, ← h]
      rfl
end Mine

end

section
open PySem PySem.W PyProof.Rows PySem.Calls
namespace Mine
/-- a block that ends: its octets split give its lines -/
theorem blk_rows : ∀ (n : Nat) (r : List UInt8), r.length ≤ n → (blk r).getLast? ≠ some [] → (spl (blk r).flatten).dropLast.map (· ++ [10]) = blk r ∧ (spl (blk r).flatten).getLast? = some [] := by
  intro n
  induction n with
  | zero =>
    intro r hn h
    have : r = [] := by simpa using hn
    subst this
    rw [blk_nil] at h; simp at h
  | succ n ih =>
    intro r hn hlast
    rcases line_cases r with rfl | ⟨hr, hno, h1, h2⟩ | ⟨y, r', rfl, hy, h1, h2, h3⟩
    · rw [blk_nil] at hlast; simp at hlast
    · have he : isEnd (ln1 r) = false := by rw [h1]; exact end_of_no hr hno
      rw [blk_more he, h1, h2, List.drop_length, blk_nil] at hlast
      simp at hlast
    · cases he : isEnd (ln1 (y ++ 10 :: r')) with
      | true =>
        rw [blk_end he, h1]
        have e : [y ++ [10]].flatten = y ++ 10 :: [] := by simp
        rw [e, spl_line y [] hy, spl_no [] (by simp)]
        simp
      | false =>
        rw [blk_more he, h2] at hlast ⊢
        have hbl : blk r' ≠ [] := by obtain ⟨q, hq⟩ := blk_head r'; rw [hq]; simp
        have hlast' : (blk r').getLast? ≠ some [] := by
          intro hb
          rw [List.getLast?_cons, hb] at hlast
          exact hlast rfl
        obtain ⟨i1, i2⟩ := ih r' (by simp at hn; omega) hlast'
        have e : (ln1 (y ++ 10 :: r') :: blk r').flatten = y ++ 10 :: (blk r').flatten := by rw [h1]; simp
        rw [e, spl_line y _ hy, List.dropLast_cons_of_ne_nil (spl_ne _), List.map_cons, i1, h1]
        refine ⟨rfl, ?_⟩
        rw [List.getLast?_cons, i2]; rfl
end Mine

end

section
open PySem PySem.W PyProof.Rows PySem.Calls
namespace Mine
theorem at0 (y r' : List UInt8) (hy : ∀ c ∈ y, c ≠ 10) (h1 : y ≠ []) (h2 : y ≠ [13]) : atI (10 :: (y ++ 10 :: r')) M1 0 = false ∧ atI (10 :: (y ++ 10 :: r')) M2 0 = false := by
  rcases y with _ | ⟨a, _ | ⟨b, q⟩⟩
  · exact absurd rfl h1
  · have ha : a ≠ 10 := hy a (by simp)
    have ha2 : a ≠ 13 := fun e => h2 (by rw [e])
    constructor <;> simp [atI, M1, M2, ha, ha2]
  · have ha : a ≠ 10 := hy a (by simp)
    have hb : b ≠ 10 := hy b (by simp)
    constructor <;> simp [atI, M1, M2, ha, hb]
end Mine

end

section
open PySem PySem.W PyProof.Rows PySem.Calls
namespace Mine
theorem no_marks {r : List UInt8} (h : ∀ c ∈ r, c ≠ 10) : fnd? (10 :: r) M1 0 = none ∧ fnd? (10 :: r) M2 0 = none := by
  have key : ∀ m' : List UInt8, 10 ∈ m' → fnd? (10 :: r) (10 :: m') 0 = none := fun m' hm => by
    rw [fnd_none (by simp)]
    intro j
    rw [Bool.eq_false_iff]
    intro hh
    have e : ((10 :: r).drop j).take (10 :: m').length = 10 :: m' := by simpa [atI] using hh
    rcases j with _ | j
    · rw [List.drop_zero, List.length_cons, List.take_succ_cons] at e
      have e2 := (List.cons.inj e).2
      rw [← e2] at hm
      exact h 10 (List.mem_of_mem_take hm) rfl
    · have : (10 : UInt8) ∈ ((10 :: r).drop (j + 1)).take (10 :: m').length := by rw [e]; simp
      have := List.mem_of_mem_take this
      rw [List.drop_succ_cons] at this
      exact h 10 (List.mem_of_mem_drop this) rfl
  exact ⟨key [10] (by simp), key [13, 10] (by simp)⟩
end Mine

end

section
open PySem PySem.W PyProof.Rows PySem.Calls
namespace Mine
def EndsAt (r : List UInt8) (E : Nat) : Prop := (∀ i, fnd? (10 :: r) M1 0 = some i → E ≤ i + 1) ∧ (∀ i, fnd? (10 :: r) M2 0 = some i → E ≤ i + 2) ∧ ((∃ i, fnd? (10 :: r) M1 0 = some i ∧ i + 1 = E) ∨ ∃ i, fnd? (10 :: r) M2 0 = some i ∧ i + 2 = E)
theorem ends_blk : ∀ (n : Nat) (r : List UInt8), r.length ≤ n → ((blk r).getLast? = some [] → fnd? (10 :: r) M1 0 = none ∧ fnd? (10 :: r) M2 0 = none) ∧ ((blk r).getLast? ≠ some [] → EndsAt r (blk r).flatten.length) := by
  intro n
  induction n with
  | zero =>
    intro r hn
    have : r = [] := by simpa using hn
    subst this
    exact ⟨fun _ => no_marks (by simp), fun h => absurd (by rw [blk_nil]; rfl) h⟩
  | succ n ih =>
    intro r hn
    rcases line_cases r with rfl | ⟨hr, hno, h1, h2⟩ | ⟨y, r', rfl, hy, h1, h2, h3⟩
    · exact ⟨fun _ => no_marks (by simp), fun h => absurd (by rw [blk_nil]; rfl) h⟩
    · have he : isEnd (ln1 r) = false := by rw [h1]; exact end_of_no hr hno
      have hb : blk r = [r, []] := by rw [blk_more he, h1, h2, List.drop_length, blk_nil]
      exact ⟨fun _ => no_marks hno, fun h => absurd (by rw [hb]; rfl) h⟩
    · by_cases hy0 : y = []
      · subst hy0
        have he : isEnd (ln1 ([] ++ 10 :: r')) = true := by rw [h1]; decide
        have hb : blk ([] ++ 10 :: r') = [[10]] := by rw [blk_end he, h1]; rfl
        rw [hb]
        refine ⟨fun h => absurd h (by decide), fun _ => ⟨fun i _ => ?_, fun i _ => ?_, .inl ⟨0, ?_, rfl⟩⟩⟩
        · show 1 ≤ i + 1; omega
        · show 1 ≤ i + 2; omega
        · rw [fnd_some (by decide)]
          exact ⟨by simp [atI, M1], fun j hj => absurd hj (Nat.not_lt_zero _)⟩
      · by_cases hy1 : y = [13]
        · subst hy1
          have he : isEnd (ln1 ([13] ++ 10 :: r')) = true := by rw [h1]; decide
          have hb : blk ([13] ++ 10 :: r') = [[13, 10]] := by rw [blk_end he, h1]; rfl
          rw [hb]
          refine ⟨fun h => absurd h (by decide), fun _ => ⟨fun i hi => ?_, fun i _ => ?_, .inr ⟨0, ?_, rfl⟩⟩⟩
          · show 2 ≤ i + 1
            rcases i with _ | i
            · have := ((fnd_some (by decide)).mp hi).1
              simp [atI, M1] at this
            · omega
          · show 2 ≤ i + 2; omega
          · rw [fnd_some (by decide)]
            exact ⟨by simp [atI, M2], fun j hj => absurd hj (Nat.not_lt_zero _)⟩
        · have he : isEnd (ln1 (y ++ 10 :: r')) = false := by
            rw [h1]
            unfold isEnd
            rw [Bool.eq_false_iff]
            intro hh
            simp only [Bool.or_eq_true, beq_iff_eq] at hh
            rcases hh with (hh | hh) | hh
            · have : y ++ [10] = [13] ++ [10] := hh.symm
              exact hy1 (List.append_cancel_right this)
            · have : y ++ [10] = [] ++ [10] := hh.symm
              exact hy0 (List.append_cancel_right this)
            · simp at hh
          obtain ⟨a1, a2⟩ := at0 y r' hy hy0 hy1
          have s1 : fnd? (10 :: (y ++ 10 :: r')) M1 0 = (fnd? (10 :: r') M1 0).map (· + (y.length + 1)) := fnd_shift y r' hy [10] a1
          have s2 : fnd? (10 :: (y ++ 10 :: r')) M2 0 = (fnd? (10 :: r') M2 0).map (· + (y.length + 1)) := fnd_shift y r' hy [13, 10] a2
          obtain ⟨i1, i2⟩ := ih r' (by simp at hn; omega)
          have hbl : blk r' ≠ [] := by obtain ⟨q, hq⟩ := blk_head r'; rw [hq]; simp
          have hb : blk (y ++ 10 :: r') = (y ++ [10]) :: blk r' := by rw [blk_more he, h2, h1]
          have hg : (blk (y ++ 10 :: r')).getLast? = (blk r').getLast? := by
            rw [hb, List.getLast?_cons]
            cases hq : (blk r').getLast? with
            | none => rw [List.getLast?_eq_none_iff] at hq; exact absurd hq hbl
            | some z => rfl
          have hE : (blk (y ++ 10 :: r')).flatten.length = y.length + 1 + (blk r').flatten.length := by rw [hb]; simp; omega
          rw [hg]
          refine ⟨fun h => ?_, fun h => ?_⟩
          · rw [s1, s2, (i1 h).1, (i1 h).2]; exact ⟨rfl, rfl⟩
          · obtain ⟨e1, e2, e3⟩ := i2 h
            unfold EndsAt
            rw [s1, s2, hE]
            refine ⟨fun i hi => ?_, fun i hi => ?_, ?_⟩
            · obtain ⟨j, hj, rfl⟩ := Option.map_eq_some_iff.mp hi
              have := e1 j hj; omega
            · obtain ⟨j, hj, rfl⟩ := Option.map_eq_some_iff.mp hi
              have := e2 j hj; omega
            · rcases e3 with ⟨j, hj, h3⟩ | ⟨j, hj, h3⟩
              · exact .inl ⟨_, Option.map_eq_some_iff.mpr ⟨j, hj, rfl⟩, by omega⟩
              · exact .inr ⟨_, Option.map_eq_some_iff.mpr ⟨j, hj, rfl⟩, by omega⟩
end Mine

end

section
open PySem PySem.W PyProof.Rows PySem.Calls
namespace Mine
/-- the ends that the law finds -/
def endsL (r : List UInt8) : List Int := ((fnd? (10 :: r) M1 0).toList.map fun (i : Nat) => (i : Int) + 1) ++ ((fnd? (10 :: r) M2 0).toList.map fun (i : Nat) => (i : Int) + 2)
theorem due_none {r : List UInt8} (h : endsL r = []) : (spl r).dropLast.map (· ++ [10]) ++ ((spl r).getLast?.toList.filter (· ≠ [])) ++ [[]] = blk r := by
  obtain ⟨_, h2⟩ := ends_blk r.length r (Nat.le_refl _)
  have hl : (blk r).getLast? = some [] := by
    by_cases hq : (blk r).getLast? = some []
    · exact hq
    · obtain ⟨_, _, h3⟩ := h2 hq
      exfalso
      unfold endsL at h
      rcases h3 with ⟨i, hi, _⟩ | ⟨i, hi, _⟩
      · rw [hi] at h; simp at h
      · rw [hi] at h; simp at h
  exact (blk_rowsE r.length r (Nat.le_refl _) hl).symm
theorem due_some {r : List UInt8} {m : Int} (hm : m ∈ endsL r) (hmin : ∀ a, a ∈ endsL r → m ≤ a) : 0 ≤ m ∧ (spl (r.take m.toNat)).dropLast.map (· ++ [10]) = blk r := by
  obtain ⟨h1, h2⟩ := ends_blk r.length r (Nat.le_refl _)
  have hl : (blk r).getLast? ≠ some [] := by
    intro hq
    obtain ⟨a, b⟩ := h1 hq
    unfold endsL at hm
    rw [a, b] at hm
    simp at hm
  obtain ⟨e1, e2, e3⟩ := h2 hl
  have hE : m = ((blk r).flatten.length : Int) := by
    have hge : ((blk r).flatten.length : Int) ≤ m := by
      unfold endsL at hm
      rcases List.mem_append.mp hm with hm | hm
      · obtain ⟨i, hi, rfl⟩ := List.mem_map.mp hm
        have := e1 i (by simpa using hi); omega
      · obtain ⟨i, hi, rfl⟩ := List.mem_map.mp hm
        have := e2 i (by simpa using hi); omega
    have hle : m ≤ ((blk r).flatten.length : Int) := by
      rcases e3 with ⟨i, hi, h3⟩ | ⟨i, hi, h3⟩
      · have := hmin ((i : Int) + 1) (by unfold endsL; rw [hi]; simp)
        omega
      · have := hmin ((i : Int) + 2) (by unfold endsL; rw [hi]; simp)
        omega
    omega
  refine ⟨by omega, ?_⟩
  have e : r.take m.toNat = (blk r).flatten := by
    rw [hE, Int.toNat_natCast]
    exact (blk_pre r.length r (Nat.le_refl _)).symm
  rw [e]
  exact (blk_rows r.length r (Nat.le_refl _) hl).1
end Mine

end

section
open PySem PySem.W PyProof.Rows PySem.Calls
set_option maxRecDepth 100000
namespace Mine
theorem BAre.getV {xs : List Value} {ls : List (List UInt8)} (h : BAre xs ls) {i : Nat} {v : Value} (hv : xs[i]? = some v) : ∃ l t, ls[i]? = some l ∧ v = .bytes l.toArray t := by
  induction h generalizing i with
  | nil => simp at hv
  | cons l t _ ih =>
    cases i with
    | zero => simp at hv; exact ⟨l, t, by simp, hv.symm⟩
    | succ i => simpa using ih (by simpa using hv)
section
variable {prog : Program} {w : World} {M : Model} {A : Around} {E : Value → Shared → Prop} {s : Shared} {h₀ : Heap} {L : Addr} {s₁ : Shared} {vs : List (Str × Value)} {news : List (Addr × Obj)} {env : Env} {pos : Pos}
theorem o_neg {i : Int} {t : Tok} {Q : Value → Shared → Prop} (S : St h₀ L s₁ vs news s) (h : ∀ t s', St h₀ L s₁ vs news s' → Q (.int (-i) t) s') : wpAny (model prog w) A (unaryOp .USub (.int i t)) Q E s :=
  PyProof.Rows.neg_int (h _ _ (S.tok _))
theorem s_lbut {value slice : Expr} {l : Addr} {xs : List Value} {u : Tok} {Q : Value → Shared → Prop} (S : St h₀ L s₁ vs news s) (hl : s.heap.IsList l xs.toArray) (hz : xs.length ≤ 1000000)
    (h : ∀ D s', (∀ p ∈ news, p.1 < D) → St h₀ L s₁ vs ((D, listOf xs.dropLast.toArray 0) :: news) s' → Q (.ref D) s')
    (hs : subscripted slice false (.ref l) (.ref s.heap.objs.size) = operate [.ref s.heap.objs.size, .ref l] (getItem (.ref l) (.ref s.heap.objs.size)) := by with_unfolding_all rfl)
    (ht : ∀ r, letTemporaryGo value (.ref l) r = pure () := by intro _; with_unfolding_all rfl) :
    wpAny (model prog w) A (subscriptTail value slice (.ref l) (.ref s.heap.objs.size)) Q E { s with heap := s.heap.push { cls := .type "slice", data := .fields #[.none, .int (-1) u, .none] } } := by
  obtain ⟨m, F, hm⟩ := S.fr
  have e : slicePick xs.toArray none (some (-1)) none = xs.dropLast.toArray := by
    have := slicePick_butLast xs.toArray 1 (Nat.le_refl _)
    rw [List.dropLast_eq_take]
    simpa using this
  refine slice_list F S.nw hl .none (.int _ _) (fun h' F' N' => ?_) hs ht (by rw [sizeLine_eq]; simp; omega)
  rw [e] at N'
  exact h _ _ (fun p hp => Nat.lt_succ_of_lt (S.lt p hp)) (S.of (k := s.toks) F' hm N')
theorem s_llast {value slice : Expr} {l : Addr} {xs : List Value} {u : Tok} {Q : Value → Shared → Prop} (S : St h₀ L s₁ vs news s) (hl : s.heap.IsList l xs.toArray) (hz : xs.length ≤ 1000000)
    (h : ∀ D s', (∀ p ∈ news, p.1 < D) → St h₀ L s₁ vs ((D, listOf (xs.drop (xs.length - 1)).toArray 0) :: news) s' → Q (.ref D) s')
    (hs : subscripted slice false (.ref l) (.ref s.heap.objs.size) = operate [.ref s.heap.objs.size, .ref l] (getItem (.ref l) (.ref s.heap.objs.size)) := by with_unfolding_all rfl)
    (ht : ∀ r, letTemporaryGo value (.ref l) r = pure () := by intro _; with_unfolding_all rfl) :
    wpAny (model prog w) A (subscriptTail value slice (.ref l) (.ref s.heap.objs.size)) Q E { s with heap := s.heap.push { cls := .type "slice", data := .fields #[.int (-1) u, .none, .none] } } := by
  obtain ⟨m, F, hm⟩ := S.fr
  have e : slicePick xs.toArray (some (-1)) none none = (xs.drop (xs.length - 1)).toArray := by
    have := slicePick_last xs.toArray 1 (Nat.le_refl _)
    simpa using this
  refine slice_list F S.nw hl (.int _ _) .none (fun h' F' N' => ?_) hs ht (by rw [sizeLine_eq]; simp; omega)
  rw [e] at N'
  exact h _ _ (fun p hp => Nat.lt_succ_of_lt (S.lt p hp)) (S.of (k := s.toks) F' hm N')
/-- a list against the empty one -/
theorem o_ne_nil {l b : Addr} {xs : List Value} {Q : Value → Shared → Prop} (hu : A.units < cLine) (hl : s.heap.IsList l xs.toArray) (hb : s.heap.IsList b ([] : List Value).toArray) (h : Q (.bool (!xs.isEmpty)) s) :
    wpAny (model prog w) A (compareOp .NotEq (.ref l) (.ref b)) Q E s := by
  cases xs with
  | nil => exact SeqAt.RcNeAt.lists (e := fun _ => true) hl hb rfl hu (fun j h1 _ => absurd h1 (by simp)) prog w E Q (by simpa using h)
  | cons x r => exact SeqAt.RcNeAt.lists_lengths hl hb (by simp) hu prog w E Q (by simpa using h)
theorem o_eq_nil {l b : Addr} {xs : List Value} {Q : Value → Shared → Prop} (hu : A.units < cLine) (hl : s.heap.IsList l xs.toArray) (hb : s.heap.IsList b ([] : List Value).toArray) (h : Q (.bool xs.isEmpty) s) :
    wpAny (model prog w) A (compareOp .Eq (.ref l) (.ref b)) Q E s := by
  cases xs with
  | nil => exact SeqAt.eq_listAt (e := fun _ => true) hl hb rfl hu (fun j h1 _ => absurd h1 (by simp)) (by simpa using h)
  | cons x r => exact SeqAt.eq_list_lengthsAt hl hb (by simp) hu (by simpa using h)
theorem all_yes (n : Nat) : ((List.range n).all fun _ => true) = true := by rw [List.all_eq_true]; exact fun _ _ => rfl
/-- two lists of the same octet strings: != -/
theorem o_ne_bys {l b : Addr} {xs ys : List Value} {ls : List (List UInt8)} {Q : Value → Shared → Prop} (hu : A.units < cLine) (hl : s.heap.IsList l xs.toArray) (hb : s.heap.IsList b ys.toArray) (hx : BAre xs ls) (hy : BAre ys ls) (h : Q (.bool false) s) :
    wpAny (model prog w) A (compareOp .NotEq (.ref l) (.ref b)) Q E s := by
  have e1 := hx.len
  have e2 := hy.len
  refine SeqAt.RcNeAt.lists (e := fun _ => true) hl hb (by simp; omega) hu (fun j h1 h2 => ?_) prog w E Q (by rw [all_yes]; exact h)
  have h1' : j < xs.length := by simpa using h1
  have h2' : j < ys.length := by simpa using h2
  obtain ⟨a, t, ha, hxa⟩ := hx.getV (List.getElem?_eq_getElem h1')
  obtain ⟨a', t', ha', hya⟩ := hy.getV (List.getElem?_eq_getElem h2')
  rw [ha] at ha'
  obtain rfl := Option.some.inj ha'
  have q1 : xs.toArray[j] = .bytes a.toArray t := by simpa using hxa
  have q2 : ys.toArray[j] = .bytes a.toArray t' := by simpa using hya
  rw [q1, q2]
  have := eq_byt A.in1 s a a t t'
  rwa [beq_self_eq_true] at this
/-- two lists of one int, as long as each other: == -/
theorem o_eq_reps {l b : Addr} {xs ys : List Value} {k : Int} {Q : Value → Shared → Prop} (hu : A.units < cLine) (hl : s.heap.IsList l xs.toArray) (hb : s.heap.IsList b ys.toArray) (hx : ∀ v ∈ xs, ∃ t, v = .int k t) (hy : ∀ v ∈ ys, ∃ t, v = .int k t) (hlen : xs.length = ys.length) (h : Q (.bool true) s) :
    wpAny (model prog w) A (compareOp .Eq (.ref l) (.ref b)) Q E s := by
  refine SeqAt.eq_listAt (e := fun _ => true) hl hb (by simpa using hlen) hu (fun j h1 h2 => ?_) (by rw [all_yes]; exact h)
  have h1' : j < xs.length := by simpa using h1
  have h2' : j < ys.length := by simpa using h2
  obtain ⟨t, ht⟩ := hx _ (List.getElem_mem h1')
  obtain ⟨t', ht'⟩ := hy _ (List.getElem_mem h2')
  have q1 : xs.toArray[j] = .int k t := by simpa using ht
  have q2 : ys.toArray[j] = .int k t' := by simpa using ht'
  rw [q1, q2]
  have := SeqAt.EqAt.int_int (A := A.in1) (s := s) k t k t'
  rwa [beq_self_eq_true] at this
/-- two tuples of the same words -/
theorem o_ne_words {l m : Addr} {b : Str} {t u : Tok} {Q : Value → Shared → Prop} (hu : A.units < cLine) (hl : IsTup s.heap l [Value.str b t].toArray) (hm : IsTup s.heap m [Value.str b u].toArray)
    (h : Q (.bool false) s) : wpAny (model prog w) A (compareOp .NotEq (.ref l) (.ref m)) Q E s := by
  refine SeqAt.RcNeAt.tuples (e := fun _ => true) hl hm hu (fun j h1 h2 => ?_) prog w E Q (by simpa using h)
  have : j = 0 := by simpa using h1
  subst this
  have := SeqAt.EqAt.str_str (A := A.in1) (s := s) b t b u
  rwa [beq_self_eq_true] at this
theorem o_ne_strs {b : Str} {t u : Tok} {Q : Value → Shared → Prop} (h : Q (.bool false) s) : wpAny (model prog w) A (compareOp .NotEq (.str b t) (.str b u)) Q E s := by
  have := SeqAt.RcNeAt.str_str (A := A) (s := s) b t b u
  rw [beq_self_eq_true] at this
  exact this prog w E Q h
/-- [x] * n -/
theorem o_lmulB {l : Addr} {xs : List Value} {c : Nat} {n : Int} {u : Tok} {Q : Value → Shared → Prop} (S : St h₀ L s₁ vs news s) (hm : (l, listOf xs.toArray c) ∈ news) (h0 : 0 ≤ n) (hhi : n ≤ 1000000) (hone : xs.length = 1)
    (h : ∀ D s', St h₀ L s₁ vs ((D, listOf ((List.replicate n.toNat xs).flatten).toArray 0) :: news) s' → Q (.ref D) s') : wpAny (model prog w) A (binaryOp .Mult (.ref l) (.int n u)) Q E s := by
  obtain ⟨m, F, hm'⟩ := S.fr
  have ho := (S.nw _ hm).1
  refine wpAny_binaryOp_repeat_ref (T := "list") (U := "int") (by decide) ⟨_, ho, rfl⟩ (fun s' => typeIs_int s' n u) noFill_list_mul PySem.F.fills_int_mul PySem.F.slot_int_rmul repeat_list PySem.F.slot_int_index.lookup
    (call_meets PySem.F.slot_int_rmul (typeIs_int s n u) PySem.F.entry_int_rmul (PySem.F.args_int_rmul_2 _ _) (lm_int_rmul_list_any n u l xs.toArray c none #[])
      ⟨ho, rfl, ⟨_, ho, rfl⟩, call_meets PySem.F.slot_list_mul ⟨_, ho, rfl⟩ PySem.F.entry_list_mul (PySem.F.args_list_mul_2 _ _)
        (lm_list_mul_any l xs.toArray c none #[] n u (by simp [Builtin.List.listFitsIndex]; omega) (by simp [hone]; omega) (by simp [Builtin.List.listTooLong, sizeLine, hone]; omega))
        ⟨ho, ?_⟩⟩)
  have N' := News.push F S.nw { cls := Value.type "list", data := Data.seq (List.foldl (fun x1 x2 => x1 ++ x2) #[] (List.replicate (if xs.toArray.isEmpty = true then 0 else n.toNat) xs.toArray)) }
  rw [listMul_foldl_if] at N'
  rw [listMul_foldl_if]
  exact h _ _ (S.of (k := s.toks) (F.push _) hm' N')
theorem i_tup {T : Addr} {xs : List Value} {Q : Value → Shared → Prop} (hh : A.handled = none) (S : St h₀ L s₁ vs news s) (hT : (T, tupObj xs) ∈ news)
    (h : ∀ I s', St h₀ L s₁ vs news s' → (∀ x px, Ready prog w A (.Name x px) h₀ L news xs.length (fun i v _ => xs[i]? = some v) I s') → Q (.ref I) s') :
    wpAny (model prog w) A (pyIter (.ref T)) Q E s := by
  have ht : s.heap.IsTuple T xs.toArray := S.tup hT
  have hlt := ltN (S.lt _ hT)
  have hne : T ≠ s.heap.objs.size := Nat.ne_of_lt (S.lt _ hT)
  have hLT : L ≠ T := fun e => (S.nw _ hT).2.1 e.symm
  refine wpAny_pyIter_tuple ht ?_
  have Sp := S.push { cls := .type "tuple_iterator", data := .fields #[.ref T, .int 0 0] }
  obtain ⟨g1, g2, g3⟩ := S.new_ge (Nat.le_refl _)
  have W := Walks.tuple (prog := prog) (w := w) hh s.heap.objs.size T hne xs.toArray
  refine h _ _ (Sp.weak (fun _ h => h) (fun p hp => .tail _ hp)) fun x px => ⟨_, _, _, (Its.ofName W).map (by simp) (fun i v h hp => by simpa using hp), ?_, ?_, ?_, ?_, ?_, ⟨⟨_, Heap.get?_push_size _ rfl, rfl, rfl⟩, ht.at fun o e => Heap.get?_push_of_some _ e⟩⟩
  · intro b hb
    show b < (s.heap.push _).objs.size
    rw [Heap.size_push]
    rcases List.mem_cons.mp hb with rfl | hb
    · exact Nat.lt_succ_self _
    · rw [List.mem_singleton.mp hb]; exact Nat.lt_succ_of_lt hlt
  · intro hb
    rcases List.mem_cons.mp hb with e | hb
    · exact g2 e
    · exact hLT (List.mem_singleton.mp hb)
  · simpa using g2
  · intro b hb; rw [List.mem_singleton.mp hb]; exact g1
  · intro p hp; simpa using g3 p hp
end
section
variable {prog : Program} {w : World} {A : Around} {E : Value → Shared → Prop} {s : Shared} {h₀ : Heap} {s₁ : Shared} {vs : List (Str × Value)} {news : List (Addr × Obj)} {env : Env} {x : Str} {px : Pos} {body : List Stmt} {Q : Flow → Shared → Prop}
/-- for x in range(..): in any frame -/
theorem loop_rangeE {r : Addr} {a₀ b₀ c₀ : Int} {t₀ u₀ v₀ : Tok} {n : Nat} (hh : A.handled = none) (hr : IsRange s.heap r a₀ b₀ c₀ t₀ u₀ v₀) (hsmall : Builtin.Range.small a₀ b₀ c₀ = true) (hn : Builtin.Range.rangeSize a₀ b₀ c₀ = (n : Int))
    (S : St h₀ env.locals s₁ vs news s) (J : Nat → List (Str × Value) → List (Addr × Obj) → Prop) (h0 : J 0 vs news)
    (turn : ∀ i t vs₁ news₁ s' own, i < n → J i vs₁ news₁ → news₁.map (·.1) = news.map (·.1) → (∀ p ∈ own, ∀ q ∈ news, p.1 ≠ q.1) → St h₀ env.locals s₁ (upd x (.int (a₀ + i * c₀) t) vs₁) (news₁ ++ own) s' →
      wpAny (model prog w) A (execs body env) (TurnEnd h₀ env.locals s₁ (J (i + 1)) (news.map (·.1)) own Q) E s')
    (done : ∀ vs₁ news₁ s', J n vs₁ news₁ → news₁.map (·.1) = news.map (·.1) → St h₀ env.locals s₁ vs₁ news₁ s' → Q .next s')
    (hE : PassesOwn (model prog w) A env E) (hk : env.scope.kind = .function := by rfl) (hl : env.kindOf x = some .local := by rfl) :
    wpAny (model prog w) A (pyIter (.ref r)) (fun it s₂ => codeAny (model prog w) A (.forLoop (.Name x px) it body [] env) (fun r s' => match r with | .ok f => Q f s' | .error e => cameBackBy (model prog w) A env E e s') s₂) E s := by
  refine wpAny_pyIter_range hr hsmall ?_
  have W : Walks prog w A s.heap.objs.size [s.heap.objs.size] [s.heap.objs.size] n (fun i v => ∃ t, v = .int (a₀ + i * c₀) t) (fun i h => IsRangeIter h s.heap.objs.size (a₀ + (i : Nat) * c₀) ((n : Int) - (i : Nat)) c₀) := Walks.range hh _ a₀ c₀ n
  have Sp := S.push { cls := .type "range_iterator", data := .fields #[rawInt a₀, rawInt (Builtin.Range.rangeSize a₀ b₀ c₀), rawInt c₀] }
  refine loop_St (env := env) W ?_ ?_ (fun p hp hI => ?_) (by show IsRangeIter _ _ _ _ _; rw [hn]; simpa using Heap.get?_push_size _ rfl) (Sp.weak (fun _ h => h) (fun p hp => .tail _ hp)) J h0 ?_ done hE
  · intro hm
    exact absurd S.Llt ((List.mem_singleton.mp hm) ▸ Nat.lt_irrefl _)
  · intro b hb
    rw [List.mem_singleton.mp hb]
    exact S.freshAt
  · exact absurd (S.lt p hp) ((List.mem_singleton.mp hI) ▸ Nat.lt_irrefl _)
  · rintro i v vs₁ news₁ s' own hi ⟨t, rfl⟩ hJ ha hown _ S'
    refine wpAny_pure (wpAny_assign_Name (e_stE S' (fun s₂ S₂ => ?_) hk hl))
    refine turn i t vs₁ news₁ s₂ own hi hJ ha (fun p hp q hq e => ?_) S₂
    have h1 := List.mem_singleton.mp (hown p hp)
    exact absurd (S.lt q hq) (by rw [← e, h1]; exact Nat.lt_irrefl _)
end
end Mine

end

section
open PySem PySem.W PyProof.Rows PySem.Calls
set_option maxRecDepth 100000
namespace Mine
local macro_rules | `(tactic| ktr_rel) => `(tactic| first | assumption | with_reducible exact mem_upd | ((with_reducible refine' mem_upd_ne ?h9 ?m9); (case h9 => decide); (case m9 => ktr_rel)) | ((with_reducible refine' mem_del ?h9 ?m9); (case h9 => decide); (case m9 => ktr_rel)) | exact List.Mem.head _ | exact List.Mem.tail _ (by ktr_rel))
def lawFor : Stmt := match fBody lawDef with
  | _ :: _ :: _ :: _ :: _ :: d :: _ => d
  | _ => noSt
def lawScope : Scope := fScope lawDef
def lawT (i : Nat) : Stmt := (forBody lawFor).getD i noSt
section
variable {prog : Program} {w : World} {A : Around} {E : Value → Shared → Prop} {s : Shared} {h₀ : Heap} {L : Addr} {s₁ : Shared} {vs : List (Str × Value)} {news : List (Addr × Obj)} {mg mb : Str → Option Value} {a : Addr} {cd : Value} {nm : Str}
/-- here = place[0] -/
theorem t_here {p : Nat} {tp : Tok} {PL : Addr} {c1 : Nat} {Q : Flow → Shared → Prop} (S : St h₀ L s₁ vs news s) (hv : (("place" : Str), Value.ref PL) ∈ vs) (hP : (PL, listOf [Value.int (p : Nat) tp].toArray c1) ∈ news)
    (hQ : ∀ s', St h₀ L s₁ (upd "here" (.int (p : Nat) tp) vs) news s' → Q .next s') :
    wpAny (model prog w) A (exec (lawT 0) (envOfC nm lawScope L a cd)) Q E s := by
  dsimp only [lawT, List.getD, forBody, lawFor, fBody, lawDef, PySem.Challenge.pw_dv0018_04, List.getElem?_cons_zero, List.getElem?_cons_succ, Option.getD_some]
  refine wpAny_Assign_Name ?_
  refine Subscript_ ?_
  refine e_locE (env := envOfC nm lawScope L a cd) S (by ktr_rel) ?_
  refine e_int S ?_
  intro t1 s1 S1
  refine s_litem (S1.lst hP) (by decide) (by decide) rfl ?_
  exact e_stE (env := envOfC nm lawScope L a cd) S1 hQ
/-- rest = octets[here:] -/
theorem t_rest {p : Nat} {tp tl : Tok} {l : List UInt8} {o : Obj} {v₀ : Option Value} {Q : Flow → Shared → Prop} (S : St h₀ L s₁ vs ((L + 1, o) :: news) s) (hn : ∀ q ∈ news, q.1 ≠ L + 1) (ho : o.data = .cell v₀) (hl : l.length ≤ 1300)
    (h1 : (("here" : Str), Value.int (p : Nat) tp) ∈ vs) (h2 : (("octets" : Str), Value.bytes l.toArray tl) ∈ vs)
    (hQ : ∀ s' o' t, o'.data = .cell (some (.bytes (l.drop p).toArray t)) → St h₀ L s₁ vs ((L + 1, o') :: news) s' → Q .next s') :
    wpAny (model prog w) A (exec (lawT 1) (envOfC nm lawScope L a cd)) Q E s := by
  dsimp only [lawT, List.getD, forBody, lawFor, fBody, lawDef, PySem.Challenge.pw_dv0018_04, List.getElem?_cons_zero, List.getElem?_cons_succ, Option.getD_some]
  refine wpAny_Assign_Name ?_
  refine Subscript_ ?_
  refine e_locE (env := envOfC nm lawScope L a cd) S (by ktr_rel) ?_
  refine wpAny_Slice ?_
  refine evalPart_some_step ?_
  refine e_locE (env := envOfC nm lawScope L a cd) S (by ktr_rel) ?_
  refine evalPart_none_step ?_
  refine evalPart_none_step ?_
  refine s_cut S (.int _ _) .none (by omega) ?_
  intro t1 s1 S1
  rw [pick_lo _ (by omega), Int.toNat_natCast]
  refine e_stC S1 hn rfl ho ?_
  intro s2 o2 ho2 S2
  exact hQ s2 o2 t1 ho2 S2
set_option maxHeartbeats 4000000 in
/-- ends = [..] -/
theorem t_ends {r : List UInt8} {tr : Tok} {o : Obj} {Q : Flow → Shared → Prop} (G : Glo mg mb h₀) (BL : Blts mg mb) (hh : A.handled = none) (hh1 : A.in1.handled = none) (S : St h₀ L s₁ vs news s) (hc : (L + 1, o) ∈ news) (ho : o.data = .cell (some (.bytes r.toArray tr))) (hl : r.length ≤ 1300)
    (hQ : ∀ D zs c s', (∀ q ∈ news, q.1 ≠ D) → IntsAre zs (endsL r) → St h₀ L s₁ (upd "ends" (.ref D) vs) ((D, listOf zs.toArray c) :: news) s' → Q .next s') :
    wpAny (model prog w) A (exec (lawT 2) (envOfC nm lawScope L a cd)) Q E s := by
  dsimp only [lawT, List.getD, forBody, lawFor, fBody, lawDef, PySem.Challenge.pw_dv0018_04, List.getElem?_cons_zero, List.getElem?_cons_succ, Option.getD_some]
  refine x_lc (cl := [(("rest" : Str), L + 1)]) ?_
  refine Tuple_ ?_
  refine spliced_more ?_
  refine e_byt S ?_
  intro t1 s1 S1
  refine spliced_more ?_
  refine e_byt S1 ?_
  intro t2 s2 S2
  refine spliced_none ?_
  refine e_tup S2 (by simp) ?_
  intro T s3 S3 hT
  refine i_tup hh S3 (.head _) ?_
  intro I s4 S4 R4
  refine lc_us (env := envOfC nm lawScope L a cd) (R4 _ _) S4 (by simp) (fun i zs => IntsAre zs (([M1, M2].take i).flatMap fun m => (fnd? (10 :: r) m 0).toList.map fun (j : Nat) => (j : Int) + (m.length : Nat) - 1)) .nil ?_ ?_
  · intro C D2 oL i v ys c s5 own hoL hCa hCn hLC hDL hDC hown hi hv hJ hyl S5
    have hB : BAre [Value.bytes ([10, 10] : List UInt8).toArray t1, Value.bytes ([10, 13, 10] : List UInt8).toArray t2] [M1, M2] := .cons M1 t1 (.cons M2 t2 .nil)
    obtain ⟨m, t, hm, rfl⟩ := hB.getV hv
    have hml : m.length ≤ 3 := by
      have : ∀ q ∈ [M1, M2], q.length ≤ 3 := by decide
      exact this m (List.mem_of_getElem? hm)
    refine wpAny_assign_Name ?_
    refine e_stE (env := compEnvC _ _ C (envOfC nm lawScope L a cd)) S5 ?_
    intro s6 S6
    refine wpAny_tests_one ?_
    refine wpAny_isTrue_Compare1 ?_
    refine e_locE (env := compEnvC _ _ C (envOfC nm lawScope L a cd)) S6 (by ktr_rel) ?_
    refine wpAny_BinOp ?_
    refine e_byt S6 ?_
    intro t7 s7 S7
    have hc' : (L + 1, o) ∈ (D2, listOf ys.toArray c) :: (((envOfC nm lawScope L a cd).locals, oL) :: (T, tupObj [Value.bytes ([10, 10] : List UInt8).toArray t1, Value.bytes ([10, 13, 10] : List UInt8).toArray t2]) :: news ++ own) :=
      .tail _ (List.mem_append_left _ (.tail _ (.tail _ hc)))
    refine e_cellE S7 hc' ho ?_ rfl
    refine o_cat S7 (by simp; omega) ?_
    intro t8 s8 S8
    rw [List.append_toArray]
    refine o_inb hh1 S8 ?_
    intro s9 S9
    refine wpAny_truthy_bool ?_
    have htk : [M1, M2].take (i + 1) = [M1, M2].take i ++ [m] := by rw [List.take_add_one, hm]; rfl
    cases hf : fnd? (10 :: r) m 0 with
    | none =>
      have hf' : fnd? ([10] ++ r) m 0 = none := hf
      rw [hf']
      rw [if_neg (by decide)]
      refine ⟨?_, oL, hoL, S9.weak (by simp) (fun _ h => h)⟩
      rw [htk, List.flatMap_append, List.flatMap_singleton, hf]
      simpa using hJ
    | some j =>
      have hf' : fnd? ([10] ++ r) m 0 = some j := hf
      rw [hf']
      rw [if_pos (by rfl)]
      refine wpAny_BinOp ?_
      refine wpAny_BinOp ?_
      refine MethodCall_ ?_
      refine wpAny_BinOp ?_
      refine e_byt S9 ?_
      intro t10 s10 S10
      refine e_cellE S10 hc' ho ?_ rfl
      refine o_cat S10 (by simp; omega) ?_
      intro t11 s11 S11
      rw [List.append_toArray]
      refine m_find ?_
      refine callWith_method1 ?_
      refine spliced_more ?_
      refine e_locE (env := compEnvC _ _ C (envOfC nm lawScope L a cd)) S11 (by ktr_rel) ?_
      refine spliced_none ?_
      refine c_find2 S11 ?_
      intro t12 s12 S12
      rw [hf']
      refine Call_ ?_
      refine e_bltE S12 G BL.len ?_
      refine PyProof.Rows.callWith_builtin1 ?_
      refine spliced_more ?_
      refine e_locE (env := compEnvC _ _ C (envOfC nm lawScope L a cd)) S12 (by ktr_rel) ?_
      refine spliced_none ?_
      refine c_len S12 (by simp; omega) ?_
      intro t13 s13 S13
      refine o_add S13 ?_
      intro t14 s14 S14
      refine e_int S14 ?_
      intro t15 s15 S15
      refine o_sub S15 ?_
      intro t16 s16 S16
      refine ⟨?_, oL, hoL, S16.weak (by simp) (fun _ h => h)⟩
      rw [htk, List.flatMap_append, List.flatMap_singleton, hf]
      refine hJ.append ?_
      have e : (fndI (some j) + ((m.toArray.size : Nat) : Int) - 1) = (j : Int) + (m.length : Nat) - 1 := by simp [fndI]
      rw [e]
      exact .cons _ _ .nil
  · intro ys D c s5 hJ hyl hDn S5
    refine hQ D ys c s5 (fun q hq => hDn q (.tail _ hq)) ?_ (S5.weak (fun _ h => h) (fun q hq => ?_))
    · have e : (([M1, M2].take [Value.bytes ([10, 10] : List UInt8).toArray t1, Value.bytes ([10, 13, 10] : List UInt8).toArray t2].length).flatMap fun m => (fnd? (10 :: r) m 0).toList.map fun (j : Nat) => (j : Int) + (m.length : Nat) - 1) = endsL r := by
        unfold endsL
        show ([M1, M2].flatMap _) = _
        rw [List.flatMap_cons, List.flatMap_cons, List.flatMap_nil, List.append_nil]
        congr 1
        · congr 1; funext j; show (j : Int) + 2 - 1 = _; omega
        · congr 1; funext j; show (j : Int) + 3 - 1 = _; omega
      exact e ▸ hJ
    · rcases List.mem_cons.mp hq with rfl | hq
      · exact .head _
      · exact .tail _ (.tail _ hq)
end
end Mine

end

section
open PySem PySem.W PyProof.Rows PySem.Calls
set_option maxRecDepth 100000
namespace Mine
local macro_rules | `(tactic| ktr_rel) => `(tactic| first | assumption | with_reducible exact mem_upd | ((with_reducible refine' mem_upd_ne ?h9 ?m9); (case h9 => decide); (case m9 => ktr_rel)) | ((with_reducible refine' mem_del ?h9 ?m9); (case h9 => decide); (case m9 => ktr_rel)) | exact List.Mem.head _ | exact List.Mem.tail _ (by ktr_rel))
theorem IntsAre.isE {xs : List Value} {ns : List Int} (h : IntsAre xs ns) : xs.isEmpty = ns.isEmpty := by
  have := h.length
  cases xs <;> cases ns <;> simp_all
section
variable {prog : Program} {w : World} {A : Around} {E : Value → Shared → Prop} {s : Shared} {h₀ : Heap} {L : Addr} {s₁ : Shared} {vs : List (Str × Value)} {news : List (Addr × Obj)} {mg mb : Str → Option Value} {a : Addr} {cd : Value} {nm : Str}
set_option maxHeartbeats 4000000 in
/-- block = .. -/
theorem t_block {r : List UInt8} {tr : Tok} {o : Obj} {D : Addr} {zs : List Value} {c : Nat} {Q : Flow → Shared → Prop} (G : Glo mg mb h₀) (BL : Blts mg mb) (hh : A.handled = none) (hu : A.units < cLine) (S : St h₀ L s₁ vs news s) (hc : (L + 1, o) ∈ news) (ho : o.data = .cell (some (.bytes r.toArray tr))) (hl : r.length ≤ 1300)
    (h1 : (("ends" : Str), Value.ref D) ∈ vs) (hD : (D, listOf zs.toArray c) ∈ news) (hI : IntsAre zs (endsL r))
    (hQ : ∀ (b : List UInt8) t s', b.length ≤ 1300 → (endsL r = [] ∧ b = r) ∨ (endsL r ≠ [] ∧ (spl b).dropLast.map (· ++ [10]) = blk r) → St h₀ L s₁ (upd "block" (.bytes b.toArray t) vs) news s' → Q .next s') :
    wpAny (model prog w) A (exec (lawT 3) (envOfC nm lawScope L a cd)) Q E s := by
  dsimp only [lawT, List.getD, forBody, lawFor, fBody, lawDef, PySem.Challenge.pw_dv0018_04, List.getElem?_cons_zero, List.getElem?_cons_succ, Option.getD_some]
  refine wpAny_Assign_Name ?_
  refine IfExp_ ?_
  refine wpAny_isTrue_Compare1 ?_
  refine e_locE (env := envOfC nm lawScope L a cd) S (by ktr_rel) ?_
  refine List_ ?_
  refine spliced_none ?_
  refine e_lst S (by simp) ?_
  intro D2 s1 S1 hD2
  refine o_ne_nil hu (S1.lst (.tail _ hD)) (S1.lst (.head _)) ?_
  refine wpAny_truthy_bool ?_
  rw [IntsAre.isE hI]
  by_cases he : endsL r = []
  · rw [if_neg (by rw [he]; decide)]
    refine e_cellE S1 (.tail _ hc) ho ?_ rfl
    refine e_stE (env := envOfC nm lawScope L a cd) S1 ?_
    intro s2 S2
    exact hQ r tr s2 hl (.inl ⟨he, rfl⟩) (S2.weak (fun _ h => h) (fun _ h => .tail _ h))
  · rw [if_pos (by simpa using he)]
    refine Subscript_ ?_
    refine e_cellE S1 (.tail _ hc) ho ?_ rfl
    refine wpAny_Slice ?_
    refine evalPart_none_step ?_
    refine evalPart_some_step ?_
    refine Call_ ?_
    refine e_bltE S1 G BL.min ?_
    refine PyProof.Rows.callWith_builtin1 ?_
    refine spliced_more ?_
    refine e_locE (env := envOfC nm lawScope L a cd) S1 (by ktr_rel) ?_
    refine spliced_none ?_
    refine c_min hh S1 (S1.lst (.tail _ hD)) hI (List.length_pos_iff.mpr he) ?_
    intro m t2 s2 hm hmin S2
    obtain ⟨hm0, hm1⟩ := due_some hm hmin
    refine evalPart_none_step ?_
    refine s_cut S2 .none (.int _ _) (by omega) ?_
    intro t3 s3 S3
    rw [pick_hi _ hm0]
    refine e_stE (env := envOfC nm lawScope L a cd) S3 ?_
    intro s4 S4
    exact hQ (r.take m.toNat) t3 s4 (by rw [List.length_take]; omega) (.inr ⟨he, hm1⟩) (S4.weak (fun _ h => h) (fun _ h => .tail _ h))
/-- rows = block.split(..) -/
theorem t_rows {b : List UInt8} {tb : Tok} {Q : Flow → Shared → Prop} (S : St h₀ L s₁ vs news s) (hl : b.length ≤ 1300) (h1 : (("block" : Str), Value.bytes b.toArray tb) ∈ vs)
    (hQ : ∀ D zs s', (∀ q ∈ news, q.1 ≠ D) → BAre zs (spl b) → St h₀ L s₁ (upd "rows" (.ref D) vs) ((D, listOf zs.toArray 0) :: news) s' → Q .next s') :
    wpAny (model prog w) A (exec (lawT 4) (envOfC nm lawScope L a cd)) Q E s := by
  dsimp only [lawT, List.getD, forBody, lawFor, fBody, lawDef, PySem.Challenge.pw_dv0018_04, List.getElem?_cons_zero, List.getElem?_cons_succ, Option.getD_some]
  refine wpAny_Assign_Name ?_
  refine MethodCall_ ?_
  refine e_locE (env := envOfC nm lawScope L a cd) S (by ktr_rel) ?_
  refine m_split ?_
  refine callWith_method1 ?_
  refine spliced_more ?_
  refine e_byt S ?_
  intro t1 s1 S1
  refine spliced_none ?_
  refine c_splitP S1 (by omega) ?_
  intro D zs s2 hB hlt S2
  refine e_stE (env := envOfC nm lawScope L a cd) S2 ?_
  intro s3 S3
  exact hQ D zs s3 (fun q hq => neN (Nat.ne_of_lt (ltN (hlt q hq)))) hB S3
end
end Mine

end

section
open PySem PySem.W PyProof.Rows PySem.Calls
set_option maxRecDepth 100000
namespace Mine
local macro_rules | `(tactic| ktr_rel) => `(tactic| first | assumption | with_reducible exact mem_upd | ((with_reducible refine' mem_upd_ne ?h9 ?m9); (case h9 => decide); (case m9 => ktr_rel)) | ((with_reducible refine' mem_del ?h9 ?m9); (case h9 => decide); (case m9 => ktr_rel)) | exact List.Mem.head _ | exact List.Mem.tail _ (by ktr_rel))
theorem spl_small (l : List UInt8) : (∀ q ∈ spl l, q.length ≤ l.length) ∧ (spl l).length ≤ l.length + 1 := by
  have h := betw_spl l l.length 0 (by omega)
  rw [List.drop_zero, ← occs_eq] at h
  obtain ⟨h1, h2⟩ := betw_small l (occs l) 0
  rw [h] at h1 h2
  have hoc : (occs l).length ≤ l.length := by
    rw [occs_eq]
    refine Nat.le_trans (List.length_filter_le _ _) ?_
    simp
  exact ⟨h1, by omega⟩
theorem BAre.butL {vs : List Value} {ls : List (List UInt8)} (h : BAre vs ls) : BAre vs.dropLast ls.dropLast := by
  rw [List.dropLast_eq_take, List.dropLast_eq_take, h.len]
  exact h.take _
theorem BAre.lastL {vs : List Value} {ls : List (List UInt8)} (h : BAre vs ls) : BAre (vs.drop (vs.length - 1)) ls.getLast?.toList := by
  have e : ls.getLast?.toList = ls.drop (ls.length - 1) := by
    cases hl : ls.getLast? with
    | none => rw [List.getLast?_eq_none_iff] at hl; subst hl; rfl
    | some x =>
      obtain ⟨ys, rfl⟩ := List.getLast?_eq_some_iff.mp hl
      simp
  rw [e, h.len]
  exact h.drop _
section
variable {prog : Program} {w : World} {A : Around} {E : Value → Shared → Prop} {s : Shared} {h₀ : Heap} {L : Addr} {s₁ : Shared} {vs : List (Str × Value)} {news : List (Addr × Obj)} {mg mb : Str → Option Value} {a : Addr} {cd : Value} {nm : Str}
set_option maxHeartbeats 4000000 in
/-- due = [row + b'\n' for row in rows[:-1]] -/
theorem t_due {b : List UInt8} {D : Addr} {zs : List Value} {c : Nat} {Q : Flow → Shared → Prop} (hh : A.handled = none) (S : St h₀ L s₁ vs news s) (hl : b.length ≤ 1300) (h1 : (("rows" : Str), Value.ref D) ∈ vs) (hD : (D, listOf zs.toArray c) ∈ news) (hB : BAre zs (spl b))
    (hQ : ∀ D ys c s', (∀ q ∈ news, q.1 ≠ D) → BAre ys ((spl b).dropLast.map (· ++ [10])) → St h₀ L s₁ (upd "due" (.ref D) vs) ((D, listOf ys.toArray c) :: news) s' → Q .next s') :
    wpAny (model prog w) A (exec (lawT 5) (envOfC nm lawScope L a cd)) Q E s := by
  obtain ⟨hs1, hs2⟩ := spl_small b
  have hzl := hB.len
  dsimp only [lawT, List.getD, forBody, lawFor, fBody, lawDef, PySem.Challenge.pw_dv0018_04, List.getElem?_cons_zero, List.getElem?_cons_succ, Option.getD_some]
  refine x_lc (cl := []) ?_
  refine Subscript_ ?_
  refine e_locE (env := envOfC nm lawScope L a cd) S (by ktr_rel) ?_
  refine wpAny_Slice ?_
  refine evalPart_none_step ?_
  refine evalPart_some_step ?_
  refine UnaryOp_ ?_
  refine e_int S ?_
  intro t1 s1 S1
  refine o_neg S1 ?_
  intro t2 s2 S2
  refine evalPart_none_step ?_
  refine s_lbut S2 (S2.lst hD) (by omega) ?_
  intro D2 s3 hD2 S3
  refine i_list hh S3 (S3.lst (.head _)) ?_
  intro I s4 S4 R4
  have hB2 := hB.butL
  have hB2l := hB2.len
  rw [List.length_dropLast] at hB2l
  refine lc_us (env := envOfC nm lawScope L a cd) (R4 _ _) S4 (by simp; omega) (fun i ys => BAre ys (((spl b).dropLast.take i).map (· ++ [10]))) .nil ?_ ?_
  · intro C D3 oL i v ys c s5 own hoL hCa hCn hLC hDL hDC hown hi hv hJ hyl S5
    obtain ⟨l, t, hlv, rfl⟩ := hB2.getV hv
    have hll : l.length ≤ 1300 := Nat.le_trans (hs1 l (List.dropLast_subset _ (List.mem_of_getElem? hlv))) hl
    refine wpAny_assign_Name ?_
    refine e_stE (env := compEnvC _ _ C (envOfC nm lawScope L a cd)) S5 ?_
    intro s6 S6
    refine wpAny_pure ?_
    rw [if_pos rfl]
    refine wpAny_BinOp ?_
    refine e_locE (env := compEnvC _ _ C (envOfC nm lawScope L a cd)) S6 (by ktr_rel) ?_
    refine e_byt S6 ?_
    intro t7 s7 S7
    refine o_cat S7 (by simp; omega) ?_
    intro t8 s8 S8
    rw [List.append_toArray]
    refine ⟨?_, oL, hoL, S8.weak (by simp) (fun _ h => h)⟩
    rw [List.take_add_one, hlv, List.map_append]
    exact hJ.app (.cons _ t8 .nil)
  · intro ys D3 c s5 hJ hyl hDn S5
    have htk : (spl b).dropLast.take zs.dropLast.length = (spl b).dropLast := List.take_of_length_le (by simp; omega)
    rw [htk] at hJ
    refine hQ D3 ys c s5 (fun q hq => hDn q (.tail _ hq)) hJ (S5.weak (fun _ h => h) (fun q hq => ?_))
    rcases List.mem_cons.mp hq with rfl | hq
    · exact .head _
    · exact .tail _ (.tail _ hq)
set_option maxHeartbeats 4000000 in
/-- if ends == []: due = due + .. -/
theorem t_more {r b : List UInt8} {D D1 D2 : Addr} {zs xs ys : List Value} {c c1 c2 : Nat} {Q : Flow → Shared → Prop} (hh : A.handled = none) (hu : A.units < cLine) (S : St h₀ L s₁ vs news s) (hl : b.length ≤ 1300)
    (hb : (endsL r = [] ∧ b = r) ∨ (endsL r ≠ [] ∧ (spl b).dropLast.map (· ++ [10]) = blk r))
    (h0 : (("ends" : Str), Value.ref D) ∈ vs) (hD : (D, listOf zs.toArray c) ∈ news) (hI : IntsAre zs (endsL r))
    (h1 : (("rows" : Str), Value.ref D1) ∈ vs) (hD1 : (D1, listOf xs.toArray c1) ∈ news) (hB1 : BAre xs (spl b))
    (h2 : (("due" : Str), Value.ref D2) ∈ vs) (hD2 : (D2, listOf ys.toArray c2) ∈ news) (hB2 : BAre ys ((spl b).dropLast.map (· ++ [10])))
    (hQ : ∀ D3 us c3 vs' own s', (∀ q ∈ vs, (q.1 == "due") = false → q ∈ vs') → (("due" : Str), Value.ref D3) ∈ vs' → BAre us (blk r) → (D3, listOf us.toArray c3) ∈ own ++ news → St h₀ L s₁ vs' (own ++ news) s' → Q .next s') :
    wpAny (model prog w) A (exec (lawT 6) (envOfC nm lawScope L a cd)) Q E s := by
  obtain ⟨hs1, hs2⟩ := spl_small b
  have hzl := hB1.len
  have hyl := hB2.len
  rw [List.length_map, List.length_dropLast] at hyl
  dsimp only [lawT, List.getD, forBody, lawFor, fBody, lawDef, PySem.Challenge.pw_dv0018_04, List.getElem?_cons_zero, List.getElem?_cons_succ, Option.getD_some]
  refine wpAny_If ?_
  refine wpAny_isTrue_Compare1 ?_
  refine e_locE (env := envOfC nm lawScope L a cd) S (by ktr_rel) ?_
  refine List_ ?_
  refine spliced_none ?_
  refine e_lst S (by simp) ?_
  intro N1 s1 S1 hN1
  refine o_eq_nil hu (S1.lst (.tail _ hD)) (S1.lst (.head _)) ?_
  refine wpAny_truthy_bool ?_
  rw [IntsAre.isE hI]
  rcases hb with ⟨he, rfl⟩ | ⟨he, hbl⟩
  · rw [if_pos (by rw [he]; rfl)]
    refine wpAny_execs_cons ?_
    refine wpAny_Assign_Name ?_
    refine wpAny_BinOp ?_
    refine wpAny_BinOp ?_
    refine e_locE (env := envOfC nm lawScope L a cd) S1 (by ktr_rel) ?_
    refine e_lc (cl := []) ?_
    refine Subscript_ ?_
    refine e_locE (env := envOfC nm lawScope L a cd) S1 (by ktr_rel) ?_
    refine wpAny_Slice ?_
    refine evalPart_some_step ?_
    refine UnaryOp_ ?_
    refine e_int S1 ?_
    intro t2 s2 S2
    refine o_neg S2 ?_
    intro t3 s3 S3
    refine evalPart_none_step ?_
    refine evalPart_none_step ?_
    refine s_llast S3 (S3.lst (.tail _ hD1)) (by omega) ?_
    intro N2 s4 hN2 S4
    refine i_list hh S4 (S4.lst (.head _)) ?_
    intro I s5 S5 R5
    have hB3 := hB1.lastL
    have hB3l := hB3.len
    refine lc_ev (env := envOfC nm lawScope L a cd) (R5 _ _) S5 (by simp; omega) (fun i us => BAre us (((spl b).getLast?.toList.take i).filter (· ≠ []))) .nil ?_ ?_
    · intro C D3 oL i v us c s6 own hoL hCa hCn hLC hDL hDC hown hi hv hJ hul S6
      obtain ⟨l, t, hlv, rfl⟩ := hB3.getV hv
      have htk : (spl b).getLast?.toList.take (i + 1) = (spl b).getLast?.toList.take i ++ [l] := by rw [List.take_add_one, hlv]; rfl
      refine wpAny_assign_Name ?_
      refine e_stE (env := compEnvC _ _ C (envOfC nm lawScope L a cd)) S6 ?_
      intro s7 S7
      refine wpAny_tests_one ?_
      refine wpAny_isTrue_Compare1 ?_
      refine e_locE (env := compEnvC _ _ C (envOfC nm lawScope L a cd)) S7 (by ktr_rel) ?_
      refine e_byt S7 ?_
      intro t8 s8 S8
      refine ne_bytes ?_
      refine wpAny_truthy_bool ?_
      by_cases hle : l = []
      · subst hle
        rw [if_neg (by simp)]
        refine ⟨?_, oL, hoL, S8.weak (by simp) (fun _ h => h)⟩
        rw [htk, List.filter_append]
        simpa using hJ
      · rw [if_pos (by simpa using hle)]
        refine e_locE (env := compEnvC _ _ C (envOfC nm lawScope L a cd)) S8 (by ktr_rel) ?_
        refine ⟨?_, oL, hoL, S8.weak (by simp) (fun _ h => h)⟩
        rw [htk, List.filter_append]
        have : [l].filter (· ≠ []) = [l] := by simp [hle]
        rw [this]
        exact hJ.app (.cons _ t .nil)
    · intro us D3 c3 s6 hJ hul hDn S6
      have htk : (spl b).getLast?.toList.take (xs.drop (xs.length - 1)).length = (spl b).getLast?.toList := List.take_of_length_le (by omega)
      rw [htk] at hJ
      have hulen := hul
      rw [List.length_drop] at hulen
      refine o_ladd S6 (S6.lst (.tail _ (.tail _ (.tail _ hD2)))) (S6.lst (.head _)) (by omega) ?_
      intro N3 s7 S7 hN3
      refine List_ ?_
      refine spliced_more ?_
      refine e_byt S7 ?_
      intro t8 s8 S8
      refine spliced_none ?_
      refine e_lst S8 (by simp) ?_
      intro N4 s9 S9 hN4
      refine o_ladd S9 (S9.lst (.tail _ (.head _))) (S9.lst (.head _)) (by simp; omega) ?_
      intro N5 s10 S10 hN5
      refine e_stE (env := envOfC nm lawScope L a cd) S10 ?_
      intro s11 S11
      dsimp only
      refine wpAny_execs_nil ?_
      have hall : BAre (ys ++ us ++ [Value.bytes ([] : List UInt8).toArray t8]) (blk b) := by
        rw [← due_none he]
        exact (hB2.app hJ).app (.cons _ t8 .nil)
      refine hQ N5 _ _ _ [(N5, listOf (ys ++ us ++ [Value.bytes ([] : List UInt8).toArray t8]).toArray 0), _, _, _, _, _] s11 ?_ mem_upd hall (.head _) (S11.weak (fun _ h => h) (fun _ h => h))
      intro q hq hne
      exact mem_upd_ne hne hq
  · rw [if_neg (by simpa using he)]
    refine wpAny_execs_nil ?_
    refine hQ D2 ys c2 vs [] s1 (fun q hq _ => hq) h2 (hbl ▸ hB2) hD2 (S1.weak (fun _ h => h) (fun _ h => .tail _ h))
end
end Mine

end

section
open PySem PySem.W PyProof.Rows PySem.Calls
set_option maxRecDepth 100000
namespace Mine
local macro_rules | `(tactic| ktr_rel) => `(tactic| first | assumption | with_reducible exact mem_upd | ((with_reducible refine' mem_upd_ne ?h9 ?m9); (case h9 => decide); (case m9 => ktr_rel)) | ((with_reducible refine' mem_del ?h9 ?m9); (case h9 => decide); (case m9 => ktr_rel)) | exact List.Mem.head _ | exact List.Mem.tail _ (by ktr_rel))
section
variable {prog : Program} {w : World} {A : Around} {E : Value → Shared → Prop} {s : Shared} {h₀ : Heap} {L : Addr} {s₁ : Shared} {vs : List (Str × Value)} {news R : List (Addr × Obj)} {mg mb : Str → Option Value} {a f : Addr} {cd : Value} {nm : Str}
  {fo : Obj} {dV kV doc pm cdv ct : Value} {an : Option Addr} {params : Arguments} {name qual : Str} {body : List Stmt}
theorem St.tupO {cls : Value} (S : St h₀ L s₁ vs news s) {t e : Addr} {xs : List Value} {oe ot : Obj} (hm : (t, ot) ∈ news) (x : ExcOf cls e t xs oe ot) : IsTup s.heap t xs.toArray := by
  obtain ⟨k, hk⟩ := x.tdata
  exact ⟨ot, (S.nw _ hm).1, x.tcls, k, hk⟩
theorem St.apart (S : St h₀ L s₁ vs news s) {b c : Addr} {o o' : Obj} (h1 : (b, o) ∈ news) (h2 : (c, o') ∈ news) (hne : o ≠ o') : b ≠ c := fun e => by
  have := (S.nw _ h1).1
  rw [show (b, o).1 = (c, o').1 from e, (S.nw _ h2).1] at this
  exact hne (Option.some.inj this).symm
set_option maxHeartbeats 4000000 in
/-- try: told = _read_headers(source) .. -/
theorem t_try {l : List UInt8} {p : Nat} {tp tm th : Tok} {C PL AS e : Addr} {av : List Value} {c1 c2 : Nat} {Q : Flow → Shared → Prop} (K : Below callerA h₀ [] h₀) (G : Glo mg mb h₀) (BL : Blts mg mb) (X : HX mg h₀ "HTTPException" C)
    (FR : DefAt mg h₀ "_read_headers" readDef "fp" f fo body dV kV doc pm cdv ct an params name qual) (gm : mg "_MAXLINE" = some (.int 65536 tm)) (gh : mg "_MAXHEADERS" = some (.int 100 th))
    (S : St h₀ L s₁ vs ((PL, listOf [Value.int (p : Nat) tp].toArray c1) :: (AS, listOf av.toArray c2) :: R) s) (Z : SrcIs C l PL AS e R) (h1 : (("source" : Str), Value.ref e) ∈ vs)
    (hp : p ≤ l.length) (hl : l.length ≤ 1300) (hav : av.length ≤ 800000)
    (hA : (blk (l.drop p)).length ≤ 100 → ∀ t1 av' c2' D zs cD s', Asked av av' (blk (l.drop p)).length → p + (blk (l.drop p)).flatten.length ≤ l.length → BAre zs (blk (l.drop p)) →
      St h₀ L s₁ (upd "told" (.ref D) vs) ((D, listOf zs.toArray cD) :: (PL, listOf [Value.int ((p + (blk (l.drop p)).flatten.length : Nat) : Int) t1].toArray c1) :: (AS, listOf av'.toArray c2') :: R) s' → Q .next s')
    (hB : 100 < (blk (l.drop p)).length → ∀ t1 t2 av' c2' vs' s', Asked av av' 101 → p + ((blk (l.drop p)).take 101).flatten.length ≤ l.length → (∀ q ∈ vs, (q.1 == "told") = false → (q.1 == "err") = false → q ∈ vs') → (("told" : Str), Value.str "refused" t2) ∈ vs' →
      St h₀ L s₁ vs' ((PL, listOf [Value.int ((p + ((blk (l.drop p)).take 101).flatten.length : Nat) : Int) t1].toArray c1) :: (AS, listOf av'.toArray c2') :: R) s' → Q .next s') :
    wpAny (model prog w) (callerA.deeper (envOfC nm lawScope L a cd)) (exec (lawT 7) (envOfC nm lawScope L a cd)) Q E s := by
  dsimp only [lawT, List.getD, forBody, lawFor, fBody, lawDef, PySem.Challenge.pw_dv0018_04, List.getElem?_cons_zero, List.getElem?_cons_succ, Option.getD_some]
  refine wpAny_Try_except ?_
  refine wpAny_execs_cons ?_
  refine wpAny_Assign_Name ?_
  refine Call_ ?_
  refine e_gloE S G FR.nm ?_
  refine k_fn FR.dat ?_
  refine spliced_more ?_
  refine e_locE (env := envOfC nm lawScope L a cd) S (by ktr_rel) ?_
  refine spliced_none ?_
  refine ⟨S.old FR.ob, ?_⟩
  refine read_call K G BL X FR gm gh S Z rfl rfl rfl rfl (Nat.le_of_ble_eq_true rfl) hp hl hav ?_ ?_
  · intro h100 t1 av' c2' D zs cD s1 hAs hle hBz hDP hDA hRD S1
    refine e_stE (env := envOfC nm lawScope L a cd) S1 ?_
    intro s2 S2
    dsimp only
    refine wpAny_execs_nil ?_
    dsimp only
    refine wpAny_execs_nil ?_
    exact hA h100 t1 av' c2' D zs cD s2 hAs hle hBz S2
  · intro h100 t1 t4 av' c2' e1 t g m s1 hAs hle hs1 RK F hm U
    refine x_caughtO (env := envOfC nm lawScope L a cd) K G F hm U RK hs1 X ?_ rfl
    intro s2 oe ot S2 xo
    refine wpAny_execs_cons ?_
    refine wpAny_If ?_
    refine isTrue_or ?_
    refine wpAny_isTrue_Compare1 ?_
    refine Call_ ?_
    refine e_bltE S2 G BL.type ?_
    refine PyProof.Rows.callWith_type1 ?_
    refine spliced_more ?_
    refine e_locE (env := envOfC nm lawScope L a cd) S2 (by ktr_rel) ?_
    refine spliced_none ?_
    refine t_type S2 (by ktr_rel) xo.cls rfl ?_
    refine e_gloE S2 G X.bound ?_
    refine wpAny_isNot_ref_self ?_
    refine wpAny_truthy_bool ?_
    rw [if_neg (by simp)]
    refine isTrue_or ?_
    refine wpAny_isTrue_Compare1 ?_
    refine Attribute_Name_ ?_
    refine e_locE (env := envOfC nm lawScope L a cd) S2 (by ktr_rel) ?_
    refine a_argsO X S2 (by ktr_rel) xo ?_
    intro s3 S3
    refine Tuple_ ?_
    refine spliced_more ?_
    refine e_str S3 ?_
    intro t5 s5 S5
    refine spliced_none ?_
    refine e_tup S5 (by simp) ?_
    intro T s6 S6 hT
    refine o_ne_words (Nat.le_of_ble_eq_true rfl) (S6.tupO (.tail _ (.tail _ (.head _))) xo) (S6.tup (.head _)) ?_
    refine wpAny_truthy_bool ?_
    rw [if_neg (by simp)]
    refine isTrue_or_nil ?_
    rw [if_neg (by simp)]
    refine wpAny_execs_nil ?_
    dsimp only
    refine wpAny_execs_cons ?_
    refine wpAny_Assign_Name ?_
    refine e_str S6 ?_
    intro t7 s7 S7
    refine e_stE (env := envOfC nm lawScope L a cd) S7 ?_
    intro s8 S8
    dsimp only
    refine wpAny_execs_nil ?_
    refine e_goneE (env := envOfC nm lawScope L a cd) S8 ?_
    intro s9 S9
    refine hB h100 t1 t7 av' c2' _ s9 hAs hle ?_ ?_ (S9.weak (fun _ h => h) (fun _ h => .tail _ (.tail _ (.tail _ h))))
    · intro q hq hq1 hq2
      exact mem_del hq2 (mem_upd_ne hq1 (mem_upd_ne hq2 hq))
    · exact mem_del (by decide) mem_upd
end
end Mine

end

section
open PySem PySem.W PyProof.Rows PySem.Calls
set_option maxRecDepth 100000
namespace Mine
local macro_rules | `(tactic| ktr_rel) => `(tactic| first | assumption | with_reducible exact mem_upd | ((with_reducible refine' mem_upd_ne ?h9 ?m9); (case h9 => decide); (case m9 => ktr_rel)) | ((with_reducible refine' mem_del ?h9 ?m9); (case h9 => decide); (case m9 => ktr_rel)) | exact List.Mem.head _ | exact List.Mem.tail _ (by ktr_rel))
section
variable {prog : Program} {w : World} {A : Around} {E : Value → Shared → Prop} {s : Shared} {h₀ : Heap} {L : Addr} {s₁ : Shared} {vs : List (Str × Value)} {news R : List (Addr × Obj)} {mg mb : Str → Option Value} {a f : Addr} {cd : Value} {nm : Str}
/-- if told != ..: a block told -/
theorem t_toldA {D D' : Addr} {us zs : List Value} {c c' : Nat} {bs : List (List UInt8)} {Q : Flow → Shared → Prop} (G : Glo mg mb h₀) (BL : Blts mg mb) (hu : A.units < cLine) (S : St h₀ L s₁ vs news s) (hk : bs.length ≤ 100)
    (h1 : (("due" : Str), Value.ref D) ∈ vs) (hD : (D, listOf us.toArray c) ∈ news) (hB : BAre us bs) (h2 : (("told" : Str), Value.ref D') ∈ vs) (hD' : (D', listOf zs.toArray c') ∈ news) (hB' : BAre zs bs)
    (hQ : ∀ s', St h₀ L s₁ vs news s' → Q .next s') :
    wpAny (model prog w) A (exec (lawT 8) (envOfC nm lawScope L a cd)) Q E s := by
  have hul := hB.len
  dsimp only [lawT, List.getD, forBody, lawFor, fBody, lawDef, PySem.Challenge.pw_dv0018_04, List.getElem?_cons_zero, List.getElem?_cons_succ, Option.getD_some]
  refine wpAny_If ?_
  refine wpAny_isTrue_Compare1 ?_
  refine e_locE (env := envOfC nm lawScope L a cd) S (by ktr_rel) ?_
  refine IfExp_ ?_
  refine wpAny_isTrue_Compare1 ?_
  refine Call_ ?_
  refine e_bltE S G BL.len ?_
  refine PyProof.Rows.callWith_builtin1 ?_
  refine spliced_more ?_
  refine e_locE (env := envOfC nm lawScope L a cd) S (by ktr_rel) ?_
  refine spliced_none ?_
  refine c_llen S (S.lst hD) (by omega) ?_
  intro t1 s1 S1
  refine e_int S1 ?_
  intro t2 s2 S2
  refine le_int ?_
  refine wpAny_truthy_bool ?_
  rw [if_pos (by simp; omega)]
  refine e_locE (env := envOfC nm lawScope L a cd) S2 (by ktr_rel) ?_
  refine o_ne_bys hu (S2.lst hD') (S2.lst hD) hB' hB ?_
  refine wpAny_truthy_bool ?_
  rw [if_neg (by decide)]
  refine wpAny_execs_nil ?_
  exact hQ s2 S2
/-- if told != ..: a refusal -/
theorem t_toldB {D : Addr} {us : List Value} {c : Nat} {t : Tok} {bs : List (List UInt8)} {Q : Flow → Shared → Prop} (G : Glo mg mb h₀) (BL : Blts mg mb) (S : St h₀ L s₁ vs news s) (hk : 100 < bs.length) (hk2 : bs.length ≤ 10000)
    (h1 : (("due" : Str), Value.ref D) ∈ vs) (hD : (D, listOf us.toArray c) ∈ news) (hB : BAre us bs) (h2 : (("told" : Str), Value.str "refused" t) ∈ vs)
    (hQ : ∀ s', St h₀ L s₁ vs news s' → Q .next s') :
    wpAny (model prog w) A (exec (lawT 8) (envOfC nm lawScope L a cd)) Q E s := by
  have hul := hB.len
  dsimp only [lawT, List.getD, forBody, lawFor, fBody, lawDef, PySem.Challenge.pw_dv0018_04, List.getElem?_cons_zero, List.getElem?_cons_succ, Option.getD_some]
  refine wpAny_If ?_
  refine wpAny_isTrue_Compare1 ?_
  refine e_locE (env := envOfC nm lawScope L a cd) S (by ktr_rel) ?_
  refine IfExp_ ?_
  refine wpAny_isTrue_Compare1 ?_
  refine Call_ ?_
  refine e_bltE S G BL.len ?_
  refine PyProof.Rows.callWith_builtin1 ?_
  refine spliced_more ?_
  refine e_locE (env := envOfC nm lawScope L a cd) S (by ktr_rel) ?_
  refine spliced_none ?_
  refine c_llen S (S.lst hD) (by omega) ?_
  intro t1 s1 S1
  refine e_int S1 ?_
  intro t2 s2 S2
  refine le_int ?_
  refine wpAny_truthy_bool ?_
  rw [if_neg (by simp; omega)]
  refine e_str S2 ?_
  intro t3 s3 S3
  refine o_ne_strs ?_
  refine wpAny_truthy_bool ?_
  rw [if_neg (by decide)]
  refine wpAny_execs_nil ?_
  exact hQ s3 S3
/-- reads = reads + min(len(due), 101) -/
theorem t_reads {D : Addr} {us : List Value} {c n : Nat} {tn : Tok} {bs : List (List UInt8)} {Q : Flow → Shared → Prop} (G : Glo mg mb h₀) (BL : Blts mg mb) (hh : A.handled = none) (S : St h₀ L s₁ vs news s) (hk2 : bs.length ≤ 10000)
    (h1 : (("due" : Str), Value.ref D) ∈ vs) (hD : (D, listOf us.toArray c) ∈ news) (hB : BAre us bs) (h2 : (("reads" : Str), Value.int (n : Nat) tn) ∈ vs)
    (hQ : ∀ t s', St h₀ L s₁ (upd "reads" (.int ((n + min bs.length 101 : Nat) : Int) t) vs) news s' → Q .next s') :
    wpAny (model prog w) A (exec (lawT 9) (envOfC nm lawScope L a cd)) Q E s := by
  have hul := hB.len
  dsimp only [lawT, List.getD, forBody, lawFor, fBody, lawDef, PySem.Challenge.pw_dv0018_04, List.getElem?_cons_zero, List.getElem?_cons_succ, Option.getD_some]
  refine wpAny_Assign_Name ?_
  refine wpAny_BinOp ?_
  refine e_locE (env := envOfC nm lawScope L a cd) S (by ktr_rel) ?_
  refine Call_ ?_
  refine e_bltE S G BL.min ?_
  refine PyProof.Rows.callWith_builtin1 ?_
  refine spliced_more ?_
  refine Call_ ?_
  refine e_bltE S G BL.len ?_
  refine PyProof.Rows.callWith_builtin1 ?_
  refine spliced_more ?_
  refine e_locE (env := envOfC nm lawScope L a cd) S (by ktr_rel) ?_
  refine spliced_none ?_
  refine c_llen S (S.lst hD) (by omega) ?_
  intro t1 s1 S1
  refine spliced_more ?_
  refine e_int S1 ?_
  intro t2 s2 S2
  refine spliced_none ?_
  refine c_min2 hh S2 ?_
  intro t3 s3 S3
  refine o_add S3 ?_
  intro t4 s4 S4
  have e : (((n : Nat) : Int) + if (101 : Int) < ((us.length : Nat) : Int) then 101 else ((us.length : Nat) : Int)) = ((n + min bs.length 101 : Nat) : Int) := by
    by_cases h : (101 : Int) < ((us.length : Nat) : Int)
    · rw [if_pos h]; omega
    · rw [if_neg h]; omega
  rw [e]
  exact e_stE (env := envOfC nm lawScope L a cd) S4 (fun s5 S5 => hQ t4 s5 S5)
/-- if place[0] != .. -/
theorem t_place {D PL : Addr} {us : List Value} {c c1 p : Nat} {tp tq : Tok} {bs : List (List UInt8)} {Q : Flow → Shared → Prop} (G : Glo mg mb h₀) (BL : Blts mg mb) (S : St h₀ L s₁ vs news s) (hk2 : bs.length ≤ 10000) (hk3 : (bs.take 101).flatten.length ≤ 10000)
    (h1 : (("due" : Str), Value.ref D) ∈ vs) (hD : (D, listOf us.toArray c) ∈ news) (hB : BAre us bs) (h2 : (("here" : Str), Value.int (p : Nat) tp) ∈ vs) (h3 : (("place" : Str), Value.ref PL) ∈ vs)
    (hP : (PL, listOf [Value.int ((p + (bs.take 101).flatten.length : Nat) : Int) tq].toArray c1) ∈ news)
    (hQ : ∀ s', St h₀ L s₁ vs news s' → Q .next s') :
    wpAny (model prog w) A (exec (lawT 10) (envOfC nm lawScope L a cd)) Q E s := by
  have hul := hB.len
  dsimp only [lawT, List.getD, forBody, lawFor, fBody, lawDef, PySem.Challenge.pw_dv0018_04, List.getElem?_cons_zero, List.getElem?_cons_succ, Option.getD_some]
  refine wpAny_If ?_
  refine wpAny_isTrue_Compare1 ?_
  refine Subscript_ ?_
  refine e_locE (env := envOfC nm lawScope L a cd) S (by ktr_rel) ?_
  refine e_int S ?_
  intro t1 s1 S1
  refine s_litem (S1.lst hP) (by decide) (by decide) rfl ?_
  refine wpAny_BinOp ?_
  refine e_locE (env := envOfC nm lawScope L a cd) S1 (by ktr_rel) ?_
  refine Call_ ?_
  refine e_bltE S1 G BL.len ?_
  refine PyProof.Rows.callWith_builtin1 ?_
  refine spliced_more ?_
  refine MethodCall_ ?_
  refine e_byt S1 ?_
  intro t2 s2 S2
  refine m_join ?_
  refine callWith_method1 ?_
  refine spliced_more ?_
  refine Subscript_ ?_
  refine e_locE (env := envOfC nm lawScope L a cd) S2 (by ktr_rel) ?_
  refine wpAny_Slice ?_
  refine evalPart_none_step ?_
  refine evalPart_some_step ?_
  refine e_int S2 ?_
  intro t3 s3 S3
  refine evalPart_none_step ?_
  refine s_lupto S3 (S3.lst hD) (by decide) (by omega) ?_
  intro D2 s4 S4
  refine spliced_none ?_
  refine c_join S4 (S4.lst (.head _)) (hB.take 101) (by omega) ?_
  intro t5 s5 S5
  refine spliced_none ?_
  refine c_len S5 (by simp only [List.size_toArray]; omega) ?_
  intro t6 s6 S6
  refine o_add S6 ?_
  intro t7 s7 S7
  refine ne_int ?_
  refine wpAny_truthy_bool ?_
  rw [if_neg (by rw [List.size_toArray]; simp)]
  refine wpAny_execs_nil ?_
  exact hQ s7 (S7.weak (fun _ h => h) (fun _ h => .tail _ h))
/-- if here == len(octets): return asked == [65537] * reads -/
theorem t_end {AS : Addr} {av : List Value} {c2 p n : Nat} {tp tl tn : Tok} {l : List UInt8} {Q : Flow → Shared → Prop} (G : Glo mg mb h₀) (BL : Blts mg mb) (hu : A.units < cLine) (S : St h₀ L s₁ vs news s) (hl : l.length ≤ 1300)
    (h1 : (("asked" : Str), Value.ref AS) ∈ vs) (hD : (AS, listOf av.toArray c2) ∈ news) (hav : ∀ v ∈ av, ∃ t, v = .int 65537 t) (hn : av.length = n) (hn2 : n ≤ 800000) (h2 : (("here" : Str), Value.int (p : Nat) tp) ∈ vs) (h3 : (("octets" : Str), Value.bytes l.toArray tl) ∈ vs) (h4 : (("reads" : Str), Value.int (n : Nat) tn) ∈ vs)
    (hR : p = l.length → ∀ s', St h₀ L s₁ [] news s' → Q (.ret (.bool true)) s') (hQ : p ≠ l.length → ∀ s', St h₀ L s₁ vs news s' → Q .next s') :
    wpAny (model prog w) A (exec (lawT 11) (envOfC nm lawScope L a cd)) Q E s := by
  dsimp only [lawT, List.getD, forBody, lawFor, fBody, lawDef, PySem.Challenge.pw_dv0018_04, List.getElem?_cons_zero, List.getElem?_cons_succ, Option.getD_some]
  refine wpAny_If ?_
  refine wpAny_isTrue_Compare1 ?_
  refine e_locE (env := envOfC nm lawScope L a cd) S (by ktr_rel) ?_
  refine Call_ ?_
  refine e_bltE S G BL.len ?_
  refine PyProof.Rows.callWith_builtin1 ?_
  refine spliced_more ?_
  refine e_locE (env := envOfC nm lawScope L a cd) S (by ktr_rel) ?_
  refine spliced_none ?_
  refine c_len S (by simp only [List.size_toArray]; omega) ?_
  intro t1 s1 S1
  refine eq_int ?_
  refine wpAny_truthy_bool ?_
  by_cases hpl : p = l.length
  · rw [if_pos (by rw [List.size_toArray, hpl]; simp)]
    refine wpAny_execs_cons ?_
    refine wpAny_Return_some ?_
    refine wpAny_Compare1 ?_
    refine e_locE (env := envOfC nm lawScope L a cd) S1 (by ktr_rel) ?_
    refine wpAny_BinOp ?_
    refine List_ ?_
    refine spliced_more ?_
    refine e_int S1 ?_
    intro t2 s2 S2
    refine spliced_none ?_
    refine e_lst S2 (by simp) ?_
    intro D s3 S3 hlt
    refine e_locE (env := envOfC nm lawScope L a cd) S3 (by ktr_rel) ?_
    refine o_lmulB S3 (.head _) (by omega) (by omega) rfl ?_
    intro D2 s4 S4
    refine o_eq_reps (k := 65537) hu (S4.lst (.tail _ (.tail _ hD))) (S4.lst (.head _)) hav ?_ ?_ ?_
    · intro v hv
      rw [rep_one] at hv
      exact ⟨t2, List.eq_of_mem_replicate hv⟩
    · rw [rep_one, List.length_replicate, hn]; omega
    exact hR hpl s4 (S4.weak (by simp) (fun _ h => .tail _ (.tail _ h)))
  · rw [if_neg (by rw [List.size_toArray]; simp; omega)]
    refine wpAny_execs_nil ?_
    exact hQ hpl s1 S1
end
end Mine

end

section
open PySem PySem.W PyProof.Rows PySem.Calls
set_option maxRecDepth 100000
namespace Mine
local macro_rules | `(tactic| ktr_rel) => `(tactic| first | assumption | with_reducible exact mem_upd | ((with_reducible refine' mem_upd_ne ?h9 ?m9); (case h9 => decide); (case m9 => ktr_rel)) | ((with_reducible refine' mem_del ?h9 ?m9); (case h9 => decide); (case m9 => ktr_rel)) | exact List.Mem.head _ | exact List.Mem.tail _ (by ktr_rel))
theorem blk_small : ∀ (n : Nat) (r : List UInt8), r.length ≤ n → (blk r).length ≤ r.length + 1 := by
  intro n
  induction n with
  | zero =>
    intro r hn
    have : r = [] := by simpa using hn
    subst this
    rw [blk_nil]; simp
  | succ n ih =>
    intro r hn
    cases he : isEnd (ln1 r) with
    | true => rw [blk_end he]; simp
    | false =>
      have h0 := ln1_nil_of he
      have h := ih (r.drop (lnl r)) (by rw [List.length_drop]; omega)
      rw [List.length_drop] at h
      rw [blk_more he, List.length_cons]
      omega
theorem blk_pos {r : List UInt8} (h : r ≠ []) : 0 < ((blk r).take 101).flatten.length := by
  obtain ⟨q, hq⟩ := blk_head r
  rw [hq, List.take_succ_cons, List.flatten_cons, List.length_append, ln1_len]
  have : 0 < lnl r := by
    rcases line_cases r with rfl | ⟨_, _, _, h2⟩ | ⟨y, r', _, _, _, _, h3⟩
    · exact absurd rfl h
    · rw [h2]; exact List.length_pos_iff.mpr h
    · omega
  omega
theorem listOf_inj {xs ys : List Value} {c c' : Nat} (h : listOf xs.toArray c = listOf ys.toArray c') : xs = ys := by
  have h1 : (listOf xs.toArray c).data = (listOf ys.toArray c').data := by rw [h]
  have h2 : Data.seq xs.toArray c = Data.seq ys.toArray c' := h1
  injection h2 with h3 _
  simpa using congrArg Array.toList h3
theorem BAre.notInts {us : List Value} {bs : List (List UInt8)} (h : BAre us bs) (hne : bs ≠ []) {xs : List Value} (hx : ∀ v ∈ xs, ∃ k t, v = .int k t) : us ≠ xs := by
  rintro rfl
  cases h with
  | nil => exact hne rfl
  | cons l t h =>
    obtain ⟨k, t', e⟩ := hx _ (.head _)
    cases e
theorem blk_ne (r : List UInt8) : blk r ≠ [] := by obtain ⟨q, hq⟩ := blk_head r; rw [hq]; simp
/-- the five names that the loop keeps -/
def Five (l : List UInt8) (PL AS e : Addr) (n : Nat) (vs : List (Str × Value)) : Prop :=
  (("place" : Str), Value.ref PL) ∈ vs ∧ (("asked" : Str), Value.ref AS) ∈ vs ∧ (("source" : Str), Value.ref e) ∈ vs ∧ (∃ t, (("octets" : Str), Value.bytes l.toArray t) ∈ vs) ∧ ∃ t, (("reads" : Str), Value.int (n : Nat) t) ∈ vs
section
variable {prog : Program} {w : World} {E : Value → Shared → Prop} {s : Shared} {h₀ : Heap} {L : Addr} {s₁ : Shared} {vs : List (Str × Value)} {news R : List (Addr × Obj)} {mg mb : Str → Option Value} {a f : Addr} {cd : Value} {nm : Str}
  {fo : Obj} {dV kV doc pm cdv ct : Value} {an : Option Addr} {params : Arguments} {name qual : Str} {body : List Stmt}
set_option maxHeartbeats 4000000 in
/-- one turn of the law's loop -/
theorem law_turn {Bd : List Stmt} (hBd : Bd = forBody lawFor) {l : List UInt8} {p n : Nat} {tp tm th : Tok} {C PL AS e : Addr} {av : List Value} {c1 c2 : Nat} {o : Obj} {v₀ : Option Value} {Q : Flow → Shared → Prop} (K : Below callerA h₀ [] h₀) (G : Glo mg mb h₀) (BL : Blts mg mb) (X : HX mg h₀ "HTTPException" C)
    (FR : DefAt mg h₀ "_read_headers" readDef "fp" f fo body dV kV doc pm cdv ct an params name qual) (gm : mg "_MAXLINE" = some (.int 65536 tm)) (gh : mg "_MAXHEADERS" = some (.int 100 th))
    (S : St h₀ L s₁ vs ((L + 1, o) :: (PL, listOf [Value.int (p : Nat) tp].toArray c1) :: (AS, listOf av.toArray c2) :: R) s) (ho : o.data = .cell v₀) (hcn : ∀ q ∈ (PL, listOf [Value.int (p : Nat) tp].toArray c1) :: (AS, listOf av.toArray c2) :: R, q.1 ≠ L + 1)
    (Z : SrcIs C l PL AS e R) (V : Five l PL AS e n vs)
    (hp : p ≤ l.length) (hl : l.length ≤ 1300) (hav : ∀ v ∈ av, ∃ t, v = .int 65537 t) (hn : av.length = n) (hn2 : n ≤ 700000)
    (hR : ∀ s', St h₀ L s₁ [] R s' → Q (.ret (.bool true)) s')
    (hQ : ∀ (p' n' : Nat) (tp' : Tok) (av' : List Value) (c2' : Nat) (o' : Obj) (v₀' : Option Value) (vs' : List (Str × Value)) (s' : Shared), p < p' → p' ≤ l.length → n' ≤ n + 101 → (∀ v ∈ av', ∃ t, v = .int 65537 t) → av'.length = n' → o'.data = .cell v₀' → Five l PL AS e n' vs' →
      St h₀ L s₁ vs' ((L + 1, o') :: (PL, listOf [Value.int (p' : Nat) tp'].toArray c1) :: (AS, listOf av'.toArray c2') :: R) s' → Q .next s') :
    wpAny (model prog w) (callerA.deeper (envOfC nm lawScope L a cd)) (execs Bd (envOfC nm lawScope L a cd)) Q E s := by
  obtain ⟨v1, v2, v3, ⟨tl, v4⟩, tn, v5⟩ := V
  have hu : (callerA.deeper (envOfC nm lawScope L a cd)).units < cLine := Nat.le_of_ble_eq_true rfl
  have hdl : (l.drop p).length ≤ 1300 := by rw [List.length_drop]; omega
  have hbs := blk_small _ (l.drop p) (Nat.le_refl _)
  have hasked : ∀ {av' : List Value} {k : Nat}, Asked av av' k → (∀ v ∈ av', ∃ t, v = .int 65537 t) := fun {av' k} h => by
    obtain ⟨ts, rfl, _⟩ := h
    intro v hv
    rcases List.mem_append.mp hv with hv | hv
    · exact hav v hv
    · obtain ⟨t, _, rfl⟩ := List.mem_map.mp hv
      exact ⟨t, rfl⟩
  have e0 : forBody lawFor = [lawT 0, lawT 1, lawT 2, lawT 3, lawT 4, lawT 5, lawT 6, lawT 7, lawT 8, lawT 9, lawT 10, lawT 11] := rfl
  rw [hBd, e0]
  refine wpAny_execs_cons ?_
  refine t_here S v1 (.tail _ (.head _)) ?_
  intro s1 S1
  dsimp only
  refine wpAny_execs_cons ?_
  refine t_rest S1 hcn ho hl mem_upd (mem_upd_ne (by decide) v4) ?_
  intro s2 o2 t2 ho2 S2
  dsimp only
  refine wpAny_execs_cons ?_
  refine t_ends G BL rfl rfl S2 (.head _) ho2 hdl ?_
  intro D zs c s3 hD hI S3
  dsimp only
  refine wpAny_execs_cons ?_
  refine t_block G BL rfl hu S3 (.tail _ (.head _)) ho2 hdl mem_upd (.head _) hI ?_
  intro b tb s4 hbl hb S4
  dsimp only
  refine wpAny_execs_cons ?_
  refine t_rows S4 hbl mem_upd ?_
  intro D1 xs s5 hD1 hB1 S5
  dsimp only
  refine wpAny_execs_cons ?_
  refine t_due rfl S5 hbl mem_upd (.head _) hB1 ?_
  intro D2 ys c2b s6 hD2 hB2 S6
  dsimp only
  refine wpAny_execs_cons ?_
  refine t_more rfl hu S6 hbl hb (by ktr_rel) (.tail _ (.tail _ (.head _))) hI (by ktr_rel) (.tail _ (.head _)) hB1 mem_upd (.head _) hB2 ?_
  intro D3 us c3 vs7 own s7 hvs7 hdue hB3 hD3 S7
  dsimp only
  refine wpAny_execs_cons ?_
  have hPm : (PL, listOf [Value.int (p : Nat) tp].toArray c1) ∈ own ++ ((D2, listOf ys.toArray c2b) :: (D1, listOf xs.toArray 0) :: (D, listOf zs.toArray c) :: (L + 1, o2) :: (PL, listOf [Value.int (p : Nat) tp].toArray c1) :: (AS, listOf av.toArray c2) :: R) :=
    List.mem_append_right _ (.tail _ (.tail _ (.tail _ (.tail _ (.head _)))))
  have hAm : (AS, listOf av.toArray c2) ∈ own ++ ((D2, listOf ys.toArray c2b) :: (D1, listOf xs.toArray 0) :: (D, listOf zs.toArray c) :: (L + 1, o2) :: (PL, listOf [Value.int (p : Nat) tp].toArray c1) :: (AS, listOf av.toArray c2) :: R) :=
    List.mem_append_right _ (.tail _ (.tail _ (.tail _ (.tail _ (.tail _ (.head _))))))
  have hCm : (L + 1, o2) ∈ own ++ ((D2, listOf ys.toArray c2b) :: (D1, listOf xs.toArray 0) :: (D, listOf zs.toArray c) :: (L + 1, o2) :: (PL, listOf [Value.int (p : Nat) tp].toArray c1) :: (AS, listOf av.toArray c2) :: R) :=
    List.mem_append_right _ (.tail _ (.tail _ (.tail _ (.head _))))
  have hDP : D3 ≠ PL := S7.apart hD3 hPm fun h => hB3.notInts (blk_ne _) (xs := [Value.int (p : Nat) tp]) (fun v hv => ⟨_, _, List.mem_singleton.mp hv⟩) (listOf_inj h)
  have hDA : D3 ≠ AS := S7.apart hD3 hAm fun h => hB3.notInts (blk_ne _) (xs := av) (fun v hv => ⟨_, hav v hv⟩) (listOf_inj h)
  have S7' : St h₀ L s₁ vs7 ((PL, listOf [Value.int (p : Nat) tp].toArray c1) :: (AS, listOf av.toArray c2) :: (D3, listOf us.toArray c3) :: (L + 1, o2) :: R) s7 := S7.weak (fun _ h => h) (fun q hq => by
    rcases List.mem_cons.mp hq with rfl | hq
    · exact hPm
    · rcases List.mem_cons.mp hq with rfl | hq
      · exact hAm
      · rcases List.mem_cons.mp hq with rfl | hq
        · exact hD3
        · rcases List.mem_cons.mp hq with rfl | hq
          · exact hCm
          · exact List.mem_append_right _ (.tail _ (.tail _ (.tail _ (.tail _ (.tail _ (.tail _ hq)))))))
  have Z' : SrcIs C l PL AS e ((D3, listOf us.toArray c3) :: (L + 1, o2) :: R) := Z.mono (fun q hq => .tail _ (.tail _ hq))
    (fun q hq => by
      rcases List.mem_cons.mp hq with rfl | hq
      · exact hDP
      · rcases List.mem_cons.mp hq with rfl | hq
        · exact Ne.symm (hcn _ (.head _))
        · exact Z.rp q hq)
    (fun q hq => by
      rcases List.mem_cons.mp hq with rfl | hq
      · exact hDA
      · rcases List.mem_cons.mp hq with rfl | hq
        · exact Ne.symm (hcn _ (.tail _ (.head _)))
        · exact Z.ra q hq)
  have w1 : (("place" : Str), Value.ref PL) ∈ vs7 := hvs7 _ (by ktr_rel) rfl
  have w2 : (("asked" : Str), Value.ref AS) ∈ vs7 := hvs7 _ (by ktr_rel) rfl
  have w3 : (("source" : Str), Value.ref e) ∈ vs7 := hvs7 _ (by ktr_rel) rfl
  have w4 : (("octets" : Str), Value.bytes l.toArray tl) ∈ vs7 := hvs7 _ (by ktr_rel) rfl
  have w5 : (("reads" : Str), Value.int (n : Nat) tn) ∈ vs7 := hvs7 _ (by ktr_rel) rfl
  have w6 : (("here" : Str), Value.int (p : Nat) tp) ∈ vs7 := hvs7 _ (by ktr_rel) rfl
  -- what is left behind the try
  have tail : ∀ (vs8 : List (Str × Value)) (own8 : List (Addr × Obj)) (t1 : Tok) (av' : List Value) (c2' : Nat) (s8 : Shared), (∀ q ∈ vs7, (q.1 == "told") = false → (q.1 == "err") = false → q ∈ vs8) → Asked av av' (min (blk (l.drop p)).length 101) →
      p + ((blk (l.drop p)).take 101).flatten.length ≤ l.length →
      St h₀ L s₁ vs8 (own8 ++ ((PL, listOf [Value.int ((p + ((blk (l.drop p)).take 101).flatten.length : Nat) : Int) t1].toArray c1) :: (AS, listOf av'.toArray c2') :: (D3, listOf us.toArray c3) :: (L + 1, o2) :: R)) s8 →
      wpAny (model prog w) (callerA.deeper (envOfC nm lawScope L a cd)) (execs [lawT 9, lawT 10, lawT 11] (envOfC nm lawScope L a cd)) Q E s8 := by
    intro vs8 own8 t1 av' c2' s8 hvs8 hAs hle S8
    have x1 := hvs8 _ w1 rfl rfl
    have x2 := hvs8 _ w2 rfl rfl
    have x3 := hvs8 _ w3 rfl rfl
    have x4 := hvs8 _ w4 rfl rfl
    have x5 := hvs8 _ w5 rfl rfl
    have x6 := hvs8 _ w6 rfl rfl
    have x7 := hvs8 _ hdue rfl rfl
    have hlen := hAs.len
    have hD8 : (D3, listOf us.toArray c3) ∈ own8 ++ ((PL, listOf [Value.int ((p + ((blk (l.drop p)).take 101).flatten.length : Nat) : Int) t1].toArray c1) :: (AS, listOf av'.toArray c2') :: (D3, listOf us.toArray c3) :: (L + 1, o2) :: R) :=
      List.mem_append_right _ (.tail _ (.tail _ (.head _)))
    refine wpAny_execs_cons ?_
    refine t_reads G BL rfl S8 (by omega) x7 hD8 hB3 x5 ?_
    intro t9 s9 S9
    dsimp only
    refine wpAny_execs_cons ?_
    refine t_place G BL S9 (by omega) (by omega) (by ktr_rel) hD8 hB3 (by ktr_rel) (by ktr_rel) (List.mem_append_right _ (.head _)) ?_
    intro s10 S10
    dsimp only
    refine wpAny_execs_cons ?_
    refine t_end G BL hu S10 hl (by ktr_rel) (List.mem_append_right _ (.tail _ (.head _))) (hasked hAs) (by omega) (by omega) (by ktr_rel) (by ktr_rel) mem_upd ?_ ?_
    · intro _ s11 S11
      dsimp only
      exact hR s11 (S11.weak (fun _ h => h) (fun q hq => List.mem_append_right _ (.tail _ (.tail _ (.tail _ (.tail _ hq))))))
    · intro hne s11 S11
      dsimp only
      refine wpAny_execs_nil ?_
      have hpos := blk_pos (r := l.drop p) (by
        intro h
        have := congrArg List.length h
        rw [List.length_drop] at this
        simp at this
        omega)
      refine hQ (p + ((blk (l.drop p)).take 101).flatten.length) (n + min (blk (l.drop p)).length 101) t1 av' c2' o2 _ _ s11 (by omega) hle (by omega) (hasked hAs) (by omega) ho2 ⟨by ktr_rel, by ktr_rel, by ktr_rel, ⟨tl, by ktr_rel⟩, t9, mem_upd⟩ (S11.weak (fun _ h => h) (fun q hq => ?_))
      refine List.mem_append_right _ ?_
      rcases List.mem_cons.mp hq with rfl | hq
      · exact .tail _ (.tail _ (.tail _ (.head _)))
      · rcases List.mem_cons.mp hq with rfl | hq
        · exact .head _
        · rcases List.mem_cons.mp hq with rfl | hq
          · exact .tail _ (.head _)
          · exact .tail _ (.tail _ (.tail _ (.tail _ hq)))
  refine t_try K G BL X FR gm gh S7' Z' w3 hp hl (by omega) ?_ ?_
  · intro h100 t1 av' c2' D4 ws c4 s8 hAs hle hB4 S8
    dsimp only
    refine wpAny_execs_cons ?_
    refine t_toldA G BL hu S8 h100 (mem_upd_ne (by decide) hdue) (.tail _ (.tail _ (.tail _ (.head _)))) hB3 mem_upd (.head _) hB4 ?_
    intro s9 S9
    dsimp only
    have htk : (blk (l.drop p)).take 101 = blk (l.drop p) := List.take_of_length_le (by omega)
    have hmn : min (blk (l.drop p)).length 101 = (blk (l.drop p)).length := by omega
    refine tail _ [(D4, listOf ws.toArray c4)] t1 av' c2' s9 ?_ (by rw [hmn]; exact hAs) (by rw [htk]; exact hle) (by rw [htk]; exact S9)
    intro q hq hq1 _
    exact mem_upd_ne hq1 hq
  · intro h100 t1 t2 av' c2' vs8 s8 hAs hle hvs8 htold S8
    dsimp only
    refine wpAny_execs_cons ?_
    refine t_toldB G BL S8 h100 (by omega) (hvs8 _ hdue rfl rfl) (.tail _ (.tail _ (.head _))) hB3 htold ?_
    intro s9 S9
    dsimp only
    have hmn : min (blk (l.drop p)).length 101 = 101 := by omega
    exact tail vs8 [] t1 av' c2' s9 hvs8 (by rw [hmn]; exact hAs) hle S9
end
end Mine

end

section
open PySem PySem.W PyProof.Rows PySem.Calls
set_option maxRecDepth 100000
namespace Mine
local macro_rules | `(tactic| ktr_rel) => `(tactic| first | assumption | with_reducible exact mem_upd | ((with_reducible refine' mem_upd_ne ?h9 ?m9); (case h9 => decide); (case m9 => ktr_rel)) | ((with_reducible refine' mem_del ?h9 ?m9); (case h9 => decide); (case m9 => ktr_rel)) | exact List.Mem.head _ | exact List.Mem.tail _ (by ktr_rel))
def lawSt (i : Nat) : Stmt := (fBody lawDef).getD i noSt
section
variable {prog : Program} {w : World} {A : Around} {E : Value → Shared → Prop} {s : Shared} {h₀ : Heap} {L : Addr} {s₁ : Shared} {vs : List (Str × Value)} {news R : List (Addr × Obj)} {mg mb : Str → Option Value} {a f f1 f2 : Addr} {cd : Value} {nm : Str}
  {fo fo1 fo2 : Obj} {dV kV doc pm cdv ct dV1 kV1 doc1 pm1 cdv1 ct1 dV2 kV2 doc2 pm2 ct2 : Value} {an an1 an2 : Option Addr} {params params1 params2 : Arguments} {name qual name1 qual1 name2 qual2 : Str} {body body1 body2 : List Stmt}
  {pr : Program} {loose : List Str} {mean : ExcName → Option Value}
/-- the loop -/
theorem law_loop {l : List UInt8} {tm th t0 : Tok} {C PL AS e : Addr} {c1 c2 : Nat} {o : Obj} {v₀ : Option Value} {Q : Flow → Shared → Prop} (K : Below callerA h₀ [] h₀) (G : Glo mg mb h₀) (BL : Blts mg mb) (X : HX mg h₀ "HTTPException" C)
    (FR : DefAt mg h₀ "_read_headers" readDef "fp" f fo body dV kV doc pm cdv ct an params name qual) (gm : mg "_MAXLINE" = some (.int 65536 tm)) (gh : mg "_MAXHEADERS" = some (.int 100 th))
    (hE : PassesOwn (model prog w) (callerA.deeper (envOfC nm lawScope L a cd)) (envOfC nm lawScope L a cd) E)
    (S : St h₀ L s₁ vs ((L + 1, o) :: (PL, listOf [Value.int ((0 : Nat) : Int) t0].toArray c1) :: (AS, listOf ([] : List Value).toArray c2) :: R) s) (ho : o.data = .cell v₀) (hcn : ∀ b ∈ PL :: AS :: R.map (·.1), b ≠ L + 1)
    (Z : SrcIs C l PL AS e R) (V : Five l PL AS e 0 vs) (hl : l.length ≤ 1300)
    (hR : ∀ R' s', (∀ q ∈ R, q ∈ R') → St h₀ L s₁ [] R' s' → Q (.ret (.bool true)) s') :
    wpAny (model prog w) (callerA.deeper (envOfC nm lawScope L a cd)) (exec (lawSt 5) (envOfC nm lawScope L a cd)) Q E s := by
  obtain ⟨v1, v2, v3, ⟨tl, v4⟩, tn, v5⟩ := V
  have e0 : lawSt 5 = .For (match lawFor with | .For t .. => t | _ => .Name "" ⟨0, 0, 0, 0⟩) (match lawFor with | .For _ i .. => i | _ => .Name "" ⟨0, 0, 0, 0⟩) (forBody lawFor) [] (match lawFor with | .For _ _ _ _ p => p | _ => ⟨0, 0, 0, 0⟩) := rfl
  rw [e0]
  generalize hBd : forBody lawFor = Bd
  refine wpAny_For ?_ (by intro _; rfl)
  dsimp only [lawFor, fBody, lawDef, PySem.Challenge.pw_dv0018_04]
  refine Call_ ?_
  refine e_bltE S G BL.range ?_
  refine PyProof.Rows.callWith_type1 ?_
  refine spliced_more ?_
  refine wpAny_BinOp ?_
  refine Call_ ?_
  refine e_bltE S G BL.len ?_
  refine PyProof.Rows.callWith_builtin1 ?_
  refine spliced_more ?_
  refine e_locE (env := envOfC nm lawScope L a cd) S v4 ?_
  refine spliced_none ?_
  refine c_len S (by simp only [List.size_toArray]; omega) ?_
  intro t1 s1 S1
  refine e_int S1 ?_
  intro t2 s2 S2
  refine o_add S2 ?_
  intro t3 s3 S3
  refine spliced_none ?_
  refine c_range1 S3 ?_
  intro r u1 u2 u3 s4 S4 hr
  have hsz : ((l.toArray.size : Nat) : Int) + 1 = ((l.length + 1 : Nat) : Int) := by rw [List.size_toArray]; omega
  rw [hsz] at hr
  refine loop_rangeE (env := envOfC nm lawScope L a cd) (n := l.length + 1) rfl hr (small_one (by decide) (by decide) (by omega) (by omega)) (by rw [rangeSize_nat]; omega) S4
    (fun i vs' news' => ∃ p n tp av c2' o' v₀', news' = (L + 1, o') :: (PL, listOf [Value.int ((p : Nat) : Int) tp].toArray c1) :: (AS, listOf av.toArray c2') :: R ∧ o'.data = .cell v₀' ∧ Five l PL AS e n vs' ∧ p ≤ l.length ∧ i ≤ p ∧ (∀ v ∈ av, ∃ t, v = .int 65537 t) ∧ av.length = n ∧ n ≤ 101 * i)
    ⟨0, 0, t0, [], c2, o, v₀, rfl, ho, ⟨v1, v2, v3, ⟨tl, v4⟩, tn, v5⟩, Nat.zero_le _, Nat.le_refl _, by simp, rfl, Nat.le_refl _⟩ ?_ ?_ hE
  · rintro i t vs₁ news₁ s5 own hi ⟨p, n, tp, av, c2', o', v₀', rfl, ho', ⟨y1, y2, y3, ⟨tl', y4⟩, tn', y5⟩, hp, hip, hav, hn, hn2⟩ _ hown S5
    have hL1 : ∀ q ∈ own, q.1 ≠ L + 1 := fun q hq => hown q hq _ (.head _)
    have Z' : SrcIs C l PL AS e (R ++ own) := Z.mono (fun q hq => List.mem_append_left _ hq)
      (fun q hq => by
        rcases List.mem_append.mp hq with hq | hq
        · exact Z.rp q hq
        · exact hown q hq _ (.tail _ (.head _)))
      (fun q hq => by
        rcases List.mem_append.mp hq with hq | hq
        · exact Z.ra q hq
        · exact hown q hq _ (.tail _ (.tail _ (.head _))))
    refine law_turn hBd.symm K G BL X FR gm gh S5 ho' ?_ Z' ⟨by ktr_rel, by ktr_rel, by ktr_rel, ⟨tl', by ktr_rel⟩, tn', by ktr_rel⟩ hp hl hav hn (by omega) ?_ ?_
    · intro q hq
      rcases List.mem_cons.mp hq with rfl | hq
      · exact hcn _ (.head _)
      · rcases List.mem_cons.mp hq with rfl | hq
        · exact hcn _ (.tail _ (.head _))
        · rcases List.mem_append.mp hq with hq | hq
          · exact hcn _ (.tail _ (.tail _ (List.mem_map.mpr ⟨q, hq, rfl⟩)))
          · exact hL1 q hq
    · intro s6 S6
      exact hR (R ++ own) s6 (fun q hq => List.mem_append_left _ hq) S6
    · intro p' n' tp' av' c2'' o'' v₀'' vs' s6 hpp hpl hnn hav' hn' ho'' V' S6
      exact ⟨vs', (L + 1, o'') :: (PL, listOf [Value.int ((p' : Nat) : Int) tp'].toArray c1) :: (AS, listOf av'.toArray c2'') :: R, ⟨p', n', tp', av', c2'', o'', v₀'', rfl, ho'', V', hpl, by omega, hav', hn', by omega⟩, rfl, S6⟩
  · rintro vs₁ news₁ s5 ⟨p, n, tp, av, c2', o', v₀', rfl, _, _, hp, hip, _⟩ _ _
    omega
end
end Mine

end

section
open PySem PySem.W PyProof.Rows PySem.Calls
set_option maxRecDepth 100000
namespace Mine
local macro_rules | `(tactic| ktr_rel) => `(tactic| first | assumption | with_reducible exact mem_upd | ((with_reducible refine' mem_upd_ne ?h9 ?m9); (case h9 => decide); (case m9 => ktr_rel)) | ((with_reducible refine' mem_del ?h9 ?m9); (case h9 => decide); (case m9 => ktr_rel)) | exact List.Mem.head _ | exact List.Mem.tail _ (by ktr_rel))
section
variable {prog : Program} {w : World} {A : Around} {E : Value → Shared → Prop} {s : Shared} {h₀ : Heap} {L : Addr} {s₁ : Shared} {vs : List (Str × Value)} {news R : List (Addr × Obj)} {mg mb : Str → Option Value} {a f f1 f2 : Addr} {cd : Value} {nm : Str}
  {fo fo1 fo2 : Obj} {dV kV doc pm cdv ct dV1 kV1 doc1 pm1 cdv1 ct1 dV2 kV2 doc2 pm2 ct2 : Value} {an an1 an2 : Option Addr} {params params1 params2 : Arguments} {name qual name1 qual1 name2 qual2 : Str} {body body1 body2 : List Stmt}
  {pr : Program} {loose : List Str} {mean : ExcName → Option Value}
theorem u_oct {sc : Addr} {xs : List Value} {ns : List Int} {Q : Flow → Shared → Prop} (K : Below callerA h₀ [] h₀) (G : Glo mg mb h₀) (BL : Blts mg mb)
    (FO : DefAt mg h₀ "_law_octets" octDef "script" f1 fo1 body1 dV1 kV1 doc1 pm1 cdv1 ct1 an1 params1 name1 qual1) (S : St h₀ L s₁ vs news s) (hv : (("script" : Str), Value.ref sc) ∈ vs) (hsc : h₀.IsList sc xs.toArray) (hI : IntsAre xs ns) (hlen : ns.length ≤ 63)
    (hQ : ∀ (l : List UInt8) t s', l.length ≤ 1300 → St h₀ L s₁ (upd "octets" (.bytes l.toArray t) vs) news s' → Q .next s') :
    wpAny (model prog w) (callerA.deeper (envOfC nm lawScope L a cd)) (exec (lawSt 0) (envOfC nm lawScope L a cd)) Q E s := by
  dsimp only [lawSt, List.getD, fBody, lawDef, PySem.Challenge.pw_dv0018_04, List.getElem?_cons_zero, List.getElem?_cons_succ, Option.getD_some]
  refine wpAny_Assign_Name ?_
  refine Call_ ?_
  refine e_gloE S G FO.nm ?_
  refine k_fn FO.dat ?_
  refine spliced_more ?_
  refine e_locE (env := envOfC nm lawScope L a cd) S hv ?_
  refine spliced_none ?_
  refine ⟨S.old FO.ob, ?_⟩
  refine oct_call K G FO BL S rfl rfl rfl rfl (Nat.le_of_ble_eq_true rfl) hsc hI hlen ?_
  intro l t s1 hl S1
  exact e_stE (env := envOfC nm lawScope L a cd) S1 (fun s2 S2 => hQ l t s2 hl S2)
theorem u_place {Q : Flow → Shared → Prop} (S : St h₀ L s₁ vs news s)
    (hQ : ∀ D t s', (∀ q ∈ news, q.1 < D) → St h₀ L s₁ (upd "place" (.ref D) vs) ((D, listOf [Value.int 0 t].toArray 0) :: news) s' → Q .next s') :
    wpAny (model prog w) A (exec (lawSt 1) (envOfC nm lawScope L a cd)) Q E s := by
  dsimp only [lawSt, List.getD, fBody, lawDef, PySem.Challenge.pw_dv0018_04, List.getElem?_cons_zero, List.getElem?_cons_succ, Option.getD_some]
  refine wpAny_Assign_Name ?_
  refine List_ ?_
  refine spliced_more ?_
  refine e_int S ?_
  intro t1 s1 S1
  refine spliced_none ?_
  refine e_lst S1 (by simp) ?_
  intro D s2 S2 hlt
  exact e_stE (env := envOfC nm lawScope L a cd) S2 (fun s3 S3 => hQ D t1 s3 hlt S3)
theorem u_asked {Q : Flow → Shared → Prop} (S : St h₀ L s₁ vs news s)
    (hQ : ∀ D s', (∀ q ∈ news, q.1 < D) → St h₀ L s₁ (upd "asked" (.ref D) vs) ((D, listOf ([] : List Value).toArray 0) :: news) s' → Q .next s') :
    wpAny (model prog w) A (exec (lawSt 2) (envOfC nm lawScope L a cd)) Q E s := by
  dsimp only [lawSt, List.getD, fBody, lawDef, PySem.Challenge.pw_dv0018_04, List.getElem?_cons_zero, List.getElem?_cons_succ, Option.getD_some]
  refine wpAny_Assign_Name ?_
  refine List_ ?_
  refine spliced_none ?_
  refine e_lst S (by simp) ?_
  intro D s2 S2 hlt
  exact e_stE (env := envOfC nm lawScope L a cd) S2 (fun s3 S3 => hQ D s3 hlt S3)
theorem u_reads {Q : Flow → Shared → Prop} (S : St h₀ L s₁ vs news s)
    (hQ : ∀ t s', St h₀ L s₁ (upd "reads" (.int 0 t) vs) news s' → Q .next s') :
    wpAny (model prog w) A (exec (lawSt 4) (envOfC nm lawScope L a cd)) Q E s := by
  dsimp only [lawSt, List.getD, fBody, lawDef, PySem.Challenge.pw_dv0018_04, List.getElem?_cons_zero, List.getElem?_cons_succ, Option.getD_some]
  refine wpAny_Assign_Name ?_
  refine e_int S ?_
  intro t1 s1 S1
  exact e_stE (env := envOfC nm lawScope L a cd) S1 (fun s3 S3 => hQ t1 s3 S3)
theorem u_source {l : List UInt8} {tO : Tok} {C PL AS c P : Addr} {KF : Frag} {Q : Flow → Shared → Prop} (K : Below callerA h₀ [] h₀) (T : Top pr loose mean mg mb h₀) (CH : CodeHd h₀ c P) (G : Glo mg mb h₀) (X : HX mg h₀ "HTTPException" C) (XF : KF.In h₀) (hkc : keepIn KF (.ref C) = true)
    (FS : SrcDefAt mg h₀ f2 fo2 c body2 dV2 kV2 doc2 pm2 ct2 an2 params2 name2 qual2)
    (S : St h₀ L s₁ vs ((P, tabObj #[]) :: news) s) (hP : ∀ q ∈ news, q.1 ≠ P) (h1 : (("octets" : Str), Value.bytes l.toArray tO) ∈ vs) (h2 : (("place" : Str), Value.ref PL) ∈ vs) (h3 : (("asked" : Str), Value.ref AS) ∈ vs)
    (hQ : ∀ e own s', (∃ ps, (P, tabObj ps) ∈ own) → (∀ q ∈ own, ∀ q' ∈ news, q.1 ≠ q'.1) → (∃ t d od f, (e, excObj C t (some d)) ∈ own ∧ (d, od) ∈ own ∧ d ≠ e ∧ OneName "readline" (.ref f) od ∧ LineIs l PL AS f own) → St h₀ L s₁ (upd "source" (.ref e) vs) (own ++ news) s' → Q .next s') :
    wpAny (model prog w) (callerA.deeper (envOfC nm lawScope L a cd)) (exec (lawSt 3) (envOfC nm lawScope L a cd)) Q E s := by
  dsimp only [lawSt, List.getD, fBody, lawDef, PySem.Challenge.pw_dv0018_04, List.getElem?_cons_zero, List.getElem?_cons_succ, Option.getD_some]
  refine wpAny_Assign_Name ?_
  refine Call_ ?_
  refine e_gloE S G FS.nm ?_
  refine k_fn FS.dat ?_
  refine spliced_more ?_
  refine e_locE (env := envOfC nm lawScope L a cd) S h1 ?_
  refine spliced_more ?_
  refine e_locE (env := envOfC nm lawScope L a cd) S h2 ?_
  refine spliced_more ?_
  refine e_locE (env := envOfC nm lawScope L a cd) S h3 ?_
  refine spliced_none ?_
  refine ⟨S.old FS.ob, ?_⟩
  refine src_call (env := envOfC nm lawScope L a cd) K T CH G X XF hkc FS S hP rfl rfl rfl (Nat.le_of_ble_eq_true rfl) ?_
  intro e own s1 hPs hown hex S1
  exact e_stE (env := envOfC nm lawScope L a cd) S1 (fun s2 S2 => hQ e own s2 hPs hown hex S2)
theorem Blts.of {mg mb : Str → Option Value} {p : Program} {loose : List Str} {h : Heap} (T : TopRead p loose mg mb h) (h1 : mg "len" = none) (h2 : mg "type" = none) (h3 : mg "bytes" = none) (h4 : mg "range" = none) (h5 : mg "min" = none) (h6 : mg "sum" = none) : Blts mg mb :=
  ⟨⟨h1, (T.builtins _ (by decide)).trans (by boot_by_name)⟩, ⟨h2, (T.builtins _ (by decide)).trans (by boot_by_name)⟩, ⟨h3, (T.builtins _ (by decide)).trans (by boot_by_name)⟩, ⟨h4, (T.builtins _ (by decide)).trans (by boot_by_name)⟩,
   ⟨h5, (T.builtins _ (by decide)).trans (by boot_by_name)⟩, ⟨h6, (T.builtins _ (by decide)).trans (by boot_by_name)⟩⟩
theorem lt_sne {x y : Nat} (h : x < y) : x ≠ y + 1 := by omega
set_option maxHeartbeats 4000000 in
theorem law_body {Bd : List Stmt} (hBd : Bd = fBody lawDef) {sc : Addr} {xs : List Value} {ns : List Int} {tm th : Tok} {C c P : Addr} {KF : Frag} {o : Obj} {v₀ : Option Value} {Q : Flow → Shared → Prop} (K : Below callerA h₀ [] h₀) (T : Top pr loose mean mg mb h₀) (CH : CodeHd h₀ c P) (G : Glo mg mb h₀) (BL : Blts mg mb) (X : HX mg h₀ "HTTPException" C) (XF : KF.In h₀) (hkc : keepIn KF (.ref C) = true)
    (FR : DefAt mg h₀ "_read_headers" readDef "fp" f fo body dV kV doc pm cdv ct an params name qual) (gm : mg "_MAXLINE" = some (.int 65536 tm)) (gh : mg "_MAXHEADERS" = some (.int 100 th))
    (FO : DefAt mg h₀ "_law_octets" octDef "script" f1 fo1 body1 dV1 kV1 doc1 pm1 cdv1 ct1 an1 params1 name1 qual1)
    (FS : SrcDefAt mg h₀ f2 fo2 c body2 dV2 kV2 doc2 pm2 ct2 an2 params2 name2 qual2)
    (hE : PassesOwn (model prog w) (callerA.deeper (envOfC nm lawScope L a cd)) (envOfC nm lawScope L a cd) E)
    (S : St h₀ L s₁ [(("script" : Str), Value.ref sc)] [(L + 1, o), (P, tabObj #[])] s) (ho : o.data = .cell v₀) (hPL : P < L) (hsc : h₀.IsList sc xs.toArray) (hI : IntsAre xs ns) (hlen : ns.length ≤ 63)
    (hQ : ∀ ps R s', (P, tabObj ps) ∈ R → St h₀ L s₁ [] R s' → Q (.ret (.bool true)) s') :
    wpAny (model prog w) (callerA.deeper (envOfC nm lawScope L a cd)) (execs Bd (envOfC nm lawScope L a cd)) Q E s := by
  have e0 : fBody lawDef = [lawSt 0, lawSt 1, lawSt 2, lawSt 3, lawSt 4, lawSt 5, lawSt 6] := rfl
  rw [hBd, e0]
  refine wpAny_execs_cons ?_
  refine u_oct K G BL FO S (.head _) hsc hI hlen ?_
  intro l tl s1 hl S1
  dsimp only
  refine wpAny_execs_cons ?_
  refine u_place S1 ?_
  intro PL t0 s2 hPLlt S2
  dsimp only
  refine wpAny_execs_cons ?_
  refine u_asked S2 ?_
  intro AS s3 hASlt S3
  dsimp only
  refine wpAny_execs_cons ?_
  have q1 : (L + 1 : Nat) ≠ PL := neN (Nat.ne_of_lt (ltN (hPLlt _ (.head _))))
  have q2 : P ≠ PL := neN (Nat.ne_of_lt (ltN (hPLlt _ (.tail _ (.head _)))))
  have q3 : PL ≠ AS := neN (Nat.ne_of_lt (ltN (hASlt _ (.head _))))
  have q4 : (L + 1 : Nat) ≠ AS := neN (Nat.ne_of_lt (ltN (hASlt _ (.tail _ (.head _)))))
  have q5 : P ≠ AS := neN (Nat.ne_of_lt (ltN (hASlt _ (.tail _ (.tail _ (.head _))))))
  have q6 : P ≠ L + 1 := lt_sne hPL
  have S3' : St h₀ L s₁ (upd "asked" (.ref AS) (upd "place" (.ref PL) (upd "octets" (.bytes l.toArray tl) [(("script" : Str), Value.ref sc)]))) ((P, tabObj #[]) :: (AS, listOf ([] : List Value).toArray 0) :: (PL, listOf [Value.int 0 t0].toArray 0) :: [(L + 1, o)]) s3 := S3.weak (fun _ h => h) (fun q hq => by
    simp only [List.mem_cons, List.not_mem_nil, or_false] at hq ⊢
    rcases hq with h | h | h | h
    · exact .inr (.inr (.inr h))
    · exact .inl h
    · exact .inr (.inl h)
    · exact .inr (.inr (.inl h)))
  refine u_source K T CH G X XF hkc FS S3' ?_ (by ktr_rel) (by ktr_rel) mem_upd ?_
  · intro q hq
    simp only [List.mem_cons, List.not_mem_nil, or_false] at hq
    rcases hq with rfl | rfl | rfl
    · exact Ne.symm q5
    · exact Ne.symm q2
    · exact Ne.symm q6
  intro e own s4 ⟨ps, hps⟩ hown hex S4
  dsimp only
  refine wpAny_execs_cons ?_
  refine u_reads S4 ?_
  intro tr s5 S5
  dsimp only
  refine wpAny_execs_cons ?_
  have S5' : St h₀ L s₁ _ ((L + 1, o) :: (PL, listOf [Value.int ((0 : Nat) : Int) t0].toArray 0) :: (AS, listOf ([] : List Value).toArray 0) :: own) s5 := S5.weak (fun _ h => h) (fun q hq => by
    rcases List.mem_cons.mp hq with rfl | hq
    · exact List.mem_append_right _ (.tail _ (.tail _ (.head _)))
    · rcases List.mem_cons.mp hq with rfl | hq
      · exact List.mem_append_right _ (.tail _ (.head _))
      · rcases List.mem_cons.mp hq with rfl | hq
        · exact List.mem_append_right _ (.head _)
        · exact List.mem_append_left _ hq)
  have Z : SrcIs C l PL AS e own := ⟨hex, fun q hq => hown q hq _ (.tail _ (.head _)), fun q hq => hown q hq _ (.head _), q3⟩
  refine law_loop K G BL X FR gm gh hE S5' ho ?_ Z ⟨by ktr_rel, by ktr_rel, by ktr_rel, ⟨tl, by ktr_rel⟩, tr, mem_upd⟩ hl ?_
  · intro b hb
    rcases List.mem_cons.mp hb with rfl | hb
    · exact Ne.symm q1
    · rcases List.mem_cons.mp hb with rfl | hb
      · exact Ne.symm q4
      · obtain ⟨q, hq, rfl⟩ := List.mem_map.mp hb
        exact hown q hq _ (.tail _ (.tail _ (.head _)))
  · intro R' s6 hR' S6
    dsimp only
    exact hQ ps R' s6 (hR' _ hps) S6
end
end Mine

end

open PySem PySem.W PyProof.Rows PySem.Calls Mine
set_option maxRecDepth 100000 in
set_option maxHeartbeats 8000000 in
theorem PySem.Challenge.cw_dv0018_04_holds : PySem.Challenge.rw_dv0018_04.Holds := by
  w_on
  o_law
  k_head
  (case hw => w_witness2)
  k_go0
  rename News _ _ _ _ => NN
  rename Fr _ _ _ _ => FF
  rename Below _ _ _ _ => KK
  rename IntsAre _ _ => hI
  rename ¬ ((63 : Nat) : Int) < _ => hlen
  rename Frag.In _ (ghostOf _ _) => XX
  rename Top topProg _ _ _ _ _ => TT
  rename (_ : Shared).gens = #[] => hgens
  rename CodeHd _ _ _ => CH
  rename 62 < _ => l62
  rename (ghostOf _ _).IsList _ _ => hL
  have GG : Glo _ _ _ := ⟨TT.g, TT.b, TT.nolimit⟩
  have TR := topRead_of TT
  have HC := hx_of_in (x := "HTTPException") XX TT.g (by k_is) (by kernel_rfl)
  have hkC := keep_of_in XX HC (by k_is)
  have gm := mg_of (n := "_MAXLINE") XX TT.g (by k_is)
  have gh := mg_of (n := "_MAXHEADERS") XX TT.g (by k_is)
  have BL := Blts.of TR (mg_none_of XX TT.g (by k_is)) (mg_none_of XX TT.g (by k_is)) (mg_none_of XX TT.g (by k_is)) (mg_none_of XX TT.g (by k_is)) (mg_none_of XX TT.g (by k_is)) (mg_none_of XX TT.g (by k_is))
  obtain ⟨f, fo, bd, dV, kV, doc, pm, cdv, ct, an, params, name, qual, FR⟩ : ∃ f fo bd dV kV doc pm cdv ct an params name qual, DefAt _ _ "_read_headers" readDef "fp" f fo bd dV kV doc pm cdv ct an params name qual :=
    ⟨_, _, _, _, _, _, _, _, _, _, _, _, _, rfl, mg_of XX TT.g (by k_is), XX _ _ (by k_is), rfl, codeRec_of XX (by k_is), fun v => rfl⟩
  obtain ⟨f1, fo1, bd1, dV1, kV1, doc1, pm1, cdv1, ct1, an1, params1, name1, qual1, FO⟩ : ∃ f fo bd dV kV doc pm cdv ct an params name qual, DefAt _ _ "_law_octets" octDef "script" f fo bd dV kV doc pm cdv ct an params name qual :=
    ⟨_, _, _, _, _, _, _, _, _, _, _, _, _, rfl, mg_of XX TT.g (by k_is), XX _ _ (by k_is), rfl, codeRec_of XX (by k_is), fun v => rfl⟩
  obtain ⟨f2, fo2, bd2, dV2, kV2, doc2, pm2, ct2, an2, params2, name2, qual2, FS⟩ : ∃ f fo bd dV kV doc pm ct an params name qual, SrcDefAt _ _ f fo 66 bd dV kV doc pm ct an params name qual :=
    ⟨_, _, _, _, _, _, _, _, _, _, _, _, rfl, mg_of XX TT.g (by k_is), XX _ _ (by k_is), rfl, codeRec_of XX (by k_is), fun u v x => rfl⟩
  rename Obj.data _ = Data.cell _ => ho
  rename Shared => sB
  refine wpAny_mono (law_body (nm := "law") rfl KK TT CH GG BL HC XX hkC FR gm gh FO FS PassesOwn.never (s₁ := sB) (E := fun _ _ => False) ⟨rfl, rfl, rfl, ⟨_, FF, fun q hq => by rw [List.mem_singleton.mp hq]; rfl⟩, NN⟩ ho l62 hL hI (by omega) (Q := fun f s' => f = .ret (.bool true) ∧ ∃ ps R, (62, tabObj ps) ∈ R ∧ St _ sB.heap.objs.size sB [] R s') (fun ps R s' hm S' => ⟨rfl, ps, R, hm, S'⟩)) (fun f s' h => ?_) (fun _ _ h => h.elim)
  obtain ⟨rfl, ps, R, hm, S'⟩ := h
  obtain ⟨m', F', _⟩ := S'.fr
  have hg' : s'.gens = #[] := S'.gens.trans hgens
  refine ⟨goodW_bool F' hg' ?_ ?_ S'.os, GrownAt.of S'.nw hm, True.intro⟩
  · intro cls
    first | rfl | (exact raisesW_false (by wrow_none_raised) cls)
  · first | rfl | (with_unfolding_all rfl)
