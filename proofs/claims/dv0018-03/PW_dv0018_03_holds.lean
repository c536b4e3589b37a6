import PyProof.Rows.All
import Wide.All
import OpenK.AllK
import Wide.FinOn
import PySem.Challenge.RW_dv0018_03
set_option Elab.async false

section
open PySem PySem.W PyProof.Rows PySem.Calls
namespace Mine

/-- what a walk knows: the frame's known names, the ledger of made objects; the rest of the machine is as at s₁ -/
structure St (h₀ : Heap) (L : Addr) (s₁ : Shared) (vs : List (Str × Value)) (news : List (Addr × Obj)) (s : Shared) : Prop where
  gens : s.gens = s₁.gens
  drawn : s.drawn = s₁.drawn
  os : s.os = s₁.os
  fr : ∃ m, Fr h₀ L s.heap m ∧ ∀ p ∈ vs, m p.1 = some p.2
  nw : News h₀ L s.heap news

def upd (x : Str) (v : Value) (vs : List (Str × Value)) : List (Str × Value) := (x, v) :: vs.filter fun p => !(p.1 == x)
theorem mem_upd {x : Str} {v : Value} {vs : List (Str × Value)} : (x, v) ∈ upd x v vs := List.Mem.head _
theorem mem_upd_ne {x y : Str} {v u : Value} {vs : List (Str × Value)} (h : (y == x) = false) (hm : (y, u) ∈ vs) : (y, u) ∈ upd x v vs :=
  List.Mem.tail _ (List.mem_filter.mpr ⟨hm, by simp [h]⟩)
theorem mem_of_upd {x : Str} {v : Value} {vs : List (Str × Value)} {p : Str × Value} (h : p ∈ upd x v vs) : p = (x, v) ∨ (p ∈ vs ∧ p.1 ≠ x) := by
  rcases List.mem_cons.mp h with h | h
  · exact .inl h
  · obtain ⟨h1, h2⟩ := List.mem_filter.mp h
    exact .inr ⟨h1, fun e => by rw [e] at h2; simp at h2⟩

section
variable {h₀ : Heap} {L : Addr} {s₁ : Shared} {vs : List (Str × Value)} {news : List (Addr × Obj)} {s : Shared}
theorem St.tok (S : St h₀ L s₁ vs news s) (k : Nat) : St h₀ L s₁ vs news { s with toks := k } := ⟨S.gens, S.drawn, S.os, S.fr, S.nw⟩
theorem St.grow (S : St h₀ L s₁ vs news s) {h' : Heap} (k : Nat) (hk : ∀ b o, s.heap.get? b = some o → h'.get? b = some o) : St h₀ L s₁ vs news { s with heap := h', toks := k } := by
  obtain ⟨m, F, hm⟩ := S.fr
  exact ⟨S.gens, S.drawn, S.os, ⟨m, F.keptAll hk, hm⟩, S.nw.grown hk⟩
theorem St.weak (S : St h₀ L s₁ vs news s) {vs' : List (Str × Value)} {news' : List (Addr × Obj)} (hv : ∀ p ∈ vs', p ∈ vs) (hn : ∀ p ∈ news', p ∈ news) : St h₀ L s₁ vs' news' s := by
  obtain ⟨m, F, hm⟩ := S.fr
  exact ⟨S.gens, S.drawn, S.os, ⟨m, F, fun p hp => hm p (hv p hp)⟩, fun p hp => S.nw p (hn p hp)⟩
theorem St.of (S : St h₀ L s₁ vs news s) {h' : Heap} {k : Nat} {m : Str → Option Value} {vs' : List (Str × Value)} {news' : List (Addr × Obj)} (F : Fr h₀ L h' m) (hm : ∀ p ∈ vs', m p.1 = some p.2) (N : News h₀ L h' news') :
    St h₀ L s₁ vs' news' { s with heap := h', toks := k } := ⟨S.gens, S.drawn, S.os, ⟨m, F, hm⟩, N⟩
theorem St.push (S : St h₀ L s₁ vs news s) (o : Obj) (hf : o.isFreed = false := by rfl) : St h₀ L s₁ vs ((s.heap.objs.size, o) :: news) { s with heap := s.heap.push o } := by
  obtain ⟨m, F, hm⟩ := S.fr
  exact ⟨S.gens, S.drawn, S.os, ⟨m, F.push o, hm⟩, S.nw.push F o hf⟩
theorem St.lt (S : St h₀ L s₁ vs news s) : ∀ p ∈ news, p.1 < s.heap.objs.size := fun p hp => Heap.lt_size (S.nw p hp).1
theorem St.shape (S : St h₀ L s₁ vs news s) : s = { s₁ with heap := s.heap, toks := s.toks } := by
  obtain ⟨h, g, d, t, o⟩ := s
  obtain ⟨hg, hd, ho, _, _⟩ := S
  simp only at hg hd ho
  subst hg hd ho
  rfl
end

/-- the names of the module and of builtins, at the frame's ground -/
structure Glo (mg mb : Str → Option Value) (h₀ : Heap) : Prop where
  g : h₀.Ns mainGlobals mg
  b : h₀.Ns builtinsNs mb
  nolimit : h₀.NoLimit
theorem Glo.keeps {mg mb : Str → Option Value} {h h' : Heap} (G : Glo mg mb h) (hk : ∀ b o, h.get? b = some o → h'.get? b = some o) : Glo mg mb h' := ⟨G.g.keeps hk, G.b.keeps hk, G.nolimit.keeps hk⟩

section
variable {prog : Program} {w : World} {M : Model} {A : Around} {E : Value → Shared → Prop} {s : Shared} {h₀ : Heap} {L : Addr} {s₁ : Shared} {vs : List (Str × Value)} {news : List (Addr × Obj)}
  {name : Str} {scope : Scope} {a : Addr} {cd : Value} {x : Str} {pos : Pos} {v : Value} {mg mb : Str → Option Value} {env : Env}

theorem e_loc {Q : Value → Shared → Prop} (S : St h₀ L s₁ vs news s) (hx : (x, v) ∈ vs) (h : Q v s)
    (hk : scope.kind = .function := by rfl) (hl : (envOf name scope L a cd).kindOf x = some .local := by rfl) (hd : (x == ("__debug__" : Str)) = false := by decide) :
    wpAny M A (eval (.Name x pos) (envOf name scope L a cd)) Q E s := by
  obtain ⟨m, F, hm⟩ := S.fr
  exact ld F (hm _ hx) h hk hl hd
theorem e_locn {Q : Value → Shared → Prop} (S : St h₀ L s₁ vs news s) (hx : (x, v) ∈ vs) (h : Q v s)
    (hk : scope.kind = .function := by rfl) (hl : (envOf name scope L a cd).kindOf x = some .local := by rfl) :
    wpAny M A (loadName (envOf name scope L a cd) x) Q E s := by
  obtain ⟨m, F, hm⟩ := S.fr
  exact ldn F (hm _ hx) h hk hl
theorem e_blt {Q : Value → Shared → Prop} (S : St h₀ L s₁ vs news s) (G : Glo mg mb h₀) (hg : mg x = none ∧ mb x = some v) (h : Q v s)
    (hk : scope.kind = .function := by rfl) (hx : (envOf name scope L a cd).kindOf x = some .globalImplicit := by rfl) (hd : (x == ("__debug__" : Str)) = false := by decide) :
    wpAny M A (eval (.Name x pos) (envOf name scope L a cd)) Q E s := by
  obtain ⟨m, F, hm⟩ := S.fr
  exact ld_builtin_at F G.g hg.1 G.b hg.2 h hk hx hd
theorem e_glo {Q : Value → Shared → Prop} (S : St h₀ L s₁ vs news s) (G : Glo mg mb h₀) (hg : mg x = some v) (h : Q v s)
    (hk : scope.kind = .function := by rfl) (hx : (envOf name scope L a cd).kindOf x = some .globalImplicit := by rfl) (hd : (x == ("__debug__" : Str)) = false := by decide) :
    wpAny M A (eval (.Name x pos) (envOf name scope L a cd)) Q E s := by
  obtain ⟨m, F, hm⟩ := S.fr
  exact ld_global_at F G.g hg h hk hx hd
theorem e_int {i : Int} {k : Nat} {Q : Value → Shared → Prop} (S : St h₀ L s₁ vs news s) (h : ∀ t s', St h₀ L s₁ vs news s' → Q (.int i t) s') : wpAny M A (eval (.Constant (.int i) k pos) env) Q E s :=
  wpAny_Constant_int (h _ _ (S.tok _))
theorem e_byt {b : List UInt8} {k : Nat} {Q : Value → Shared → Prop} (S : St h₀ L s₁ vs news s) (h : ∀ t s', St h₀ L s₁ vs news s' → Q (.bytes b.toArray t) s') : wpAny M A (eval (.Constant (.bytes b) k pos) env) Q E s :=
  Constant_bytes (h _ _ (S.tok _))
theorem e_st {Q : Unit → Shared → Prop} (S : St h₀ L s₁ vs news s) (h : ∀ s', St h₀ L s₁ (upd x v vs) news s' → Q () s')
    (hk : scope.kind = .function := by rfl) (hl : (envOf name scope L a cd).kindOf x = some .local := by rfl) :
    wpAny M A (storeName (envOf name scope L a cd) x v) Q E s := by
  obtain ⟨m, F, hm⟩ := S.fr
  refine stN F S.nw (fun h' F' N' => h _ (S.of F' (fun p hp => ?_) N')) hk hl
  rcases mem_of_upd hp with rfl | ⟨h1, h2⟩
  · simp
  · simp only [h2, if_false]
    exact hm p h1
theorem o_add {i j : Int} {t u : Tok} {Q : Value → Shared → Prop} (S : St h₀ L s₁ vs news s) (h : ∀ t s', St h₀ L s₁ vs news s' → Q (.int (i + j) t) s') : wpAny (model prog w) A (binaryOp .Add (.int i t) (.int j u)) Q E s :=
  add_int (h _ _ (S.tok _))
theorem o_sub {i j : Int} {t u : Tok} {Q : Value → Shared → Prop} (S : St h₀ L s₁ vs news s) (h : ∀ t s', St h₀ L s₁ vs news s' → Q (.int (i - j) t) s') : wpAny (model prog w) A (binaryOp .Sub (.int i t) (.int j u)) Q E s :=
  sub_int (h _ _ (S.tok _))
theorem o_cat {b c : Array UInt8} {t u : Tok} {Q : Value → Shared → Prop} (S : St h₀ L s₁ vs news s) (hz : b.size + c.size ≤ 16777216) (h : ∀ t s', St h₀ L s₁ vs news s' → Q (.bytes (b ++ c) t) s') : wpAny (model prog w) A (binaryOp .Add (.bytes b t) (.bytes c u)) Q E s :=
  KBy.add_bytes hz fun t' k => h t' _ (S.tok k)
theorem c_len {b : Array UInt8} {t : Tok} {Q : Value → Shared → Prop} (S : St h₀ L s₁ vs news s) (hz : b.size ≤ 16777216) (h : ∀ t s', St h₀ L s₁ vs news s' → Q (.int (b.size : Nat) t) s') : wpAny (model prog w) A (call (.builtin "len") [.bytes b t]) Q E s :=
  len_bytes (Nat.le_trans hz (by decide)) (h _ _ (S.tok _))
theorem t_byt {b : Array UInt8} {t : Tok} {Q : Bool → Shared → Prop} (S : St h₀ L s₁ vs news s) (hz : b.size ≤ 16777216) (h : ∀ s', St h₀ L s₁ vs news s' → Q ((b.size : Int) != 0) s') : wpAny (model prog w) A (truthy (.bytes b t)) Q E s :=
  truthy_bytes (Nat.le_trans hz (by decide)) (h _ (S.tok _))
end
end Mine

end

section
open PySem PySem.W PyProof.Rows PySem.Calls
set_option maxRecDepth 100000
namespace Mine
namespace FP
theorem slot : Slot "bytes" "partition" "bytes.partition" :=
  .of (owner := "bytes") (n := "partition") (by rw [typeLookup_type, builtinLookup_eq_fast]; kernel_rfl) (by decide +kernel) (by decide +kernel) (by decide +kernel)
    (by first | exact .inl (by decide +kernel) | exact .inr (by decide +kernel)) (by rw [isSubtype_type]; kernel_rfl)
theorem ty : typeOf (.builtin "bytes.partition") = pure (.type "method_descriptor") := by show builtinType _ = _; rw [builtinType_eq_fast]; kernel_rfl
theorem entry : entryFor table "bytes.partition" = some Builtin.«bytes.partition» := entryFor_of_tree (by kernel_rfl)
theorem args (a b : Value) : argsOk "bytes.partition" ⟨[a, b], []⟩ := by
  unfold argsOk; rw [signature?_of (id := "bytes.partition") (n := ['n', 'o', 'i', 't', 'i', 't', 'r', 'a', 'p']) (o := ['s', 'e', 't', 'y', 'b']) (by kernel_rfl) FB.owner_bytes]; kernel_rfl
end FP
open Builtin

theorem extract_one (l : List UInt8) (i : Nat) (c : UInt8) : (l.toArray.extract i (i + 1) == #[c]) = (l[i]? == some c) := by
  rw [List.extract_toArray]
  have e : List.extract l i (i + 1) = l[i]?.toList := by
    rw [List.extract_eq_take_drop]
    have : i + 1 - i = 1 := by omega
    rw [this]
    cases h : l[i]? with
    | none => rw [List.getElem?_eq_none_iff] at h; rw [List.drop_of_length_le h]; rfl
    | some x =>
      obtain ⟨hi, rfl⟩ := List.getElem?_eq_some_iff.mp h
      rw [List.drop_eq_getElem_cons hi]; rfl
  rw [e]
  cases h : l[i]? with
  | none => rfl
  | some x => simp

/-- the first place of an octet: the list's own findIdx, none where it is the length -/
theorem find_one (l : List UInt8) (c : UInt8) : Bytes.find? l.toArray #[c] 0 l.toArray.size = if l.findIdx (· == c) < l.length then some (l.findIdx (· == c)) else none := by
  unfold Bytes.find?
  have hr : l.toArray.size + 1 - (0 + (#[c] : Array UInt8).size) = l.length := by simp
  rw [hr]
  simp only [Nat.add_zero, List.map_id']
  have hp : (fun i => l.toArray.extract i (i + (#[c] : Array UInt8).size) == #[c]) = fun i => l[i]? == some c := by
    funext i; exact extract_one l i c
  rw [hp]
  by_cases hlt : l.findIdx (· == c) < l.length
  · rw [if_pos hlt]
    rw [List.find?_range_eq_some]
    refine ⟨?_, ?_, ?_⟩
    · rw [List.getElem?_eq_getElem hlt]
      have := List.findIdx_getElem (w := hlt)
      simpa using this
    · simpa using hlt
    · intro j hj
      have h2 := List.not_of_lt_findIdx hj
      rw [List.getElem?_eq_getElem (by omega)]
      simpa using h2
  · rw [if_neg hlt]
    rw [List.find?_range_eq_none]
    intro i hi
    rw [List.getElem?_eq_getElem hi]
    have hlen : l.findIdx (· == c) = l.length := by have := List.findIdx_le_length (p := (· == c)) (xs := l); omega
    have := List.findIdx_eq_length.mp hlen l[i] (List.getElem_mem _)
    simpa using this

def tupObj (vs : List Value) : Obj := { cls := .type "tuple", data := .seq vs.toArray }
theorem selfOne {id : String} {a b : Value} : selfAndOne id ⟨[a, b], []⟩ = pure (a, b) := rfl
theorem ext_take (l : List UInt8) (i : Nat) : l.toArray.extract 0 i = (l.take i).toArray := by
  rw [List.extract_toArray, List.extract_eq_take_drop]; simp
theorem ext_drop (l : List UInt8) (i : Nat) : l.toArray.extract i l.toArray.size = (l.drop i).toArray := by
  rw [List.extract_toArray, List.extract_eq_take_drop]
  congr 1
  rw [List.take_of_length_le]
  simp
theorem partition_meets (l : List UInt8) (c : UInt8) (t u : Tok) :
    Meets («bytes.partition» ⟨[.bytes l.toArray t, .bytes #[c] u], []⟩) (fun _ R s => l.length ≤ 16777216 ∧
      if l.findIdx (· == c) < l.length then ∀ t1 t2 k, R (.ok (.ret (.ref s.heap.objs.size))) { s with heap := s.heap.push (tupObj [.bytes (l.take (l.findIdx (· == c))).toArray t1, .bytes #[c] u, .bytes (l.drop (l.findIdx (· == c) + 1)).toArray t2]), toks := k }
      else ∀ t1 k, R (.ok (.ret (.ref s.heap.objs.size))) { s with heap := s.heap.push (tupObj [.bytes l.toArray t, .bytes #[] t1, .bytes #[] t1]), toks := k }) := by
  refine .of_wp fun prog w A R s hS => ?_
  obtain ⟨hz, h⟩ := hS
  show wpAny _ _ (selfAndOne _ ⟨[.bytes l.toArray t, .bytes #[c] u], []⟩ >>= fun r => _) _ _ s
  refine wpAny_bind (wpAny_of_eq selfOne ?_)
  show wpAny _ _ (Bytes.buffer? _ (.bytes #[c] u) >>= fun r => _) _ _ s
  refine wpAny_bind (wpAny_of_eq KBy.buffer_eq ?_)
  refine bm_if_false rfl ?_
  show wpAny _ _ (Bytes.payload (.bytes l.toArray t) >>= fun r => _) _ _ s
  refine wpAny_bind (wpAny_of_eq (a := l.toArray) rfl ?_)
  show wpAny _ _ (match (if false = true then _ else Bytes.find? l.toArray #[c] 0 l.toArray.size) with | some i => _ | none => _) _ _ s
  rw [if_neg Bool.false_ne_true, find_one]
  by_cases hlt : l.findIdx (· == c) < l.length
  · rw [if_pos hlt] at h ⊢
    dsimp only
    have h1 : (l.take (l.findIdx (· == c))).toArray.size ≤ sizeLine := by rw [sizeLine_eq]; simp; omega
    have h2 : (l.drop (l.findIdx (· == c) + 1)).toArray.size ≤ sizeLine := by rw [sizeLine_eq]; simp; omega
    have e1 := ext_take l (l.findIdx (· == c))
    have e2 := ext_drop l (l.findIdx (· == c) + (#[c] : Array UInt8).size)
    refine bm_if_true rfl ?_
    rw [e1, e2]
    refine wpAny_bind (wpAny_pure ?_)
    refine wpAny_bind (wpAny_mkBytes ?_ h1)
    refine wpAny_bind (wpAny_mkBytes ?_ h2)
    refine wpAny_bind (wpAny_newObj_type ?_ (by show (_ : Nat) ≤ _; rw [sizeLine_eq]; simp))
    exact wpAny_pure ⟨_, rfl, h _ _ _⟩
  · rw [if_neg hlt] at h ⊢
    dsimp only
    refine wpAny_bind (wpAny_rule ?_)
    refine bm_if_true rfl ?_
    refine wpAny_bind (wpAny_pure ?_)
    refine wpAny_bind (wpAny_mkBytes (b := #[]) ?_ (by decide))
    refine bm_if_true rfl ?_
    refine wpAny_bind (wpAny_pure ?_)
    refine wpAny_bind (wpAny_newObj_type ?_ (by show (_ : Nat) ≤ _; rw [sizeLine_eq]; simp))
    exact wpAny_pure ⟨_, rfl, h _ _⟩

theorem starts_meets (l : List UInt8) (c : UInt8) (t u : Tok) :
    Meets («bytes.startswith» ⟨[.bytes l.toArray t, .bytes #[c] u], []⟩) (fun _ R s => R (.ok (.ret (.bool (l[0]? == some c)))) s) := by
  refine .of_wp fun prog w A R s h => ?_
  show wpAny _ _ (selfAndSome _ _ 1 3 ⟨[.bytes l.toArray t, .bytes #[c] u], []⟩ >>= fun r => _) _ _ s
  refine wpAny_bind (wpAny_of_eq (a := (Value.bytes l.toArray t, [Value.bytes #[c] u])) rfl ?_)
  refine wpAny_bind (wpAny_of_eq (a := none) rfl ?_)
  refine wpAny_bind (wpAny_of_eq (a := none) rfl ?_)
  show wpAny _ _ (Bytes.payload (.bytes l.toArray t) >>= fun r => _) _ _ s
  refine wpAny_bind (wpAny_of_eq (a := l.toArray) rfl ?_)
  show wpAny _ _ (isInstance (.bytes #[c] u) (.type "tuple") >>= fun r => _) _ _ s
  refine wpAny_bind (wpAny_isInstance (T := "bytes") (b := false) (typeIs_bytes s _ u) (by rw [isSubtype_type]; kernel_rfl) ?_)
  refine bm_if_false rfl ?_
  show wpAny _ _ (Bytes.buffer? _ (.bytes #[c] u) >>= fun r => _) _ _ s
  refine wpAny_bind (wpAny_of_eq KBy.buffer_eq ?_)
  refine wpAny_pure ⟨_, rfl, ?_⟩
  have key : ∀ b : Bool, b = (l[0]? == some c) → R (.ok (.ret (.bool b))) s := fun b hb => by rw [hb]; exact h
  refine key _ ?_
  show (if ((min ((l.toArray.size : Nat) : Int) (if ((l.toArray.size : Nat) : Int) < 0 then _ else ((l.toArray.size : Nat) : Int))) - (if (0 : Int) < 0 then _ else 0) < (((#[c] : Array UInt8).size : Nat) : Int)) then false else _) = _
  cases l with
  | nil => rfl
  | cons x r =>
    rw [if_neg (by simp; omega)]
    show ((x :: r).toArray.extract 0 (0 + 1) == #[c]) = _
    rw [extract_one]

section
variable {prog : Program} {w : World} {M : Model} {A : Around} {E : Value → Shared → Prop} {s : Shared} {h₀ : Heap} {L : Addr} {s₁ : Shared} {vs : List (Str × Value)} {news : List (Addr × Obj)}
theorem m_part {b : Array UInt8} {t : Tok} {pl : Sem Bool} {Q : Value × List Value → Shared → Prop} (h : Q (.builtin "bytes.partition", [.bytes b t]) s) : wpAny M A (getMethod (.bytes b t) "partition" pl) Q E s := by
  with_reducible exact KBd.method_of (.bytes b t) (typeIs_bytes _ _ _) FP.slot FP.ty KBd.noRef h
theorem m_starts {b : Array UInt8} {t : Tok} {pl : Sem Bool} {Q : Value × List Value → Shared → Prop} (h : Q (.builtin "bytes.startswith", [.bytes b t]) s) : wpAny M A (getMethod (.bytes b t) "startswith" pl) Q E s := by
  with_reducible exact KBd.method_of (.bytes b t) (typeIs_bytes _ _ _) FB.slot_bytes_startswith FB.type_bytes_startswith KBd.noRef h
theorem c_part {l : List UInt8} {c : UInt8} {t u : Tok} {Q : Value → Shared → Prop} (S : St h₀ L s₁ vs news s) (hz : l.length ≤ 16777216)
    (h1 : l.findIdx (· == c) < l.length → ∀ T t1 t2 s', St h₀ L s₁ vs ((T, tupObj [.bytes (l.take (l.findIdx (· == c))).toArray t1, .bytes #[c] u, .bytes (l.drop (l.findIdx (· == c) + 1)).toArray t2]) :: news) s' → Q (.ref T) s')
    (h2 : ¬ l.findIdx (· == c) < l.length → ∀ T t1 s', St h₀ L s₁ vs ((T, tupObj [.bytes l.toArray t, .bytes #[] t1, .bytes #[] t1]) :: news) s' → Q (.ref T) s') :
    wpAny (model prog w) A (call (.builtin "bytes.partition") [.bytes l.toArray t, .bytes #[c] u]) Q E s := by
  refine call_meets FP.slot (typeIs_bytes _ _ _) FP.entry (FP.args _ _) (partition_meets l c t u) ⟨hz, ?_⟩
  by_cases hlt : l.findIdx (· == c) < l.length
  · rw [if_pos hlt]
    exact fun t1 t2 k => h1 hlt _ t1 t2 _ ((S.push (tupObj _)).tok k)
  · rw [if_neg hlt]
    exact fun t1 k => h2 hlt _ t1 _ ((S.push (tupObj _)).tok k)
theorem c_starts {l : List UInt8} {c : UInt8} {t u : Tok} {Q : Value → Shared → Prop} (h : Q (.bool (l[0]? == some c)) s) :
    wpAny (model prog w) A (call (.builtin "bytes.startswith") [.bytes l.toArray t, .bytes #[c] u]) Q E s :=
  call_meets FB.slot_bytes_startswith (typeIs_bytes _ _ _) FB.entry_bytes_startswith (FB.args_bytes_startswith_2 _ _) (starts_meets l c t u) h
end

namespace FI
theorem no_iadd : typeLookup (.type "bytes") (dunderI "add") = pure none := by rw [typeLookup_type, builtinLookup_eq_fast]; kernel_rfl
end FI
section
variable {prog : Program} {w : World} {M : Model} {A : Around} {E : Value → Shared → Prop} {s : Shared} {h₀ : Heap} {L : Addr} {s₁ : Shared} {vs : List (Str × Value)} {news : List (Addr × Obj)} {env : Env}
theorem o_icat {b c : List UInt8} {t u : Tok} {Q : Value → Shared → Prop} (S : St h₀ L s₁ vs news s) (hz : b.length + c.length ≤ 16777216) (h : ∀ t s', St h₀ L s₁ vs news s' → Q (.bytes (b ++ c).toArray t) s') :
    wpAny (model prog w) A (inplaceOp .Add (.bytes b.toArray t) (.bytes c.toArray u)) Q E s := by
  refine wpAny_inplaceOp_concat (typeIs_bytes s _ t) (typeIs_bytes s _ u) FI.no_iadd KBy.noFill_bytes_add KBy.seq_bytes_add
    (call_gives FB.slot_bytes_add (typeIs_bytes s _ t) FB.entry_bytes_add (FB.args_bytes_add_2 _ _) (KBy.gives_bytes_add (KBy.tooLong_not (by simpa using hz))) ?_)
  by_cases hb : b.toArray.isEmpty = true
  · rw [if_pos hb]
    have e : b = [] := by simpa using hb
    subst e
    exact h u _ S
  · rw [if_neg hb]
    by_cases hc : c.toArray.isEmpty = true
    · rw [if_pos hc]
      have e : c = [] := by simpa using hc
      subst e
      have := h t _ S
      rw [List.append_nil] at this
      exact this
    · rw [if_neg hc]
      refine ⟨by rw [sizeLine_eq]; simpa using hz, ?_⟩
      rw [List.append_toArray]
      exact h _ _ (S.tok _)
theorem St.tup (S : St h₀ L s₁ vs news s) {T : Addr} {xs : List Value} (hm : (T, tupObj xs) ∈ news) : IsTup s.heap T xs.toArray := ⟨_, (S.nw _ hm).1, rfl, 0, rfl⟩
theorem St.ext (S : St h₀ L s₁ vs news s) {h' : Heap} (he : Heap.ExtBut s.heap.objs.size s.heap h') : St h₀ L s₁ vs news { s with heap := h' } := by
  obtain ⟨m, F, hm⟩ := S.fr
  exact ⟨S.gens, S.drawn, S.os, ⟨m, F.extBut he (Nat.le_refl _), hm⟩, S.nw.extBut he (Nat.le_refl _)⟩
theorem e_unp {elts : List Expr} {k : Nat} {pos : Pos} {T : Addr} {xs : List Value} {Q : Unit → Shared → Prop} (S : St h₀ L s₁ vs news s) (hm : (T, tupObj xs) ∈ news) (hh : A.handled = none)
    (h : ∀ s', St h₀ L s₁ vs news s' → wpAny (model prog w) A (assignInOrder ((assignEach elts env).map (·.2)) xs) Q E s')
    (hn : (assignEach elts env).length = xs.length := by rfl) (hstar : (assignEach elts env).findIdx? (·.1) = none := by rfl) :
    wpAny (model prog w) A (assign (.Tuple elts k pos) env (.ref T)) Q E s :=
  assign_Tuple_tuple hh (S.tup hm) (by rw [hn]; simp) hstar fun h' he => h _ (S.ext he)
end
end Mine

end

section
open PySem PySem.W PyProof.Rows PySem.Calls
set_option maxRecDepth 100000
namespace Mine

section
variable {prog : Program} {w : World} {M : Model} {A₀ A : Around} {E : Value → Shared → Prop} {s : Shared} {base h₀ : Heap} {L : Addr} {s₁ : Shared} {vs : List (Str × Value)} {news : List (Addr × Obj)}
  {mg mb : Str → Option Value} {env : Env} {outer : List Env} {pos : Pos} {f : Addr} {fo : Obj}

theorem St.old (S : St h₀ L s₁ vs news s) {b : Addr} {o : Obj} (h : h₀.get? b = some o) : s.heap.get? b = some o := by
  obtain ⟨m, F, _⟩ := S.fr
  exact F.keep b o h

/-- f(..), f a def of the text: the arguments, then the call -/
theorem k_fn {e : Expr} {rest : List Expr} {first : List Value} {fd : FuncData} {Q : Value → Shared → Prop} (hd : fo.data = .func fd)
    (h : wpAny M A (spliced (backTo pos (starEach (e :: rest) env))) (fun xs s' => s'.heap.get? f = some fo ∧ wpAny M A (call (.ref f) (first ++ xs)) Q E s') E s)
    (he : starEach (e :: rest) env = (false, eval e env) :: starEach rest env := by rfl) (hplain : (backTo pos (starEach rest env)).any (·.1) = false := by rfl) :
    wpAny M A (callWith pos (.ref f) first (backTo pos (starEach (e :: rest) env)) []) Q E s := by
  rw [he] at h ⊢
  refine callWith_of (P := fun h => h.get? f = some fo) (by show ((false || (backTo pos (starEach rest env)).any (·.1)) || false) = false; rw [hplain]; rfl) (fun h' ho => ?_) (evalArgs_plain h)
  refine ⟨.frame, .inl rfl, (Looks.ld (part := none) ho).andThen ?_⟩
  rw [hd]
  exact .now

/-- the call of a def of the text, its frame without cells -/
theorem c_fn {name qual : Str} {params : Arguments} {body : List Stmt} {scope : Scope} {cl : List (Str × Addr)} {dV kV doc pm cdv ct : Value} {an : Option Addr} {args : List Value} {binds : List (Str × Value)} {Q : Value → Shared → Prop}
    (B : Below A₀ base outer h₀) (S : St h₀ L s₁ vs news s) (G : Glo mg mb h₀) (hA : A.frames = some (env :: outer)) (hf : env.frame = some L) (hke : env.scope.kind = .function)
    (ho : h₀.get? f = some fo) (hd : fo.data = .func (fnX name qual params body scope cl dV kV doc pm an cdv ct)) (hcd : h₀.CodeRec cdv qual) (hroom : A.depth < recursionLimit)
    (hbind : bindArgs (fnX name qual params body scope cl dV kV doc pm an cdv ct) ⟨args, []⟩ = pure binds) (hloc : ∀ y ∈ binds, scope.names.lookup y.1 = some .local)
    (hlk : ∀ p ∈ binds, binds.reverse.lookup p.1 = some p.2)
    (h : ∀ g L' s', St g L' s₁ binds news s' → Below A base (env :: outer) g → Glo mg mb g → h₀.StaysIn g → (∀ p ∈ news, p.1 < L') →
      wpAny (model prog w) (A.deeper (envX qual scope L' f cdv cl)) (execs body (envX qual scope L' f cdv cl))
        (fun fl s'' => ∃ news', St g L' s₁ [] news' s'' ∧ (St h₀ L s₁ vs news' s'' → Q (match fl with | .ret v => v | _ => .none) s''))
        (fun e s'' => ∃ a news' hh cls xs, e = .ref a ∧ St g L' s₁ [] news' { s'' with heap := hh } ∧ Heap.MadeExcOf hh s''.heap a cls xs ∧
          ∀ h' t m, RaisedK base (env :: outer) a cls t xs news' h' → Fr h₀ L g m → (∀ p ∈ vs, m p.1 = some p.2) → g.UpToSlots h' → E (.ref a) { s'' with heap := h' }) s')
    (hcell : ∀ x ∈ scope.names, x.2 ≠ .cell) (hco : scope.isCoroutine = false := by rfl) (hgen : scope.isGenerator = false := by rfl) (hk : scope.kind = .function := by rfl)
    (hcl : cl = [] := by rfl) :
    wpAny (model prog w) A (call (.ref f) args) Q E s := by
  subst hcl
  obtain ⟨m, F, hm⟩ := S.fr
  refine wpAny_call (callX_plain B F S.nw G.nolimit hA hf hke (F.keep _ _ ho) hd (hcd.keeps F.keep) hroom (BindsTo.of_eq hbind) hloc (fun g L' h₁ Fg F' N' B' st hl => ?_) hcell hco hgen hk)
  have S' : St g L' s₁ binds news { heap := h₁, gens := s.gens, drawn := s.drawn, toks := s.toks + binds.length, os := s.os } := ⟨S.gens, S.drawn, S.os, ⟨_, F', hlk⟩, N'⟩
  refine wpAny_mono (h g L' _ S' B' (G.keeps st) st hl) (fun fl s'' hq => ?_) (fun e s'' he => ?_)
  · obtain ⟨news', S'', hq⟩ := hq
    obtain ⟨m', F'', _⟩ := S''.fr
    refine leaveK_ F'' S''.nw fun F3 N3 => ?_
    exact hq ⟨S''.gens, S''.drawn, S''.os, ⟨m, F3, hm⟩, N3⟩
  · obtain ⟨a, news', hh, cls, xs, rfl, S'', hx, he⟩ := he
    obtain ⟨m', F'', _⟩ := S''.fr
    refine leave_raiseK B' hx F'' S''.nw (fun h' t R' U' => ?_) hk
    exact he h' t m R' Fg hm U'
end
end Mine

end

section
open PySem PySem.W PyProof.Rows PySem.Calls
set_option maxRecDepth 100000
namespace Mine
def del (n : Str) (vs : List (Str × Value)) : List (Str × Value) := vs.filter fun p => !(p.1 == n)
theorem mem_del {n y : Str} {u : Value} {vs : List (Str × Value)} (h : (y == n) = false) (hm : (y, u) ∈ vs) : (y, u) ∈ del n vs := List.mem_filter.mpr ⟨hm, by simp [h]⟩

theorem eq_byt (A : Around) (s : Shared) (b c : List UInt8) (t u : Tok) : SeqAt.EqAt A s (.bytes b.toArray t) (.bytes c.toArray u) (b == c) := fun prog w E Q h => by
  unfold eqBool
  show wpAny _ _ (if (Value.bytes b.toArray t == Value.bytes c.toArray u) = true then _ else _) Q E s
  by_cases hab : (Value.bytes b.toArray t == Value.bytes c.toArray u) = true
  · rw [if_pos hab]
    have e : b.toArray = c.toArray := by have := eq_of_beq hab; injection this
    have e' : b = c := by simpa using congrArg Array.toList e
    subst e'
    exact wpAny_bind (wpAny_rule (wpAny_pure (by simpa using h)))
  · rw [if_neg hab]
    exact wpAny_bind (eq_bytes (wpAny_truthy_bool h))

section
variable {prog : Program} {w : World} {M : Model} {A₀ A : Around} {E : Value → Shared → Prop} {s : Shared} {h₀ : Heap} {L : Addr} {s₁ : Shared} {vs : List (Str × Value)} {news : List (Addr × Obj)}
  {name : Str} {scope : Scope} {a : Addr} {cd : Value} {n : Str} {pos np : Pos} {outer : List Env} {p : Program} {loose : List Str} {mg mb : Str → Option Value} {x : Str} {X T' : String}
  {b₀ : Stmt} {suite : List Stmt} {rest : List ExceptHandler}
theorem e_gone {Q : Unit → Shared → Prop} (S : St h₀ L s₁ vs news s) (h : ∀ s', St h₀ L s₁ (del n vs) news s' → Q () s')
    (hk : scope.kind = .function := by rfl) (hl : (envOf name scope L a cd).kindOf n = some .local := by rfl) :
    wpAny M A (do bindName (envOf name scope L a cd) n .none; unbindBehindTheSuite (envOf name scope L a cd) n pos) Q E s := by
  obtain ⟨m, F, hm⟩ := S.fr
  refine wpAny_nameGoes_keeps hl F.ns (by show (scope.kind == .class || (scope.kind == .module && L != mainGlobals)) = false; rw [hk]; rfl) fun h' v hn hs => h _ (S.of (F.set hn hs) (fun q hq => ?_) (S.nw.set hs))
  obtain ⟨h1, h2⟩ := List.mem_filter.mp hq
  have h3 : q.1 ≠ n := fun e => by rw [e] at h2; simp at h2
  simp only [h3, if_false]
  exact hm q h1

/-- the exception at hand: its object and the tuple of its arguments, both of the ledger -/
structure ExcIs (X : String) (e t : Addr) (xs : List Value) (oe ot : Obj) : Prop where
  cls : oe.cls = .type X
  data : ∃ ws, oe.data = .fields ws ∧ ws[0]? = some (.ref t)
  tcls : ot.cls = .type "tuple"
  tdata : ∃ k, ot.data = .seq xs.toArray k

theorem x_caught {e t : Addr} {xs : List Value} {g : Heap} {m : Str → Option Value} {Q : Flow → Shared → Prop} (K : Below A₀ h₀ outer h₀) (F : Fr h₀ L g m) (hm : ∀ q ∈ vs, m q.1 = some q.2) (U : g.UpToSlots s.heap)
    (R : RaisedK h₀ (envOf name scope L a cd :: outer) e (.type X) t xs news s.heap) (hs : s.gens = s₁.gens ∧ s.drawn = s₁.drawn ∧ s.os = s₁.os)
    (T : TopRead p loose mg mb h₀) (hv : bootBuiltins x = some (.type T'))
    (hexc : isSubtype (.type T') (.type "BaseException") = pure true) (hnt : isSubtype (.type ((Manifest.find? T').elim "type" fun y => y.metatype)) (.type "tuple") = pure false) (hsub : isSubtype (.type X) (.type T') = pure true)
    (h1 : x ∉ startupNames) (h2 : x ∉ loose) (h3 : x ∉ (recsOf p).map (·.name)) (h4 : x ∉ (litsOf p).map (·.1)) (h4c : x ∉ (clssOf p loose).map (·.name)) (hn : x ≠ "__name__")
    (k : ∀ s' oe ot, St h₀ L s₁ (upd n (.ref e) vs) ((e, oe) :: (t, ot) :: news) s' → ExcIs X e t xs oe ot →
      wpAny (model prog w) ((A₀.deeper (envOf name scope L a cd)).mark (some (.ref e))) (execs (b₀ :: suite) (envOf name scope L a cd))
        (fun f s₄ => wpAny (model prog w) (A₀.deeper (envOf name scope L a cd)) (do bindName (envOf name scope L a cd) n .none; unbindBehindTheSuite (envOf name scope L a cd) n pos) (fun _ s₅ => Q f s₅) E s₄)
        (AsSuiteRaised (model prog w) ((A₀.deeper (envOf name scope L a cd)).mark (some (.ref e))) (envOf name scope L a cd) n pos (notedBy (model prog w) ((A₀.deeper (envOf name scope L a cd)).mark (some (.ref e))) (envOf name scope L a cd) (cameBackBy (model prog w) (A₀.deeper (envOf name scope L a cd)) (envOf name scope L a cd) E)))
        s')
    (hk : scope.kind = .function := by rfl) (hlo : (envOf name scope L a cd).kindOf n = some .local := by rfl) (hx : (envOf name scope L a cd).kindOf x = some .globalImplicit := by rfl) (hd : (x == ("__debug__" : Str)) = false := by decide) :
    wpAny (model prog w) (A₀.deeper (envOf name scope L a cd)) (noteFrame (.ref e) (envOf name scope L a cd))
      (fun _ s₂ => wpAny (model prog w) (A₀.deeper (envOf name scope L a cd)) (setFlight (.ref e) none) (fun _ s₃ =>
        wpAny (model prog w) (A₀.deeper (envOf name scope L a cd)) (handleBy (.ref e) (envOf name scope L a cd) (.ExceptHandler (some (.Name x np)) (some n) (b₀ :: suite) pos :: rest)) Q E s₃) E s₂) E s := by
  refine caught_KB K F U R T hv hexc hnt hsub (fun h' n₂ tk F' N₂ G' N' => ?_) h1 h2 h3 h4 h4c hn hk hlo hx hd
  obtain ⟨oe, ot, ws, nt, m1, m2, c1, d1, w0, c2, d2⟩ := G'
  refine k _ oe ot ⟨hs.1, hs.2.1, hs.2.2, ⟨_, F', fun q hq => ?_⟩, ?_⟩ ⟨c1, ⟨ws, d1, w0⟩, c2, nt, d2⟩
  · rcases mem_of_upd hq with rfl | ⟨q1, q2⟩
    · simp
    · simp only [q2, if_false]
      exact hm q q1
  · intro q hq
    rcases List.mem_cons.mp hq with rfl | hq
    · exact N₂ _ m1
    · rcases List.mem_cons.mp hq with rfl | hq
      · exact N₂ _ m2
      · exact N' q hq

theorem a_args {e t : Addr} {oe ot : Obj} {xs : List Value} {expr : Bool} {Q : Value → Shared → Prop} (FX : ExcAttrFacts X) (S : St h₀ L s₁ vs news s) (he : (e, oe) ∈ news) (x : ExcIs X e t xs oe ot) (h : ∀ s', St h₀ L s₁ vs news s' → Q (.ref t) s') :
    wpAny (model prog w) A (getAttr (.ref e) "args" expr) Q E s := by
  obtain ⟨ws, hd, h0⟩ := x.data
  obtain ⟨hp, g, d, tk, o⟩ := s
  exact args_attr FX (S.nw _ he).1 x.cls hd h0 (h _ (S.tok _))
theorem t_type {e : Addr} {oe : Obj} {C : Value} {Q : Value → Shared → Prop} (S : St h₀ L s₁ vs news s) (he : (e, oe) ∈ news) (hc : oe.cls = C) (hne : (C == .type "builtin_function_or_method") = false) (h : Q C s) :
    wpAny (model prog w) A (call (.type "type") [.ref e]) Q E s := by
  obtain ⟨hp, g, d, tk, o⟩ := s
  exact call_type_obj (S.nw _ he).1 (by rw [hc]; exact hne) (by rw [hc]; exact h)
theorem t_typeB {b : Array UInt8} {t : Tok} {Q : Value → Shared → Prop} (h : Q (.type "bytes") s) : wpAny (model prog w) A (call (.type "type") [.bytes b t]) Q E s := by
  obtain ⟨hp, g, d, tk, o⟩ := s
  refine wpAny_call (codeAny_of_tree ?_)
  show wpAny _ _ (callAny (.type "type") ⟨[.bytes b t], []⟩) _ _ _
  simp only [callAny]
  refine wpAny_pure ⟨Code.quiet_builtin _ (by decide +kernel), codeAny_builtin entry_type_call ?_⟩
  unfold Builtin.«type.__call__»
  dsimp only
  unfold shownTypeOf
  repeat wp_step
  exact h
theorem St.tupE (S : St h₀ L s₁ vs news s) {t e : Addr} {xs : List Value} {oe ot : Obj} (hm : (t, ot) ∈ news) (x : ExcIs X e t xs oe ot) : IsTup s.heap t xs.toArray := by
  obtain ⟨k, hk⟩ := x.tdata
  exact ⟨ot, (S.nw _ hm).1, x.tcls, k, hk⟩
/-- two tuples of one octet string each: != -/
theorem o_ne1 {l m : Addr} {b c : List UInt8} {t u : Tok} {Q : Value → Shared → Prop} (hu : A.units < cLine) (hl : IsTup s.heap l [Value.bytes b.toArray t].toArray) (hm : IsTup s.heap m [Value.bytes c.toArray u].toArray)
    (h : Q (.bool (!(b == c))) s) : wpAny (model prog w) A (compareOp .NotEq (.ref l) (.ref m)) Q E s := by
  refine SeqAt.RcNeAt.tuples (e := fun _ => b == c) hl hm hu (fun j h1 h2 => ?_) prog w E Q ?_
  · have : j = 0 := by simpa using h1
    subst this
    exact eq_byt _ _ b c t u
  · simpa [List.range_succ] using h
end
end Mine

end

section
open PySem PySem.W PyProof.Rows PySem.Calls
set_option maxRecDepth 100000
namespace Mine
section
variable {prog : Program} {w : World} {M : Model} {A : Around} {E : Value → Shared → Prop} {s : Shared} {h₀ : Heap} {L : Addr} {s₁ : Shared} {vs : List (Str × Value)} {news : List (Addr × Obj)} {env : Env} {pos : Pos}
theorem e_bool {b : Bool} {k : Nat} {Q : Value → Shared → Prop} (h : Q (.bool b) s) : wpAny M A (eval (.Constant (.bool b) k pos) env) Q E s := fun _ _ _ => h
theorem clip_nn {n : Nat} {i : Int} (h : 0 ≤ i) : clipAt n i = min i.toNat n := by
  obtain ⟨k, rfl⟩ := Int.eq_ofNat_of_zero_le h
  rw [clipAt_nat]; simp
theorem pick_hi (l : List UInt8) {i : Int} (h : 0 ≤ i) : KBy.picked l.toArray none (some i) = (l.take i.toNat).toArray := by
  rw [KBc.picked_eq]
  simp only [Option.elim, List.drop_zero, Nat.sub_zero, clip_nn h]
  congr 1
  simp only [List.size_toArray]
  rcases Nat.le_total i.toNat l.length with h1 | h1
  · rw [Nat.min_eq_left h1]
  · rw [Nat.min_eq_right h1, List.take_of_length_le h1, List.take_of_length_le (Nat.le_refl _)]
theorem pick_lo (l : List UInt8) {i : Int} (h : 0 ≤ i) : KBy.picked l.toArray (some i) none = (l.drop i.toNat).toArray := by
  rw [KBc.picked_eq]
  simp only [Option.elim, clip_nn h]
  congr 1
  simp only [List.size_toArray]
  rcases Nat.le_total i.toNat l.length with h1 | h1
  · rw [Nat.min_eq_left h1, List.take_of_length_le (by simp)]
  · rw [Nat.min_eq_right h1, List.drop_of_length_le h1, List.drop_of_length_le (Nat.le_refl _)]; simp
theorem pick_both (l : List UInt8) {i j : Int} (h : 0 ≤ i) (h' : 0 ≤ j) : KBy.picked l.toArray (some i) (some j) = ((l.drop i.toNat).take (j.toNat - i.toNat)).toArray := by
  rw [KBc.picked_eq]
  simp only [Option.elim, clip_nn h, clip_nn h']
  congr 1
  simp only [List.size_toArray]
  rcases Nat.le_total i.toNat l.length with h1 | h1
  · rw [Nat.min_eq_left h1]
    rcases Nat.le_total j.toNat l.length with h2 | h2
    · rw [Nat.min_eq_left h2]
    · rw [Nat.min_eq_right h2, List.take_of_length_le (by simp), List.take_of_length_le (by simp; omega)]
  · rw [Nat.min_eq_right h1, List.drop_of_length_le h1, List.drop_of_length_le (Nat.le_refl _)]; simp
theorem s_cut {value slice : Expr} {l : List UInt8} {t : Tok} {lv uv : Value} {lo hi : Option Int} {Q : Value → Shared → Prop} (S : St h₀ L s₁ vs news s) (hl : IsPart lv lo) (hu : IsPart uv hi) (hz : l.length ≤ 16777216)
    (h : ∀ t s', St h₀ L s₁ vs news s' → Q (.bytes (KBy.picked l.toArray lo hi) t) s')
    (hs : subscripted slice false (.bytes l.toArray t) (.ref s.heap.objs.size) = operate [.ref s.heap.objs.size, .bytes l.toArray t] (getItem (.bytes l.toArray t) (.ref s.heap.objs.size)) := by with_unfolding_all rfl)
    (ht : ∀ r, letTemporaryGo value (.bytes l.toArray t) r = pure () := by intro _; with_unfolding_all rfl) :
    wpAny (model prog w) A (subscriptTail value slice (.bytes l.toArray t) (.ref s.heap.objs.size)) Q E { s with heap := s.heap.push { cls := .type "slice", data := .fields #[lv, uv, .none] } } := by
  obtain ⟨m, F, hm⟩ := S.fr
  refine KBc.slice_K (ks := KBw.bInts l.toArray) F S.nw rfl hl hu (by rw [KBw.ints_length]; simpa using hz) (fun h' t' k F' N' _ => h t' _ (S.of F' hm N')) hs ht
theorem s_item {value slice : Expr} {l : List UInt8} {t ui : Tok} {i : Int} {Q : Value → Shared → Prop} (S : St h₀ L s₁ vs news s) (hz : l.length ≤ 16777216) (h0 : 0 ≤ i) (h1 : i < (l.length : Int)) (h : ∀ t s', St h₀ L s₁ vs news s' → Q (.int (l.getD i.toNat 0).toNat t) s')
    (hs : subscripted slice false (.bytes l.toArray t) (.int i ui) = operate [.bytes l.toArray t, .int i ui] (getItem (.bytes l.toArray t) (.int i ui)) := by with_unfolding_all rfl)
    (ht : ∀ r, letTemporaryGo value (.bytes l.toArray t) r = pure () := by intro _; with_unfolding_all rfl) :
    wpAny (model prog w) A (subscriptTail value slice (.bytes l.toArray t) (.int i ui)) Q E s :=
  KBy.item_N (Nat.le_trans hz (by decide)) h0 h1 (h _ _ (S.tok _)) hs ht
theorem e_tup {vals : List Value} {Q : Value → Shared → Prop} (S : St h₀ L s₁ vs news s) (hz : vals.length ≤ 1000) (h : ∀ T s', St h₀ L s₁ vs ((T, tupObj vals) :: news) s' → (∀ p ∈ news, p.1 < T) → Q (.ref T) s') : wpAny M A (newTuple vals) Q E s :=
  wpAny_newObj_type (h _ _ (S.push (tupObj vals)) S.lt) (by show vals.toArray.size ≤ sizeLine; rw [List.size_toArray, sizeLine_eq]; omega)
end
end Mine

end

section
open PySem PySem.W PyProof.Rows PySem.Calls
set_option maxRecDepth 100000
namespace Mine
section
variable {prog : Program} {w : World} {A : Around} {E : Value → Shared → Prop} {s : Shared} {h₀ : Heap} {s₁ : Shared} {vs : List (Str × Value)} {news : List (Addr × Obj)} {env : Env}

/-- what a turn leaves -/
def TurnEnd (h₀ : Heap) (L : Addr) (s₁ : Shared) (Jn : List (Str × Value) → List (Addr × Obj) → Prop) (adr : List Addr) (own : List (Addr × Obj)) (Q : Flow → Shared → Prop) (f : Flow) (s : Shared) : Prop :=
  match f with
  | .ret v => Q (.ret v) s
  | .brk => Q .next s
  | _ => ∃ vs₂ news₂, Jn vs₂ news₂ ∧ news₂.map (·.1) = adr ∧ St h₀ L s₁ vs₂ (news₂ ++ own) s

theorem loop_St {target : Expr} {body : List Stmt} {I : Addr} {fp wr : List Addr} {n : Nat} {P : Nat → Value → Prop} {Sw : Nat → Heap → Prop} {Q : Flow → Shared → Prop} (W : Walks prog w A I fp wr n P Sw)
    (hLf : env.locals ∉ fp) (hwr : ∀ b ∈ wr, h₀.get? b = none) (hnw : ∀ p ∈ news, p.1 ∉ wr) (hst : Sw 0 s.heap) (S : St h₀ env.locals s₁ vs news s)
    (J : Nat → List (Str × Value) → List (Addr × Obj) → Prop) (h0 : J 0 vs news)
    (turn : ∀ i v vs₁ news₁ s' own, i < n → P i v → J i vs₁ news₁ → news₁.map (·.1) = news.map (·.1) → (∀ p ∈ own, p.1 ∈ fp) → Sw (i + 1) s'.heap → St h₀ env.locals s₁ vs₁ (news₁ ++ own) s' →
      wpAny (model prog w) A (letOwnedTupleGo target (.ref I) v) (fun _ s₂ => wpAny (model prog w) A (assign target env v) (fun _ s₃ =>
        wpAny (model prog w) A (execs body env) (TurnEnd h₀ env.locals s₁ (J (i + 1)) (news.map (·.1)) own Q) E s₃) E s₂) E s')
    (done : ∀ vs₁ news₁ s', J n vs₁ news₁ → news₁.map (·.1) = news.map (·.1) → St h₀ env.locals s₁ vs₁ news₁ s' → Q .next s')
    (hE : PassesOwn (model prog w) A env E) :
    codeAny (model prog w) A (.forLoop target (.ref I) body [] env) (fun r s' => match r with | .ok f => Q f s' | .error e => cameBackBy (model prog w) A env E e s') s := by
  have hLw : env.locals ∉ wr := fun h => hLf (W.sub _ h)
  have old : ∀ b o, h₀.get? b = some o → b ∉ wr := fun b o e hb => by rw [hwr b hb] at e; cases e
  have adr : ∀ news₁ : List (Addr × Obj), news₁.map (·.1) = news.map (·.1) → ∀ p ∈ news₁, p.1 ∉ wr := fun news₁ e p hp => by
    have : p.1 ∈ news₁.map (·.1) := List.mem_map.mpr ⟨p, hp, rfl⟩
    rw [e] at this
    obtain ⟨q, hq, hqe⟩ := List.mem_map.mp this
    rw [← hqe]; exact hnw q hq
  refine codeAny_forLoop_any (fun k s' => ∃ vs₁ news₁ i, Sw i s'.heap ∧ St h₀ env.locals s₁ vs₁ news₁ s' ∧ news₁.map (·.1) = news.map (·.1) ∧ J i vs₁ news₁ ∧ i ≤ n ∧ k = n + 1 - i) ?_ (n + 1) ⟨vs, news, 0, hst, S, rfl, h0, Nat.zero_le _, rfl⟩
  rintro k s' ⟨vs₁, news₁, i, hst', S', ha, hJ, hi, rfl⟩
  have next : ∀ (h₁ : Heap) (tk : Nat), (∀ b o, b ∉ wr → s'.heap.get? b = some o → h₁.get? b = some o) → St h₀ env.locals s₁ vs₁ news₁ { s' with heap := h₁, toks := tk } := fun h₁ tk hk₁ => by
    obtain ⟨m, F, hm⟩ := S'.fr
    exact S'.of ⟨F.ns.at' fun o e => hk₁ _ o hLw e, fun b o e => hk₁ b o (old b o e) (F.keep b o e), F.above⟩ hm fun p hp => ⟨hk₁ _ _ (adr _ ha p hp) (S'.nw p hp).1, (S'.nw p hp).2⟩
  by_cases hlt : i < n
  · refine W.item i _ _ _ hlt hst' fun v h₁ tk₁ hP hst₁ hk₁ => ?_
    have S₁ := next h₁ tk₁ hk₁
    have Nown : News h₀ env.locals h₁ (ownOf h₀ fp h₁) := news_ownOf hLf
    have S₂ : St h₀ env.locals s₁ vs₁ (news₁ ++ ownOf h₀ fp h₁) { s' with heap := h₁, toks := tk₁ } := ⟨S₁.gens, S₁.drawn, S₁.os, S₁.fr, fun p hp => (List.mem_append.mp hp).elim (S₁.nw p) (Nown p)⟩
    have fin : ∀ (s₃ : Shared) (vs₂ : List (Str × Value)) (news₂ : List (Addr × Obj)), J (i + 1) vs₂ news₂ → news₂.map (·.1) = news.map (·.1) → St h₀ env.locals s₁ vs₂ (news₂ ++ ownOf h₀ fp h₁) s₃ →
        ∃ m, m < n + 1 - i ∧ ∃ vs₁ news₁ i, Sw i s₃.heap ∧ St h₀ env.locals s₁ vs₁ news₁ s₃ ∧ news₁.map (·.1) = news.map (·.1) ∧ J i vs₁ news₁ ∧ i ≤ n ∧ m = n + 1 - i := fun s₃ vs₂ news₂ hJ₂ ha₂ S₃ => by
      refine ⟨n + 1 - (i + 1), by omega, vs₂, news₂, i + 1, ?_, S₃.weak (fun _ h => h) (fun p hp => List.mem_append_left _ hp), ha₂, hJ₂, hlt, rfl⟩
      refine W.frame _ _ _ hst₁ fun b hb o e => ?_
      obtain ⟨m, F, hm⟩ := S₂.fr
      obtain ⟨m₃, F₃, _⟩ := S₃.fr
      cases hn : h₀.get? b with
      | some o₀ =>
        have : o₀ = o := by have := F.keep b o₀ hn; rw [e] at this; exact (Option.some.inj this).symm
        exact this ▸ F₃.keep b o₀ hn
      | none => exact (S₃.nw _ (List.mem_append_right _ (mem_ownOf hb hn e))).1
    refine wpAny_passesOwn hE (wpAny_mono (turn i v vs₁ news₁ _ _ hlt hP hJ ha ownOf_sub hst₁ S₂) (fun _ s₂ h₂ => ?_) fun _ _ e => e)
    refine wpAny_passesOwn hE (wpAny_mono h₂ (fun _ s₃ h₃ => ?_) fun _ _ e => e)
    refine wpAny_passesOwn hE (wpAny_mono h₃ (fun f s₄ h₄ => ?_) fun _ _ e => e)
    cases f with
    | ret v => exact h₄
    | brk => exact h₄
    | next => obtain ⟨vs₂, news₂, hJ₂, ha₂, S₃⟩ := h₄; exact fin _ _ _ hJ₂ ha₂ S₃
    | cont => obtain ⟨vs₂, news₂, hJ₂, ha₂, S₃⟩ := h₄; exact fin _ _ _ hJ₂ ha₂ S₃
  · have hin : i = n := by omega
    subst hin
    refine W.done _ _ _ hst' fun h₁ tk₁ hk₁ => wpAny_execs_nil ?_
    exact done vs₁ news₁ _ hJ ha (next h₁ tk₁ hk₁)
end

section
variable {prog : Program} {w : World} {A : Around} {E : Value → Shared → Prop} {s : Shared} {h₀ : Heap} {L : Addr} {s₁ : Shared} {vs : List (Str × Value)} {news : List (Addr × Obj)} {name : Str} {scope : Scope} {a : Addr} {cd : Value} {x : Str} {px : Pos} {body : List Stmt} {Q : Flow → Shared → Prop}
theorem St.freshAt (S : St h₀ L s₁ vs news s) : h₀.get? s.heap.objs.size = none := by
  obtain ⟨m, F, _⟩ := S.fr
  exact next_is_new F
theorem St.Llt (S : St h₀ L s₁ vs news s) : L < s.heap.objs.size := by
  obtain ⟨m, F, _⟩ := S.fr
  exact F.ns.lt

/-- for x in range(..): by what holds between the turns -/
theorem loop_range {r : Addr} {a₀ b₀ c₀ : Int} {t₀ u₀ v₀ : Tok} {n : Nat} (hh : A.handled = none) (hr : IsRange s.heap r a₀ b₀ c₀ t₀ u₀ v₀) (hsmall : Builtin.Range.small a₀ b₀ c₀ = true) (hn : Builtin.Range.rangeSize a₀ b₀ c₀ = (n : Int))
    (S : St h₀ L s₁ vs news s) (J : Nat → List (Str × Value) → List (Addr × Obj) → Prop) (h0 : J 0 vs news)
    (turn : ∀ i t vs₁ news₁ s' own, i < n → J i vs₁ news₁ → news₁.map (·.1) = news.map (·.1) → (∀ p ∈ own, ∀ q ∈ news, p.1 ≠ q.1) → St h₀ L s₁ (upd x (.int (a₀ + i * c₀) t) vs₁) (news₁ ++ own) s' →
      wpAny (model prog w) A (execs body (envOf name scope L a cd)) (TurnEnd h₀ L s₁ (J (i + 1)) (news.map (·.1)) own Q) E s')
    (done : ∀ vs₁ news₁ s', J n vs₁ news₁ → news₁.map (·.1) = news.map (·.1) → St h₀ L s₁ vs₁ news₁ s' → Q .next s')
    (hE : PassesOwn (model prog w) A (envOf name scope L a cd) E) (hk : scope.kind = .function := by rfl) (hl : (envOf name scope L a cd).kindOf x = some .local := by rfl) :
    wpAny (model prog w) A (pyIter (.ref r)) (fun it s₂ => codeAny (model prog w) A (.forLoop (.Name x px) it body [] (envOf name scope L a cd)) (fun r s' => match r with | .ok f => Q f s' | .error e => cameBackBy (model prog w) A (envOf name scope L a cd) E e s') s₂) E s := by
  refine wpAny_pyIter_range hr hsmall ?_
  have W : Walks prog w A s.heap.objs.size [s.heap.objs.size] [s.heap.objs.size] n (fun i v => ∃ t, v = .int (a₀ + i * c₀) t) (fun i h => IsRangeIter h s.heap.objs.size (a₀ + (i : Nat) * c₀) ((n : Int) - (i : Nat)) c₀) := Walks.range hh _ a₀ c₀ n
  have Sp := S.push { cls := .type "range_iterator", data := .fields #[rawInt a₀, rawInt (Builtin.Range.rangeSize a₀ b₀ c₀), rawInt c₀] }
  refine loop_St (env := envOf name scope L a cd) W ?_ ?_ (fun p hp hI => ?_) (by show IsRangeIter _ _ _ _ _; rw [hn]; simpa using Heap.get?_push_size _ rfl) (Sp.weak (fun _ h => h) (fun p hp => .tail _ hp)) J h0 ?_ done hE
  · intro hm
    exact absurd S.Llt ((List.mem_singleton.mp hm) ▸ Nat.lt_irrefl _)
  · intro b hb
    rw [List.mem_singleton.mp hb]
    exact S.freshAt
  · exact absurd (S.lt p hp) ((List.mem_singleton.mp hI) ▸ Nat.lt_irrefl _)
  · rintro i v vs₁ news₁ s' own hi ⟨t, rfl⟩ hJ ha hown _ S'
    refine wpAny_pure (wpAny_assign_Name (e_st S' (fun s₂ S₂ => ?_) hk hl))
    refine turn i t vs₁ news₁ s₂ own hi hJ ha (fun p hp q hq e => ?_) S₂
    have h1 := List.mem_singleton.mp (hown p hp)
    exact absurd (S.lt q hq) (by rw [← e, h1]; exact Nat.lt_irrefl _)

/-- for x in a tuple of the ledger; the target any -/
theorem loop_tup {target : Expr} {T : Addr} {xs : List Value} (hh : A.handled = none) (hT : (T, tupObj xs) ∈ news) (S : St h₀ L s₁ vs news s) (J : Nat → List (Str × Value) → List (Addr × Obj) → Prop) (h0 : J 0 vs news)
    (turn : ∀ i v vs₁ news₁ s' own, xs[i]? = some v → J i vs₁ news₁ → news₁.map (·.1) = news.map (·.1) → (∀ p ∈ own, p.1 = T ∨ ∀ q ∈ news, p.1 ≠ q.1) → St h₀ L s₁ vs₁ (news₁ ++ own) s' →
      wpAny (model prog w) A (assign target (envOf name scope L a cd) v) (fun _ s₃ => wpAny (model prog w) A (execs body (envOf name scope L a cd)) (TurnEnd h₀ L s₁ (J (i + 1)) (news.map (·.1)) own Q) E s₃) E s')
    (done : ∀ vs₁ news₁ s', J xs.length vs₁ news₁ → news₁.map (·.1) = news.map (·.1) → St h₀ L s₁ vs₁ news₁ s' → Q .next s')
    (hE : PassesOwn (model prog w) A (envOf name scope L a cd) E) :
    wpAny (model prog w) A (pyIter (.ref T)) (fun it s₂ => codeAny (model prog w) A (.forLoop target it body [] (envOf name scope L a cd)) (fun r s' => match r with | .ok f => Q f s' | .error e => cameBackBy (model prog w) A (envOf name scope L a cd) E e s') s₂) E s := by
  have ht : s.heap.IsTuple T xs.toArray := S.tup hT
  have hne : T ≠ s.heap.objs.size := Nat.ne_of_lt (S.lt _ hT)
  refine wpAny_pyIter_tuple ht ?_
  have W := Walks.tuple (prog := prog) (w := w) hh s.heap.objs.size T hne xs.toArray
  have Sp := S.push { cls := .type "tuple_iterator", data := .fields #[.ref T, .int 0 0] }
  have hLT : L ≠ T := fun e => (S.nw _ hT).2.1 e.symm
  refine loop_St (env := envOf name scope L a cd) W ?_ ?_ (fun p hp hI => ?_) ⟨⟨_, Heap.get?_push_size _ rfl, rfl, rfl⟩, ht.at fun o e => Heap.get?_push_of_some _ e⟩ (Sp.weak (fun _ h => h) (fun p hp => .tail _ hp)) J h0 ?_ (fun vs₁ news₁ s' hJ => done vs₁ news₁ s' (by simpa using hJ)) hE
  · intro hm
    rcases List.mem_cons.mp hm with e | hm
    · exact absurd S.Llt (by rw [show L = s.heap.objs.size from e]; exact Nat.lt_irrefl _)
    · exact hLT (List.mem_singleton.mp hm)
  · intro b hb
    rw [List.mem_singleton.mp hb]
    exact S.freshAt
  · exact absurd (S.lt p hp) ((List.mem_singleton.mp hI) ▸ Nat.lt_irrefl _)
  · intro i v vs₁ news₁ s' own hi hP hJ ha hown hsw S'
    have hgo : ∀ {R : Unit → Shared → Prop}, R () s' → wpAny (model prog w) A (letOwnedTupleGo target (.ref s.heap.objs.size) v) R E s' := fun {R} hR => by
      obtain ⟨oi, hoi, hci, hdi⟩ := hsw.1
      unfold letOwnedTupleGo
      split
      · cases v <;> first
          | exact wpAny_pure hR
          | (refine wpAny_bind (wpAny_load hoi ?_); rw [hci, hdi]; exact wpAny_pure hR)
      · cases v <;> first
          | exact wpAny_pure hR
          | (refine wpAny_bind (wpAny_load hoi ?_); rw [hci, hdi]; exact wpAny_pure hR)
      · exact wpAny_pure hR
    refine hgo (turn i v vs₁ news₁ s' own (by simpa using hP) hJ ha (fun p hp => ?_) S')
    rcases List.mem_cons.mp (hown p hp) with h1 | h1
    · exact .inr fun q hq e => absurd (S.lt q hq) (by rw [← e, h1]; exact Nat.lt_irrefl _)
    · exact .inl (List.mem_singleton.mp h1)
end
end Mine

end

section
open PySem PySem.W PyProof.Rows PySem.Calls
set_option maxRecDepth 100000
namespace Mine
section
variable {prog : Program} {w : World} {M : Model} {A : Around} {E : Value → Shared → Prop} {s : Shared} {h₀ : Heap} {L : Addr} {s₁ : Shared} {vs : List (Str × Value)} {news : List (Addr × Obj)}
theorem St.lst (S : St h₀ L s₁ vs news s) {l : Addr} {xs : List Value} {c : Nat} (hm : (l, listOf xs.toArray c) ∈ news) : s.heap.IsList l xs.toArray := ⟨_, (S.nw _ hm).1, rfl, c, rfl⟩
theorem s_litem {value slice : Expr} {l : Addr} {xs : List Value} {k : Int} {u : Tok} {v : Value} {Q : Value → Shared → Prop} (hl : s.heap.IsList l xs.toArray) (h0 : 0 ≤ k) (hhi : k < 2 ^ 63) (hx : xs[k.toNat]? = some v) (h : Q v s)
    (hs : subscripted slice false (.ref l) (.int k u) = operate [.ref l, .int k u] (getItem (.ref l) (.int k u)) := by with_unfolding_all rfl) :
    wpAny (model prog w) A (subscriptTail value slice (.ref l) (.int k u)) Q E s :=
  tail_any hl.typeIs slot_list_getitem.lookup (wpAny_getItem_list hl h0 hhi (by simpa using hx) h) hs

theorem c_range1 {n : Int} {t : Tok} {Q : Value → Shared → Prop} (S : St h₀ L s₁ vs news s) (h : ∀ r t₀ u₀ v₀ s', St h₀ L s₁ vs news s' → IsRange s'.heap r 0 n 1 t₀ u₀ v₀ → Q (.ref r) s') : wpAny (model prog w) A (call (.type "range") [.int n t]) Q E s :=
  call_range_1 (h _ _ _ _ _ (((S.push _).weak (fun _ h => h) (fun _ hp => .tail _ hp)).tok _) (IsRange.new _ _ _ _ _ _ _))
theorem c_range3 {x y c : Int} {t u v : Tok} {Q : Value → Shared → Prop} (S : St h₀ L s₁ vs news s) (hc : c ≠ 0) (hp : c.natAbs < 1073741824) (h : ∀ r t₀ u₀ v₀ s', St h₀ L s₁ vs news s' → IsRange s'.heap r x y c t₀ u₀ v₀ → Q (.ref r) s') :
    wpAny (model prog w) A (call (.type "range") [.int x t, .int y u, .int c v]) Q E s :=
  call_range_3 hc (h _ _ _ _ _ ((S.push _).weak (fun _ h => h) (fun _ hp => .tail _ hp)) (IsRange.new _ _ _ _ _ _ _)) (.inl (PyProof.noPylong_small (by omega)))
theorem s_set {D : Addr} {xs : List Value} {c : Nat} {ns : List Int} {k i : Int} {t u : Tok} {rest : List (Addr × Obj)} {Q : Unit → Shared → Prop} (S : St h₀ L s₁ vs ((D, listOf xs.toArray c) :: rest) s) (hr : ∀ p ∈ rest, p.1 ≠ D) (hi : IntsAre xs ns) (h0 : 0 ≤ k) (h1 : k < ns.length) (hfit : k < 2 ^ 63)
    (h : ∀ s', St h₀ L s₁ vs ((D, listOf (xs.set k.toNat (.int i u)).toArray c) :: rest) s' → Q () s') : wpAny (model prog w) A (setItem (.ref D) (.int k t) (.int i u)) Q E s := by
  obtain ⟨m, F, hm⟩ := S.fr
  exact ksa_set F S.nw (Upd.head hr) hi h0 h1 hfit fun h' F' N' _ _ _ => h _ (S.of F' hm N')
theorem o_lmul {l : Addr} {xs : List Value} {c : Nat} {n : Int} {u : Tok} {Q : Value → Shared → Prop} (S : St h₀ L s₁ vs news s) (hm : (l, listOf xs.toArray c) ∈ news) (h0 : 0 ≤ n) (hhi : n < 2 ^ 63) (hsz : xs.length * n.toNat ≤ 256)
    (h : ∀ D s', St h₀ L s₁ vs ((D, listOf ((List.replicate n.toNat xs).flatten).toArray 0) :: news) s' → Q (.ref D) s') : wpAny (model prog w) A (binaryOp .Mult (.ref l) (.int n u)) Q E s := by
  obtain ⟨m, F, hm'⟩ := S.fr
  exact KMa.mul F S.nw (S.lst hm) (by omega) hhi hsz rfl fun D h' F' N' _ => h D _ (S.of (k := s.toks) F' hm' N')
theorem e_lst {vals : List Value} {Q : Value → Shared → Prop} (S : St h₀ L s₁ vs news s) (hz : vals.length ≤ 10000) (h : ∀ D s', St h₀ L s₁ vs ((D, listOf vals.toArray 0) :: news) s' → (∀ p ∈ news, p.1 < D) → Q (.ref D) s') : wpAny M A (newList vals) Q E s :=
  wpAny_newObj_type (h _ _ (S.push (listOf vals.toArray 0)) S.lt) (by show vals.toArray.size ≤ sizeLine; rw [List.size_toArray, sizeLine_eq]; omega)
theorem rep_one {α : Type} (n : Nat) (x : α) : (List.replicate n [x]).flatten = List.replicate n x := by
  induction n with
  | zero => rfl
  | succ n ih => simp [List.replicate_succ, ih]
theorem ints_rep (n : Nat) (i : Int) (t : Tok) : IntsAre (List.replicate n (.int i t)) (List.replicate n i) := by
  induction n with
  | zero => exact .nil
  | succ n ih => exact .cons _ _ ih

theorem c_mkb {D : Addr} {ys : List Value} {ns : List Int} {Q : Value → Shared → Prop} (S : St h₀ L s₁ vs news s) (hh : A.handled = none) (hl : s.heap.IsList D ys.toArray) (hi : IntsAre ys ns) (hr : KBa.In ns) (hn : ns.length ≤ 16777216)
    (h : ∀ t s', St h₀ L s₁ vs news s' → Q (.bytes (ns.map fun n => n.toNat.toUInt8).toArray t) s') : wpAny (model prog w) A (call (.type "bytes") [.ref D]) Q E s := by
  obtain ⟨m, F, hm⟩ := S.fr
  exact KBa.make_K F S.nw hh hl hi hr hn fun h' t' k F' N' _ => h t' _ (S.of F' hm N')
end
end Mine

end

section
open PySem PySem.W PyProof.Rows PySem.Calls
set_option maxRecDepth 100000
namespace Mine

/-- what a namespace's object says of the names -/
def ObjHas (o : Obj) (vs : List (Str × Value)) : Prop := ∃ (m : Str → Option Value), (∃ es ep, o.data = .dict es ep ∧ StrKeys es ∧ ∀ name, nsFind es name = m name) ∧ ∀ p ∈ vs, m p.1 = some p.2

section
variable {prog : Program} {w : World} {M : Model} {A : Around} {E : Value → Shared → Prop} {s : Shared} {h₀ : Heap} {L C : Addr} {s₁ : Shared} {vs vsC vsL : List (Str × Value)} {news rest : List (Addr × Obj)}
  {x : Str} {pos : Pos} {v : Value} {mg mb : Str → Option Value} {env : Env}

theorem St.above (S : St h₀ L s₁ vs news s) : h₀.objs.size ≤ L := by
  obtain ⟨m, F, _⟩ := S.fr
  exact F.above
/-- two namespaces at hand: the one as the frame, the other as an object of the ledger -/
theorem St.swap {oL : Obj} (S : St h₀ C s₁ vsC ((L, oL) :: rest) s) (hL : ObjHas oL vsL) (ha : h₀.objs.size ≤ L) (hr : ∀ p ∈ rest, p.1 ≠ L) : ∃ oC, ObjHas oC vsC ∧ St h₀ L s₁ vsL ((C, oC) :: rest) s := by
  obtain ⟨m, F, hm⟩ := S.fr
  obtain ⟨oC, es, ep, hC, d1, d2, d3⟩ := id F.ns
  have hl := S.nw _ (.head _)
  obtain ⟨mL, ⟨esL, epL, e1, e2, e3⟩, hmL⟩ := hL
  refine ⟨oC, ⟨m, ⟨es, ep, d1, d2, d3⟩, hm⟩, S.gens, S.drawn, S.os, ⟨mL, ⟨⟨oL, esL, epL, hl.1, e1, e2, e3⟩, F.keep, ha⟩, hmL⟩, fun p hp => ?_⟩
  rcases List.mem_cons.mp hp with rfl | hp
  · exact ⟨hC, Ne.symm hl.2.1, Heap.get?_none_of_le F.above⟩
  · exact ⟨(S.nw p (.tail _ hp)).1, hr p hp, (S.nw p (.tail _ hp)).2.2⟩

theorem e_locE {Q : Value → Shared → Prop} (S : St h₀ env.locals s₁ vs news s) (hx : (x, v) ∈ vs) (h : Q v s)
    (hk : env.scope.kind = .function := by rfl) (hl : env.kindOf x = some .local := by rfl) (hd : (x == ("__debug__" : Str)) = false := by decide) :
    wpAny M A (eval (.Name x pos) env) Q E s := by
  obtain ⟨m, F, hm⟩ := S.fr
  exact wpAny_Name (wpAny_loadName_local hk hl F.ns (hm _ hx) h) hd
theorem e_bltE {Q : Value → Shared → Prop} (S : St h₀ L s₁ vs news s) (G : Glo mg mb h₀) (hg : mg x = none ∧ mb x = some v) (h : Q v s)
    (hk : env.scope.kind = .function := by rfl) (hx : env.kindOf x = some .globalImplicit := by rfl) (h1 : env.globals = mainGlobals := by rfl) (h2 : env.builtins = builtinsNs := by rfl) (hd : (x == ("__debug__" : Str)) = false := by decide) :
    wpAny M A (eval (.Name x pos) env) Q E s := by
  obtain ⟨m, F, hm⟩ := S.fr
  exact Name_function_global hk hx (loadGlobal_builtin (env := env) (by rw [h1]; exact G.g.keeps F.keep) hg.1 (by rw [h2]; exact G.b.keeps F.keep) hg.2 h) hd
theorem e_gloE {Q : Value → Shared → Prop} (S : St h₀ L s₁ vs news s) (G : Glo mg mb h₀) (hg : mg x = some v) (h : Q v s)
    (hk : env.scope.kind = .function := by rfl) (hx : env.kindOf x = some .globalImplicit := by rfl) (h1 : env.globals = mainGlobals := by rfl) (hd : (x == ("__debug__" : Str)) = false := by decide) :
    wpAny M A (eval (.Name x pos) env) Q E s := by
  obtain ⟨m, F, hm⟩ := S.fr
  exact Name_function_global hk hx (loadGlobal_global (env := env) (by rw [h1]; exact G.g.keeps F.keep) hg h) hd
theorem e_stE {Q : Unit → Shared → Prop} (S : St h₀ env.locals s₁ vs news s) (h : ∀ s', St h₀ env.locals s₁ (upd x v vs) news s' → Q () s')
    (hk : env.scope.kind = .function := by rfl) (hl : env.kindOf x = some .local := by rfl) :
    wpAny M A (storeName env x v) Q E s := by
  obtain ⟨m, F, hm⟩ := S.fr
  refine wpAny_storeName_local hl F.ns (fun h' hn hs => h _ (S.of (F.set hn hs) (fun p hp => ?_) (S.nw.set hs))) (by rw [hk]; rfl)
  rcases mem_of_upd hp with rfl | ⟨h1, h2⟩
  · simp
  · simp only [h2, if_false]
    exact hm p h1
theorem s_app {D : Addr} {xs : List Value} {c : Nat} {y : Value} {Q : Value → Shared → Prop} (S : St h₀ L s₁ vs ((D, listOf xs.toArray c) :: rest) s) (hr : ∀ p ∈ rest, p.1 ≠ D) (hz : xs.length ≤ 16777216)
    (h : ∀ s', St h₀ L s₁ vs ((D, listOf (xs ++ [y]).toArray (c + 1)) :: rest) s' → Q .none s') : wpAny (model prog w) A (call (.builtin "list.append") [.ref D, y]) Q E s := by
  obtain ⟨m, F, hm⟩ := S.fr
  refine append_K F S.nw (Upd.head hr) (fun h' F' N' => h _ ?_) (by rw [sizeLine_eq]; simpa using hz)
  have e : xs.toArray.push y = (xs ++ [y]).toArray := by simp
  rw [e] at N'
  exact S.of (k := s.toks) F' hm N'
end

/-- iterating: the next item, and what the loop does with an owned tuple -/
structure Its (prog : Program) (w : World) (A : Around) (target : Expr) (I : Addr) (fp wr : List Addr) (n : Nat) (P : Nat → Value → Heap → Prop) (Sw : Nat → Heap → Prop) : Prop where
  sub : ∀ b ∈ wr, b ∈ fp
  frame : ∀ i h h', Sw i h → (∀ b ∈ fp, ∀ o, h.get? b = some o → h'.get? b = some o) → Sw i h'
  item : ∀ i (s : Shared) (Q : Value → Shared → Prop) (E : Value → Shared → Prop), i < n → Sw i s.heap →
    (∀ v h' tk, P i v h' → Sw (i + 1) h' → (∀ b o, b ∉ wr → s.heap.get? b = some o → h'.get? b = some o) → Q v { s with heap := h', toks := tk }) →
    wpAny (model prog w) A (pyNext (.ref I)) (fun r s₁ => ∃ v, r = some v ∧ wpAny (model prog w) A (letOwnedTupleGo target (.ref I) v) (fun _ s₂ => Q v s₂) E s₁) E s
  done : ∀ (s : Shared) (Q : Option Value → Shared → Prop) (E : Value → Shared → Prop), Sw n s.heap →
    (∀ h' tk, (∀ b o, b ∉ wr → s.heap.get? b = some o → h'.get? b = some o) → Q none { s with heap := h', toks := tk }) → wpAny (model prog w) A (pyNext (.ref I)) Q E s
  self : ∀ i (s : Shared) (Q : Value → Shared → Prop) (E : Value → Shared → Prop), Sw i s.heap → Q (.ref I) s → wpAny (model prog w) A (pyIter (.ref I)) Q E s

theorem Its.ofName {prog : Program} {w : World} {A : Around} {x : Str} {px : Pos} {I : Addr} {fp wr : List Addr} {n : Nat} {P : Nat → Value → Prop} {Sw : Nat → Heap → Prop} (W : Walks prog w A I fp wr n P Sw) :
    Its prog w A (.Name x px) I fp wr n (fun i v _ => P i v) Sw where
  sub := W.sub
  frame := W.frame
  item := fun i s Q E hi hs hQ => W.item i s _ E hi hs fun v h' tk hP hs' hk => ⟨v, rfl, wpAny_pure (hQ v h' tk hP hs' hk)⟩
  done := W.done
  self := W.self
theorem Its.ofTuple {prog : Program} {w : World} {A : Around} {elts : List Expr} {k : Nat} {px : Pos} {I : Addr} {fp wr : List Addr} {n : Nat} {Pt : Nat → Array Value → Prop} {Sw : Nat → Heap → Prop} {Mid : Nat → Addr → Heap → Prop} (W : WalksU prog w A I fp wr n Pt Sw Mid) :
    Its prog w A (.Tuple elts k px) I fp wr n (fun i v h => ∃ T vals, v = .ref T ∧ Pt i vals ∧ h.IsTuple T vals) Sw where
  sub := W.sub
  frame := W.frame
  item := fun i s _ E hi hs hQ => W.item i s _ E hi hs fun T vals h' tk hP hT hm hk => by
    refine ⟨.ref T, rfl, W.go elts k px i T _ _ E hm fun h'' hs'' hk'' => ?_⟩
    refine hQ (.ref T) h'' tk ⟨T, vals, rfl, hP, ?_⟩ hs'' fun b o hb e => hk'' b o hb (hk b o hb e)
    exact hT.at fun o e => hk'' T o (W.apart i T _ hm) e
  done := W.done
  self := W.self
end Mine

end

section
open PySem PySem.W PyProof.Rows PySem.Calls
set_option maxRecDepth 100000
namespace Mine

abbrev testsOf (ifs : List Expr) (env : Env) : Sem Bool := forIn ifs true fun c r => if r = true then do let ok ← PySem.isTrue c env (eval c env); pure (ForInStep.yield ok) else pure (ForInStep.yield r)

section
variable {prog : Program} {w : World} {A : Around} {E : Value → Shared → Prop} {R : Result → Shared → Prop} {s : Shared} {h₀ : Heap} {s₁ : Shared} {news : List (Addr × Obj)}
theorem compLoop_any {elt target iter : Expr} {ifs : List Expr} {scope : Scope} {pos : Pos} {it acc : Value} {env : Env} (I : Nat → Shared → Prop)
    (turn : ∀ n s, I n s → wpAny (model prog w) A (pyNext it) (fun r s₁ => match r with
      | none => R (.ok .next) s₁
      | some v => wpAny (model prog w) A (letOwnedTupleGo target it v) (fun _ s₁' => wpAny (model prog w) A (assign target env v) (fun _ s₂ =>
          wpAny (model prog w) A (testsOf ifs env) (fun ok s₃ =>
            if ok = true then wpAny (model prog w) A (eval elt env) (fun x s₄ =>
              wpAny (model prog w) A (call (.builtin "list.append") [acc, x]) (fun _ s₅ => ∃ m, m < n ∧ I m s₅) (fun _ _ => False) s₄) (fun _ _ => False) s₃
            else ∃ m, m < n ∧ I m s₃) (fun _ _ => False) s₂) (fun _ _ => False) s₁') (fun _ _ => False) s₁) (fun _ _ => False) s)
    (n : Nat) (h : I n s) :
    codeAny (model prog w) A (.compLoop (.ListComp elt [⟨target, iter, ifs, 0⟩] scope pos) 0 it acc env) R s := by
  refine codeAny_loop rfl I (fun n s hI => ?_) n h
  show wpAny _ A ((compTurn (.ListComp elt [⟨target, iter, ifs, 0⟩] scope pos) 0 it acc env).onRaise (fun x => do noteFrame x env; theTreesLotGoes x)) _ _ s
  refine wpAny_noted ?_
  rw [compTurn_list]
  refine wpAny_bind (wpAny_standAt (wpAny_bind (wpAny_mono (turn n s hI) (fun r s₁ h₁ => ?_) fun _ _ h' => h'.elim)))
  cases r with
  | none => exact wpAny_pure h₁
  | some v =>
    refine wpAny_bind (wpAny_mono h₁ (fun _ s₁' h₁' => ?_) fun _ _ h' => h'.elim)
    refine wpAny_bind (wpAny_mono h₁' (fun _ s₂ h₂ => wpAny_bind (wpAny_mono h₂ (fun ok s₃ h₃ => ?_) fun _ _ h' => h'.elim)) fun _ _ h' => h'.elim)
    cases ok with
    | false => exact wpAny_pure ⟨rfl, h₃⟩
    | true =>
      exact wpAny_bind (wpAny_bind (wpAny_mono h₃ (fun x s₄ h₄ => wpAny_bind (wpAny_mono h₄ (fun _ s₅ h₅ => wpAny_pure (wpAny_pure ⟨rfl, h₅⟩)) fun _ _ h' => h'.elim)) fun _ _ h' => h'.elim))

theorem comp_loop {elt target iter : Expr} {ifs : List Expr} {scope : Scope} {pos : Pos} {cenv : Env} {I D : Addr} {fp wr : List Addr} {n : Nat} {P : Nat → Value → Heap → Prop} {Sw : Nat → Heap → Prop} {Lx : Addr} {Ko : Obj → Prop} {oL : Obj}
    (W : Its prog w A target I fp wr n P Sw) (hCf : cenv.locals ∉ fp) (hDf : D ∉ fp) (hwr : ∀ b ∈ wr, h₀.get? b = none) (hnw : ∀ p ∈ news, p.1 ∉ wr) (hDn : ∀ p ∈ news, p.1 ≠ D) (hLxw : Lx ∉ wr) (hLxD : Lx ≠ D) (hKo : Ko oL) (hst : Sw 0 s.heap)
    (S : St h₀ cenv.locals s₁ [] ((D, listOf ([] : List Value).toArray 0) :: (Lx, oL) :: news) s) (hn : n ≤ 1000000) (J : Nat → List Value → Prop) (h0 : J 0 [])
    (turn : ∀ oL i v ys c s' own, Ko oL → i < n → P i v s'.heap → J i ys → (∀ p ∈ own, p.1 ∈ fp) → ys.length ≤ i → St h₀ cenv.locals s₁ [] ((D, listOf ys.toArray c) :: ((Lx, oL) :: news ++ own)) s' →
      wpAny (model prog w) A (assign target cenv v) (fun _ s₂ => wpAny (model prog w) A (testsOf ifs cenv) (fun ok s₃ =>
        if ok = true then wpAny (model prog w) A (eval elt cenv) (fun y s₄ => J (i + 1) (ys ++ [y]) ∧ ∃ oL, Ko oL ∧ St h₀ cenv.locals s₁ [] ((D, listOf ys.toArray c) :: ((Lx, oL) :: news ++ own)) s₄) (fun _ _ => False) s₃
        else J (i + 1) ys ∧ ∃ oL, Ko oL ∧ St h₀ cenv.locals s₁ [] ((D, listOf ys.toArray c) :: ((Lx, oL) :: news ++ own)) s₃) (fun _ _ => False) s₂) (fun _ _ => False) s')
    (done : ∀ oL ys c s', Ko oL → J n ys → ys.length ≤ n → St h₀ cenv.locals s₁ [] ((D, listOf ys.toArray c) :: (Lx, oL) :: news) s' → R (.ok .next) s') :
    codeAny (model prog w) A (.compLoop (.ListComp elt [⟨target, iter, ifs, 0⟩] scope pos) 0 (.ref I) (.ref D) cenv) R s := by
  have hCw : cenv.locals ∉ wr := fun h => hCf (W.sub _ h)
  have hDw : D ∉ wr := fun h => hDf (W.sub _ h)
  have old : ∀ b o, h₀.get? b = some o → b ∉ wr := fun b o e hb => by rw [hwr b hb] at e; cases e
  refine compLoop_any (fun k s' => ∃ i ys c oL, Ko oL ∧ Sw i s'.heap ∧ St h₀ cenv.locals s₁ [] ((D, listOf ys.toArray c) :: (Lx, oL) :: news) s' ∧ J i ys ∧ ys.length ≤ i ∧ i ≤ n ∧ k = n + 1 - i) ?_ (n + 1) ⟨0, [], 0, oL, hKo, hst, S, h0, Nat.le_refl _, Nat.zero_le _, rfl⟩
  rintro k s' ⟨i, ys, c, oL, hKo, hsw, S', hJ, hyl, hi, rfl⟩
  have next : ∀ (h₁ : Heap) (tk : Nat), (∀ b o, b ∉ wr → s'.heap.get? b = some o → h₁.get? b = some o) → St h₀ cenv.locals s₁ [] ((D, listOf ys.toArray c) :: (Lx, oL) :: news) { s' with heap := h₁, toks := tk } := fun h₁ tk hk₁ => by
    obtain ⟨m, F, hm⟩ := S'.fr
    refine S'.of ⟨F.ns.at' fun o e => hk₁ _ o hCw e, fun b o e => hk₁ b o (old b o e) (F.keep b o e), F.above⟩ hm fun p hp => ⟨hk₁ _ _ ?_ (S'.nw p hp).1, (S'.nw p hp).2⟩
    rcases List.mem_cons.mp hp with rfl | hp
    · exact hDw
    · rcases List.mem_cons.mp hp with rfl | hp
      · exact hLxw
      · exact hnw p hp
  by_cases hlt : i < n
  · refine wpAny_mono (W.item i s' (fun v s₂ => wpAny (model prog w) A (assign target cenv v) (fun _ s₂ =>
          wpAny (model prog w) A (testsOf ifs cenv) (fun ok s₃ =>
            if ok = true then wpAny (model prog w) A (eval elt cenv) (fun x s₄ =>
              wpAny (model prog w) A (call (.builtin "list.append") [.ref D, x]) (fun _ s₅ => ∃ m, m < n + 1 - i ∧ ∃ i ys c oL, Ko oL ∧ Sw i s₅.heap ∧ St h₀ cenv.locals s₁ [] ((D, listOf ys.toArray c) :: (Lx, oL) :: news) s₅ ∧ J i ys ∧ ys.length ≤ i ∧ i ≤ n ∧ m = n + 1 - i) (fun _ _ => False) s₄) (fun _ _ => False) s₃
            else ∃ m, m < n + 1 - i ∧ ∃ i ys c oL, Ko oL ∧ Sw i s₃.heap ∧ St h₀ cenv.locals s₁ [] ((D, listOf ys.toArray c) :: (Lx, oL) :: news) s₃ ∧ J i ys ∧ ys.length ≤ i ∧ i ≤ n ∧ m = n + 1 - i) (fun _ _ => False) s₂) (fun _ _ => False) s₂) (fun _ _ => False) hlt hsw fun v h₁ tk₁ hP hsw₁ hk₁ => ?_)
      (fun r s₂ hr => by obtain ⟨v, rfl, hv⟩ := hr; exact hv) fun _ _ e => e
    have S₁ := next h₁ tk₁ hk₁
    have Nown : News h₀ cenv.locals h₁ (ownOf h₀ fp h₁) := news_ownOf hCf
    have S₂ : St h₀ cenv.locals s₁ [] ((D, listOf ys.toArray c) :: ((Lx, oL) :: news ++ ownOf h₀ fp h₁)) { s' with heap := h₁, toks := tk₁ } := ⟨S₁.gens, S₁.drawn, S₁.os, S₁.fr, fun p hp => by
      rcases List.mem_cons.mp hp with rfl | hp
      · exact S₁.nw _ (.head _)
      · rcases List.mem_append.mp hp with hp | hp
        · exact S₁.nw p (.tail _ hp)
        · exact Nown p hp⟩
    have hDr : ∀ oL, ∀ p ∈ (Lx, oL) :: news ++ ownOf h₀ fp h₁, p.1 ≠ D := fun oL p hp => (List.mem_append.mp hp).elim (fun h => by
      rcases List.mem_cons.mp h with rfl | h
      · exact hLxD
      · exact hDn p h) fun h e => hDf (e ▸ ownOf_sub p h)
    have fin : ∀ (s₃ : Shared) (ys' : List Value) (c' : Nat) (oL' : Obj), Ko oL' → J (i + 1) ys' → ys'.length ≤ i + 1 → St h₀ cenv.locals s₁ [] ((D, listOf ys'.toArray c') :: ((Lx, oL') :: news ++ ownOf h₀ fp h₁)) s₃ →
        ∃ m, m < n + 1 - i ∧ ∃ i ys c oL, Ko oL ∧ Sw i s₃.heap ∧ St h₀ cenv.locals s₁ [] ((D, listOf ys.toArray c) :: (Lx, oL) :: news) s₃ ∧ J i ys ∧ ys.length ≤ i ∧ i ≤ n ∧ m = n + 1 - i := fun s₃ ys' c' oL' hKo' hJ' hl' S₃ => by
      refine ⟨n + 1 - (i + 1), by omega, i + 1, ys', c', oL', hKo', ?_, S₃.weak (fun _ h => h) (fun p hp => ?_), hJ', hl', hlt, rfl⟩
      · refine W.frame _ _ _ hsw₁ fun b hb o e => ?_
        obtain ⟨m, F, _⟩ := S₂.fr
        obtain ⟨m₃, F₃, _⟩ := S₃.fr
        cases hn : h₀.get? b with
        | some o₀ =>
          have : o₀ = o := by have := F.keep b o₀ hn; rw [e] at this; exact (Option.some.inj this).symm
          exact this ▸ F₃.keep b o₀ hn
        | none => exact (S₃.nw _ (.tail _ (List.mem_append_right _ (mem_ownOf hb hn e)))).1
      · rcases List.mem_cons.mp hp with rfl | hp
        · exact .head _
        · exact .tail _ (List.mem_append_left _ hp)
    refine wpAny_mono (turn oL i v ys c _ _ hKo hlt hP hJ ownOf_sub hyl S₂) (fun _ s₃ h₃ => ?_) fun _ _ e => e
    refine wpAny_mono h₃ (fun ok s₄ h₄ => ?_) fun _ _ e => e
    cases ok with
    | false =>
      simp only [Bool.false_eq_true, if_false] at h₄ ⊢
      obtain ⟨h₄, oL', hKo', S₄⟩ := h₄
      exact fin _ ys c oL' hKo' h₄ (by omega) S₄
    | true =>
      simp only [if_true] at h₄ ⊢
      refine wpAny_mono h₄ (fun y s₅ h₅ => ?_) fun _ _ e => e
      obtain ⟨h₅, oL', hKo', S₅⟩ := h₅
      refine s_app S₅ (hDr oL') (by omega) fun s₆ S₆ => ?_
      exact fin _ (ys ++ [y]) (c + 1) oL' hKo' h₅ (by simp; omega) S₆
  · have hin : i = n := by omega
    subst hin
    refine W.done _ _ _ hsw fun h₁ tk₁ hk₁ => ?_
    exact done oL ys c _ hKo hJ hyl (next h₁ tk₁ hk₁)
end
end Mine

end

section
open PySem PySem.W PyProof.Rows PySem.Calls
set_option maxRecDepth 100000
namespace Mine
section
variable {prog : Program} {w : World} {A : Around} {E : Value → Shared → Prop} {s : Shared} {h₀ : Heap} {s₁ : Shared} {vs : List (Str × Value)} {news : List (Addr × Obj)} {env : Env}
theorem St.same {L C : Addr} (S : St h₀ L s₁ vs news s) {h' : Heap} (hs : Heap.SameBut C s.heap h') (hL : L ≠ C) (h0 : h₀.get? C = none) (hn : ∀ p ∈ news, p.1 ≠ C) : St h₀ L s₁ vs news { s with heap := h' } := by
  obtain ⟨m, F, hm⟩ := S.fr
  refine ⟨S.gens, S.drawn, S.os, ⟨m, ⟨F.ns.sameBut hs hL, fun b o e => (hs.2 b (fun q => ?_)).trans (F.keep b o e), F.above⟩, hm⟩, fun p hp => ⟨(hs.2 p.1 (hn p hp)).trans (S.nw p hp).1, (S.nw p hp).2⟩⟩
  rw [q, h0] at e; cases e

/-- a list comprehension of one clause, from its iterator on -/
theorem comp_go {elt target iter : Expr} {ifs : List Expr} {scope : Scope} {pos : Pos} {cl : List (Str × Addr)} {I : Addr} {fp wr : List Addr} {n : Nat} {P : Nat → Value → Heap → Prop} {Sw : Nat → Heap → Prop}
    {R : Addr → Addr → Result → Shared → Prop}
    (W : Its prog w A target I fp wr n P Sw) (S : St h₀ env.locals s₁ vs news s) (hfp : ∀ b ∈ fp, b < s.heap.objs.size) (hLw : env.locals ∉ wr) (hwr : ∀ b ∈ wr, h₀.get? b = none) (hnw : ∀ p ∈ news, p.1 ∉ wr) (hst : Sw 0 s.heap)
    (hn : n ≤ 1000000) (J : Nat → List Value → Prop) (h0 : J 0 [])
    (turn : ∀ C D oL i v ys c s' own, ObjHas oL vs → h₀.objs.size ≤ C → (∀ p ∈ news, p.1 ≠ C) → env.locals ≠ C → D ≠ env.locals → D ≠ C → (∀ p ∈ own, p.1 ≠ D ∧ p.1 ≠ C ∧ p.1 ∈ fp) → i < n → P i v s'.heap → J i ys → ys.length ≤ i →
      St h₀ C s₁ [] ((D, listOf ys.toArray c) :: ((env.locals, oL) :: news ++ own)) s' →
      wpAny (model prog w) A (assign target (compEnvC scope cl C env) v) (fun _ s₂ => wpAny (model prog w) A (testsOf ifs (compEnvC scope cl C env)) (fun ok s₃ =>
        if ok = true then wpAny (model prog w) A (eval elt (compEnvC scope cl C env)) (fun y s₄ => J (i + 1) (ys ++ [y]) ∧ ∃ oL, ObjHas oL vs ∧ St h₀ C s₁ [] ((D, listOf ys.toArray c) :: ((env.locals, oL) :: news ++ own)) s₄) (fun _ _ => False) s₃
        else J (i + 1) ys ∧ ∃ oL, ObjHas oL vs ∧ St h₀ C s₁ [] ((D, listOf ys.toArray c) :: ((env.locals, oL) :: news ++ own)) s₃) (fun _ _ => False) s₂) (fun _ _ => False) s')
    (fin : ∀ ys D c C oC s', J n ys → ys.length ≤ n → (∀ p ∈ news, p.1 ≠ D) → ObjHas oC [] → env.locals ≠ C → D ≠ C → h₀.get? C = none → (∀ p ∈ news, p.1 ≠ C) → St h₀ env.locals s₁ vs ((C, oC) :: (D, listOf ys.toArray c) :: news) s' → R D C (.ok .next) s')
    (hcell : ∀ x ∈ scope.names, x.2 ≠ .cell) (hkind : scope.kind = .function) :
    wpAny (model prog w) A (newList []) (fun acc s₃ => wpAny (model prog w) A (newFunctionEnv scope env.globals cl [] env.qual none .none (some env)) (fun cenv s₄ =>
      codeAny (model prog w) A (.compStart (.ListComp elt [⟨target, iter, ifs, 0⟩] scope pos) 0 (.ref I) acc { cenv with scope := relabel scope env }) (fun r s' => ∃ D C, acc = .ref D ∧ cenv.locals = C ∧ R D C r s') s₄) E s₃) E s := by
  have hLlt := ltN S.Llt
  refine wpAny_newObj_type ?_ (by show (_ : Nat) ≤ sizeLine; rw [sizeLine_eq]; simp)
  have S3 := S.push (listOf ([] : List Value).toArray 0)
  refine wpAny_newFunctionEnv hcell (by simp) (fun h' hns hsb => ?_) hkind
  have hC : (s.heap.push (listOf ([] : List Value).toArray 0)).objs.size = s.heap.objs.size + 1 := Heap.size_push _ _
  have hCpos : env.locals ≠ s.heap.objs.size + 1 := neN (by omega)
  have hDL : s.heap.objs.size ≠ env.locals := neN (by omega)
  have hDC : s.heap.objs.size ≠ s.heap.objs.size + 1 := by omega
  have habove := S.above
  have hC0 : h₀.get? (s.heap.objs.size + 1) = none := Heap.get?_none_of_le (by omega)
  have hkeep : ∀ b o, (s.heap.push (listOf ([] : List Value).toArray 0)).get? b = some o → h'.get? b = some o := fun b o e =>
    hsb.extBut b o (Nat.ne_of_lt (Heap.lt_size e)) (Heap.get?_push_of_some _ e)
  have S4 := S3.grow (s.toks + ([] : List (Str × Value)).length) hkeep
  obtain ⟨oC, es, ep, hoC, d1, d2, d3⟩ := hns
  have hoC' : h'.get? (s.heap.objs.size + 1) = some oC := by rw [← hC]; exact hoC
  have S5 : St h₀ env.locals s₁ vs ((s.heap.objs.size + 1, oC) :: (s.heap.objs.size, listOf ([] : List Value).toArray 0) :: news) _ := ⟨S4.gens, S4.drawn, S4.os, S4.fr, fun p hp => by
    rcases List.mem_cons.mp hp with rfl | hp
    · exact ⟨hoC', Ne.symm hCpos, hC0⟩
    · exact S4.nw p hp⟩
  have hnC : ∀ p ∈ news, p.1 ≠ s.heap.objs.size + 1 := fun p hp => neN (by have := ltN (S.lt p hp); omega)
  have hnD : ∀ p ∈ news, p.1 ≠ s.heap.objs.size := fun p hp => neN (by have := ltN (S.lt p hp); omega)
  obtain ⟨oL, hoL, S6⟩ := S5.swap (vsL := []) ⟨_, ⟨es, ep, d1, d2, d3⟩, by simp⟩ (by omega) (fun p hp => by
    rcases List.mem_cons.mp hp with rfl | hp
    · exact hDC
    · exact hnC p hp)
  have S7 : St h₀ (s.heap.objs.size + 1) s₁ [] ((s.heap.objs.size, listOf ([] : List Value).toArray 0) :: (env.locals, oL) :: news) _ := S6.weak (fun _ h => h) (fun p hp => by
    rcases List.mem_cons.mp hp with rfl | hp
    · exact .tail _ (.head _)
    · rcases List.mem_cons.mp hp with rfl | hp
      · exact .head _
      · exact .tail _ (.tail _ hp))
  have hst4 : Sw 0 h' := W.frame 0 _ _ hst fun b _ o e => hkeep b o (Heap.get?_push_of_some _ e)
  have main : codeAny (model prog w) A (.compLoop (.ListComp elt [⟨target, iter, ifs, 0⟩] scope pos) 0 (.ref I) (.ref s.heap.objs.size) (compEnvC scope cl (s.heap.objs.size + 1) env)) (fun r s' => ∃ D C, (Value.ref s.heap.objs.size) = .ref D ∧ s.heap.objs.size + 1 = C ∧ R D C r s')
      { heap := h', gens := s.gens, drawn := s.drawn, toks := s.toks + ([] : List (Str × Value)).length, os := s.os } := by
    refine comp_loop (cenv := compEnvC scope cl (s.heap.objs.size + 1) env) (Lx := env.locals) (Ko := fun o => ObjHas o vs) (oL := oL) W ?_ ?_ hwr hnw hnD hLw (Ne.symm hDL) hoL hst4 S7 hn J h0 ?_ ?_
    · intro hm; have := ltN (hfp _ hm); simp only [compEnvC] at this; omega
    · intro hm; have := ltN (hfp _ hm); omega
    · intro oL i v ys c s' own hoL hi hP hJ hown hyl S'
      exact turn (s.heap.objs.size + 1) s.heap.objs.size oL i v ys c s' own hoL (by omega) hnC hCpos hDL hDC (fun p hp => ⟨neN (by have := ltN (hfp _ (hown p hp)); omega), neN (by have := ltN (hfp _ (hown p hp)); omega), hown p hp⟩) hi hP hJ hyl S'
    · intro oL ys c s' hoL hJ hyl S'
      refine ⟨s.heap.objs.size, s.heap.objs.size + 1, rfl, rfl, ?_⟩
      have S8 : St h₀ (s.heap.objs.size + 1) s₁ [] ((env.locals, oL) :: (s.heap.objs.size, listOf ys.toArray c) :: news) s' := S'.weak (fun _ h => h) (fun p hp => by
        rcases List.mem_cons.mp hp with rfl | hp
        · exact .tail _ (.head _)
        · rcases List.mem_cons.mp hp with rfl | hp
          · exact .head _
          · exact .tail _ (.tail _ hp))
      obtain ⟨oC', hoC', S9⟩ := S8.swap hoL habove (fun p hp => by
        rcases List.mem_cons.mp hp with rfl | hp
        · exact hDL
        · exact (S.nw p hp).2.1)
      exact fin ys _ c _ oC' s' hJ hyl hnD hoC' hCpos hDC hC0 hnC S9
  have e1 : ({ newEnv scope (s.heap.push (listOf ([] : List Value).toArray 0)).objs.size env.globals cl env.qual none .none (some env) env.builtins with scope := relabel scope env } : Env) = compEnvC scope cl (s.heap.objs.size + 1) env := by
    rw [hC]; rfl
  refine codeAny_compStart_list ?_ ?_
  · exact e1 ▸ (by simpa only [newEnv, hC] using main)
  · refine W.self 0 _ _ _ hst4 ?_
    exact e1 ▸ (by simpa only [newEnv, hC] using main)
end
end Mine

end

section
open PySem PySem.W PyProof.Rows PySem.Calls
set_option maxRecDepth 100000
namespace Mine
section
variable {prog : Program} {w : World} {M : Model} {A : Around} {E : Value → Shared → Prop} {s : Shared} {h₀ : Heap} {s₁ : Shared} {vs : List (Str × Value)} {news : List (Addr × Obj)} {env : Env}
  {elt target iter : Expr} {ifs : List Expr} {scope : Scope} {pos : Pos} {cl : List (Str × Addr)} {I : Addr} {fp wr : List Addr} {n : Nat} {P : Nat → Value → Heap → Prop} {Sw : Nat → Heap → Prop}

/-- what is left of a comprehension behind its iterator -/
def CompIt (prog : Program) (w : World) (A : Around) (E : Value → Shared → Prop) (env : Env) (elt target iter : Expr) (ifs : List Expr) (scope : Scope) (pos : Pos) (cl : List (Str × Addr)) (use : Option (Value → Sem Unit)) (Q : Value → Shared → Prop) (it : Value) (s : Shared) : Prop :=
  wpAny (model prog w) A (newList []) (fun acc s₃ => wpAny (model prog w) A (newFunctionEnv scope env.globals cl [] env.qual none .none (some env)) (fun cenv s₄ =>
      codeAny (model prog w) A (.compStart (.ListComp elt [⟨target, iter, ifs, 0⟩] scope pos) 0 it acc { cenv with scope := relabel scope env }) (compPost (model prog w) A E use Q acc cenv.locals) s₄) E s₃) E s

theorem e_lc {Q : Value → Shared → Prop} (h : wpAny (model prog w) A (eval iter env) (fun x s₁ => wpAny (model prog w) A (pyIter x) (fun it s₂ => CompIt prog w A E env elt target iter ifs scope pos cl none Q it s₂) E s₁) E s)
    (hclos : closureFor scope env = pure cl := by rfl) (hkind : scope.kind = .function := by rfl) (hnames : ∀ x ∈ scope.names, x.2 = .local → scope.names.lookup x.1 = some .local := by decide) (hs : ∀ x, foldedSetIterable iter env x = pure x := by intro _; rfl) :
    wpAny (model prog w) A (eval (.ListComp elt [⟨target, iter, ifs, 0⟩] scope pos) env) Q E s := by
  rw [eval_ListComp]
  exact wpAny_comprehension_free rfl hs hclos hkind hnames h
theorem x_lc {y : Str} {py apos : Pos} {Q : Flow → Shared → Prop} (h : wpAny (model prog w) A (eval iter env) (fun x s₁ => wpAny (model prog w) A (pyIter x) (fun it s₂ => CompIt prog w A E env elt target iter ifs scope pos cl (some (assign (.Name y py) env)) (fun _ => Q .next) it s₂) E s₁) E s)
    (hsw : swapsWith (.ListComp elt [⟨target, iter, ifs, 0⟩] scope pos) (some (.Name y py)) apos.line env = pure true := by rfl)
    (hclos : closureFor scope env = pure cl := by rfl) (hkind : scope.kind = .function := by rfl) (hnames : ∀ x ∈ scope.names, x.2 = .local → scope.names.lookup x.1 = some .local := by decide) (hs : ∀ x, foldedSetIterable iter env x = pure x := by intro _; rfl) :
    wpAny (model prog w) A (exec (.Assign [.Name y py] (.ListComp elt [⟨target, iter, ifs, 0⟩] scope pos) apos) env) Q E s := by
  rw [exec_Assign_Name_used _ _ _ _ hsw]
  refine wpAny_bind (wpAny_standAt (wpAny_bind ?_))
  show wpAny _ _ (comprehension (.ListComp elt [⟨target, iter, ifs, 0⟩] scope pos) scope env _ (newList []) false _ (some (assign (.Name y py) env)) >>= fun _ => pure ()) _ _ _
  refine wpAny_bind (wpAny_mono (wpAny_comprehension_free rfl hs hclos hkind hnames h) (fun _ s' hq => wpAny_pure (wpAny_pure hq)) fun _ _ e => e)

section
variable (W : Its prog w A target I fp wr n P Sw) (S : St h₀ env.locals s₁ vs news s) (hfp : ∀ b ∈ fp, b < s.heap.objs.size) (hLw : env.locals ∉ wr) (hwr : ∀ b ∈ wr, h₀.get? b = none) (hnw : ∀ p ∈ news, p.1 ∉ wr) (hst : Sw 0 s.heap)
    (hn : n ≤ 1000000) (J : Nat → List Value → Prop) (h0 : J 0 [])
    (turn : ∀ C D oL i v ys c s' own, ObjHas oL vs → h₀.objs.size ≤ C → (∀ p ∈ news, p.1 ≠ C) → env.locals ≠ C → D ≠ env.locals → D ≠ C → (∀ p ∈ own, p.1 ≠ D ∧ p.1 ≠ C ∧ p.1 ∈ fp) → i < n → P i v s'.heap → J i ys → ys.length ≤ i →
      St h₀ C s₁ [] ((D, listOf ys.toArray c) :: ((env.locals, oL) :: news ++ own)) s' →
      wpAny (model prog w) A (assign target (compEnvC scope cl C env) v) (fun _ s₂ => wpAny (model prog w) A (testsOf ifs (compEnvC scope cl C env)) (fun ok s₃ =>
        if ok = true then wpAny (model prog w) A (eval elt (compEnvC scope cl C env)) (fun y s₄ => J (i + 1) (ys ++ [y]) ∧ ∃ oL, ObjHas oL vs ∧ St h₀ C s₁ [] ((D, listOf ys.toArray c) :: ((env.locals, oL) :: news ++ own)) s₄) (fun _ _ => False) s₃
        else J (i + 1) ys ∧ ∃ oL, ObjHas oL vs ∧ St h₀ C s₁ [] ((D, listOf ys.toArray c) :: ((env.locals, oL) :: news ++ own)) s₃) (fun _ _ => False) s₂) (fun _ _ => False) s')
include W S hfp hLw hwr hnw hst hn h0 turn
theorem comp_ev {Q : Value → Shared → Prop}
    (done : ∀ ys D c s', J n ys → ys.length ≤ n → (∀ p ∈ news, p.1 ≠ D) → St h₀ env.locals s₁ vs ((D, listOf ys.toArray c) :: news) s' → Q (.ref D) s')
    (hcell : ∀ x ∈ scope.names, x.2 ≠ .cell := by decide) (hkind : scope.kind = .function := by rfl) : CompIt prog w A E env elt target iter ifs scope pos cl none Q (.ref I) s := by
  refine wpAny_mono (comp_go (E := E) (iter := iter) (pos := pos) (R := fun D C r s' => r = .ok .next ∧ ∃ m, s'.heap.Ns C m ∧ ∀ h', Heap.SameBut C s'.heap h' → Q (.ref D) { s' with heap := h' }) W S hfp hLw hwr hnw hst hn J h0 turn (fun ys D c C oC s' hJ hl hD hoC hLC hDC hC0 hnC S' => ?_) hcell hkind)
    (fun acc s₃ h₃ => wpAny_mono h₃ (fun cenv s₄ h₄ => codeAny_mono h₄ fun r s' hr => ?_) fun _ _ e => e) fun _ _ e => e
  · refine ⟨rfl, ?_⟩
    obtain ⟨m, ⟨es, ep, d1, d2, d3⟩, _⟩ := hoC
    refine ⟨m, ⟨oC, es, ep, (S'.nw _ (.head _)).1, d1, d2, d3⟩, fun h' hs => done ys D c _ hJ hl hD ?_⟩
    exact (S'.weak (fun _ h => h) (fun p hp => .tail _ hp)).same hs hLC hC0 (fun p hp => by
      rcases List.mem_cons.mp hp with rfl | hp
      · exact hDC
      · exact hnC p hp)
  · obtain ⟨D, C, rfl, rfl, rfl, hr⟩ := hr
    exact hr
theorem comp_us {y : Str} {py : Pos} {Q : Value → Shared → Prop}
    (done : ∀ ys D c s', J n ys → ys.length ≤ n → (∀ p ∈ news, p.1 ≠ D) → St h₀ env.locals s₁ (upd y (.ref D) vs) ((D, listOf ys.toArray c) :: news) s' → Q .none s')
    (hcell : ∀ x ∈ scope.names, x.2 ≠ .cell := by decide) (hkind : scope.kind = .function := by rfl) (hek : env.scope.kind = .function := by rfl) (hey : env.kindOf y = some .local := by rfl) :
    CompIt prog w A E env elt target iter ifs scope pos cl (some (assign (.Name y py) env)) Q (.ref I) s := by
  refine wpAny_mono (comp_go (E := E) (iter := iter) (pos := pos) (R := fun D C r s' => r = .ok .next ∧ wpAny (model prog w) A (assign (.Name y py) env (.ref D)) (fun _ s'' => ∃ m, s''.heap.Ns C m ∧ ∀ h', Heap.SameBut C s''.heap h' → Q .none { s'' with heap := h' }) E s') W S hfp hLw hwr hnw hst hn J h0 turn (fun ys D c C oC s' hJ hl hD hoC hLC hDC hC0 hnC S' => ?_) hcell hkind)
    (fun acc s₃ h₃ => wpAny_mono h₃ (fun cenv s₄ h₄ => codeAny_mono h₄ fun r s' hr => ?_) fun _ _ e => e) fun _ _ e => e
  · refine ⟨rfl, wpAny_assign_Name (e_stE S' (fun s'' S'' => ?_) hek hey)⟩
    obtain ⟨m, ⟨es, ep, d1, d2, d3⟩, _⟩ := hoC
    refine ⟨m, ⟨oC, es, ep, (S''.nw _ (.head _)).1, d1, d2, d3⟩, fun h' hs => done ys D c _ hJ hl hD ?_⟩
    exact (S''.weak (fun _ h => h) (fun p hp => .tail _ hp)).same hs hLC hC0 (fun p hp => by
      rcases List.mem_cons.mp hp with rfl | hp
      · exact hDC
      · exact hnC p hp)
  · obtain ⟨D, C, rfl, rfl, rfl, hr⟩ := hr
    exact hr
end
end
end Mine

end

section
open PySem PySem.W PyProof.Rows PySem.Calls
set_option maxRecDepth 100000
namespace Mine
open Builtin
namespace FX
theorem slot : Slot "bytes" "index" "bytes.index" :=
  .of (owner := "bytes") (n := "index") (by rw [typeLookup_type, builtinLookup_eq_fast]; kernel_rfl) (by decide +kernel) (by decide +kernel) (by decide +kernel)
    (by first | exact .inl (by decide +kernel) | exact .inr (by decide +kernel)) (by rw [isSubtype_type]; kernel_rfl)
theorem ty : typeOf (.builtin "bytes.index") = pure (.type "method_descriptor") := by show builtinType _ = _; rw [builtinType_eq_fast]; kernel_rfl
theorem entry : entryFor table "bytes.index" = some Builtin.«bytes.index» := entryFor_of_tree (by kernel_rfl)
theorem args (a b : Value) : argsOk "bytes.index" ⟨[a, b], []⟩ := by
  unfold argsOk; rw [signature?_of (id := "bytes.index") (n := ['x', 'e', 'd', 'n', 'i']) (o := ['s', 'e', 't', 'y', 'b']) (by kernel_rfl) FB.owner_bytes]; kernel_rfl
theorem look_buf : typeLookup (.type "int") "__buffer__" = pure none := by rw [typeLookup_type, builtinLookup_eq_fast]; kernel_rfl
theorem look_idx : typeLookup (.type "int") "__index__" = pure (some (.builtin "int.__index__")) := by rw [typeLookup_type, builtinLookup_eq_fast]; kernel_rfl
theorem buf_int {id : String} {i : Int} {t : Tok} : Bytes.buffer? id (.int i t) = pure none := by
  unfold Bytes.buffer? specialOf
  show ((typeLookup (.type "int") "__buffer__") >>= fun r => _) = _
  rw [look_buf]; rfl
theorem idx_int {i : Int} {t : Tok} : specialOf (.int i t) "__index__" = pure (some (.builtin "int.__index__")) := look_idx
end FX
theorem index_meets (l : List UInt8) (t u : Tok) (h : l.findIdx (· == 37) < l.length) :
    Meets («bytes.index» ⟨[.bytes l.toArray t, .int 37 u], []⟩) (fun _ R s => R (.ok (.ret (.int (l.findIdx (· == 37) : Nat) s.toks))) { s with toks := s.toks + 1 }) := by
  refine .of_wp fun prog w A R s hR => ?_
  have e : Bytes.searchArgs .bytes "index" ⟨[.bytes l.toArray t, .int 37 u], []⟩ = pure (l.toArray, #[37], some (0, l.toArray.size)) := by
    unfold Bytes.searchArgs
    show (Bytes.buffer? "bytes.index" (.int 37 u) >>= fun r => _) = _
    rw [FX.buf_int]
    show (specialOf (.int 37 u) "__index__" >>= fun r => _) = _
    rw [FX.idx_int]
    show (Bytes.indexHeld _ (.int 37 u) >>= fun r => _) = _
    have ei : Bytes.indexHeld [.bytes l.toArray t] (.int 37 u) = pure 37 := rfl
    rw [ei]
    show (pure (l.toArray, #[37], if (min ((l.toArray.size : Nat) : Int) (if ((l.toArray.size : Nat) : Int) < 0 then _ else ((l.toArray.size : Nat) : Int))) - (if (0 : Int) < 0 then _ else 0) < (((#[37] : Array UInt8).size : Nat) : Int) then none else some ((if (0 : Int) < 0 then _ else 0 : Int).toNat, (min ((l.toArray.size : Nat) : Int) (if ((l.toArray.size : Nat) : Int) < 0 then _ else ((l.toArray.size : Nat) : Int))).toNat)) : Sem _) = _
    have hs : l.toArray.size = l.length := by simp
    rw [hs]
    rw [if_neg (by simp; omega)]
    have h0 : ¬ ((l.length : Int) < 0) := by omega
    rw [if_neg h0]
    simp
  show wpAny _ _ (Bytes.searchArgs .bytes "index" ⟨[.bytes l.toArray t, .int 37 u], []⟩ >>= fun r => _) _ _ s
  refine wpAny_bind (wpAny_of_eq e ?_)
  show wpAny _ _ (match Bytes.find? l.toArray #[37] 0 l.toArray.size with | some i => _ | none => _) _ _ s
  rw [find_one, if_pos h]
  show wpAny _ _ (mkInt _ >>= fun r => _) _ _ s
  refine wpAny_bind (wpAny_mkInt ?_)
  exact wpAny_pure ⟨_, rfl, hR⟩
section
variable {prog : Program} {w : World} {M : Model} {A : Around} {E : Value → Shared → Prop} {s : Shared} {h₀ : Heap} {L : Addr} {s₁ : Shared} {vs : List (Str × Value)} {news : List (Addr × Obj)}
theorem m_index {b : Array UInt8} {t : Tok} {pl : Sem Bool} {Q : Value × List Value → Shared → Prop} (h : Q (.builtin "bytes.index", [.bytes b t]) s) : wpAny M A (getMethod (.bytes b t) "index" pl) Q E s := by
  with_reducible exact KBd.method_of (.bytes b t) (typeIs_bytes _ _ _) FX.slot FX.ty KBd.noRef h
theorem c_index {l : List UInt8} {t u : Tok} {Q : Value → Shared → Prop} (S : St h₀ L s₁ vs news s) (hl : l.findIdx (· == 37) < l.length)
    (h : ∀ t s', St h₀ L s₁ vs news s' → Q (.int (l.findIdx (· == 37) : Nat) t) s') :
    wpAny (model prog w) A (call (.builtin "bytes.index") [.bytes l.toArray t, .int 37 u]) Q E s :=
  call_meets FX.slot (typeIs_bytes _ _ _) FX.entry (FX.args _ _) (index_meets l t u hl) (h _ _ (S.tok _))
end
end Mine

end

section
open PySem PySem.W PyProof.Rows PySem.Calls
set_option maxRecDepth 100000
namespace Mine
open Builtin
namespace FJ
theorem slot : Slot "bytes" "join" "bytes.join" :=
  .of (owner := "bytes") (n := "join") (by rw [typeLookup_type, builtinLookup_eq_fast]; kernel_rfl) (by decide +kernel) (by decide +kernel) (by decide +kernel)
    (by first | exact .inl (by decide +kernel) | exact .inr (by decide +kernel)) (by rw [isSubtype_type]; kernel_rfl)
theorem ty : typeOf (.builtin "bytes.join") = pure (.type "method_descriptor") := by show builtinType _ = _; rw [builtinType_eq_fast]; kernel_rfl
theorem entry : entryFor table "bytes.join" = some Builtin.«bytes.join» := entryFor_of_tree (by kernel_rfl)
theorem args (a b : Value) : argsOk "bytes.join" ⟨[a, b], []⟩ := by
  unfold argsOk; rw [signature?_of (id := "bytes.join") (n := ['n', 'i', 'o', 'j']) (o := ['s', 'e', 't', 'y', 'b']) (by kernel_rfl) FB.owner_bytes]; kernel_rfl
theorem take_eq {id : String} {b : Array UInt8} {t : Tok} : Bytes.takeBufferQuiet? id (.bytes b t) 0 = pure (some (b, none)) := by
  unfold Bytes.takeBufferQuiet? Bytes.takeBuffer?
  rw [KBy.special_eq KBy.look_buffer, KBy.own_buffer]
  show ((Bytes.buffer? id (.bytes b t) false >>= fun r => _).attempt >>= fun r => _) = _
  rw [KBy.buffer_eq]
  rfl
end FJ
/-- values that are octets -/
inductive BAre : List Value → List (List UInt8) → Prop
  | nil : BAre [] []
  | cons (l : List UInt8) (t : Tok) {vs : List Value} {ls : List (List UInt8)} (h : BAre vs ls) : BAre (.bytes l.toArray t :: vs) (l :: ls)
theorem BAre.len {vs : List Value} {ls : List (List UInt8)} (h : BAre vs ls) : vs.length = ls.length := by
  induction h with
  | nil => rfl
  | cons _ _ _ ih => simp [ih]
theorem BAre.app {vs ws : List Value} {ls ms : List (List UInt8)} (h : BAre vs ls) (h' : BAre ws ms) : BAre (vs ++ ws) (ls ++ ms) := by
  induction h with
  | nil => exact h'
  | cons l t _ ih => exact .cons l t ih
theorem BAre.get {vs : List Value} {ls : List (List UInt8)} (h : BAre vs ls) {i : Nat} {l : List UInt8} (hi : ls[i]? = some l) : ∃ t, vs[i]? = some (.bytes l.toArray t) := by
  induction h generalizing i with
  | nil => simp at hi
  | cons l' t _ ih =>
    cases i with
    | zero => simp at hi; subst hi; exact ⟨t, rfl⟩
    | succ i => simp at hi; simpa using ih hi
theorem BAre.take {vs : List Value} {ls : List (List UInt8)} (h : BAre vs ls) (k : Nat) : BAre (vs.take k) (ls.take k) := by
  induction h generalizing k with
  | nil => simpa using BAre.nil
  | cons l t _ ih =>
    cases k with
    | zero => exact .nil
    | succ k => exact .cons l t (ih k)
theorem BAre.drop {vs : List Value} {ls : List (List UInt8)} (h : BAre vs ls) (k : Nat) : BAre (vs.drop k) (ls.drop k) := by
  induction h generalizing k with
  | nil => simpa using BAre.nil
  | cons l t h ih =>
    cases k with
    | zero => exact .cons l t h
    | succ k => exact ih k

theorem joined_go (ps : List (Array UInt8)) (k : Nat) (acc : Array UInt8) : (ps.zipIdx k).foldl (fun out (x : Array UInt8 × Nat) => (if x.2 > 0 then out ++ (#[] : Array UInt8) else out) ++ x.1) acc = acc ++ (ps.map Array.toList).flatten.toArray := by
  induction ps generalizing k acc with
  | nil => simp
  | cons p r ih =>
    rw [List.zipIdx_cons, List.foldl_cons, ih]
    have e : p = p.toList.toArray := by simp
    by_cases h : k > 0
    · rw [if_pos h, Array.append_empty, List.map_cons, List.flatten_cons, Array.append_assoc]
      congr 1
      conv => lhs; rw [e]
      rw [List.append_toArray]
    · rw [if_neg h, List.map_cons, List.flatten_cons, Array.append_assoc]
      congr 1
      conv => lhs; rw [e]
      rw [List.append_toArray]
theorem joined_nil (ps : List (Array UInt8)) : Bytes.joined #[] ps = (ps.map Array.toList).flatten.toArray := by
  unfold Bytes.joined
  have := joined_go ps 0 #[]
  simpa using this

section
variable {prog : Program} {w : World} {A : Around} {E : Value → Shared → Prop} {s : Shared}
theorem letGo_nil {M : Model} (taken : List (Value × Option Value)) (hw : ∀ p ∈ taken, p.2 = none) (keep : List Value) {Q : Unit → Shared → Prop} (h : Q () s) : wpAny M A (Bytes.joinLetGo taken keep) Q E s := by
  induction taken with
  | nil => exact wpAny_pure h
  | cons p r ih =>
    obtain ⟨x, w'⟩ := p
    have : w' = none := hw _ (.head _)
    subst this
    unfold Bytes.joinLetGo
    refine wpAny_bind (wpAny_letGo ?_)
    exact ih fun p hp => hw p (.tail _ hp)
end
theorem one_split {α : Type} {M : Model} {A : Around} {E : Value → Shared → Prop} {s : Shared} {xs : List Value} {k : Value → Sem α} {d : Sem α} {Q : α → Shared → Prop} (h1 : ∀ x, xs = [x] → wpAny M A (k x) Q E s) (h2 : wpAny M A d Q E s) :
    wpAny M A (match xs.toArray with | #[x] => k x | _ => d) Q E s := by
  rcases xs with _ | ⟨v, _ | ⟨v2, r⟩⟩
  · exact h2
  · exact h1 v rfl
  · exact h2
theorem join_meets (t : Tok) (l : Addr) (vs : List Value) (ls : List (List UInt8)) (hB : BAre vs ls) (hz : ls.flatten.length ≤ 16777216) :
    Meets («bytes.join» ⟨[.bytes #[] t, .ref l], []⟩) (fun _ R s => s.heap.IsList l vs.toArray ∧ ∀ t' k, R (.ok (.ret (.bytes ls.flatten.toArray t'))) { s with toks := k }) := by
  refine .of_wp fun prog w A R s ⟨hl, hR⟩ => ?_
  show wpAny _ _ (selfAndOne _ ⟨[.bytes #[] t, .ref l], []⟩ >>= fun r => _) _ _ s
  refine wpAny_bind (wpAny_of_eq selfOne ?_)
  show wpAny _ _ (Bytes.joinItems (.ref l) >>= fun r => _) _ _ s
  refine wpAny_bind ?_
  unfold Bytes.joinItems
  refine wpAny_bind (wpAny_typeOf hl.typeIs ?_)
  refine bm_if_true rfl ?_
  refine wpAny_pure ?_
  obtain ⟨o, ho, hc, n, hd⟩ := hl
  refine wpAny_bind (wpAny_seqItems ho hd ?_)
  have hlen : vs.toArray.size = ls.length := by simpa using hB.len
  refine one_split (xs := vs) ?_ ?_
  · rintro x rfl
    cases hB with
    | cons l' t' h =>
    cases h
    refine wpAny_bind (wpAny_typeOf (typeIs_bytes s _ _) ?_)
    refine bm_if_true rfl ?_
    refine wpAny_bind (wpAny_rule ?_)
    refine wpAny_pure ⟨_, rfl, ?_⟩
    have := hR t' s.toks
    simpa using this
  · show wpAny _ _ (forIn [:vs.toArray.size] ((#[] : Array (Array UInt8)), ([] : List (Value × Option Value))) _ >>= fun r => _) _ _ s
    refine wpAny_bind ?_
    rw [Std.Legacy.Range.forIn_eq_forIn_range']
    refine wpAny_forIn_list _ (fun rest b s' => s' = s ∧ ∃ i, i ≤ ls.length ∧ rest = List.range' i (ls.length - i) ∧ b.1 = ((ls.take i).map List.toArray).toArray ∧ (∀ p ∈ b.2, p.2 = none ∧ p.1.onHeap = false)) _ ?_ ?_ _ _ ⟨rfl, 0, Nat.zero_le _, ?_, by simp, by simp⟩
    · rintro j rest ⟨parts, taken⟩ s' ⟨rfl, i, hi, hr, hb, ht⟩
      simp only at hb ht
      have hil : i < ls.length := by
        rcases Nat.lt_or_ge i ls.length with h | h
        · exact h
        · rw [Nat.sub_eq_zero_of_le h] at hr; cases hr
      obtain ⟨rfl, rfl⟩ : j = i ∧ rest = List.range' (i + 1) (ls.length - (i + 1)) := by
        have e : ls.length - i = (ls.length - (i + 1)) + 1 := by omega
        rw [e, List.range'_succ] at hr
        simpa using hr
      obtain ⟨t', hv⟩ := hB.get (List.getElem?_eq_getElem hil)
      refine wpAny_bind (wpAny_seqItems ho hd ?_)
      have hany : (Bytes.Kind.bytes == Bytes.Kind.bytearray || taken.any fun x => x.fst.onHeap) = false := by
        have : (taken.any fun x => x.fst.onHeap) = false := by
          rw [List.any_eq_false]
          intro p hp
          simp [(ht p hp).2]
        rw [this]; rfl
      refine bm_if_false hany ?_
      have hx : vs.toArray.getD j Value.none = .bytes (ls[j]).toArray t' := by
        simp [Array.getD_eq_getD_getElem?, hv]
      have hh : ∀ held, holding held (Bytes.takeBufferQuiet? "bytes.join" (vs.toArray.getD j Value.none) 0) = holding held (pure (some ((ls[j]).toArray, none))) := fun held => by rw [hx, FJ.take_eq]
      refine wpAny_bind ?_
      show wpAny _ _ (holding _ (Bytes.takeBufferQuiet? "bytes.join" (vs.toArray.getD j Value.none) 0)) _ _ _
      rw [hh]
      refine wpAny_holding (wpAny_pure ?_)
      show wpAny _ _ (seqItems? (.ref l) >>= fun r => _) _ _ _
      refine wpAny_bind (wpAny_seqItems ho hd ?_)
      refine bm_if_false (by simp) ?_
      refine wpAny_pure ⟨rfl, j + 1, hil, rfl, ?_, ?_⟩
      · show parts.push _ = _
        rw [hb, List.take_add_one, List.getElem?_eq_getElem hil, List.map_append]
        simp only [Option.toList_some, List.map_cons, List.map_nil, List.push_toArray]
      · intro p hp
        rcases List.mem_append.mp hp with hp | hp
        · exact ht p hp
        · rw [List.mem_singleton.mp hp, hx]
          exact ⟨rfl, rfl⟩
    · rintro ⟨parts, taken⟩ s' ⟨rfl, i, hi, hr, hb, ht⟩
      simp only at hb ht
      have hil : i = ls.length := by
        rcases Nat.lt_or_ge i ls.length with h | h
        · exfalso
          have e : ls.length - i = (ls.length - (i + 1)) + 1 := by omega
          rw [e, List.range'_succ] at hr
          cases hr
        · omega
      subst hil
      rw [List.take_length] at hb
      have hj : Bytes.joined #[] parts.toList = ls.flatten.toArray := by
        rw [joined_nil, hb]
        congr 2
        simp [List.map_map, Function.comp_def]
      have hsum : ∀ (xs : List (List UInt8)) (k : Nat), (xs.map List.toArray).foldl (fun x1 (x2 : Array UInt8) => x1 + x2.size) k = k + xs.flatten.length := fun xs => by
        induction xs with
        | nil => intro k; simp
        | cons x r ih => intro k; rw [List.map_cons, List.foldl_cons, ih]; simp; omega
      refine wpAny_bind (wpAny_of_eq (a := #[]) rfl ?_)
      refine bm_if_false (KBy.tooLong_not ?_) ?_
      · rw [hb]
        have h5 := hsum ls (0 * (((List.map List.toArray ls).toArray).size - 1))
        rw [List.foldl_toArray]
        show List.foldl (fun x1 (x2 : Array UInt8) => x1 + x2.size) (0 * (((List.map List.toArray ls).toArray).size - 1)) (List.map List.toArray ls) ≤ _
        rw [h5]
        omega
      show wpAny _ _ (mkBytes (Bytes.joined #[] parts.toList) >>= fun r => _) _ _ _
      rw [hj]
      refine wpAny_bind (wpAny_mkBytes ?_ (by rw [sizeLine_eq]; simpa using hz))
      refine wpAny_bind (wpAny_holding (wpAny_point ?_))
      refine wpAny_bind (letGo_nil _ (fun p hp => (ht p hp).1) _ ?_)
      exact wpAny_pure ⟨_, rfl, hR _ _⟩
    · simp [hlen, Std.Legacy.Range.size]
section
variable {prog : Program} {w : World} {M : Model} {A : Around} {E : Value → Shared → Prop} {s : Shared} {h₀ : Heap} {L : Addr} {s₁ : Shared} {vs : List (Str × Value)} {news : List (Addr × Obj)}
theorem m_join {b : Array UInt8} {t : Tok} {pl : Sem Bool} {Q : Value × List Value → Shared → Prop} (h : Q (.builtin "bytes.join", [.bytes b t]) s) : wpAny M A (getMethod (.bytes b t) "join" pl) Q E s := by
  with_reducible exact KBd.method_of (.bytes b t) (typeIs_bytes _ _ _) FJ.slot FJ.ty KBd.noRef h
theorem c_join {t : Tok} {l : Addr} {xs : List Value} {ls : List (List UInt8)} {Q : Value → Shared → Prop} (S : St h₀ L s₁ vs news s) (hl : s.heap.IsList l xs.toArray) (hB : BAre xs ls) (hz : ls.flatten.length ≤ 16777216)
    (h : ∀ t s', St h₀ L s₁ vs news s' → Q (.bytes ls.flatten.toArray t) s') :
    wpAny (model prog w) A (call (.builtin "bytes.join") [.bytes #[] t, .ref l]) Q E s :=
  call_meets FJ.slot (typeIs_bytes _ _ _) FJ.entry (FJ.args _ _) (join_meets t l xs ls hB hz) ⟨hl, fun t' k => h t' _ (S.tok k)⟩
end
end Mine

end

section
open PySem PySem.W PyProof.Rows PySem.Calls
set_option maxRecDepth 100000
namespace Mine
def cnt (bs : List Bool) : Nat := (bs.filter id).length
def bval (b : Bool) : Int := if b then 1 else 0
section
variable {prog : Program} {w : World} {A : Around} {R : Result → Shared → Prop} {I : Addr} {fp wr : List Addr} {n : Nat} {P : Nat → Value → Prop} {Sw : Nat → Heap → Prop}
theorem sum_loop (W : Walks prog w A.in1 I fp wr n P Sw) (val : Nat → Bool) (hval : ∀ i v, P i v → v = .bool (val i)) (hn : n ≤ 1000000) (S : Addr) (hSf : S ∉ fp) :
    ∀ (k i : Nat) (s : Shared) (tA : Tok) (c : Nat), n - i = k → i ≤ n → Sw i s.heap → s.heap.get? S = some { cls := .type "list", dict := none, data := .seq #[.int (cnt ((List.range i).map val) : Nat) tA] c, slots := #[] } →
    (∀ h' tk t', (∀ b o, b ∉ wr → b ≠ S → s.heap.get? b = some o → h'.get? b = some o) → R (.ok (.ret (.int (cnt ((List.range n).map val) : Nat) t'))) { s with heap := h', toks := tk }) →
    codeAny (model prog w) A (.builtin "sum.loop" ⟨[.ref I, .ref S, rawInt 0, rawInt 0], []⟩) R s := by
  have hSw : S ∉ wr := fun h => hSf (W.sub _ h)
  have step : ∀ i, ((cnt ((List.range i).map val) : Nat) : Int) + bval (val i) = (cnt ((List.range (i + 1)).map val) : Nat) := fun i => by
    unfold cnt bval
    simp only [List.range_succ, List.map_append, List.filter_append, List.length_append, List.map_cons, List.map_nil]
    cases val i <;> simp
  have le : ∀ i, cnt ((List.range i).map val) ≤ i := fun i => by
    unfold cnt
    refine Nat.le_trans (List.length_filter_le _ _) ?_
    simp
  intro k
  induction k with
  | zero =>
    intro i s tA c hk hi hst hS hR
    have hin : i = n := by omega
    subst hin
    refine codeAny_builtin F.entry_sum_loop ?_
    rw [Around.under_plainId F.plain_sum_loop _]
    show wpAny _ A.in1 (seqItems? (.ref S) >>= _) _ _ s
    refine wpAny_bind (wpAny_seqItems hS rfl ?_)
    show wpAny _ A.in1 (tryCatch (pyNext (.ref I)) _ >>= _) _ _ s
    refine wpAny_bind (wpAny_tryCatch (W.done s _ _ hst fun h' tk hk' => ?_))
    exact wpAny_pure (hR h' tk tA fun b o hbw _ e => hk' b o hbw e)
  | succ k ih =>
    intro i s tA c hk hi hst hS hR
    have hlt : i < n := by omega
    refine codeAny_builtin F.entry_sum_loop ?_
    rw [Around.under_plainId F.plain_sum_loop _]
    show wpAny _ A.in1 (seqItems? (.ref S) >>= _) _ _ s
    refine wpAny_bind (wpAny_seqItems hS rfl ?_)
    show wpAny _ A.in1 (tryCatch (pyNext (.ref I)) _ >>= _) _ _ s
    refine wpAny_bind (wpAny_tryCatch (W.item i s _ _ hlt hst fun v h' tk hP hst' hk' => ?_))
    obtain ⟨b, hb⟩ : ∃ b, val i = b := ⟨_, rfl⟩
    have hv := hval i v hP
    rw [hb] at hv
    subst hv
    have hS' := hk' S _ hSw hS
    have h1 := le i
    have h3 := step i
    rw [hb] at h3
    have hb01 : (if b = true then (1 : Int) else 0) = 0 ∨ (if b = true then (1 : Int) else 0) = 1 := by cases b <;> simp
    have h3' : ((cnt ((List.range i).map val) : Nat) : Int) + (if b = true then 1 else 0) = (cnt ((List.range (i + 1)).map val) : Nat) := h3
    show wpAny _ A.in1 (if (_ && _ : Bool) = true then (mkInt (((cnt ((List.range i).map val) : Nat) : Int) + (if b = true then 1 else 0)) >>= _) else _) _ _ _
    refine bm_if_true (Bool.and_eq_true_iff.mpr ⟨Bool.and_eq_true_iff.mpr ⟨decide_eq_true ?_, decide_eq_true ?_⟩, Bool.and_eq_true_iff.mpr ⟨decide_eq_true ?_, decide_eq_true ?_⟩⟩) ?_
    · omega
    · omega
    · omega
    · omega
    refine wpAny_bind (wpAny_mkInt ?_)
    rw [h3']
    refine wpAny_bind ?_
    refine wpAny_updateSeq hS' rfl (wpAny_pure ⟨plainId_quiet F.plain_sum_loop _, ih (i + 1) _ tk _ (by omega) hlt (W.frame _ _ _ hst' fun b hb o e => ?_) (Heap.get?_update_self _ hS' rfl) fun h'' tk'' t'' hk'' => ?_⟩)
    · exact (Heap.get?_update_other _ _ (fun h : S = b => hSf (by rw [h]; exact hb))).trans e
    · exact hR h'' tk'' t'' fun b o hbw hbS e => hk'' b o hbw hbS ((Heap.get?_update_other _ _ (Ne.symm hbS)).trans (hk' b o hbw e))
end
section
variable {prog : Program} {w : World} {A : Around} {E : Value → Shared → Prop} {s : Shared} {h₀ : Heap} {L : Addr} {s₁ : Shared} {vs : List (Str × Value)} {news : List (Addr × Obj)}
theorem call_sum_bools {x : Value} {Q : Value → Shared → Prop}
    (h : wpAny (model prog w) A.in1 (pyIter x) (fun it s₂ => ∃ I fp wr n P Sw val, it = .ref I ∧ Walks prog w A.in1 I fp wr n P Sw ∧ Sw 0 s₂.heap ∧ (∀ b ∈ fp, b < s₂.heap.objs.size) ∧
      (∀ i v, P i v → v = .bool (val i)) ∧ n ≤ 1000000 ∧
      ∀ h' tk t', (∀ b o, b ∉ wr → s₂.heap.get? b = some o → h'.get? b = some o) → Q (.int (cnt ((List.range n).map val) : Nat) t') { s₂ with heap := h', toks := tk }) E s) :
    wpAny (model prog w) A (call (.builtin "sum") [x]) Q E s := by
  refine call_function_tree F.kind_sum F.plain_sum F.entry_sum (F.args_sum1 _) ?_
  unfold Builtin.«sum»
  simp only [List.length_cons, List.length_nil]
  rw [if_neg (by decide)]
  refine wpAny_bind (wpAny_of_eq (show Builtin.Builtins.bindParams "sum" ["start"] 0 { } = pure [none] from rfl) ?_)
  refine wpAny_bind (wpAny_mono h (fun it s₂ h₂ => ?_) fun _ _ e => e)
  obtain ⟨I, fp, wr, n, P, Sw, val, rfl, W, hst, hfp, hval, hfit, hQ⟩ := h₂
  refine wpAny_bind (wpAny_mkInt ?_)
  refine wpAny_bind (wpAny_pure ?_)
  simp only [List.forIn_cons, List.forIn_nil]
  refine wpAny_bind (wpAny_bind (wpAny_bind (wpAny_isInstance (T := "int") (b := false) (typeIs_int _ _ _) PySem.sub_int_str ?_)))
  simp only [Bool.false_eq_true, if_false]
  refine wpAny_pure (wpAny_bind (wpAny_bind (wpAny_isInstance (T := "int") (b := false) (typeIs_int _ _ _) PySem.sub_int_bytes ?_)))
  simp only [Bool.false_eq_true, if_false]
  refine wpAny_pure (wpAny_bind (wpAny_bind (wpAny_isInstance (T := "int") (b := false) (typeIs_int _ _ _) PySem.sub_int_bytearray ?_)))
  simp only [Bool.false_eq_true, if_false]
  refine wpAny_pure (wpAny_pure ?_)
  refine wpAny_bind (wpAny_newObj_type ?_)
  have hSf : s₂.heap.objs.size ∉ fp := fun hm => Nat.lt_irrefl _ (hfp _ hm)
  refine wpAny_pure ⟨plainId_quiet F.plain_sum_loop _, sum_loop W val hval hfit s₂.heap.objs.size hSf n 0 _ s₂.toks 0 rfl (Nat.zero_le _)
    (W.frame _ _ _ hst fun b _ o e => Heap.get?_push_of_some _ e) (Heap.get?_push_size _ rfl) fun h' tk t' hk => ?_⟩
  exact hQ h' tk t' fun b o hbw e => hk b o hbw (Nat.ne_of_lt (Heap.lt_size e)) (Heap.get?_push_of_some _ e)
end
end Mine

end

section
open PySem PySem.W PyProof.Rows PySem.Calls
set_option maxRecDepth 100000
namespace Mine
/-- an iterator stands ready at a state -/
def Ready (prog : Program) (w : World) (A : Around) (target : Expr) (h₀ : Heap) (L : Addr) (news : List (Addr × Obj)) (n : Nat) (P : Nat → Value → Heap → Prop) (I : Addr) (s : Shared) : Prop :=
  ∃ fp wr Sw, Its prog w A target I fp wr n P Sw ∧ (∀ b ∈ fp, b < s.heap.objs.size) ∧ L ∉ fp ∧ L ∉ wr ∧ (∀ b ∈ wr, h₀.get? b = none) ∧ (∀ p ∈ news, p.1 ∉ wr) ∧ Sw 0 s.heap

theorem Its.map {prog : Program} {w : World} {A : Around} {target : Expr} {I : Addr} {fp wr : List Addr} {n n' : Nat} {P P' : Nat → Value → Heap → Prop} {Sw : Nat → Heap → Prop} (W : Its prog w A target I fp wr n P Sw) (hn : n = n') (hP : ∀ i v h, P i v h → P' i v h) :
    Its prog w A target I fp wr n' P' Sw := by
  subst hn
  exact { sub := W.sub, frame := W.frame, item := fun i s Q E hi hs hQ => W.item i s Q E hi hs fun v h' tk hp => hQ v h' tk (hP _ _ _ hp), done := W.done, self := W.self }
section
variable {prog : Program} {w : World} {M : Model} {A : Around} {E : Value → Shared → Prop} {s : Shared} {h₀ : Heap} {L : Addr} {s₁ : Shared} {vs : List (Str × Value)} {news : List (Addr × Obj)}
theorem St.new_ge (S : St h₀ L s₁ vs news s) {b : Addr} (h : s.heap.objs.size ≤ b) : h₀.get? b = none ∧ L ≠ b ∧ ∀ p ∈ news, p.1 ≠ b := by
  have h1 := ltN S.Llt
  have h2 : h₀.objs.size ≤ L := S.above
  exact ⟨Heap.get?_none_of_le (Nat.le_trans h2 (Nat.le_of_lt (Nat.lt_of_lt_of_le h1 h))), neN (Nat.ne_of_lt (Nat.lt_of_lt_of_le h1 h)), fun p hp => neN (Nat.ne_of_lt (Nat.lt_of_lt_of_le (ltN (S.lt p hp)) h))⟩
theorem St.notList (S : St h₀ L s₁ vs news s) {l : Addr} {xs : Array Value} (hl : s.heap.IsList l xs) : L ≠ l := by
  obtain ⟨m, F, _⟩ := S.fr
  obtain ⟨o, es, ep, h1, h2, _, _⟩ := F.ns
  obtain ⟨o', h1', _, k, h2'⟩ := hl
  rintro rfl
  rw [h1] at h1'
  cases h1'
  rw [h2] at h2'
  cases h2'
theorem i_list {l : Addr} {xs : List Value} {Q : Value → Shared → Prop} (hh : A.handled = none) (S : St h₀ L s₁ vs news s) (hl : s.heap.IsList l xs.toArray)
    (h : ∀ I s', St h₀ L s₁ vs news s' → (∀ x px, Ready prog w A (.Name x px) h₀ L news xs.length (fun i v _ => xs[i]? = some v) I s') → Q (.ref I) s') :
    wpAny (model prog w) A (pyIter (.ref l)) Q E s := by
  have hlt : l < s.heap.objs.size := by obtain ⟨o, ho, _⟩ := id hl; exact Heap.lt_size ho
  have hne : l ≠ s.heap.objs.size := Nat.ne_of_lt hlt
  refine wpAny_pyIter_list hl ?_
  have Sp := S.push { cls := .type "list_iterator", data := .fields #[.ref l, .int 0 0] }
  obtain ⟨g1, g2, g3⟩ := S.new_ge (Nat.le_refl _)
  have W : Walks prog w A s.heap.objs.size [s.heap.objs.size, l] [s.heap.objs.size] xs.length (fun i v => xs[i]? = some v) (fun i h => h.IsListIter s.heap.objs.size l i ∧ h.IsList l xs.toArray) := by
    have W := Walks.list (prog := prog) (w := w) hh s.heap.objs.size l hne xs.toArray
    simpa using W
  refine h _ _ (Sp.weak (fun _ h => h) (fun p hp => .tail _ hp)) fun x px => ⟨_, _, _, Its.ofName W, ?_, ?_, ?_, ?_, ?_, ⟨⟨_, Heap.get?_push_size _ rfl, rfl, rfl⟩, hl.push _⟩⟩
  · intro b hb
    show b < (s.heap.push _).objs.size
    rw [Heap.size_push]
    rcases List.mem_cons.mp hb with rfl | hb
    · exact Nat.lt_succ_self _
    · rw [List.mem_singleton.mp hb]; exact Nat.lt_succ_of_lt hlt
  · intro hb
    rcases List.mem_cons.mp hb with e | hb
    · exact g2 e
    · exact S.notList hl (List.mem_singleton.mp hb)
  · simpa using g2
  · intro b hb; rw [List.mem_singleton.mp hb]; exact g1
  · intro p hp; simpa using g3 p hp
theorem c_zip {l1 l2 : Addr} {xs ys : List Value} {Q : Value → Shared → Prop} (hh : A.handled = none) (S : St h₀ L s₁ vs news s) (hl1 : s.heap.IsList l1 xs.toArray) (hl2 : s.heap.IsList l2 ys.toArray)
    (h : ∀ I s', St h₀ L s₁ vs news s' → (∀ elts k px, Ready prog w A (.Tuple elts k px) h₀ L news (min xs.length ys.length) (fun i v h => ∃ T vals, v = .ref T ∧ (∃ x y, xs[i]? = some x ∧ ys[i]? = some y ∧ vals = #[x, y]) ∧ h.IsTuple T vals) I s') → Q (.ref I) s') :
    wpAny (model prog w) A (call (.type "zip") [.ref l1, .ref l2]) (fun x s₂ => wpAny (model prog w) A (pyIter x) Q E s₂) E s := by
  have hlt1 : l1 < s.heap.objs.size := by obtain ⟨o, ho, _⟩ := id hl1; exact Heap.lt_size ho
  have hlt2 : l2 < s.heap.objs.size := by obtain ⟨o, ho, _⟩ := id hl2; exact Heap.lt_size ho
  have n1 := ltN hlt1
  have n2 := ltN hlt2
  refine call_zip_2 hl1 hl2 fun h' z1 z2 z3 z4 z5 z6 z7 => ?_
  have Sg : St h₀ L s₁ vs news { s with heap := h' } := S.grow s.toks z7
  have hd : ZipApart (s.heap.objs.size + 4) (s.heap.objs.size + 2) (s.heap.objs.size + 3) s.heap.objs.size (s.heap.objs.size + 1) l1 l2 := by
    constructor <;> exact neN (by omega)
  have hW := fun elts k px => (Its.ofTuple (elts := elts) (k := k) (px := px) (WalksT.zip2 (prog := prog) (w := w) hh _ _ _ _ _ l1 l2 hd xs.toArray ys.toArray).toU).map
    (n' := min xs.length ys.length) (P' := fun i v h => ∃ T vals, v = .ref T ∧ (∃ x y, xs[i]? = some x ∧ ys[i]? = some y ∧ vals = #[x, y]) ∧ h.IsTuple T vals) (by simp) (fun i v h hp => by simpa using hp)
  have hsw : _ := (⟨z1, z2, ⟨_, _, z3⟩, z4, z5, hl1.at fun o e => z7 _ o e, hl2.at fun o e => z7 _ o e⟩ : IsZip h' (s.heap.objs.size + 4) (s.heap.objs.size + 2) (s.heap.objs.size + 3) .none ∧ IsPair h' (s.heap.objs.size + 2) (.ref s.heap.objs.size) (.ref (s.heap.objs.size + 1)) ∧ (∃ a b, IsPair h' (s.heap.objs.size + 3) a b) ∧ h'.IsListIter s.heap.objs.size l1 0 ∧ h'.IsListIter (s.heap.objs.size + 1) l2 0 ∧ h'.IsList l1 xs.toArray ∧ h'.IsList l2 ys.toArray)
  refine (hW [] 0 ⟨0, 0, 0, 0⟩).self 0 _ _ _ hsw ?_
  refine h _ _ Sg fun elts k px => ⟨_, _, _, hW elts k px, ?_, ?_, ?_, ?_, ?_, hsw⟩
  · intro b hb
    show (b : Nat) < h'.objs.size
    rw [z6]
    simp only [List.mem_cons, List.not_mem_nil, or_false] at hb
    rcases hb with rfl | rfl | rfl | rfl | rfl | rfl | rfl <;> first | exact Nat.add_lt_add_left (by decide) _ | exact Nat.lt_add_of_pos_right (by decide) | exact Nat.lt_of_lt_of_le n1 (Nat.le_add_right _ _) | exact Nat.lt_of_lt_of_le n2 (Nat.le_add_right _ _)
  · intro hb
    simp only [List.mem_cons, List.not_mem_nil, or_false] at hb
    rcases hb with e | e | e | e | e | e | e <;> first | exact S.notList hl1 e | exact S.notList hl2 e | exact (S.new_ge (by first | exact Nat.le_refl _ | exact Nat.le_add_right _ _)).2.1 e
  · intro hb
    simp only [List.mem_cons, List.not_mem_nil, or_false] at hb
    rcases hb with e | e | e | e <;> exact (S.new_ge (by first | exact Nat.le_refl _ | exact Nat.le_add_right _ _)).2.1 e
  · intro b hb
    simp only [List.mem_cons, List.not_mem_nil, or_false] at hb
    refine (S.new_ge ?_).1
    rcases hb with rfl | rfl | rfl | rfl <;> first | exact Nat.le_refl _ | exact Nat.le_add_right _ _
  · intro p hp hb
    simp only [List.mem_cons, List.not_mem_nil, or_false] at hb
    rcases hb with e | e | e | e <;> exact (S.new_ge (by first | exact Nat.le_refl _ | exact Nat.le_add_right _ _)).2.2 p hp e
theorem c_enum {l : Addr} {xs : List Value} {Q : Value → Shared → Prop} (hh : A.handled = none) (S : St h₀ L s₁ vs news s) (hl : s.heap.IsList l xs.toArray)
    (h : ∀ I s', St h₀ L s₁ vs news s' → (∀ elts k px, Ready prog w A (.Tuple elts k px) h₀ L news xs.length (fun i v h => ∃ T vals, v = .ref T ∧ (∃ t x, xs[i]? = some x ∧ vals = #[.int i t, x]) ∧ h.IsTuple T vals) I s') → Q (.ref I) s') :
    wpAny (model prog w) A (call (.type "enumerate") [.ref l]) (fun x s₂ => wpAny (model prog w) A (pyIter x) Q E s₂) E s := by
  have hlt : l < s.heap.objs.size := by obtain ⟨o, ho, _⟩ := id hl; exact Heap.lt_size ho
  have n1 := ltN hlt
  refine call_enumerate_list hl fun h' z1 z2 z6 z7 => ?_
  have Sg : St h₀ L s₁ vs news { s with heap := h' } := S.grow s.toks z7
  have hW := fun elts k px => (Its.ofTuple (elts := elts) (k := k) (px := px) (WalksT.enumerate (prog := prog) (w := w) hh (s.heap.objs.size + 1) s.heap.objs.size l (neN (by omega)) (neN (by omega)) (neN (by omega)) xs.toArray).toU).map
    (n' := xs.length) (P' := fun i v h => ∃ T vals, v = .ref T ∧ (∃ t x, xs[i]? = some x ∧ vals = #[.int i t, x]) ∧ h.IsTuple T vals) (by simp) (fun i v h hp => by simpa using hp)
  have hsw : _ := (⟨⟨_, z1⟩, z2, hl.at fun o e => z7 _ o e⟩ : (∃ old, IsEnum h' (s.heap.objs.size + 1) s.heap.objs.size (0 : Nat) old) ∧ h'.IsListIter s.heap.objs.size l 0 ∧ h'.IsList l xs.toArray)
  refine (hW [] 0 ⟨0, 0, 0, 0⟩).self 0 _ _ _ hsw ?_
  refine h _ _ Sg fun elts k px => ⟨_, _, _, hW elts k px, ?_, ?_, ?_, ?_, ?_, hsw⟩
  · intro b hb
    show (b : Nat) < h'.objs.size
    rw [z6]
    simp only [List.mem_cons, List.not_mem_nil, or_false] at hb
    rcases hb with rfl | rfl | rfl <;> first | exact Nat.add_lt_add_left (by decide) _ | exact Nat.lt_add_of_pos_right (by decide) | exact Nat.lt_of_lt_of_le n1 (Nat.le_add_right _ _)
  · intro hb
    simp only [List.mem_cons, List.not_mem_nil, or_false] at hb
    rcases hb with e | e | e <;> first | exact S.notList hl e | exact (S.new_ge (by first | exact Nat.le_refl _ | exact Nat.le_add_right _ _)).2.1 e
  · intro hb
    simp only [List.mem_cons, List.not_mem_nil, or_false] at hb
    rcases hb with e | e <;> exact (S.new_ge (by first | exact Nat.le_refl _ | exact Nat.le_add_right _ _)).2.1 e
  · intro b hb
    simp only [List.mem_cons, List.not_mem_nil, or_false] at hb
    refine (S.new_ge ?_).1
    rcases hb with rfl | rfl <;> first | exact Nat.le_refl _ | exact Nat.le_add_right _ _
  · intro p hp hb
    simp only [List.mem_cons, List.not_mem_nil, or_false] at hb
    rcases hb with e | e <;> exact (S.new_ge (by first | exact Nat.le_refl _ | exact Nat.le_add_right _ _)).2.2 p hp e

theorem c_sumb {l : Addr} {xs : List Value} {bs : List Bool} {Q : Value → Shared → Prop} (hh : A.in1.handled = none) (S : St h₀ L s₁ vs news s) (hl : s.heap.IsList l xs.toArray) (hb : xs = bs.map Value.bool) (hn : bs.length ≤ 1000000)
    (h : ∀ t s', St h₀ L s₁ vs news s' → Q (.int (cnt bs : Nat) t) s') : wpAny (model prog w) A (call (.builtin "sum") [.ref l]) Q E s := by
  have hlt : l < s.heap.objs.size := by obtain ⟨o, ho, _⟩ := id hl; exact Heap.lt_size ho
  have hne : l ≠ s.heap.objs.size := Nat.ne_of_lt hlt
  refine call_sum_bools (wpAny_pyIter_list hl ?_)
  have Sp := S.push { cls := .type "list_iterator", data := .fields #[.ref l, .int 0 0] }
  obtain ⟨g1, g2, g3⟩ := S.new_ge (Nat.le_refl _)
  subst hb
  have W : Walks prog w A.in1 s.heap.objs.size [s.heap.objs.size, l] [s.heap.objs.size] bs.length (fun i v => (bs.map Value.bool)[i]? = some v) (fun i h => h.IsListIter s.heap.objs.size l i ∧ h.IsList l (bs.map Value.bool).toArray) := by
    have W := Walks.list (prog := prog) (w := w) hh s.heap.objs.size l hne (bs.map Value.bool).toArray
    simpa using W
  refine ⟨_, _, _, _, _, _, fun i => bs.getD i false, rfl, W, ⟨⟨_, Heap.get?_push_size _ rfl, rfl, rfl⟩, hl.push _⟩, ?_, ?_, hn, ?_⟩
  · intro b hb
    show b < (s.heap.push _).objs.size
    rw [Heap.size_push]
    rcases List.mem_cons.mp hb with rfl | hb
    · exact Nat.lt_succ_self _
    · rw [List.mem_singleton.mp hb]; exact Nat.lt_succ_of_lt hlt
  · intro i v hv
    rw [List.getElem?_map] at hv
    cases hbi : bs[i]? with
    | none => rw [hbi] at hv; cases hv
    | some x =>
      rw [hbi] at hv
      show v = .bool (bs.getD i false)
      rw [List.getD_eq_getElem?_getD, hbi]
      exact (Option.some.inj hv).symm
  · intro h' tk t' hk
    have e : (List.range bs.length).map (fun i => bs.getD i false) = bs := by
      apply List.ext_getElem
      · simp
      · intro i h1 h2
        simp only [List.getElem_map, List.getElem_range]
        rw [List.getD_eq_getElem?_getD, List.getElem?_eq_getElem h2]; rfl
    rw [e]
    obtain ⟨m, F, hm⟩ := S.fr
    refine h t' _ (S.of (k := tk) ⟨F.ns.at' fun o e => hk _ o (by simpa using g2) (Heap.get?_push_of_some _ e), fun b o e => hk b o (fun hb => ?_) (Heap.get?_push_of_some _ (F.keep b o e)), F.above⟩ hm fun p hp => ⟨hk _ _ (by simpa using g3 p hp) (Heap.get?_push_of_some _ (S.nw p hp).1), (S.nw p hp).2⟩)
    rw [List.mem_singleton.mp hb, g1] at e; cases e
theorem c_min {l : Addr} {xs : List Value} {ns : List Int} {Q : Value → Shared → Prop} (hh : A.handled = none) (S : St h₀ L s₁ vs news s) (hl : s.heap.IsList l xs.toArray) (hi : IntsAre xs ns) (hne : 0 < ns.length)
    (h : ∀ (m : Int) t s', m ∈ ns → (∀ a, a ∈ ns → m ≤ a) → St h₀ L s₁ vs news s' → Q (.int m t) s') : wpAny (model prog w) A (call (.builtin "min") [.ref l]) Q E s := by
  obtain ⟨m, F, hm⟩ := S.fr
  exact min_list_N hh F S.nw hl hi hne fun h' M t tk F' N' h1 h2 => h M t _ h1 h2 (S.of F' hm N')
theorem o_ladd {a b : Addr} {xs ys : List Value} {Q : Value → Shared → Prop} (S : St h₀ L s₁ vs news s) (ha : s.heap.IsList a xs.toArray) (hb : s.heap.IsList b ys.toArray) (hz : xs.length + ys.length ≤ 16777216)
    (h : ∀ D s', St h₀ L s₁ vs ((D, listOf (xs ++ ys).toArray 0) :: news) s' → (∀ p ∈ news, p.1 < D) → Q (.ref D) s') : wpAny (model prog w) A (binaryOp .Add (.ref a) (.ref b)) Q E s := by
  obtain ⟨m, F, hm⟩ := S.fr
  exact PyProof.Rows.add_lists F S.nw ha hb (fun h' F' N' => h _ _ (S.of (k := s.toks) F' hm N') S.lt) (by rw [sizeLine_eq]; exact hz)
theorem s_lfrom {value slice : Expr} {l : Addr} {xs : List Value} {k : Int} {u : Tok} {Q : Value → Shared → Prop} (S : St h₀ L s₁ vs news s) (hl : s.heap.IsList l xs.toArray) (h0 : 0 ≤ k) (hz : xs.length ≤ 1000000)
    (h : ∀ D s', St h₀ L s₁ vs ((D, listOf (xs.drop k.toNat).toArray 0) :: news) s' → Q (.ref D) s')
    (hs : subscripted slice false (.ref l) (.ref s.heap.objs.size) = operate [.ref s.heap.objs.size, .ref l] (getItem (.ref l) (.ref s.heap.objs.size)) := by with_unfolding_all rfl)
    (ht : ∀ r, letTemporaryGo value (.ref l) r = pure () := by intro _; with_unfolding_all rfl) :
    wpAny (model prog w) A (subscriptTail value slice (.ref l) (.ref s.heap.objs.size)) Q E { s with heap := s.heap.push { cls := .type "slice", data := .fields #[.int k u, .none, .none] } } := by
  obtain ⟨m, F, hm⟩ := S.fr
  have ex : k = (k.toNat : Int) := by omega
  have e : slicePick xs.toArray (some k) none none = (xs.drop k.toNat).toArray := by
    rw [ex, slicePick_from' xs.toArray k.toNat]
    simp [← ex]
  refine slice_list F S.nw hl (.int _ _) .none (fun h' F' N' => ?_) hs ht (by rw [sizeLine_eq]; simp; omega)
  rw [e] at N'
  exact h _ _ (S.of (k := s.toks) F' hm N')
theorem s_lupto {value slice : Expr} {l : Addr} {xs : List Value} {k : Int} {u : Tok} {Q : Value → Shared → Prop} (S : St h₀ L s₁ vs news s) (hl : s.heap.IsList l xs.toArray) (h0 : 0 ≤ k) (hz : xs.length ≤ 1000000)
    (h : ∀ D s', St h₀ L s₁ vs ((D, listOf (xs.take k.toNat).toArray 0) :: news) s' → Q (.ref D) s')
    (hs : subscripted slice false (.ref l) (.ref s.heap.objs.size) = operate [.ref s.heap.objs.size, .ref l] (getItem (.ref l) (.ref s.heap.objs.size)) := by with_unfolding_all rfl)
    (ht : ∀ r, letTemporaryGo value (.ref l) r = pure () := by intro _; with_unfolding_all rfl) :
    wpAny (model prog w) A (subscriptTail value slice (.ref l) (.ref s.heap.objs.size)) Q E { s with heap := s.heap.push { cls := .type "slice", data := .fields #[.none, .int k u, .none] } } := by
  obtain ⟨m, F, hm⟩ := S.fr
  have ex : k = (k.toNat : Int) := by omega
  have e : slicePick xs.toArray none (some k) none = (xs.take k.toNat).toArray := by
    rw [ex, slicePick_upto' xs.toArray k.toNat]
    simp [← ex]
  refine slice_list F S.nw hl .none (.int _ _) (fun h' F' N' => ?_) hs ht (by rw [sizeLine_eq]; simp; omega)
  rw [e] at N'
  exact h _ _ (S.of (k := s.toks) F' hm N')
end
end Mine

end

section
open PySem PySem.W PyProof.Rows PySem.Calls
set_option maxRecDepth 100000
namespace Mine
section
variable {prog : Program} {w : World} {M : Model} {A : Around} {E : Value → Shared → Prop} {s : Shared} {h₀ : Heap} {s₁ : Shared} {vs : List (Str × Value)} {news : List (Addr × Obj)} {env : Env}
  {elt target iter : Expr} {ifs : List Expr} {scope : Scope} {pos : Pos} {cl : List (Str × Addr)} {I : Addr} {n : Nat} {P : Nat → Value → Heap → Prop}
section
variable (R : Ready prog w A target h₀ env.locals news n P I s) (S : St h₀ env.locals s₁ vs news s)
    (hn : n ≤ 1000000) (J : Nat → List Value → Prop) (h0 : J 0 [])
    (turn : ∀ C D oL i v ys c s' own, ObjHas oL vs → h₀.objs.size ≤ C → (∀ p ∈ news, p.1 ≠ C) → env.locals ≠ C → D ≠ env.locals → D ≠ C → (∀ p ∈ own, p.1 ≠ D ∧ p.1 ≠ C ∧ p.1 ≠ env.locals) → i < n → P i v s'.heap → J i ys → ys.length ≤ i →
      St h₀ C s₁ [] ((D, listOf ys.toArray c) :: ((env.locals, oL) :: news ++ own)) s' →
      wpAny (model prog w) A (assign target (compEnvC scope cl C env) v) (fun _ s₂ => wpAny (model prog w) A (testsOf ifs (compEnvC scope cl C env)) (fun ok s₃ =>
        if ok = true then wpAny (model prog w) A (eval elt (compEnvC scope cl C env)) (fun y s₄ => J (i + 1) (ys ++ [y]) ∧ ∃ oL, ObjHas oL vs ∧ St h₀ C s₁ [] ((D, listOf ys.toArray c) :: ((env.locals, oL) :: news ++ own)) s₄) (fun _ _ => False) s₃
        else J (i + 1) ys ∧ ∃ oL, ObjHas oL vs ∧ St h₀ C s₁ [] ((D, listOf ys.toArray c) :: ((env.locals, oL) :: news ++ own)) s₃) (fun _ _ => False) s₂) (fun _ _ => False) s')
include R S hn h0 turn
theorem lc_ev {Q : Value → Shared → Prop}
    (done : ∀ ys D c s', J n ys → ys.length ≤ n → (∀ p ∈ news, p.1 ≠ D) → St h₀ env.locals s₁ vs ((D, listOf ys.toArray c) :: news) s' → Q (.ref D) s')
    (hcell : ∀ x ∈ scope.names, x.2 ≠ .cell := by decide) (hkind : scope.kind = .function := by rfl) : CompIt prog w A E env elt target iter ifs scope pos cl none Q (.ref I) s := by
  obtain ⟨fp, wr, Sw, W, h1, hLf, h2, h3, h4, h5⟩ := R
  exact comp_ev W S h1 h2 h3 h4 h5 hn J h0 (fun C D oL i v ys c s' own g1 g2 g3 g4 g5 g6 g7 => turn C D oL i v ys c s' own g1 g2 g3 g4 g5 g6 (fun p hp => ⟨(g7 p hp).1, (g7 p hp).2.1, fun e => hLf (e ▸ (g7 p hp).2.2)⟩)) done hcell hkind
theorem lc_us {y : Str} {py : Pos} {Q : Value → Shared → Prop}
    (done : ∀ ys D c s', J n ys → ys.length ≤ n → (∀ p ∈ news, p.1 ≠ D) → St h₀ env.locals s₁ (upd y (.ref D) vs) ((D, listOf ys.toArray c) :: news) s' → Q .none s')
    (hcell : ∀ x ∈ scope.names, x.2 ≠ .cell := by decide) (hkind : scope.kind = .function := by rfl) (hek : env.scope.kind = .function := by rfl) (hey : env.kindOf y = some .local := by rfl) :
    CompIt prog w A E env elt target iter ifs scope pos cl (some (assign (.Name y py) env)) Q (.ref I) s := by
  obtain ⟨fp, wr, Sw, W, h1, hLf, h2, h3, h4, h5⟩ := R
  exact comp_us W S h1 h2 h3 h4 h5 hn J h0 (fun C D oL i v ys c s' own g1 g2 g3 g4 g5 g6 g7 => turn C D oL i v ys c s' own g1 g2 g3 g4 g5 g6 (fun p hp => ⟨(g7 p hp).1, (g7 p hp).2.1, fun e => hLf (e ▸ (g7 p hp).2.2)⟩)) done hcell hkind hek hey
end
end

section
variable {prog : Program} {w : World} {A : Around} {E : Value → Shared → Prop} {s : Shared} {h₀ : Heap} {L : Addr} {s₁ : Shared} {vs : List (Str × Value)} {news : List (Addr × Obj)} {name : Str} {scope : Scope} {a : Addr} {cd : Value} {x : Str} {px : Pos} {body : List Stmt} {Q : Flow → Shared → Prop}
theorem loop_list {l : Addr} {xs : List Value} (hh : A.handled = none) (hl : s.heap.IsList l xs.toArray) (hLl : L ≠ l) (S : St h₀ L s₁ vs news s) (J : Nat → List (Str × Value) → List (Addr × Obj) → Prop) (h0 : J 0 vs news)
    (turn : ∀ i v vs₁ news₁ s' own, xs[i]? = some v → J i vs₁ news₁ → news₁.map (·.1) = news.map (·.1) → St h₀ L s₁ (upd x v vs₁) (news₁ ++ own) s' →
      wpAny (model prog w) A (execs body (envOf name scope L a cd)) (TurnEnd h₀ L s₁ (J (i + 1)) (news.map (·.1)) own Q) E s')
    (done : ∀ vs₁ news₁ s', J xs.length vs₁ news₁ → news₁.map (·.1) = news.map (·.1) → St h₀ L s₁ vs₁ news₁ s' → Q .next s')
    (hE : PassesOwn (model prog w) A (envOf name scope L a cd) E) (hk : scope.kind = .function := by rfl) (hl' : (envOf name scope L a cd).kindOf x = some .local := by rfl) :
    wpAny (model prog w) A (pyIter (.ref l)) (fun it s₂ => codeAny (model prog w) A (.forLoop (.Name x px) it body [] (envOf name scope L a cd)) (fun r s' => match r with | .ok f => Q f s' | .error e => cameBackBy (model prog w) A (envOf name scope L a cd) E e s') s₂) E s := by
  have hlt : l < s.heap.objs.size := by obtain ⟨o, ho, _⟩ := id hl; exact Heap.lt_size ho
  have hne : l ≠ s.heap.objs.size := Nat.ne_of_lt hlt
  refine wpAny_pyIter_list hl ?_
  have W := Walks.list (prog := prog) (w := w) hh s.heap.objs.size l hne xs.toArray
  have Sp := S.push { cls := .type "list_iterator", data := .fields #[.ref l, .int 0 0] }
  obtain ⟨g1, g2, g3⟩ := S.new_ge (Nat.le_refl _)
  refine loop_St (env := envOf name scope L a cd) W ?_ ?_ (fun p hp hI => ?_) ⟨⟨_, Heap.get?_push_size _ rfl, rfl, rfl⟩, hl.push _⟩ (Sp.weak (fun _ h => h) (fun p hp => .tail _ hp)) J h0 ?_ (fun vs₁ news₁ s' hJ => done vs₁ news₁ s' (by simpa using hJ)) hE
  · intro hm
    rcases List.mem_cons.mp hm with e | hm
    · exact g2 e
    · exact hLl (List.mem_singleton.mp hm)
  · intro b hb; rw [List.mem_singleton.mp hb]; exact g1
  · exact g3 p hp (List.mem_singleton.mp hI)
  · intro i v vs₁ news₁ s' own hi hP hJ ha hown hsw S'
    refine wpAny_pure (wpAny_assign_Name (e_st S' (fun s₂ S₂ => ?_) hk hl'))
    exact turn i v vs₁ news₁ s₂ own (by simpa using hP) hJ ha S₂
end
end Mine

end

section
open PySem PySem.W PyProof.Rows PySem.Calls
set_option maxRecDepth 100000
namespace Mine
section
variable {prog : Program} {w : World} {M : Model} {A₀ A : Around} {E : Value → Shared → Prop} {s : Shared} {base h₀ : Heap} {L : Addr} {s₁ : Shared} {vs : List (Str × Value)} {news : List (Addr × Obj)}
  {mg mb : Str → Option Value} {env : Env} {outer : List Env} {pos : Pos} {f : Addr} {fo : Obj}
/-- the call of a def of the text that never raises, its frame with cells -/
theorem c_fnC {name qual : Str} {params : Arguments} {body : List Stmt} {scope : Scope} {dV kV doc pm cdv ct : Value} {an : Option Addr} {args : List Value} {binds : List (Str × Value)} {Q : Value → Shared → Prop}
    (B : Below A₀ base outer h₀) (S : St h₀ L s₁ vs news s) (G : Glo mg mb h₀) (hA : A.frames = some (env :: outer)) (hf : env.frame = some L) (hke : env.scope.kind = .function)
    (ho : h₀.get? f = some fo) (hd : fo.data = .func (fnX name qual params body scope [] dV kV doc pm an cdv ct)) (hcd : h₀.CodeRec cdv qual) (hroom : A.depth < recursionLimit)
    (hbind : bindArgs (fnX name qual params body scope [] dV kV doc pm an cdv ct) ⟨args, []⟩ = pure binds)
    (hkind : ∀ n, ∀ x ∈ binds, scope.names.lookup x.1 = some .local ∨ (scope.names.lookup x.1 = some .cell ∧ ((cellsFrom n scope.names []).lookup x.1).isSome = true))
    (hnd : ((cellsFrom 0 scope.names []).map (·.1)).Nodup)
    {vsN : List (Str × Value)} (hvs : ∀ L', ∀ p ∈ vsN, bindL (envOfC qual scope L' f cdv).kindOf binds (fun _ => none) p.1 = some p.2)
    (h : ∀ g L' s' cells, St g L' s₁ vsN (cells ++ news) s' → CellsAre (bindC (envOfC qual scope L' f cdv).kindOf binds fun _ => none) (cellsFrom (L' + 1) scope.names []) cells → Glo mg mb g → (∀ p ∈ news, p.1 < L') →
      wpAny (model prog w) (A.deeper (envOfC qual scope L' f cdv)) (execs body (envOfC qual scope L' f cdv))
        (fun fl s'' => ∃ news', St g L' s₁ [] news' s'' ∧ (St h₀ L s₁ vs news' s'' → Q (match fl with | .ret v => v | _ => .none) s''))
        (fun _ _ => False) s')
    (hco : scope.isCoroutine = false := by rfl) (hgen : scope.isGenerator = false := by rfl) (hk : scope.kind = .function := by rfl) :
    wpAny (model prog w) A (call (.ref f) args) Q E s := by
  obtain ⟨m, F, hm⟩ := S.fr
  refine wpAny_call (callX_cells B F S.nw G.nolimit hA hf hke (F.keep _ _ ho) hd (hcd.keeps F.keep) hroom (BindsTo.of_eq hbind) hkind hnd (fun g L' h₁ tk cells Fg F' N' Y B' st hl => ?_) hco hgen hk)
  have S' : St g L' s₁ vsN (cells ++ news) { heap := h₁, gens := s.gens, drawn := s.drawn, toks := tk, os := s.os } := ⟨S.gens, S.drawn, S.os, ⟨_, F', hvs L'⟩, N'⟩
  refine wpAny_mono (h g L' _ cells S' Y (G.keeps st) hl) (fun fl s'' hq => ?_) (fun e s'' he => he.elim)
  obtain ⟨news', S'', hq⟩ := hq
  obtain ⟨m', F'', _⟩ := S''.fr
  refine leaveK_ F'' S''.nw fun F3 N3 => ?_
  exact hq ⟨S''.gens, S''.drawn, S''.os, ⟨m, F3, hm⟩, N3⟩

/-- a cell of the frame, at the head of the ledger, is set -/
theorem e_stC {cn : Str} {cs : Scope} {a : Addr} {ccd : Value} {x : Str} {v : Value} {c : Addr} {o : Obj} {v₀ : Option Value} {Q : Unit → Shared → Prop} (S : St h₀ L s₁ vs ((c, o) :: news) s) (hn : ∀ p ∈ news, p.1 ≠ c)
    (hc : (envOfC cn cs L a ccd).cells.lookup x = some c) (hd : o.data = .cell v₀) (h : ∀ s' o', o'.data = .cell (some v) → St h₀ L s₁ vs ((c, o') :: news) s' → Q () s')
    (hk : cs.kind = .function := by rfl) (hx : (envOfC cn cs L a ccd).kindOf x = some .cell := by rfl) : wpAny M A (storeName (envOfC cn cs L a ccd) x v) Q E s := by
  obtain ⟨m, F, hm⟩ := S.fr
  have hmem := S.nw _ (.head _)
  refine wpAny_storeName_cell hk hx hc ⟨o, hmem.1, hd⟩ fun h' hv hs => ?_
  obtain ⟨o', ho', hd'⟩ := hv
  refine h _ o' hd' (S.of (k := s.toks) ⟨F.ns.sameBut hs (Ne.symm hmem.2.1), fun b ob e => (hs.2 b (fun q => ?_)).trans (F.keep b ob e), F.above⟩ hm fun p hp => ?_)
  · rw [q, hmem.2.2] at e; cases e
  · rcases List.mem_cons.mp hp with rfl | hp
    · exact ⟨ho', hmem.2⟩
    · exact ⟨(hs.2 _ (hn p hp)).trans (S.nw p (.tail _ hp)).1, (S.nw p (.tail _ hp)).2⟩
/-- a free name of a comprehension, by its cell -/
theorem e_cellE {x : Str} {px : Pos} {v : Value} {c : Addr} {o : Obj} {Q : Value → Shared → Prop} (S : St h₀ L s₁ vs news s) (hm : (c, o) ∈ news) (hd : o.data = .cell (some v)) (h : Q v s)
    (hc : env.cells.lookup x = some c) (hk : env.scope.kind = .function := by rfl) (hx : env.kindOf x = some .cell := by rfl) (hb : (x == ("__debug__" : Str)) = false := by decide) :
    wpAny M A (eval (.Name x px) env) Q E s := wpAny_Name (wpAny_loadName_cell hk hx hc ⟨o, (S.nw _ hm).1, hd⟩ h) hb

theorem o_fdiv {i j : Int} {t u : Tok} {Q : Value → Shared → Prop} (S : St h₀ L s₁ vs news s) (hj : j ≠ 0) (hp : j.natAbs < 1073741824) (h : ∀ t s', St h₀ L s₁ vs news s' → Q (.int (i.fdiv j) t) s') : wpAny (model prog w) A (binaryOp .FloorDiv (.int i t) (.int j u)) Q E s :=
  floordiv_int hj (h _ _ (S.tok _)) (.inl (PyProof.noPylong_small hp))
theorem o_mod {i j : Int} {t u : Tok} {Q : Value → Shared → Prop} (S : St h₀ L s₁ vs news s) (hj : j ≠ 0) (h : ∀ t s', St h₀ L s₁ vs news s' → Q (.int (i.fmod j) t) s') : wpAny (model prog w) A (binaryOp .Mod (.int i t) (.int j u)) Q E s :=
  mod_int' hj (h _ _ (S.tok _))
theorem o_pow {i j : Int} {t u : Tok} {Q : Value → Shared → Prop} (S : St h₀ L s₁ vs news s) (h0 : 0 ≤ j) (h1 : j ≤ 1000000) (hi : i.natAbs < 2 ^ 64) (h : ∀ t s', St h₀ L s₁ vs news s' → Q (.int (i ^ j.toNat) t) s') : wpAny (model prog w) A (binaryOp .Pow (.int i t) (.int j u)) Q E s :=
  pow_int_small h0 h1 hi (h _ _ (S.tok _))
theorem i_range {r : Addr} {b₀ : Int} {n : Nat} {t₀ u₀ v₀ : Tok} {Q : Value → Shared → Prop} (hh : A.handled = none) (S : St h₀ L s₁ vs news s) (hr : IsRange s.heap r 0 b₀ 1 t₀ u₀ v₀) (hb : b₀ = (n : Int)) (hn : n ≤ 1000000)
    (h : ∀ I s', St h₀ L s₁ vs news s' → (∀ x px, Ready prog w A (.Name x px) h₀ L news n (fun i v _ => ∃ t, v = .int i t) I s') → Q (.ref I) s') :
    wpAny (model prog w) A (pyIter (.ref r)) Q E s := by
  subst hb
  refine wpAny_pyIter_range hr (small_one (by decide) (by decide) (by omega) (by omega)) ?_
  have hz : Builtin.Range.rangeSize 0 (n : Int) 1 = (n : Int) := by rw [rangeSize_nat]; omega
  have W : Walks prog w A s.heap.objs.size [s.heap.objs.size] [s.heap.objs.size] n (fun i v => ∃ t, v = .int (0 + i * 1) t) (fun i h => IsRangeIter h s.heap.objs.size (0 + (i : Nat) * 1) ((n : Int) - (i : Nat)) 1) := Walks.range hh _ 0 1 n
  have Sp := S.push { cls := .type "range_iterator", data := .fields #[rawInt 0, rawInt (Builtin.Range.rangeSize 0 (n : Int) 1), rawInt 1] }
  obtain ⟨g1, g2, g3⟩ := S.new_ge (Nat.le_refl _)
  refine h _ _ (Sp.weak (fun _ h => h) (fun p hp => .tail _ hp)) fun x px => ⟨_, _, _, (Its.ofName W).map rfl (fun i v h hp => ?_), ?_, ?_, ?_, ?_, ?_, ?_⟩
  · obtain ⟨t, rfl⟩ := hp
    exact ⟨t, by congr 1; omega⟩
  · intro b hb
    show b < (s.heap.push _).objs.size
    rw [Heap.size_push, List.mem_singleton.mp hb]
    exact Nat.lt_succ_self _
  · simpa using g2
  · simpa using g2
  · intro b hb; rw [List.mem_singleton.mp hb]; exact g1
  · intro p hp; simpa using g3 p hp
  · show IsRangeIter _ _ _ _ _
    rw [hz]
    simpa using Heap.get?_push_size _ rfl
end
end Mine

end

section
open PySem PySem.W PyProof.Rows PySem.Calls
namespace Mine
def hdo (p : List UInt8) : List UInt8 := p.take (p.findIdx (· == 37))
def clo (p : List UInt8) : Bool := decide ((hdo p).length < p.length)
def stp (a : List UInt8 × Nat) (p : List UInt8) : List UInt8 × Nat :=
  if (a.1 ++ p).findIdx (· == 37) < (a.1 ++ p).length then
    if ((a.1 ++ p).take ((a.1 ++ p).findIdx (· == 37)))[0]? = some 91 then ((a.1 ++ p).take ((a.1 ++ p).findIdx (· == 37)) ++ [93], a.2)
    else ((a.1 ++ p).take ((a.1 ++ p).findIdx (· == 37)), a.2 + 1)
  else (a.1 ++ p, a.2)
def goo (ps : List (List UInt8)) (a : List UInt8 × Nat) : List UInt8 × Nat := ps.foldl stp a
def No (l : List UInt8) : Prop := ∀ x ∈ l, x ≠ 37

theorem clo_iff (p : List UInt8) : clo p = true ↔ p.findIdx (· == 37) < p.length := by
  unfold clo hdo
  have := List.findIdx_le_length (p := (· == (37 : UInt8))) (xs := p)
  simp only [decide_eq_true_eq, List.length_take]
  omega
theorem hdo_of_not {p : List UInt8} (h : clo p = false) : hdo p = p := by
  have : ¬ p.findIdx (· == 37) < p.length := fun h' => by rw [(clo_iff p).mpr h'] at h; cases h
  unfold hdo
  exact List.take_of_length_le (by omega)
theorem hdo_no (p : List UInt8) : No (hdo p) := by
  intro x hx
  unfold hdo at hx
  obtain ⟨i, hi, rfl⟩ := List.getElem_of_mem hx
  rw [List.length_take] at hi
  have := List.not_of_lt_findIdx (p := (· == (37 : UInt8))) (xs := p) (i := i) (by omega)
  rw [List.getElem_take]
  simpa using this
theorem idx_app {N p : List UInt8} (h : No N) : (N ++ p).findIdx (· == 37) = N.length + p.findIdx (· == 37) := by
  induction N with
  | nil => simp
  | cons x r ih =>
    rw [List.cons_append, List.findIdx_cons, ih (fun y hy => h y (.tail _ hy))]
    have : (x == 37) = false := by simpa using h x (.head _)
    rw [this]
    simp only [cond_false, List.length_cons]
    omega
theorem stp_eq {N p : List UInt8} {R : Nat} (h : No N) : stp (N, R) p = if clo p = true then (if (N ++ hdo p)[0]? = some 91 then (N ++ hdo p ++ [93], R) else (N ++ hdo p, R + 1)) else (N ++ hdo p, R) := by
  have e : (N ++ p).take ((N ++ p).findIdx (· == 37)) = N ++ hdo p := by
    rw [idx_app h, List.take_append]
    have : N.length + p.findIdx (· == 37) - N.length = p.findIdx (· == 37) := by omega
    rw [this, List.take_of_length_le (by omega)]; rfl
  unfold stp
  simp only
  rw [e]
  by_cases hc : clo p = true
  · have h1 := (clo_iff p).mp hc
    rw [if_pos hc, if_pos (by rw [idx_app h, List.length_append]; omega)]
  · have h1 : ¬ p.findIdx (· == 37) < p.length := fun h' => hc ((clo_iff p).mpr h')
    rw [if_neg hc, if_neg (by rw [idx_app h, List.length_append]; omega), hdo_of_not (by simpa using hc)]
theorem no_app {a b : List UInt8} (h : No a) (h' : No b) : No (a ++ b) := fun x hx => (List.mem_append.mp hx).elim (h x) (h' x)
theorem no_93 : No [93] := fun x hx => by rw [List.mem_singleton.mp hx]; decide
def due (p : List UInt8) : List UInt8 := hdo p ++ (if clo p = true then [93] else [])

theorem get0_app {a b : List UInt8} (h : a ≠ []) : (a ++ b)[0]? = a[0]? := by
  cases a with
  | nil => exact absurd rfl h
  | cons x r => rfl
theorem goo_open (ps : List (List UInt8)) (N : List UInt8) (R : Nat) (h : No N) (h91 : N[0]? = some 91) : goo ps (N, R) = (N ++ (ps.map due).flatten, R) := by
  induction ps generalizing N with
  | nil => simp [goo]
  | cons p r ih =>
    have hne : N ≠ [] := fun e => by rw [e] at h91; cases h91
    have e0 : (N ++ hdo p)[0]? = some 91 := by rw [get0_app hne]; exact h91
    show goo r (stp (N, R) p) = _
    rw [stp_eq h]
    by_cases hc : clo p = true
    · rw [if_pos hc, if_pos e0, ih _ (no_app (no_app h (hdo_no p)) no_93) (by rw [get0_app (by simp [hne]), e0])]
      simp [due, hc]
    · rw [if_neg hc, ih _ (no_app h (hdo_no p)) e0]
      simp [due, hc]
theorem goo_shut (ps : List (List UInt8)) (N : List UInt8) (R : Nat) (h : No N) (hne : N ≠ []) (h91 : N[0]? ≠ some 91) : goo ps (N, R) = (N ++ (ps.map hdo).flatten, R + cnt (ps.map clo)) := by
  induction ps generalizing N R with
  | nil => simp [goo, cnt]
  | cons p r ih =>
    have e0 : (N ++ hdo p)[0]? ≠ some 91 := by rw [get0_app hne]; exact h91
    have hne' : N ++ hdo p ≠ [] := by simp [hne]
    show goo r (stp (N, R) p) = _
    rw [stp_eq h]
    by_cases hc : clo p = true
    · rw [if_pos hc, if_neg e0, ih _ _ (no_app h (hdo_no p)) hne' e0]
      simp [cnt, hc]; omega
    · rw [if_neg hc, ih _ _ (no_app h (hdo_no p)) hne' e0]
      simp [cnt, hc]
theorem goo_none (ps : List (List UInt8)) (R : Nat) (h : ∀ p ∈ ps, hdo p = []) : goo ps ([], R) = ([], R + cnt (ps.map clo)) := by
  induction ps generalizing R with
  | nil => simp [goo, cnt]
  | cons p r ih =>
    have e0 := h p (.head _)
    show goo r (stp ([], R) p) = _
    rw [stp_eq (fun x hx => by cases hx), e0]
    by_cases hc : clo p = true
    · rw [if_pos hc, if_neg (by simp)]
      show goo r ([], R + 1) = _
      rw [ih _ (fun q hq => h q (.tail _ hq))]
      simp [cnt, hc]; omega
    · rw [if_neg hc]
      show goo r ([], R) = _
      rw [ih _ (fun q hq => h q (.tail _ hq))]
      simp [cnt, hc]
theorem flat_none (ps : List (List UInt8)) (h : ∀ p ∈ ps, hdo p = []) : (ps.map hdo).flatten = [] := by
  induction ps with
  | nil => rfl
  | cons p r ih => simp [h p (.head _), ih (fun q hq => h q (.tail _ hq))]
/-- the whole: k is the place of the first piece that leaves something -/
theorem goo_all (ps : List (List UInt8)) (k : Nat) (p : List UInt8) (hk : ps[k]? = some p) (hp : hdo p ≠ []) (hlo : ∀ j, j < k → ∀ q, ps[j]? = some q → hdo q = []) :
    ((hdo p)[0]? ≠ some 91 → goo ps ([], 0) = ((ps.map hdo).flatten, cnt (ps.map clo))) ∧
    ((hdo p)[0]? = some 91 → goo ps ([], 0) = (((ps.drop k).map due).flatten, cnt ((ps.map clo).take k))) := by
  obtain ⟨hlt, hkp⟩ := List.getElem?_eq_some_iff.mp hk
  have hlow : ∀ q ∈ ps.take k, hdo q = [] := fun q hq => by
    obtain ⟨j, hj, rfl⟩ := List.getElem_of_mem hq
    rw [List.length_take] at hj
    rw [List.getElem_take]
    exact hlo j (by omega) _ (List.getElem?_eq_getElem _)
  have hdrop : ps.drop k = p :: ps.drop (k + 1) := by rw [List.drop_eq_getElem_cons hlt, hkp]
  have hsplit : ps = ps.take k ++ (p :: ps.drop (k + 1)) := by rw [← hdrop, List.take_append_drop]
  have e1 : goo ps ([], 0) = goo (ps.drop (k + 1)) (stp ([], cnt ((ps.take k).map clo)) p) := by
    conv => lhs; rw [hsplit]
    show List.foldl stp _ _ = _
    rw [List.foldl_append]
    show goo (p :: ps.drop (k + 1)) (goo (ps.take k) ([], 0)) = _
    rw [goo_none _ _ hlow, Nat.zero_add]
    rfl
  have hno : No ([] : List UInt8) := fun x hx => by cases hx
  refine ⟨fun h91 => ?_, fun h91 => ?_⟩
  · rw [e1, stp_eq hno, List.nil_append]
    have f1 : (ps.map hdo).flatten = hdo p ++ ((ps.drop (k + 1)).map hdo).flatten := by
      conv => lhs; rw [hsplit]
      rw [List.map_append, List.flatten_append, flat_none _ hlow]
      simp
    have f2 : cnt (ps.map clo) = cnt ((ps.take k).map clo) + (if clo p = true then 1 else 0) + cnt ((ps.drop (k + 1)).map clo) := by
      conv => lhs; rw [hsplit]
      unfold cnt
      rw [List.map_append, List.filter_append, List.length_append, List.map_cons, List.filter_cons]
      by_cases hc : clo p = true
      · simp [hc]; omega
      · simp [hc]
    by_cases hc : clo p = true
    · rw [if_pos hc, if_neg h91, goo_shut _ _ _ (hdo_no p) hp h91, f1, f2, if_pos hc]
    · rw [if_neg hc, goo_shut _ _ _ (hdo_no p) hp h91, f1, f2, if_neg hc]
      rfl
  · rw [e1, stp_eq hno, List.nil_append, hdrop, List.map_cons, List.flatten_cons, ← List.map_take]
    by_cases hc : clo p = true
    · rw [if_pos hc, if_pos h91, goo_open _ _ _ (no_app (hdo_no p) no_93) (by rw [get0_app hp]; exact h91)]
      simp [due, hc]
    · rw [if_neg hc, goo_open _ _ _ (hdo_no p) h91]
      simp [due, hc]
theorem stp_len (a : List UInt8 × Nat) (p : List UInt8) : (stp a p).1.length ≤ a.1.length + p.length := by
  unfold stp
  split
  · split
    · simp only [List.length_append, List.length_take, List.length_cons, List.length_nil]
      rename_i h _
      rw [List.length_append] at h
      omega
    · simp only [List.length_take, List.length_append]; omega
  · simp
theorem goo_len (ps : List (List UInt8)) (a : List UInt8 × Nat) (h : ∀ p ∈ ps, p.length ≤ 5) : (goo ps a).1.length ≤ a.1.length + 5 * ps.length := by
  induction ps generalizing a with
  | nil => simp [goo]
  | cons p r ih =>
    have h1 := ih (stp a p) (fun q hq => h q (.tail _ hq))
    have h2 := stp_len a p
    have h3 := h p (.head _)
    show (goo r (stp a p)).1.length ≤ _
    simp only [List.length_cons]
    omega
theorem goo_step (ps : List (List UInt8)) (i : Nat) (p : List UInt8) (a : List UInt8 × Nat) (h : ps[i]? = some p) : goo (ps.take (i + 1)) a = stp (goo (ps.take i) a) p := by
  unfold goo
  rw [List.take_add_one, h]
  simp
end Mine

end

section
open PySem PySem.W PyProof.Rows PySem.Calls
set_option maxRecDepth 100000
namespace Mine
local macro_rules | `(tactic| ktr_rel) => `(tactic| first | assumption | with_reducible exact mem_upd | ((with_reducible refine' mem_upd_ne ?h9 ?m9); (case h9 => decide); (case m9 => ktr_rel)) | exact List.Mem.head _ | exact List.Mem.tail _ (by ktr_rel))

def fBody : Stmt → List Stmt
  | .FunctionDef _ _ b _ _ _ _ _ _ _ => b
  | _ => []
def fScope : Stmt → Scope
  | .FunctionDef _ _ _ _ _ _ sc _ _ _ => sc
  | _ => { kind := .function, names := [], isGenerator := false, isCoroutine := false, more := [] }
def stripDef : Stmt := match PySem.Challenge.pw_dv0018_03.main.body with
  | _ :: d :: _ => d
  | _ => .Pass ⟨0, 0, 0, 0⟩

def stripScope : Scope := fScope stripDef

section
variable {prog : Program} {w : World} {A : Around} {E : Value → Shared → Prop} {s : Shared} {g : Heap} {L : Addr} {s₁ : Shared} {news : List (Addr × Obj)} {f : Addr} {cd : Value} {qual : Str}
theorem strip_body {l : List UInt8} {t : Tok} {Q : Flow → Shared → Prop} (S : St g L s₁ [("enc_name", .bytes l.toArray t)] news s) (hh : A.handled = none) (hz : l.length ≤ 10000000)
    (h1 : ¬ l.findIdx (· == 37) < l.length → ∀ s', St g L s₁ [] news s' → Q (.ret (.bytes l.toArray t)) s')
    (h2 : l.findIdx (· == 37) < l.length → (l.take (l.findIdx (· == 37)))[0]? = some 91 → ∀ t' s', St g L s₁ [] news s' → Q (.ret (.bytes (l.take (l.findIdx (· == 37)) ++ [93]).toArray t')) s')
    (h3 : l.findIdx (· == 37) < l.length → (l.take (l.findIdx (· == 37)))[0]? ≠ some 91 → ∀ t' s' h' e, St g L s₁ [] news s' → Heap.MadeExc s'.heap h' e "AssertionError" [.bytes (l.take (l.findIdx (· == 37))).toArray t'] → E (.ref e) { s' with heap := h' }) :
    wpAny (model prog w) A (execs (fBody stripDef) (envOf qual stripScope L f cd)) Q E s := by
  dsimp only [fBody, stripDef, PySem.Challenge.pw_dv0018_03]
  refine wpAny_execs_cons ?_
  refine Assign_Tuple ?_
  refine MethodCall_ ?_
  refine e_loc S (by ktr_rel) ?_
  refine m_part ?_
  refine callWith_method1 ?_
  refine spliced_more ?_
  refine e_byt S ?_
  intro t1 s1 S1
  refine spliced_none ?_
  refine c_part S1 (by omega) ?_ ?_
  · intro hlt T t2 t3 s2 S2
    refine e_unp S2 (by ktr_rel) hh ?_
    intro s3 S3
    refine assignInOrder_cons (wpAny_assign_Name (e_st S3 ?_))
    intro s4 S4
    refine assignInOrder_cons (wpAny_assign_Name (e_st S4 ?_))
    intro s5 S5
    refine assignInOrder_cons (wpAny_assign_Name (e_st S5 ?_))
    intro s6 S6
    refine assignInOrder_nil ?_
    dsimp only
    refine wpAny_execs_cons ?_
    refine wpAny_If ?_
    refine isTrue_plain ?_
    refine e_loc S6 (by ktr_rel) ?_
    refine t_byt S6 (by decide) ?_
    intro s7 S7
    rw [if_pos (by decide)]
    refine wpAny_execs_cons ?_
    refine wpAny_Assert_msg hh ?_
    refine isTrue_plain ?_
    refine MethodCall_ ?_
    refine e_loc S7 (by ktr_rel) ?_
    refine m_starts ?_
    refine callWith_method1 ?_
    refine spliced_more ?_
    refine e_byt S7 ?_
    intro t8 s8 S8
    refine spliced_none ?_
    refine c_starts ?_
    refine wpAny_truthy_bool ?_
    by_cases hst : (l.take (l.findIdx (· == 37)))[0]? = some 91
    · rw [if_pos (by simpa using hst)]
      dsimp only
      refine wpAny_execs_cons ?_
      refine wpAny_AugAssign_Name ?_
      refine e_locn S8 (by ktr_rel) ?_
      refine e_byt S8 ?_
      intro t9 s9 S9
      refine o_icat S9 (by simp; omega) ?_
      intro t10 s10 S10
      refine e_st S10 ?_
      intro s11 S11
      dsimp only
      refine wpAny_execs_nil ?_
      dsimp only
      refine wpAny_execs_cons ?_
      refine wpAny_Return_some ?_
      refine e_loc S11 (by ktr_rel) ?_
      exact h2 hlt hst _ _ (S11.weak (by simp) (fun p hp => List.Mem.tail _ hp))
    · rw [if_neg (by simpa using hst)]
      refine e_loc S8 (by ktr_rel) ?_
      intro h' e he
      exact h3 hlt hst _ _ _ _ (S8.weak (by simp) (fun p hp => List.Mem.tail _ hp)) he
  · intro hlt T t2 s2 S2
    refine e_unp S2 (by ktr_rel) hh ?_
    intro s3 S3
    refine assignInOrder_cons (wpAny_assign_Name (e_st S3 ?_))
    intro s4 S4
    refine assignInOrder_cons (wpAny_assign_Name (e_st S4 ?_))
    intro s5 S5
    refine assignInOrder_cons (wpAny_assign_Name (e_st S5 ?_))
    intro s6 S6
    refine assignInOrder_nil ?_
    dsimp only
    refine wpAny_execs_cons ?_
    refine wpAny_If ?_
    refine isTrue_plain ?_
    refine e_loc S6 (by ktr_rel) ?_
    refine t_byt S6 (by decide) ?_
    intro s7 S7
    rw [if_neg (by decide)]
    refine wpAny_execs_nil ?_
    dsimp only
    refine wpAny_execs_cons ?_
    refine wpAny_Return_some ?_
    refine e_loc S7 (by ktr_rel) ?_
    exact h1 hlt _ (S7.weak (by simp) (fun p hp => List.Mem.tail _ hp))
end
end Mine

end

section
open PySem PySem.W PyProof.Rows PySem.Calls
set_option maxRecDepth 100000
namespace Mine
local macro_rules | `(tactic| ktr_rel) => `(tactic| first | assumption | with_reducible exact mem_upd | ((with_reducible refine' mem_upd_ne ?h9 ?m9); (case h9 => decide); (case m9 => ktr_rel)) | ((with_reducible refine' mem_del ?h9 ?m9); (case h9 => decide); (case m9 => ktr_rel)) | exact List.Mem.head _ | exact List.Mem.tail _ (by ktr_rel))

def pieceDef : Stmt := match PySem.Challenge.pw_dv0018_03.main.body with
  | _ :: _ :: _ :: d :: _ => d
  | _ => .Pass ⟨0, 0, 0, 0⟩
def pieceScope : Scope := fScope pieceDef
def lawDef : Stmt := match PySem.Challenge.pw_dv0018_03.main.body with
  | _ :: _ :: _ :: _ :: d :: _ => d
  | _ => .Pass ⟨0, 0, 0, 0⟩
def lawScope : Scope := fScope lawDef
def forBody : Stmt → List Stmt
  | .For _ _ b _ _ => b
  | _ => []
def mainFor : Stmt := match fBody lawDef with
  | _ :: _ :: _ :: d :: _ => d
  | _ => .Pass ⟨0, 0, 0, 0⟩

/-- what the law needs of the text's own def -/
structure StripAt (mg : Str → Option Value) (h₀ : Heap) (f : Addr) (fo : Obj) (dV kV doc pm cdv ct : Value) (an : Option Addr) (params : Arguments) (name qual : Str) : Prop where
  nm : mg "_strip_ipv6_iface" = some (.ref f)
  ob : h₀.get? f = some fo
  dat : fo.data = .func (fnX name qual params (fBody stripDef) stripScope [] dV kV doc pm an cdv ct)
  code : h₀.CodeRec cdv qual
  bind : ∀ v, bindArgs (fnX name qual params (fBody stripDef) stripScope [] dV kV doc pm an cdv ct) ⟨[v], []⟩ = pure [(("enc_name" : Str), v)]
structure PieceAt (mg : Str → Option Value) (h₀ : Heap) (f : Addr) (fo : Obj) (dV kV doc pm cdv ct : Value) (an : Option Addr) (params : Arguments) (name qual : Str) : Prop where
  nm : mg "_law_piece" = some (.ref f)
  ob : h₀.get? f = some fo
  dat : fo.data = .func (fnX name qual params (fBody pieceDef) pieceScope [] dV kV doc pm an cdv ct)
  code : h₀.CodeRec cdv qual
  bind : ∀ v, bindArgs (fnX name qual params (fBody pieceDef) pieceScope [] dV kV doc pm an cdv ct) ⟨[v], []⟩ = pure [(("x" : Str), v)]
/-- the builtins that the law names -/
structure Blts (mg mb : Str → Option Value) (p : Program) (loose : List Str) : Prop where
  len : mg "len" = none ∧ mb "len" = some (.builtin "len")
  type : mg "type" = none ∧ mb "type" = some (.type "type")
  bytes : mg "bytes" = none ∧ mb "bytes" = some (.type "bytes")
  range : mg "range" = none ∧ mb "range" = some (.type "range")
  zip : mg "zip" = none ∧ mb "zip" = some (.type "zip")
  enum : mg "enumerate" = none ∧ mb "enumerate" = some (.type "enumerate")
  min : mg "min" = none ∧ mb "min" = some (.builtin "min")
  sum : mg "sum" = none ∧ mb "sum" = some (.builtin "sum")
  ae : mg "AssertionError" = none ∧ mb "AssertionError" = some (.type "AssertionError")
  a1 : ("AssertionError" : Str) ∉ startupNames
  a2 : ("AssertionError" : Str) ∉ loose
  a3 : ("AssertionError" : Str) ∉ (recsOf p).map (·.name)
  a4 : ("AssertionError" : Str) ∉ (litsOf p).map (·.1)
  a5 : ("AssertionError" : Str) ∉ (clssOf p loose).map (·.name)
theorem Blts.of {mg mb : Str → Option Value} {p : Program} {loose : List Str} {h : Heap} (T : TopRead p loose mg mb h) (h1 : mg "len" = none) (h2 : mg "type" = none) (h3 : mg "bytes" = none) (h4 : mg "range" = none)
    (z1 : mg "zip" = none) (z2 : mg "enumerate" = none) (z3 : mg "min" = none) (z4 : mg "sum" = none) (h5 : mg "AssertionError" = none)
    (a1 : ("AssertionError" : Str) ∉ startupNames) (a2 : ("AssertionError" : Str) ∉ loose) (a3 : ("AssertionError" : Str) ∉ (recsOf p).map (·.name)) (a4 : ("AssertionError" : Str) ∉ (litsOf p).map (·.1)) (a5 : ("AssertionError" : Str) ∉ (clssOf p loose).map (·.name)) : Blts mg mb p loose :=
  ⟨⟨h1, (T.builtins _ (by decide)).trans (by boot_by_name)⟩, ⟨h2, (T.builtins _ (by decide)).trans (by boot_by_name)⟩, ⟨h3, (T.builtins _ (by decide)).trans (by boot_by_name)⟩, ⟨h4, (T.builtins _ (by decide)).trans (by boot_by_name)⟩,
   ⟨z1, (T.builtins _ (by decide)).trans (by boot_by_name)⟩, ⟨z2, (T.builtins _ (by decide)).trans (by boot_by_name)⟩, ⟨z3, (T.builtins _ (by decide)).trans (by boot_by_name)⟩, ⟨z4, (T.builtins _ (by decide)).trans (by boot_by_name)⟩,
   ⟨h5, (T.builtins _ (by decide)).trans (by boot_by_name)⟩, a1, a2, a3, a4, a5⟩

section
variable {prog : Program} {w : World} {E : Value → Shared → Prop} {s : Shared} {h₀ : Heap} {L : Addr} {s₁ : Shared} {vs vs0 : List (Str × Value)} {news : List (Addr × Obj)} {mg mb : Str → Option Value}
  {f a : Addr} {fo : Obj} {dV kV doc pm cdv ct cd : Value} {an : Option Addr} {params : Arguments} {name qual nm : Str} {p : Program} {loose : List Str}
theorem strip_call {A : Around} {env : Env} {outer : List Env} {A₀ : Around} {base : Heap} {pt : List UInt8} {tp : Tok} {Q : Value → Shared → Prop} (K : Below A₀ base outer h₀) (G : Glo mg mb h₀) (FS : StripAt mg h₀ f fo dV kV doc pm cdv ct an params name qual)
    (S : St h₀ L s₁ vs news s) (hh : A.handled = none) (hA : A.frames = some (env :: outer)) (hf : env.frame = some L) (hke : env.scope.kind = .function) (hroom : A.depth < recursionLimit) (hz : pt.length ≤ 10000000)
    (h1 : ¬ pt.findIdx (· == 37) < pt.length → ∀ s', St h₀ L s₁ vs news s' → Q (.bytes pt.toArray tp) s')
    (h2 : pt.findIdx (· == 37) < pt.length → (pt.take (pt.findIdx (· == 37)))[0]? = some 91 → ∀ t' s', St h₀ L s₁ vs news s' → Q (.bytes (pt.take (pt.findIdx (· == 37)) ++ [93]).toArray t') s')
    (h3 : pt.findIdx (· == 37) < pt.length → (pt.take (pt.findIdx (· == 37)))[0]? ≠ some 91 → ∀ t' e t g m (s' : Shared), s'.gens = s₁.gens ∧ s'.drawn = s₁.drawn ∧ s'.os = s₁.os →
      RaisedK base (env :: outer) e (.type "AssertionError") t [.bytes (pt.take (pt.findIdx (· == 37))).toArray t'] news s'.heap → Fr h₀ L g m → (∀ p ∈ vs, m p.1 = some p.2) → g.UpToSlots s'.heap → E (.ref e) s') :
    wpAny (model prog w) A (call (.ref f) [.bytes pt.toArray tp]) Q E s := by
  refine c_fn K S G hA hf hke FS.ob FS.dat FS.code hroom (FS.bind _) ?_ ?_ (fun g L' s' S' B' G' st hl => ?_) (by decide)
  · intro y hy
    rw [List.mem_singleton.mp hy]; rfl
  · intro q hq
    rw [List.mem_singleton.mp hq]; rfl
  refine strip_body S' hh hz ?_ ?_ ?_
  · intro hn s2 S2
    exact ⟨news, S2, fun S3 => h1 hn _ S3⟩
  · intro hlt hst t' s2 S2
    exact ⟨news, S2, fun S3 => h2 hlt hst _ _ S3⟩
  · intro hlt hst t' s2 h' e S2 hx
    refine ⟨e, news, s2.heap, .type "AssertionError", _, rfl, S2, hx.of, fun h'' t m R F hm U => ?_⟩
    exact h3 hlt hst t' e t g m _ ⟨S2.gens, S2.drawn, S2.os⟩ R F hm U

theorem turn3 {N pc : List UInt8} {k : Nat} {tn tp tr : Tok} {Q : Flow → Shared → Prop} (K : Below callerA h₀ [] h₀) (G : Glo mg mb h₀) (T : TopRead p loose mg mb h₀) (FS : StripAt mg h₀ f fo dV kV doc pm cdv ct an params name qual) (BL : Blts mg mb p loose)
    (S : St h₀ L s₁ vs news s) (h1 : (("name" : Str), Value.bytes N.toArray tn) ∈ vs) (h2 : (("piece" : Str), Value.bytes pc.toArray tp) ∈ vs) (h3 : (("refused" : Str), Value.int (k : Nat) tr) ∈ vs) (hz : N.length + pc.length ≤ 10000)
    (hv : ∀ q ∈ vs0, q ∈ vs ∧ (q.1 == "name") = false ∧ (q.1 == "refused") = false ∧ (q.1 == "err") = false)
    (hQ : ∀ s' t1 t2, St h₀ L s₁ ((("name" : Str), Value.bytes (stp (N, k) pc).1.toArray t1) :: (("refused" : Str), Value.int ((stp (N, k) pc).2 : Nat) t2) :: vs0) news s' → Q .next s') :
    wpAny (model prog w) (callerA.deeper (envOf nm lawScope L a cd)) (execs (forBody mainFor) (envOf nm lawScope L a cd)) Q E s := by
  dsimp only [forBody, mainFor, fBody, lawDef, PySem.Challenge.pw_dv0018_03]
  refine wpAny_execs_cons ?_
  refine wpAny_Try_except ?_
  refine wpAny_execs_cons ?_
  refine wpAny_Assign_Name ?_
  refine Call_ ?_
  refine e_glo S G FS.nm ?_
  refine k_fn FS.dat ?_
  refine spliced_more ?_
  refine wpAny_BinOp ?_
  refine e_loc S (by ktr_rel) ?_
  refine e_loc S (by ktr_rel) ?_
  refine o_cat S (by simp; omega) ?_
  intro t1 s1 S1
  rw [List.append_toArray]
  refine spliced_none ?_
  refine ⟨S1.old FS.ob, ?_⟩
  refine strip_call K G FS S1 rfl rfl rfl rfl (Nat.le_of_ble_eq_true rfl) (by simp; omega) ?_ ?_ ?_
  · intro hn s2 S2
    refine e_st S2 ?_
    intro s4 S4
    dsimp only
    refine wpAny_execs_nil ?_
    dsimp only
    refine wpAny_execs_nil ?_
    dsimp only
    refine wpAny_execs_nil ?_
    have e : stp (N, k) pc = (N ++ pc, k) := by unfold stp; rw [if_neg hn]
    refine hQ _ t1 tr ?_
    rw [e]
    refine S4.weak (fun q hq => ?_) (fun _ h => h)
    rcases List.mem_cons.mp hq with rfl | hq
    · exact mem_upd
    · rcases List.mem_cons.mp hq with rfl | hq
      · exact mem_upd_ne (by decide) h3
      · exact mem_upd_ne (hv q hq).2.1 (hv q hq).1
  · intro hlt hst t' s2 S2
    refine e_st S2 ?_
    intro s4 S4
    dsimp only
    refine wpAny_execs_nil ?_
    dsimp only
    refine wpAny_execs_nil ?_
    dsimp only
    refine wpAny_execs_nil ?_
    have e : stp (N, k) pc = ((N ++ pc).take ((N ++ pc).findIdx (· == 37)) ++ [93], k) := by unfold stp; rw [if_pos hlt, if_pos hst]
    refine hQ _ t' tr ?_
    rw [e]
    refine S4.weak (fun q hq => ?_) (fun _ h => h)
    rcases List.mem_cons.mp hq with rfl | hq
    · exact mem_upd
    · rcases List.mem_cons.mp hq with rfl | hq
      · exact mem_upd_ne (by decide) h3
      · exact mem_upd_ne (hv q hq).2.1 (hv q hq).1
  · intro hlt hst t' e1 t1 g1 m1 s2 hs2 R F hm U
    refine x_caught K F hm U R hs2 T PyProof.Rows.Boot.«AssertionError» PySem.F.isExc_AssertionError PySem.F.notTuple_AssertionError (by rw [isSubtype_type]; kernel_rfl) BL.a1 BL.a2 BL.a3 BL.a4 BL.a5 (by decide) ?_
    intro s3 oe ot S3 x
    refine wpAny_execs_cons ?_
    refine wpAny_If ?_
    refine isTrue_or ?_
    refine wpAny_isTrue_Compare1 ?_
    refine Call_ ?_
    refine e_blt S3 G BL.type ?_
    refine PyProof.Rows.callWith_type1 ?_
    refine spliced_more ?_
    refine e_loc S3 (by ktr_rel) ?_
    refine spliced_none ?_
    refine t_type S3 (by ktr_rel) x.cls (by decide) ?_
    refine e_blt S3 G BL.ae ?_
    refine wpAny_isNot_self rfl ?_
    refine wpAny_truthy_bool ?_
    rw [if_neg (by simp)]
    refine isTrue_or ?_
    refine wpAny_isTrue_Compare1 ?_
    refine Call_ ?_
    refine e_blt S3 G BL.len ?_
    refine PyProof.Rows.callWith_builtin1 ?_
    refine spliced_more ?_
    refine Attribute_Name_ ?_
    refine e_loc S3 (by ktr_rel) ?_
    refine a_args PySem.F.attr_AssertionError S3 (by ktr_rel) x ?_
    intro s4 S4
    refine spliced_none ?_
    refine PyProof.Rows.len_tuple (S4.tupE (by ktr_rel) x) (by show ((1 : Nat) : Int) < 2 ^ 63; decide) ?_
    have S5 := S4.tok (s4.toks + 1 + 1)
    refine e_int S5 ?_
    intro t6 s6 S6
    refine ne_int ?_
    refine wpAny_truthy_bool ?_
    rw [if_neg (by simp)]
    refine isTrue_or_nil ?_
    rw [if_neg (by simp)]
    refine wpAny_execs_nil ?_
    dsimp only
    refine wpAny_execs_cons ?_
    refine wpAny_Assign_Name ?_
    refine Subscript_ ?_
    refine Attribute_Name_ ?_
    refine e_loc S6 (by ktr_rel) ?_
    refine a_args PySem.F.attr_AssertionError S6 (by ktr_rel) x ?_
    intro s7 S7
    refine e_int S7 ?_
    intro t8 s8 S8
    refine item_tupleT (S8.tupE (by ktr_rel) x) (by decide) (by decide) (j := 0) rfl rfl ?_
    refine e_st S8 ?_
    intro s9 S9
    dsimp only
    refine wpAny_execs_cons ?_
    refine wpAny_Assign_Name ?_
    refine wpAny_BinOp ?_
    refine e_loc S9 (by ktr_rel) ?_
    refine e_int S9 ?_
    intro t10 s10 S10
    refine o_add S10 ?_
    intro t11 s11 S11
    refine e_st S11 ?_
    intro s12 S12
    dsimp only
    refine wpAny_execs_nil ?_
    refine e_gone S12 ?_
    intro s13 S13
    dsimp only
    refine wpAny_execs_nil ?_
    have e : stp (N, k) pc = ((N ++ pc).take ((N ++ pc).findIdx (· == 37)), k + 1) := by unfold stp; rw [if_pos hlt, if_neg hst]
    refine hQ _ t' t11 ?_
    rw [e]
    refine S13.weak (fun q hq => ?_) (fun _ h => .tail _ (.tail _ h))
    rcases List.mem_cons.mp hq with rfl | hq
    · exact mem_del (by decide) (mem_upd_ne (by decide) mem_upd)
    · rcases List.mem_cons.mp hq with rfl | hq
      · exact mem_del (by decide) mem_upd
      · exact mem_del (hv q hq).2.2.2 (mem_upd_ne (hv q hq).2.2.1 (mem_upd_ne (hv q hq).2.1 (mem_upd_ne (hv q hq).2.2.2 (hv q hq).1)))
end
end Mine

end

section
open PySem PySem.W PyProof.Rows PySem.Calls
set_option maxRecDepth 100000
namespace Mine
local macro_rules | `(tactic| ktr_rel) => `(tactic| first | assumption | with_reducible exact mem_upd | ((with_reducible refine' mem_upd_ne ?h9 ?m9); (case h9 => decide); (case m9 => ktr_rel)) | ((with_reducible refine' mem_del ?h9 ?m9); (case h9 => decide); (case m9 => ktr_rel)) | exact List.Mem.head _ | exact List.Mem.tail _ (by ktr_rel))

theorem pow6 {i : Nat} (h : i < 6) : ((6 : Int) ^ i).natAbs < 1073741824 ∧ (6 : Int) ^ i ≠ 0 := by
  rcases i with _ | _ | _ | _ | _ | _ | i <;> first | omega | decide
theorem fmod6 (x : Int) : 0 ≤ x.fmod 6 ∧ x.fmod 6 < 6 := ⟨Int.fmod_nonneg_of_pos x (by decide), Int.fmod_lt_of_pos x (by decide)⟩
section
variable {prog : Program} {w : World} {A : Around} {E : Value → Shared → Prop} {s : Shared} {h₀ : Heap} {L : Addr} {s₁ : Shared} {vs vs0 : List (Str × Value)} {news : List (Addr × Obj)} {mg mb : Str → Option Value}
  {f a : Addr} {fo : Obj} {dV kV doc pm cdv ct cd : Value} {an : Option Addr} {params : Arguments} {name qual nm : Str} {p : Program} {loose : List Str}
set_option maxHeartbeats 4000000 in
theorem piece_body {x : Int} {t : Tok} {o : Obj} {Q : Flow → Shared → Prop} (G : Glo mg mb h₀) (BL : Blts mg mb p loose) (hh : A.handled = none)
    (S : St h₀ L s₁ [(("x" : Str), Value.int x t)] ((L + 1, o) :: news) s) (hn : ∀ p ∈ news, p.1 ≠ L + 1) (ho : o.data = .cell none)
    (hQ : ∀ (l : List UInt8) t s', l.length ≤ 5 → St h₀ L s₁ [] news s' → Q (.ret (.bytes l.toArray t)) s') :
    wpAny (model prog w) A (execs (fBody pieceDef) (envOfC qual pieceScope L f cd)) Q E s := by
  dsimp only [fBody, pieceDef, PySem.Challenge.pw_dv0018_03]
  refine wpAny_execs_cons ?_
  refine wpAny_Assign_Name ?_
  refine wpAny_BinOp ?_
  refine e_locE (env := envOfC qual pieceScope L f cd) S (by ktr_rel) ?_
  refine e_int S ?_
  intro t1 s1 S1
  refine o_fdiv S1 (by decide) (by decide) ?_
  intro t2 s2 S2
  refine e_stC S2 hn rfl ho ?_
  intro s3 o3 ho3 S3
  dsimp only
  refine wpAny_execs_cons ?_
  refine wpAny_Return_some ?_
  refine Call_ ?_
  refine e_bltE S3 G BL.bytes ?_
  refine PyProof.Rows.callWith_type1 ?_
  refine spliced_more ?_
  refine e_lc (cl := [(("rest" : Str), L + 1)]) ?_
  refine Call_ ?_
  refine e_bltE S3 G BL.range ?_
  refine PyProof.Rows.callWith_type1 ?_
  refine spliced_more ?_
  refine wpAny_BinOp ?_
  refine e_locE (env := envOfC qual pieceScope L f cd) S3 (by ktr_rel) ?_
  refine e_int S3 ?_
  intro t4 s4 S4
  refine o_mod S4 (by decide) ?_
  intro t5 s5 S5
  refine spliced_none ?_
  refine c_range1 S5 ?_
  intro r u1 u2 u3 s6 S6 hr
  have h6 := fmod6 x
  refine i_range (n := (x.fmod 6).toNat) hh S6 hr (by omega) (by omega) ?_
  intro I s7 S7 R7
  refine lc_ev (env := envOfC qual pieceScope L f cd) (R7 _ _) S7 (by omega) (fun i ys => ∃ ns, IntsAre ys ns ∧ KBa.In ns ∧ ns.length = i) ⟨[], .nil, (fun n hn => by cases hn), rfl⟩ ?_ ?_
  · rintro C D oL i v ys c s8 own hoL hCa hCn hLC hDL hDC hown hi ⟨tv, rfl⟩ hJ hyl S8
    refine wpAny_assign_Name ?_
    refine e_stE (env := compEnvC _ _ C (envOfC qual pieceScope L f cd)) S8 ?_
    intro s9 S9
    refine wpAny_pure ?_
    rw [if_pos rfl]
    refine Subscript_ ?_
    refine e_byt S9 ?_
    intro t10 s10 S10
    refine wpAny_BinOp ?_
    refine wpAny_BinOp ?_
    refine e_cellE S10 (by ktr_rel) ho3 ?_ rfl
    refine wpAny_BinOp ?_
    refine e_int S10 ?_
    intro t11 s11 S11
    refine e_locE (env := compEnvC _ _ C (envOfC qual pieceScope L f cd)) S11 (by ktr_rel) ?_
    refine o_pow S11 (by omega) (by omega) (by decide) ?_
    intro t12 s12 S12
    have h7 := pow6 (i := i) (by omega)
    refine o_fdiv S12 h7.2 h7.1 ?_
    intro t13 s13 S13
    refine e_int S13 ?_
    intro t14 s14 S14
    refine o_mod S14 (by decide) ?_
    intro t15 s15 S15
    have h8 := fmod6 ((x.fdiv 6).fdiv (6 ^ i))
    refine s_item S15 (by decide) h8.1 h8.2 ?_
    intro t16 s16 S16
    obtain ⟨ns, hi1, hi2, hi3⟩ := hJ
    refine ⟨⟨ns ++ [_], hi1.append (.cons _ _ .nil), ?_, by simp [hi3]⟩, oL, hoL, S16.weak (by simp) (fun _ h => h)⟩
    intro n hn
    rcases List.mem_append.mp hn with hn | hn
    · exact hi2 n hn
    · rw [List.mem_singleton.mp hn]
      exact ⟨Int.natCast_nonneg _, by have := UInt8.toNat_lt ((([37, 91, 93, 58, 97, 233] : List UInt8).getD ((((x.fdiv 6).fdiv (6 ^ (i : Int).toNat)).fmod 6).toNat) 0)); omega⟩
  · rintro ys D c s8 ⟨ns, hi1, hi2, hi3⟩ hyl hDn S8
    refine spliced_none ?_
    refine c_mkb S8 hh (S8.lst (.head _)) hi1 hi2 (by omega) ?_
    intro t9 s9 S9
    exact hQ _ t9 s9 (by simp; omega) (S9.weak (by simp) (fun _ h => .tail _ (.tail _ h)))
theorem piece_call {env : Env} {outer : List Env} {A₀ : Around} {base : Heap} {x : Int} {t : Tok} {Q : Value → Shared → Prop} (K : Below A₀ base outer h₀) (G : Glo mg mb h₀) (FP : PieceAt mg h₀ f fo dV kV doc pm cdv ct an params name qual) (BL : Blts mg mb p loose)
    (S : St h₀ L s₁ vs news s) (hh : A.handled = none) (hA : A.frames = some (env :: outer)) (hf : env.frame = some L) (hke : env.scope.kind = .function) (hroom : A.depth < recursionLimit)
    (hQ : ∀ (l : List UInt8) t s', l.length ≤ 5 → St h₀ L s₁ vs news s' → Q (.bytes l.toArray t) s') :
    wpAny (model prog w) A (call (.ref f) [.int x t]) Q E s := by
  refine c_fnC (vsN := [(("x" : Str), Value.int x t)]) K S G hA hf hke FP.ob FP.dat FP.code hroom (FP.bind _) ?_ (by decide) ?_ (fun g L' s' cells S' Y G' hl => ?_)
  · intro n y hy
    rw [List.mem_singleton.mp hy]
    exact .inl rfl
  · intro L' q hq
    rw [List.mem_singleton.mp hq]; rfl
  obtain ⟨o, rfl, ho⟩ := CellsAre.one Y
  refine piece_body G' BL hh S' (fun q hq => Nat.ne_of_lt (Nat.lt_succ_of_lt (hl q hq))) ho ?_
  intro l t1 s1 hlen S1
  exact ⟨news, S1, fun S2 => hQ l t1 _ hlen S2⟩
end
end Mine

end

section
open PySem PySem.W PyProof.Rows PySem.Calls
set_option maxRecDepth 100000
namespace Mine
local macro_rules | `(tactic| ktr_rel) => `(tactic| first | assumption | with_reducible exact mem_upd | ((with_reducible refine' mem_upd_ne ?h9 ?m9); (case h9 => decide); (case m9 => ktr_rel)) | ((with_reducible refine' mem_del ?h9 ?m9); (case h9 => decide); (case m9 => ktr_rel)) | exact List.Mem.head _ | exact List.Mem.tail _ (by ktr_rel))
def noSt : Stmt := .Pass ⟨0, 0, 0, 0⟩
def lawSt (i : Nat) : Stmt := (fBody lawDef).getD i noSt
theorem IntsAre.getV {xs : List Value} {ns : List Int} (h : IntsAre xs ns) {i : Nat} {v : Value} (hv : xs[i]? = some v) : ∃ n t, v = .int n t := by
  induction h generalizing i with
  | nil => simp at hv
  | cons n t _ ih =>
    cases i with
    | zero => simp at hv; exact ⟨n, t, hv.symm⟩
    | succ i => exact ih (by simpa using hv)
section
variable {prog : Program} {w : World} {E : Value → Shared → Prop} {s : Shared} {h₀ : Heap} {L : Addr} {s₁ : Shared} {vs vs0 : List (Str × Value)} {news : List (Addr × Obj)} {mg mb : Str → Option Value}
  {f a : Addr} {fo : Obj} {dV kV doc pm cdv ct cd : Value} {an : Option Addr} {params : Arguments} {name qual nm : Str} {p : Program} {loose : List Str}
set_option maxHeartbeats 4000000 in
theorem st_pieces {sc : Addr} {xs : List Value} {ns : List Int} {Q : Flow → Shared → Prop} (K : Below callerA h₀ [] h₀) (G : Glo mg mb h₀) (FP : PieceAt mg h₀ f fo dV kV doc pm cdv ct an params name qual) (BL : Blts mg mb p loose)
    (S : St h₀ L s₁ vs news s) (hm : (("script" : Str), Value.ref sc) ∈ vs) (hsc : h₀.IsList sc xs.toArray) (hI : IntsAre xs ns) (hlen : ns.length ≤ 63)
    (hQ : ∀ D ps qs zs s', BAre zs ps → (∀ q ∈ ps, q.length ≤ 5) → ps.length ≤ 66 → ps = qs ++ [[91, 120, 37, 121], [122, 37]] → St h₀ L s₁ (upd "pieces" (.ref D) vs) ((D, listOf zs.toArray 0) :: news) s' → Q .next s') :
    wpAny (model prog w) (callerA.deeper (envOf nm lawScope L a cd)) (exec (lawSt 0) (envOf nm lawScope L a cd)) Q E s := by
  dsimp only [lawSt, List.getD, fBody, lawDef, PySem.Challenge.pw_dv0018_03, List.getElem?_cons_zero, Option.getD_some]
  refine wpAny_Assign_Name ?_
  refine wpAny_BinOp ?_
  refine wpAny_BinOp ?_
  refine List_ ?_
  refine spliced_more ?_
  refine e_byt S ?_
  intro t1 s1 S1
  refine spliced_none ?_
  refine e_lst S1 (by simp) ?_
  intro D1 s2 S2 hD1
  refine e_lc (cl := []) ?_
  refine e_loc S2 (by ktr_rel) ?_
  have hxl : xs.length = ns.length := hI.length
  refine i_list rfl S2 (hsc.at fun o e => S2.old e) ?_
  intro I s3 S3 R3
  refine lc_ev (env := envOf nm lawScope L a cd) (R3 _ _) S3 (by omega) (fun i ys => ∃ ps, BAre ys ps ∧ (∀ q ∈ ps, q.length ≤ 5) ∧ ps.length = i) ⟨[], .nil, (fun q hq => by cases hq), rfl⟩ ?_ ?_
  · intro C D oL i v ys c s4 own hoL hCa hCn hLC hDL hDC hown hi hv hJ hyl S4
    obtain ⟨x, tx, rfl⟩ := IntsAre.getV hI hv
    refine wpAny_assign_Name ?_
    refine e_stE (env := compEnvC _ _ C (envOf nm lawScope L a cd)) S4 ?_
    intro s5 S5
    refine wpAny_pure ?_
    rw [if_pos rfl]
    refine Call_ ?_
    refine e_gloE S5 G FP.nm ?_
    refine k_fn FP.dat ?_
    refine spliced_more ?_
    refine e_locE (env := compEnvC _ _ C (envOf nm lawScope L a cd)) S5 (by ktr_rel) ?_
    refine spliced_none ?_
    refine ⟨S5.old FP.ob, ?_⟩
    have S6 : St h₀ C s₁ (upd "x" (.int x tx) []) ((L, oL) :: ((D, listOf ys.toArray c) :: ((D1, _) :: news ++ own))) s5 := S5.weak (fun _ h => h) (fun q hq => by
      rcases List.mem_cons.mp hq with rfl | hq
      · exact .tail _ (.head _)
      · rcases List.mem_cons.mp hq with rfl | hq
        · exact .head _
        · exact .tail _ (.tail _ hq))
    obtain ⟨oC, hoC, S7⟩ := S6.swap hoL S.above (fun q hq => by
      rcases List.mem_cons.mp hq with rfl | hq
      · exact hDL
      · rcases List.mem_append.mp hq with hq | hq
        · exact (S3.nw q hq).2.1
        · exact (hown q hq).2.2)
    refine piece_call K G FP BL S7 rfl rfl rfl rfl (Nat.le_of_ble_eq_true rfl) ?_
    intro l tl s8 hl5 S8
    obtain ⟨oL', hoL', S9⟩ := S8.swap hoC hCa (fun q hq => by
      rcases List.mem_cons.mp hq with rfl | hq
      · exact hDC
      · rcases List.mem_append.mp hq with hq | hq
        · exact hCn q hq
        · exact (hown q hq).2.1)
    obtain ⟨ps, h1, h2, h3⟩ := hJ
    refine ⟨⟨ps ++ [l], h1.app (.cons l tl .nil), fun q hq => ?_, by simp [h3]⟩, oL', hoL', S9.weak (by simp) (fun q hq => ?_)⟩
    · rcases List.mem_append.mp hq with hq | hq
      · exact h2 q hq
      · rw [List.mem_singleton.mp hq]; exact hl5
    · rcases List.mem_cons.mp hq with rfl | hq
      · exact .tail _ (.head _)
      · rcases List.mem_cons.mp hq with rfl | hq
        · exact .head _
        · exact .tail _ (.tail _ hq)
  · rintro ys D c s4 ⟨ps, h1, h2, h3⟩ hyl hDn S4
    have hyl' : ys.length = xs.length := by rw [h1.len, h3]
    refine o_ladd S4 (S4.lst (by ktr_rel)) (S4.lst (by ktr_rel)) (by simp; omega) ?_
    intro D2 s5 S5 _
    refine List_ ?_
    refine spliced_more ?_
    refine e_byt S5 ?_
    intro t6 s6 S6
    refine spliced_more ?_
    refine e_byt S6 ?_
    intro t7 s7 S7
    refine spliced_none ?_
    refine e_lst S7 (by simp) ?_
    intro D3 s8 S8 _
    refine o_ladd S8 (S8.lst (by ktr_rel)) (S8.lst (by ktr_rel)) (by simp; omega) ?_
    intro D4 s9 S9 _
    refine e_st S9 ?_
    intro s10 S10
    refine hQ D4 _ ([[]] ++ ps) _ s10 (((BAre.cons [] t1 .nil).app h1).app (.cons [91, 120, 37, 121] t6 (.cons [122, 37] t7 .nil))) ?_ ?_ rfl (S10.weak (fun _ h => h) (fun q hq => ?_))
    · intro q hq
      simp only [List.mem_append, List.mem_cons, List.not_mem_nil, or_false] at hq
      rcases hq with (rfl | hq) | rfl | rfl
      · exact Nat.zero_le _
      · exact h2 q hq
      · decide
      · decide
    · simp; omega
    · rcases List.mem_cons.mp hq with rfl | hq
      · exact .head _
      · exact .tail _ (.tail _ (.tail _ (.tail _ (.tail _ hq))))
end
end Mine

end

section
open PySem PySem.W PyProof.Rows PySem.Calls
set_option maxRecDepth 100000
namespace Mine
local macro_rules | `(tactic| ktr_rel) => `(tactic| first | assumption | with_reducible exact mem_upd | ((with_reducible refine' mem_upd_ne ?h9 ?m9); (case h9 => decide); (case m9 => ktr_rel)) | ((with_reducible refine' mem_del ?h9 ?m9); (case h9 => decide); (case m9 => ktr_rel)) | exact List.Mem.head _ | exact List.Mem.tail _ (by ktr_rel))
theorem BAre.getV {xs : List Value} {ls : List (List UInt8)} (h : BAre xs ls) {i : Nat} {v : Value} (hv : xs[i]? = some v) : ∃ l t, ls[i]? = some l ∧ v = .bytes l.toArray t := by
  induction h generalizing i with
  | nil => simp at hv
  | cons l t _ ih =>
    cases i with
    | zero => simp at hv; exact ⟨l, t, by simp, hv.symm⟩
    | succ i => simpa using ih (by simpa using hv)
theorem idx37 (p : List UInt8) : (p ++ [37]).findIdx (· == 37) = p.findIdx (· == 37) := by
  induction p with
  | nil => rfl
  | cons x r ih =>
    rw [List.cons_append, List.findIdx_cons, List.findIdx_cons, ih]
section
variable {prog : Program} {w : World} {A : Around} {E : Value → Shared → Prop} {s : Shared} {h₀ : Heap} {L : Addr} {s₁ : Shared} {vs vs0 : List (Str × Value)} {news : List (Addr × Obj)} {mg mb : Str → Option Value} {env : Env}
  {a : Addr} {cd : Value} {nm : Str} {p : Program} {loose : List Str}
theorem e_unpT {elts : List Expr} {k : Nat} {pos : Pos} {T : Addr} {xs : List Value} {Q : Unit → Shared → Prop} (S : St h₀ L s₁ vs news s) (ht : s.heap.IsTuple T xs.toArray) (hh : A.handled = none)
    (h : ∀ s', St h₀ L s₁ vs news s' → wpAny (model prog w) A (assignInOrder ((assignEach elts env).map (·.2)) xs) Q E s')
    (hn : (assignEach elts env).length = xs.length := by rfl) (hstar : (assignEach elts env).findIdx? (·.1) = none := by rfl) :
    wpAny (model prog w) A (assign (.Tuple elts k pos) env (.ref T)) Q E s :=
  assign_Tuple_tuple hh ht (by rw [hn]; simp) hstar fun h' he => h _ (S.ext he)
set_option maxHeartbeats 4000000 in
theorem st_heads {D : Addr} {zs : List Value} {ps : List (List UInt8)} {c0 : Nat} {Q : Flow → Shared → Prop}
    (S : St h₀ L s₁ vs news s) (hm : (("pieces" : Str), Value.ref D) ∈ vs) (hD : (D, listOf zs.toArray c0) ∈ news) (hB : BAre zs ps) (hlen : ps.length ≤ 66) (h5 : ∀ q ∈ ps, q.length ≤ 5)
    (hQ : ∀ D1 ys c s', BAre ys (ps.map hdo) → St h₀ L s₁ (upd "heads" (.ref D1) vs) ((D1, listOf ys.toArray c) :: news) s' → Q .next s') :
    wpAny (model prog w) (callerA.deeper (envOf nm lawScope L a cd)) (exec (lawSt 4) (envOf nm lawScope L a cd)) Q E s := by
  dsimp only [lawSt, List.getD, fBody, lawDef, PySem.Challenge.pw_dv0018_03, List.getElem?_cons_zero, List.getElem?_cons_succ, Option.getD_some]
  refine x_lc (cl := []) ?_
  refine e_loc S (by ktr_rel) ?_
  refine i_list rfl S (S.lst hD) ?_
  intro I s1 S1 R1
  have hzl := hB.len
  refine lc_us (env := envOf nm lawScope L a cd) (R1 _ _) S1 (by omega) (fun i ys => BAre ys ((ps.take i).map hdo)) .nil ?_ ?_
  · intro C D2 oL i v ys c s2 own hoL hCa hCn hLC hDL hDC hown hi hv hJ hyl S2
    obtain ⟨l, t, hl, rfl⟩ := hB.getV hv
    have hl5 : l.length ≤ 5 := h5 l (List.mem_of_getElem? hl)
    refine wpAny_assign_Name ?_
    refine e_stE (env := compEnvC _ _ C (envOf nm lawScope L a cd)) S2 ?_
    intro s3 S3
    refine wpAny_pure ?_
    rw [if_pos rfl]
    refine Subscript_ ?_
    refine e_locE (env := compEnvC _ _ C (envOf nm lawScope L a cd)) S3 (by ktr_rel) ?_
    refine wpAny_Slice ?_
    refine evalPart_none_step ?_
    refine evalPart_some_step ?_
    refine MethodCall_ ?_
    refine wpAny_BinOp ?_
    refine e_locE (env := compEnvC _ _ C (envOf nm lawScope L a cd)) S3 (by ktr_rel) ?_
    refine e_byt S3 ?_
    intro t4 s4 S4
    refine o_cat S4 (by simp; omega) ?_
    intro t5 s5 S5
    rw [List.append_toArray]
    refine m_index ?_
    refine callWith_method1 ?_
    refine spliced_more ?_
    refine e_int S5 ?_
    intro t6 s6 S6
    refine spliced_none ?_
    have hle := List.findIdx_le_length (p := (· == (37 : UInt8))) (xs := l)
    refine c_index S6 (by rw [idx37, List.length_append]; simp; omega) ?_
    intro t7 s7 S7
    refine evalPart_none_step ?_
    refine s_cut S7 .none (.int _ _) (by omega) ?_
    intro t8 s8 S8
    rw [pick_hi _ (by omega), Int.toNat_natCast, idx37]
    refine ⟨?_, oL, hoL, S8.weak (by simp) (fun _ h => h)⟩
    rw [List.take_add_one, hl, List.map_append]
    exact hJ.app (.cons _ t8 .nil)
  · intro ys D2 c s2 hJ hyl hDn S2
    refine hQ D2 ys c s2 ?_ S2
    have : ps.take zs.length = ps := List.take_of_length_le (by omega)
    rw [this] at hJ
    exact hJ
set_option maxHeartbeats 4000000 in
theorem st_closed {D D1 : Addr} {zs ys : List Value} {ps : List (List UInt8)} {c0 c1 : Nat} {Q : Flow → Shared → Prop} (G : Glo mg mb h₀) (BL : Blts mg mb p loose)
    (S : St h₀ L s₁ vs news s) (hm : (("pieces" : Str), Value.ref D) ∈ vs) (hD : (D, listOf zs.toArray c0) ∈ news) (hB : BAre zs ps) (hlen : ps.length ≤ 66) (h5 : ∀ q ∈ ps, q.length ≤ 5)
    (hm1 : (("heads" : Str), Value.ref D1) ∈ vs) (hD1 : (D1, listOf ys.toArray c1) ∈ news) (hB1 : BAre ys (ps.map hdo))
    (hQ : ∀ D2 c s', St h₀ L s₁ (upd "closed" (.ref D2) vs) ((D2, listOf ((ps.map clo).map Value.bool).toArray c) :: news) s' → Q .next s') :
    wpAny (model prog w) (callerA.deeper (envOf nm lawScope L a cd)) (exec (lawSt 5) (envOf nm lawScope L a cd)) Q E s := by
  dsimp only [lawSt, List.getD, fBody, lawDef, PySem.Challenge.pw_dv0018_03, List.getElem?_cons_zero, List.getElem?_cons_succ, Option.getD_some]
  refine x_lc (cl := []) ?_
  refine Call_ ?_
  refine e_blt S G BL.zip ?_
  refine PyProof.Rows.callWith_type1 ?_
  refine spliced_more ?_
  refine e_loc S (by ktr_rel) ?_
  refine spliced_more ?_
  refine e_loc S (by ktr_rel) ?_
  refine spliced_none ?_
  refine c_zip rfl S (S.lst hD1) (S.lst hD) ?_
  intro I s1 S1 R1
  have hzl := hB.len
  have hyl0 : ys.length = ps.length := by rw [hB1.len]; simp
  refine lc_us (env := envOf nm lawScope L a cd) (R1 _ _ _) S1 (by omega) (fun i ys => ys = ((ps.take i).map clo).map Value.bool) rfl ?_ ?_
  · rintro C D2 oL i v ys' c s2 own hoL hCa hCn hLC hDL hDC hown hi ⟨T, vals, rfl, ⟨x, y, hx, hy, rfl⟩, hT⟩ hJ hyl S2
    obtain ⟨l, t, hl, rfl⟩ := hB.getV hy
    obtain ⟨l', t', hl', rfl⟩ := hB1.getV hx
    have hl5 : l.length ≤ 5 := h5 l (List.mem_of_getElem? hl)
    obtain rfl : hdo l = l' := by rw [List.getElem?_map, hl] at hl'; exact Option.some.inj hl'
    have hl6 : (hdo l).length ≤ 5 := by unfold hdo; rw [List.length_take]; omega
    refine e_unpT S2 (xs := [_, _]) hT rfl ?_
    intro s3 S3
    refine assignInOrder_cons (wpAny_assign_Name (e_stE (env := compEnvC _ _ C (envOf nm lawScope L a cd)) S3 ?_))
    intro s4 S4
    refine assignInOrder_cons (wpAny_assign_Name (e_stE (env := compEnvC _ _ C (envOf nm lawScope L a cd)) S4 ?_))
    intro s5 S5
    refine assignInOrder_nil ?_
    refine wpAny_pure ?_
    rw [if_pos rfl]
    refine wpAny_Compare1 ?_
    refine Call_ ?_
    refine e_bltE S5 G BL.len ?_
    refine PyProof.Rows.callWith_builtin1 ?_
    refine spliced_more ?_
    refine e_locE (env := compEnvC _ _ C (envOf nm lawScope L a cd)) S5 (by ktr_rel) ?_
    refine spliced_none ?_
    refine c_len S5 (by simp; omega) ?_
    intro t6 s6 S6
    refine Call_ ?_
    refine e_bltE S6 G BL.len ?_
    refine PyProof.Rows.callWith_builtin1 ?_
    refine spliced_more ?_
    refine e_locE (env := compEnvC _ _ C (envOf nm lawScope L a cd)) S6 (by ktr_rel) ?_
    refine spliced_none ?_
    refine c_len S6 (by simp; omega) ?_
    intro t7 s7 S7
    refine lt_int ?_
    refine ⟨?_, oL, hoL, S7.weak (by simp) (fun _ h => h)⟩
    rw [List.take_add_one, hl, List.map_append, List.map_append, hJ]
    simp [clo]
  · rintro ys' D2 c s2 hJ hyl hDn S2
    have : ps.take (min ys.length zs.length) = ps := List.take_of_length_le (by omega)
    rw [this] at hJ
    subst hJ
    exact hQ D2 c s2 S2
end
end Mine

end

section
open PySem PySem.W PyProof.Rows PySem.Calls
set_option maxRecDepth 100000
namespace Mine
local macro_rules | `(tactic| ktr_rel) => `(tactic| first | assumption | with_reducible exact mem_upd | ((with_reducible refine' mem_upd_ne ?h9 ?m9); (case h9 => decide); (case m9 => ktr_rel)) | ((with_reducible refine' mem_del ?h9 ?m9); (case h9 => decide); (case m9 => ktr_rel)) | exact List.Mem.head _ | exact List.Mem.tail _ (by ktr_rel))
section
variable {prog : Program} {w : World} {A : Around} {E : Value → Shared → Prop} {s : Shared} {h₀ : Heap} {L : Addr} {s₁ : Shared} {vs vs0 : List (Str × Value)} {news : List (Addr × Obj)} {mg mb : Str → Option Value} {env : Env}
  {a : Addr} {cd : Value} {nm : Str} {p : Program} {loose : List Str}
set_option maxHeartbeats 4000000 in
theorem st_first {D1 : Addr} {ys : List Value} {hs : List (List UInt8)} {c1 k₀ : Nat} {h' : List UInt8} {Q : Flow → Shared → Prop} (G : Glo mg mb h₀) (BL : Blts mg mb p loose)
    (S : St h₀ L s₁ vs news s) (hlen : hs.length ≤ 66) (hk₀ : hs[k₀]? = some h') (hne : h' ≠ [])
    (hm1 : (("heads" : Str), Value.ref D1) ∈ vs) (hD1 : (D1, listOf ys.toArray c1) ∈ news) (hB1 : BAre ys hs)
    (hQ : ∀ (k : Nat) l t s', hs[k]? = some l → l ≠ [] → (∀ j, j < k → ∀ q, hs[j]? = some q → q = []) → St h₀ L s₁ (upd "first" (.int k t) vs) news s' → Q .next s') :
    wpAny (model prog w) (callerA.deeper (envOf nm lawScope L a cd)) (exec (lawSt 6) (envOf nm lawScope L a cd)) Q E s := by
  dsimp only [lawSt, List.getD, fBody, lawDef, PySem.Challenge.pw_dv0018_03, List.getElem?_cons_zero, List.getElem?_cons_succ, Option.getD_some]
  refine wpAny_Assign_Name ?_
  refine Call_ ?_
  refine e_blt S G BL.min ?_
  refine PyProof.Rows.callWith_builtin1 ?_
  refine spliced_more ?_
  refine e_lc (cl := []) ?_
  refine Call_ ?_
  refine e_blt S G BL.enum ?_
  refine PyProof.Rows.callWith_type1 ?_
  refine spliced_more ?_
  refine e_loc S (by ktr_rel) ?_
  refine spliced_none ?_
  refine c_enum rfl S (S.lst hD1) ?_
  intro I s1 S1 R1
  have hyl0 := hB1.len
  refine lc_ev (env := envOf nm lawScope L a cd) (R1 _ _ _) S1 (by omega) (fun i zs => ∃ ns, IntsAre zs ns ∧ ∀ n : Int, n ∈ ns ↔ ∃ j : Nat, j < i ∧ n = (j : Int) ∧ ∃ l, hs[j]? = some l ∧ l ≠ []) ⟨[], .nil, fun n => by simp⟩ ?_ ?_
  · rintro C D2 oL i v ys' c s2 own hoL hCa hCn hLC hDL hDC hown hi ⟨T, vals, rfl, ⟨ti, x, hx, rfl⟩, hT⟩ hJ hyl S2
    obtain ⟨l, t, hl, rfl⟩ := hB1.getV hx
    refine e_unpT S2 (xs := [_, _]) hT rfl ?_
    intro s3 S3
    refine assignInOrder_cons (wpAny_assign_Name (e_stE (env := compEnvC _ _ C (envOf nm lawScope L a cd)) S3 ?_))
    intro s4 S4
    refine assignInOrder_cons (wpAny_assign_Name (e_stE (env := compEnvC _ _ C (envOf nm lawScope L a cd)) S4 ?_))
    intro s5 S5
    refine assignInOrder_nil ?_
    refine wpAny_tests_one ?_
    refine wpAny_isTrue_Compare1 ?_
    refine e_locE (env := compEnvC _ _ C (envOf nm lawScope L a cd)) S5 (by ktr_rel) ?_
    refine e_byt S5 ?_
    intro t6 s6 S6
    refine ne_bytes ?_
    refine wpAny_truthy_bool ?_
    obtain ⟨ns, hi1, hi2⟩ := hJ
    by_cases hle : l = []
    · subst hle
      rw [if_neg (by simp)]
      refine ⟨⟨ns, hi1, fun n => ?_⟩, oL, hoL, S6.weak (by simp) (fun _ h => h)⟩
      rw [hi2]
      constructor
      · rintro ⟨j, hj, e, h⟩
        exact ⟨j, by omega, e, h⟩
      · rintro ⟨j, hj, e, l', h1, h2⟩
        refine ⟨j, ?_, e, l', h1, h2⟩
        rcases Nat.lt_or_ge j i with h | h
        · exact h
        · exfalso
          have : j = i := by omega
          subst this
          rw [hl] at h1
          exact h2 (Option.some.inj h1).symm
    · rw [if_pos (by simpa using hle)]
      refine e_locE (env := compEnvC _ _ C (envOf nm lawScope L a cd)) S6 (by ktr_rel) ?_
      refine ⟨⟨ns ++ [(i : Int)], hi1.append (.cons _ _ .nil), fun n => ?_⟩, oL, hoL, S6.weak (by simp) (fun _ h => h)⟩
      rw [List.mem_append, hi2, List.mem_singleton]
      constructor
      · rintro (⟨j, hj, e, h⟩ | e)
        · exact ⟨j, by omega, e, h⟩
        · exact ⟨i, by omega, e, l, hl, hle⟩
      · rintro ⟨j, hj, e, h⟩
        rcases Nat.lt_or_ge j i with hji | hji
        · exact .inl ⟨j, hji, e, h⟩
        · have : j = i := by omega
          subst this
          exact .inr e
  · rintro zs D2 c s2 ⟨ns, hi1, hi2⟩ hyl hDn S2
    refine spliced_none ?_
    have hk₀l : k₀ < hs.length := (List.getElem?_eq_some_iff.mp hk₀).1
    have hmem : (k₀ : Int) ∈ ns := (hi2 _).mpr ⟨k₀, by omega, rfl, h', hk₀, hne⟩
    refine c_min rfl S2 (S2.lst (.head _)) hi1 (List.length_pos_of_mem hmem) ?_
    intro m t3 s3 hm hmin S3
    obtain ⟨k, hkl, rfl, l, hl, hle⟩ := (hi2 m).mp hm
    refine e_st S3 ?_
    intro s4 S4
    refine hQ k l t3 s4 hl hle (fun j hj q hq => ?_) (S4.weak (fun _ h => h) (fun _ h => .tail _ h))
    by_cases hqe : q = []
    · exact hqe
    · exfalso
      have hjl : j < hs.length := (List.getElem?_eq_some_iff.mp hq).1
      have := hmin j ((hi2 _).mpr ⟨j, by omega, rfl, q, hq, hqe⟩)
      omega

def lawTail : List Stmt := (fBody lawDef).drop 7
set_option maxHeartbeats 4000000 in
theorem st_tail {D1 D2 : Addr} {ys : List Value} {ps : List (List UInt8)} {c1 c2 k : Nat} {q : List UInt8} {tn tr tk : Tok} {Q : Flow → Shared → Prop} (G : Glo mg mb h₀) (BL : Blts mg mb p loose)
    (S : St h₀ L s₁ vs news s) (hlen : ps.length ≤ 66) (h5 : ∀ q ∈ ps, q.length ≤ 5) (hk : ps[k]? = some q) (hq : hdo q ≠ []) (hlo : ∀ j, j < k → ∀ q, ps[j]? = some q → hdo q = [])
    (hm1 : (("heads" : Str), Value.ref D1) ∈ vs) (hD1 : (D1, listOf ys.toArray c1) ∈ news) (hB1 : BAre ys (ps.map hdo))
    (hm2 : (("closed" : Str), Value.ref D2) ∈ vs) (hD2 : (D2, listOf ((ps.map clo).map Value.bool).toArray c2) ∈ news)
    (hm3 : (("name" : Str), Value.bytes (goo ps ([], 0)).1.toArray tn) ∈ vs) (hm4 : (("refused" : Str), Value.int ((goo ps ([], 0)).2 : Nat) tr) ∈ vs) (hm5 : (("first" : Str), Value.int (k : Nat) tk) ∈ vs)
    (hQ : ∀ s', St h₀ L s₁ [] [] s' → Q (.ret (.bool true)) s') :
    wpAny (model prog w) (callerA.deeper (envOf nm lawScope L a cd)) (execs lawTail (envOf nm lawScope L a cd)) Q E s := by
  have hyl0 : ys.length = ps.length := by rw [hB1.len]; simp
  have hkl : k < ps.length := (List.getElem?_eq_some_iff.mp hk).1
  obtain ⟨tq, hyk⟩ := hB1.get (i := k) (l := hdo q) (by rw [List.getElem?_map, hk]; rfl)
  obtain ⟨law1, law2⟩ := goo_all ps k q hk hq hlo
  have hfl : (ps.map hdo).flatten.length ≤ 1000 := by
    have : ∀ (xs : List (List UInt8)), (∀ q ∈ xs, q.length ≤ 5) → (xs.map hdo).flatten.length ≤ 5 * xs.length := fun xs => by
      induction xs with
      | nil => intro _; simp
      | cons x r ih =>
        intro hx
        have h1 := ih (fun q hq => hx q (.tail _ hq))
        have h2 := hx x (.head _)
        have h3 : (hdo x).length ≤ x.length := by unfold hdo; rw [List.length_take]; omega
        rw [List.map_cons, List.flatten_cons, List.length_append, List.length_cons]
        omega
    have := this ps h5
    omega
  have hfd : ((ps.drop k).map due).flatten.length ≤ 1000 := by
    have : ∀ (xs : List (List UInt8)), (∀ q ∈ xs, q.length ≤ 5) → (xs.map due).flatten.length ≤ 6 * xs.length := fun xs => by
      induction xs with
      | nil => intro _; simp
      | cons x r ih =>
        intro hx
        have h1 := ih (fun q hq => hx q (.tail _ hq))
        have h2 := hx x (.head _)
        have h3 : (hdo x).length ≤ x.length := by unfold hdo; rw [List.length_take]; omega
        have h4 : (due x).length ≤ 6 := by
          unfold due
          rw [List.length_append]
          split <;> simp <;> omega
        rw [List.map_cons, List.flatten_cons, List.length_append, List.length_cons]
        omega
    have h1 := this (ps.drop k) (fun q hq => h5 q (List.mem_of_mem_drop hq))
    have h2 : (ps.drop k).length ≤ ps.length := by simp
    omega
  dsimp only [lawTail, fBody, lawDef, PySem.Challenge.pw_dv0018_03, List.drop]
  refine wpAny_execs_cons ?_
  refine wpAny_If ?_
  refine wpAny_isTrue_Compare1 ?_
  refine Subscript_ ?_
  refine Subscript_ ?_
  refine e_loc S (by ktr_rel) ?_
  refine e_loc S (by ktr_rel) ?_
  refine s_litem (S.lst hD1) (by omega) (by omega) (by simpa using hyk) ?_
  refine e_int S ?_
  intro t1 s1 S1
  have hqpos : 0 < (hdo q).length := List.length_pos_iff.mpr hq
  have hq5 : (hdo q).length ≤ 5 := by
    have := h5 q (List.mem_of_getElem? hk)
    unfold hdo; rw [List.length_take]; omega
  refine s_item S1 (by omega) (by decide) (by omega) ?_
  intro t2 s2 S2
  refine e_int S2 ?_
  intro t3 s3 S3
  refine ne_int ?_
  refine wpAny_truthy_bool ?_
  have hget : (hdo q)[0]? = some ((hdo q).getD 0 0) := by
    rw [List.getD_eq_getElem?_getD, List.getElem?_eq_getElem (by omega)]; rfl
  by_cases h91 : (hdo q).getD 0 0 = 91
  · have hbv : ((((hdo q).getD (Int.toNat 0) 0).toNat : Int) != 91) = false := by
      show ((((hdo q).getD 0 0).toNat : Int) != 91) = false
      rw [h91]; rfl
    rw [if_neg (by rw [hbv]; decide)]
    have e91 := law2 (by rw [hget, h91])
    refine wpAny_execs_nil ?_
    dsimp only
    refine wpAny_execs_cons ?_
    refine wpAny_Assign_Name ?_
    refine MethodCall_ ?_
    refine e_byt S3 ?_
    intro t4 s4 S4
    refine m_join ?_
    refine callWith_method1 ?_
    refine spliced_more ?_
    refine e_lc (cl := []) ?_
    refine Call_ ?_
    refine e_blt S4 G BL.zip ?_
    refine PyProof.Rows.callWith_type1 ?_
    refine spliced_more ?_
    refine Subscript_ ?_
    refine e_loc S4 (by ktr_rel) ?_
    refine wpAny_Slice ?_
    refine evalPart_some_step ?_
    refine e_loc S4 (by ktr_rel) ?_
    refine evalPart_none_step ?_
    refine evalPart_none_step ?_
    refine s_lfrom S4 (S4.lst hD1) (by omega) (by omega) ?_
    intro D3 s5 S5
    refine spliced_more ?_
    refine Subscript_ ?_
    refine e_loc S5 (by ktr_rel) ?_
    refine wpAny_Slice ?_
    refine evalPart_some_step ?_
    refine e_loc S5 (by ktr_rel) ?_
    refine evalPart_none_step ?_
    refine evalPart_none_step ?_
    refine s_lfrom S5 (S5.lst (.tail _ hD2)) (by omega) (by simp; omega) ?_
    intro D4 s6 S6
    refine spliced_none ?_
    rw [Int.toNat_natCast] at S5 S6
    have hB3 : BAre (ys.drop k) ((ps.drop k).map hdo) := by rw [List.map_drop]; exact hB1.drop k
    have hB3l := hB3.len
    refine c_zip rfl S6 (S6.lst (.tail _ (.head _))) (S6.lst (.head _)) ?_
    intro I s7 S7 R7
    refine lc_ev (env := envOf nm lawScope L a cd) (R7 _ _ _) S7 (by simp; omega) (fun i zs => BAre zs (((ps.drop k).take i).map due)) .nil ?_ ?_
    · rintro C D5 oL i v ys' c s8 own hoL hCa hCn hLC hDL hDC hown hi ⟨T, vals, rfl, ⟨x, y, hx, hy, rfl⟩, hT⟩ hJ hyl S8
      obtain ⟨l', t', hl', rfl⟩ := hB3.getV hx
      obtain ⟨l, hl, rfl⟩ : ∃ l, (ps.drop k)[i]? = some l ∧ hdo l = l' := by
        rw [List.getElem?_map] at hl'
        cases h : (ps.drop k)[i]? with
        | none => rw [h] at hl'; cases hl'
        | some l => rw [h] at hl'; exact ⟨l, rfl, Option.some.inj hl'⟩
      obtain rfl : Value.bool (clo l) = y := by
        rw [← List.map_drop, ← List.map_drop, List.getElem?_map, List.getElem?_map, hl] at hy
        exact Option.some.inj hy
      have hl6 : (hdo l).length ≤ 5 := by
        have := h5 l (List.mem_of_mem_drop (List.mem_of_getElem? hl))
        unfold hdo; rw [List.length_take]; omega
      refine e_unpT S8 (xs := [_, _]) hT rfl ?_
      intro s9 S9
      refine assignInOrder_cons (wpAny_assign_Name (e_stE (env := compEnvC _ _ C (envOf nm lawScope L a cd)) S9 ?_))
      intro s10 S10
      refine assignInOrder_cons (wpAny_assign_Name (e_stE (env := compEnvC _ _ C (envOf nm lawScope L a cd)) S10 ?_))
      intro s11 S11
      refine assignInOrder_nil ?_
      refine wpAny_pure ?_
      rw [if_pos rfl]
      refine wpAny_BinOp ?_
      refine e_locE (env := compEnvC _ _ C (envOf nm lawScope L a cd)) S11 (by ktr_rel) ?_
      refine IfExp_ ?_
      refine isTrue_plain ?_
      refine e_locE (env := compEnvC _ _ C (envOf nm lawScope L a cd)) S11 (by ktr_rel) ?_
      refine wpAny_truthy_bool ?_
      have fin : ∀ t, BAre (ys' ++ [.bytes (due l).toArray t]) (((ps.drop k).take (i + 1)).map due) := fun t => by
        rw [List.take_add_one, hl, List.map_append]
        exact hJ.app (.cons _ t .nil)
      by_cases hc : clo l = true
      · rw [if_pos hc]
        refine e_byt S11 ?_
        intro t12 s12 S12
        refine o_cat S12 (by simp; omega) ?_
        intro t13 s13 S13
        rw [List.append_toArray]
        have e : hdo l ++ [93] = due l := by unfold due; rw [if_pos hc]
        rw [e]
        exact ⟨fin _, oL, hoL, S13.weak (by simp) (fun _ h => h)⟩
      · rw [if_neg hc]
        refine e_byt S11 ?_
        intro t12 s12 S12
        refine o_cat S12 (by simp; omega) ?_
        intro t13 s13 S13
        rw [List.append_toArray]
        have e : hdo l ++ [] = due l := by unfold due; rw [if_neg hc]
        rw [e]
        exact ⟨fin _, oL, hoL, S13.weak (by simp) (fun _ h => h)⟩
    · intro zs D5 c s8 hJ hyl hDn S8
      have htk : (ps.drop k).take (min (ys.drop k).length (((ps.map clo).map Value.bool).drop k).length) = ps.drop k := List.take_of_length_le (by simp; omega)
      rw [htk] at hJ
      refine spliced_none ?_
      refine c_join S8 (S8.lst (.head _)) hJ (by omega) ?_
      intro t9 s9 S9
      refine e_st S9 ?_
      intro s10 S10
      dsimp only
      refine wpAny_execs_cons ?_
      refine wpAny_Return_some ?_
      refine BoolOp_and ?_
      refine wpAny_Compare1 ?_
      refine Call_ ?_
      refine e_blt S10 G BL.type ?_
      refine PyProof.Rows.callWith_type1 ?_
      refine spliced_more ?_
      refine e_loc S10 (by ktr_rel) ?_
      refine spliced_none ?_
      refine t_typeB ?_
      refine e_blt S10 G BL.bytes ?_
      refine wpAny_is_self rfl ?_
      refine wpAny_truthy_bool ?_
      rw [if_pos rfl]
      refine BoolOp_and ?_
      refine wpAny_Compare1 ?_
      refine e_loc S10 (by ktr_rel) ?_
      refine e_loc S10 (by ktr_rel) ?_
      refine eq_bytes ?_
      refine wpAny_truthy_bool ?_
      rw [if_pos (by rw [e91]; simp)]
      refine BoolOp_one ?_
      refine wpAny_Compare1 ?_
      refine e_loc S10 (by ktr_rel) ?_
      refine Call_ ?_
      refine e_blt S10 G BL.sum ?_
      refine PyProof.Rows.callWith_builtin1 ?_
      refine spliced_more ?_
      refine Subscript_ ?_
      refine e_loc S10 (by ktr_rel) ?_
      refine wpAny_Slice ?_
      refine evalPart_none_step ?_
      refine evalPart_some_step ?_
      refine e_loc S10 (by ktr_rel) ?_
      refine evalPart_none_step ?_
      refine s_lupto S10 (S10.lst (.tail _ (.tail _ (.tail _ hD2)))) (by omega) (by simp; omega) ?_
      intro D6 s11 S11
      refine spliced_none ?_
      rw [Int.toNat_natCast] at S11
      refine c_sumb (bs := (ps.map clo).take k) rfl S11 (S11.lst (.head _)) (by rw [List.map_take]) (by simp; omega) ?_
      intro t12 s12 S12
      refine eq_int ?_
      have hb : ((((goo ps ([], 0)).2 : Nat) : Int) == ((cnt ((ps.map clo).take k) : Nat) : Int)) = true := by rw [e91]; simp
      rw [hb]
      exact hQ _ (S12.weak (by simp) (by simp))
  · have hbv : ((((hdo q).getD (Int.toNat 0) 0).toNat : Int) != 91) = true := by
      show ((((hdo q).getD 0 0).toNat : Int) != 91) = true
      rw [bne_iff_ne]
      intro h
      exact h91 (UInt8.toNat_inj.mp (by show ((hdo q).getD 0 0).toNat = 91; omega))
    rw [if_pos hbv]
    have e91 := law1 (by rw [hget]; intro h; exact h91 (Option.some.inj h))
    refine wpAny_execs_cons ?_
    refine wpAny_Return_some ?_
    refine BoolOp_and ?_
    refine wpAny_Compare1 ?_
    refine Call_ ?_
    refine e_blt S3 G BL.type ?_
    refine PyProof.Rows.callWith_type1 ?_
    refine spliced_more ?_
    refine e_loc S3 (by ktr_rel) ?_
    refine spliced_none ?_
    refine t_typeB ?_
    refine e_blt S3 G BL.bytes ?_
    refine wpAny_is_self rfl ?_
    refine wpAny_truthy_bool ?_
    rw [if_pos rfl]
    refine BoolOp_and ?_
    refine wpAny_Compare1 ?_
    refine e_loc S3 (by ktr_rel) ?_
    refine MethodCall_ ?_
    refine e_byt S3 ?_
    intro t4 s4 S4
    refine m_join ?_
    refine callWith_method1 ?_
    refine spliced_more ?_
    refine e_loc S4 (by ktr_rel) ?_
    refine spliced_none ?_
    refine c_join S4 (S4.lst hD1) hB1 (by omega) ?_
    intro t5 s5 S5
    refine eq_bytes ?_
    refine wpAny_truthy_bool ?_
    rw [if_pos (by rw [e91]; simp)]
    refine BoolOp_one ?_
    refine wpAny_Compare1 ?_
    refine e_loc S5 (by ktr_rel) ?_
    refine Call_ ?_
    refine e_blt S5 G BL.sum ?_
    refine PyProof.Rows.callWith_builtin1 ?_
    refine spliced_more ?_
    refine e_loc S5 (by ktr_rel) ?_
    refine spliced_none ?_
    refine c_sumb (bs := ps.map clo) rfl S5 (S5.lst hD2) rfl (by simp; omega) ?_
    intro t6 s6 S6
    refine eq_int ?_
    have hb : ((((goo ps ([], 0)).2 : Nat) : Int) == ((cnt (ps.map clo) : Nat) : Int)) = true := by rw [e91]; simp
    rw [hb]
    exact hQ _ (S6.weak (by simp) (by simp))
end
end Mine

end

section
open PySem PySem.W PyProof.Rows PySem.Calls
set_option maxRecDepth 100000
namespace Mine
local macro_rules | `(tactic| ktr_rel) => `(tactic| first | assumption | with_reducible exact mem_upd | ((with_reducible refine' mem_upd_ne ?h9 ?m9); (case h9 => decide); (case m9 => ktr_rel)) | ((with_reducible refine' mem_del ?h9 ?m9); (case h9 => decide); (case m9 => ktr_rel)) | exact List.Mem.head _ | exact List.Mem.tail _ (by ktr_rel))
section
variable {prog : Program} {w : World} {E : Value → Shared → Prop} {s : Shared} {h₀ : Heap} {L : Addr} {s₁ : Shared} {vs vs0 : List (Str × Value)} {news : List (Addr × Obj)} {mg mb : Str → Option Value}
  {f f' a : Addr} {fo fo' : Obj} {dV kV doc pm cdv ct cd dV' kV' doc' pm' cdv' ct' : Value} {an an' : Option Addr} {params params' : Arguments} {name qual nm name' qual' : Str} {p : Program} {loose : List Str}
theorem st_name {Q : Flow → Shared → Prop} (S : St h₀ L s₁ vs news s) (hQ : ∀ t s', St h₀ L s₁ (upd "name" (.bytes ([] : List UInt8).toArray t) vs) news s' → Q .next s') :
    wpAny (model prog w) (callerA.deeper (envOf nm lawScope L a cd)) (exec (lawSt 1) (envOf nm lawScope L a cd)) Q E s := by
  dsimp only [lawSt, List.getD, fBody, lawDef, PySem.Challenge.pw_dv0018_03, List.getElem?_cons_zero, List.getElem?_cons_succ, Option.getD_some]
  refine wpAny_Assign_Name ?_
  refine e_byt S ?_
  intro t1 s1 S1
  exact e_st S1 (fun s2 S2 => hQ t1 s2 S2)
theorem st_refused {Q : Flow → Shared → Prop} (S : St h₀ L s₁ vs news s) (hQ : ∀ t s', St h₀ L s₁ (upd "refused" (.int 0 t) vs) news s' → Q .next s') :
    wpAny (model prog w) (callerA.deeper (envOf nm lawScope L a cd)) (exec (lawSt 2) (envOf nm lawScope L a cd)) Q E s := by
  dsimp only [lawSt, List.getD, fBody, lawDef, PySem.Challenge.pw_dv0018_03, List.getElem?_cons_zero, List.getElem?_cons_succ, Option.getD_some]
  refine wpAny_Assign_Name ?_
  refine e_int S ?_
  intro t1 s1 S1
  exact e_st S1 (fun s2 S2 => hQ t1 s2 S2)
set_option maxHeartbeats 4000000 in
theorem st_loop {D : Addr} {zs : List Value} {ps : List (List UInt8)} {c0 : Nat} {tn tr : Tok} {Q : Flow → Shared → Prop} (K : Below callerA h₀ [] h₀) (G : Glo mg mb h₀) (T : TopRead p loose mg mb h₀) (FS : StripAt mg h₀ f fo dV kV doc pm cdv ct an params name qual) (BL : Blts mg mb p loose)
    (hE : PassesOwn (model prog w) (callerA.deeper (envOf nm lawScope L a cd)) (envOf nm lawScope L a cd) E)
    (S : St h₀ L s₁ vs news s) (hm : (("pieces" : Str), Value.ref D) ∈ vs) (hD : (D, listOf zs.toArray c0) ∈ news) (hB : BAre zs ps) (hlen : ps.length ≤ 66) (h5 : ∀ q ∈ ps, q.length ≤ 5)
    (hm1 : (("name" : Str), Value.bytes ([] : List UInt8).toArray tn) ∈ vs) (hm2 : (("refused" : Str), Value.int 0 tr) ∈ vs)
    (hQ : ∀ t1 t2 s', St h₀ L s₁ [(("name" : Str), Value.bytes (goo ps ([], 0)).1.toArray t1), (("refused" : Str), Value.int ((goo ps ([], 0)).2 : Nat) t2), (("pieces" : Str), Value.ref D)] news s' → Q .next s') :
    wpAny (model prog w) (callerA.deeper (envOf nm lawScope L a cd)) (exec (lawSt 3) (envOf nm lawScope L a cd)) Q E s := by
  have e : lawSt 3 = .For (match mainFor with | .For t .. => t | _ => .Name "" ⟨0, 0, 0, 0⟩) (match mainFor with | .For _ i .. => i | _ => .Name "" ⟨0, 0, 0, 0⟩) (forBody mainFor) [] (match mainFor with | .For _ _ _ _ p => p | _ => ⟨0, 0, 0, 0⟩) := rfl
  rw [e]
  refine wpAny_For ?_ (by intro _; rfl)
  dsimp only [mainFor, fBody, lawDef, PySem.Challenge.pw_dv0018_03]
  refine e_loc S (by ktr_rel) ?_
  have hzl := hB.len
  refine loop_list rfl (S.lst hD) (S.notList (S.lst hD)) S (fun i vs' news' => news' = news ∧ ∃ t1 t2, ∀ q ∈ [(("name" : Str), Value.bytes (goo (ps.take i) ([], 0)).1.toArray t1), (("refused" : Str), Value.int ((goo (ps.take i) ([], 0)).2 : Nat) t2), (("pieces" : Str), Value.ref D)], q ∈ vs') ⟨rfl, tn, tr, ?_⟩ ?_ ?_ hE
  · intro q hq
    simp only [List.mem_cons, List.not_mem_nil, or_false] at hq
    rcases hq with rfl | rfl | rfl
    · exact hm1
    · exact hm2
    · exact hm
  · rintro i v vs₁ news₁ s2 own hv ⟨rfl, t1, t2, hvs⟩ _ S2
    obtain ⟨l, t, hl, rfl⟩ := hB.getV hv
    have hl5 : l.length ≤ 5 := h5 l (List.mem_of_getElem? hl)
    have hgl := goo_len (ps.take i) ([], 0) (fun q hq => h5 q (List.mem_of_mem_take hq))
    have hil : i < ps.length := (List.getElem?_eq_some_iff.mp hl).1
    rw [List.length_take] at hgl
    simp only [List.length_nil] at hgl
    refine turn3 (vs0 := [(("pieces" : Str), Value.ref D)]) K G T FS BL S2 (mem_upd_ne (by decide) (hvs _ (.head _))) mem_upd (mem_upd_ne (by decide) (hvs _ (.tail _ (.head _)))) (by omega) ?_ ?_
    · intro q hq
      rw [List.mem_singleton.mp hq]
      exact ⟨mem_upd_ne (by decide) (hvs _ (.tail _ (.tail _ (.head _)))), rfl, rfl, rfl⟩
    · intro s3 t3 t4 S3
      refine ⟨_, news₁, ⟨rfl, t3, t4, fun q hq => ?_⟩, rfl, S3⟩
      rw [goo_step ps i l _ hl] at hq
      exact hq
  · rintro vs₁ news₁ s2 ⟨rfl, t1, t2, hvs⟩ _ S2
    rw [List.take_of_length_le (by omega)] at hvs
    exact hQ t1 t2 s2 (S2.weak hvs (fun _ h => h))
set_option maxHeartbeats 4000000 in
theorem law_body {sc : Addr} {xs : List Value} {ns : List Int} {Q : Flow → Shared → Prop} (K : Below callerA h₀ [] h₀) (G : Glo mg mb h₀) (T : TopRead p loose mg mb h₀) (FS : StripAt mg h₀ f fo dV kV doc pm cdv ct an params name qual)
    (FP : PieceAt mg h₀ f' fo' dV' kV' doc' pm' cdv' ct' an' params' name' qual') (BL : Blts mg mb p loose)
    (hE : PassesOwn (model prog w) (callerA.deeper (envOf nm lawScope L a cd)) (envOf nm lawScope L a cd) E)
    (S : St h₀ L s₁ [(("script" : Str), Value.ref sc)] [] s) (hsc : h₀.IsList sc xs.toArray) (hI : IntsAre xs ns) (hlen : ns.length ≤ 63)
    (hQ : ∀ s', St h₀ L s₁ [] [] s' → Q (.ret (.bool true)) s') :
    wpAny (model prog w) (callerA.deeper (envOf nm lawScope L a cd)) (execs (fBody lawDef) (envOf nm lawScope L a cd)) Q E s := by
  have e : fBody lawDef = lawSt 0 :: lawSt 1 :: lawSt 2 :: lawSt 3 :: lawSt 4 :: lawSt 5 :: lawSt 6 :: lawTail := rfl
  rw [e]
  refine wpAny_execs_cons ?_
  refine st_pieces K G FP BL S (.head _) hsc hI hlen ?_
  intro D ps qs zs s1 hB h5 hpl hqs S1
  dsimp only
  refine wpAny_execs_cons ?_
  refine st_name S1 ?_
  intro t2 s2 S2
  dsimp only
  refine wpAny_execs_cons ?_
  refine st_refused S2 ?_
  intro t3 s3 S3
  dsimp only
  refine wpAny_execs_cons ?_
  refine st_loop K G T FS BL hE S3 (by ktr_rel) (.head _) hB hpl h5 (by ktr_rel) (by ktr_rel) ?_
  intro t4 t5 s4 S4
  dsimp only
  refine wpAny_execs_cons ?_
  refine st_heads S4 (by ktr_rel) (.head _) hB hpl h5 ?_
  intro D1 ys c5 s5 hB1 S5
  dsimp only
  refine wpAny_execs_cons ?_
  refine st_closed G BL S5 (by ktr_rel) (.tail _ (.head _)) hB hpl h5 (by ktr_rel) (.head _) hB1 ?_
  intro D2 c6 s6 S6
  dsimp only
  refine wpAny_execs_cons ?_
  have hk0 : (ps.map hdo)[qs.length]? = some [91, 120] := by
    rw [List.getElem?_map, hqs, List.getElem?_append_right (Nat.le_refl _), Nat.sub_self]; rfl
  refine st_first G BL S6 (by simpa using hpl) hk0 (by decide) (by ktr_rel) (.tail _ (.head _)) hB1 ?_
  intro k l t7 s7 hkl hle hlo S7
  dsimp only
  obtain ⟨q, hq, rfl⟩ : ∃ q, ps[k]? = some q ∧ hdo q = l := by
    rw [List.getElem?_map] at hkl
    cases h : ps[k]? with
    | none => rw [h] at hkl; cases hkl
    | some q => rw [h] at hkl; exact ⟨q, rfl, Option.some.inj hkl⟩
  refine st_tail G BL S7 hpl h5 hq hle (fun j hj q' hq' => hlo j hj _ (by rw [List.getElem?_map, hq']; rfl)) (by ktr_rel) (.tail _ (.head _)) hB1 (by ktr_rel) (.head _) (by ktr_rel) (by ktr_rel) (by ktr_rel) hQ
end
end Mine

end

open PySem PySem.W PyProof.Rows PySem.Calls Mine
set_option maxRecDepth 100000 in
set_option maxHeartbeats 8000000 in
theorem PySem.Challenge.cw_dv0018_03_holds : PySem.Challenge.rw_dv0018_03.Holds := by
  w_on
  o_law
  k_head
  (case hw => w_witness2)
  k_go0
  rename Shared => sB
  rename World => ww
  rename News _ _ _ _ => NN
  rename Fr _ _ _ _ => FF
  rename Heap.IsList _ _ _ => hL
  rename IntsAre _ _ => hI
  rename ¬ ((63 : Nat) : Int) < _ => hlen
  rename Below _ _ _ _ => KK
  rename Top _ _ _ _ _ _ => TT
  rename Frag.In _ _ => XX
  rename (_ : Shared).gens = #[] => hgens
  have GG : Glo _ _ sB.heap := ⟨TT.g, TT.b, TT.nolimit⟩
  have TR := topRead_of TT
  obtain ⟨f, fo, dV, kV, doc, pm, cdv, ct, an, params, name, qual, FS⟩ : ∃ f fo dV kV doc pm cdv ct an params name qual, StripAt _ sB.heap f fo dV kV doc pm cdv ct an params name qual :=
    ⟨_, _, _, _, _, _, _, _, _, _, _, _, mg_of XX TT.g (by k_is), XX _ _ (by k_is), rfl, codeRec_of XX (by k_is), fun v => rfl⟩
  obtain ⟨f', fo', dV', kV', doc', pm', cdv', ct', an', params', name', qual', FP⟩ : ∃ f fo dV kV doc pm cdv ct an params name qual, PieceAt _ sB.heap f fo dV kV doc pm cdv ct an params name qual :=
    ⟨_, _, _, _, _, _, _, _, _, _, _, _, mg_of XX TT.g (by k_is), XX _ _ (by k_is), rfl, codeRec_of XX (by k_is), fun v => rfl⟩
  have BL := Blts.of TR (mg_none_of XX TT.g (by k_is)) (mg_none_of XX TT.g (by k_is)) (mg_none_of XX TT.g (by k_is)) (mg_none_of XX TT.g (by k_is)) (mg_none_of XX TT.g (by k_is)) (mg_none_of XX TT.g (by k_is)) (mg_none_of XX TT.g (by k_is)) (mg_none_of XX TT.g (by k_is)) (mg_none_of XX TT.g (by k_is)) (by decide +kernel) (by decide +kernel) (by decide +kernel) (by decide +kernel) (by decide +kernel)
  refine wpAny_mono (law_body (nm := "law") KK GG TR FS FP BL PassesOwn.never (s₁ := sB) ⟨rfl, rfl, rfl, ⟨_, FF, fun q hq => by rw [List.mem_singleton.mp hq]; rfl⟩, NN⟩ hL hI (by omega) (Q := fun f s' => f = .ret (.bool true) ∧ St sB.heap sB.heap.objs.size sB [] [] s') (fun s' S' => ⟨rfl, S'⟩)) (fun f s' h => ?_) (fun _ _ h => h.elim)
  obtain ⟨rfl, S'⟩ := h
  obtain ⟨m', F', _⟩ := S'.fr
  have hg' : s'.gens = #[] := S'.gens.trans hgens
  refine goodW_bool F' hg' ?_ ?_ S'.os
  · intro cls
    first | rfl | (exact raisesW_false (by wrow_none_raised) cls)
  · first | rfl | (with_unfolding_all rfl)
