import PyProof.Rows.All
import Wide.All
import OpenK.AllK
import Wide.FinOn
import PySem.Challenge.RW_dv0018_01
set_option Elab.async false

section
open PySem PySem.W PyProof.Rows PySem.Calls
namespace Mine

/-- what a walk knows: the frame's known names, the ledger of made objects; the rest of the machine is as at s₁ -/
structure St (h₀ : Heap) (L : Addr) (s₁ : Shared) (vs : List (Str × Value)) (news : List (Addr × Obj)) (s : Shared) : Prop where
  gens : s.gens = s₁.gens
  drawn : s.drawn = s₁.drawn
  os : s.os = s₁.os
  fr : ∃ m, Fr h₀ L s.heap m ∧ ∀ p ∈ vs, m p.1 = some p.2
  nw : News h₀ L s.heap news

def upd (x : Str) (v : Value) (vs : List (Str × Value)) : List (Str × Value) := (x, v) :: vs.filter fun p => !(p.1 == x)
theorem mem_upd {x : Str} {v : Value} {vs : List (Str × Value)} : (x, v) ∈ upd x v vs := List.Mem.head _
theorem mem_upd_ne {x y : Str} {v u : Value} {vs : List (Str × Value)} (h : (y == x) = false) (hm : (y, u) ∈ vs) : (y, u) ∈ upd x v vs :=
  List.Mem.tail _ (List.mem_filter.mpr ⟨hm, by simp [h]⟩)
theorem mem_of_upd {x : Str} {v : Value} {vs : List (Str × Value)} {p : Str × Value} (h : p ∈ upd x v vs) : p = (x, v) ∨ (p ∈ vs ∧ p.1 ≠ x) := by
  rcases List.mem_cons.mp h with h | h
  · exact .inl h
  · obtain ⟨h1, h2⟩ := List.mem_filter.mp h
    exact .inr ⟨h1, fun e => by rw [e] at h2; simp at h2⟩

section
variable {h₀ : Heap} {L : Addr} {s₁ : Shared} {vs : List (Str × Value)} {news : List (Addr × Obj)} {s : Shared}
theorem St.tok (S : St h₀ L s₁ vs news s) (k : Nat) : St h₀ L s₁ vs news { s with toks := k } := ⟨S.gens, S.drawn, S.os, S.fr, S.nw⟩
theorem St.grow (S : St h₀ L s₁ vs news s) {h' : Heap} (k : Nat) (hk : ∀ b o, s.heap.get? b = some o → h'.get? b = some o) : St h₀ L s₁ vs news { s with heap := h', toks := k } := by
  obtain ⟨m, F, hm⟩ := S.fr
  exact ⟨S.gens, S.drawn, S.os, ⟨m, F.keptAll hk, hm⟩, S.nw.grown hk⟩
theorem St.weak (S : St h₀ L s₁ vs news s) {vs' : List (Str × Value)} {news' : List (Addr × Obj)} (hv : ∀ p ∈ vs', p ∈ vs) (hn : ∀ p ∈ news', p ∈ news) : St h₀ L s₁ vs' news' s := by
  obtain ⟨m, F, hm⟩ := S.fr
  exact ⟨S.gens, S.drawn, S.os, ⟨m, F, fun p hp => hm p (hv p hp)⟩, fun p hp => S.nw p (hn p hp)⟩
theorem St.of (S : St h₀ L s₁ vs news s) {h' : Heap} {k : Nat} {m : Str → Option Value} {vs' : List (Str × Value)} {news' : List (Addr × Obj)} (F : Fr h₀ L h' m) (hm : ∀ p ∈ vs', m p.1 = some p.2) (N : News h₀ L h' news') :
    St h₀ L s₁ vs' news' { s with heap := h', toks := k } := ⟨S.gens, S.drawn, S.os, ⟨m, F, hm⟩, N⟩
theorem St.push (S : St h₀ L s₁ vs news s) (o : Obj) (hf : o.isFreed = false := by rfl) : St h₀ L s₁ vs ((s.heap.objs.size, o) :: news) { s with heap := s.heap.push o } := by
  obtain ⟨m, F, hm⟩ := S.fr
  exact ⟨S.gens, S.drawn, S.os, ⟨m, F.push o, hm⟩, S.nw.push F o hf⟩
theorem St.lt (S : St h₀ L s₁ vs news s) : ∀ p ∈ news, p.1 < s.heap.objs.size := fun p hp => Heap.lt_size (S.nw p hp).1
theorem St.shape (S : St h₀ L s₁ vs news s) : s = { s₁ with heap := s.heap, toks := s.toks } := by
  obtain ⟨h, g, d, t, o⟩ := s
  obtain ⟨hg, hd, ho, _, _⟩ := S
  simp only at hg hd ho
  subst hg hd ho
  rfl
end

/-- the names of the module and of builtins, at the frame's ground -/
structure Glo (mg mb : Str → Option Value) (h₀ : Heap) : Prop where
  g : h₀.Ns mainGlobals mg
  b : h₀.Ns builtinsNs mb
  nolimit : h₀.NoLimit
theorem Glo.keeps {mg mb : Str → Option Value} {h h' : Heap} (G : Glo mg mb h) (hk : ∀ b o, h.get? b = some o → h'.get? b = some o) : Glo mg mb h' := ⟨G.g.keeps hk, G.b.keeps hk, G.nolimit.keeps hk⟩

section
variable {prog : Program} {w : World} {M : Model} {A : Around} {E : Value → Shared → Prop} {s : Shared} {h₀ : Heap} {L : Addr} {s₁ : Shared} {vs : List (Str × Value)} {news : List (Addr × Obj)}
  {name : Str} {scope : Scope} {a : Addr} {cd : Value} {x : Str} {pos : Pos} {v : Value} {mg mb : Str → Option Value} {env : Env}

theorem e_loc {Q : Value → Shared → Prop} (S : St h₀ L s₁ vs news s) (hx : (x, v) ∈ vs) (h : Q v s)
    (hk : scope.kind = .function := by rfl) (hl : (envOf name scope L a cd).kindOf x = some .local := by rfl) (hd : (x == ("__debug__" : Str)) = false := by decide) :
    wpAny M A (eval (.Name x pos) (envOf name scope L a cd)) Q E s := by
  obtain ⟨m, F, hm⟩ := S.fr
  exact ld F (hm _ hx) h hk hl hd
theorem e_locn {Q : Value → Shared → Prop} (S : St h₀ L s₁ vs news s) (hx : (x, v) ∈ vs) (h : Q v s)
    (hk : scope.kind = .function := by rfl) (hl : (envOf name scope L a cd).kindOf x = some .local := by rfl) :
    wpAny M A (loadName (envOf name scope L a cd) x) Q E s := by
  obtain ⟨m, F, hm⟩ := S.fr
  exact ldn F (hm _ hx) h hk hl
theorem e_blt {Q : Value → Shared → Prop} (S : St h₀ L s₁ vs news s) (G : Glo mg mb h₀) (hg : mg x = none ∧ mb x = some v) (h : Q v s)
    (hk : scope.kind = .function := by rfl) (hx : (envOf name scope L a cd).kindOf x = some .globalImplicit := by rfl) (hd : (x == ("__debug__" : Str)) = false := by decide) :
    wpAny M A (eval (.Name x pos) (envOf name scope L a cd)) Q E s := by
  obtain ⟨m, F, hm⟩ := S.fr
  exact ld_builtin_at F G.g hg.1 G.b hg.2 h hk hx hd
theorem e_glo {Q : Value → Shared → Prop} (S : St h₀ L s₁ vs news s) (G : Glo mg mb h₀) (hg : mg x = some v) (h : Q v s)
    (hk : scope.kind = .function := by rfl) (hx : (envOf name scope L a cd).kindOf x = some .globalImplicit := by rfl) (hd : (x == ("__debug__" : Str)) = false := by decide) :
    wpAny M A (eval (.Name x pos) (envOf name scope L a cd)) Q E s := by
  obtain ⟨m, F, hm⟩ := S.fr
  exact ld_global_at F G.g hg h hk hx hd
theorem e_int {i : Int} {k : Nat} {Q : Value → Shared → Prop} (S : St h₀ L s₁ vs news s) (h : ∀ t s', St h₀ L s₁ vs news s' → Q (.int i t) s') : wpAny M A (eval (.Constant (.int i) k pos) env) Q E s :=
  wpAny_Constant_int (h _ _ (S.tok _))
theorem e_byt {b : List UInt8} {k : Nat} {Q : Value → Shared → Prop} (S : St h₀ L s₁ vs news s) (h : ∀ t s', St h₀ L s₁ vs news s' → Q (.bytes b.toArray t) s') : wpAny M A (eval (.Constant (.bytes b) k pos) env) Q E s :=
  Constant_bytes (h _ _ (S.tok _))
theorem e_st {Q : Unit → Shared → Prop} (S : St h₀ L s₁ vs news s) (h : ∀ s', St h₀ L s₁ (upd x v vs) news s' → Q () s')
    (hk : scope.kind = .function := by rfl) (hl : (envOf name scope L a cd).kindOf x = some .local := by rfl) :
    wpAny M A (storeName (envOf name scope L a cd) x v) Q E s := by
  obtain ⟨m, F, hm⟩ := S.fr
  refine stN F S.nw (fun h' F' N' => h _ (S.of F' (fun p hp => ?_) N')) hk hl
  rcases mem_of_upd hp with rfl | ⟨h1, h2⟩
  · simp
  · simp only [h2, if_false]
    exact hm p h1
theorem o_add {i j : Int} {t u : Tok} {Q : Value → Shared → Prop} (S : St h₀ L s₁ vs news s) (h : ∀ t s', St h₀ L s₁ vs news s' → Q (.int (i + j) t) s') : wpAny (model prog w) A (binaryOp .Add (.int i t) (.int j u)) Q E s :=
  add_int (h _ _ (S.tok _))
theorem o_sub {i j : Int} {t u : Tok} {Q : Value → Shared → Prop} (S : St h₀ L s₁ vs news s) (h : ∀ t s', St h₀ L s₁ vs news s' → Q (.int (i - j) t) s') : wpAny (model prog w) A (binaryOp .Sub (.int i t) (.int j u)) Q E s :=
  sub_int (h _ _ (S.tok _))
theorem o_cat {b c : Array UInt8} {t u : Tok} {Q : Value → Shared → Prop} (S : St h₀ L s₁ vs news s) (hz : b.size + c.size ≤ 16777216) (h : ∀ t s', St h₀ L s₁ vs news s' → Q (.bytes (b ++ c) t) s') : wpAny (model prog w) A (binaryOp .Add (.bytes b t) (.bytes c u)) Q E s :=
  KBy.add_bytes hz fun t' k => h t' _ (S.tok k)
theorem c_len {b : Array UInt8} {t : Tok} {Q : Value → Shared → Prop} (S : St h₀ L s₁ vs news s) (hz : b.size ≤ 16777216) (h : ∀ t s', St h₀ L s₁ vs news s' → Q (.int (b.size : Nat) t) s') : wpAny (model prog w) A (call (.builtin "len") [.bytes b t]) Q E s :=
  len_bytes (Nat.le_trans hz (by decide)) (h _ _ (S.tok _))
theorem t_byt {b : Array UInt8} {t : Tok} {Q : Bool → Shared → Prop} (S : St h₀ L s₁ vs news s) (hz : b.size ≤ 16777216) (h : ∀ s', St h₀ L s₁ vs news s' → Q ((b.size : Int) != 0) s') : wpAny (model prog w) A (truthy (.bytes b t)) Q E s :=
  truthy_bytes (Nat.le_trans hz (by decide)) (h _ (S.tok _))
end
end Mine

end

section
open PySem PySem.W PyProof.Rows PySem.Calls
set_option maxRecDepth 100000
namespace Mine
namespace FP
theorem slot : Slot "bytes" "partition" "bytes.partition" :=
  .of (owner := "bytes") (n := "partition") (by rw [typeLookup_type, builtinLookup_eq_fast]; kernel_rfl) (by decide +kernel) (by decide +kernel) (by decide +kernel)
    (by first | exact .inl (by decide +kernel) | exact .inr (by decide +kernel)) (by rw [isSubtype_type]; kernel_rfl)
theorem ty : typeOf (.builtin "bytes.partition") = pure (.type "method_descriptor") := by show builtinType _ = _; rw [builtinType_eq_fast]; kernel_rfl
theorem entry : entryFor table "bytes.partition" = some Builtin.«bytes.partition» := entryFor_of_tree (by kernel_rfl)
theorem args (a b : Value) : argsOk "bytes.partition" ⟨[a, b], []⟩ := by
  unfold argsOk; rw [signature?_of (id := "bytes.partition") (n := ['n', 'o', 'i', 't', 'i', 't', 'r', 'a', 'p']) (o := ['s', 'e', 't', 'y', 'b']) (by kernel_rfl) FB.owner_bytes]; kernel_rfl
end FP
open Builtin

theorem extract_one (l : List UInt8) (i : Nat) (c : UInt8) : (l.toArray.extract i (i + 1) == #[c]) = (l[i]? == some c) := by
  rw [List.extract_toArray]
  have e : List.extract l i (i + 1) = l[i]?.toList := by
    rw [List.extract_eq_take_drop]
    have : i + 1 - i = 1 := by omega
    rw [this]
    cases h : l[i]? with
    | none => rw [List.getElem?_eq_none_iff] at h; rw [List.drop_of_length_le h]; rfl
    | some x =>
      obtain ⟨hi, rfl⟩ := List.getElem?_eq_some_iff.mp h
      rw [List.drop_eq_getElem_cons hi]; rfl
  rw [e]
  cases h : l[i]? with
  | none => rfl
  | some x => simp

/-- the first place of an octet: the list's own findIdx, none where it is the length -/
theorem find_one (l : List UInt8) (c : UInt8) : Bytes.find? l.toArray #[c] 0 l.toArray.size = if l.findIdx (· == c) < l.length then some (l.findIdx (· == c)) else none := by
  unfold Bytes.find?
  have hr : l.toArray.size + 1 - (0 + (#[c] : Array UInt8).size) = l.length := by simp
  rw [hr]
  simp only [Nat.add_zero, List.map_id']
  have hp : (fun i => l.toArray.extract i (i + (#[c] : Array UInt8).size) == #[c]) = fun i => l[i]? == some c := by
    funext i; exact extract_one l i c
  rw [hp]
  by_cases hlt : l.findIdx (· == c) < l.length
  · rw [if_pos hlt]
    rw [List.find?_range_eq_some]
    refine ⟨?_, ?_, ?_⟩
    · rw [List.getElem?_eq_getElem hlt]
      have := List.findIdx_getElem (w := hlt)
      simpa using this
    · simpa using hlt
    · intro j hj
      have h2 := List.not_of_lt_findIdx hj
      rw [List.getElem?_eq_getElem (by omega)]
      simpa using h2
  · rw [if_neg hlt]
    rw [List.find?_range_eq_none]
    intro i hi
    rw [List.getElem?_eq_getElem hi]
    have hlen : l.findIdx (· == c) = l.length := by have := List.findIdx_le_length (p := (· == c)) (xs := l); omega
    have := List.findIdx_eq_length.mp hlen l[i] (List.getElem_mem _)
    simpa using this

def tupObj (vs : List Value) : Obj := { cls := .type "tuple", data := .seq vs.toArray }
theorem selfOne {id : String} {a b : Value} : selfAndOne id ⟨[a, b], []⟩ = pure (a, b) := rfl
theorem ext_take (l : List UInt8) (i : Nat) : l.toArray.extract 0 i = (l.take i).toArray := by
  rw [List.extract_toArray, List.extract_eq_take_drop]; simp
theorem ext_drop (l : List UInt8) (i : Nat) : l.toArray.extract i l.toArray.size = (l.drop i).toArray := by
  rw [List.extract_toArray, List.extract_eq_take_drop]
  congr 1
  rw [List.take_of_length_le]
  simp
theorem partition_meets (l : List UInt8) (c : UInt8) (t u : Tok) :
    Meets («bytes.partition» ⟨[.bytes l.toArray t, .bytes #[c] u], []⟩) (fun _ R s => l.length ≤ 16777216 ∧
      if l.findIdx (· == c) < l.length then ∀ t1 t2 k, R (.ok (.ret (.ref s.heap.objs.size))) { s with heap := s.heap.push (tupObj [.bytes (l.take (l.findIdx (· == c))).toArray t1, .bytes #[c] u, .bytes (l.drop (l.findIdx (· == c) + 1)).toArray t2]), toks := k }
      else ∀ t1 k, R (.ok (.ret (.ref s.heap.objs.size))) { s with heap := s.heap.push (tupObj [.bytes l.toArray t, .bytes #[] t1, .bytes #[] t1]), toks := k }) := by
  refine .of_wp fun prog w A R s hS => ?_
  obtain ⟨hz, h⟩ := hS
  show wpAny _ _ (selfAndOne _ ⟨[.bytes l.toArray t, .bytes #[c] u], []⟩ >>= fun r => _) _ _ s
  refine wpAny_bind (wpAny_of_eq selfOne ?_)
  show wpAny _ _ (Bytes.buffer? _ (.bytes #[c] u) >>= fun r => _) _ _ s
  refine wpAny_bind (wpAny_of_eq KBy.buffer_eq ?_)
  refine bm_if_false rfl ?_
  show wpAny _ _ (Bytes.payload (.bytes l.toArray t) >>= fun r => _) _ _ s
  refine wpAny_bind (wpAny_of_eq (a := l.toArray) rfl ?_)
  show wpAny _ _ (match (if false = true then _ else Bytes.find? l.toArray #[c] 0 l.toArray.size) with | some i => _ | none => _) _ _ s
  rw [if_neg Bool.false_ne_true, find_one]
  by_cases hlt : l.findIdx (· == c) < l.length
  · rw [if_pos hlt] at h ⊢
    dsimp only
    have h1 : (l.take (l.findIdx (· == c))).toArray.size ≤ sizeLine := by rw [sizeLine_eq]; simp; omega
    have h2 : (l.drop (l.findIdx (· == c) + 1)).toArray.size ≤ sizeLine := by rw [sizeLine_eq]; simp; omega
    have e1 := ext_take l (l.findIdx (· == c))
    have e2 := ext_drop l (l.findIdx (· == c) + (#[c] : Array UInt8).size)
    refine bm_if_true rfl ?_
    rw [e1, e2]
    refine wpAny_bind (wpAny_pure ?_)
    refine wpAny_bind (wpAny_mkBytes ?_ h1)
    refine wpAny_bind (wpAny_mkBytes ?_ h2)
    refine wpAny_bind (wpAny_newObj_type ?_ (by show (_ : Nat) ≤ _; rw [sizeLine_eq]; simp))
    exact wpAny_pure ⟨_, rfl, h _ _ _⟩
  · rw [if_neg hlt] at h ⊢
    dsimp only
    refine wpAny_bind (wpAny_rule ?_)
    refine bm_if_true rfl ?_
    refine wpAny_bind (wpAny_pure ?_)
    refine wpAny_bind (wpAny_mkBytes (b := #[]) ?_ (by decide))
    refine bm_if_true rfl ?_
    refine wpAny_bind (wpAny_pure ?_)
    refine wpAny_bind (wpAny_newObj_type ?_ (by show (_ : Nat) ≤ _; rw [sizeLine_eq]; simp))
    exact wpAny_pure ⟨_, rfl, h _ _⟩

theorem starts_meets (l : List UInt8) (c : UInt8) (t u : Tok) :
    Meets («bytes.startswith» ⟨[.bytes l.toArray t, .bytes #[c] u], []⟩) (fun _ R s => R (.ok (.ret (.bool (l[0]? == some c)))) s) := by
  refine .of_wp fun prog w A R s h => ?_
  show wpAny _ _ (selfAndSome _ _ 1 3 ⟨[.bytes l.toArray t, .bytes #[c] u], []⟩ >>= fun r => _) _ _ s
  refine wpAny_bind (wpAny_of_eq (a := (Value.bytes l.toArray t, [Value.bytes #[c] u])) rfl ?_)
  refine wpAny_bind (wpAny_of_eq (a := none) rfl ?_)
  refine wpAny_bind (wpAny_of_eq (a := none) rfl ?_)
  show wpAny _ _ (Bytes.payload (.bytes l.toArray t) >>= fun r => _) _ _ s
  refine wpAny_bind (wpAny_of_eq (a := l.toArray) rfl ?_)
  show wpAny _ _ (isInstance (.bytes #[c] u) (.type "tuple") >>= fun r => _) _ _ s
  refine wpAny_bind (wpAny_isInstance (T := "bytes") (b := false) (typeIs_bytes s _ u) (by rw [isSubtype_type]; kernel_rfl) ?_)
  refine bm_if_false rfl ?_
  show wpAny _ _ (Bytes.buffer? _ (.bytes #[c] u) >>= fun r => _) _ _ s
  refine wpAny_bind (wpAny_of_eq KBy.buffer_eq ?_)
  refine wpAny_pure ⟨_, rfl, ?_⟩
  have key : ∀ b : Bool, b = (l[0]? == some c) → R (.ok (.ret (.bool b))) s := fun b hb => by rw [hb]; exact h
  refine key _ ?_
  show (if ((min ((l.toArray.size : Nat) : Int) (if ((l.toArray.size : Nat) : Int) < 0 then _ else ((l.toArray.size : Nat) : Int))) - (if (0 : Int) < 0 then _ else 0) < (((#[c] : Array UInt8).size : Nat) : Int)) then false else _) = _
  cases l with
  | nil => rfl
  | cons x r =>
    rw [if_neg (by simp; omega)]
    show ((x :: r).toArray.extract 0 (0 + 1) == #[c]) = _
    rw [extract_one]

section
variable {prog : Program} {w : World} {M : Model} {A : Around} {E : Value → Shared → Prop} {s : Shared} {h₀ : Heap} {L : Addr} {s₁ : Shared} {vs : List (Str × Value)} {news : List (Addr × Obj)}
theorem m_part {b : Array UInt8} {t : Tok} {pl : Sem Bool} {Q : Value × List Value → Shared → Prop} (h : Q (.builtin "bytes.partition", [.bytes b t]) s) : wpAny M A (getMethod (.bytes b t) "partition" pl) Q E s := by
  with_reducible exact KBd.method_of (.bytes b t) (typeIs_bytes _ _ _) FP.slot FP.ty KBd.noRef h
theorem m_starts {b : Array UInt8} {t : Tok} {pl : Sem Bool} {Q : Value × List Value → Shared → Prop} (h : Q (.builtin "bytes.startswith", [.bytes b t]) s) : wpAny M A (getMethod (.bytes b t) "startswith" pl) Q E s := by
  with_reducible exact KBd.method_of (.bytes b t) (typeIs_bytes _ _ _) FB.slot_bytes_startswith FB.type_bytes_startswith KBd.noRef h
theorem c_part {l : List UInt8} {c : UInt8} {t u : Tok} {Q : Value → Shared → Prop} (S : St h₀ L s₁ vs news s) (hz : l.length ≤ 16777216)
    (h1 : l.findIdx (· == c) < l.length → ∀ T t1 t2 s', St h₀ L s₁ vs ((T, tupObj [.bytes (l.take (l.findIdx (· == c))).toArray t1, .bytes #[c] u, .bytes (l.drop (l.findIdx (· == c) + 1)).toArray t2]) :: news) s' → Q (.ref T) s')
    (h2 : ¬ l.findIdx (· == c) < l.length → ∀ T t1 s', St h₀ L s₁ vs ((T, tupObj [.bytes l.toArray t, .bytes #[] t1, .bytes #[] t1]) :: news) s' → Q (.ref T) s') :
    wpAny (model prog w) A (call (.builtin "bytes.partition") [.bytes l.toArray t, .bytes #[c] u]) Q E s := by
  refine call_meets FP.slot (typeIs_bytes _ _ _) FP.entry (FP.args _ _) (partition_meets l c t u) ⟨hz, ?_⟩
  by_cases hlt : l.findIdx (· == c) < l.length
  · rw [if_pos hlt]
    exact fun t1 t2 k => h1 hlt _ t1 t2 _ ((S.push (tupObj _)).tok k)
  · rw [if_neg hlt]
    exact fun t1 k => h2 hlt _ t1 _ ((S.push (tupObj _)).tok k)
theorem c_starts {l : List UInt8} {c : UInt8} {t u : Tok} {Q : Value → Shared → Prop} (h : Q (.bool (l[0]? == some c)) s) :
    wpAny (model prog w) A (call (.builtin "bytes.startswith") [.bytes l.toArray t, .bytes #[c] u]) Q E s :=
  call_meets FB.slot_bytes_startswith (typeIs_bytes _ _ _) FB.entry_bytes_startswith (FB.args_bytes_startswith_2 _ _) (starts_meets l c t u) h
end

namespace FI
theorem no_iadd : typeLookup (.type "bytes") (dunderI "add") = pure none := by rw [typeLookup_type, builtinLookup_eq_fast]; kernel_rfl
end FI
section
variable {prog : Program} {w : World} {M : Model} {A : Around} {E : Value → Shared → Prop} {s : Shared} {h₀ : Heap} {L : Addr} {s₁ : Shared} {vs : List (Str × Value)} {news : List (Addr × Obj)} {env : Env}
theorem o_icat {b c : List UInt8} {t u : Tok} {Q : Value → Shared → Prop} (S : St h₀ L s₁ vs news s) (hz : b.length + c.length ≤ 16777216) (h : ∀ t s', St h₀ L s₁ vs news s' → Q (.bytes (b ++ c).toArray t) s') :
    wpAny (model prog w) A (inplaceOp .Add (.bytes b.toArray t) (.bytes c.toArray u)) Q E s := by
  refine wpAny_inplaceOp_concat (typeIs_bytes s _ t) (typeIs_bytes s _ u) FI.no_iadd KBy.noFill_bytes_add KBy.seq_bytes_add
    (call_gives FB.slot_bytes_add (typeIs_bytes s _ t) FB.entry_bytes_add (FB.args_bytes_add_2 _ _) (KBy.gives_bytes_add (KBy.tooLong_not (by simpa using hz))) ?_)
  by_cases hb : b.toArray.isEmpty = true
  · rw [if_pos hb]
    have e : b = [] := by simpa using hb
    subst e
    exact h u _ S
  · rw [if_neg hb]
    by_cases hc : c.toArray.isEmpty = true
    · rw [if_pos hc]
      have e : c = [] := by simpa using hc
      subst e
      have := h t _ S
      rw [List.append_nil] at this
      exact this
    · rw [if_neg hc]
      refine ⟨by rw [sizeLine_eq]; simpa using hz, ?_⟩
      rw [List.append_toArray]
      exact h _ _ (S.tok _)
theorem St.tup (S : St h₀ L s₁ vs news s) {T : Addr} {xs : List Value} (hm : (T, tupObj xs) ∈ news) : IsTup s.heap T xs.toArray := ⟨_, (S.nw _ hm).1, rfl, 0, rfl⟩
theorem St.ext (S : St h₀ L s₁ vs news s) {h' : Heap} (he : Heap.ExtBut s.heap.objs.size s.heap h') : St h₀ L s₁ vs news { s with heap := h' } := by
  obtain ⟨m, F, hm⟩ := S.fr
  exact ⟨S.gens, S.drawn, S.os, ⟨m, F.extBut he (Nat.le_refl _), hm⟩, S.nw.extBut he (Nat.le_refl _)⟩
theorem e_unp {elts : List Expr} {k : Nat} {pos : Pos} {T : Addr} {xs : List Value} {Q : Unit → Shared → Prop} (S : St h₀ L s₁ vs news s) (hm : (T, tupObj xs) ∈ news) (hh : A.handled = none)
    (h : ∀ s', St h₀ L s₁ vs news s' → wpAny (model prog w) A (assignInOrder ((assignEach elts env).map (·.2)) xs) Q E s')
    (hn : (assignEach elts env).length = xs.length := by rfl) (hstar : (assignEach elts env).findIdx? (·.1) = none := by rfl) :
    wpAny (model prog w) A (assign (.Tuple elts k pos) env (.ref T)) Q E s :=
  assign_Tuple_tuple hh (S.tup hm) (by rw [hn]; simp) hstar fun h' he => h _ (S.ext he)
end
end Mine

end

section
open PySem PySem.W PyProof.Rows PySem.Calls
set_option maxRecDepth 100000
namespace Mine

section
variable {prog : Program} {w : World} {M : Model} {A₀ A : Around} {E : Value → Shared → Prop} {s : Shared} {base h₀ : Heap} {L : Addr} {s₁ : Shared} {vs : List (Str × Value)} {news : List (Addr × Obj)}
  {mg mb : Str → Option Value} {env : Env} {outer : List Env} {pos : Pos} {f : Addr} {fo : Obj}

theorem St.old (S : St h₀ L s₁ vs news s) {b : Addr} {o : Obj} (h : h₀.get? b = some o) : s.heap.get? b = some o := by
  obtain ⟨m, F, _⟩ := S.fr
  exact F.keep b o h

/-- f(..), f a def of the text: the arguments, then the call -/
theorem k_fn {e : Expr} {rest : List Expr} {first : List Value} {fd : FuncData} {Q : Value → Shared → Prop} (hd : fo.data = .func fd)
    (h : wpAny M A (spliced (backTo pos (starEach (e :: rest) env))) (fun xs s' => s'.heap.get? f = some fo ∧ wpAny M A (call (.ref f) (first ++ xs)) Q E s') E s)
    (he : starEach (e :: rest) env = (false, eval e env) :: starEach rest env := by rfl) (hplain : (backTo pos (starEach rest env)).any (·.1) = false := by rfl) :
    wpAny M A (callWith pos (.ref f) first (backTo pos (starEach (e :: rest) env)) []) Q E s := by
  rw [he] at h ⊢
  refine callWith_of (P := fun h => h.get? f = some fo) (by show ((false || (backTo pos (starEach rest env)).any (·.1)) || false) = false; rw [hplain]; rfl) (fun h' ho => ?_) (evalArgs_plain h)
  refine ⟨.frame, .inl rfl, (Looks.ld (part := none) ho).andThen ?_⟩
  rw [hd]
  exact .now

/-- the call of a def of the text, its frame without cells -/
theorem c_fn {name qual : Str} {params : Arguments} {body : List Stmt} {scope : Scope} {cl : List (Str × Addr)} {dV kV doc pm cdv ct : Value} {an : Option Addr} {args : List Value} {binds : List (Str × Value)} {Q : Value → Shared → Prop}
    (B : Below A₀ base outer h₀) (S : St h₀ L s₁ vs news s) (G : Glo mg mb h₀) (hA : A.frames = some (env :: outer)) (hf : env.frame = some L) (hke : env.scope.kind = .function)
    (ho : h₀.get? f = some fo) (hd : fo.data = .func (fnX name qual params body scope cl dV kV doc pm an cdv ct)) (hcd : h₀.CodeRec cdv qual) (hroom : A.depth < recursionLimit)
    (hbind : bindArgs (fnX name qual params body scope cl dV kV doc pm an cdv ct) ⟨args, []⟩ = pure binds) (hloc : ∀ y ∈ binds, scope.names.lookup y.1 = some .local)
    (hlk : ∀ p ∈ binds, binds.reverse.lookup p.1 = some p.2)
    (h : ∀ g L' s', St g L' s₁ binds news s' → Below A base (env :: outer) g → Glo mg mb g → h₀.StaysIn g → (∀ p ∈ news, p.1 < L') →
      wpAny (model prog w) (A.deeper (envX qual scope L' f cdv cl)) (execs body (envX qual scope L' f cdv cl))
        (fun fl s'' => ∃ news', St g L' s₁ [] news' s'' ∧ (St h₀ L s₁ vs news' s'' → Q (match fl with | .ret v => v | _ => .none) s''))
        (fun e s'' => ∃ a news' hh cls xs, e = .ref a ∧ St g L' s₁ [] news' { s'' with heap := hh } ∧ Heap.MadeExcOf hh s''.heap a cls xs ∧
          ∀ h' t m, RaisedK base (env :: outer) a cls t xs news' h' → Fr h₀ L g m → (∀ p ∈ vs, m p.1 = some p.2) → g.UpToSlots h' → E (.ref a) { s'' with heap := h' }) s')
    (hcell : ∀ x ∈ scope.names, x.2 ≠ .cell) (hco : scope.isCoroutine = false := by rfl) (hgen : scope.isGenerator = false := by rfl) (hk : scope.kind = .function := by rfl)
    (hcl : cl = [] := by rfl) :
    wpAny (model prog w) A (call (.ref f) args) Q E s := by
  subst hcl
  obtain ⟨m, F, hm⟩ := S.fr
  refine wpAny_call (callX_plain B F S.nw G.nolimit hA hf hke (F.keep _ _ ho) hd (hcd.keeps F.keep) hroom (BindsTo.of_eq hbind) hloc (fun g L' h₁ Fg F' N' B' st hl => ?_) hcell hco hgen hk)
  have S' : St g L' s₁ binds news { heap := h₁, gens := s.gens, drawn := s.drawn, toks := s.toks + binds.length, os := s.os } := ⟨S.gens, S.drawn, S.os, ⟨_, F', hlk⟩, N'⟩
  refine wpAny_mono (h g L' _ S' B' (G.keeps st) st hl) (fun fl s'' hq => ?_) (fun e s'' he => ?_)
  · obtain ⟨news', S'', hq⟩ := hq
    obtain ⟨m', F'', _⟩ := S''.fr
    refine leaveK_ F'' S''.nw fun F3 N3 => ?_
    exact hq ⟨S''.gens, S''.drawn, S''.os, ⟨m, F3, hm⟩, N3⟩
  · obtain ⟨a, news', hh, cls, xs, rfl, S'', hx, he⟩ := he
    obtain ⟨m', F'', _⟩ := S''.fr
    refine leave_raiseK B' hx F'' S''.nw (fun h' t R' U' => ?_) hk
    exact he h' t m R' Fg hm U'
end
end Mine

end

section
open PySem PySem.W PyProof.Rows PySem.Calls
set_option maxRecDepth 100000
namespace Mine
def del (n : Str) (vs : List (Str × Value)) : List (Str × Value) := vs.filter fun p => !(p.1 == n)
theorem mem_del {n y : Str} {u : Value} {vs : List (Str × Value)} (h : (y == n) = false) (hm : (y, u) ∈ vs) : (y, u) ∈ del n vs := List.mem_filter.mpr ⟨hm, by simp [h]⟩

theorem eq_byt (A : Around) (s : Shared) (b c : List UInt8) (t u : Tok) : SeqAt.EqAt A s (.bytes b.toArray t) (.bytes c.toArray u) (b == c) := fun prog w E Q h => by
  unfold eqBool
  show wpAny _ _ (if (Value.bytes b.toArray t == Value.bytes c.toArray u) = true then _ else _) Q E s
  by_cases hab : (Value.bytes b.toArray t == Value.bytes c.toArray u) = true
  · rw [if_pos hab]
    have e : b.toArray = c.toArray := by have := eq_of_beq hab; injection this
    have e' : b = c := by simpa using congrArg Array.toList e
    subst e'
    exact wpAny_bind (wpAny_rule (wpAny_pure (by simpa using h)))
  · rw [if_neg hab]
    exact wpAny_bind (eq_bytes (wpAny_truthy_bool h))

section
variable {prog : Program} {w : World} {M : Model} {A₀ A : Around} {E : Value → Shared → Prop} {s : Shared} {h₀ : Heap} {L : Addr} {s₁ : Shared} {vs : List (Str × Value)} {news : List (Addr × Obj)}
  {name : Str} {scope : Scope} {a : Addr} {cd : Value} {n : Str} {pos np : Pos} {outer : List Env} {p : Program} {loose : List Str} {mg mb : Str → Option Value} {x : Str} {X T' : String}
  {b₀ : Stmt} {suite : List Stmt} {rest : List ExceptHandler}
theorem e_gone {Q : Unit → Shared → Prop} (S : St h₀ L s₁ vs news s) (h : ∀ s', St h₀ L s₁ (del n vs) news s' → Q () s')
    (hk : scope.kind = .function := by rfl) (hl : (envOf name scope L a cd).kindOf n = some .local := by rfl) :
    wpAny M A (do bindName (envOf name scope L a cd) n .none; unbindBehindTheSuite (envOf name scope L a cd) n pos) Q E s := by
  obtain ⟨m, F, hm⟩ := S.fr
  refine wpAny_nameGoes_keeps hl F.ns (by show (scope.kind == .class || (scope.kind == .module && L != mainGlobals)) = false; rw [hk]; rfl) fun h' v hn hs => h _ (S.of (F.set hn hs) (fun q hq => ?_) (S.nw.set hs))
  obtain ⟨h1, h2⟩ := List.mem_filter.mp hq
  have h3 : q.1 ≠ n := fun e => by rw [e] at h2; simp at h2
  simp only [h3, if_false]
  exact hm q h1

/-- the exception at hand: its object and the tuple of its arguments, both of the ledger -/
structure ExcIs (X : String) (e t : Addr) (xs : List Value) (oe ot : Obj) : Prop where
  cls : oe.cls = .type X
  data : ∃ ws, oe.data = .fields ws ∧ ws[0]? = some (.ref t)
  tcls : ot.cls = .type "tuple"
  tdata : ∃ k, ot.data = .seq xs.toArray k

theorem x_caught {e t : Addr} {xs : List Value} {g : Heap} {m : Str → Option Value} {Q : Flow → Shared → Prop} (K : Below A₀ h₀ outer h₀) (F : Fr h₀ L g m) (hm : ∀ q ∈ vs, m q.1 = some q.2) (U : g.UpToSlots s.heap)
    (R : RaisedK h₀ (envOf name scope L a cd :: outer) e (.type X) t xs news s.heap) (hs : s.gens = s₁.gens ∧ s.drawn = s₁.drawn ∧ s.os = s₁.os)
    (T : TopRead p loose mg mb h₀) (hv : bootBuiltins x = some (.type T'))
    (hexc : isSubtype (.type T') (.type "BaseException") = pure true) (hnt : isSubtype (.type ((Manifest.find? T').elim "type" fun y => y.metatype)) (.type "tuple") = pure false) (hsub : isSubtype (.type X) (.type T') = pure true)
    (h1 : x ∉ startupNames) (h2 : x ∉ loose) (h3 : x ∉ (recsOf p).map (·.name)) (h4 : x ∉ (litsOf p).map (·.1)) (h4c : x ∉ (clssOf p loose).map (·.name)) (hn : x ≠ "__name__")
    (k : ∀ s' oe ot, St h₀ L s₁ (upd n (.ref e) vs) ((e, oe) :: (t, ot) :: news) s' → ExcIs X e t xs oe ot →
      wpAny (model prog w) ((A₀.deeper (envOf name scope L a cd)).mark (some (.ref e))) (execs (b₀ :: suite) (envOf name scope L a cd))
        (fun f s₄ => wpAny (model prog w) (A₀.deeper (envOf name scope L a cd)) (do bindName (envOf name scope L a cd) n .none; unbindBehindTheSuite (envOf name scope L a cd) n pos) (fun _ s₅ => Q f s₅) E s₄)
        (AsSuiteRaised (model prog w) ((A₀.deeper (envOf name scope L a cd)).mark (some (.ref e))) (envOf name scope L a cd) n pos (notedBy (model prog w) ((A₀.deeper (envOf name scope L a cd)).mark (some (.ref e))) (envOf name scope L a cd) (cameBackBy (model prog w) (A₀.deeper (envOf name scope L a cd)) (envOf name scope L a cd) E)))
        s')
    (hk : scope.kind = .function := by rfl) (hlo : (envOf name scope L a cd).kindOf n = some .local := by rfl) (hx : (envOf name scope L a cd).kindOf x = some .globalImplicit := by rfl) (hd : (x == ("__debug__" : Str)) = false := by decide) :
    wpAny (model prog w) (A₀.deeper (envOf name scope L a cd)) (noteFrame (.ref e) (envOf name scope L a cd))
      (fun _ s₂ => wpAny (model prog w) (A₀.deeper (envOf name scope L a cd)) (setFlight (.ref e) none) (fun _ s₃ =>
        wpAny (model prog w) (A₀.deeper (envOf name scope L a cd)) (handleBy (.ref e) (envOf name scope L a cd) (.ExceptHandler (some (.Name x np)) (some n) (b₀ :: suite) pos :: rest)) Q E s₃) E s₂) E s := by
  refine caught_KB K F U R T hv hexc hnt hsub (fun h' n₂ tk F' N₂ G' N' => ?_) h1 h2 h3 h4 h4c hn hk hlo hx hd
  obtain ⟨oe, ot, ws, nt, m1, m2, c1, d1, w0, c2, d2⟩ := G'
  refine k _ oe ot ⟨hs.1, hs.2.1, hs.2.2, ⟨_, F', fun q hq => ?_⟩, ?_⟩ ⟨c1, ⟨ws, d1, w0⟩, c2, nt, d2⟩
  · rcases mem_of_upd hq with rfl | ⟨q1, q2⟩
    · simp
    · simp only [q2, if_false]
      exact hm q q1
  · intro q hq
    rcases List.mem_cons.mp hq with rfl | hq
    · exact N₂ _ m1
    · rcases List.mem_cons.mp hq with rfl | hq
      · exact N₂ _ m2
      · exact N' q hq

theorem a_args {e t : Addr} {oe ot : Obj} {xs : List Value} {expr : Bool} {Q : Value → Shared → Prop} (FX : ExcAttrFacts X) (S : St h₀ L s₁ vs news s) (he : (e, oe) ∈ news) (x : ExcIs X e t xs oe ot) (h : ∀ s', St h₀ L s₁ vs news s' → Q (.ref t) s') :
    wpAny (model prog w) A (getAttr (.ref e) "args" expr) Q E s := by
  obtain ⟨ws, hd, h0⟩ := x.data
  obtain ⟨hp, g, d, tk, o⟩ := s
  exact args_attr FX (S.nw _ he).1 x.cls hd h0 (h _ (S.tok _))
theorem t_type {e : Addr} {oe : Obj} {C : Value} {Q : Value → Shared → Prop} (S : St h₀ L s₁ vs news s) (he : (e, oe) ∈ news) (hc : oe.cls = C) (hne : (C == .type "builtin_function_or_method") = false) (h : Q C s) :
    wpAny (model prog w) A (call (.type "type") [.ref e]) Q E s := by
  obtain ⟨hp, g, d, tk, o⟩ := s
  exact call_type_obj (S.nw _ he).1 (by rw [hc]; exact hne) (by rw [hc]; exact h)
theorem t_typeB {b : Array UInt8} {t : Tok} {Q : Value → Shared → Prop} (h : Q (.type "bytes") s) : wpAny (model prog w) A (call (.type "type") [.bytes b t]) Q E s := by
  obtain ⟨hp, g, d, tk, o⟩ := s
  refine wpAny_call (codeAny_of_tree ?_)
  show wpAny _ _ (callAny (.type "type") ⟨[.bytes b t], []⟩) _ _ _
  simp only [callAny]
  refine wpAny_pure ⟨Code.quiet_builtin _ (by decide +kernel), codeAny_builtin entry_type_call ?_⟩
  unfold Builtin.«type.__call__»
  dsimp only
  unfold shownTypeOf
  repeat wp_step
  exact h
theorem St.tupE (S : St h₀ L s₁ vs news s) {t e : Addr} {xs : List Value} {oe ot : Obj} (hm : (t, ot) ∈ news) (x : ExcIs X e t xs oe ot) : IsTup s.heap t xs.toArray := by
  obtain ⟨k, hk⟩ := x.tdata
  exact ⟨ot, (S.nw _ hm).1, x.tcls, k, hk⟩
/-- two tuples of one octet string each: != -/
theorem o_ne1 {l m : Addr} {b c : List UInt8} {t u : Tok} {Q : Value → Shared → Prop} (hu : A.units < cLine) (hl : IsTup s.heap l [Value.bytes b.toArray t].toArray) (hm : IsTup s.heap m [Value.bytes c.toArray u].toArray)
    (h : Q (.bool (!(b == c))) s) : wpAny (model prog w) A (compareOp .NotEq (.ref l) (.ref m)) Q E s := by
  refine SeqAt.RcNeAt.tuples (e := fun _ => b == c) hl hm hu (fun j h1 h2 => ?_) prog w E Q ?_
  · have : j = 0 := by simpa using h1
    subst this
    exact eq_byt _ _ b c t u
  · simpa [List.range_succ] using h
end
end Mine

end

section
open PySem PySem.W PyProof.Rows PySem.Calls
set_option maxRecDepth 100000
namespace Mine
section
variable {prog : Program} {w : World} {M : Model} {A : Around} {E : Value → Shared → Prop} {s : Shared} {h₀ : Heap} {L : Addr} {s₁ : Shared} {vs : List (Str × Value)} {news : List (Addr × Obj)} {env : Env} {pos : Pos}
theorem e_bool {b : Bool} {k : Nat} {Q : Value → Shared → Prop} (h : Q (.bool b) s) : wpAny M A (eval (.Constant (.bool b) k pos) env) Q E s := fun _ _ _ => h
theorem clip_nn {n : Nat} {i : Int} (h : 0 ≤ i) : clipAt n i = min i.toNat n := by
  obtain ⟨k, rfl⟩ := Int.eq_ofNat_of_zero_le h
  rw [clipAt_nat]; simp
theorem pick_hi (l : List UInt8) {i : Int} (h : 0 ≤ i) : KBy.picked l.toArray none (some i) = (l.take i.toNat).toArray := by
  rw [KBc.picked_eq]
  simp only [Option.elim, List.drop_zero, Nat.sub_zero, clip_nn h]
  congr 1
  simp only [List.size_toArray]
  rcases Nat.le_total i.toNat l.length with h1 | h1
  · rw [Nat.min_eq_left h1]
  · rw [Nat.min_eq_right h1, List.take_of_length_le h1, List.take_of_length_le (Nat.le_refl _)]
theorem pick_lo (l : List UInt8) {i : Int} (h : 0 ≤ i) : KBy.picked l.toArray (some i) none = (l.drop i.toNat).toArray := by
  rw [KBc.picked_eq]
  simp only [Option.elim, clip_nn h]
  congr 1
  simp only [List.size_toArray]
  rcases Nat.le_total i.toNat l.length with h1 | h1
  · rw [Nat.min_eq_left h1, List.take_of_length_le (by simp)]
  · rw [Nat.min_eq_right h1, List.drop_of_length_le h1, List.drop_of_length_le (Nat.le_refl _)]; simp
theorem pick_both (l : List UInt8) {i j : Int} (h : 0 ≤ i) (h' : 0 ≤ j) : KBy.picked l.toArray (some i) (some j) = ((l.drop i.toNat).take (j.toNat - i.toNat)).toArray := by
  rw [KBc.picked_eq]
  simp only [Option.elim, clip_nn h, clip_nn h']
  congr 1
  simp only [List.size_toArray]
  rcases Nat.le_total i.toNat l.length with h1 | h1
  · rw [Nat.min_eq_left h1]
    rcases Nat.le_total j.toNat l.length with h2 | h2
    · rw [Nat.min_eq_left h2]
    · rw [Nat.min_eq_right h2, List.take_of_length_le (by simp), List.take_of_length_le (by simp; omega)]
  · rw [Nat.min_eq_right h1, List.drop_of_length_le h1, List.drop_of_length_le (Nat.le_refl _)]; simp
theorem s_cut {value slice : Expr} {l : List UInt8} {t : Tok} {lv uv : Value} {lo hi : Option Int} {Q : Value → Shared → Prop} (S : St h₀ L s₁ vs news s) (hl : IsPart lv lo) (hu : IsPart uv hi) (hz : l.length ≤ 16777216)
    (h : ∀ t s', St h₀ L s₁ vs news s' → Q (.bytes (KBy.picked l.toArray lo hi) t) s')
    (hs : subscripted slice false (.bytes l.toArray t) (.ref s.heap.objs.size) = operate [.ref s.heap.objs.size, .bytes l.toArray t] (getItem (.bytes l.toArray t) (.ref s.heap.objs.size)) := by with_unfolding_all rfl)
    (ht : ∀ r, letTemporaryGo value (.bytes l.toArray t) r = pure () := by intro _; with_unfolding_all rfl) :
    wpAny (model prog w) A (subscriptTail value slice (.bytes l.toArray t) (.ref s.heap.objs.size)) Q E { s with heap := s.heap.push { cls := .type "slice", data := .fields #[lv, uv, .none] } } := by
  obtain ⟨m, F, hm⟩ := S.fr
  refine KBc.slice_K (ks := KBw.bInts l.toArray) F S.nw rfl hl hu (by rw [KBw.ints_length]; simpa using hz) (fun h' t' k F' N' _ => h t' _ (S.of F' hm N')) hs ht
theorem s_item {value slice : Expr} {l : List UInt8} {t ui : Tok} {i : Int} {Q : Value → Shared → Prop} (S : St h₀ L s₁ vs news s) (hz : l.length ≤ 16777216) (h0 : 0 ≤ i) (h1 : i < (l.length : Int)) (h : ∀ t s', St h₀ L s₁ vs news s' → Q (.int (l.getD i.toNat 0).toNat t) s')
    (hs : subscripted slice false (.bytes l.toArray t) (.int i ui) = operate [.bytes l.toArray t, .int i ui] (getItem (.bytes l.toArray t) (.int i ui)) := by with_unfolding_all rfl)
    (ht : ∀ r, letTemporaryGo value (.bytes l.toArray t) r = pure () := by intro _; with_unfolding_all rfl) :
    wpAny (model prog w) A (subscriptTail value slice (.bytes l.toArray t) (.int i ui)) Q E s :=
  KBy.item_N (Nat.le_trans hz (by decide)) h0 h1 (h _ _ (S.tok _)) hs ht
theorem e_tup {vals : List Value} {Q : Value → Shared → Prop} (S : St h₀ L s₁ vs news s) (hz : vals.length ≤ 1000) (h : ∀ T s', St h₀ L s₁ vs ((T, tupObj vals) :: news) s' → (∀ p ∈ news, p.1 < T) → Q (.ref T) s') : wpAny M A (newTuple vals) Q E s :=
  wpAny_newObj_type (h _ _ (S.push (tupObj vals)) S.lt) (by show vals.toArray.size ≤ sizeLine; rw [List.size_toArray, sizeLine_eq]; omega)
end
end Mine

end

section
open PySem PySem.W PyProof.Rows PySem.Calls
set_option maxRecDepth 100000
namespace Mine
section
variable {prog : Program} {w : World} {A : Around} {E : Value → Shared → Prop} {s : Shared} {h₀ : Heap} {s₁ : Shared} {vs : List (Str × Value)} {news : List (Addr × Obj)} {env : Env}

/-- what a turn leaves -/
def TurnEnd (h₀ : Heap) (L : Addr) (s₁ : Shared) (Jn : List (Str × Value) → List (Addr × Obj) → Prop) (adr : List Addr) (own : List (Addr × Obj)) (Q : Flow → Shared → Prop) (f : Flow) (s : Shared) : Prop :=
  match f with
  | .ret v => Q (.ret v) s
  | .brk => Q .next s
  | _ => ∃ vs₂ news₂, Jn vs₂ news₂ ∧ news₂.map (·.1) = adr ∧ St h₀ L s₁ vs₂ (news₂ ++ own) s

theorem loop_St {target : Expr} {body : List Stmt} {I : Addr} {fp wr : List Addr} {n : Nat} {P : Nat → Value → Prop} {Sw : Nat → Heap → Prop} {Q : Flow → Shared → Prop} (W : Walks prog w A I fp wr n P Sw)
    (hLf : env.locals ∉ fp) (hwr : ∀ b ∈ wr, h₀.get? b = none) (hnw : ∀ p ∈ news, p.1 ∉ wr) (hst : Sw 0 s.heap) (S : St h₀ env.locals s₁ vs news s)
    (J : Nat → List (Str × Value) → List (Addr × Obj) → Prop) (h0 : J 0 vs news)
    (turn : ∀ i v vs₁ news₁ s' own, i < n → P i v → J i vs₁ news₁ → news₁.map (·.1) = news.map (·.1) → (∀ p ∈ own, p.1 ∈ fp) → Sw (i + 1) s'.heap → St h₀ env.locals s₁ vs₁ (news₁ ++ own) s' →
      wpAny (model prog w) A (letOwnedTupleGo target (.ref I) v) (fun _ s₂ => wpAny (model prog w) A (assign target env v) (fun _ s₃ =>
        wpAny (model prog w) A (execs body env) (TurnEnd h₀ env.locals s₁ (J (i + 1)) (news.map (·.1)) own Q) E s₃) E s₂) E s')
    (done : ∀ vs₁ news₁ s', J n vs₁ news₁ → news₁.map (·.1) = news.map (·.1) → St h₀ env.locals s₁ vs₁ news₁ s' → Q .next s')
    (hE : PassesOwn (model prog w) A env E) :
    codeAny (model prog w) A (.forLoop target (.ref I) body [] env) (fun r s' => match r with | .ok f => Q f s' | .error e => cameBackBy (model prog w) A env E e s') s := by
  have hLw : env.locals ∉ wr := fun h => hLf (W.sub _ h)
  have old : ∀ b o, h₀.get? b = some o → b ∉ wr := fun b o e hb => by rw [hwr b hb] at e; cases e
  have adr : ∀ news₁ : List (Addr × Obj), news₁.map (·.1) = news.map (·.1) → ∀ p ∈ news₁, p.1 ∉ wr := fun news₁ e p hp => by
    have : p.1 ∈ news₁.map (·.1) := List.mem_map.mpr ⟨p, hp, rfl⟩
    rw [e] at this
    obtain ⟨q, hq, hqe⟩ := List.mem_map.mp this
    rw [← hqe]; exact hnw q hq
  refine codeAny_forLoop_any (fun k s' => ∃ vs₁ news₁ i, Sw i s'.heap ∧ St h₀ env.locals s₁ vs₁ news₁ s' ∧ news₁.map (·.1) = news.map (·.1) ∧ J i vs₁ news₁ ∧ i ≤ n ∧ k = n + 1 - i) ?_ (n + 1) ⟨vs, news, 0, hst, S, rfl, h0, Nat.zero_le _, rfl⟩
  rintro k s' ⟨vs₁, news₁, i, hst', S', ha, hJ, hi, rfl⟩
  have next : ∀ (h₁ : Heap) (tk : Nat), (∀ b o, b ∉ wr → s'.heap.get? b = some o → h₁.get? b = some o) → St h₀ env.locals s₁ vs₁ news₁ { s' with heap := h₁, toks := tk } := fun h₁ tk hk₁ => by
    obtain ⟨m, F, hm⟩ := S'.fr
    exact S'.of ⟨F.ns.at' fun o e => hk₁ _ o hLw e, fun b o e => hk₁ b o (old b o e) (F.keep b o e), F.above⟩ hm fun p hp => ⟨hk₁ _ _ (adr _ ha p hp) (S'.nw p hp).1, (S'.nw p hp).2⟩
  by_cases hlt : i < n
  · refine W.item i _ _ _ hlt hst' fun v h₁ tk₁ hP hst₁ hk₁ => ?_
    have S₁ := next h₁ tk₁ hk₁
    have Nown : News h₀ env.locals h₁ (ownOf h₀ fp h₁) := news_ownOf hLf
    have S₂ : St h₀ env.locals s₁ vs₁ (news₁ ++ ownOf h₀ fp h₁) { s' with heap := h₁, toks := tk₁ } := ⟨S₁.gens, S₁.drawn, S₁.os, S₁.fr, fun p hp => (List.mem_append.mp hp).elim (S₁.nw p) (Nown p)⟩
    have fin : ∀ (s₃ : Shared) (vs₂ : List (Str × Value)) (news₂ : List (Addr × Obj)), J (i + 1) vs₂ news₂ → news₂.map (·.1) = news.map (·.1) → St h₀ env.locals s₁ vs₂ (news₂ ++ ownOf h₀ fp h₁) s₃ →
        ∃ m, m < n + 1 - i ∧ ∃ vs₁ news₁ i, Sw i s₃.heap ∧ St h₀ env.locals s₁ vs₁ news₁ s₃ ∧ news₁.map (·.1) = news.map (·.1) ∧ J i vs₁ news₁ ∧ i ≤ n ∧ m = n + 1 - i := fun s₃ vs₂ news₂ hJ₂ ha₂ S₃ => by
      refine ⟨n + 1 - (i + 1), by omega, vs₂, news₂, i + 1, ?_, S₃.weak (fun _ h => h) (fun p hp => List.mem_append_left _ hp), ha₂, hJ₂, hlt, rfl⟩
      refine W.frame _ _ _ hst₁ fun b hb o e => ?_
      obtain ⟨m, F, hm⟩ := S₂.fr
      obtain ⟨m₃, F₃, _⟩ := S₃.fr
      cases hn : h₀.get? b with
      | some o₀ =>
        have : o₀ = o := by have := F.keep b o₀ hn; rw [e] at this; exact (Option.some.inj this).symm
        exact this ▸ F₃.keep b o₀ hn
      | none => exact (S₃.nw _ (List.mem_append_right _ (mem_ownOf hb hn e))).1
    refine wpAny_passesOwn hE (wpAny_mono (turn i v vs₁ news₁ _ _ hlt hP hJ ha ownOf_sub hst₁ S₂) (fun _ s₂ h₂ => ?_) fun _ _ e => e)
    refine wpAny_passesOwn hE (wpAny_mono h₂ (fun _ s₃ h₃ => ?_) fun _ _ e => e)
    refine wpAny_passesOwn hE (wpAny_mono h₃ (fun f s₄ h₄ => ?_) fun _ _ e => e)
    cases f with
    | ret v => exact h₄
    | brk => exact h₄
    | next => obtain ⟨vs₂, news₂, hJ₂, ha₂, S₃⟩ := h₄; exact fin _ _ _ hJ₂ ha₂ S₃
    | cont => obtain ⟨vs₂, news₂, hJ₂, ha₂, S₃⟩ := h₄; exact fin _ _ _ hJ₂ ha₂ S₃
  · have hin : i = n := by omega
    subst hin
    refine W.done _ _ _ hst' fun h₁ tk₁ hk₁ => wpAny_execs_nil ?_
    exact done vs₁ news₁ _ hJ ha (next h₁ tk₁ hk₁)
end

section
variable {prog : Program} {w : World} {A : Around} {E : Value → Shared → Prop} {s : Shared} {h₀ : Heap} {L : Addr} {s₁ : Shared} {vs : List (Str × Value)} {news : List (Addr × Obj)} {name : Str} {scope : Scope} {a : Addr} {cd : Value} {x : Str} {px : Pos} {body : List Stmt} {Q : Flow → Shared → Prop}
theorem St.freshAt (S : St h₀ L s₁ vs news s) : h₀.get? s.heap.objs.size = none := by
  obtain ⟨m, F, _⟩ := S.fr
  exact next_is_new F
theorem St.Llt (S : St h₀ L s₁ vs news s) : L < s.heap.objs.size := by
  obtain ⟨m, F, _⟩ := S.fr
  exact F.ns.lt

/-- for x in range(..): by what holds between the turns -/
theorem loop_range {r : Addr} {a₀ b₀ c₀ : Int} {t₀ u₀ v₀ : Tok} {n : Nat} (hh : A.handled = none) (hr : IsRange s.heap r a₀ b₀ c₀ t₀ u₀ v₀) (hsmall : Builtin.Range.small a₀ b₀ c₀ = true) (hn : Builtin.Range.rangeSize a₀ b₀ c₀ = (n : Int))
    (S : St h₀ L s₁ vs news s) (J : Nat → List (Str × Value) → List (Addr × Obj) → Prop) (h0 : J 0 vs news)
    (turn : ∀ i t vs₁ news₁ s' own, i < n → J i vs₁ news₁ → news₁.map (·.1) = news.map (·.1) → (∀ p ∈ own, ∀ q ∈ news, p.1 ≠ q.1) → St h₀ L s₁ (upd x (.int (a₀ + i * c₀) t) vs₁) (news₁ ++ own) s' →
      wpAny (model prog w) A (execs body (envOf name scope L a cd)) (TurnEnd h₀ L s₁ (J (i + 1)) (news.map (·.1)) own Q) E s')
    (done : ∀ vs₁ news₁ s', J n vs₁ news₁ → news₁.map (·.1) = news.map (·.1) → St h₀ L s₁ vs₁ news₁ s' → Q .next s')
    (hE : PassesOwn (model prog w) A (envOf name scope L a cd) E) (hk : scope.kind = .function := by rfl) (hl : (envOf name scope L a cd).kindOf x = some .local := by rfl) :
    wpAny (model prog w) A (pyIter (.ref r)) (fun it s₂ => codeAny (model prog w) A (.forLoop (.Name x px) it body [] (envOf name scope L a cd)) (fun r s' => match r with | .ok f => Q f s' | .error e => cameBackBy (model prog w) A (envOf name scope L a cd) E e s') s₂) E s := by
  refine wpAny_pyIter_range hr hsmall ?_
  have W : Walks prog w A s.heap.objs.size [s.heap.objs.size] [s.heap.objs.size] n (fun i v => ∃ t, v = .int (a₀ + i * c₀) t) (fun i h => IsRangeIter h s.heap.objs.size (a₀ + (i : Nat) * c₀) ((n : Int) - (i : Nat)) c₀) := Walks.range hh _ a₀ c₀ n
  have Sp := S.push { cls := .type "range_iterator", data := .fields #[rawInt a₀, rawInt (Builtin.Range.rangeSize a₀ b₀ c₀), rawInt c₀] }
  refine loop_St (env := envOf name scope L a cd) W ?_ ?_ (fun p hp hI => ?_) (by show IsRangeIter _ _ _ _ _; rw [hn]; simpa using Heap.get?_push_size _ rfl) (Sp.weak (fun _ h => h) (fun p hp => .tail _ hp)) J h0 ?_ done hE
  · intro hm
    exact absurd S.Llt ((List.mem_singleton.mp hm) ▸ Nat.lt_irrefl _)
  · intro b hb
    rw [List.mem_singleton.mp hb]
    exact S.freshAt
  · exact absurd (S.lt p hp) ((List.mem_singleton.mp hI) ▸ Nat.lt_irrefl _)
  · rintro i v vs₁ news₁ s' own hi ⟨t, rfl⟩ hJ ha hown _ S'
    refine wpAny_pure (wpAny_assign_Name (e_st S' (fun s₂ S₂ => ?_) hk hl))
    refine turn i t vs₁ news₁ s₂ own hi hJ ha (fun p hp q hq e => ?_) S₂
    have h1 := List.mem_singleton.mp (hown p hp)
    exact absurd (S.lt q hq) (by rw [← e, h1]; exact Nat.lt_irrefl _)

/-- for x in a tuple of the ledger; the target any -/
theorem loop_tup {target : Expr} {T : Addr} {xs : List Value} (hh : A.handled = none) (hT : (T, tupObj xs) ∈ news) (S : St h₀ L s₁ vs news s) (J : Nat → List (Str × Value) → List (Addr × Obj) → Prop) (h0 : J 0 vs news)
    (turn : ∀ i v vs₁ news₁ s' own, xs[i]? = some v → J i vs₁ news₁ → news₁.map (·.1) = news.map (·.1) → (∀ p ∈ own, p.1 = T ∨ ∀ q ∈ news, p.1 ≠ q.1) → St h₀ L s₁ vs₁ (news₁ ++ own) s' →
      wpAny (model prog w) A (assign target (envOf name scope L a cd) v) (fun _ s₃ => wpAny (model prog w) A (execs body (envOf name scope L a cd)) (TurnEnd h₀ L s₁ (J (i + 1)) (news.map (·.1)) own Q) E s₃) E s')
    (done : ∀ vs₁ news₁ s', J xs.length vs₁ news₁ → news₁.map (·.1) = news.map (·.1) → St h₀ L s₁ vs₁ news₁ s' → Q .next s')
    (hE : PassesOwn (model prog w) A (envOf name scope L a cd) E) :
    wpAny (model prog w) A (pyIter (.ref T)) (fun it s₂ => codeAny (model prog w) A (.forLoop target it body [] (envOf name scope L a cd)) (fun r s' => match r with | .ok f => Q f s' | .error e => cameBackBy (model prog w) A (envOf name scope L a cd) E e s') s₂) E s := by
  have ht : s.heap.IsTuple T xs.toArray := S.tup hT
  have hne : T ≠ s.heap.objs.size := Nat.ne_of_lt (S.lt _ hT)
  refine wpAny_pyIter_tuple ht ?_
  have W := Walks.tuple (prog := prog) (w := w) hh s.heap.objs.size T hne xs.toArray
  have Sp := S.push { cls := .type "tuple_iterator", data := .fields #[.ref T, .int 0 0] }
  have hLT : L ≠ T := fun e => (S.nw _ hT).2.1 e.symm
  refine loop_St (env := envOf name scope L a cd) W ?_ ?_ (fun p hp hI => ?_) ⟨⟨_, Heap.get?_push_size _ rfl, rfl, rfl⟩, ht.at fun o e => Heap.get?_push_of_some _ e⟩ (Sp.weak (fun _ h => h) (fun p hp => .tail _ hp)) J h0 ?_ (fun vs₁ news₁ s' hJ => done vs₁ news₁ s' (by simpa using hJ)) hE
  · intro hm
    rcases List.mem_cons.mp hm with e | hm
    · exact absurd S.Llt (by rw [show L = s.heap.objs.size from e]; exact Nat.lt_irrefl _)
    · exact hLT (List.mem_singleton.mp hm)
  · intro b hb
    rw [List.mem_singleton.mp hb]
    exact S.freshAt
  · exact absurd (S.lt p hp) ((List.mem_singleton.mp hI) ▸ Nat.lt_irrefl _)
  · intro i v vs₁ news₁ s' own hi hP hJ ha hown hsw S'
    have hgo : ∀ {R : Unit → Shared → Prop}, R () s' → wpAny (model prog w) A (letOwnedTupleGo target (.ref s.heap.objs.size) v) R E s' := fun {R} hR => by
      obtain ⟨oi, hoi, hci, hdi⟩ := hsw.1
      unfold letOwnedTupleGo
      split
      · cases v <;> first
          | exact wpAny_pure hR
          | (refine wpAny_bind (wpAny_load hoi ?_); rw [hci, hdi]; exact wpAny_pure hR)
      · cases v <;> first
          | exact wpAny_pure hR
          | (refine wpAny_bind (wpAny_load hoi ?_); rw [hci, hdi]; exact wpAny_pure hR)
      · exact wpAny_pure hR
    refine hgo (turn i v vs₁ news₁ s' own (by simpa using hP) hJ ha (fun p hp => ?_) S')
    rcases List.mem_cons.mp (hown p hp) with h1 | h1
    · exact .inr fun q hq e => absurd (S.lt q hq) (by rw [← e, h1]; exact Nat.lt_irrefl _)
    · exact .inl (List.mem_singleton.mp h1)
end
end Mine

end

section
open PySem PySem.W PyProof.Rows PySem.Calls
set_option maxRecDepth 100000
namespace Mine
section
variable {prog : Program} {w : World} {M : Model} {A : Around} {E : Value → Shared → Prop} {s : Shared} {h₀ : Heap} {L : Addr} {s₁ : Shared} {vs : List (Str × Value)} {news : List (Addr × Obj)}
theorem St.lst (S : St h₀ L s₁ vs news s) {l : Addr} {xs : List Value} {c : Nat} (hm : (l, listOf xs.toArray c) ∈ news) : s.heap.IsList l xs.toArray := ⟨_, (S.nw _ hm).1, rfl, c, rfl⟩
theorem s_litem {value slice : Expr} {l : Addr} {xs : List Value} {k : Int} {u : Tok} {v : Value} {Q : Value → Shared → Prop} (hl : s.heap.IsList l xs.toArray) (h0 : 0 ≤ k) (hhi : k < 2 ^ 63) (hx : xs[k.toNat]? = some v) (h : Q v s)
    (hs : subscripted slice false (.ref l) (.int k u) = operate [.ref l, .int k u] (getItem (.ref l) (.int k u)) := by with_unfolding_all rfl) :
    wpAny (model prog w) A (subscriptTail value slice (.ref l) (.int k u)) Q E s :=
  tail_any hl.typeIs slot_list_getitem.lookup (wpAny_getItem_list hl h0 hhi (by simpa using hx) h) hs

theorem c_range1 {n : Int} {t : Tok} {Q : Value → Shared → Prop} (S : St h₀ L s₁ vs news s) (h : ∀ r t₀ u₀ v₀ s', St h₀ L s₁ vs news s' → IsRange s'.heap r 0 n 1 t₀ u₀ v₀ → Q (.ref r) s') : wpAny (model prog w) A (call (.type "range") [.int n t]) Q E s :=
  call_range_1 (h _ _ _ _ _ (((S.push _).weak (fun _ h => h) (fun _ hp => .tail _ hp)).tok _) (IsRange.new _ _ _ _ _ _ _))
theorem c_range3 {x y c : Int} {t u v : Tok} {Q : Value → Shared → Prop} (S : St h₀ L s₁ vs news s) (hc : c ≠ 0) (hp : c.natAbs < 1073741824) (h : ∀ r t₀ u₀ v₀ s', St h₀ L s₁ vs news s' → IsRange s'.heap r x y c t₀ u₀ v₀ → Q (.ref r) s') :
    wpAny (model prog w) A (call (.type "range") [.int x t, .int y u, .int c v]) Q E s :=
  call_range_3 hc (h _ _ _ _ _ ((S.push _).weak (fun _ h => h) (fun _ hp => .tail _ hp)) (IsRange.new _ _ _ _ _ _ _)) (.inl (PyProof.noPylong_small (by omega)))
theorem s_set {D : Addr} {xs : List Value} {c : Nat} {ns : List Int} {k i : Int} {t u : Tok} {rest : List (Addr × Obj)} {Q : Unit → Shared → Prop} (S : St h₀ L s₁ vs ((D, listOf xs.toArray c) :: rest) s) (hr : ∀ p ∈ rest, p.1 ≠ D) (hi : IntsAre xs ns) (h0 : 0 ≤ k) (h1 : k < ns.length) (hfit : k < 2 ^ 63)
    (h : ∀ s', St h₀ L s₁ vs ((D, listOf (xs.set k.toNat (.int i u)).toArray c) :: rest) s' → Q () s') : wpAny (model prog w) A (setItem (.ref D) (.int k t) (.int i u)) Q E s := by
  obtain ⟨m, F, hm⟩ := S.fr
  exact ksa_set F S.nw (Upd.head hr) hi h0 h1 hfit fun h' F' N' _ _ _ => h _ (S.of F' hm N')
theorem o_lmul {l : Addr} {xs : List Value} {c : Nat} {n : Int} {u : Tok} {Q : Value → Shared → Prop} (S : St h₀ L s₁ vs news s) (hm : (l, listOf xs.toArray c) ∈ news) (h0 : 0 ≤ n) (hhi : n < 2 ^ 63) (hsz : xs.length * n.toNat ≤ 256)
    (h : ∀ D s', St h₀ L s₁ vs ((D, listOf ((List.replicate n.toNat xs).flatten).toArray 0) :: news) s' → Q (.ref D) s') : wpAny (model prog w) A (binaryOp .Mult (.ref l) (.int n u)) Q E s := by
  obtain ⟨m, F, hm'⟩ := S.fr
  exact KMa.mul F S.nw (S.lst hm) (by omega) hhi hsz rfl fun D h' F' N' _ => h D _ (S.of (k := s.toks) F' hm' N')
theorem e_lst {vals : List Value} {Q : Value → Shared → Prop} (S : St h₀ L s₁ vs news s) (hz : vals.length ≤ 10000) (h : ∀ D s', St h₀ L s₁ vs ((D, listOf vals.toArray 0) :: news) s' → (∀ p ∈ news, p.1 < D) → Q (.ref D) s') : wpAny M A (newList vals) Q E s :=
  wpAny_newObj_type (h _ _ (S.push (listOf vals.toArray 0)) S.lt) (by show vals.toArray.size ≤ sizeLine; rw [List.size_toArray, sizeLine_eq]; omega)
theorem rep_one {α : Type} (n : Nat) (x : α) : (List.replicate n [x]).flatten = List.replicate n x := by
  induction n with
  | zero => rfl
  | succ n ih => simp [List.replicate_succ, ih]
theorem ints_rep (n : Nat) (i : Int) (t : Tok) : IntsAre (List.replicate n (.int i t)) (List.replicate n i) := by
  induction n with
  | zero => exact .nil
  | succ n ih => exact .cons _ _ ih

theorem c_mkb {D : Addr} {ys : List Value} {ns : List Int} {Q : Value → Shared → Prop} (S : St h₀ L s₁ vs news s) (hh : A.handled = none) (hl : s.heap.IsList D ys.toArray) (hi : IntsAre ys ns) (hr : KBa.In ns) (hn : ns.length ≤ 16777216)
    (h : ∀ t s', St h₀ L s₁ vs news s' → Q (.bytes (ns.map fun n => n.toNat.toUInt8).toArray t) s') : wpAny (model prog w) A (call (.type "bytes") [.ref D]) Q E s := by
  obtain ⟨m, F, hm⟩ := S.fr
  exact KBa.make_K F S.nw hh hl hi hr hn fun h' t' k F' N' _ => h t' _ (S.of F' hm N')
end
end Mine

end

section
open PySem PySem.W PyProof.Rows PySem.Calls
namespace Mine
theorem ints_of_comp2 {c : Int → Bool} {f g : Int → Int} : ∀ {ys : List Value} {ns : List Int},
    CarriedAll ys (List.map (fun a => if c a = true then PyData.int (f a) else PyData.int (g a)) (List.filter (fun _ => true) ns)) →
    IntsAre ys (ns.map fun a => if c a = true then f a else g a) := by
  intro ys ns h
  refine IntsAre.ofCarried ?_
  have e : (List.map (fun a => if c a = true then PyData.int (f a) else PyData.int (g a)) (List.filter (fun _ => true) ns)) = (ns.map fun a => if c a = true then f a else g a).map PyData.int := by
    rw [List.filter_eq_self.mpr (by simp), List.map_map]
    refine List.map_congr_left fun a _ => ?_
    simp only [Function.comp]
    split <;> rfl
  rw [← e]
  exact h
def rowInt (a : Int) : Int := if (a.fmod 4 == 0) = true then (([37, 91, 93, 58] : List UInt8).getD ((a.fdiv 4).fmod 4).toNat 0).toNat else (a.fdiv 4).fmod 256
theorem rowInt_in (ns : List Int) : KBa.In (ns.map rowInt) := by
  intro n hn
  obtain ⟨a, _, rfl⟩ := List.mem_map.mp hn
  unfold rowInt
  split
  · have := (([37, 91, 93, 58] : List UInt8).getD ((a.fdiv 4).fmod 4).toNat 0).toNat_lt
    constructor <;> omega
  · exact ⟨Int.fmod_nonneg_of_pos _ (by decide), Int.fmod_lt_of_pos _ (by decide)⟩
end Mine

end

section
open PySem PySem.W PyProof.Rows PySem.Calls
set_option maxRecDepth 100000
namespace Mine
local macro_rules | `(tactic| ktr_rel) => `(tactic| first | assumption | with_reducible exact mem_upd | ((with_reducible refine' mem_upd_ne ?h9 ?m9); (case h9 => decide); (case m9 => ktr_rel)) | exact List.Mem.head _ | exact List.Mem.tail _ (by ktr_rel))

def fBody : Stmt → List Stmt
  | .FunctionDef _ _ b _ _ _ _ _ _ _ => b
  | _ => []
def fScope : Stmt → Scope
  | .FunctionDef _ _ _ _ _ _ sc _ _ _ => sc
  | _ => { kind := .function, names := [], isGenerator := false, isCoroutine := false, more := [] }
def stripDef : Stmt := match PySem.Challenge.pw_dv0018_01.main.body with
  | _ :: d :: _ => d
  | _ => .Pass ⟨0, 0, 0, 0⟩

def stripScope : Scope := fScope stripDef

section
variable {prog : Program} {w : World} {A : Around} {E : Value → Shared → Prop} {s : Shared} {g : Heap} {L : Addr} {s₁ : Shared} {news : List (Addr × Obj)} {f : Addr} {cd : Value} {qual : Str}
theorem strip_body {l : List UInt8} {t : Tok} {Q : Flow → Shared → Prop} (S : St g L s₁ [("enc_name", .bytes l.toArray t)] news s) (hh : A.handled = none) (hz : l.length ≤ 10000000)
    (h1 : ¬ l.findIdx (· == 37) < l.length → ∀ s', St g L s₁ [] news s' → Q (.ret (.bytes l.toArray t)) s')
    (h2 : l.findIdx (· == 37) < l.length → (l.take (l.findIdx (· == 37)))[0]? = some 91 → ∀ t' s', St g L s₁ [] news s' → Q (.ret (.bytes (l.take (l.findIdx (· == 37)) ++ [93]).toArray t')) s')
    (h3 : l.findIdx (· == 37) < l.length → (l.take (l.findIdx (· == 37)))[0]? ≠ some 91 → ∀ t' s' h' e, St g L s₁ [] news s' → Heap.MadeExc s'.heap h' e "AssertionError" [.bytes (l.take (l.findIdx (· == 37))).toArray t'] → E (.ref e) { s' with heap := h' }) :
    wpAny (model prog w) A (execs (fBody stripDef) (envOf qual stripScope L f cd)) Q E s := by
  dsimp only [fBody, stripDef, PySem.Challenge.pw_dv0018_01]
  refine wpAny_execs_cons ?_
  refine Assign_Tuple ?_
  refine MethodCall_ ?_
  refine e_loc S (by ktr_rel) ?_
  refine m_part ?_
  refine callWith_method1 ?_
  refine spliced_more ?_
  refine e_byt S ?_
  intro t1 s1 S1
  refine spliced_none ?_
  refine c_part S1 (by omega) ?_ ?_
  · intro hlt T t2 t3 s2 S2
    refine e_unp S2 (by ktr_rel) hh ?_
    intro s3 S3
    refine assignInOrder_cons (wpAny_assign_Name (e_st S3 ?_))
    intro s4 S4
    refine assignInOrder_cons (wpAny_assign_Name (e_st S4 ?_))
    intro s5 S5
    refine assignInOrder_cons (wpAny_assign_Name (e_st S5 ?_))
    intro s6 S6
    refine assignInOrder_nil ?_
    dsimp only
    refine wpAny_execs_cons ?_
    refine wpAny_If ?_
    refine isTrue_plain ?_
    refine e_loc S6 (by ktr_rel) ?_
    refine t_byt S6 (by decide) ?_
    intro s7 S7
    rw [if_pos (by decide)]
    refine wpAny_execs_cons ?_
    refine wpAny_Assert_msg hh ?_
    refine isTrue_plain ?_
    refine MethodCall_ ?_
    refine e_loc S7 (by ktr_rel) ?_
    refine m_starts ?_
    refine callWith_method1 ?_
    refine spliced_more ?_
    refine e_byt S7 ?_
    intro t8 s8 S8
    refine spliced_none ?_
    refine c_starts ?_
    refine wpAny_truthy_bool ?_
    by_cases hst : (l.take (l.findIdx (· == 37)))[0]? = some 91
    · rw [if_pos (by simpa using hst)]
      dsimp only
      refine wpAny_execs_cons ?_
      refine wpAny_AugAssign_Name ?_
      refine e_locn S8 (by ktr_rel) ?_
      refine e_byt S8 ?_
      intro t9 s9 S9
      refine o_icat S9 (by simp; omega) ?_
      intro t10 s10 S10
      refine e_st S10 ?_
      intro s11 S11
      dsimp only
      refine wpAny_execs_nil ?_
      dsimp only
      refine wpAny_execs_cons ?_
      refine wpAny_Return_some ?_
      refine e_loc S11 (by ktr_rel) ?_
      exact h2 hlt hst _ _ (S11.weak (by simp) (fun p hp => List.Mem.tail _ hp))
    · rw [if_neg (by simpa using hst)]
      refine e_loc S8 (by ktr_rel) ?_
      intro h' e he
      exact h3 hlt hst _ _ _ _ (S8.weak (by simp) (fun p hp => List.Mem.tail _ hp)) he
  · intro hlt T t2 s2 S2
    refine e_unp S2 (by ktr_rel) hh ?_
    intro s3 S3
    refine assignInOrder_cons (wpAny_assign_Name (e_st S3 ?_))
    intro s4 S4
    refine assignInOrder_cons (wpAny_assign_Name (e_st S4 ?_))
    intro s5 S5
    refine assignInOrder_cons (wpAny_assign_Name (e_st S5 ?_))
    intro s6 S6
    refine assignInOrder_nil ?_
    dsimp only
    refine wpAny_execs_cons ?_
    refine wpAny_If ?_
    refine isTrue_plain ?_
    refine e_loc S6 (by ktr_rel) ?_
    refine t_byt S6 (by decide) ?_
    intro s7 S7
    rw [if_neg (by decide)]
    refine wpAny_execs_nil ?_
    dsimp only
    refine wpAny_execs_cons ?_
    refine wpAny_Return_some ?_
    refine e_loc S7 (by ktr_rel) ?_
    exact h1 hlt _ (S7.weak (by simp) (fun p hp => List.Mem.tail _ hp))
end
end Mine

end

section
open PySem PySem.W PyProof.Rows PySem.Calls
set_option maxRecDepth 100000
namespace Mine
local macro_rules | `(tactic| ktr_rel) => `(tactic| first | assumption | with_reducible exact mem_upd | ((with_reducible refine' mem_upd_ne ?h9 ?m9); (case h9 => decide); (case m9 => ktr_rel)) | ((with_reducible refine' mem_del ?h9 ?m9); (case h9 => decide); (case m9 => ktr_rel)) | exact List.Mem.head _ | exact List.Mem.tail _ (by ktr_rel))

def lawDef : Stmt := match PySem.Challenge.pw_dv0018_01.main.body with
  | _ :: _ :: _ :: d :: _ => d
  | _ => .Pass ⟨0, 0, 0, 0⟩
def lawScope : Scope := fScope lawDef
def forBody : Stmt → List Stmt
  | .For _ _ b _ _ => b
  | _ => []
def mainFor : Stmt := match fBody lawDef with
  | _ :: _ :: _ :: _ :: d :: _ => d
  | _ => .Pass ⟨0, 0, 0, 0⟩
def innerFor : Stmt := match forBody mainFor with
  | d :: _ => d
  | _ => .Pass ⟨0, 0, 0, 0⟩
def innerTail : List Stmt := match forBody innerFor with
  | _ :: _ :: _ :: r => r
  | _ => []

/-- what the law needs of the text's own def -/
structure StripAt (mg : Str → Option Value) (h₀ : Heap) (f : Addr) (fo : Obj) (dV kV doc pm cdv ct : Value) (an : Option Addr) (params : Arguments) (name qual : Str) : Prop where
  nm : mg "_strip_ipv6_iface" = some (.ref f)
  ob : h₀.get? f = some fo
  dat : fo.data = .func (fnX name qual params (fBody stripDef) stripScope [] dV kV doc pm an cdv ct)
  code : h₀.CodeRec cdv qual
  bind : ∀ v, bindArgs (fnX name qual params (fBody stripDef) stripScope [] dV kV doc pm an cdv ct) ⟨[v], []⟩ = pure [(("enc_name" : Str), v)]
/-- the builtins that the law names -/
structure Blts (mg mb : Str → Option Value) (p : Program) (loose : List Str) : Prop where
  len : mg "len" = none ∧ mb "len" = some (.builtin "len")
  type : mg "type" = none ∧ mb "type" = some (.type "type")
  bytes : mg "bytes" = none ∧ mb "bytes" = some (.type "bytes")
  range : mg "range" = none ∧ mb "range" = some (.type "range")
  ae : mg "AssertionError" = none ∧ mb "AssertionError" = some (.type "AssertionError")
  a1 : ("AssertionError" : Str) ∉ startupNames
  a2 : ("AssertionError" : Str) ∉ loose
  a3 : ("AssertionError" : Str) ∉ (recsOf p).map (·.name)
  a4 : ("AssertionError" : Str) ∉ (litsOf p).map (·.1)
  a5 : ("AssertionError" : Str) ∉ (clssOf p loose).map (·.name)
theorem Blts.of {mg mb : Str → Option Value} {p : Program} {loose : List Str} {h : Heap} (T : TopRead p loose mg mb h) (h1 : mg "len" = none) (h2 : mg "type" = none) (h3 : mg "bytes" = none) (h4 : mg "range" = none) (h5 : mg "AssertionError" = none)
    (a1 : ("AssertionError" : Str) ∉ startupNames) (a2 : ("AssertionError" : Str) ∉ loose) (a3 : ("AssertionError" : Str) ∉ (recsOf p).map (·.name)) (a4 : ("AssertionError" : Str) ∉ (litsOf p).map (·.1)) (a5 : ("AssertionError" : Str) ∉ (clssOf p loose).map (·.name)) : Blts mg mb p loose :=
  ⟨⟨h1, (T.builtins _ (by decide)).trans (by boot_by_name)⟩, ⟨h2, (T.builtins _ (by decide)).trans (by boot_by_name)⟩, ⟨h3, (T.builtins _ (by decide)).trans (by boot_by_name)⟩, ⟨h4, (T.builtins _ (by decide)).trans (by boot_by_name)⟩, ⟨h5, (T.builtins _ (by decide)).trans (by boot_by_name)⟩, a1, a2, a3, a4, a5⟩

section
variable {prog : Program} {w : World} {E : Value → Shared → Prop} {s : Shared} {h₀ : Heap} {L : Addr} {s₁ : Shared} {vs vs0 : List (Str × Value)} {news : List (Addr × Obj)} {mg mb : Str → Option Value}
  {f a : Addr} {fo : Obj} {dV kV doc pm cdv ct cd : Value} {an : Option Addr} {params : Arguments} {name qual nm : Str} {p : Program} {loose : List Str}

def Due (pt : List UInt8) (r : Bool) (d : List UInt8) : Prop :=
  (¬ pt.findIdx (· == 37) < pt.length ∧ r = false ∧ d = pt) ∨
  (pt.findIdx (· == 37) < pt.length ∧ (pt.take (pt.findIdx (· == 37)))[0]? = some 91 ∧ r = false ∧ d = pt.take (pt.findIdx (· == 37)) ++ [93]) ∨
  (pt.findIdx (· == 37) < pt.length ∧ (pt.take (pt.findIdx (· == 37)))[0]? ≠ some 91 ∧ r = true ∧ d = pt.take (pt.findIdx (· == 37)))

theorem turn1_end {d : List UInt8} {r : Bool} {told : Addr} {td tt : Tok} {Q : Flow → Shared → Prop} (G : Glo mg mb h₀) (BL : Blts mg mb p loose)
    (S : St h₀ L s₁ vs news s) (h1 : (("due" : Str), Value.bytes d.toArray td) ∈ vs) (h2 : (("refuse" : Str), Value.bool r) ∈ vs) (h3 : (("told" : Str), Value.ref told) ∈ vs) (h4 : (("refused" : Str), Value.bool r) ∈ vs)
    (hto : ∀ s', St h₀ L s₁ vs news s' → IsTup s'.heap told [Value.bytes d.toArray tt].toArray)
    (hQ : ∀ s', St h₀ L s₁ vs news s' → Q .next s') :
    wpAny (model prog w) (callerA.deeper (envOf nm lawScope L a cd)) (execs (innerTail.drop 1) (envOf nm lawScope L a cd)) Q E s := by
  dsimp only [innerTail, forBody, innerFor, mainFor, fBody, lawDef, PySem.Challenge.pw_dv0018_01, List.drop]
  refine wpAny_execs_cons ?_
  refine wpAny_If ?_
  refine isTrue_or ?_
  refine wpAny_isTrue_Compare1 ?_
  refine e_loc S (by ktr_rel) ?_
  refine e_loc S (by ktr_rel) ?_
  refine ne_bool ?_
  refine wpAny_truthy_bool ?_
  rw [if_neg (by simp)]
  refine isTrue_or ?_
  refine wpAny_isTrue_Compare1 ?_
  refine e_loc S (by ktr_rel) ?_
  refine Tuple_ ?_
  refine spliced_more ?_
  refine e_loc S (by ktr_rel) ?_
  refine spliced_none ?_
  refine e_tup S (by simp) ?_
  intro T1 s1 S1 _
  have S1' : St h₀ L s₁ vs news s1 := S1.weak (fun _ h => h) (fun _ h => .tail _ h)
  refine o_ne1 (Nat.le_of_ble_eq_true rfl) (hto _ S1') (S1.tup (by ktr_rel)) ?_
  refine wpAny_truthy_bool ?_
  rw [if_neg (by simp)]
  refine isTrue_or ?_
  refine wpAny_isTrue_Compare1 ?_
  refine Call_ ?_
  refine e_blt S1' G BL.type ?_
  refine PyProof.Rows.callWith_type1 ?_
  refine spliced_more ?_
  refine Subscript_ ?_
  refine e_loc S1' (by ktr_rel) ?_
  refine e_int S1' ?_
  intro t2 s2 S2
  refine item_tupleT (hto _ S2) (by decide) (by decide) (j := 0) rfl rfl ?_
  refine spliced_none ?_
  refine t_typeB ?_
  refine e_blt S2 G BL.bytes ?_
  refine wpAny_isNot_self rfl ?_
  refine wpAny_truthy_bool ?_
  rw [if_neg (by simp)]
  refine isTrue_or_nil ?_
  rw [if_neg (by simp)]
  refine wpAny_execs_nil ?_
  dsimp only
  refine wpAny_execs_nil ?_
  exact hQ _ S2

theorem strip_call {A : Around} {env : Env} {outer : List Env} {A₀ : Around} {base : Heap} {pt : List UInt8} {tp : Tok} {Q : Value → Shared → Prop} (K : Below A₀ base outer h₀) (G : Glo mg mb h₀) (FS : StripAt mg h₀ f fo dV kV doc pm cdv ct an params name qual)
    (S : St h₀ L s₁ vs news s) (hh : A.handled = none) (hA : A.frames = some (env :: outer)) (hf : env.frame = some L) (hke : env.scope.kind = .function) (hroom : A.depth < recursionLimit) (hz : pt.length ≤ 10000000)
    (h1 : ¬ pt.findIdx (· == 37) < pt.length → ∀ s', St h₀ L s₁ vs news s' → Q (.bytes pt.toArray tp) s')
    (h2 : pt.findIdx (· == 37) < pt.length → (pt.take (pt.findIdx (· == 37)))[0]? = some 91 → ∀ t' s', St h₀ L s₁ vs news s' → Q (.bytes (pt.take (pt.findIdx (· == 37)) ++ [93]).toArray t') s')
    (h3 : pt.findIdx (· == 37) < pt.length → (pt.take (pt.findIdx (· == 37)))[0]? ≠ some 91 → ∀ t' e t g m (s' : Shared), s'.gens = s₁.gens ∧ s'.drawn = s₁.drawn ∧ s'.os = s₁.os →
      RaisedK base (env :: outer) e (.type "AssertionError") t [.bytes (pt.take (pt.findIdx (· == 37))).toArray t'] news s'.heap → Fr h₀ L g m → (∀ p ∈ vs, m p.1 = some p.2) → g.UpToSlots s'.heap → E (.ref e) s') :
    wpAny (model prog w) A (call (.ref f) [.bytes pt.toArray tp]) Q E s := by
  refine c_fn K S G hA hf hke FS.ob FS.dat FS.code hroom (FS.bind _) ?_ ?_ (fun g L' s' S' B' G' st hl => ?_) (by decide)
  · intro y hy
    rw [List.mem_singleton.mp hy]; rfl
  · intro q hq
    rw [List.mem_singleton.mp hq]; rfl
  refine strip_body S' hh hz ?_ ?_ ?_
  · intro hn s2 S2
    exact ⟨news, S2, fun S3 => h1 hn _ S3⟩
  · intro hlt hst t' s2 S2
    exact ⟨news, S2, fun S3 => h2 hlt hst _ _ S3⟩
  · intro hlt hst t' s2 h' e S2 hx
    refine ⟨e, news, s2.heap, .type "AssertionError", _, rfl, S2, hx.of, fun h'' t m R F hm U => ?_⟩
    exact h3 hlt hst t' e t g m _ ⟨S2.gens, S2.drawn, S2.os⟩ R F hm U

theorem turn1_try {pt d : List UInt8} {r : Bool} {tp td : Tok} {Q : Flow → Shared → Prop} (K : Below callerA h₀ [] h₀) (G : Glo mg mb h₀) (T : TopRead p loose mg mb h₀) (FS : StripAt mg h₀ f fo dV kV doc pm cdv ct an params name qual) (BL : Blts mg mb p loose)
    (S : St h₀ L s₁ vs news s) (h1 : (("part" : Str), Value.bytes pt.toArray tp) ∈ vs) (h2 : (("due" : Str), Value.bytes d.toArray td) ∈ vs) (h3 : (("refuse" : Str), Value.bool r) ∈ vs) (hz : pt.length ≤ 1000) (hD : Due pt r d)
    (hv : ∀ q ∈ vs0, q ∈ vs ∧ (q.1 == "told") = false ∧ (q.1 == "refused") = false ∧ (q.1 == "err") = false)
    (hQ : ∀ s', St h₀ L s₁ vs0 news s' → Q .next s') :
    wpAny (model prog w) (callerA.deeper (envOf nm lawScope L a cd)) (execs innerTail (envOf nm lawScope L a cd)) Q E s := by
  have e : innerTail = (match innerTail with | x :: _ => x | [] => .Pass ⟨0, 0, 0, 0⟩) :: innerTail.drop 1 := rfl
  rw [e]
  refine wpAny_execs_cons ?_
  dsimp only [innerTail, forBody, innerFor, mainFor, fBody, lawDef, PySem.Challenge.pw_dv0018_01]
  refine wpAny_Try_except ?_
  refine wpAny_execs_cons ?_
  refine wpAny_Assign_Name ?_
  refine Tuple_ ?_
  refine spliced_more ?_
  refine Call_ ?_
  refine e_glo S G FS.nm ?_
  refine k_fn FS.dat ?_
  refine spliced_more ?_
  refine e_loc S (by ktr_rel) ?_
  refine spliced_none ?_
  refine ⟨S.old FS.ob, ?_⟩
  have hk0 : ∀ (vs' : List (Str × Value)), (∀ q ∈ vs0, q ∈ vs') → ∀ n' s', St h₀ L s₁ vs' (n' ++ news) s' → Q .next s' := fun vs' hv' n' s' S' =>
    hQ s' (S'.weak hv' (fun q hq => List.mem_append_right _ hq))
  refine strip_call K G FS S rfl rfl rfl rfl (Nat.le_of_ble_eq_true rfl) (by omega) ?_ ?_ ?_
  · intro hn s2 S2
    obtain ⟨rfl, rfl⟩ : r = false ∧ d = pt := by
      rcases hD with h | h | h
      · exact h.2
      · exact absurd h.1 hn
      · exact absurd h.1 hn
    refine spliced_none ?_
    refine e_tup S2 (by simp) ?_
    intro T3 s3 S3 _
    refine e_st S3 ?_
    intro s4 S4
    dsimp only
    refine wpAny_execs_cons ?_
    refine wpAny_Assign_Name ?_
    refine e_bool ?_
    refine e_st S4 ?_
    intro s5 S5
    dsimp only
    refine wpAny_execs_nil ?_
    dsimp only
    refine wpAny_execs_nil ?_
    dsimp only
    refine turn1_end G BL S5 (by ktr_rel) (by ktr_rel) (by ktr_rel) (by ktr_rel) (fun s' S' => S'.tup (by ktr_rel)) ?_
    intro s6 S6
    exact hk0 _ (fun q hq => mem_upd_ne (hv q hq).2.2.1 (mem_upd_ne (hv q hq).2.1 (hv q hq).1)) [_] _ S6
  · intro hlt hst t' s2 S2
    obtain ⟨rfl, rfl⟩ : r = false ∧ d = pt.take (pt.findIdx (· == 37)) ++ [93] := by
      rcases hD with h | h | h
      · exact absurd hlt h.1
      · exact h.2.2
      · exact absurd hst h.2.1
    refine spliced_none ?_
    refine e_tup S2 (by simp) ?_
    intro T3 s3 S3 _
    refine e_st S3 ?_
    intro s4 S4
    dsimp only
    refine wpAny_execs_cons ?_
    refine wpAny_Assign_Name ?_
    refine e_bool ?_
    refine e_st S4 ?_
    intro s5 S5
    dsimp only
    refine wpAny_execs_nil ?_
    dsimp only
    refine wpAny_execs_nil ?_
    dsimp only
    refine turn1_end G BL S5 (by ktr_rel) (by ktr_rel) (by ktr_rel) (by ktr_rel) (fun s' S' => S'.tup (by ktr_rel)) ?_
    intro s6 S6
    exact hk0 _ (fun q hq => mem_upd_ne (hv q hq).2.2.1 (mem_upd_ne (hv q hq).2.1 (hv q hq).1)) [_] _ S6
  · intro hlt hst t' e1 t1 g1 m1 s2 hs2 R F hm U
    obtain ⟨rfl, rfl⟩ : r = true ∧ d = pt.take (pt.findIdx (· == 37)) := by
      rcases hD with h | h | h
      · exact absurd hlt h.1
      · exact absurd h.2.1 hst
      · exact h.2.2
    refine x_caught K F hm U R hs2 T PyProof.Rows.Boot.«AssertionError» PySem.F.isExc_AssertionError PySem.F.notTuple_AssertionError (by rw [isSubtype_type]; kernel_rfl) BL.a1 BL.a2 BL.a3 BL.a4 BL.a5 (by decide) ?_
    intro s3 oe ot S3 x
    refine wpAny_execs_cons ?_
    refine wpAny_If ?_
    refine wpAny_isTrue_Compare1 ?_
    refine Call_ ?_
    refine e_blt S3 G BL.type ?_
    refine PyProof.Rows.callWith_type1 ?_
    refine spliced_more ?_
    refine e_loc S3 (by ktr_rel) ?_
    refine spliced_none ?_
    refine t_type S3 (by ktr_rel) x.cls (by decide) ?_
    refine e_blt S3 G BL.ae ?_
    refine wpAny_isNot_self rfl ?_
    refine wpAny_truthy_bool ?_
    rw [if_neg (by simp)]
    refine wpAny_execs_nil ?_
    dsimp only
    refine wpAny_execs_cons ?_
    refine wpAny_Assign_Name ?_
    refine Attribute_Name_ ?_
    refine e_loc S3 (by ktr_rel) ?_
    refine a_args PySem.F.attr_AssertionError S3 (by ktr_rel) x ?_
    intro s4 S4
    refine e_st S4 ?_
    intro s5 S5
    dsimp only
    refine wpAny_execs_cons ?_
    refine wpAny_Assign_Name ?_
    refine e_bool ?_
    refine e_st S5 ?_
    intro s6 S6
    dsimp only
    refine wpAny_execs_nil ?_
    refine e_gone S6 ?_
    intro s7 S7
    dsimp only
    refine turn1_end G BL S7 (by ktr_rel) (by ktr_rel) (by ktr_rel) (by ktr_rel) (fun s' S' => S'.tupE (by ktr_rel) x) ?_
    intro s8 S8
    exact hk0 _ (fun q hq => mem_del (hv q hq).2.2.2 (mem_upd_ne (hv q hq).2.2.1 (mem_upd_ne (hv q hq).2.1 (mem_upd_ne (hv q hq).2.2.2 (hv q hq).1)))) [_, _] _ S8
end
end Mine

end

section
open PySem PySem.W PyProof.Rows PySem.Calls
set_option maxRecDepth 100000
namespace Mine
local macro_rules | `(tactic| ktr_rel) => `(tactic| first | assumption | with_reducible exact mem_upd | ((with_reducible refine' mem_upd_ne ?h9 ?m9); (case h9 => decide); (case m9 => ktr_rel)) | ((with_reducible refine' mem_del ?h9 ?m9); (case h9 => decide); (case m9 => ktr_rel)) | exact List.Mem.head _ | exact List.Mem.tail _ (by ktr_rel))

section
variable {prog : Program} {w : World} {E : Value → Shared → Prop} {s : Shared} {h₀ : Heap} {L : Addr} {s₁ : Shared} {vs vs0 : List (Str × Value)} {news : List (Addr × Obj)} {mg mb : Str → Option Value}
  {f a : Addr} {fo : Obj} {dV kV doc pm cdv ct cd : Value} {an : Option Addr} {params : Arguments} {name qual nm : Str} {p : Program} {loose : List Str}

theorem take_zero {l : List UInt8} {n : Nat} (h : 0 < n) : (l.take n)[0]? = l[0]? := by
  rw [List.getElem?_take]; simp [h]
set_option maxHeartbeats 4000000 in
theorem turn1 {pt : List UInt8} {c : Int} {tp tc : Tok} {Q : Flow → Shared → Prop} (K : Below callerA h₀ [] h₀) (G : Glo mg mb h₀) (T : TopRead p loose mg mb h₀) (FS : StripAt mg h₀ f fo dV kV doc pm cdv ct an params name qual) (BL : Blts mg mb p loose)
    (S : St h₀ L s₁ vs news s) (h1 : (("part" : Str), Value.bytes pt.toArray tp) ∈ vs) (h2 : (("cut" : Str), Value.int c tc) ∈ vs) (hz : pt.length ≤ 1000) (hc0 : 0 ≤ c) (hcut : min c.toNat pt.length = pt.findIdx (· == 37))
    (hv : ∀ q ∈ vs0, q ∈ vs ∧ (q.1 == "due") = false ∧ (q.1 == "refuse") = false ∧ (q.1 == "told") = false ∧ (q.1 == "refused") = false ∧ (q.1 == "err") = false)
    (hQ : ∀ s', St h₀ L s₁ vs0 news s' → Q .next s') :
    wpAny (model prog w) (callerA.deeper (envOf nm lawScope L a cd)) (execs (forBody innerFor) (envOf nm lawScope L a cd)) Q E s := by
  dsimp only [forBody, innerFor, mainFor, fBody, lawDef, PySem.Challenge.pw_dv0018_01]
  refine wpAny_execs_cons ?_
  refine wpAny_Assign_Name ?_
  refine Subscript_ ?_
  refine e_loc S (by ktr_rel) ?_
  refine wpAny_Slice ?_
  refine evalPart_none_step ?_
  refine evalPart_some_step ?_
  refine e_loc S (by ktr_rel) ?_
  refine evalPart_none_step ?_
  refine s_cut S .none (.int _ _) (by omega) ?_
  intro t2 s2 S2
  rw [pick_hi _ hc0]
  refine e_st S2 ?_
  intro s3 S3
  dsimp only
  refine wpAny_execs_cons ?_
  refine wpAny_Assign_Name ?_
  refine BoolOp_and ?_
  refine wpAny_Compare1 ?_
  refine e_loc S3 (by ktr_rel) ?_
  refine Call_ ?_
  refine e_blt S3 G BL.len ?_
  refine PyProof.Rows.callWith_builtin1 ?_
  refine spliced_more ?_
  refine e_loc S3 (by ktr_rel) ?_
  refine spliced_none ?_
  refine c_len S3 (by simp; omega) ?_
  intro t4 s4 S4
  refine lt_int ?_
  refine wpAny_truthy_bool ?_
  have hvv : ∀ (vs' : List (Str × Value)), (∀ q ∈ vs0, q ∈ vs') → ∀ q ∈ vs0, q ∈ vs' ∧ (q.1 == "told") = false ∧ (q.1 == "refused") = false ∧ (q.1 == "err") = false := fun vs' h q hq => ⟨h q hq, (hv q hq).2.2.2⟩
  by_cases hlt : c < (pt.length : Int)
  · have hidx : pt.findIdx (· == 37) = c.toNat := by omega
    have hlt' : pt.findIdx (· == 37) < pt.length := by omega
    rw [if_pos (by simpa using hlt)]
    refine BoolOp_one ?_
    refine wpAny_Compare1 ?_
    refine Subscript_ ?_
    refine e_loc S4 (by ktr_rel) ?_
    refine e_int S4 ?_
    intro t5 s5 S5
    refine s_item S5 (by omega) (by decide) (by omega) ?_
    intro t6 s6 S6
    refine e_int S6 ?_
    intro t7 s7 S7
    refine ne_int ?_
    refine e_st S7 ?_
    intro s8 S8
    dsimp only
    have hget : pt[0]? = some (pt.getD 0 0) := by
      rw [List.getD_eq_getElem?_getD, List.getElem?_eq_getElem (by omega)]; rfl
    by_cases h91 : pt.getD 0 0 = 91
    · have hbv : (((pt.getD (Int.toNat 0) 0).toNat : Int) != 91) = false := by
        show (((pt.getD 0 0).toNat : Int) != 91) = false
        rw [h91]; rfl
      rw [hbv] at S8
      have hpos : 0 < pt.findIdx (· == 37) := by
        rcases Nat.eq_zero_or_pos (pt.findIdx (· == 37)) with h0 | h0
        · exfalso
          have hg := List.findIdx_getElem (p := (· == 37)) (xs := pt) (w := hlt')
          have e0 : pt[pt.findIdx (· == 37)]'hlt' = 91 := by
            have : pt[pt.findIdx (· == 37)]? = some 91 := by rw [h0, hget, h91]
            rw [List.getElem?_eq_getElem hlt'] at this
            exact Option.some.inj this
          rw [e0] at hg
          exact absurd hg (by decide)
        · exact h0
      refine wpAny_execs_cons ?_
      refine wpAny_If ?_
      refine isTrue_and ?_
      refine wpAny_isTrue_Compare1 ?_
      refine e_loc S8 (by ktr_rel) ?_
      refine Call_ ?_
      refine e_blt S8 G BL.len ?_
      refine PyProof.Rows.callWith_builtin1 ?_
      refine spliced_more ?_
      refine e_loc S8 (by ktr_rel) ?_
      refine spliced_none ?_
      refine c_len S8 (by simp; omega) ?_
      intro t9 s9 S9
      refine lt_int ?_
      refine wpAny_truthy_bool ?_
      rw [if_pos (by simpa using hlt)]
      refine isTrue_and ?_
      refine isTrue_not ?_
      refine isTrue_plain ?_
      refine e_loc S9 (by ktr_rel) ?_
      refine wpAny_truthy_bool ?_
      rw [if_pos (by decide)]
      refine isTrue_and_nil ?_
      rw [if_pos rfl]
      refine wpAny_execs_cons ?_
      refine wpAny_Assign_Name ?_
      refine wpAny_BinOp ?_
      refine e_loc S9 (by ktr_rel) ?_
      refine e_byt S9 ?_
      intro t10 s10 S10
      refine o_cat S10 (by simp; omega) ?_
      intro t11 s11 S11
      rw [List.append_toArray]
      refine e_st S11 ?_
      intro s12 S12
      dsimp only
      refine wpAny_execs_nil ?_
      dsimp only
      refine turn1_try K G T FS BL S12 (by ktr_rel) (by ktr_rel) (by ktr_rel) hz (.inr (.inl ⟨hlt', ?_, rfl, ?_⟩)) (hvv _ ?_) hQ
      · rw [take_zero hpos, hget, h91]
      · rw [hidx]
      · exact fun q hq => mem_upd_ne (hv q hq).2.1 (mem_upd_ne (hv q hq).2.2.1 (mem_upd_ne (hv q hq).2.1 (hv q hq).1))
    · have hbv : (((pt.getD (Int.toNat 0) 0).toNat : Int) != 91) = true := by
        show (((pt.getD 0 0).toNat : Int) != 91) = true
        rw [bne_iff_ne]
        intro h
        exact h91 (UInt8.toNat_inj.mp (by show (pt.getD 0 0).toNat = 91; omega))
      rw [hbv] at S8
      refine wpAny_execs_cons ?_
      refine wpAny_If ?_
      refine isTrue_and ?_
      refine wpAny_isTrue_Compare1 ?_
      refine e_loc S8 (by ktr_rel) ?_
      refine Call_ ?_
      refine e_blt S8 G BL.len ?_
      refine PyProof.Rows.callWith_builtin1 ?_
      refine spliced_more ?_
      refine e_loc S8 (by ktr_rel) ?_
      refine spliced_none ?_
      refine c_len S8 (by simp; omega) ?_
      intro t9 s9 S9
      refine lt_int ?_
      refine wpAny_truthy_bool ?_
      rw [if_pos (by simpa using hlt)]
      refine isTrue_and ?_
      refine isTrue_not ?_
      refine isTrue_plain ?_
      refine e_loc S9 (by ktr_rel) ?_
      refine wpAny_truthy_bool ?_
      rw [if_neg (by decide)]
      rw [if_neg (by decide)]
      refine wpAny_execs_nil ?_
      dsimp only
      refine turn1_try K G T FS BL S9 (by ktr_rel) (by ktr_rel) (by ktr_rel) hz (.inr (.inr ⟨hlt', ?_, rfl, ?_⟩)) (hvv _ ?_) hQ
      · rcases Nat.eq_zero_or_pos (pt.findIdx (· == 37)) with h0 | h0
        · rw [h0]; simp
        · rw [take_zero h0, hget]
          intro h
          exact h91 (Option.some.inj h)
      · rw [hidx]
      · exact fun q hq => mem_upd_ne (hv q hq).2.2.1 (mem_upd_ne (hv q hq).2.1 (hv q hq).1)
  · have hidx : ¬ pt.findIdx (· == 37) < pt.length := by omega
    rw [if_neg (by simpa using hlt)]
    refine e_st S4 ?_
    intro s8 S8
    have hbv : decide (c < ((pt.toArray.size : Nat) : Int)) = false := by simpa using hlt
    rw [hbv] at S8
    dsimp only
    refine wpAny_execs_cons ?_
    refine wpAny_If ?_
    refine isTrue_and ?_
    refine wpAny_isTrue_Compare1 ?_
    refine e_loc S8 (by ktr_rel) ?_
    refine Call_ ?_
    refine e_blt S8 G BL.len ?_
    refine PyProof.Rows.callWith_builtin1 ?_
    refine spliced_more ?_
    refine e_loc S8 (by ktr_rel) ?_
    refine spliced_none ?_
    refine c_len S8 (by simp; omega) ?_
    intro t9 s9 S9
    refine lt_int ?_
    refine wpAny_truthy_bool ?_
    rw [if_neg (by simpa using hlt)]
    rw [if_neg (by decide)]
    refine wpAny_execs_nil ?_
    dsimp only
    refine turn1_try K G T FS BL S9 (by ktr_rel) (by ktr_rel) (by ktr_rel) hz (.inl ⟨hidx, rfl, ?_⟩) (hvv _ ?_) hQ
    · rw [List.take_of_length_le (by omega)]
    · exact fun q hq => mem_upd_ne (hv q hq).2.2.1 (mem_upd_ne (hv q hq).2.1 (hv q hq).1)
end
end Mine

end

section
open PySem PySem.W PyProof.Rows PySem.Calls
set_option maxRecDepth 100000
namespace Mine
local macro_rules | `(tactic| ktr_rel) => `(tactic| first | assumption | with_reducible exact mem_upd | ((with_reducible refine' mem_upd_ne ?h9 ?m9); (case h9 => decide); (case m9 => ktr_rel)) | ((with_reducible refine' mem_del ?h9 ?m9); (case h9 => decide); (case m9 => ktr_rel)) | exact List.Mem.head _ | exact List.Mem.tail _ (by ktr_rel))

/-- the place of the first per cent sign at or behind k, the length where there is none -/
def nxt (R : List UInt8) (k : Nat) : Int := (k : Int) + ((R.drop k).findIdx (· == 37) : Nat)
theorem cut_take (R : List UInt8) (k : Nat) : min (nxt R 0).toNat (R.take k).length = (R.take k).findIdx (· == 37) := by
  unfold nxt
  rw [List.findIdx_take, List.length_take]
  have := List.findIdx_le_length (p := (· == (37 : UInt8))) (xs := R)
  simp only [List.drop_zero]
  omega
theorem cut_drop (R : List UInt8) (k : Nat) : min (nxt R k - k).toNat (R.drop k).length = (R.drop k).findIdx (· == 37) := by
  unfold nxt
  have := List.findIdx_le_length (p := (· == (37 : UInt8))) (xs := R.drop k)
  omega
theorem cut_br (R : List UInt8) (k : Nat) : min (nxt R k - k + 1).toNat (91 :: R.drop k).length = (91 :: R.drop k).findIdx (· == 37) := by
  unfold nxt
  have := List.findIdx_le_length (p := (· == (37 : UInt8))) (xs := R.drop k)
  rw [List.findIdx_cons]
  simp only [List.length_cons]
  have : (((91 : UInt8) == 37)) = false := by decide
  rw [this]
  simp only [cond_false]
  omega

section
variable {prog : Program} {w : World} {E : Value → Shared → Prop} {s : Shared} {h₀ : Heap} {L : Addr} {s₁ : Shared} {vs vs0 : List (Str × Value)} {news : List (Addr × Obj)} {mg mb : Str → Option Value}
  {f a : Addr} {fo : Obj} {dV kV doc pm cdv ct cd : Value} {an : Option Addr} {params : Arguments} {name qual nm : Str} {p : Program} {loose : List Str}

set_option maxHeartbeats 4000000 in
theorem inner1 {R : List UInt8} {AH : Addr} {xs : List Value} {cc k : Nat} {tr tk : Tok} {Q : Flow → Shared → Prop} (K : Below callerA h₀ [] h₀) (G : Glo mg mb h₀) (T : TopRead p loose mg mb h₀) (FS : StripAt mg h₀ f fo dV kV doc pm cdv ct an params name qual) (BL : Blts mg mb p loose)
    (hE : PassesOwn (model prog w) (callerA.deeper (envOf nm lawScope L a cd)) (envOf nm lawScope L a cd) E)
    (S : St h₀ L s₁ vs news s) (h1 : (("row" : Str), Value.bytes R.toArray tr) ∈ vs) (h2 : (("ahead" : Str), Value.ref AH) ∈ vs) (h3 : (("k" : Str), Value.int k tk) ∈ vs) (hm : (AH, listOf xs.toArray cc) ∈ news)
    (hx : ∀ i, i ≤ R.length → ∃ t, xs[i]? = some (.int (nxt R i) t)) (hz : R.length ≤ 900) (hk : k ≤ R.length)
    (hv : ∀ q ∈ vs0, q ∈ vs ∧ (q.1 == "due") = false ∧ (q.1 == "refuse") = false ∧ (q.1 == "told") = false ∧ (q.1 == "refused") = false ∧ (q.1 == "err") = false ∧ (q.1 == "part") = false ∧ (q.1 == "cut") = false)
    (hQ : ∀ s', St h₀ L s₁ vs0 news s' → Q .next s') :
    wpAny (model prog w) (callerA.deeper (envOf nm lawScope L a cd)) (execs (forBody mainFor) (envOf nm lawScope L a cd)) Q E s := by
  have e : forBody mainFor = [innerFor] := rfl
  rw [e]
  refine wpAny_execs_cons ?_
  have e : innerFor = .For (match innerFor with | .For t .. => t | _ => .Name "" ⟨0, 0, 0, 0⟩) (match innerFor with | .For _ i .. => i | _ => .Name "" ⟨0, 0, 0, 0⟩) (forBody innerFor) [] (match innerFor with | .For _ _ _ _ p => p | _ => ⟨0, 0, 0, 0⟩) := rfl
  rw [e]
  refine wpAny_For ?_ (by intro _; rfl)
  obtain ⟨ta0, ha0⟩ := hx 0 (Nat.zero_le _)
  obtain ⟨tak, hak⟩ := hx k hk
  have hk63 : (k : Int) < 2 ^ 63 := by omega
  dsimp only [innerFor, forBody, mainFor, fBody, lawDef, PySem.Challenge.pw_dv0018_01]
  refine Tuple_ ?_
  refine spliced_more ?_
  refine Tuple_ ?_
  refine spliced_more ?_
  refine Subscript_ ?_
  refine e_loc S (by ktr_rel) ?_
  refine wpAny_Slice ?_
  refine evalPart_none_step ?_
  refine evalPart_some_step ?_
  refine e_loc S (by ktr_rel) ?_
  refine evalPart_none_step ?_
  refine s_cut S .none (.int _ _) (by omega) ?_
  intro t1 s1 S1
  rw [pick_hi _ (by omega)]
  refine spliced_more ?_
  refine Subscript_ ?_
  refine e_loc S1 (by ktr_rel) ?_
  refine e_int S1 ?_
  intro t2 s2 S2
  refine s_litem (S2.lst hm) (by decide) (by decide) ha0 ?_
  refine spliced_none ?_
  refine e_tup S2 (by simp) ?_
  intro T1 s3 S3 l3
  refine spliced_more ?_
  refine Tuple_ ?_
  refine spliced_more ?_
  refine Subscript_ ?_
  refine e_loc S3 (by ktr_rel) ?_
  refine wpAny_Slice ?_
  refine evalPart_some_step ?_
  refine e_loc S3 (by ktr_rel) ?_
  refine evalPart_none_step ?_
  refine evalPart_none_step ?_
  refine s_cut S3 (.int _ _) .none (by omega) ?_
  intro t4 s4 S4
  rw [pick_lo _ (by omega)]
  refine spliced_more ?_
  refine wpAny_BinOp ?_
  refine Subscript_ ?_
  refine e_loc S4 (by ktr_rel) ?_
  refine e_loc S4 (by ktr_rel) ?_
  refine s_litem (S4.lst (.tail _ hm)) (by omega) hk63 (by simpa using hak) ?_
  refine e_loc S4 (by ktr_rel) ?_
  refine o_sub S4 ?_
  intro t5 s5 S5
  refine spliced_none ?_
  refine e_tup S5 (by simp) ?_
  intro T2 s6 S6 l6
  refine spliced_more ?_
  refine Tuple_ ?_
  refine spliced_more ?_
  refine wpAny_BinOp ?_
  refine e_byt S6 ?_
  intro t7 s7 S7
  refine Subscript_ ?_
  refine e_loc S7 (by ktr_rel) ?_
  refine wpAny_Slice ?_
  refine evalPart_some_step ?_
  refine e_loc S7 (by ktr_rel) ?_
  refine evalPart_none_step ?_
  refine evalPart_none_step ?_
  refine s_cut S7 (.int _ _) .none (by omega) ?_
  intro t8 s8 S8
  rw [pick_lo _ (by omega)]
  refine o_cat S8 (by simp; omega) ?_
  intro t9 s9 S9
  rw [List.append_toArray]
  refine spliced_more ?_
  refine wpAny_BinOp ?_
  refine wpAny_BinOp ?_
  refine Subscript_ ?_
  refine e_loc S9 (by ktr_rel) ?_
  refine e_loc S9 (by ktr_rel) ?_
  refine s_litem (S9.lst (.tail _ (.tail _ hm))) (by omega) hk63 (by simpa using hak) ?_
  refine e_loc S9 (by ktr_rel) ?_
  refine o_sub S9 ?_
  intro t10 s10 S10
  refine e_int S10 ?_
  intro t11 s11 S11
  refine o_add S11 ?_
  intro t12 s12 S12
  refine spliced_none ?_
  refine e_tup S12 (by simp) ?_
  intro T3 s13 S13 l13
  refine spliced_none ?_
  refine e_tup S13 (by simp) ?_
  intro T4 s14 S14 l14
  refine loop_tup rfl (by exact List.Mem.head _) S14 (fun _ vs' news' => (∀ q ∈ vs0, q ∈ vs') ∧ news' = _ :: _ :: _ :: _ :: news) ⟨fun q hq => (hv q hq).1, rfl⟩ ?_ ?_ hE
  · rintro i v vs₁ news₁ s15 own hi ⟨hv1, rfl⟩ _ _ S15
    have key : ∃ (pt : List UInt8) (c : Int) (tp tc : Tok) (TT : Addr), v = .ref TT ∧ (TT, tupObj [.bytes pt.toArray tp, .int c tc]) ∈ (T4, tupObj [Value.ref T1, Value.ref T2, Value.ref T3]) ::
        (T3, tupObj [Value.bytes ([91] ++ List.drop (Int.toNat ↑k) R).toArray t9, Value.int (nxt R k - ↑k + 1) t12]) ::
          (T2, tupObj [Value.bytes (List.drop (Int.toNat ↑k) R).toArray t4, Value.int (nxt R k - ↑k) t5]) ::
            (T1, tupObj [Value.bytes (List.take (Int.toNat ↑k) R).toArray t1, Value.int (nxt R 0) ta0]) :: news ∧
        pt.length ≤ 1000 ∧ 0 ≤ c ∧ min c.toNat pt.length = pt.findIdx (· == 37) := by
      have hi3 : i < 3 := by
        have := (List.getElem?_eq_some_iff.mp hi).1
        simpa using this
      rcases i with _ | _ | _ | i
      · obtain rfl : Value.ref T1 = v := by simpa using hi
        exact ⟨_, _, _, _, T1, rfl, .tail _ (.tail _ (.tail _ (.head _))), by simp; omega, by unfold nxt; omega, cut_take R k⟩
      · obtain rfl : Value.ref T2 = v := by simpa using hi
        exact ⟨_, _, _, _, T2, rfl, .tail _ (.tail _ (.head _)), by simp; omega, by unfold nxt; omega, cut_drop R k⟩
      · obtain rfl : Value.ref T3 = v := by simpa using hi
        exact ⟨_, _, _, _, T3, rfl, .tail _ (.head _), by simp; omega, by unfold nxt; omega, cut_br R k⟩
      · omega
    obtain ⟨pt, c, tp, tc, TT, rfl, hTT, hptz, hc0, hcut⟩ := key
    refine e_unp S15 (List.mem_append_left _ hTT) rfl ?_
    intro s16 S16
    refine assignInOrder_cons (wpAny_assign_Name (e_st S16 ?_))
    intro s17 S17
    refine assignInOrder_cons (wpAny_assign_Name (e_st S17 ?_))
    intro s18 S18
    refine assignInOrder_nil ?_
    refine turn1 (vs0 := vs0) K G T FS BL S18 (by ktr_rel) (by ktr_rel) hptz hc0 hcut (fun q hq => ⟨mem_upd_ne (hv q hq).2.2.2.2.2.2.2 (mem_upd_ne (hv q hq).2.2.2.2.2.2.1 (hv1 q hq)), (hv q hq).2.1, (hv q hq).2.2.1, (hv q hq).2.2.2.1, (hv q hq).2.2.2.2.1, (hv q hq).2.2.2.2.2.1⟩) ?_
    intro s19 S19
    exact ⟨vs0, _, ⟨fun _ h => h, rfl⟩, rfl, S19⟩
  · rintro vs₁ news₁ s15 ⟨hv1, rfl⟩ _ S15
    dsimp only
    refine wpAny_execs_nil ?_
    exact hQ _ (S15.weak hv1 (fun q hq => .tail _ (.tail _ (.tail _ (.tail _ hq)))))
end
end Mine

end

section
open PySem PySem.W PyProof.Rows PySem.Calls
set_option maxRecDepth 100000
namespace Mine
local macro_rules | `(tactic| ktr_rel) => `(tactic| first | assumption | with_reducible exact mem_upd | ((with_reducible refine' mem_upd_ne ?h9 ?m9); (case h9 => decide); (case m9 => ktr_rel)) | ((with_reducible refine' mem_del ?h9 ?m9); (case h9 => decide); (case m9 => ktr_rel)) | exact List.Mem.head _ | exact List.Mem.tail _ (by ktr_rel))

def downFor : Stmt := match fBody lawDef with
  | _ :: _ :: _ :: d :: _ => d
  | _ => .Pass ⟨0, 0, 0, 0⟩
theorem nxt_last (R : List UInt8) : nxt R R.length = R.length := by
  unfold nxt
  rw [List.drop_length]; rfl
theorem nxt_step {R : List UInt8} {j : Nat} (hj : j < R.length) : nxt R j = if R.getD j 0 = 37 then (j : Int) else nxt R (j + 1) := by
  unfold nxt
  rw [List.drop_eq_getElem_cons hj, List.findIdx_cons]
  have e : R.getD j 0 = R[j] := by rw [List.getD_eq_getElem?_getD, List.getElem?_eq_getElem hj]; rfl
  rw [e]
  by_cases h : R[j] = 37
  · rw [if_pos h]
    have : (R[j] == 37) = true := by simpa using h
    rw [this]; simp
  · rw [if_neg h]
    have : (R[j] == 37) = false := by simpa using h
    rw [this]
    simp only [cond_false]
    push_cast
    omega
def Filled (R : List UInt8) (i : Nat) (xs : List Value) : Prop :=
  (∃ ns, IntsAre xs ns ∧ ns.length = R.length + 1) ∧ ∀ j, R.length - i ≤ j → j ≤ R.length → ∃ t, xs[j]? = some (.int (nxt R j) t)

section
variable {prog : Program} {w : World} {E : Value → Shared → Prop} {s : Shared} {h₀ : Heap} {L : Addr} {s₁ : Shared} {vs vs0 : List (Str × Value)} {news : List (Addr × Obj)} {mg mb : Str → Option Value}
  {f a : Addr} {fo : Obj} {dV kV doc pm cdv ct cd : Value} {an : Option Addr} {params : Arguments} {name qual nm : Str} {p : Program} {loose : List Str}

theorem down_turn {R : List UInt8} {AH : Addr} {xs : List Value} {cc i : Nat} {tr tk : Tok} {own : List (Addr × Obj)} {Q : Flow → Shared → Prop}
    (S : St h₀ L s₁ vs ((AH, listOf xs.toArray cc) :: own) s) (ho : ∀ p ∈ own, p.1 ≠ AH) (h1 : (("row" : Str), Value.bytes R.toArray tr) ∈ vs) (h2 : (("ahead" : Str), Value.ref AH) ∈ vs) (h3 : (("k" : Str), Value.int ((R.length : Int) - 1 + i * -1) tk) ∈ vs)
    (hi : i < R.length) (hz : R.length ≤ 900) (hf : Filled R i xs)
    (hQ : ∀ s' xs', Filled R (i + 1) xs' → St h₀ L s₁ vs ((AH, listOf xs'.toArray cc) :: own) s' → Q .next s') :
    wpAny (model prog w) (callerA.deeper (envOf nm lawScope L a cd)) (execs (forBody downFor) (envOf nm lawScope L a cd)) Q E s := by
  obtain ⟨⟨ns, hns, hnl⟩, hfl⟩ := hf
  have hk : (R.length : Int) - 1 + i * -1 = ((R.length - 1 - i : Nat) : Int) := by omega
  rw [hk] at h3
  have hj : R.length - 1 - i < R.length := by omega
  have hxl : xs.length = R.length + 1 := by rw [hns.length, hnl]
  have fin : ∀ (u : Tok), Filled R (i + 1) (xs.set (R.length - 1 - i) (.int (nxt R (R.length - 1 - i)) u)) := fun u => by
    refine ⟨⟨ns.set (R.length - 1 - i) (nxt R (R.length - 1 - i)), ints_set hns _, by simpa using hnl⟩, fun j h1 h2 => ?_⟩
    by_cases hjj : j = R.length - 1 - i
    · subst hjj
      exact ⟨u, by rw [List.getElem?_set_self (by omega)]⟩
    · rw [List.getElem?_set_ne (by omega)]
      exact hfl j (by omega) h2
  dsimp only [downFor, forBody, fBody, lawDef, PySem.Challenge.pw_dv0018_01]
  refine wpAny_execs_cons ?_
  refine wpAny_Assign_Subscript ?_
  refine IfExp_ ?_
  refine wpAny_isTrue_Compare1 ?_
  refine Subscript_ ?_
  refine e_loc S (by ktr_rel) ?_
  refine e_loc S (by ktr_rel) ?_
  refine s_item S (by omega) (by omega) (by omega) ?_
  intro t1 s1 S1
  refine e_int S1 ?_
  intro t2 s2 S2
  refine eq_int ?_
  refine wpAny_truthy_bool ?_
  by_cases h37 : R.getD (R.length - 1 - i) 0 = 37
  · have e37 : nxt R (R.length - 1 - i) = ((R.length - 1 - i : Nat) : Int) := by rw [nxt_step hj, if_pos h37]
    rw [if_pos (by rw [Int.toNat_natCast, h37]; rfl)]
    refine e_loc S2 (by ktr_rel) ?_
    refine e_loc S2 (by ktr_rel) ?_
    refine e_loc S2 (by ktr_rel) ?_
    refine s_set S2 ho hns (by omega) (by omega) (by omega) ?_
    intro s3 S3
    rw [Int.toNat_natCast, ← e37] at S3
    dsimp only
    refine wpAny_execs_nil ?_
    exact hQ _ _ (fin _) S3
  · have e37 : nxt R (R.length - 1 - i) = nxt R (R.length - 1 - i + 1) := by rw [nxt_step hj, if_neg h37]
    rw [if_neg (by
      rw [Int.toNat_natCast]
      intro h
      have h' : ((R.getD (R.length - 1 - i) 0).toNat : Int) = 37 := by simpa using h
      exact h37 (UInt8.toNat_inj.mp (by show (R.getD (R.length - 1 - i) 0).toNat = 37; omega)))]
    obtain ⟨tn, hn⟩ := hfl (R.length - 1 - i + 1) (by omega) (by omega)
    refine Subscript_ ?_
    refine e_loc S2 (by ktr_rel) ?_
    refine wpAny_BinOp ?_
    refine e_loc S2 (by ktr_rel) ?_
    refine e_int S2 ?_
    intro t3 s3 S3
    refine o_add S3 ?_
    intro t4 s4 S4
    refine s_litem (S4.lst (.head _)) (by omega) (by omega) (v := .int (nxt R (R.length - 1 - i + 1)) tn) (by rw [← hn]; congr 1) ?_
    refine e_loc S4 (by ktr_rel) ?_
    refine e_loc S4 (by ktr_rel) ?_
    refine s_set S4 ho hns (by omega) (by omega) (by omega) ?_
    intro s5 S5
    rw [Int.toNat_natCast, ← e37] at S5
    dsimp only
    refine wpAny_execs_nil ?_
    exact hQ _ _ (fin _) S5
end
end Mine

end

section
open PySem PySem.W PyProof.Rows PySem.Calls
set_option maxRecDepth 100000
namespace Mine
local macro_rules | `(tactic| ktr_rel) => `(tactic| first | assumption | with_reducible exact mem_upd | ((with_reducible refine' mem_upd_ne ?h9 ?m9); (case h9 => decide); (case m9 => ktr_rel)) | ((with_reducible refine' mem_del ?h9 ?m9); (case h9 => decide); (case m9 => ktr_rel)) | exact List.Mem.head _ | exact List.Mem.tail _ (by ktr_rel))

section
variable {prog : Program} {w : World} {M : Model} {A : Around} {E : Value → Shared → Prop} {s : Shared} {h₀ : Heap} {L : Addr} {s₁ : Shared} {vs vs0 : List (Str × Value)} {news : List (Addr × Obj)} {mg mb : Str → Option Value}
  {f a : Addr} {fo : Obj} {dV kV doc pm cdv ct cd : Value} {an : Option Addr} {params : Arguments} {name qual nm : Str} {p : Program} {loose : List Str}
theorem o_neg {i : Int} {t : Tok} {Q : Value → Shared → Prop} (S : St h₀ L s₁ vs news s) (h : ∀ t s', St h₀ L s₁ vs news s' → Q (.int (-i) t) s') : wpAny (model prog w) A (unaryOp .USub (.int i t)) Q E s := neg_int (h _ _ (S.tok _))

def lawRest : List Stmt := match fBody lawDef with
  | _ :: r => r
  | [] => []

set_option maxHeartbeats 4000000 in
theorem rest1 {R : List UInt8} {tr : Tok} {Q : Flow → Shared → Prop} (K : Below callerA h₀ [] h₀) (G : Glo mg mb h₀) (T : TopRead p loose mg mb h₀) (FS : StripAt mg h₀ f fo dV kV doc pm cdv ct an params name qual) (BL : Blts mg mb p loose)
    (S : St h₀ L s₁ [(("row" : Str), Value.bytes R.toArray tr)] [] s) (hz : R.length ≤ 200)
    (hQ : ∀ s', St h₀ L s₁ [] [] s' → Q (.ret (.bool true)) s') :
    wpAny (model prog w) (callerA.deeper (envOf nm lawScope L a cd)) (execs lawRest (envOf nm lawScope L a cd)) Q (fun _ _ => False) s := by
  have e : lawRest = (match lawRest with | x :: _ => x | [] => .Pass ⟨0, 0, 0, 0⟩) :: (match lawRest with | _ :: x :: _ => x | _ => .Pass ⟨0, 0, 0, 0⟩) :: downFor :: mainFor :: lawRest.drop 4 := rfl
  rw [e]
  refine wpAny_execs_cons ?_
  dsimp only [lawRest, fBody, lawDef, PySem.Challenge.pw_dv0018_01]
  refine wpAny_Assign_Name ?_
  refine Call_ ?_
  refine e_blt S G BL.len ?_
  refine PyProof.Rows.callWith_builtin1 ?_
  refine spliced_more ?_
  refine e_loc S (by ktr_rel) ?_
  refine spliced_none ?_
  refine c_len S (by simp; omega) ?_
  intro t1 s1 S1
  rw [List.size_toArray]
  refine e_st S1 ?_
  intro s2 S2
  dsimp only
  refine wpAny_execs_cons ?_
  refine wpAny_Assign_Name ?_
  refine wpAny_BinOp ?_
  refine List_ ?_
  refine spliced_more ?_
  refine e_loc S2 (by ktr_rel) ?_
  refine spliced_none ?_
  refine e_lst S2 (by simp) ?_
  intro D1 s3 S3 _
  refine wpAny_BinOp ?_
  refine e_loc S3 (by ktr_rel) ?_
  refine e_int S3 ?_
  intro t4 s4 S4
  refine o_add S4 ?_
  intro t5 s5 S5
  refine o_lmul S5 (.head _) (by omega) (by omega) (by simp; omega) ?_
  intro AH s6 S6
  have hrep : (List.replicate ((R.length : Int) + 1).toNat [Value.int (R.length : Nat) t1]).flatten = List.replicate (R.length + 1) (.int (R.length : Nat) t1) := by
    rw [show ((R.length : Int) + 1).toNat = R.length + 1 by omega, rep_one]
  rw [hrep] at S6
  refine e_st S6 ?_
  intro s7 S7
  dsimp only
  refine wpAny_execs_cons ?_
  have e : downFor = .For (.Name "k" (match downFor with | .For (.Name _ p) .. => p | _ => ⟨0, 0, 0, 0⟩)) (match downFor with | .For _ i .. => i | _ => .Name "" ⟨0, 0, 0, 0⟩) (forBody downFor) [] (match downFor with | .For _ _ _ _ p => p | _ => ⟨0, 0, 0, 0⟩) := rfl
  rw [e]
  refine wpAny_For ?_ (by intro _; rfl)
  dsimp only [downFor, fBody, lawDef, PySem.Challenge.pw_dv0018_01]
  refine Call_ ?_
  refine e_blt S7 G BL.range ?_
  refine PyProof.Rows.callWith_type1 ?_
  refine spliced_more ?_
  refine wpAny_BinOp ?_
  refine e_loc S7 (by ktr_rel) ?_
  refine e_int S7 ?_
  intro t8 s8 S8
  refine o_sub S8 ?_
  intro t9 s9 S9
  refine spliced_more ?_
  refine UnaryOp_ ?_
  refine e_int S9 ?_
  intro t10 s10 S10
  refine o_neg S10 ?_
  intro t11 s11 S11
  refine spliced_more ?_
  refine UnaryOp_ ?_
  refine e_int S11 ?_
  intro t12 s12 S12
  refine o_neg S12 ?_
  intro t13 s13 S13
  refine spliced_none ?_
  refine c_range3 S13 (by decide) (by decide) ?_
  intro r t₀ u₀ v₀ s14 S14 hr
  have S14' : St h₀ L s₁ [(("row" : Str), Value.bytes R.toArray tr), (("last" : Str), Value.int (R.length : Nat) t1), (("ahead" : Str), Value.ref AH)] [(AH, listOf (List.replicate (R.length + 1) (Value.int (R.length : Nat) t1)).toArray 0)] s14 := by
    refine S14.weak (fun q hq => ?_) (fun q hq => ?_)
    · rcases List.mem_cons.mp hq with rfl | hq
      · ktr_rel
      · rcases List.mem_cons.mp hq with rfl | hq
        · ktr_rel
        · rw [List.mem_singleton.mp hq]; ktr_rel
    · rw [List.mem_singleton.mp hq]; exact .head _
  refine loop_range (n := R.length) rfl hr (small_down (by omega) (by omega) (by decide) (by decide)) (by rw [rangeSize_downNat]; congr 1; omega) S14'
    (fun i vs' news' => vs' = [(("row" : Str), Value.bytes R.toArray tr), (("last" : Str), Value.int (R.length : Nat) t1), (("ahead" : Str), Value.ref AH)] ∧ ∃ xs, news' = [(AH, listOf xs.toArray 0)] ∧ Filled R i xs) ⟨rfl, _, rfl, ?_⟩ ?_ ?_ PassesOwn.never
  · refine ⟨⟨List.replicate (R.length + 1) (R.length : Int), ints_rep _ _ _, by simp⟩, fun j h1 h2 => ?_⟩
    obtain rfl : j = R.length := by omega
    exact ⟨t1, by rw [nxt_last]; simp⟩
  · rintro i t vs' news' s15 own hi ⟨rfl, xs, rfl, hf⟩ _ hown S15
    refine down_turn S15 (fun q hq => hown q hq _ (.head _)) (by ktr_rel) (by ktr_rel) (by ktr_rel) hi (by omega) hf ?_
    intro s16 xs' hf' S16
    exact ⟨_, [(AH, listOf xs'.toArray 0)], ⟨rfl, xs', rfl, hf'⟩, rfl, S16.weak (fun q hq => mem_upd_ne (by
      rcases List.mem_cons.mp hq with rfl | hq
      · rfl
      · rcases List.mem_cons.mp hq with rfl | hq
        · rfl
        · rw [List.mem_singleton.mp hq]; rfl) hq) (fun _ h => h)⟩
  · rintro vs' news' s15 ⟨rfl, xs, rfl, hf⟩ _ S15
    dsimp only
    refine wpAny_execs_cons ?_
    have e : mainFor = .For (.Name "k" (match mainFor with | .For (.Name _ p) .. => p | _ => ⟨0, 0, 0, 0⟩)) (match mainFor with | .For _ i .. => i | _ => .Name "" ⟨0, 0, 0, 0⟩) (forBody mainFor) [] (match mainFor with | .For _ _ _ _ p => p | _ => ⟨0, 0, 0, 0⟩) := rfl
    rw [e]
    refine wpAny_For ?_ (by intro _; rfl)
    dsimp only [mainFor, fBody, lawDef, PySem.Challenge.pw_dv0018_01]
    refine Call_ ?_
    refine e_blt S15 G BL.range ?_
    refine PyProof.Rows.callWith_type1 ?_
    refine spliced_more ?_
    refine wpAny_BinOp ?_
    refine e_loc S15 (by ktr_rel) ?_
    refine e_int S15 ?_
    intro t16 s16 S16
    refine o_add S16 ?_
    intro t17 s17 S17
    refine spliced_none ?_
    refine c_range1 S17 ?_
    intro r2 t₂ u₂ v₂ s18 S18 hr2
    refine loop_range (n := R.length + 1) rfl hr2 (small_one (by decide) (by decide) (by omega) (by omega)) (by rw [rangeSize_nat]; omega) S18
      (fun i vs' news' => vs' = [(("row" : Str), Value.bytes R.toArray tr), (("last" : Str), Value.int (R.length : Nat) t1), (("ahead" : Str), Value.ref AH)] ∧ news' = [(AH, listOf xs.toArray 0)]) ⟨rfl, rfl⟩ ?_ ?_ PassesOwn.never
    · rintro i t vs' news' s19 own hi ⟨rfl, rfl⟩ _ hown S19
      have hk : (0 : Int) + (i : Int) * 1 = ((i : Nat) : Int) := by omega
      rw [hk] at S19
      refine inner1 (vs0 := [(("row" : Str), Value.bytes R.toArray tr), (("last" : Str), Value.int (R.length : Nat) t1), (("ahead" : Str), Value.ref AH)]) K G T FS BL PassesOwn.never S19 (by ktr_rel) (by ktr_rel) (by ktr_rel) (.head _) (fun j hj => hf.2 j (by omega) hj) (by omega) (by omega) (fun q hq => ?_) ?_
      · have hq0 := hq
        rcases List.mem_cons.mp hq with rfl | hq
        · exact ⟨mem_upd_ne rfl hq0, rfl, rfl, rfl, rfl, rfl, rfl, rfl⟩
        · rcases List.mem_cons.mp hq with rfl | hq
          · exact ⟨mem_upd_ne rfl hq0, rfl, rfl, rfl, rfl, rfl, rfl, rfl⟩
          · obtain rfl := List.mem_singleton.mp hq
            exact ⟨mem_upd_ne rfl hq0, rfl, rfl, rfl, rfl, rfl, rfl, rfl⟩
      · intro s20 S20
        exact ⟨_, _, ⟨rfl, rfl⟩, rfl, S20⟩
    · rintro vs' news' s19 ⟨rfl, rfl⟩ _ S19
      dsimp only [List.drop]
      refine wpAny_execs_cons ?_
      refine wpAny_Return_some ?_
      refine e_bool ?_
      exact hQ _ (S19.weak (by simp) (by simp))
end
end Mine

end

open PySem PySem.W PyProof.Rows PySem.Calls Mine
set_option maxRecDepth 100000 in
set_option maxHeartbeats 8000000 in
theorem PySem.Challenge.cw_dv0018_01_holds : PySem.Challenge.rw_dv0018_01.Holds := by
  w_on
  o_law
  k_head
  (case hw => w_witness2)
  k_go0
  k_steps
  rename Shared => sB
  rename World => ww
  rename News _ _ _ _ => NN
  rename Fr _ _ _ _ => FF
  rename CarriedAll _ _ => hC
  rename Heap.IsList _ _ _ => hL
  rename Below _ _ _ _ => KK
  rename Top _ _ _ _ _ _ => TT
  rename Frag.In _ _ => XX
  rename (_ : Shared).gens = #[] => hgens
  have GG : Glo _ _ sB.heap := ⟨TT.g, TT.b, TT.nolimit⟩
  have TR := topRead_of TT
  obtain ⟨f, fo, dV, kV, doc, pm, cdv, ct, an, params, name, qual, FS⟩ : ∃ f fo dV kV doc pm cdv ct an params name qual, StripAt _ sB.heap f fo dV kV doc pm cdv ct an params name qual :=
    ⟨_, _, _, _, _, _, _, _, _, _, _, _, mg_of XX TT.g (by k_is), XX _ _ (by k_is), rfl, codeRec_of XX (by k_is), fun v => rfl⟩
  have BL := Blts.of TR (mg_none_of XX TT.g (by k_is)) (mg_none_of XX TT.g (by k_is)) (mg_none_of XX TT.g (by k_is)) (mg_none_of XX TT.g (by k_is)) (mg_none_of XX TT.g (by k_is)) (by decide +kernel) (by decide +kernel) (by decide +kernel) (by decide +kernel) (by decide +kernel)
  refine c_mkb (s₁ := sB) (vs := []) (news := []) ⟨rfl, rfl, rfl, ⟨_, FF, by simp⟩, NN⟩ rfl hL (ints_of_comp2 hC) (rowInt_in _) (by simp; omega) ?_
  intro t1 s1 S1
  refine e_byt S1 ?_
  intro t2 s2 S2
  refine o_cat S2 (by simp; omega) ?_
  intro t3 s3 S3
  rw [List.append_toArray]
  refine e_st S3 ?_
  intro s4 S4
  skip
  refine wpAny_mono (rest1 (nm := "law") KK GG TR FS BL (S4.weak (fun _ h => by
    rw [List.mem_singleton.mp h]; exact mem_upd) (fun _ h => h)) (by simp; omega) (Q := fun f s' => f = .ret (.bool true) ∧ St sB.heap sB.heap.objs.size sB [] [] s') (fun s' S' => ⟨rfl, S'⟩)) (fun f s' h => ?_) (fun _ _ h => h.elim)
  obtain ⟨rfl, S'⟩ := h
  obtain ⟨m', F', _⟩ := S'.fr
  have hg' : s'.gens = #[] := S'.gens.trans hgens
  refine goodW_bool F' hg' ?_ ?_ S'.os
  · intro cls
    first | rfl | (exact raisesW_false (by wrow_none_raised) cls)
  · first | rfl | (with_unfolding_all rfl)
