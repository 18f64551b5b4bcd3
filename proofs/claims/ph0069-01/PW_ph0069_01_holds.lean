import PyProof.Rows.All
import Wide.All
import OpenK.AllK
import Wide.FinOn
import Lean
import PySem.Challenge.RW_ph0069_01
open PySem PySem.W PySem.Calls PyProof.Rows PySem.Spec
set_option maxRecDepth 100000
set_option Elab.async false
namespace Mine
set_option maxRecDepth 100000 in
set_option maxHeartbeats 8000000 in
open_top hd for PySem.Challenge.rw_ph0069_01
example : (PySem.Challenge.rw_ph0069_01.name = PySem.Challenge.rw_ph0069_01.name) ∧ (hd.heap_39 = hd.heap_39) := by
  k_fill
  exact ⟨rfl, rfl⟩
abbrev Ext (h h' : Heap) : Prop := ∀ b o, h.get? b = some o → h'.get? b = some o

def retOf : Flow → Value
  | .ret v => v
  | _ => .none

/-- an int that is a natural number -/
abbrev vn (n : Nat) (t : Tok) : Value := .int (n : Int) t

/-- what the end of a turn must show: one name turned, all else as it was -/
def End1 {α : Type} (h₀ : Heap) (L : Addr) (mk : α → Tok → Value) (x y : Str) (stored : List Str) (m₀ : Str → Option Value) (news own : List (Addr × Obj)) (a : α) (s₁ : Shared) (Q : Flow → Shared → Prop) (f : Flow) (s₂ : Shared) : Prop :=
  InvPostN h₀ L (fun m' nx => nx = news ∧ (∃ t, m' y = some (mk a t)) ∧ ∀ z, z ≠ x → z ≠ y → stored.contains z = false → m' z = m₀ z) own (news.map (·.1)) s₁ Q f s₂

section
variable {prog : Program} {w : World} {A : Around} {E : Value → Shared → Prop} {s : Shared} {env : Env} {h₀ : Heap} {x : Str} {body : List Stmt} {Q : Flow → Shared → Prop}

/-- a loop over an iterator that turns one name by a fold -/
theorem fold1 {α β : Type} (mk : α → Tok → Value) (mkb : β → Tok → Value) (Inv : α → Prop) (items : List β) (g : α → β → α) (y : Str) (stored : List Str) (a₀ : α)
    {I : Addr} {n : Nat} {P : Nat → Value → Prop} {St : Nat → Heap → Prop} {m₀ : Str → Option Value} {news : List (Addr × Obj)} {t₀ : Tok}
    (W : Walks prog w A I [I] [I] n P St) (hlen : items.length = n) (hP : ∀ i v, i < n → P i v → ∃ b t, items[i]? = some b ∧ v = mkb b t)
    (hLI : env.locals ≠ I) (hI : h₀.get? I = none) (hnI : ∀ p ∈ news, p.1 ≠ I) (hst : St 0 s.heap) (F : Fr h₀ env.locals s.heap m₀) (N : News h₀ env.locals s.heap news)
    (hy : m₀ y = some (mk a₀ t₀)) (hi0 : Inv a₀) (hig : ∀ a b, b ∈ items → Inv a → Inv (g a b))
    (turn : ∀ b tb a ta (u : Str → Option Value) h tk own, b ∈ items → Inv a → OwnOff own (news.map (·.1)) →
      Fr h₀ env.locals h (fun z => if z = x then some (mkb b tb) else if z = y then some (mk a ta) else if stored.contains z then u z else m₀ z) → News h₀ env.locals h (news ++ own) →
      wpAny (model prog w) A (execs body env) (End1 h₀ env.locals mk x y stored m₀ news own (g a b) { s with heap := h, toks := tk } Q) E { s with heap := h, toks := tk })
    (done : ∀ (u : Str → Option Value) t h tk, Inv (items.foldl g a₀) → Fr h₀ env.locals h (fun z => if z = x then u z else if z = y then some (mk (items.foldl g a₀) t) else if stored.contains z then u z else m₀ z) → News h₀ env.locals h news → Q .next { s with heap := h, toks := tk }) :
    LoopAtV prog w A h₀ env x body Q E (.ref I) s := by
  refine loop_invN (fun i m nx => nx = news ∧ Inv ((items.take i).foldl g a₀) ∧ (∃ t, m y = some (mk ((items.take i).foldl g a₀) t)) ∧ ∀ z, z ≠ x → z ≠ y → stored.contains z = false → m z = m₀ z) W ?_ ?_ ?_ ?_ hst F N ⟨rfl, by simpa using hi0, ⟨t₀, by simpa using hy⟩, fun _ _ _ _ => rfl⟩ ?_ ?_
  · intro hm; exact hLI (List.mem_singleton.mp hm)
  · intro b hb; rw [List.mem_singleton.mp hb]; exact hI
  · intro p hp hm; exact hnI p hp (List.mem_singleton.mp hm)
  · intro p hp hm; exact hnI p hp (List.mem_singleton.mp hm)
  · rintro i v m₁ nx h tk own hi hv _ hoff ⟨rfl, hInv, ⟨ta, ha⟩, hm⟩ F₁ N₁
    obtain ⟨b, tb, hb, rfl⟩ := hP i v hi hv
    rw [kpf_map1 ha hm] at F₁
    have hs : (items.take (i + 1)).foldl g a₀ = g ((items.take i).foldl g a₀) b := by
      rw [List.take_add_one, hb]; simp
    have hb' : b ∈ items := List.mem_of_getElem? hb
    refine wpAny_mono (turn b tb _ ta m₁ h tk own hb' hInv hoff F₁ N₁) (fun f s₂ p => ?_) fun _ _ e => e
    have fin : InvEndN h₀ env.locals (fun m' nx_1 => nx_1 = nx ∧ (∃ t, m' y = some (mk (g ((items.take i).foldl g a₀) b) t)) ∧ ∀ z, z ≠ x → z ≠ y → stored.contains z = false → m' z = m₀ z) own (nx.map (·.1)) { s with heap := h, toks := tk } s₂ →
        InvEndN h₀ env.locals (fun m nx_1 => nx_1 = nx ∧ Inv ((items.take (i + 1)).foldl g a₀) ∧ (∃ t, m y = some (mk ((items.take (i + 1)).foldl g a₀) t)) ∧ ∀ z, z ≠ x → z ≠ y → stored.contains z = false → m z = m₀ z) own (nx.map (·.1)) { s with heap := h, toks := tk } s₂ := by
      rintro ⟨h', tk', m', news', nx', e, F', N', hn, ho, hadr, e1, e2, e3⟩
      exact ⟨h', tk', m', news', nx', e, F', N', hn, ho, hadr, e1, by rw [hs]; exact hig _ _ hb' hInv, by rw [hs]; exact e2, e3⟩
    cases f with
    | ret v => exact p
    | brk => exact p
    | next => exact fin p
    | cont => exact fin p
  · rintro m₁ nx h tk ⟨rfl, hInv, ⟨t, ha⟩, hm⟩ F₁ N₁
    rw [← hlen, List.take_length] at ha hInv
    refine done m₁ t h tk hInv ?_ N₁
    rw [kpf_done1 ha hm]; exact F₁

/-- the same over a range of naturals from nought -/
theorem fold1_range {α : Type} (mk : α → Tok → Value) (Inv : α → Prop) (n : Nat) (g : α → Nat → α) (y : Str) (stored : List Str) (a₀ : α)
    {r : Addr} {b₀ : Int} {t1 u1 v1 : Tok} {m₀ : Str → Option Value} {news : List (Addr × Obj)} {t₀ : Tok}
    (hh : A.handled = none) (hr : IsRange s.heap r 0 b₀ 1 t1 u1 v1) (hb : b₀ = (n : Int)) (hsm : Builtin.Range.small 0 b₀ 1 = true)
    (F : Fr h₀ env.locals s.heap m₀) (N : News h₀ env.locals s.heap news)
    (hy : m₀ y = some (mk a₀ t₀)) (hi0 : Inv a₀) (hig : ∀ a k, k < n → Inv a → Inv (g a k))
    (turn : ∀ k tb a ta (u : Str → Option Value) h tk own, k < n → Inv a → OwnOff own (news.map (·.1)) →
      Fr h₀ env.locals h (fun z => if z = x then some (vn k tb) else if z = y then some (mk a ta) else if stored.contains z then u z else m₀ z) → News h₀ env.locals h (news ++ own) →
      wpAny (model prog w) A (execs body env) (End1 h₀ env.locals mk x y stored m₀ news own (g a k) { s with heap := h, toks := tk } Q) E { s with heap := h, toks := tk })
    (done : ∀ (u : Str → Option Value) t h tk, Inv ((List.range n).foldl g a₀) → Fr h₀ env.locals h (fun z => if z = x then u z else if z = y then some (mk ((List.range n).foldl g a₀) t) else if stored.contains z then u z else m₀ z) → News h₀ env.locals h news → Q .next { s with heap := h, toks := tk }) :
    wpAny (model prog w) A (pyIter (.ref r)) (fun it s₂ => LoopAtV prog w A h₀ env x body Q E it s₂) E s := by
  subst hb
  have hn : Builtin.Range.rangeSize 0 (n : Int) 1 = (n : Int) := by
    unfold Builtin.Range.rangeSize
    simp
    omega
  refine wpAny_pyIter_range hr hsm ?_
  refine fold1 mk vn Inv (List.range n) g y stored a₀ (LCg.range_walks hh 0 n) (by simp) ?_ (Nat.ne_of_lt F.ns.lt) (next_is_new F) (fun p hp => Nat.ne_of_lt (Heap.lt_size (N p hp).1)) ?_ (F.push _)
    (fun p hp => ⟨Heap.get?_push_of_some _ (N p hp).1, (N p hp).2⟩) hy hi0 (fun a k hk => hig a k (List.mem_range.mp hk)) ?_ ?_
  · rintro i v hi ⟨t, rfl⟩
    exact ⟨i, t, by simp [hi], by simp⟩
  · show IsRangeIter _ _ _ _ _
    rw [hn]; simpa using Heap.get?_push_size _ rfl
  · intro b tb a ta u h tk own hb
    exact turn b tb a ta u h tk own (List.mem_range.mp hb)
  · exact done

/-- the same over a text's signs -/
theorem fold1_text {α : Type} (mk : α → Tok → Value) (Inv : α → Prop) (x' : Str) (g : α → Nat → α) (y : Str) (stored : List Str) (a₀ : α)
    {tx : Tok} {m₀ : Str → Option Value} {news : List (Addr × Obj)} {t₀ : Tok}
    (hh : A.handled = none) (F : Fr h₀ env.locals s.heap m₀) (N : News h₀ env.locals s.heap news)
    (hy : m₀ y = some (mk a₀ t₀)) (hi0 : Inv a₀) (hig : ∀ a c, c ∈ x'.cps.toList → Inv a → Inv (g a c))
    (turn : ∀ c tb a ta (u : Str → Option Value) h tk own, c ∈ x'.cps.toList → Inv a → OwnOff own (news.map (·.1)) →
      Fr h₀ env.locals h (fun z => if z = x then some (.str ⟨#[c]⟩ tb) else if z = y then some (mk a ta) else if stored.contains z then u z else m₀ z) → News h₀ env.locals h (news ++ own) →
      wpAny (model prog w) A (execs body env) (End1 h₀ env.locals mk x y stored m₀ news own (g a c) { s with heap := h, toks := tk } Q) E { s with heap := h, toks := tk })
    (done : ∀ (u : Str → Option Value) t h tk, Inv (x'.cps.toList.foldl g a₀) → Fr h₀ env.locals h (fun z => if z = x then u z else if z = y then some (mk (x'.cps.toList.foldl g a₀) t) else if stored.contains z then u z else m₀ z) → News h₀ env.locals h news → Q .next { s with heap := h, toks := tk }) :
    wpAny (model prog w) A (pyIter (.str x' tx)) (fun it s₂ => LoopAtV prog w A h₀ env x body Q E it s₂) E s := by
  refine wpAny_pyIter_str fun o St hW hst => ?_
  refine fold1 mk (fun c t => .str ⟨#[c]⟩ t) Inv x'.cps.toList g y stored a₀ (hW A hh) (by simp) ?_ (Nat.ne_of_lt F.ns.lt) (next_is_new F) (fun p hp => Nat.ne_of_lt (Heap.lt_size (N p hp).1)) hst (F.push _)
    (fun p hp => ⟨Heap.get?_push_of_some _ (N p hp).1, (N p hp).2⟩) hy hi0 hig ?_ ?_
  · rintro i v hi ⟨c, t, hc, rfl⟩
    exact ⟨c, t, by simpa using hc, rfl⟩
  · exact turn
  · exact done
end

section
variable {h₀ h' : Heap} {L : Addr} {own news : List (Addr × Obj)} {s₁ : Shared} {Q : Flow → Shared → Prop} {m' m₀ : Str → Option Value} {tk : Nat}
theorem end1 {α : Type} {mk : α → Tok → Value} {x y : Str} {stored : List Str} {a' a : α} {t : Tok} (F : Fr h₀ L h' m') (N : News h₀ L h' (news ++ own)) (hv : m' y = some (mk a' t)) (e : a' = a)
    (ho : ∀ z, z ≠ x → z ≠ y → stored.contains z = false → m' z = m₀ z) :
    End1 h₀ L mk x y stored m₀ news own a s₁ Q .next { s₁ with heap := h', toks := tk } :=
  InvEndN.intro F N ⟨rfl, ⟨t, e ▸ hv⟩, ho⟩ rfl (fun _ hp => List.mem_append_left _ hp) (fun _ hp => List.mem_append_right _ hp)
end
theorem xor_and_sum : ∀ a b : Nat, (a ^^^ b) + 2 * (a &&& b) = a + b := by
  intro a
  induction a using Nat.strongRecOn with
  | _ a ih =>
    intro b
    by_cases ha : a = 0
    · subst ha; simp
    · have h := ih (a / 2) (by omega) (b / 2)
      rw [← Nat.xor_div_two, ← Nat.and_div_two] at h
      have h1 := @Nat.xor_mod_two_eq_one a b
      have h2 := @Nat.and_mod_two_eq_one a b
      rcases Nat.mod_two_eq_zero_or_one a with p | p <;> rcases Nat.mod_two_eq_zero_or_one b with q | q <;> omega

theorem bitAnd_n (a b : Nat) : Builtin.bitAnd (a : Int) (b : Int) = ((a &&& b : Nat) : Int) := by
  unfold Builtin.bitAnd
  simp
theorem bitXor_n (a b : Nat) : Builtin.bitXor (a : Int) (b : Int) = ((a ^^^ b : Nat) : Int) := by
  rw [bitXor_and, bitAnd_n]
  have := xor_and_sum a b
  omega
theorem shr_nat (a k : Nat) : (a : Int).fdiv (2 ^ ((k : Int)).toNat) = ((a >>> k : Nat) : Int) := by
  rw [Int.toNat_natCast, Nat.shiftRight_eq_div_pow]
  rw [show ((2 : Int) ^ k) = ((2 ^ k : Nat) : Int) by simp]
  rw [Int.fdiv_eq_ediv_of_nonneg _ (Int.natCast_nonneg _)]
  rfl
theorem shl_nat (a k : Nat) : (a : Int) * (2 ^ ((k : Int)).toNat) = ((a <<< k : Nat) : Int) := by
  rw [Int.toNat_natCast, Nat.shiftLeft_eq]
  simp

section
variable {prog : Program} {w : World} {A : Around} {E : Value → Shared → Prop} {s : Shared} {hp : Heap} {tk : Nat} {Q : Value → Shared → Prop} {t u : Tok} {a b : Nat}
theorem xor_n (h : ∀ t tk, Q (vn (a ^^^ b) t) { s with heap := hp, toks := tk }) : wpAny (model prog w) A (binaryOp .BitXor (vn a t) (vn b u)) Q E { s with heap := hp, toks := tk } :=
  xor_int (by rw [bitXor_n]; exact h _ _)
theorem ixor_n (h : ∀ t tk, Q (vn (a ^^^ b) t) { s with heap := hp, toks := tk }) : wpAny (model prog w) A (inplaceOp .BitXor (vn a t) (vn b u)) Q E { s with heap := hp, toks := tk } :=
  ixor_int (by rw [bitXor_n]; exact h _ _)
theorem and_n (h : ∀ t tk, Q (vn (a &&& b) t) { s with heap := hp, toks := tk }) : wpAny (model prog w) A (binaryOp .BitAnd (vn a t) (vn b u)) Q E { s with heap := hp, toks := tk } :=
  and_int (by rw [bitAnd_n]; exact h _ _)
theorem iand_n (h : ∀ t tk, Q (vn (a &&& b) t) { s with heap := hp, toks := tk }) : wpAny (model prog w) A (inplaceOp .BitAnd (vn a t) (vn b u)) Q E { s with heap := hp, toks := tk } :=
  iand_int (by rw [bitAnd_n]; exact h _ _)
theorem shr_n (h : ∀ t tk, Q (vn (a >>> b) t) { s with heap := hp, toks := tk }) : wpAny (model prog w) A (binaryOp .RShift (vn a t) (vn b u)) Q E { s with heap := hp, toks := tk } :=
  rshift_int (Int.natCast_nonneg _) (by rw [shr_nat]; exact h _ _)
theorem ishr_n (h : ∀ t tk, Q (vn (a >>> b) t) { s with heap := hp, toks := tk }) : wpAny (model prog w) A (inplaceOp .RShift (vn a t) (vn b u)) Q E { s with heap := hp, toks := tk } :=
  irshift_int (Int.natCast_nonneg _) (by rw [shr_nat]; exact h _ _)
theorem shl_n (ha : a < 2 ^ 64) (hb : b ≤ 1000000) (h : ∀ t tk, Q (vn (a <<< b) t) { s with heap := hp, toks := tk }) : wpAny (model prog w) A (binaryOp .LShift (vn a t) (vn b u)) Q E { s with heap := hp, toks := tk } :=
  lshift_int_small (Int.natCast_nonneg _) (by omega) (by simpa using ha) (by rw [shl_nat]; exact h _ _)
theorem add_n (h : ∀ t tk, Q (vn (a + b) t) { s with heap := hp, toks := tk }) : wpAny (model prog w) A (binaryOp .Add (vn a t) (vn b u)) Q E { s with heap := hp, toks := tk } :=
  add_int (by rw [← Int.natCast_add]; exact h _ _)
theorem iadd_n (h : ∀ t tk, Q (vn (a + b) t) { s with heap := hp, toks := tk }) : wpAny (model prog w) A (inplaceOp .Add (vn a t) (vn b u)) Q E { s with heap := hp, toks := tk } :=
  iadd_int (by rw [← Int.natCast_add]; exact h _ _)
theorem mul_n (ha : a < 2 ^ 64) (h : ∀ t tk, Q (vn (a * b) t) { s with heap := hp, toks := tk }) : wpAny (model prog w) A (binaryOp .Mult (vn a t) (vn b u)) Q E { s with heap := hp, toks := tk } :=
  mul_int (by rw [← Int.natCast_mul]; exact h _ _) (.of_left (intBits_le_64 (by omega) (by omega)))
theorem const_n {env : Env} {i : Int} {k : Nat} {pos : Pos} {n : Nat} (hi : i = (n : Int)) (h : ∀ t tk, Q (vn n t) { s with heap := hp, toks := tk }) : wpAny (model prog w) A (eval (.Constant (.int i) k pos) env) Q E { s with heap := hp, toks := tk } := by
  subst hi
  exact wpAny_Constant_int (h _ _)
theorem truthy_n {Q : Bool → Shared → Prop} (h1 : a ≠ 0 → Q true s) (h0 : a = 0 → Q false s) : wpAny (model prog w) A (truthy (vn a t)) Q E s := by
  refine truthy_int ?_
  by_cases h : a = 0
  · subst h; exact h0 rfl
  · have : (((a : Nat) : Int) != 0) = true := by simpa using h
    rw [this]; exact h1 h
theorem st_n {name : Str} {scope : Scope} {L f : Addr} {cd : Value} {h₀ : Heap} {m : Str → Option Value} {news : List (Addr × Obj)} {x : Str} {v : Value} {Q : Unit → Shared → Prop} (F : Fr h₀ L hp m) (N : News h₀ L hp news)
    (h : ∀ h' tk, Fr h₀ L h' (fun y => if y = x then some v else m y) → News h₀ L h' news → Q () { s with heap := h', toks := tk })
    (hk : scope.kind = .function := by rfl) (hl : (envOf name scope L f cd).kindOf x = some .local := by rfl) :
    wpAny (model prog w) A (storeName (envOf name scope L f cd) x v) Q E { s with heap := hp, toks := tk } :=
  stN F N (fun h' F' N' => h h' _ F' N') hk hl
end
theorem and1_lt (a : Nat) : a &&& 1 < 2 ^ 64 := Nat.lt_of_le_of_lt Nat.and_le_right (by decide)
section
variable {prog : Program} {w : World} {A : Around} {E : Value → Shared → Prop} {s : Shared} {hp : Heap} {tk : Nat} {Q : Value → Shared → Prop}
theorem const_l {env : Env} {k : Nat} {pos : Pos} {n : Nat} (h : ∀ t tk, Q (vn (@OfNat.ofNat Nat n (instOfNatNat n)) t) { s with heap := hp, toks := tk }) : wpAny (model prog w) A (eval (.Constant (.int (@OfNat.ofNat Int n (@instOfNat n))) k pos) env) Q E { s with heap := hp, toks := tk } :=
  wpAny_Constant_int (h _ _)
end
section
variable {prog : Program} {w : World} {A : Around} {E : Value → Shared → Prop} {s : Shared} {hp : Heap} {tk : Nat} {Q : Value → Shared → Prop} {t u : Tok}
theorem floordiv_i {a b : Int} (hb : b ≠ 0) (hs : b.natAbs < 1073741824) (h : ∀ t tk, Q (.int (a.fdiv b) t) { s with heap := hp, toks := tk }) : wpAny (model prog w) A (binaryOp .FloorDiv (.int a t) (.int b u)) Q E { s with heap := hp, toks := tk } :=
  floordiv_int hb (h _ _) (Or.inl (PyProof.noPylong_small hs))
theorem mod_i {a b : Int} (hb : b ≠ 0) (h : ∀ t tk, Q (.int (a.fmod b) t) { s with heap := hp, toks := tk }) : wpAny (model prog w) A (binaryOp .Mod (.int a t) (.int b u)) Q E { s with heap := hp, toks := tk } :=
  mod_int hb (h _ _)
theorem mod_n {a : Int} {b : Nat} (hb : 0 < b) (h : ∀ c t tk, c < b → a.fmod b = (c : Int) → Q (vn c t) { s with heap := hp, toks := tk }) : wpAny (model prog w) A (binaryOp .Mod (.int a t) (vn b u)) Q E { s with heap := hp, toks := tk } := by
  have h0 : (0 : Int) ≤ a.fmod b := Int.fmod_nonneg_of_pos _ (by omega)
  have h1 : a.fmod b < b := Int.fmod_lt_of_pos _ (by omega)
  refine mod_i (by omega) ?_
  intro t tk
  have e : a.fmod b = ((a.fmod b).toNat : Int) := by omega
  rw [e]
  exact h _ t tk (by omega) e
theorem pow_n {a b : Nat} (ha : a < 2 ^ 64) (hb : b ≤ 1000000) (h : ∀ t tk, Q (vn (a ^ b) t) { s with heap := hp, toks := tk }) : wpAny (model prog w) A (binaryOp .Pow (vn a t) (vn b u)) Q E { s with heap := hp, toks := tk } :=
  pow_int_small (Int.natCast_nonneg _) (by omega) (by simpa using ha) (by
    have e : ((a : Int) ^ ((b : Int)).toNat) = ((a ^ b : Nat) : Int) := by simp
    rw [e]; exact h _ _)
end
local macro_rules | `(tactic| walk_at "eval Constant int") => `(tactic| (first | (refine const_l ?_; intro _ _) | (with_unfolding_all refine const_n rfl ?_; intro _ _)))
local macro_rules | `(tactic| walk_at "binaryOp BitXor int int") => `(tactic| (refine xor_n ?_; intro _ _))
local macro_rules | `(tactic| walk_at "inplaceOp BitXor int int") => `(tactic| (refine ixor_n ?_; intro _ _))
local macro_rules | `(tactic| walk_at "binaryOp BitAnd int int") => `(tactic| (refine and_n ?_; intro _ _))
local macro_rules | `(tactic| walk_at "inplaceOp BitAnd int int") => `(tactic| (refine iand_n ?_; intro _ _))
local macro_rules | `(tactic| walk_at "binaryOp RShift int int") => `(tactic| (refine shr_n ?_; intro _ _))
local macro_rules | `(tactic| walk_at "inplaceOp RShift int int") => `(tactic| (refine ishr_n ?_; intro _ _))
local macro_rules | `(tactic| walk_at "binaryOp Add int int") => `(tactic| (refine add_n ?_; intro _ _))
local macro_rules | `(tactic| walk_at "inplaceOp Add int int") => `(tactic| (refine iadd_n ?_; intro _ _))
local macro_rules | `(tactic| walk_at "truthy int") => `(tactic| (refine truthy_n ?_ ?_ <;> intro _))
local macro_rules | `(tactic| walk_at "storeName") => `(tactic| (refine st_n (by assumption) (by assumption) ?_; intro _ _ _ _))
local macro_rules | `(tactic| walk_at "my others") => `(tactic| (intro z h1 h2 h3; (try simp at h3); simp [h1, h2, h3]))
local macro_rules | `(tactic| walk_at "binaryOp Mult int int") => `(tactic| (refine mul_n (by decide) ?_; intro _ _))
local macro_rules | `(tactic| walk_at "binaryOp LShift int int") => `(tactic| (refine shl_n (by first | exact and1_lt _ | decide | omega) (by first | decide | omega) ?_; intro _ _))
local macro_rules | `(tactic| walk_at "my end") => `(tactic| refine end1 (by assumption) (by assumption) (by rfl) ?_ (by walk_at "my others"))
local macro_rules | `(tactic| walk_at "binaryOp Pow int int") => `(tactic| (refine pow_n (by first | decide | omega) (by first | decide | omega) ?_; intro _ _))
structure G (w : World) (mean : ExcName → Option Value) (mg mb : Str → Option Value) (h : Heap) : Prop where
  X : (hd.heap_39 w.params).In h
  T : Top hd.view_39 (looseW hd.view_39 []) mean mg mb h

theorem G.keeps {w : World} {mean : ExcName → Option Value} {mg mb : Str → Option Value} {h h' : Heap} (g : G w mean mg mb h) (e : Ext h h') : G w mean mg mb h' :=
  ⟨fun a o q => e a o (g.X a o q), g.T.keeps e⟩

section
variable {prog : Program} {w : World} {mean : ExcName → Option Value} {mg mb : Str → Option Value}

theorem enter {A : Around} {s : Shared} {Q E : Value → Shared → Prop} {name qual : Str} {params : Arguments} {body : List Stmt} {scope : Scope} {dV kV doc pm cdv ct oc : Value} {an od : Option Addr} {osl : Array (Option Value)} {f : Addr} {args : List Value} {binds : List (Str × Value)}
    (g : G w mean mg mb s.heap)
    (ho : (hd.heap_39 w.params).lookup f = some ⟨oc, od, .func (fnOf name qual params body scope dV kV doc pm an cdv ct), osl⟩) (hcd : codeIn (hd.heap_39 w.params) cdv qual = true) (hroom : A.depth < recursionLimit)
    (hbind : BindsTo s (fnOf name qual params body scope dV kV doc pm an cdv ct) ⟨args, []⟩ binds) (hloc : ∀ y ∈ binds, scope.names.lookup y.1 = some .local)
    (h : ∀ L h₁, Fr s.heap L h₁ (fun y => binds.reverse.lookup y) →
      wpAny (model prog w) (A.deeper (envOf qual scope L f cdv)) (execs body (envOf qual scope L f cdv))
        (fun fl s' => Q (retOf fl) s') (fun _ _ => False) { s with heap := h₁, toks := s.toks + binds.length })
    (hco : scope.isCoroutine = false) (hgen : scope.isGenerator = false) (hk : scope.kind = .function) (hcell : ∀ x ∈ scope.names, x.2 ≠ .cell) :
    wpAny (model prog w) A (call (.ref f) args) Q E s := by
  refine wpAny_call ?_
  refine codeAny_call_def (fd := fnOf name qual params body scope dV kV doc pm an cdv ct) (body := body) (binds := binds) hroom (g.X _ _ ho) rfl g.T.nolimit (codeRec_of g.X hcd) rfl hbind hcell hloc (fun h₁ hns hk₁ => ?_) hco hgen hk
  refine wpAny_mono (h s.heap.objs.size h₁ ⟨hns, hk₁, Nat.le_refl _⟩) (fun fl s' hl => ?_) fun _ _ y => y.elim
  cases fl <;> exact hl
end

section
variable {prog : Program} {w : World} {A : Around} {s : Shared} {hp h₀ : Heap} {tk : Nat} {L : Addr} {m : Str → Option Value} {news : List (Addr × Obj)} {f : Value} {args : List Value} {R : Tok → Value} {Q E : Value → Shared → Prop}
/-- a called def's contract, beside the caller's frame and ledger -/
theorem withFr (F : Fr h₀ L hp m) (N : News h₀ L hp news)
    (C : ∀ Q : Value → Shared → Prop, (∀ t h' tk', Ext hp h' → Q (R t) { s with heap := h', toks := tk' }) → wpAny (model prog w) A (call f args) Q E { s with heap := hp, toks := tk })
    (h : ∀ t h' tk', Ext hp h' → Fr h₀ L h' m → News h₀ L h' news → Q (R t) { s with heap := h', toks := tk' }) :
    wpAny (model prog w) A (call f args) Q E { s with heap := hp, toks := tk } := C Q fun t h' tk' e => h t h' tk' e (F.keeps e) (N.grown e)
end
/-- what pyIter makes of a source: a fresh iterator that hands out n items -/
def IterOf (prog : Program) (w : World) (xv : Value) (s₁ : Shared) (n : Nat) (P : Nat → Value → Prop) : Prop :=
  ∀ (A : Around) (E : Value → Shared → Prop) (Q : Value → Shared → Prop), A.handled = none →
    (∀ (o : Obj) (fp : List Addr) (St : Nat → Heap → Prop), Walks prog w A s₁.heap.objs.size fp [s₁.heap.objs.size] n P St → (∀ b ∈ fp, b < s₁.heap.objs.size + 1) → (∀ i h, St i h → ∃ o, h.get? s₁.heap.objs.size = some o) → St 0 (s₁.heap.push o) →
      Q (.ref s₁.heap.objs.size) { s₁ with heap := s₁.heap.push o }) → wpAny (model prog w) A (pyIter xv) Q E s₁

abbrev lstO (ys : List Value) : Obj := { cls := .type "list", data := .seq ys.toArray ys.length }

section
variable {prog : Program} {w : World} {A : Around} {E : Value → Shared → Prop} {s : Shared} {env : Env}

theorem iterOf_list {s₁ : Shared} {ax : Addr} {its : Array Value} (hl : s₁.heap.IsList ax its) : IterOf prog w (.ref ax) s₁ its.size (fun i v => its[i]? = some v) := by
  intro A E Q hh h
  have hlt : ax < s₁.heap.objs.size := by obtain ⟨_, e, _⟩ := hl; exact Heap.lt_size e
  refine wpAny_pyIter_list hl ?_
  refine h _ _ _ (Walks.list hh s₁.heap.objs.size ax (Nat.ne_of_lt hlt) its) (fun b hb => ?_) (fun i h st => by obtain ⟨o, e, _⟩ := st.1; exact ⟨o, e⟩) ⟨⟨_, Heap.get?_push_size _ rfl, rfl, rfl⟩, hl.push _⟩
  rcases List.mem_cons.mp hb with rfl | hb
  · exact Nat.lt_succ_self _
  · rw [List.mem_singleton.mp hb]; exact Nat.lt_succ_of_lt hlt
theorem iterOf_range {s₁ : Shared} {r : Addr} {b : Int} {t u v : Tok} {n : Nat} (hr : IsRange s₁.heap r 0 b 1 t u v) (hb : b = (n : Int)) (hsm : Builtin.Range.small 0 b 1 = true) : IterOf prog w (.ref r) s₁ n (fun i x => ∃ t, x = vn i t) := by
  subst hb
  have hn : Builtin.Range.rangeSize 0 (n : Int) 1 = (n : Int) := by
    unfold Builtin.Range.rangeSize
    simp
    omega
  intro A E Q hh h
  refine wpAny_pyIter_range hr hsm ?_
  have W := LCg.range_walks (prog := prog) (w := w) (I := s₁.heap.objs.size) hh 0 n
  refine h _ _ _ { sub := W.sub, frame := W.frame, done := W.done, self := W.self, item := fun i s Q E hi st hQ => W.item i s Q E hi st fun v h' tk hP => hQ v h' tk (by obtain ⟨t, rfl⟩ := hP; exact ⟨t, by simp⟩) } (fun b hb => ?_) (fun i h st => ⟨_, st⟩) ?_
  · rw [List.mem_singleton.mp hb]; exact Nat.lt_succ_self _
  · show IsRangeIter _ _ _ _ _
    rw [hn]; simpa using Heap.get?_push_size _ rfl
theorem iterOf_text {s₁ : Shared} {x : Str} {t : Tok} : IterOf prog w (.str x t) s₁ x.cps.size (SignAt x) := by
  intro A E Q hh h
  cases ha : x.cps.all (· < 128)
  · exact wpAny_pyIter_wide ha (h _ _ _ (Walks.strWide hh _ x t) (fun b hb => by rw [List.mem_singleton.mp hb]; exact Nat.lt_succ_self _) (fun i h st => by obtain ⟨o, e, _⟩ := st; exact ⟨o, e⟩) ⟨_, Heap.get?_push_size _ rfl, rfl, rfl⟩)
  · exact wpAny_pyIter_ascii ha (h _ _ _ (Walks.strAscii hh _ x t) (fun b hb => by rw [List.mem_singleton.mp hb]; exact Nat.lt_succ_self _) (fun i h st => by obtain ⟨o, e, _⟩ := st; exact ⟨o, e⟩) ⟨_, Heap.get?_push_size _ rfl, rfl, rfl⟩)

/-- objects that stand in h' and were not in h -/
def Fresh (tl : List (Addr × Obj)) (h h' : Heap) : Prop := ∀ p ∈ tl, h'.get? p.1 = some p.2 ∧ h.get? p.1 = none

/-- one element's tree: told of any state that keeps the one before the loop -/
def EltOk (prog : Program) (w : World) (A : Around) (env : Env) (elt : Expr) (x : Str) (scope : Scope) (cl : List (Str × Addr)) (s₁ : Shared) (n : Nat) (P : Nat → Value → Prop) (R : Nat → Value → List (Addr × Obj) → Prop) : Prop :=
  ∀ i v C m₂ h tk (E' : Value → Shared → Prop), i < n → P i v → Ext s₁.heap h → s₁.heap.get? C = none → h.Ns C m₂ → m₂ x = some v →
    wpAny (model prog w) A (eval elt (compEnvC scope cl C env)) (fun y s₃ => ∃ h' tk' tl, s₃ = { s₁ with heap := h', toks := tk' } ∧ Ext h h' ∧ Fresh tl h h' ∧ R i y tl) E' { s₁ with heap := h, toks := tk }

set_option maxHeartbeats 1000000 in
theorem comp_block {elt iter : Expr} {x : Str} {px : Pos} {scope : Scope} {cl : List (Str × Addr)} {pos : Pos} {s₁ : Shared} {fp : List Addr} {n : Nat} {P : Nat → Value → Prop} {St : Nat → Heap → Prop} {R : Nat → Value → List (Addr × Obj) → Prop} {oI : Obj}
    {RR : Value → Addr → Result → Shared → Prop} (W : Walks prog w A s₁.heap.objs.size fp [s₁.heap.objs.size] n P St) (hfp : ∀ b ∈ fp, b < s₁.heap.objs.size + 1) (hIo : ∀ i h, St i h → ∃ o, h.get? s₁.heap.objs.size = some o) (hst : St 0 (s₁.heap.push oI)) (hsz : n ≤ sizeLine)
    (hcell : ∀ y ∈ scope.names, y.2 ≠ .cell) (hkind : scope.kind = .function) (hx : scope.names.lookup x = some .local)
    (hR : ∀ i y tl tl', R i y tl → (∀ p ∈ tl, p ∈ tl') → R i y tl') (elt_ok : EltOk prog w A env elt x scope cl s₁ n P R)
    (hRR : ∀ D C h tk m' ys led, Ext s₁.heap h → s₁.heap.get? D = none → s₁.heap.get? C = none → C ≠ D → h.get? D = some (lstO ys) → h.Ns C m' → ys.length = n → Fresh led s₁.heap h → (∀ p ∈ led, p.1 ≠ C ∧ p.1 ≠ D) → (∀ i y, ys[i]? = some y → R i y led) → RR (.ref D) C (.ok .next) { s₁ with heap := h, toks := tk }) :
    wpAny (model prog w) A (newList []) (fun acc s₃ => wpAny (model prog w) A (newFunctionEnv scope env.globals cl [] env.qual none .none (some env)) (fun cenv s₄ =>
      codeAny (model prog w) A (.compStart (.ListComp elt [⟨.Name x px, iter, [], 0⟩] scope pos) 0 (.ref s₁.heap.objs.size) acc { cenv with scope := relabel scope env }) (RR acc cenv.locals) s₄) E s₃) E { s₁ with heap := s₁.heap.push oI } := by
  refine wpAny_newObj_type (wpAny_newFunctionEnv hcell (by intro y hy; simp at hy) (fun h₁ hns₁ hsb₁ => ?_) hkind)
  dsimp only at hns₁ hsb₁ ⊢
  generalize hH1 : s₁.heap.push oI = H1 at hns₁ hsb₁ hst ⊢
  have hI1 : H1.objs.size = s₁.heap.objs.size + 1 := by rw [← hH1, Heap.size_push]
  generalize hH2 : H1.push { cls := .type "list", dict := none, data := .seq ([] : List Value).toArray } = H2 at hns₁ hsb₁ ⊢
  have hC : H2.objs.size = H1.objs.size + 1 := by rw [← hH2, Heap.size_push]
  generalize hD' : H1.objs.size = D at *
  generalize hC' : H2.objs.size = C at *
  have none1 : ∀ a, s₁.heap.objs.size ≤ a → s₁.heap.get? a = none := fun a ha => by
    cases e : s₁.heap.get? a with
    | none => rfl
    | some o' => exact absurd (Heap.lt_size e) (Nat.not_lt.mpr ha)
  generalize hI' : s₁.heap.objs.size = I at *
  have hDI : D ≠ I := by omega
  have hCI : C ≠ I := by omega
  have hCD : C ≠ D := by omega
  have nD := none1 D (by omega)
  have nC := none1 C (by omega)
  have ext0 : ∀ b o, H1.get? b = some o → h₁.get? b = some o := fun b o e => by
    have hb : @LT.lt Nat _ b D := hD' ▸ Heap.lt_size e
    refine hsb₁.extBut b o (by refine neN ?_; omega) (Heap.get?_push_of_some _ (hH2 ▸ Heap.get?_push_of_some _ e))
  have ext1 : Ext s₁.heap h₁ := fun b o e => ext0 b o (hH1 ▸ Heap.get?_push_of_some _ e)
  have hacc : h₁.get? D = some (lstO []) := hsb₁.extBut _ _ (Ne.symm hCD) (Heap.get?_push_of_some _ (hH2 ▸ hD' ▸ Heap.get?_push_size _ rfl))
  have hst₁ : St 0 h₁ := W.frame _ _ _ hst fun b _ o e => ext0 b o e
  have off : ∀ (b : Addr) o, s₁.heap.get? b = some o → @LT.lt Nat _ b I := fun b o e => hI' ▸ Heap.lt_size e
  have loop : ∀ s₃ : Shared, s₃ = { s₁ with heap := h₁, toks := s₁.toks + ([] : List (Str × Value)).length } →
      codeAny (model prog w) A (.compLoop (.ListComp elt [⟨.Name x px, iter, [], 0⟩] scope pos) 0 (.ref I) (.ref D) (compEnvC scope cl C env)) (RR (.ref D) C) s₃ := by
    rintro s₃ rfl
    refine codeAny_compLoop_tests
      (fun k s' => ∃ h' tk i ys m' led, s' = { s₁ with heap := h', toks := tk } ∧ i ≤ n ∧ k = n + 1 - i ∧ ys.length = i ∧ St i h' ∧ Ext s₁.heap h' ∧ h'.Ns C m' ∧ h'.get? D = some (lstO ys) ∧
        Fresh led s₁.heap h' ∧ (∀ p ∈ led, p.1 ≠ I ∧ p.1 ≠ C ∧ p.1 ≠ D) ∧ ∀ j y, ys[j]? = some y → R j y led) ?_ (n + 1)
      ⟨h₁, _, 0, [], _, [], rfl, Nat.zero_le _, rfl, rfl, hst₁, ext1, hns₁, hacc, fun _ hp => (nomatch hp), fun _ hp => (nomatch hp), fun j y e => by simp at e⟩
    rintro k s' ⟨h', tk, i, ys, m', led, rfl, hi, rfl, hyl, hst', ext', hn', hD₁, fr, offL, hys⟩
    by_cases hlt : i < n
    · refine W.item i _ _ _ hlt hst' fun v h₂ tk₂ hPv hst₂ hk₂ => ?_
      refine wpAny_assign_Name (wpAny_storeName_local (lookup_relabel_local hx) (hn'.at' fun o e => hk₂ _ o (by simpa using hCI) e) (fun h₃ hn₃ hs₃ => ?_) (by simp [compEnvC, relabel, hkind]))
      refine wpAny_tests_nil ?_
      simp only [if_true]
      have up23 : ∀ b o, b ≠ C → b ≠ I → h'.get? b = some o → h₃.get? b = some o := fun b o h1 h2 e => hs₃.extBut b o h1 (hk₂ b o (by simpa using h2) e)
      have ext3 : Ext s₁.heap h₃ := fun b o e => by have := off b o e; exact up23 b o (by refine neN ?_; omega) (by refine neN ?_; omega) (ext' b o e)
      have hCf : ∀ b ∈ fp, b ≠ C := fun b hb => by have : @LT.lt Nat _ b (I + 1) := hfp b hb; refine neN ?_; omega
      have hDf : ∀ b ∈ fp, b ≠ D := fun b hb => by have : @LT.lt Nat _ b (I + 1) := hfp b hb; refine neN ?_; omega
      have hst₃ : St (i + 1) h₃ := W.frame _ _ _ hst₂ fun b hb o e => hs₃.extBut b o (hCf b hb) e
      obtain ⟨oI', hoI⟩ := hIo _ _ hst₃
      obtain ⟨oC', hoC₀, _⟩ := LCg.ns_obj hn₃
      have hoC : h₃.get? C = some oC' := hoC₀
      have hD₃ : h₃.get? D = some (lstO ys) := up23 D _ (Ne.symm hCD) hDI hD₁
      refine wpAny_mono (elt_ok i v C _ h₃ _ _ hlt hPv ext3 nC hn₃ (by simp)) (fun y s₄ h₄ => ?_) fun _ _ e => e
      obtain ⟨h₄, tk₄, tl, rfl, ext4, fr4, hRy⟩ := h₄
      have hst₄ : St (i + 1) h₄ := W.frame _ _ _ hst₃ fun b _ o e => ext4 b o e
      refine append_at (hsz := by show ys.toArray.size ≤ sizeLine; rw [List.size_toArray, hyl]; exact Nat.le_trans hi hsz) (ext4 _ _ hD₃) fun h₅ hs₅ hD₅ => ?_
      have off4 : ∀ p ∈ tl, p.1 ≠ I ∧ p.1 ≠ C ∧ p.1 ≠ D := fun p hp => by
        have q := (fr4 p hp).2
        refine ⟨fun e => ?_, fun e => ?_, fun e => ?_⟩
        · rw [e, hoI] at q; cases q
        · rw [e, hoC] at q; cases q
        · rw [e, hD₃] at q; cases q
      refine ⟨n + 1 - (i + 1), by omega, h₅, tk₄, i + 1, ys ++ [y], _, tl ++ led, rfl, hlt, rfl, by rw [List.length_append, List.length_singleton, hyl], W.frame _ _ _ hst₄ fun b hb o e => hs₅.extBut b o (hDf b hb) e,
        fun b o e => ?_, (hn₃.keeps ext4).sameBut hs₅ hCD, hD₅.trans (congrArg some (LCg.lst_snoc ys y)), fun p hp => ?_, fun p hp => ?_, fun j z e => ?_⟩
      · have := off b o e
        exact hs₅.extBut b o (by refine neN ?_; omega) (ext4 b o (ext3 b o e))
      · rcases List.mem_append.mp hp with hp | hp
        · refine ⟨hs₅.extBut _ _ (off4 p hp).2.2 (fr4 p hp).1, ?_⟩
          cases e : s₁.heap.get? p.1 with
          | none => rfl
          | some o => have q := (fr4 p hp).2; rw [ext3 _ _ e] at q; cases q
        · have q := offL p hp
          exact ⟨hs₅.extBut _ _ q.2.2 (ext4 _ _ (up23 _ _ q.2.1 q.1 (fr p hp).1)), (fr p hp).2⟩
      · rcases List.mem_append.mp hp with hp | hp
        · exact off4 p hp
        · exact offL p hp
      · by_cases hj : j < ys.length
        · rw [List.getElem?_append_left hj] at e
          exact hR _ _ _ _ (hys j z e) fun p hp => List.mem_append_right _ hp
        · have e2 : (ys ++ [y])[j]? = [y][j - ys.length]? := List.getElem?_append_right (Nat.not_lt.mp hj)
          rw [e2] at e
          have hj0 : j - ys.length = 0 := by
            cases hq : j - ys.length with
            | zero => rfl
            | succ q => rw [hq] at e; simp at e
          rw [hj0] at e
          have : j = i := by omega
          subst this
          simp at e
          subst e
          exact hR _ _ _ _ hRy fun p hp => List.mem_append_left _ hp
    · obtain rfl : i = n := Nat.le_antisymm hi (Nat.not_lt.mp hlt)
      refine W.done _ _ _ hst' fun h₂ tk₂ hk₂ => ?_
      have up2 : ∀ b o, b ≠ I → h'.get? b = some o → h₂.get? b = some o := fun b o h1 e => hk₂ b o (by simpa using h1) e
      refine hRR D C h₂ tk₂ _ ys led (fun b o e => ?_) nD nC hCD (up2 _ _ hDI hD₁) (hn'.at' fun o e => up2 _ o hCI e) hyl (fun p hp => ⟨up2 _ _ (offL p hp).1 (fr p hp).1, (fr p hp).2⟩) (fun p hp => (offL p hp).2) hys
      have := off b o e
      exact up2 b o (by refine neN ?_; omega) (ext' b o e)
  exact codeAny_compStart_list (loop _ rfl) (W.self 0 _ _ _ hst₁ (loop _ rfl))
end

/-- what the law knows of a comprehension's source once its iterable is reckoned -/
def SrcOk (prog : Program) (w : World) (A : Around) (h₀ : Heap) (L : Addr) (m : Str → Option Value) (news : List (Addr × Obj)) (env : Env) (elt : Expr) (x : Str) (scope : Scope) (cl : List (Str × Addr))
    (Fin : Shared → List Value → List (Addr × Obj) → Prop) (xv : Value) (s₁ : Shared) : Prop :=
  ∃ n P R, IterOf prog w xv s₁ n P ∧ n ≤ sizeLine ∧ Fr h₀ L s₁.heap m ∧ News h₀ L s₁.heap news ∧ (∀ i y tl tl', R i y tl → (∀ p ∈ tl, p ∈ tl') → R i y tl') ∧ EltOk prog w A env elt x scope cl s₁ n P R ∧
    ∀ ys led, ys.length = n → (∀ i y, ys[i]? = some y → R i y led) → Fin s₁ ys led
theorem SrcOk.intro {prog : Program} {w : World} {A : Around} {h₀ : Heap} {L : Addr} {m : Str → Option Value} {news : List (Addr × Obj)} {env : Env} {elt : Expr} {x : Str} {scope : Scope} {cl : List (Str × Addr)}
    {Fin : Shared → List Value → List (Addr × Obj) → Prop} {xv : Value} {s₁ : Shared} {n : Nat} {P : Nat → Value → Prop} (R : Nat → Value → List (Addr × Obj) → Prop) (hi : IterOf prog w xv s₁ n P) (F : Fr h₀ L s₁.heap m) (N : News h₀ L s₁.heap news)
    (hn : n ≤ sizeLine) (hm : ∀ i y tl tl', R i y tl → (∀ p ∈ tl, p ∈ tl') → R i y tl') (he : EltOk prog w A env elt x scope cl s₁ n P R) (hf : ∀ ys led, ys.length = n → (∀ i y, ys[i]? = some y → R i y led) → Fin s₁ ys led) :
    SrcOk prog w A h₀ L m news env elt x scope cl Fin xv s₁ := ⟨n, P, R, hi, hn, F, N, hm, he, hf⟩
/-- for elements that are values alone -/
theorem SrcOk.vals {prog : Program} {w : World} {A : Around} {h₀ : Heap} {L : Addr} {m : Str → Option Value} {news : List (Addr × Obj)} {env : Env} {elt : Expr} {x : Str} {scope : Scope} {cl : List (Str × Addr)}
    {Fin : Shared → List Value → List (Addr × Obj) → Prop} {xv : Value} {s₁ : Shared} {n : Nat} {P : Nat → Value → Prop} (R : Nat → Value → Prop) (hi : IterOf prog w xv s₁ n P) (F : Fr h₀ L s₁.heap m) (N : News h₀ L s₁.heap news)
    (hn : n ≤ sizeLine)
    (he : ∀ i v C m₂ h tk (E' : Value → Shared → Prop), i < n → P i v → Ext s₁.heap h → s₁.heap.get? C = none → h.Ns C m₂ → m₂ x = some v → Fr h₀ L h m → News h₀ L h news →
      wpAny (model prog w) A (eval elt (compEnvC scope cl C env)) (fun y s₃ => ∃ h' tk', s₃ = { s₁ with heap := h', toks := tk' } ∧ Ext h h' ∧ R i y) E' { s₁ with heap := h, toks := tk })
    (hf : ∀ ys led, ys.length = n → (∀ i y, ys[i]? = some y → R i y) → Fin s₁ ys led) :
    SrcOk prog w A h₀ L m news env elt x scope cl Fin xv s₁ :=
  SrcOk.intro (fun i y _ => R i y) hi F N hn (fun _ _ _ _ h _ => h) (fun i v C m₂ h tk E' hi' hP e hC hn hx => wpAny_mono (he i v C m₂ h tk E' hi' hP e hC hn hx (F.keeps e) (N.grown e)) (fun y s₃ ⟨h', tk', e1, e2, e3⟩ => ⟨h', tk', [], e1, e2, fun _ hp => (nomatch hp), e3⟩) fun _ _ q => q) hf

/-- for elements that are objects -/
theorem SrcOk.objs {prog : Program} {w : World} {A : Around} {h₀ : Heap} {L : Addr} {m : Str → Option Value} {news : List (Addr × Obj)} {env : Env} {elt : Expr} {x : Str} {scope : Scope} {cl : List (Str × Addr)}
    {Fin : Shared → List Value → List (Addr × Obj) → Prop} {xv : Value} {s₁ : Shared} {n : Nat} {P : Nat → Value → Prop} (R : Nat → Value → List (Addr × Obj) → Prop) (hi : IterOf prog w xv s₁ n P) (F : Fr h₀ L s₁.heap m) (N : News h₀ L s₁.heap news)
    (hn : n ≤ sizeLine) (hm : ∀ i y tl tl', R i y tl → (∀ p ∈ tl, p ∈ tl') → R i y tl')
    (he : ∀ i v C m₂ h tk (E' : Value → Shared → Prop), i < n → P i v → Ext s₁.heap h → s₁.heap.get? C = none → h.Ns C m₂ → m₂ x = some v → Fr h₀ L h m → News h₀ L h news →
      wpAny (model prog w) A (eval elt (compEnvC scope cl C env)) (fun y s₃ => ∃ h' tk' tl, s₃ = { s₁ with heap := h', toks := tk' } ∧ Ext h h' ∧ Fresh tl h h' ∧ R i y tl) E' { s₁ with heap := h, toks := tk })
    (hf : ∀ ys led, ys.length = n → (∀ i y, ys[i]? = some y → R i y led) → Fin s₁ ys led) :
    SrcOk prog w A h₀ L m news env elt x scope cl Fin xv s₁ :=
  SrcOk.intro R hi F N hn hm (fun i v C m₂ h tk E' hi' hP e hC hn hx => he i v C m₂ h tk E' hi' hP e hC hn hx (F.keeps e) (N.grown e)) hf

section
variable {prog : Program} {w : World} {A : Around} {E : Value → Shared → Prop} {s : Shared} {env : Env} {h₀ : Heap} {L : Addr} {m : Str → Option Value} {news : List (Addr × Obj)}
theorem news_more {h h' : Heap} {tl : List (Addr × Obj)} (F : Fr h₀ L h m) (N : News h₀ L h' news) (fr : Fresh tl h h') : News h₀ L h' (tl ++ news) := by
  obtain ⟨oL, _, _, hL, _⟩ := F.ns
  intro p hp
  rcases List.mem_append.mp hp with hp | hp
  · refine ⟨(fr p hp).1, fun e => ?_, ?_⟩
    · have q := (fr p hp).2; rw [e, hL] at q; cases q
    · cases e : h₀.get? p.1 with
      | none => rfl
      | some o => have q := (fr p hp).2; rw [F.keep _ _ e] at q; cases q
  · exact N p hp
theorem comp_eval {elt iter : Expr} {x : Str} {px : Pos} {scope : Scope} {cl : List (Str × Addr)} {pos : Pos} {Q : Value → Shared → Prop} (hh : A.handled = none)
    (h : wpAny (model prog w) A (eval iter env) (SrcOk prog w A h₀ L m news env elt x scope cl (fun s₁ ys led => ∀ D h tk, Ext s₁.heap h → Fr h₀ L h m → News h₀ L h ((D, lstO ys) :: (led ++ news)) → Fresh ((D, lstO ys) :: led) s₁.heap h → Q (.ref D) { s₁ with heap := h, toks := tk })) E s)
    (hclos : closureFor scope env = pure cl) (hcell : ∀ y ∈ scope.names, y.2 ≠ .cell) (hkind : scope.kind = .function)
    (hnames : ∀ y ∈ scope.names, y.2 = .local → scope.names.lookup y.1 = some .local) (hx : scope.names.lookup x = some .local)
    (hs : ∀ x, foldedSetIterable iter env x = pure x) :
    wpAny (model prog w) A (eval (.ListComp elt [⟨.Name x px, iter, [], 0⟩] scope pos) env) Q E s := by
  rw [eval_ListComp]
  refine wpAny_comprehension_free (use := none) rfl hs hclos hkind hnames (wpAny_mono h (fun xv s₁ h₁ => ?_) fun _ _ e => e)
  obtain ⟨n, P, R, hi, hn, F, N, hm, he, hf⟩ := h₁
  refine hi _ _ _ hh fun o fp St W hfp hIo hst => ?_
  refine comp_block W hfp hIo hst hn hcell hkind hx hm he fun D C h tk m' ys led ext nD nC hCD hD hC hyl fr off hys => ?_
  refine ⟨m', hC, fun h'' hs'' => ?_⟩
  have up : ∀ b o, b ≠ C → h.get? b = some o → h''.get? b = some o := fun b o hb e => hs''.extBut b o hb e
  have ext' : Ext s₁.heap h'' := fun b o e => up b o (fun q => by rw [q, nC] at e; cases e) (ext b o e)
  have fr' : Fresh ((D, lstO ys) :: led) s₁.heap h'' := fun p hp => by
    rcases List.mem_cons.mp hp with rfl | hp
    · exact ⟨up _ _ (Ne.symm hCD) hD, nD⟩
    · exact ⟨up _ _ (off p hp).1 (fr p hp).1, (fr p hp).2⟩
  exact hf ys led hyl hys D h'' tk ext' (F.keeps ext') (news_more F (N.grown ext') fr') fr'
theorem comp_assign {elt iter : Expr} {x y : Str} {px py : Pos} {scope : Scope} {cl : List (Str × Addr)} {pos spos : Pos} {Q : Flow → Shared → Prop} (hh : A.handled = none) (hLe : env.locals = L)
    (h : wpAny (model prog w) A (eval iter env) (SrcOk prog w A h₀ L m news env elt x scope cl (fun s₁ ys led => ∀ D h tk, Fr h₀ L h (fun z => if z = y then some (.ref D) else m z) → News h₀ L h ((D, lstO ys) :: (led ++ news)) → (∀ p ∈ (D, lstO ys) :: led, ∀ q ∈ news, p.1 ≠ q.1) → Q .next { s₁ with heap := h, toks := tk })) E s)
    (hsw : swapsWith (.ListComp elt [⟨.Name x px, iter, [], 0⟩] scope pos) (some (.Name y py)) spos.line env = pure true)
    (hclos : closureFor scope env = pure cl) (hcell : ∀ y ∈ scope.names, y.2 ≠ .cell) (hkind : scope.kind = .function)
    (hnames : ∀ y ∈ scope.names, y.2 = .local → scope.names.lookup y.1 = some .local) (hx : scope.names.lookup x = some .local)
    (hy : env.kindOf y = some .local) (hp : (env.scope.kind == .class || (env.scope.kind == .module && env.locals != env.globals)) = false)
    (hs : ∀ x, foldedSetIterable iter env x = pure x) :
    wpAny (model prog w) A (exec (.Assign [.Name y py] (.ListComp elt [⟨.Name x px, iter, [], 0⟩] scope pos) spos) env) Q E s := by
  subst hLe
  rw [exec_Assign_Name_used _ _ _ _ hsw]
  refine wpAny_bind (wpAny_standAt (wpAny_bind ?_))
  show wpAny _ A (do let _ ← comprehension (.ListComp elt [⟨.Name x px, iter, [], 0⟩] scope pos) scope env _ (newList []) false (eval iter env) (some (assign (.Name y py) env))) _ _ s
  refine wpAny_bind (wpAny_mono (wpAny_comprehension_free (use := some (assign (.Name y py) env)) (Q := fun _ s' => Q .next s') rfl hs hclos hkind hnames
    (wpAny_mono h (fun xv s₁ h₁ => ?_) fun _ _ e => e)) (fun _ s' hq => wpAny_pure (wpAny_pure hq)) fun _ _ e => e)
  obtain ⟨n, P, R, hi, hn, F, N, hm, he, hf⟩ := h₁
  refine hi _ _ _ hh fun o fp St W hfp hIo hst => ?_
  refine comp_block W hfp hIo hst hn hcell hkind hx hm he fun D C h tk m' ys led ext nD nC hCD hD hC hyl fr off hys => ?_
  show wpAny _ A (assign (.Name y py) env (.ref D)) _ _ _
  have F₁ := F.keeps ext
  have fr₁ : Fresh ((D, lstO ys) :: led) s₁.heap h := fun p hp => by
    rcases List.mem_cons.mp hp with rfl | hp
    · exact ⟨hD, nD⟩
    · exact fr p hp
  have N₁ : News h₀ env.locals h ((D, lstO ys) :: (led ++ news)) := news_more F (N.grown ext) fr₁
  obtain ⟨oL, _, _, hL, _⟩ := F.ns
  have hCL : C ≠ env.locals := fun e => by rw [e, hL] at nC; cases nC
  have hC₀ : h₀.get? C = none := by
    cases e : h₀.get? C with
    | none => rfl
    | some o => rw [F.keep _ _ e] at nC; cases nC
  have offC : ∀ p ∈ (D, lstO ys) :: (led ++ news), p.1 ≠ C := fun p hp => by
    rcases List.mem_cons.mp hp with rfl | hp
    · exact Ne.symm hCD
    · rcases List.mem_append.mp hp with hp | hp
      · exact (off p hp).1
      · intro e; have q := (N p hp).1; rw [e, nC] at q; cases q
  refine wpAny_assign_Name (wpAny_storeName_local hy F₁.ns (fun h₂ hn₂ hs₂ => ?_) hp)
  have hL₀ : h₀.get? env.locals = none := Heap.get?_none_of_le F.above
  have F₂ : Fr h₀ env.locals h₂ (fun z => if z = y then some (.ref D) else m z) := ⟨hn₂, fun b o e => hs₂.extBut b o (fun q => by rw [q, hL₀] at e; cases e) (F₁.keep b o e), F.above⟩
  refine ⟨m', hC.sameBut hs₂ hCL, fun h'' hs'' => hf ys led hyl hys D h'' _ (F₂.change hs'' hCL hC₀) (fun p hp => ?_) fun p hp q hq e => by have z := (fr₁ p hp).2; rw [e, (N q hq).1] at z; cases z⟩
  have z : h₂.get? p.1 = some p.2 := hs₂.extBut _ _ (N₁ p hp).2.1 (N₁ p hp).1
  exact ⟨hs''.extBut _ _ (offC p hp) z, (N₁ p hp).2⟩
end
def crcStep (c : Nat) : Nat := if c &&& 1 = 0 then c >>> 1 else c >>> 1 ^^^ 3988292384
def crc8 (c : Nat) : Nat := (List.range 8).foldl (fun c _ => crcStep c) c

section
variable {prog : Program} {w : World} {mean : ExcName → Option Value} {mg mb : Str → Option Value}
set_option maxHeartbeats 1000000 in
theorem gen_crc {A : Around} {s : Shared} {Q E : Value → Shared → Prop} {n : Nat} {t : Tok} (g : G w mean mg mb s.heap) 
    (hroom : A.depth < recursionLimit) (hh : A.handled = none)
    (ret : ∀ t h' tk, Ext s.heap h' → Q (vn (crc8 n) t) { s with heap := h', toks := tk }) : wpAny (model prog w) A (call (.ref 21) [vn n t]) Q E s := by
  have X := g.X
  have T := g.T
  refine' enter g (binds := [(Str.ofString "crc", vn n t)]) ?k1 ?k2 hroom ?k3 ?k4 ?_ ?c1 ?c2 ?c3 ?c4
  case k1 => k_is
  case k2 => k_is
  case k3 => exact BindsTo.of_eq rfl
  case k4 => exact locs rfl
  case c1 => rfl
  case c2 => rfl
  case c3 => rfl
  case c4 => decide
  intro L h₁ F
  have N : News s.heap L h₁ [] := News.nil
  refine wpAny_execs_cons ?_
  refine For_invVF F rfl rfl ?_
  iterate 7 walk1
  refine fold1_range vn (fun _ => True) 8 (fun c _ => crcStep c) (Str.ofString "crc") [] n hh (by assumption) (by rfl) (by rfl) (by assumption) (by assumption) rfl trivial (fun _ _ _ _ => trivial) ?_ ?_
  · intro k tb a ta u h tk own _ _ off F N
    iterate 8 walk1
    all_goals walk1
    all_goals repeat walk1
    · walk_at "my end"
      unfold crcStep; rw [if_neg (by assumption)]
    · walk_at "my end"
      unfold crcStep; rw [if_pos (by assumption)]
  · intro u t h tk _ F N
    repeat walk1
    exact ret _ _ _ (Fr.keep (by assumption))
end
def turnedN (n : Nat) : Nat := (List.range 32).foldl (fun t place => 2 * t + (n >>> place &&& 1)) 0
def downStep (p : Nat) : Nat := if p &&& 1 = 0 then p >>> 1 else (p ^^^ 4374732215) >>> 1
def downN (p k : Nat) : Nat := (List.range k).foldl (fun p _ => downStep p) p
def part1 (p : Nat) : Nat := p ^^^ p <<< 1
def part2 (p : Nat) : Nat := p ^^^ p <<< 2
def part4 (p : Nat) : Nat := p ^^^ p <<< 4
def part8 (p : Nat) : Nat := p ^^^ p <<< 8
def part16 (p : Nat) : Nat := p ^^^ p <<< 16
def part32 (p : Nat) : Nat := p ^^^ p <<< 32
def partCut (p : Nat) : Nat := part32 (part16 (part8 (part4 (part2 (part1 p))))) &&& 8589934591
def partStep (p : Nat) : Nat := if partCut p >>> 32 = 0 then partCut p else partCut p ^^^ 4357819245
def partedN (p : Nat) : Nat := (List.range 32).foldl (fun p _ => partStep p) p
def upStep (p : Nat) : Nat := if p >>> 32 = 0 then p else p ^^^ 4374732215
def alongStep (c p place : Nat) : Nat := upStep (2 * (p ^^^ (c >>> place &&& 1) <<< 31))
def alongC (p c : Nat) : Nat := (List.range 8).foldl (alongStep c) p
def alongN (p : Nat) (cs : List Nat) : Nat := cs.foldl alongC p

theorem shl_xor_lt {a k j m : Nat} (h : a < 2 ^ k) (e : m = k + j) : a ^^^ a <<< j < 2 ^ m := by
  subst e
  refine Nat.xor_lt_two_pow (Nat.lt_of_lt_of_le h (Nat.pow_le_pow_right (by decide) (by omega))) ?_
  rw [Nat.shiftLeft_eq, Nat.pow_add]
  exact Nat.mul_lt_mul_of_pos_right h (Nat.two_pow_pos j)
theorem partCut_lt (p : Nat) : partCut p < 2 ^ 33 := Nat.lt_of_le_of_lt Nat.and_le_right (by decide)
theorem partStep_lt (p : Nat) : partStep p < 2 ^ 33 := by
  unfold partStep
  split
  · exact partCut_lt p
  · exact Nat.xor_lt_two_pow (partCut_lt p) (by decide)

section
variable {prog : Program} {w : World} {mean : ExcName → Option Value} {mg mb : Str → Option Value} {A : Around} {s : Shared} {Q E : Value → Shared → Prop}
set_option maxHeartbeats 1000000 in
theorem law_turned {n : Nat} {t : Tok} (g : G w mean mg mb s.heap) (hroom : A.depth < recursionLimit) (hh : A.handled = none)
    (ret : ∀ t h' tk, Ext s.heap h' → Q (vn (turnedN n) t) { s with heap := h', toks := tk }) : wpAny (model prog w) A (call (.ref 91) [vn n t]) Q E s := by
  have X := g.X
  have T := g.T
  refine enter g (binds := [(Str.ofString "number", vn n t)]) (by k_is) (by k_is) hroom (by exact BindsTo.of_eq rfl) (by exact locs rfl) ?_ (by rfl) (by rfl) (by rfl) (by decide)
  intro L h₁ F
  have N : News s.heap L h₁ [] := News.nil
  iterate 5 walk1
  refine For_invVF (by assumption) rfl rfl ?_
  iterate 7 walk1
  refine fold1_range vn (fun _ => True) 32 (fun t place => 2 * t + (n >>> place &&& 1)) (Str.ofString "turned") [] 0 hh (by assumption) (by rfl) (by rfl) (by assumption) (by assumption) rfl trivial (fun _ _ _ _ => trivial) ?_ ?_
  · intro k tb a ta u h tk own _ _ off F N
    repeat walk1
    walk_at "my end"
    rfl
  · intro u t h tk _ F N
    repeat walk1
    exact ret _ _ _ (Fr.keep (by assumption))
set_option maxHeartbeats 1000000 in
theorem law_down {n k : Nat} {t u : Tok} (g : G w mean mg mb s.heap) (hroom : A.depth < recursionLimit) (hh : A.handled = none) (hk : k < 1000000)
    (ret : ∀ t h' tk, Ext s.heap h' → Q (vn (downN n k) t) { s with heap := h', toks := tk }) : wpAny (model prog w) A (call (.ref 105) [vn n t, vn k u]) Q E s := by
  have X := g.X
  have T := g.T
  refine enter g (binds := [(Str.ofString "poly", vn n t), (Str.ofString "count", vn k u)]) (by k_is) (by k_is) hroom (by exact BindsTo.of_eq rfl) (by exact locs rfl) ?_ (by rfl) (by rfl) (by rfl) (by decide)
  intro L h₁ F
  have N : News s.heap L h₁ [] := News.nil
  refine wpAny_execs_cons ?_
  refine For_invVF (by assumption) rfl rfl ?_
  iterate 7 walk1
  refine fold1_range vn (fun _ => True) k (fun p _ => downStep p) (Str.ofString "poly") [] n hh (by assumption) (by rfl) (small_one (by decide) (by decide) (by omega) (by omega)) (by assumption) (by assumption) rfl trivial (fun _ _ _ _ => trivial) ?_ ?_
  · intro k tb a ta u h tk own _ _ off F N
    repeat walk1
    all_goals (repeat walk1)
    · walk_at "my end"
      unfold downStep; rw [if_neg (by assumption)]
    · walk_at "my end"
      unfold downStep; rw [if_pos (by assumption)]
  · intro u t h tk _ F N
    repeat walk1
    exact ret _ _ _ (Fr.keep (by assumption))
theorem aug_shift {name : Str} {scope : Scope} {L f : Addr} {cd : Value} {h₀ hp : Heap} {m : Str → Option Value} {news : List (Addr × Obj)} {x : Str} {p1 p2 p3 p4 p5 : Pos} {kk k a : Nat} {i : Int} {t : Tok} {tk : Nat} {E : Value → Shared → Prop} {Q : Flow → Shared → Prop}
    (F : Fr h₀ L hp m) (N : News h₀ L hp news) (hm : m x = some (vn a t)) (hi : i = (k : Int)) (ha : a < 2 ^ 64) (hk : k ≤ 1000000)
    (hkd : scope.kind = .function) (hl : (envOf name scope L f cd).kindOf x = some .local) (hd : (x == ("__debug__" : Str)) = false)
    (h : ∀ h' tk q t', q = a ^^^ a <<< k → Fr h₀ L h' (fun y => if y = x then some (vn q t') else m y) → News h₀ L h' news → Q .next { s with heap := h', toks := tk }) :
    wpAny (model prog w) A (exec (.AugAssign (.Name x p1) .BitXor (.BinOp (.Name x p2) .LShift (.Constant (.int i) kk p3) p4) p5) (envOf name scope L f cd)) Q E { s with heap := hp, toks := tk } := by
  refine wpAny_AugAssign_Name ?_
  refine ldn F hm ?_ hkd hl
  refine wpAny_BinOp ?_
  refine ld F hm ?_ hkd hl hd
  refine const_n hi ?_
  intro _ _
  refine shl_n ha hk ?_
  intro _ _
  refine ixor_n ?_
  intro _ _
  exact st_n F N (fun h' tk F' N' => h h' tk _ _ rfl F' N') hkd hl
set_option maxHeartbeats 2000000 in
theorem law_parted {n : Nat} {t : Tok} (g : G w mean mg mb s.heap) (hroom : A.depth < recursionLimit) (hh : A.handled = none) (hn : n < 2 ^ 33)
    (ret : ∀ t h' tk, Ext s.heap h' → Q (vn (partedN n) t) { s with heap := h', toks := tk }) : wpAny (model prog w) A (call (.ref 112) [vn n t]) Q E s := by
  have X := g.X
  have T := g.T
  refine enter g (binds := [(Str.ofString "poly", vn n t)]) (by k_is) (by k_is) hroom (by exact BindsTo.of_eq rfl) (by exact locs rfl) ?_ (by rfl) (by rfl) (by rfl) (by decide)
  intro L h₁ F
  have N : News s.heap L h₁ [] := News.nil
  refine wpAny_execs_cons ?_
  refine For_invVF (by assumption) rfl rfl ?_
  iterate 7 walk1
  refine fold1_range vn (fun p => p < 2 ^ 33) 32 (fun p _ => partStep p) (Str.ofString "poly") [] n hh (by assumption) (by rfl) (by rfl) (by assumption) (by assumption) rfl hn (fun a _ _ _ => partStep_lt a) ?_ ?_
  · intro k tb a ta u h tk own _ ha off F N
    refine wpAny_execs_cons ?_
    refine aug_shift (by assumption) (by assumption) rfl rfl (Nat.lt_of_lt_of_le ha (by decide)) (by decide) rfl rfl (by decide) ?_
    intro h1 tk1 q1 t1 e1 F N
    have b1 : q1 < 2 ^ 34 := e1 ▸ shl_xor_lt ha (by decide)
    refine wpAny_execs_cons ?_
    refine aug_shift (by assumption) (by assumption) rfl rfl (Nat.lt_of_lt_of_le b1 (by decide)) (by decide) rfl rfl (by decide) ?_
    intro h2 tk2 q2 t2 e2 F N
    have b2 : q2 < 2 ^ 36 := e2 ▸ shl_xor_lt b1 (by decide)
    refine wpAny_execs_cons ?_
    refine aug_shift (by assumption) (by assumption) rfl rfl (Nat.lt_of_lt_of_le b2 (by decide)) (by decide) rfl rfl (by decide) ?_
    intro h4 tk4 q4 t4 e4 F N
    have b4 : q4 < 2 ^ 40 := e4 ▸ shl_xor_lt b2 (by decide)
    refine wpAny_execs_cons ?_
    refine aug_shift (by assumption) (by assumption) rfl rfl (Nat.lt_of_lt_of_le b4 (by decide)) (by decide) rfl rfl (by decide) ?_
    intro h8 tk8 q8 t8 e8 F N
    have b8 : q8 < 2 ^ 48 := e8 ▸ shl_xor_lt b4 (by decide)
    refine wpAny_execs_cons ?_
    refine aug_shift (by assumption) (by assumption) rfl rfl (Nat.lt_of_lt_of_le b8 (by decide)) (by decide) rfl rfl (by decide) ?_
    intro h16 tk16 q16 t16 e16 F N
    have b16 : q16 < 2 ^ 64 := e16 ▸ shl_xor_lt b8 (by decide)
    refine wpAny_execs_cons ?_
    refine aug_shift (by assumption) (by assumption) rfl rfl (Nat.lt_of_lt_of_le b16 (by decide)) (by decide) rfl rfl (by decide) ?_
    intro h32 tk32 q32 t32 e32 F N
    repeat walk1
    all_goals (repeat walk1)
    · walk_at "my end"
      subst e32 e16 e8 e4 e2 e1
      unfold partStep; rw [if_neg (by assumption)]; rfl
    · walk_at "my end"
      subst e32 e16 e8 e4 e2 e1
      unfold partStep; rw [if_pos (by assumption)]; rfl
  · intro u t h tk _ F N
    repeat walk1
    exact ret _ _ _ (Fr.keep (by assumption))
end
section
variable {prog : Program} {w : World} {mean : ExcName → Option Value} {mg mb : Str → Option Value} {A : Around} {s : Shared} {Q E : Value → Shared → Prop}
set_option maxHeartbeats 2000000 in
theorem law_along {n : Nat} {x : Str} {t u : Tok} (g : G w mean mg mb s.heap) (hroom : A.depth < recursionLimit) (hh : A.handled = none)
    (ret : ∀ t h' tk, Ext s.heap h' → Q (vn (alongN n x.cps.toList) t) { s with heap := h', toks := tk }) : wpAny (model prog w) A (call (.ref 98) [vn n t, .str x u]) Q E s := by
  have X := g.X
  have T := g.T
  refine enter g (binds := [(Str.ofString "poly", vn n t), (Str.ofString "text", .str x u)]) (by k_is) (by k_is) hroom (by exact BindsTo.of_eq rfl) (by exact locs rfl) ?_ (by rfl) (by rfl) (by rfl) (by decide)
  intro L h₁ F
  have N : News s.heap L h₁ [] := News.nil
  refine wpAny_execs_cons ?_
  refine For_invVF F rfl rfl ?_
  walk1
  refine fold1_text vn (fun _ => True) x alongC (Str.ofString "poly") [Str.ofString "place"] n hh F N rfl trivial (fun _ _ _ _ => trivial) ?_ ?_
  · intro c tb a ta u h tk own _ _ off F N
    refine wpAny_execs_cons ?_
    refine For_invVF F rfl rfl ?_
    iterate 7 walk1
    refine fold1_range vn (fun _ => True) 8 (alongStep c) (Str.ofString "poly") [] a hh (by assumption) (by rfl) (by rfl) (by assumption) (by assumption) rfl trivial (fun _ _ _ _ => trivial) ?_ ?_
    · intro k tb a ta u h tk own _ _ off F N
      repeat walk1
      all_goals (repeat walk1)
      · walk_at "my end"
        unfold alongStep upStep; rw [if_neg (by assumption)]
      · walk_at "my end"
        unfold alongStep upStep; rw [if_pos (by assumption)]
    · intro u t h tk _ F N
      repeat walk1
      walk_at "my end"
      rfl
  · intro u t h tk _ F N
    repeat walk1
    exact ret _ _ _ (Fr.keep (by assumption))
end
theorem shr_lt {a n : Nat} (h : a < 2 ^ n) (k : Nat) : a >>> k < 2 ^ n := Nat.lt_of_le_of_lt (Nat.shiftRight_le a k) h
theorem crcStep_lt {c : Nat} (h : c < 2 ^ 32) : crcStep c < 2 ^ 32 := by
  unfold crcStep
  split
  · exact shr_lt h 1
  · exact Nat.xor_lt_two_pow (shr_lt h 1) (by decide)
theorem foldl_inv {α β : Type} {P : α → Prop} {f : α → β → α} {l : List β} (hf : ∀ a b, P a → P (f a b)) : ∀ {a : α}, P a → P (l.foldl f a) := by
  induction l with
  | nil => exact fun h => h
  | cons b r ih => exact fun h => ih (hf _ b h)
theorem crc8_lt {c : Nat} (h : c < 2 ^ 32) : crc8 c < 2 ^ 32 := foldl_inv (P := fun c => c < 2 ^ 32) (fun _ _ h => crcStep_lt h) h
def sumR (cs : List Nat) : Nat := cs.foldl (fun r c => crc8 (r ^^^ c)) 4294967295
theorem shr_zero {a : Nat} (h : a < 2 ^ 32) : a >>> 32 = 0 := by
  rw [Nat.shiftRight_eq_div_pow]; exact Nat.div_eq_of_lt h

section
variable {prog : Program} {w : World} {mean : ExcName → Option Value} {mg mb : Str → Option Value} {A : Around} {s : Shared} {Q E : Value → Shared → Prop}
set_option maxHeartbeats 2000000 in
theorem law_sum {x : Str} {t : Tok} (g : G w mean mg mb s.heap) (hroom : A.depth + 1 < recursionLimit) (hh : A.handled = none) (hx : ∀ c ∈ x.cps.toList, c < 2 ^ 32)
    (ret : ∀ t h' tk, Ext s.heap h' → Q (vn (sumR x.cps.toList ^^^ 4294967295) t) { s with heap := h', toks := tk }) : wpAny (model prog w) A (call (.ref 84) [.str x t]) Q E s := by
  have X := g.X
  have T := g.T
  refine enter g (binds := [(Str.ofString "text", .str x t)]) (by k_is) (by k_is) (by omega) (by exact BindsTo.of_eq rfl) (by exact locs rfl) ?_ (by rfl) (by rfl) (by rfl) (by decide)
  intro L h₁ F
  have N : News s.heap L h₁ [] := News.nil
  iterate 5 walk1
  refine For_invVF (by assumption) rfl rfl ?_
  walk1
  refine fold1_text vn (fun r => r < 2 ^ 32) x (fun r c => crc8 (r ^^^ c)) (Str.ofString "register") [] 4294967295 hh (by assumption) (by assumption) rfl (by decide) (fun a c hc ha => crc8_lt (Nat.xor_lt_two_pow ha (hx c hc))) ?_ ?_
  · intro c tb a ta u h tk own hc ha off F N
    iterate 17 walk1
    refine ⟨g.X.keeps (Fr.keep (by assumption)), ?_⟩
    refine' withFr (by assumption) (by assumption) ?C ?_
    case C => intro Q' hq; exact gen_crc (g.keeps (Fr.keep (by assumption))) (by show A.depth + 1 < _; omega) (by exact hh) hq
    intro t' h' tk' ext F' N'
    have hb : crc8 (a ^^^ c) < 2 ^ 32 := crc8_lt (Nat.xor_lt_two_pow ha (hx c hc))
    repeat walk1
    · exact absurd (shr_zero hb) (by assumption)
    · repeat walk1
      walk_at "my end"
      rfl
  · intro u t h tk _ F N
    repeat walk1
    exact ret _ _ _ (Fr.keep (by assumption))
end
def inW (c : Nat) (ws : List Str) : Bool := ws.any (· == (⟨#[c]⟩ : Str))
def stretchStep (ws : List Str) (n place : Nat) : Nat := if inW (n >>> (8 * place) &&& 255) ws then n + 128 <<< (8 * place) else n
def stretchN (n : Nat) (ws : List Str) : Nat := (List.range 4).foldl (stretchStep ws) n

section
variable {prog : Program} {w : World} {mean : ExcName → Option Value} {mg mb : Str → Option Value} {A : Around} {s : Shared} {Q E : Value → Shared → Prop}
theorem chr_n {hp : Heap} {tk c : Nat} {t : Tok} (hc : c < 1114112) (h : ∀ t tk, Q (.str ⟨#[c]⟩ t) { s with heap := hp, toks := tk }) : wpAny (model prog w) A (call (.builtin "chr") [vn c t]) Q E { s with heap := hp, toks := tk } :=
  chr_of_range (by omega) (by omega) (h _ _)
theorem and255_lt (a : Nat) : a &&& 255 < 1114112 := Nat.lt_of_le_of_lt Nat.and_le_right (by decide)
theorem IsList.at' {h h' : Heap} {l : Addr} {vs : Array Value} (x : h.IsList l vs) (e : Ext h h') : h'.IsList l vs := x.at fun o q => e l o q
set_option maxHeartbeats 2000000 in
theorem law_stretch {n : Nat} {l : Addr} {vs : List Value} {ws : List Str} {t : Tok} (g : G w mean mg mb s.heap) (hroom : A.depth < recursionLimit) (hh : A.handled = none) (hl : s.heap.IsList l vs.toArray) (hi : StrsAre vs ws)
    (ret : ∀ t h' tk, Ext s.heap h' → Q (vn (stretchN n ws) t) { s with heap := h', toks := tk }) : wpAny (model prog w) A (call (.ref 77) [vn n t, .ref l]) Q E s := by
  have X := g.X
  have T := g.T
  refine enter g (binds := [(Str.ofString "number", vn n t), (Str.ofString "written", .ref l)]) (by k_is) (by k_is) hroom (by exact BindsTo.of_eq rfl) (by exact locs rfl) ?_ (by rfl) (by rfl) (by rfl) (by decide)
  intro L h₁ F
  have N : News s.heap L h₁ [] := News.nil
  refine wpAny_execs_cons ?_
  refine For_invVF (by assumption) rfl rfl ?_
  iterate 7 walk1
  refine fold1_range vn (fun _ => True) 4 (stretchStep ws) (Str.ofString "number") [] n hh (by assumption) (by rfl) (by rfl) (by assumption) (by assumption) rfl trivial (fun _ _ _ _ => trivial) ?_ ?_
  · intro k tb a ta u h tk own hk _ off F N
    iterate 18 walk1
    refine chr_n (and255_lt _) ?_
    intro _ _
    walk1
    refine in_list_strs (IsList.at' hl (Fr.keep (by assumption))) hi ?_
    cases hb : ws.any (· == (⟨#[a >>> (8 * k) &&& 255]⟩ : Str))
    · repeat walk1
      walk_at "my end"
      unfold stretchStep inW; rw [hb]; rfl
    · repeat walk1
      walk_at "my end"
      unfold stretchStep inW; rw [hb]; rfl
  · intro u t h tk _ F N
    repeat walk1
    exact ret _ _ _ (Fr.keep (by assumption))
end
/-- each sign c written as r -/
def repl (c : Nat) (r : List Nat) (l : List Nat) : List Nat := l.flatMap fun a => if a = c then r else [a]
theorem repl_not {c : Nat} {r : List Nat} : ∀ {l : List Nat}, c ∉ l → repl c r l = l
  | [], _ => rfl
  | a :: l, h => by
    have h1 : a ≠ c := fun e => h (e ▸ List.mem_cons_self)
    have h2 := repl_not (r := r) (fun e => h (List.mem_cons_of_mem _ e) : c ∉ l)
    unfold repl at h2 ⊢
    rw [List.flatMap_cons, if_neg h1, h2]; rfl

theorem repl_append (c : Nat) (r a b : List Nat) : repl c r (a ++ b) = repl c r a ++ repl c r b := by unfold repl; exact List.flatMap_append
theorem repl_join (c : Nat) (z : Str) : ∀ parts : List Str, (∀ p ∈ parts, c ∉ p.cps.toList) → repl c z.cps.toList (Str.join ⟨#[c]⟩ parts).cps.toList = (Str.join z parts).cps.toList
  | [], _ => rfl
  | [p], h => repl_not (h p (List.mem_singleton.mpr rfl))
  | p :: q :: r, h => by
    have ih := repl_join c z (q :: r) fun a ha => h a (List.mem_cons_of_mem _ ha)
    show repl c z.cps.toList (p ++ ⟨#[c]⟩ ++ Str.join ⟨#[c]⟩ (q :: r)).cps.toList = (p ++ z ++ Str.join z (q :: r)).cps.toList
    simp only [Str.cps_append, Array.toList_append]
    rw [repl_append, repl_append, ih, repl_not (h p List.mem_cons_self)]
    have : repl c z.cps.toList [c] = z.cps.toList := by simp [repl]
    show p.cps.toList ++ repl c z.cps.toList [c] ++ _ = _
    rw [this]
theorem replace_repl (x z : Str) (c : Nat) : (Txt.replace x ⟨#[c]⟩ z).cps.toList = repl c z.cps.toList x.cps.toList := by
  rw [StrLaws.replace_one, ← repl_join c z _ (StrLaws.split_free x c), StrLaws.join_split]

section
variable {prog : Program} {w : World} {mean : ExcName → Option Value} {mg mb : Str → Option Value} {A : Around} {s : Shared} {E : Value → Shared → Prop} {Q : Flow → Shared → Prop}
set_option maxHeartbeats 2000000 in
theorem if_rep {name : Str} {scope : Scope} {L f : Addr} {cd : Value} {h₀ hp : Heap} {m : Str → Option Value} {news : List (Addr × Obj)} {p1 p2 p3 p4 p5 p6 p7 p8 p9 p10 p11 : Pos} {k1 k2 k3 : Nat} {x cS rS : Str} {t : Tok} {tk : Nat} {c : Nat}
    (Ff : Fr h₀ L hp m) (N : News h₀ L hp news) (hm : m (Str.ofString "text") = some (.str x t)) (hc : cS = ⟨#[c]⟩) (hx : x.length + (x.length + 1) * rS.length ≤ 16777216) (hcr : (cS == rS) = false)
    (hline : (p6.endLine == p9.line) = true) (hkd : scope.kind = .function) (hl : (envOf name scope L f cd).kindOf (Str.ofString "text") = some .local)
    (h : ∀ h' tk y t', y.cps.toList = repl c rS.cps.toList x.cps.toList → Fr h₀ L h' (fun z => if z = Str.ofString "text" then some (.str y t') else m z) → News h₀ L h' news → Q .next { s with heap := h', toks := tk }) :
    wpAny (model prog w) A (exec (.If (.Compare (.Constant (.str cS) k1 p1) [.In] [.Name (Str.ofString "text") p2] p3) [.Assign [.Name (Str.ofString "text") p4] (.Call (.Attribute (.Name (Str.ofString "text") p5) (Str.ofString "replace") p6) [.Constant (.str cS) k2 p7, .Constant (.str rS) k3 p8] [] p9) p10] [] p11) (envOf name scope L f cd)) Q E { s with heap := hp, toks := tk } := by
  refine wpAny_If ?_
  refine wpAny_isTrue_Compare1 ?_
  refine Constant_str ?_
  refine ld Ff hm ?_ hkd hl (by decide)
  refine in_str ?_
  refine wpAny_truthy_bool ?_
  subst hc
  rw [StrLaws.found_one]
  by_cases hi : c ∈ x.cps.toList
  · rw [decide_eq_true hi, if_pos rfl]
    refine wpAny_execs_cons ?_
    refine wpAny_Assign_Name ?_ rfl
    refine wpAny_Call_method_lateS rfl rfl hline ?_
    refine ld Ff hm ?_ hkd hl (by decide)
    refine ⟨"str", "str.replace", F.plainAttrs_str, F.slot_str_replace, F.type_str_replace, typeIs_str _ _ _, GM.noRef, ?_⟩
    refine callWith_method1 ?_
    refine spliced_cons (Constant_str (k := k2) (pos := p7) ?_)
    refine spliced_cons (Constant_str (k := k3) (pos := p8) ?_)
    refine spliced_nil ?_
    refine SC.replace (Nat.succ_ne_zero _) (Nat.succ_ne_zero _) (Nat.ne_of_lt (Nat.lt_succ_self _)) hcr hx fun t' k => ?_
    exact st_n Ff N (fun h' tk' F' N' => wpAny_execs_nil (h h' tk' _ t' (replace_repl x rS c) F' N')) hkd hl
  · rw [decide_eq_false hi, if_neg Bool.false_ne_true]
    refine wpAny_execs_nil ?_
    refine h hp _ x t (repl_not hi).symm ?_ N
    have e : (fun z => if z = Str.ofString "text" then some (.str x t) else m z) = m := by
      funext z
      by_cases q : z = Str.ofString "text"
      · rw [if_pos q, q, hm]
      · rw [if_neg q]
    rw [e]; exact Ff
end
/-- what each hand writes for a sign, in the order of its text: the sign, what is written -/
def escT : Nat → List (Nat × List Nat)
  | 0 => [(38, [38, 97, 109, 112, 59]), (60, [38, 108, 116, 59]), (62, [38, 103, 116, 59])]
  | 1 => [(38, [38, 97, 109, 112, 59]), (60, [38, 108, 116, 59]), (62, [38, 103, 116, 59]), (34, [38, 113, 117, 111, 116, 59]), (13, [38, 35, 49, 51, 59]), (10, [38, 35, 49, 48, 59]), (9, [38, 35, 48, 57, 59])]
  | 2 => [(38, [38, 97, 109, 112, 59]), (62, [38, 103, 116, 59]), (34, [38, 113, 117, 111, 116, 59])]
  | 3 => [(38, [38, 97, 109, 112, 59]), (60, [38, 108, 116, 59]), (62, [38, 103, 116, 59]), (13, [38, 35, 120, 68, 59])]
  | _ => [(38, [38, 97, 109, 112, 59]), (60, [38, 108, 116, 59]), (34, [38, 113, 117, 111, 116, 59]), (9, [38, 35, 120, 57, 59]), (10, [38, 35, 120, 65, 59]), (13, [38, 35, 120, 68, 59])]
def escA : Nat → Addr
  | 0 => 35
  | 1 => 42
  | 2 => 49
  | 3 => 56
  | _ => 63
def escN (rs : List (Nat × List Nat)) (l : List Nat) : List Nat := rs.foldl (fun l p => repl p.1 p.2 l) l
theorem repl_len {c : Nat} {r : List Nat} (hr : r.length ≤ 6) : ∀ l : List Nat, (repl c r l).length ≤ 6 * l.length
  | [] => Nat.le_refl _
  | a :: l => by
    have ih := repl_len (c := c) hr l
    unfold repl at ih ⊢
    rw [List.flatMap_cons, List.length_append, List.length_cons]
    split
    · omega
    · rw [List.length_singleton]; omega
theorem rep_bound {x y : Str} {c : Nat} {r : List Nat} {n : Nat} (hr : r.length ≤ 6) (hx : x.length ≤ n) (e : y.cps.toList = repl c r x.cps.toList) : y.length ≤ 6 * n := by
  have h1 : y.length = y.cps.toList.length := rfl
  have h2 : x.length = x.cps.toList.length := rfl
  have := repl_len (c := c) hr x.cps.toList
  rw [h1, e]; omega
theorem rep_size {x : Str} {k n : Nat} (hx : x.length ≤ n) (hn : n ≤ 2333333) (hk : k ≤ 6) : x.length + (x.length + 1) * k ≤ 16777216 := by
  have : (x.length + 1) * k ≤ (n + 1) * 6 := Nat.mul_le_mul (by omega) hk
  omega

section
variable {prog : Program} {w : World} {mean : ExcName → Option Value} {mg mb : Str → Option Value} {A : Around} {s : Shared} {Q E : Value → Shared → Prop}
set_option maxHeartbeats 2000000 in
theorem esc0 {x : Str} {t : Tok} (g : G w mean mg mb s.heap) (hroom : A.depth < recursionLimit) (hx : x.length ≤ 50)
    (ret : ∀ y t h' tk, y.cps.toList = escN (escT 0) x.cps.toList → Ext s.heap h' → Q (.str y t) { s with heap := h', toks := tk }) : wpAny (model prog w) A (call (.ref 35) [.str x t]) Q E s := by
  have X := g.X
  have T := g.T
  refine enter g (binds := [(Str.ofString "text", .str x t)]) (by k_is) (by k_is) hroom (by exact BindsTo.of_eq rfl) (by exact locs rfl) ?_ (by rfl) (by rfl) (by rfl) (by decide)
  intro L h₁ F
  have N : News s.heap L h₁ [] := News.nil
  iterate 3 walk1
  refine wpAny_execs_cons ?_
  refine if_rep (c := 38) (by assumption) (by assumption) rfl (by decide +kernel) (rep_size hx (by decide) (by decide +kernel)) (by decide +kernel) rfl rfl rfl ?_
  intro h0 tk0 y0 t0 e0 F N
  have b0 := rep_bound (by decide +kernel) hx e0
  refine wpAny_execs_cons ?_
  refine if_rep (c := 60) (by assumption) (by assumption) rfl (by decide +kernel) (rep_size b0 (by decide) (by decide +kernel)) (by decide +kernel) rfl rfl rfl ?_
  intro h1 tk1 y1 t1 e1 F N
  have b1 := rep_bound (by decide +kernel) b0 e1
  refine wpAny_execs_cons ?_
  refine if_rep (c := 62) (by assumption) (by assumption) rfl (by decide +kernel) (rep_size b1 (by decide) (by decide +kernel)) (by decide +kernel) rfl rfl rfl ?_
  intro h2 tk2 y2 t2 e2 F N
  have b2 := rep_bound (by decide +kernel) b1 e2
  repeat walk1
  refine ret _ _ _ _ ?_ (Fr.keep (by assumption))
  rw [e2, e1, e0]
  rfl
set_option maxHeartbeats 2000000 in
theorem esc1 {x : Str} {t : Tok} (g : G w mean mg mb s.heap) (hroom : A.depth < recursionLimit) (hx : x.length ≤ 50)
    (ret : ∀ y t h' tk, y.cps.toList = escN (escT 1) x.cps.toList → Ext s.heap h' → Q (.str y t) { s with heap := h', toks := tk }) : wpAny (model prog w) A (call (.ref 42) [.str x t]) Q E s := by
  have X := g.X
  have T := g.T
  refine enter g (binds := [(Str.ofString "text", .str x t)]) (by k_is) (by k_is) hroom (by exact BindsTo.of_eq rfl) (by exact locs rfl) ?_ (by rfl) (by rfl) (by rfl) (by decide)
  intro L h₁ F
  have N : News s.heap L h₁ [] := News.nil
  iterate 3 walk1
  refine wpAny_execs_cons ?_
  refine if_rep (c := 38) (by assumption) (by assumption) rfl (by decide +kernel) (rep_size hx (by decide) (by decide +kernel)) (by decide +kernel) rfl rfl rfl ?_
  intro h0 tk0 y0 t0 e0 F N
  have b0 := rep_bound (by decide +kernel) hx e0
  refine wpAny_execs_cons ?_
  refine if_rep (c := 60) (by assumption) (by assumption) rfl (by decide +kernel) (rep_size b0 (by decide) (by decide +kernel)) (by decide +kernel) rfl rfl rfl ?_
  intro h1 tk1 y1 t1 e1 F N
  have b1 := rep_bound (by decide +kernel) b0 e1
  refine wpAny_execs_cons ?_
  refine if_rep (c := 62) (by assumption) (by assumption) rfl (by decide +kernel) (rep_size b1 (by decide) (by decide +kernel)) (by decide +kernel) rfl rfl rfl ?_
  intro h2 tk2 y2 t2 e2 F N
  have b2 := rep_bound (by decide +kernel) b1 e2
  refine wpAny_execs_cons ?_
  refine if_rep (c := 34) (by assumption) (by assumption) rfl (by decide +kernel) (rep_size b2 (by decide) (by decide +kernel)) (by decide +kernel) rfl rfl rfl ?_
  intro h3 tk3 y3 t3 e3 F N
  have b3 := rep_bound (by decide +kernel) b2 e3
  refine wpAny_execs_cons ?_
  refine if_rep (c := 13) (by assumption) (by assumption) rfl (by decide +kernel) (rep_size b3 (by decide) (by decide +kernel)) (by decide +kernel) rfl rfl rfl ?_
  intro h4 tk4 y4 t4 e4 F N
  have b4 := rep_bound (by decide +kernel) b3 e4
  refine wpAny_execs_cons ?_
  refine if_rep (c := 10) (by assumption) (by assumption) rfl (by decide +kernel) (rep_size b4 (by decide) (by decide +kernel)) (by decide +kernel) rfl rfl rfl ?_
  intro h5 tk5 y5 t5 e5 F N
  have b5 := rep_bound (by decide +kernel) b4 e5
  refine wpAny_execs_cons ?_
  refine if_rep (c := 9) (by assumption) (by assumption) rfl (by decide +kernel) (rep_size b5 (by decide) (by decide +kernel)) (by decide +kernel) rfl rfl rfl ?_
  intro h6 tk6 y6 t6 e6 F N
  have b6 := rep_bound (by decide +kernel) b5 e6
  repeat walk1
  refine ret _ _ _ _ ?_ (Fr.keep (by assumption))
  rw [e6, e5, e4, e3, e2, e1, e0]
  rfl
set_option maxHeartbeats 2000000 in
theorem esc2 {x : Str} {t : Tok} (g : G w mean mg mb s.heap) (hroom : A.depth < recursionLimit) (hx : x.length ≤ 50)
    (ret : ∀ y t h' tk, y.cps.toList = escN (escT 2) x.cps.toList → Ext s.heap h' → Q (.str y t) { s with heap := h', toks := tk }) : wpAny (model prog w) A (call (.ref 49) [.str x t]) Q E s := by
  have X := g.X
  have T := g.T
  refine enter g (binds := [(Str.ofString "text", .str x t)]) (by k_is) (by k_is) hroom (by exact BindsTo.of_eq rfl) (by exact locs rfl) ?_ (by rfl) (by rfl) (by rfl) (by decide)
  intro L h₁ F
  have N : News s.heap L h₁ [] := News.nil
  iterate 3 walk1
  refine wpAny_execs_cons ?_
  refine if_rep (c := 38) (by assumption) (by assumption) rfl (by decide +kernel) (rep_size hx (by decide) (by decide +kernel)) (by decide +kernel) rfl rfl rfl ?_
  intro h0 tk0 y0 t0 e0 F N
  have b0 := rep_bound (by decide +kernel) hx e0
  refine wpAny_execs_cons ?_
  refine if_rep (c := 62) (by assumption) (by assumption) rfl (by decide +kernel) (rep_size b0 (by decide) (by decide +kernel)) (by decide +kernel) rfl rfl rfl ?_
  intro h1 tk1 y1 t1 e1 F N
  have b1 := rep_bound (by decide +kernel) b0 e1
  refine wpAny_execs_cons ?_
  refine if_rep (c := 34) (by assumption) (by assumption) rfl (by decide +kernel) (rep_size b1 (by decide) (by decide +kernel)) (by decide +kernel) rfl rfl rfl ?_
  intro h2 tk2 y2 t2 e2 F N
  have b2 := rep_bound (by decide +kernel) b1 e2
  repeat walk1
  refine ret _ _ _ _ ?_ (Fr.keep (by assumption))
  rw [e2, e1, e0]
  rfl
set_option maxHeartbeats 2000000 in
theorem esc3 {x : Str} {t : Tok} (g : G w mean mg mb s.heap) (hroom : A.depth < recursionLimit) (hx : x.length ≤ 50)
    (ret : ∀ y t h' tk, y.cps.toList = escN (escT 3) x.cps.toList → Ext s.heap h' → Q (.str y t) { s with heap := h', toks := tk }) : wpAny (model prog w) A (call (.ref 56) [.str x t]) Q E s := by
  have X := g.X
  have T := g.T
  refine enter g (binds := [(Str.ofString "text", .str x t)]) (by k_is) (by k_is) hroom (by exact BindsTo.of_eq rfl) (by exact locs rfl) ?_ (by rfl) (by rfl) (by rfl) (by decide)
  intro L h₁ F
  have N : News s.heap L h₁ [] := News.nil
  iterate 3 walk1
  refine wpAny_execs_cons ?_
  refine if_rep (c := 38) (by assumption) (by assumption) rfl (by decide +kernel) (rep_size hx (by decide) (by decide +kernel)) (by decide +kernel) rfl rfl rfl ?_
  intro h0 tk0 y0 t0 e0 F N
  have b0 := rep_bound (by decide +kernel) hx e0
  refine wpAny_execs_cons ?_
  refine if_rep (c := 60) (by assumption) (by assumption) rfl (by decide +kernel) (rep_size b0 (by decide) (by decide +kernel)) (by decide +kernel) rfl rfl rfl ?_
  intro h1 tk1 y1 t1 e1 F N
  have b1 := rep_bound (by decide +kernel) b0 e1
  refine wpAny_execs_cons ?_
  refine if_rep (c := 62) (by assumption) (by assumption) rfl (by decide +kernel) (rep_size b1 (by decide) (by decide +kernel)) (by decide +kernel) rfl rfl rfl ?_
  intro h2 tk2 y2 t2 e2 F N
  have b2 := rep_bound (by decide +kernel) b1 e2
  refine wpAny_execs_cons ?_
  refine if_rep (c := 13) (by assumption) (by assumption) rfl (by decide +kernel) (rep_size b2 (by decide) (by decide +kernel)) (by decide +kernel) rfl rfl rfl ?_
  intro h3 tk3 y3 t3 e3 F N
  have b3 := rep_bound (by decide +kernel) b2 e3
  repeat walk1
  refine ret _ _ _ _ ?_ (Fr.keep (by assumption))
  rw [e3, e2, e1, e0]
  rfl
set_option maxHeartbeats 2000000 in
theorem esc4 {x : Str} {t : Tok} (g : G w mean mg mb s.heap) (hroom : A.depth < recursionLimit) (hx : x.length ≤ 50)
    (ret : ∀ y t h' tk, y.cps.toList = escN (escT 4) x.cps.toList → Ext s.heap h' → Q (.str y t) { s with heap := h', toks := tk }) : wpAny (model prog w) A (call (.ref 63) [.str x t]) Q E s := by
  have X := g.X
  have T := g.T
  refine enter g (binds := [(Str.ofString "text", .str x t)]) (by k_is) (by k_is) hroom (by exact BindsTo.of_eq rfl) (by exact locs rfl) ?_ (by rfl) (by rfl) (by rfl) (by decide)
  intro L h₁ F
  have N : News s.heap L h₁ [] := News.nil
  iterate 3 walk1
  refine wpAny_execs_cons ?_
  refine if_rep (c := 38) (by assumption) (by assumption) rfl (by decide +kernel) (rep_size hx (by decide) (by decide +kernel)) (by decide +kernel) rfl rfl rfl ?_
  intro h0 tk0 y0 t0 e0 F N
  have b0 := rep_bound (by decide +kernel) hx e0
  refine wpAny_execs_cons ?_
  refine if_rep (c := 60) (by assumption) (by assumption) rfl (by decide +kernel) (rep_size b0 (by decide) (by decide +kernel)) (by decide +kernel) rfl rfl rfl ?_
  intro h1 tk1 y1 t1 e1 F N
  have b1 := rep_bound (by decide +kernel) b0 e1
  refine wpAny_execs_cons ?_
  refine if_rep (c := 34) (by assumption) (by assumption) rfl (by decide +kernel) (rep_size b1 (by decide) (by decide +kernel)) (by decide +kernel) rfl rfl rfl ?_
  intro h2 tk2 y2 t2 e2 F N
  have b2 := rep_bound (by decide +kernel) b1 e2
  refine wpAny_execs_cons ?_
  refine if_rep (c := 9) (by assumption) (by assumption) rfl (by decide +kernel) (rep_size b2 (by decide) (by decide +kernel)) (by decide +kernel) rfl rfl rfl ?_
  intro h3 tk3 y3 t3 e3 F N
  have b3 := rep_bound (by decide +kernel) b2 e3
  refine wpAny_execs_cons ?_
  refine if_rep (c := 10) (by assumption) (by assumption) rfl (by decide +kernel) (rep_size b3 (by decide) (by decide +kernel)) (by decide +kernel) rfl rfl rfl ?_
  intro h4 tk4 y4 t4 e4 F N
  have b4 := rep_bound (by decide +kernel) b3 e4
  refine wpAny_execs_cons ?_
  refine if_rep (c := 13) (by assumption) (by assumption) rfl (by decide +kernel) (rep_size b4 (by decide) (by decide +kernel)) (by decide +kernel) rfl rfl rfl ?_
  intro h5 tk5 y5 t5 e5 F N
  have b5 := rep_bound (by decide +kernel) b4 e5
  repeat walk1
  refine ret _ _ _ _ ?_ (Fr.keep (by assumption))
  rw [e5, e4, e3, e2, e1, e0]
  rfl
end
/-- a pair of texts in the heap -/
def PairAt (h : Heap) (v : Value) (p : Str × Str) : Prop := ∃ a t u, v = .ref a ∧ h.IsTuple a #[.str p.1 t, .str p.2 u]
def TabAt (h : Heap) (v : Value) (ps : List (Str × Str)) : Prop := ∃ a vs, v = .ref a ∧ h.IsList a (List.toArray vs) ∧ Paired (PairAt h) vs ps
/-- a hand's table as the law writes it: the sign, and what stands behind the & -/
def handT (i : Nat) : List (Str × Str) := (escT i).map fun p => (⟨#[p.1]⟩, ⟨(p.2.drop 1).toArray⟩)
def HandAt (h : Heap) (v : Value) (i : Nat) : Prop := ∃ a u, v = .ref a ∧ h.IsTuple a #[.ref (escA i), u] ∧ TabAt h u (handT i)

theorem IsTuple.up {h h' : Heap} {l : Addr} {vs : Array Value} (x : h.IsTuple l vs) (e : Ext h h') : h'.IsTuple l vs := let ⟨o, q, r⟩ := x; ⟨o, e _ _ q, r⟩
theorem Paired.imp {α β : Type} {F F' : α → β → Prop} (hf : ∀ a b, F a b → F' a b) : ∀ {l₁ : List α} {l₂ : List β}, Paired F l₁ l₂ → Paired F' l₁ l₂
  | _, _, .nil => .nil
  | _, _, .cons h t => .cons (hf _ _ h) (Paired.imp hf t)
theorem Paired.at {α β : Type} {F : α → β → Prop} : ∀ {l₁ : List α} {l₂ : List β}, Paired F l₁ l₂ → ∀ {i : Nat} {b : β}, l₂[i]? = some b → ∃ a, l₁[i]? = some a ∧ F a b
  | _, _, .nil, _, _, h => by simp at h
  | _, _, .cons (a := a) h t, 0, _, e => by
    simp at e; subst e; exact ⟨a, rfl, h⟩
  | _, _, .cons h t, i + 1, _, e => by
    simp at e
    obtain ⟨a', h1, h2⟩ := Paired.at t e
    exact ⟨a', by simpa using h1, h2⟩
theorem PairAt.up {h h' : Heap} {v : Value} {p : Str × Str} (x : PairAt h v p) (e : Ext h h') : PairAt h' v p := let ⟨a, t, u, q, r⟩ := x; ⟨a, t, u, q, IsTuple.up r e⟩
theorem TabAt.up {h h' : Heap} {v : Value} {p : List (Str × Str)} (x : TabAt h v p) (e : Ext h h') : TabAt h' v p := let ⟨a, vs, q, r, t⟩ := x; ⟨a, vs, q, IsList.at' r e, Paired.imp (fun _ _ z => PairAt.up z e) t⟩
theorem HandAt.up {h h' : Heap} {v : Value} {i : Nat} (x : HandAt h v i) (e : Ext h h') : HandAt h' v i := let ⟨a, u, q, r, t⟩ := x; ⟨a, u, q, IsTuple.up r e, TabAt.up t e⟩

/-- the objects of a ledger stand in a heap -/
def Held (tl : List (Addr × Obj)) (h : Heap) : Prop := ∀ p ∈ tl, h.get? p.1 = some p.2

section
variable {prog : Program} {w : World} {mean : ExcName → Option Value} {mg mb : Str → Option Value} {A : Around} {s : Shared} {Q E : Value → Shared → Prop}
theorem pair_of {h : Heap} {a : Addr} {news : List (Addr × Obj)} {x y : Str} {t u : Tok} {n : Nat} {p : Str × Str} (N : Held news h) (hm : (a, ({ cls := .type "tuple", data := .seq #[.str x t, .str y u] n } : Obj)) ∈ news) (hx : x = p.1) (hy : y = p.2) : PairAt h (.ref a) p := by
  subst hx hy
  exact ⟨a, t, u, rfl, _, N _ hm, rfl, _, rfl⟩
theorem tup_of {h : Heap} {a : Addr} {news : List (Addr × Obj)} {vs : Array Value} {n : Nat} (N : Held news h) (hm : (a, ({ cls := .type "tuple", data := .seq vs n } : Obj)) ∈ news) : h.IsTuple a vs := ⟨_, N _ hm, rfl, _, rfl⟩
theorem list_of {h : Heap} {a : Addr} {news : List (Addr × Obj)} {vs : Array Value} {n : Nat} (N : Held news h) (hm : (a, ({ cls := .type "list", data := .seq vs n } : Obj)) ∈ news) : h.IsList a vs := ⟨_, N _ hm, rfl, _, rfl⟩
set_option maxHeartbeats 4000000 in
theorem law_hands (g : G w mean mg mb s.heap) (hroom : A.depth < recursionLimit)
    (ret : ∀ l vs h' tk tl, (∀ h, Held tl h → h.IsList l (List.toArray vs) ∧ Paired (HandAt h) vs [0, 1, 2, 3, 4]) → Fresh tl s.heap h' → Ext s.heap h' → Q (.ref l) { s with heap := h', toks := tk }) : wpAny (model prog w) A (call (.ref 70) []) Q E s := by
  have X := g.X
  have T := g.T
  refine enter g (binds := []) (by k_is) (by k_is) hroom (by exact BindsTo.of_eq rfl) (by exact locs rfl) ?_ (by rfl) (by rfl) (by rfl) (by decide)
  intro L h₁ F
  have N : News s.heap L h₁ [] := News.nil
  repeat walk1
  rename News _ _ _ _ => N
  refine' ret _ [_, _, _, _, _] _ _ _ ?main (fun p hp => ⟨(N p hp).1, (N p hp).2.2⟩) (Fr.keep (by assumption))
  case main =>
    intro h NH
    refine ⟨list_of NH (by k_mem), ?_⟩
    repeat' (first
      | exact Paired.nil
      | refine Paired.cons ?_ ?_
      | exact pair_of NH (by k_mem) (by decide +kernel) (by decide +kernel)
      | refine ⟨_, _, rfl, tup_of NH (by k_mem), ?_⟩
      | refine ⟨_, _, rfl, list_of NH (by k_mem), ?_⟩)
end
noncomputable abbrev lawRow : Program := PySem.Challenge.pw_ph0069_01
/-- the law's def, as the row has it -/
noncomputable def lawBody : List Stmt := match lawRow.main.body.getD 17 (.Pass ⟨0, 0, 0, 0⟩) with
  | .FunctionDef _ _ b _ _ _ _ _ _ _ => b
  | _ => []
noncomputable def lawScope : Scope := match lawRow.main.body.getD 17 (.Pass ⟨0, 0, 0, 0⟩) with
  | .FunctionDef _ _ _ _ _ _ s _ _ _ => s
  | _ => { kind := .function, names := [], isGenerator := false, isCoroutine := false }
noncomputable abbrev lawEnv (L f : Addr) (cd : Value) : Env := envOfC (Str.ofString "law") lawScope L f cd

section
variable {prog : Program} {w : World} {A : Around} {E : Value → Shared → Prop} {s : Shared} {hp : Heap} {tk : Nat} {Q : Value → Shared → Prop}
theorem tail_list {value slice : Expr} {l : Addr} {its : List Value} {k : Nat} {u : Tok} {x : Value} (hl : hp.IsList l its.toArray) (hx : its[k]? = some x) (hfit : k < 2 ^ 62) (h : Q x { s with heap := hp, toks := tk })
    (hs : subscripted slice false (.ref l) (vn k u) = operate [.ref l, vn k u] (getItem (.ref l) (vn k u)) := by with_unfolding_all rfl) :
    wpAny (model prog w) A (subscriptTail value slice (.ref l) (vn k u)) Q E { s with heap := hp, toks := tk } :=
  kba_turn (value' := Expr.Name (Str.ofString "_") ⟨0, 0, 0, 0⟩) (fun _ => rfl) (item_listL hl (Int.natCast_nonneg _) (by omega) (by simpa using hx) h hs (fun _ => rfl))
theorem tail_tup {value slice : Expr} {l : Addr} {its : List Value} {k : Nat} {u : Tok} {x : Value} (hl : hp.IsTuple l its.toArray) (hx : its[k]? = some x) (hk : k < its.length) (hfit : k < 2 ^ 62) (h : Q x { s with heap := hp, toks := tk })
    (hs : subscripted slice false (.ref l) (vn k u) = operate [.ref l, vn k u] (getItem (.ref l) (vn k u)) := by with_unfolding_all rfl) :
    wpAny (model prog w) A (subscriptTail value slice (.ref l) (vn k u)) Q E { s with heap := hp, toks := tk } :=
  kba_turn (value' := Expr.Name (Str.ofString "_") ⟨0, 0, 0, 0⟩) (fun _ => rfl) (item_tupleL (j := k) hl (by omega) (by omega) (by unfold seqIndex?; simp; omega) hx h hs (fun _ => rfl))
theorem tail_slice {value slice : Expr} {l : Addr} {its : Array Value} {vl vu vk : Value} {lo hi st : Option Int} {ops : List Value} (hl : hp.IsList l its) (pl : IsPart vl lo) (pu : IsPart vu hi) (pk : IsPart vk st) (h0 : st ≠ some 0) (hsz : its.size ≤ sizeLine)
    (h : ∀ D h', Ext hp h' → h'.IsList D (slicePick its lo hi st) → hp.get? D = none → Q (.ref D) { s with heap := h', toks := tk })
    (hs : subscripted slice false (.ref l) (.ref hp.objs.size) = operate ops (getItem (.ref l) (.ref hp.objs.size))) :
    wpAny (model prog w) A (subscriptTail value slice (.ref l) (.ref hp.objs.size)) Q E { s with heap := hp.push { cls := .type "slice", data := .fields #[vl, vu, vk] }, toks := tk } := by
  refine kba_turn (value' := Expr.Name (Str.ofString "_") ⟨0, 0, 0, 0⟩) (fun _ => rfl) ?_
  refine subscriptTail_ops (s := { s with heap := hp.push { cls := .type "slice", data := .fields #[vl, vu, vk] }, toks := tk }) (Heap.IsList.typeIs (s := { s with heap := hp.push { cls := .type "slice", data := .fields #[vl, vu, vk] }, toks := tk }) (hl.push _)) list_getitem_lookup
    (wpAny_getItem_list_slice (s := { s with heap := hp.push { cls := .type "slice", data := .fields #[vl, vu, vk] }, toks := tk }) (hl.push _) (Heap.IsSliceOf.new ..) pl pu pk h0 ?_ hsz) hs (fun _ => rfl)
  refine h _ _ (fun b o e => Heap.get?_push_of_some _ (Heap.get?_push_of_some _ e)) ⟨_, Heap.get?_push_size _ rfl, rfl, _, rfl⟩ ?_
  cases e : hp.get? (hp.push { cls := .type "slice", data := .fields #[vl, vu, vk] }).objs.size with
  | none => rfl
  | some o => have := Heap.lt_size e; rw [Heap.size_push] at this; exact absurd (Nat.lt_trans (Nat.lt_succ_self _) this) (Nat.lt_irrefl _)
end
noncomputable abbrev ls (k : Nat) : Stmt := lawBody.getD k (.Pass ⟨0, 0, 0, 0⟩)
/-- an int, whichever -/
def IsInt (v : Value) : Prop := ∃ z t, v = .int z t
def ListObj (o : Obj) (its : List Value) : Prop := o.cls = .type "list" ∧ ∃ n, o.data = .seq its.toArray n
theorem ListObj.at {h₀ h : Heap} {L a : Addr} {o : Obj} {its : List Value} {news : List (Addr × Obj)} (x : ListObj o its) (N : News h₀ L h news) (hm : (a, o) ∈ news) : h.IsList a its.toArray := ⟨o, N.get hm, x.1, x.2⟩
theorem cell_at {h₀ h : Heap} {L a : Addr} {o : Obj} {v : Option Value} {news : List (Addr × Obj)} (N : News h₀ L h news) (hm : (a, o) ∈ news) (hd : o.data = .cell v) : h.IsCell a v := ⟨o, N.get hm, hd⟩

theorem fresh_ne {h₀ h : Heap} {L a c : Addr} {o : Obj} {news : List (Addr × Obj)} (e : h.get? a = none) (N : News h₀ L h news) (hm : (c, o) ∈ news) : a ≠ c := fun q => by rw [q, N.get hm] at e; cases e

section
variable {prog : Program} {w : World} {mean : ExcName → Option Value} {mg mb : Str → Option Value} {A : Around} {E : Value → Shared → Prop} {s : Shared} {h₀ hp : Heap} {tk : Nat} {L f : Addr} {cd : Value} {Q : Flow → Shared → Prop} {m : Str → Option Value}
set_option maxHeartbeats 2000000 in
theorem st1 {o1 o2 o3 o4 : Obj} (g : G w mean mg mb h₀) (F : Fr h₀ L hp (fun _ => none)) (N : News h₀ L hp [(L + 1 + 1 + 1 + 1, o4), (L + 1 + 1 + 1, o3), (L + 1 + 1, o2), (L + 1, o1)]) (d2 : o2.data = .cell none)
    (k : ∀ h' tk' b ob o2' bs, ListObj ob bs → bs.length = 5 → (∀ v ∈ bs, IsInt v) → o2'.data = .cell (some (.ref b)) → Fr h₀ L h' (fun _ => none) →
      News h₀ L h' [(b, ob), (L + 1 + 1 + 1 + 1, o4), (L + 1 + 1 + 1, o3), (L + 1 + 1, o2'), (L + 1, o1)] → Q .next { s with heap := h', toks := tk' }) :
    wpAny (model prog w) A (exec (ls 0) (lawEnv L f cd)) Q E { s with heap := hp, toks := tk } := by
  have X := g.X
  have T := g.T
  refine wpAny_Assign_Name ?_ rfl
  repeat walk1
  refine k _ _ _ _ _ [_, _, _, _, _] ⟨rfl, _, rfl⟩ rfl ?_ (by assumption) (by assumption) (by assumption)
  intro v hv
  simp only [List.mem_cons, List.not_mem_nil, or_false] at hv
  rcases hv with rfl | rfl | rfl | rfl | rfl <;> exact ⟨_, _, rfl⟩

/-- names in a comprehension's block -/
theorem c_own {scope : Scope} {cl : List (Str × Addr)} {C : Addr} {env : Env} {m₂ : Str → Option Value} {x : Str} {v : Value} {pos : Pos} {Q : Value → Shared → Prop} (hn : hp.Ns C m₂) (hx : m₂ x = some v) (h : Q v { s with heap := hp, toks := tk })
    (hk : (compEnvC scope cl C env).scope.kind = .function := by rfl) (hl : (compEnvC scope cl C env).kindOf x = some .local := by rfl) (hd : (x == ("__debug__" : Str)) = false := by decide) :
    wpAny (model prog w) A (eval (.Name x pos) (compEnvC scope cl C env)) Q E { s with heap := hp, toks := tk } := ldVarK (s := { s with heap := hp, toks := tk }) hn hx h hk hl hd
theorem c_cell {scope : Scope} {cl : List (Str × Addr)} {C c : Addr} {env : Env} {x : Str} {v : Value} {pos : Pos} {Q : Value → Shared → Prop} (hv : hp.IsCell c (some v)) (hc : cl.lookup x = some c) (h : Q v { s with heap := hp, toks := tk })
    (hk : (compEnvC scope cl C env).scope.kind = .function := by rfl) (hl : (compEnvC scope cl C env).kindOf x = some .cell := by rfl) (hd : (x == ("__debug__" : Str)) = false := by decide) :
    wpAny (model prog w) A (eval (.Name x pos) (compEnvC scope cl C env)) Q E { s with heap := hp, toks := tk } := ldCellK (s := { s with heap := hp, toks := tk }) hc hv h hk hl hd
theorem c_glob {scope : Scope} {cl : List (Str × Addr)} {C : Addr} {env : Env} {x : Str} {v : Value} {pos : Pos} {Q : Value → Shared → Prop} (g : G w mean mg mb hp) (e : nsIn (hd.heap_39 w.params) mainGlobals x = some (some v)) (h : Q v { s with heap := hp, toks := tk }) (hg : env.globals = mainGlobals := by rfl)
    (hk : (compEnvC scope cl C env).scope.kind = .function := by rfl) (hx : (compEnvC scope cl C env).kindOf x = some .globalImplicit := by rfl) (hd : (x == ("__debug__" : Str)) = false := by decide) :
    wpAny (model prog w) A (eval (.Name x pos) (compEnvC scope cl C env)) Q E { s with heap := hp, toks := tk } :=
  Name_function_global hk hx (loadGlobal_global (env := compEnvC scope cl C env) (s := { s with heap := hp, toks := tk }) (show hp.Ns env.globals mg from hg ▸ g.T.g) (mg_of g.X g.T.g e) h) hd
theorem c_boot {scope : Scope} {cl : List (Str × Addr)} {C : Addr} {env : Env} {x : Str} {v : Value} {pos : Pos} {Q : Value → Shared → Prop} (g : G w mean mg mb hp) (e : nsIn (hd.heap_39 w.params) mainGlobals x = some none) (hv : bootBuiltins x = some v) (hn : x ≠ "__name__") (h : Q v { s with heap := hp, toks := tk }) (hg : env.globals = mainGlobals := by rfl) (hb : env.builtins = builtinsNs := by rfl)
    (hk : (compEnvC scope cl C env).scope.kind = .function := by rfl) (hx : (compEnvC scope cl C env).kindOf x = some .globalImplicit := by rfl) (hd : (x == ("__debug__" : Str)) = false := by decide) :
    wpAny (model prog w) A (eval (.Name x pos) (compEnvC scope cl C env)) Q E { s with heap := hp, toks := tk } :=
  Name_function_global hk hx (loadGlobal_builtin (env := compEnvC scope cl C env) (s := { s with heap := hp, toks := tk }) (show hp.Ns env.globals mg from hg ▸ g.T.g) (mg_none_of g.X g.T.g e) (show hp.Ns env.builtins mb from hb ▸ g.T.b) ((g.T.builtins x hn).trans hv) h) hd

/-- names in the law's own block -/
theorem e_loc {x : Str} {v : Value} {pos : Pos} {Q : Value → Shared → Prop} (F : Fr h₀ L hp m) (hm : m x = some v) (h : Q v { s with heap := hp, toks := tk })
    (hk : lawScope.kind = .function := by rfl) (hl : (lawEnv L f cd).kindOf x = some .local := by rfl) (hd : (x == ("__debug__" : Str)) = false := by decide) :
    wpAny (model prog w) A (eval (.Name x pos) (lawEnv L f cd)) Q E { s with heap := hp, toks := tk } := wpAny_Name (wpAny_loadName_local (s := { s with heap := hp, toks := tk }) hk hl F.ns hm h) hd
theorem e_cell {x : Str} {c : Addr} {v : Value} {pos : Pos} {Q : Value → Shared → Prop} (hv : hp.IsCell c (some v)) (h : Q v { s with heap := hp, toks := tk }) (hc : (lawEnv L f cd).cells.lookup x = some c := by rfl)
    (hk : lawScope.kind = .function := by rfl) (hl : (lawEnv L f cd).kindOf x = some .cell := by rfl) (hd : (x == ("__debug__" : Str)) = false := by decide) :
    wpAny (model prog w) A (eval (.Name x pos) (lawEnv L f cd)) Q E { s with heap := hp, toks := tk } := wpAny_Name (wpAny_loadName_cell (s := { s with heap := hp, toks := tk }) hk hl hc hv h) hd
theorem e_glob {x : Str} {v : Value} {pos : Pos} {Q : Value → Shared → Prop} (g : G w mean mg mb hp) (e : nsIn (hd.heap_39 w.params) mainGlobals x = some (some v)) (h : Q v { s with heap := hp, toks := tk })
    (hk : lawScope.kind = .function := by rfl) (hx : (lawEnv L f cd).kindOf x = some .globalImplicit := by rfl) (hd : (x == ("__debug__" : Str)) = false := by decide) :
    wpAny (model prog w) A (eval (.Name x pos) (lawEnv L f cd)) Q E { s with heap := hp, toks := tk } :=
  Name_function_global hk hx (loadGlobal_global (env := lawEnv L f cd) (s := { s with heap := hp, toks := tk }) g.T.g (mg_of g.X g.T.g e) h) hd
theorem e_boot {x : Str} {v : Value} {pos : Pos} {Q : Value → Shared → Prop} (g : G w mean mg mb hp) (e : nsIn (hd.heap_39 w.params) mainGlobals x = some none) (hv : bootBuiltins x = some v) (hn : x ≠ "__name__") (h : Q v { s with heap := hp, toks := tk })
    (hk : lawScope.kind = .function := by rfl) (hx : (lawEnv L f cd).kindOf x = some .globalImplicit := by rfl) (hd : (x == ("__debug__" : Str)) = false := by decide) :
    wpAny (model prog w) A (eval (.Name x pos) (lawEnv L f cd)) Q E { s with heap := hp, toks := tk } :=
  Name_function_global hk hx (loadGlobal_builtin (env := lawEnv L f cd) (s := { s with heap := hp, toks := tk }) g.T.g (mg_none_of g.X g.T.g e) g.T.b ((g.T.builtins x hn).trans hv) h) hd
theorem e_st {x : Str} {v : Value} {news : List (Addr × Obj)} {Q : Unit → Shared → Prop} (F : Fr h₀ L hp m) (N : News h₀ L hp news)
    (h : ∀ h' tk', Fr h₀ L h' (fun y => if y = x then some v else m y) → News h₀ L h' news → Q () { s with heap := h', toks := tk' })
    (hl : (lawEnv L f cd).kindOf x = some .local := by rfl) (hp' : ((lawEnv L f cd).scope.kind == .class || ((lawEnv L f cd).scope.kind == .module && (lawEnv L f cd).locals != (lawEnv L f cd).globals)) = false := by rfl) :
    wpAny (model prog w) A (storeName (lawEnv L f cd) x v) Q E { s with heap := hp, toks := tk } :=
  wpAny_storeName_local (s := { s with heap := hp, toks := tk }) hl F.ns (fun h' hn hs => h h' _ (F.set hn hs) (N.set hs)) hp'

theorem intsAre_of : ∀ {vs : List Value}, (∀ v ∈ vs, IsInt v) → ∃ ns, IntsAre vs ns
  | [], _ => ⟨[], .nil⟩
  | v :: vs, h => by
    obtain ⟨z, t, rfl⟩ := h v List.mem_cons_self
    obtain ⟨ns, hn⟩ := intsAre_of fun v hv => h v (List.mem_cons_of_mem _ hv)
    exact ⟨z :: ns, .cons z t hn⟩
theorem isInt_of : ∀ {vs : List Value} {ns : List Int}, IntsAre vs ns → ∀ v ∈ vs, IsInt v
  | _, _, .nil, _, h => nomatch h
  | _, _, .cons z t r, v, h => by
    rcases List.mem_cons.mp h with rfl | h
    · exact ⟨z, t, rfl⟩
    · exact isInt_of r v h
theorem pick_mem {its : Array Value} {lo hi st : Option Int} {v : Value} (h : v ∈ (slicePick its lo hi st).toList) : v ∈ its.toList := by
  unfold slicePick at h
  simp only [List.mem_filterMap] at h
  obtain ⟨i, _, e⟩ := h
  exact Array.mem_toList_iff.mpr (Array.mem_of_getElem? e)
theorem sum_ext {l : Addr} {its : Array Value} {Q : Value → Shared → Prop} (hh : A.handled = none) (hl : hp.IsList l its) (hv : ∀ v ∈ its.toList, IsInt v) (h : ∀ z t h' tk', Ext hp h' → Q (.int z t) { s with heap := h', toks := tk' }) :
    wpAny (model prog w) A (call (.builtin "sum") [.ref l]) Q E { s with heap := hp, toks := tk } := by
  obtain ⟨ns, hi⟩ := intsAre_of hv
  obtain ⟨xs, hx⟩ := hi.allInts.items
  have hl' : hp.IsList l (intItems xs) := by rw [← hx]; simpa using hl
  exact sum_intListG (s := { s with heap := hp, toks := tk }) hh hl' fun h' tk' t' hk => h _ t' h' tk' hk
set_option maxHeartbeats 2000000 in
theorem st2 {o1 o2 o3 o4 ob : Obj} {b l : Addr} {bs vs : List Value} {ns : List Int} (g : G w mean mg mb h₀) (hh : A.handled = none) (F : Fr h₀ L hp (fun _ => none)) (N : News h₀ L hp [(b, ob), (L + 1 + 1 + 1 + 1, o4), (L + 1 + 1 + 1, o3), (L + 1 + 1, o2), (L + 1, o1)])
    (d1 : o1.data = .cell (some (.ref l))) (d2 : o2.data = .cell (some (.ref b))) (d3 : o3.data = .cell none) (hb : ListObj ob bs) (hbl : bs.length = 5) (hbi : ∀ v ∈ bs, IsInt v) (hl : h₀.IsList l vs.toArray) (hi : IntsAre vs ns) (hn : ns.length ≤ 63)
    (k : ∀ h' tk' b ob o3' bs, ListObj ob bs → bs.length = 5 → (∀ v ∈ bs, IsInt v) → b ≠ L + 1 + 1 + 1 + 1 → o3'.data = .cell (some (.ref b)) → Fr h₀ L h' (fun _ => none) →
      News h₀ L h' [(b, ob), (L + 1 + 1 + 1 + 1, o4), (L + 1 + 1 + 1, o3'), (L + 1 + 1, o2), (L + 1, o1)] → Q .next { s with heap := h', toks := tk' }) :
    wpAny (model prog w) A (exec (ls 1) (lawEnv L f cd)) Q E { s with heap := hp, toks := tk } := by
  have X := g.X
  have T := g.T
  refine wpAny_Assign_Name ?_ rfl
  refine comp_eval (h₀ := h₀) (L := L) (m := fun _ => none) (news := [(b, ob), (L + 1 + 1 + 1 + 1, o4), (L + 1 + 1 + 1, o3), (L + 1 + 1, o2), (L + 1, o1)]) hh ?_ rfl (by decide) rfl (by decide) rfl (fun _ => rfl)
  iterate 7 walk1
  dsimp only
  refine SrcOk.vals (fun _ y => IsInt y) (iterOf_range (n := 5) (by assumption) (by rfl) (by rfl)) (by assumption) (by assumption) (Nat.le_of_ble_eq_true rfl) ?_ ?_
  · rintro i v C m₂ h tk E' hi' ⟨t, rfl⟩ ext hC hn hx F N
    refine wpAny_BinOp ?_
    refine Subscript_ ?_
    refine c_cell (c := L + 1 + 1) (cell_at N (by k_mem) d2) rfl ?_
    refine c_own hn hx ?_
    obtain ⟨x, hx'⟩ : ∃ x, bs[i]? = some x := ⟨bs[i], by simp [hbl, hi']⟩
    refine tail_list (ListObj.at hb N (by k_mem)) hx' (by omega) ?_
    walk1
    refine c_boot (g.keeps F.keep) (by k_is) (by boot_by_name) (by decide) ?_
    iterate 2 walk1
    refine Subscript_ ?_
    refine Subscript_ ?_
    refine c_cell (c := L + 1) (cell_at N (by k_mem) d1) rfl ?_
    iterate 5 walk1
    refine tail_slice (IsList.at' hl F.keep) IsPart.none (IsPart.int _ _) IsPart.none (by decide) (Nat.le_trans (by simp [hi.length]; omega) (Nat.le_of_ble_eq_true rfl : 63 ≤ sizeLine)) ?_ (by with_unfolding_all rfl)
    intro D h1 ext1 hD nD
    iterate 2 walk1
    refine c_own (hn.keeps ext1) hx ?_
    iterate 3 walk1
    refine tail_slice hD (IsPart.int _ _) IsPart.none (IsPart.int _ _) (by decide) ?_ ?_ (by with_unfolding_all rfl)
    · exact Nat.le_trans (slicePick_size_le _ _ _ _) (Nat.le_trans (by simp [hi.length]; omega) (Nat.le_of_ble_eq_true rfl : 63 ≤ sizeLine))
    intro D2 h2 ext2 hD2 nD2
    walk1
    refine sum_ext hh hD2 (fun v hv => isInt_of hi v (by simpa using pick_mem (pick_mem hv))) ?_
    intro z t' h3 tk3 ext3
    obtain ⟨z0, t0, rfl⟩ := hbi x (List.mem_of_getElem? hx')
    refine add_int ?_
    exact ⟨_, _, rfl, fun b o e => ext3 b o (ext2 b o (ext1 b o e)), _, _, rfl⟩
  · intro ys led hlen hys D h tk ext F N fr
    have hD : D ≠ L + 1 + 1 + 1 := fresh_ne (fr _ List.mem_cons_self).2 (by assumption) (by k_mem)
    have N' : News h₀ L h ([(D, lstO ys), (L + 1 + 1 + 1 + 1, o4)] ++ (L + 1 + 1 + 1, o3) :: [(L + 1 + 1, o2), (L + 1, o1)]) := fun p hp => N p (by
      simp only [List.cons_append, List.nil_append, List.mem_cons, List.not_mem_nil, or_false, List.mem_append] at hp ⊢
      rcases hp with h | h | h | h | h <;> simp [h])
    refine stCN F N' (by rfl) d3 ?_ ?_ ?_
    · intro p hp
      simp only [List.mem_cons, List.not_mem_nil, or_false] at hp
      rcases hp with rfl | rfl
      · exact hD
      · refine neN ?_; simp
    · intro p hp
      simp only [List.mem_cons, List.not_mem_nil, or_false] at hp
      rcases hp with rfl | rfl <;> (refine neN ?_; simp)
    intro h' o' F' N'' d'
    exact k h' _ D _ o' ys ⟨rfl, _, rfl⟩ hlen (fun v hv => by obtain ⟨i, hi, e⟩ := List.mem_iff_getElem.mp hv; exact hys i v (by simp [hi, e])) (fresh_ne (fr _ List.mem_cons_self).2 (by assumption) (o := o4) (by k_mem)) d' F' N''
end
/-- a heap that holds a ledger's objects and no other -/
theorem frozen {led : List (Addr × Obj)} {h : Heap} (H : Held led h) : ∃ hf : Heap, Held led hf ∧ ∀ h', Held led h' → Ext hf h' := by
  refine ⟨hideAll h ((List.range h.objs.size).filter fun a => !(led.map (·.1)).contains a), fun p hp => hideAll_get _ (H p hp) fun hm => ?_, fun h' H' b o e => ?_⟩
  · have := (List.mem_filter.mp hm).2
    simp only [Bool.not_eq_true', List.contains_eq_mem, decide_eq_false_iff_not] at this
    exact this (List.mem_map_of_mem hp)
  · have e' := of_hideAll _ e
    by_cases hb : b ∈ led.map (·.1)
    · obtain ⟨p, hp, rfl⟩ := List.mem_map.mp hb
      have q := H p hp
      rw [e'] at q
      cases q
      exact H' p hp
    · have hm : b ∈ (List.range h.objs.size).filter fun a => !(led.map (·.1)).contains a := by
        refine List.mem_filter.mpr ⟨List.mem_range.mpr (Heap.lt_size e'), ?_⟩
        simpa using hb
      rw [hideAll_none _ hm] at e
      cases e

section
variable {prog : Program} {w : World} {mean : ExcName → Option Value} {mg mb : Str → Option Value} {A : Around} {E : Value → Shared → Prop} {s : Shared} {h₀ hp : Heap} {tk : Nat} {L f : Addr} {cd : Value} {Q : Flow → Shared → Prop} {m : Str → Option Value}
set_option maxHeartbeats 2000000 in
theorem st3 {o1 o2 o3 o4 ob : Obj} {b : Addr} {bs : List Value} (g : G w mean mg mb h₀) (hh : A.handled = none) (hroom : A.depth + 1 < recursionLimit) (F : Fr h₀ L hp (fun _ => none)) (N : News h₀ L hp [(b, ob), (L + 1 + 1 + 1 + 1, o4), (L + 1 + 1 + 1, o3), (L + 1 + 1, o2), (L + 1, o1)])
    (d3 : o3.data = .cell (some (.ref b))) (hb : ListObj ob bs) (hbl : bs.length = 5) (hbi : ∀ v ∈ bs, IsInt v) (hb4 : b ≠ L + 1 + 1 + 1 + 1)
    (k : ∀ h' tk' D ys hf news, ys.length = 3 → (∀ (i : Nat) y, ys[i]? = some y → ∃ kk, kk < 5 ∧ HandAt hf y kk) → hf.IsList D (List.toArray ys) → hf.IsList b bs.toArray → hf.IsCell (L + 1 + 1 + 1) (some (.ref b)) → (∀ h, Held news h → Ext hf h) → Held news hf → (∀ p ∈ news, p.1 ≠ L + 1 + 1 + 1 + 1) →
      Fr h₀ L h' (fun z => if z = Str.ofString "steps" then some (.ref D) else none) → News h₀ L h' ((L + 1 + 1 + 1 + 1, o4) :: news) → Q .next { s with heap := h', toks := tk' }) :
    wpAny (model prog w) A (exec (ls 2) (lawEnv L f cd)) Q E { s with heap := hp, toks := tk } := by
  have X := g.X
  have T := g.T
  refine comp_assign (h₀ := h₀) (L := L) (m := fun _ => none) (news := [(b, ob), (L + 1 + 1 + 1 + 1, o4), (L + 1 + 1 + 1, o3), (L + 1 + 1, o2), (L + 1, o1)]) hh rfl ?_ (by with_unfolding_all rfl) rfl (by decide) rfl (by decide) rfl rfl rfl (fun _ => rfl)
  iterate 7 walk1
  dsimp only
  refine SrcOk.objs (fun _ y tl => ∃ kk, kk < 5 ∧ ∀ h, Held tl h → HandAt h y kk) (iterOf_range (n := 3) (by assumption) (by rfl) (by rfl)) (by assumption) (by assumption) (Nat.le_of_ble_eq_true rfl) ?_ ?_ ?_
  · rintro i y tl tl' ⟨kk, h1, h2⟩ sub
    exact ⟨kk, h1, fun h hh => h2 h fun p hp => hh p (sub p hp)⟩
  · rintro i v C m₂ h tk E' hi' ⟨t, rfl⟩ ext hC hn hx F N
    refine Subscript_ ?_
    refine Call_ ?_
    refine c_glob (g.keeps F.keep) (by k_is) ?_
    refine callWith_K0 (X.keeps F.keep) (by k_is) ?_
    refine law_hands (g.keeps F.keep) (by omega) ?_
    intro l5 vs5 h1 tk1 tl hv fr ext1
    refine wpAny_BinOp ?_
    refine wpAny_BinOp ?_
    refine Subscript_ ?_
    refine c_cell (c := L + 1 + 1 + 1) (cell_at (N.grown ext1) (by k_mem) d3) rfl ?_
    walk1
    obtain ⟨x3, hx3⟩ : ∃ x, bs[3]? = some x := ⟨bs[3], by simp [hbl]⟩
    obtain ⟨z, tz, rfl⟩ := hbi x3 (List.mem_of_getElem? hx3)
    refine tail_list (ListObj.at hb (N.grown ext1) (by k_mem)) hx3 (by omega) ?_
    refine wpAny_BinOp ?_
    walk1
    refine c_own (hn.keeps ext1) hx ?_
    walk1
    have h5 : (5 : Nat) ^ i < 126 := by
      have : i = 0 ∨ i = 1 ∨ i = 2 := by omega
      rcases this with rfl | rfl | rfl <;> decide
    have h5' : 0 < (5 : Nat) ^ i := Nat.pow_pos (by decide)
    generalize (5 : Nat) ^ i = p5 at h5 h5'
    refine floordiv_i (by omega) (by omega) ?_
    intro _ _
    walk1
    refine mod_n (by decide) ?_
    intro kk t2 tk2 hkk _
    have held : Held tl h1 := fun p hp => (fr p hp).1
    obtain ⟨hl5, hp5⟩ := hv h1 held
    obtain ⟨y, hy, hyk⟩ := Paired.at hp5 (i := kk) (b := kk) (by
      have : kk = 0 ∨ kk = 1 ∨ kk = 2 ∨ kk = 3 ∨ kk = 4 := by omega
      rcases this with rfl | rfl | rfl | rfl | rfl <;> rfl)
    refine tail_list hl5 hy (by omega) ?_
    refine ⟨h1, tk2, tl, rfl, ext1, fr, kk, hkk, ?_⟩
    intro h' held'
    obtain ⟨y', hy', hyk'⟩ := Paired.at (hv h' held').2 (i := kk) (b := kk) (by
      have : kk = 0 ∨ kk = 1 ∨ kk = 2 ∨ kk = 3 ∨ kk = 4 := by omega
      rcases this with rfl | rfl | rfl | rfl | rfl <;> rfl)
    rw [hy] at hy'
    cases hy'
    exact hyk'
  · intro ys led hlen hys D h tk F N ap
    have Hn : ∀ p ∈ (D, lstO ys) :: (led ++ [(b, ob), (L + 1 + 1 + 1, o3)]), p ∈ (D, lstO ys) :: (led ++ [(b, ob), (L + 1 + 1 + 1 + 1, o4), (L + 1 + 1 + 1, o3), (L + 1 + 1, o2), (L + 1, o1)]) := by
      intro p hp
      simp only [List.mem_cons, List.mem_append, List.not_mem_nil, or_false] at hp ⊢
      rcases hp with h | h | h | h <;> simp [h]
    have held : Held ((D, lstO ys) :: (led ++ [(b, ob), (L + 1 + 1 + 1, o3)])) h := fun p hp => (N p (Hn p hp)).1
    obtain ⟨hf, h1, h2⟩ := frozen held
    have hled : Held led hf := fun p hp => h1 p (List.mem_cons_of_mem _ (List.mem_append_left _ hp))
    refine k h _ D ys hf ((D, lstO ys) :: (led ++ [(b, ob), (L + 1 + 1 + 1, o3)])) hlen (fun i y e => ?_) ⟨_, h1 _ List.mem_cons_self, rfl, _, rfl⟩ ⟨ob, h1 (b, ob) (by simp), hb.1, hb.2⟩ ⟨o3, h1 (L + 1 + 1 + 1, o3) (by simp), d3⟩ h2 h1 (fun p hp => ?_) F (fun p hp => ?_)
    · obtain ⟨kk, q1, q2⟩ := hys i y e
      exact ⟨kk, q1, q2 hf hled⟩
    · rcases List.mem_cons.mp hp with rfl | hp
      · exact ap _ List.mem_cons_self (L + 1 + 1 + 1 + 1, o4) (by k_mem)
      · rcases List.mem_append.mp hp with hp | hp
        · exact ap p (List.mem_cons_of_mem _ hp) (L + 1 + 1 + 1 + 1, o4) (by k_mem)
        · simp only [List.mem_cons, List.not_mem_nil, or_false] at hp
          rcases hp with rfl | rfl
          · exact hb4
          · refine neN ?_; simp
    · rcases List.mem_cons.mp hp with rfl | hp
      · exact N _ (by simp)
      · exact N p (Hn p hp)
end
section
variable {prog : Program} {w : World} {mean : ExcName → Option Value} {mg mb : Str → Option Value} {A : Around} {E : Value → Shared → Prop} {s : Shared} {h₀ hp hf : Heap} {tk : Nat} {L f : Addr} {cd : Value} {Q : Flow → Shared → Prop} {m : Str → Option Value} {news : List (Addr × Obj)} {o4 : Obj}
theorem ext_of {c : Addr × Obj} (hE : ∀ h, Held news h → Ext hf h) (N : News h₀ L hp (c :: news)) : Ext hf hp := hE hp fun p hp => (N p (List.mem_cons_of_mem _ hp)).1
set_option maxHeartbeats 2000000 in
theorem st4 {D : Addr} {ys : List Value} {y0 : Value} {k0 : Nat} (F : Fr h₀ L hp m) (N : News h₀ L hp ((L + 1 + 1 + 1 + 1, o4) :: news)) (hE : ∀ h, Held news h → Ext hf h)
    (hm : m (Str.ofString "steps") = some (.ref D)) (hD : hf.IsList D ys.toArray) (hy : ys[0]? = some y0) (hh0 : HandAt hf y0 k0)
    (k : ∀ h' tk' u, TabAt hf u (handT k0) → Fr h₀ L h' (fun y => if y = Str.ofString "table" then some u else m y) → News h₀ L h' ((L + 1 + 1 + 1 + 1, o4) :: news) → Q .next { s with heap := h', toks := tk' }) :
    wpAny (model prog w) A (exec (ls 3) (lawEnv L f cd)) Q E { s with heap := hp, toks := tk } := by
  have e0 := ext_of hE N
  obtain ⟨a0, u, rfl, ht, htab⟩ := hh0
  refine wpAny_Assign_Name ?_ rfl
  refine Subscript_ ?_
  refine Subscript_ ?_
  refine e_loc F hm ?_
  walk1
  refine tail_list (IsList.at' hD e0) hy (by decide) ?_
  walk1
  refine tail_tup (its := [_, _]) (IsTuple.up ht e0) (by rfl) (by simp) (by decide) ?_
  exact e_st F N fun h' tk' F' N' => k h' tk' u htab F' N'
theorem cell_up {h h' : Heap} {c : Addr} {v : Option Value} (x : h.IsCell c v) (e : Ext h h') : h'.IsCell c v := let ⟨o, q, r⟩ := x; ⟨o, e _ _ q, r⟩
theorem len_n {l : Addr} {its : List Value} {Q : Value → Shared → Prop} (hl : hp.IsList l its.toArray) (hs : its.length < 1000000) (h : ∀ t tk, Q (vn its.length t) { s with heap := hp, toks := tk }) :
    wpAny (model prog w) A (call (.builtin "len") [.ref l]) Q E { s with heap := hp, toks := tk } :=
  len_list (s := { s with heap := hp, toks := tk }) hl (by simp; omega) (by simpa using h _ _)
theorem Paired.len {α β : Type} {F : α → β → Prop} : ∀ {l₁ : List α} {l₂ : List β}, Paired F l₁ l₂ → l₁.length = l₂.length
  | _, _, .nil => rfl
  | _, _, .cons _ t => by simp [Paired.len t]
theorem handT_len {k : Nat} (hk : k < 5) : 0 < (handT k).length ∧ (handT k).length < 10 := by
  have : k = 0 ∨ k = 1 ∨ k = 2 ∨ k = 3 ∨ k = 4 := by omega
  rcases this with rfl | rfl | rfl | rfl | rfl <;> decide
set_option maxHeartbeats 2000000 in
theorem st5 {b : Addr} {bs : List Value} {u : Value} {k0 : Nat} (g : G w mean mg mb h₀) (hh : A.handled = none) (F : Fr h₀ L hp m) (N : News h₀ L hp ((L + 1 + 1 + 1 + 1, o4) :: news)) (hE : ∀ h, Held news h → Ext hf h)
    (hm : m (Str.ofString "table") = some u) (hu : TabAt hf u (handT k0)) (hb : hf.IsList b bs.toArray) (hc : hf.IsCell (L + 1 + 1 + 1) (some (.ref b))) (hbl : bs.length = 5) (hbi : ∀ v ∈ bs, IsInt v) (hk0 : k0 < 5)
    (k : ∀ h' tk' v1 v2 p1 p2, p1 ∈ handT k0 → p2 ∈ handT k0 → PairAt hf v1 p1 → PairAt hf v2 p2 → Fr h₀ L h' (fun y => if y = Str.ofString "early" then some v1 else if y = Str.ofString "late" then some v2 else m y) → News h₀ L h' ((L + 1 + 1 + 1 + 1, o4) :: news) → Q .next { s with heap := h', toks := tk' }) :
    wpAny (model prog w) A (exec (ls 4) (lawEnv L f cd)) Q E { s with heap := hp, toks := tk } := by
  have e0 := ext_of hE N
  have X := g.X
  have T := g.T
  obtain ⟨ul, us, rfl, hul, hup⟩ := hu
  have hlen := Paired.len hup
  have hTl := handT_len hk0
  have hul' := IsList.at' hul e0
  have hg := g.keeps F.keep
  obtain ⟨x4, hx4⟩ : ∃ x, bs[4]? = some x := ⟨bs[4], by simp [hbl]⟩
  obtain ⟨z, tz, rfl⟩ := hbi x4 (List.mem_of_getElem? hx4)
  refine Assign_Tuple_swapped (names := [Str.ofString "early", Str.ofString "late"]) ?_ (by with_unfolding_all rfl) (by with_unfolding_all rfl)
  refine Tuple_ ?_
  refine spliced_cons ?_
  refine Subscript_ ?_
  refine e_loc F hm ?_
  refine wpAny_BinOp ?_
  refine Subscript_ ?_
  refine e_cell (cell_up hc e0) ?_
  walk1
  refine tail_list (IsList.at' hb e0) hx4 (by decide) ?_
  refine Call_ ?_
  refine e_boot hg (by k_is) (by boot_by_name) (by decide) ?_
  iterate 2 walk1
  refine e_loc F hm ?_
  walk1
  refine len_n hul' (by omega) ?_
  intro _ _
  refine mod_n (by omega) ?_
  intro i1 _ _ hi1 _
  obtain ⟨p1, hp1⟩ : ∃ p, (handT k0)[i1]? = some p := ⟨(handT k0)[i1], by simp⟩
  obtain ⟨v1, hv1, hq1⟩ := Paired.at hup hp1
  refine tail_list hul' hv1 (by omega) ?_
  refine spliced_cons ?_
  refine Subscript_ ?_
  refine e_loc F hm ?_
  refine wpAny_BinOp ?_
  refine wpAny_BinOp ?_
  refine Subscript_ ?_
  refine e_cell (cell_up hc e0) ?_
  walk1
  refine tail_list (IsList.at' hb e0) hx4 (by decide) ?_
  refine Call_ ?_
  refine e_boot hg (by k_is) (by boot_by_name) (by decide) ?_
  iterate 2 walk1
  refine e_loc F hm ?_
  walk1
  refine len_n hul' (by omega) ?_
  intro _ _
  refine floordiv_i (by omega) (by omega) ?_
  intro _ _
  refine Call_ ?_
  refine e_boot hg (by k_is) (by boot_by_name) (by decide) ?_
  iterate 2 walk1
  refine e_loc F hm ?_
  walk1
  refine len_n hul' (by omega) ?_
  intro _ _
  refine mod_n (by omega) ?_
  intro i2 _ _ hi2 _
  obtain ⟨p2, hp2⟩ : ∃ p, (handT k0)[i2]? = some p := ⟨(handT k0)[i2], by simp⟩
  obtain ⟨v2, hv2, hq2⟩ := Paired.at hup hp2
  refine tail_list hul' hv2 (by omega) ?_
  refine spliced_nil ?_
  refine wpAny_newTuple ?_ (Nat.le_of_ble_eq_true rfl)
  refine wpAny_unpackItems_tuple (items := #[v1, v2]) hh ⟨_, Heap.get?_push_size _ rfl, rfl, _, rfl⟩ ?_
  intro h' he'
  have ext' : Ext hp h' := fun c o e => he' c o (fun q => by have := Heap.lt_size e; rw [q] at this; simp only [Heap.size_push] at this; exact absurd (Nat.lt_trans (Nat.lt_succ_self _) this) (Nat.lt_irrefl _)) (Heap.get?_push_of_some _ e)
  have F' := F.keeps ext'
  have N' := N.grown ext'
  refine assignInOrder_cons ?_
  refine wpAny_bindName ?_
  refine e_st F' N' fun h2 tk2 F2 N2 => ?_
  refine assignInOrder_cons ?_
  refine wpAny_bindName ?_
  refine e_st F2 N2 fun h3 tk3 F3 N3 => ?_
  refine assignInOrder_nil ?_
  exact k h3 tk3 v1 v2 p1 p2 (List.mem_of_getElem? hp1) (List.mem_of_getElem? hp2) hq1 hq2 F3 N3
end
section
variable {elt iter1 iter2 : Expr} {x1 x2 : Str} {p1 p2 : Pos} {scope : Scope} {pos : Pos}
/-- a comprehension of two clauses -/
abbrev twoC (elt iter1 iter2 : Expr) (x1 x2 : Str) (p1 p2 : Pos) (scope : Scope) (pos : Pos) : Expr := .ListComp elt [⟨.Name x1 p1, iter1, [], 0⟩, ⟨.Name x2 p2, iter2, [], 0⟩] scope pos
theorem turn_in (it acc : Value) (env : Env) : compTurn (twoC elt iter1 iter2 x1 x2 p1 p2 scope pos) 1 it acc env = (standAt iter2.pos >>= fun _ => pyNext it >>= fun r => match r with
      | none => pure (.done .next)
      | some v => letOwnedTupleGo (.Name x2 p2) it v >>= fun _ => assign (.Name x2 p2) env v >>= fun _ =>
        (eval elt env >>= fun x => call (.builtin "list.append") [acc, x] >>= fun _ => pure ()) >>= fun _ =>
          again (.compLoop (twoC elt iter1 iter2 x1 x2 p1 p2 scope pos) 1 it acc env)) := by rfl
theorem turn_out (it acc : Value) (env : Env) : compTurn (twoC elt iter1 iter2 x1 x2 p1 p2 scope pos) 0 it acc env = (standAt iter1.pos >>= fun _ => pyNext it >>= fun r => match r with
      | none => pure (.done .next)
      | some v => letOwnedTupleGo (.Name x1 p1) it v >>= fun _ => assign (.Name x1 p1) env v >>= fun _ =>
        eval iter2 env >>= fun x => standAt iter2.pos >>= fun _ => foldedSetIterable iter2 env x >>= fun x => holding [x] (pyIter x) >>= fun it2 => runOwn (.compStart (twoC elt iter1 iter2 x1 x2 p1 p2 scope pos) 1 it2 acc env) env >>= fun _ =>
          again (.compLoop (twoC elt iter1 iter2 x1 x2 p1 p2 scope pos) 0 it acc env)) := by rfl
end
section
variable {prog : Program} {w : World} {A : Around} {R : Result → Shared → Prop} {s : Shared}
variable {elt iter1 iter2 : Expr} {x1 x2 : Str} {p1 p2 : Pos} {scope : Scope} {pos : Pos} {env : Env}
theorem start_in {it acc : Value}
    (h0 : codeAny (model prog w) A (.compLoop (twoC elt iter1 iter2 x1 x2 p1 p2 scope pos) 1 it acc env) R s)
    (h : wpAny (model prog w) A (pyIter it) (fun it' s' => codeAny (model prog w) A (.compLoop (twoC elt iter1 iter2 x1 x2 p1 p2 scope pos) 1 it' acc env) R s')
      (notedBy (model prog w) A env fun x s' => R (.error x) s') s) :
    codeAny (model prog w) A (.compStart (twoC elt iter1 iter2 x1 x2 p1 p2 scope pos) 1 it acc env) R s := by
  refine codeAny_of_tree ?_
  show wpAny _ _ ((compStart (twoC elt iter1 iter2 x1 x2 p1 p2 scope pos) 1 it acc env).onRaise (fun x => do noteFrame x env; standAt theWindowsPlace)) _ _ s
  refine wpAny_notedAt ?_
  unfold compStart
  show wpAny _ _ (ask >>= _) _ _ s
  refine wpAny_bind (wpAny_askSetting (wpAny_ite ?_))
  split
  · exact wpAny_bind (wpAny_pure (wpAny_pure (And.intro rfl h0)))
  · refine wpAny_bind (wpAny_rule ?_)
    show wpAny _ _ (standAt iter2.pos >>= _) _ _ s
    exact wpAny_bind (wpAny_standAt (wpAny_bind (wpAny_mono h (fun it' s' h' => wpAny_pure (And.intro rfl h')) fun _ _ x => x)))
end
section
variable {prog : Program} {w : World} {A : Around} {R : Result → Shared → Prop} {s₁ : Shared}
variable {elt iter1 iter2 : Expr} {x1 x2 : Str} {p1 p2 : Pos} {scope : Scope} {pos : Pos} {env : Env}
theorem StrsAre.snoc {y : Str} {t : Tok} : ∀ {vs : List Value} {ys : List Str}, StrsAre vs ys → StrsAre (vs ++ [.str y t]) (ys ++ [y])
  | _, _, .nil => .cons y t .nil
  | _, _, .cons z u r => .cons z u (StrsAre.snoc r)
theorem StrsAre.app : ∀ {vs us : List Value} {ys zs : List Str}, StrsAre vs ys → StrsAre us zs → StrsAre (vs ++ us) (ys ++ zs)
  | _, _, _, _, .nil, q => q
  | _, _, _, _, .cons z u r, q => .cons z u (StrsAre.app r q)
theorem StrsAre.len : ∀ {vs : List Value} {ys : List Str}, StrsAre vs ys → vs.length = ys.length
  | _, _, .nil => rfl
  | _, _, .cons _ _ r => by simp [StrsAre.len r]

/-- the inner clause's element: told of any heap that keeps hf -/
def EltIn (prog : Program) (w : World) (A : Around) (env : Env) (elt : Expr) (x2 : Str) (scope : Scope) (cl : List (Str × Addr)) (s₁ : Shared) (hf : Heap) : Prop :=
  ∀ v2 p C m₂ h tk (Q' E' : Value → Shared → Prop), Ext hf h → PairAt hf v2 p → h.Ns C m₂ → m₂ x2 = some v2 → (∀ t tk', Q' (.str p.1 t) { s₁ with heap := h, toks := tk' }) →
    wpAny (model prog w) A (eval elt (compEnvC scope cl C env)) Q' E' { s₁ with heap := h, toks := tk }

set_option maxHeartbeats 1000000 in
theorem loop_in {cl : List (Str × Addr)} {J l D C : Addr} {its : Array Value} {ps : List (Str × Str)} {hf h : Heap} {tk : Nat} {ys : List Value} {m : Str → Option Value}
    (hh : A.handled = none) (hx : scope.names.lookup x2 = some .local) (hkind : scope.kind = .function) (elt_ok : EltIn prog w A env elt x2 scope cl s₁ hf)
    (he : Ext hf h) (hl : hf.IsList l its) (hp : Paired (PairAt hf) its.toList ps) (hJ : h.IsListIter J l 0) (hJf : hf.get? J = none) (hDf : hf.get? D = none) (hCf : hf.get? C = none) (hJC : J ≠ C) (hJD : J ≠ D) (hCD : C ≠ D)
    (hD : h.get? D = some (lstO ys)) (hn : h.Ns C m) (hs : ys.length + its.size ≤ 1000)
    (hR : ∀ h' tk' zs m', StrsAre zs (ps.map (·.1)) → h'.get? D = some (lstO (ys ++ zs)) → h'.Ns C m' → (∀ b o, b ≠ C → b ≠ D → b ≠ J → h.get? b = some o → h'.get? b = some o) → R (.ok .next) { s₁ with heap := h', toks := tk' }) :
    codeAny (model prog w) A (.compLoop (twoC elt iter1 iter2 x1 x2 p1 p2 scope pos) 1 (.ref J) (.ref D) (compEnvC scope cl C env)) R { s₁ with heap := h, toks := tk } := by
  have hle : (1000 : Nat) ≤ sizeLine := Nat.le_of_ble_eq_true rfl
  have hlen : its.size = ps.length := by have := Paired.len hp; simpa using this
  have hlJ : l ≠ J := fun e => by obtain ⟨o, q, _⟩ := hl; rw [e, hJf] at q; cases q
  refine codeAny_loop rfl
    (fun k s' => ∃ h' tk' i zs m', s' = { s₁ with heap := h', toks := tk' } ∧ i ≤ its.size ∧ k = its.size + 1 - i ∧ StrsAre zs ((ps.take i).map (·.1)) ∧ h'.IsListIter J l i ∧ h'.get? D = some (lstO (ys ++ zs)) ∧ h'.Ns C m' ∧
      Ext hf h' ∧ (∀ b o, b ≠ C → b ≠ D → b ≠ J → h.get? b = some o → h'.get? b = some o)) ?_ (its.size + 1)
    ⟨h, tk, 0, [], m, rfl, Nat.zero_le _, rfl, .nil, hJ, by simpa using hD, hn, he, fun _ _ _ _ _ e => e⟩
  rintro k s' ⟨h', tk', i, zs, m', rfl, hi, rfl, hz, hJ', hD', hn', he', up'⟩
  show wpAny _ A ((compTurn (twoC elt iter1 iter2 x1 x2 p1 p2 scope pos) 1 (.ref J) (.ref D) (compEnvC scope cl C env)).onRaise (fun x => do noteFrame x (compEnvC scope cl C env); theTreesLotGoes x)) _ _ _
  refine wpAny_noted ?_
  rw [turn_in]
  refine wpAny_bind (wpAny_standAt (wpAny_bind ?_))
  by_cases hlt : i < its.size
  · refine wpAny_pyNext_list_item hJ' (IsList.at' hl he') (x := its[i]) (by simp [hlt]) fun h₂ hJ₂ hs₂ => ?_
    have up2 : ∀ b o, b ≠ J → h'.get? b = some o → h₂.get? b = some o := fun b o h1 e => hs₂.extBut b o h1 e
    refine wpAny_bind (wpAny_of_eq rfl ?_)
    refine wpAny_bind (wpAny_assign_Name (wpAny_storeName_local (lookup_relabel_local hx) (hn'.at' fun o e => up2 _ o (Ne.symm hJC) e) (fun h₃ hn₃ hs₃ => ?_) (by simp [compEnvC, relabel, hkind])))
    have up3 : ∀ b o, b ≠ C → b ≠ J → h'.get? b = some o → h₃.get? b = some o := fun b o h1 h2 e => hs₃.extBut b o h1 (up2 b o h2 e)
    have e3 : Ext hf h₃ := fun b o e => up3 b o (fun q => by rw [q, hCf] at e; cases e) (fun q => by rw [q, hJf] at e; cases e) (he' b o e)
    have hJ₃ : h₃.IsListIter J l (i + 1) := hJ₂.at fun o e => hs₃.extBut J o hJC e
    obtain ⟨p, hpi⟩ : ∃ p, ps[i]? = some p := ⟨ps[i]'(hlen ▸ hlt), by simp⟩
    obtain ⟨v, hv, hvp⟩ := Paired.at hp hpi
    have hvi : its[i] = v := by
      have : its[i]? = some v := by simpa using hv
      simpa [hlt] using this
    rw [hvi] at hn₃
    refine wpAny_bind (wpAny_bind (elt_ok v p C _ h₃ _ _ _ e3 hvp hn₃ (by simp) fun t tk₄ => ?_))
    have hD₃ : h₃.get? D = some (lstO (ys ++ zs)) := up3 D _ (Ne.symm hCD) (Ne.symm hJD) hD'
    have hzl : zs.length = i := by
      rw [StrsAre.len hz, List.length_map, List.length_take]; omega
    refine wpAny_bind (append_at (hsz := by show (ys ++ zs).toArray.size ≤ sizeLine; rw [List.size_toArray, List.length_append]; omega) hD₃ fun h₅ hs₅ hD₅ => ?_)
    refine wpAny_pure (wpAny_pure ⟨rfl, its.size + 1 - (i + 1), by omega, h₅, tk₄, i + 1, zs ++ [.str p.1 t], _, rfl, hlt, rfl, ?_, hJ₃.at fun o e => hs₅.extBut J o hJD e, ?_, hn₃.sameBut hs₅ hCD, fun b o e => ?_, fun b o h1 h2 h3 e => ?_⟩)
    · rw [List.take_add_one, hpi]
      simpa using StrsAre.snoc (t := t) hz (y := p.1)
    · rw [hD₅, ← List.append_assoc]; exact congrArg some (LCg.lst_snoc (ys ++ zs) _)
    · exact hs₅.extBut b o (fun q => by rw [q, hDf] at e; cases e) (e3 b o e)
    · exact hs₅.extBut b o h2 (up3 b o h1 h3 (up' b o h1 h2 h3 e))
  · obtain rfl : i = its.size := Nat.le_antisymm hi (Nat.not_lt.mp hlt)
    refine wpAny_pyNext_list_end hh hJ' (IsList.at' hl he') (by simp) fun h₂ he₂ => ?_
    have up2 : ∀ b o, b ≠ J → h'.get? b = some o → h₂.get? b = some o := fun b o h1 e => he₂ b o h1 e
    refine wpAny_pure (hR h₂ _ zs m' ?_ (up2 _ _ (Ne.symm hJD) hD') (hn'.at' fun o e => up2 _ o (Ne.symm hJC) e) fun b o h1 h2 h3 e => up2 b o h3 (up' b o h1 h2 h3 e))
    rw [hlen, List.take_length] at hz
    exact hz

/-- the inner clause's iterable -/
def IterIn (prog : Program) (w : World) (A : Around) (env : Env) (iter2 : Expr) (x1 : Str) (scope : Scope) (cl : List (Str × Addr)) (s₁ : Shared) (hf : Heap) (n : Nat) (P : Nat → Value → Prop) (pss : Nat → List (Str × Str)) : Prop :=
  ∀ i v C m₂ h tk (Q' E' : Value → Shared → Prop), i < n → P i v → Ext hf h → h.Ns C m₂ → m₂ x1 = some v → (∀ l its tk', hf.IsList l its → Paired (PairAt hf) its.toList (pss i) → Q' (.ref l) { s₁ with heap := h, toks := tk' }) →
    wpAny (model prog w) A (eval iter2 (compEnvC scope cl C env)) Q' E' { s₁ with heap := h, toks := tk }
def catN (pss : Nat → List (Str × Str)) (n : Nat) : List Str := (List.range n).flatMap fun i => (pss i).map (·.1)
theorem catN_succ (pss : Nat → List (Str × Str)) (n : Nat) : catN pss (n + 1) = catN pss n ++ (pss n).map (·.1) := by
  unfold catN; rw [List.range_succ, List.flatMap_append]; simp
theorem catN_len {pss : Nat → List (Str × Str)} (h : ∀ i, (pss i).length ≤ 50) : ∀ n, (catN pss n).length ≤ 50 * n
  | 0 => by simp [catN]
  | n + 1 => by
    have := catN_len h n
    have := h n
    rw [catN_succ, List.length_append, List.length_map]; omega

set_option maxHeartbeats 2000000 in
theorem block2 {cl : List (Str × Addr)} {fp : List Addr} {n : Nat} {P : Nat → Value → Prop} {St : Nat → Heap → Prop} {oI : Obj} {hf : Heap} {pss : Nat → List (Str × Str)} {E : Value → Shared → Prop}
    {RR : Value → Addr → Result → Shared → Prop} (W : Walks prog w A s₁.heap.objs.size fp [s₁.heap.objs.size] n P St) (hfp : ∀ b ∈ fp, b < s₁.heap.objs.size + 1) (hst : St 0 (s₁.heap.push oI)) (hn10 : n ≤ 10) (hps : ∀ i, (pss i).length ≤ 50)
    (hcell : ∀ y ∈ scope.names, y.2 ≠ .cell) (hkind : scope.kind = .function) (hx1 : scope.names.lookup x1 = some .local) (hx2 : scope.names.lookup x2 = some .local) (hh : A.handled = none)
    (hef : Ext hf s₁.heap) (hfold : ∀ env x, foldedSetIterable iter2 env x = pure x) (elt_ok : EltIn prog w A env elt x2 scope cl s₁ hf) (iter_ok : IterIn prog w A env iter2 x1 scope cl s₁ hf n P pss)
    (hRR : ∀ D C h tk m' ys, Ext s₁.heap h → s₁.heap.get? D = none → s₁.heap.get? C = none → C ≠ D → h.get? D = some (lstO ys) → h.Ns C m' → StrsAre ys (catN pss n) → RR (.ref D) C (.ok .next) { s₁ with heap := h, toks := tk }) :
    wpAny (model prog w) A (newList []) (fun acc s₃ => wpAny (model prog w) A (newFunctionEnv scope env.globals cl [] env.qual none .none (some env)) (fun cenv s₄ =>
      codeAny (model prog w) A (.compStart (twoC elt iter1 iter2 x1 x2 p1 p2 scope pos) 0 (.ref s₁.heap.objs.size) acc { cenv with scope := relabel scope env }) (RR acc cenv.locals) s₄) E s₃) E { s₁ with heap := s₁.heap.push oI } := by
  refine wpAny_newObj_type (wpAny_newFunctionEnv hcell (by intro y hy; simp at hy) (fun h₁ hns₁ hsb₁ => ?_) hkind)
  dsimp only at hns₁ hsb₁ ⊢
  generalize hH1 : s₁.heap.push oI = H1 at hns₁ hsb₁ hst ⊢
  have hI1 : H1.objs.size = s₁.heap.objs.size + 1 := by rw [← hH1, Heap.size_push]
  generalize hH2 : H1.push { cls := .type "list", dict := none, data := .seq ([] : List Value).toArray } = H2 at hns₁ hsb₁ ⊢
  have hC : H2.objs.size = H1.objs.size + 1 := by rw [← hH2, Heap.size_push]
  generalize hD' : H1.objs.size = D at *
  generalize hC' : H2.objs.size = C at *
  have none1 : ∀ a, s₁.heap.objs.size ≤ a → s₁.heap.get? a = none := fun a ha => by
    cases e : s₁.heap.get? a with
    | none => rfl
    | some o' => exact absurd (Heap.lt_size e) (Nat.not_lt.mpr ha)
  generalize hI' : s₁.heap.objs.size = I at *
  have hDI : D ≠ I := by omega
  have hCI : C ≠ I := by omega
  have hCD : C ≠ D := by omega
  have nD := none1 D (by omega)
  have nC := none1 C (by omega)
  have nI := none1 I (by omega)
  have fn : ∀ a, s₁.heap.get? a = none → hf.get? a = none := fun a ha => by
    cases e : hf.get? a with
    | none => rfl
    | some o' => rw [hef _ _ e] at ha; cases ha
  have ext0 : ∀ b o, H1.get? b = some o → h₁.get? b = some o := fun b o e => by
    have hb : @LT.lt Nat _ b D := hD' ▸ Heap.lt_size e
    refine hsb₁.extBut b o (by refine neN ?_; omega) (Heap.get?_push_of_some _ (hH2 ▸ Heap.get?_push_of_some _ e))
  have ext1 : Ext s₁.heap h₁ := fun b o e => ext0 b o (hH1 ▸ Heap.get?_push_of_some _ e)
  have hacc : h₁.get? D = some (lstO []) := hsb₁.extBut _ _ (Ne.symm hCD) (Heap.get?_push_of_some _ (hH2 ▸ hD' ▸ Heap.get?_push_size _ rfl))
  have hst₁ : St 0 h₁ := W.frame _ _ _ hst fun b _ o e => ext0 b o e
  have off : ∀ (b : Addr) o, s₁.heap.get? b = some o → @LT.lt Nat _ b I := fun b o e => hI' ▸ Heap.lt_size e
  have hCf : ∀ b ∈ fp, b ≠ C := fun b hb => by have : @LT.lt Nat _ b (I + 1) := hfp b hb; refine neN ?_; omega
  have hDf : ∀ b ∈ fp, b ≠ D := fun b hb => by have : @LT.lt Nat _ b (I + 1) := hfp b hb; refine neN ?_; omega
  have loop : ∀ s₃ : Shared, s₃ = { s₁ with heap := h₁, toks := s₁.toks + ([] : List (Str × Value)).length } →
      codeAny (model prog w) A (.compLoop (twoC elt iter1 iter2 x1 x2 p1 p2 scope pos) 0 (.ref I) (.ref D) (compEnvC scope cl C env)) (RR (.ref D) C) s₃ := by
    rintro s₃ rfl
    refine codeAny_loop rfl
      (fun k s' => ∃ h' tk i ys m', s' = { s₁ with heap := h', toks := tk } ∧ i ≤ n ∧ k = n + 1 - i ∧ StrsAre ys (catN pss i) ∧ St i h' ∧ Ext s₁.heap h' ∧ h'.Ns C m' ∧ h'.get? D = some (lstO ys)) ?_ (n + 1)
      ⟨h₁, _, 0, [], _, rfl, Nat.zero_le _, rfl, .nil, hst₁, ext1, hns₁, hacc⟩
    rintro k s' ⟨h', tk, i, ys, m', rfl, hi, rfl, hys, hst', ext', hn', hD₁⟩
    show wpAny _ A ((compTurn (twoC elt iter1 iter2 x1 x2 p1 p2 scope pos) 0 (.ref I) (.ref D) (compEnvC scope cl C env)).onRaise (fun x => do noteFrame x (compEnvC scope cl C env); theTreesLotGoes x)) _ _ _
    refine wpAny_noted ?_
    rw [turn_out]
    refine wpAny_bind (wpAny_standAt (wpAny_bind ?_))
    by_cases hlt : i < n
    · refine W.item i _ _ _ hlt hst' fun v h₂ tk₂ hPv hst₂ hk₂ => ?_
      refine wpAny_bind (wpAny_of_eq rfl ?_)
      refine wpAny_bind (wpAny_assign_Name (wpAny_storeName_local (lookup_relabel_local hx1) (hn'.at' fun o e => hk₂ _ o (by simpa using hCI) e) (fun h₃ hn₃ hs₃ => ?_) (by simp [compEnvC, relabel, hkind])))
      have up23 : ∀ b o, b ≠ C → b ≠ I → h'.get? b = some o → h₃.get? b = some o := fun b o h1 h2 e => hs₃.extBut b o h1 (hk₂ b o (by simpa using h2) e)
      have ext3 : Ext s₁.heap h₃ := fun b o e => by have := off b o e; exact up23 b o (by refine neN ?_; omega) (by refine neN ?_; omega) (ext' b o e)
      have hst₃ : St (i + 1) h₃ := W.frame _ _ _ hst₂ fun b hb o e => hs₃.extBut b o (hCf b hb) e
      have hD₃ : h₃.get? D = some (lstO ys) := up23 D _ (Ne.symm hCD) hDI hD₁
      have hef3 : Ext hf h₃ := fun b o e => ext3 b o (hef b o e)
      refine wpAny_bind (iter_ok i v C _ h₃ _ _ _ hlt hPv hef3 hn₃ (by simp) fun l its tk₄ hl hp => ?_)
      refine wpAny_bind (wpAny_standAt (wpAny_bind (wpAny_of_eq (hfold _ _) ?_)))
      refine wpAny_bind (wpAny_holding (wpAny_pyIter_list (IsList.at' hl hef3) ?_))
      generalize hJ' : h₃.objs.size = J
      have hCJ : @LT.lt Nat _ C J := by
        obtain ⟨o, q, _⟩ := LCg.ns_obj hn₃
        exact hJ' ▸ Heap.lt_size q
      have hDJ : @LT.lt Nat _ D J := hJ' ▸ Heap.lt_size hD₃
      have nJ : h₃.get? J = none := by
        cases e : h₃.get? J with
        | none => rfl
        | some o => have := Heap.lt_size e; rw [hJ'] at this; exact absurd this (Nat.lt_irrefl _)
      generalize hH4 : h₃.push { cls := .type "list_iterator", data := .fields #[.ref l, .int 0 0] } = h₄
      have hitJ : h₄.IsListIter J l 0 := ⟨_, hJ' ▸ hH4 ▸ Heap.get?_push_size _ rfl, rfl, rfl⟩
      have up34 : ∀ b o, h₃.get? b = some o → h₄.get? b = some o := fun b o e => hH4 ▸ Heap.get?_push_of_some _ e
      have len : its.size = (pss i).length := by have := Paired.len hp; simpa using this
      have yl := StrsAre.len hys
      have cl' := catN_len hps i
      have pl := hps i
      have n1 : ∀ a, h₃.get? a = none → s₁.heap.get? a = none := fun a ha => by
        cases e : s₁.heap.get? a with
        | none => rfl
        | some o => rw [ext3 _ _ e] at ha; cases ha
      have key := fun (R : Result → Shared → Prop) tk => loop_in (prog := prog) (w := w) (A := A) (R := R) (s₁ := s₁) (iter1 := iter1) (iter2 := iter2) (x1 := x1) (p1 := p1) (p2 := p2) (pos := pos) (tk := tk) (D := D) (ys := ys) hh hx2 hkind elt_ok (fun b o e => up34 b o (hef3 b o e)) hl hp hitJ (fn _ (n1 _ nJ)) (fn _ nD) (fn _ nC) (by refine neN ?_; omega) (by refine neN ?_; omega) hCD (up34 _ _ hD₃) (hn₃.keeps up34) (by omega)
      refine wpAny_bind (wpAny_runOwn ?_)
      refine start_in (key _ _ ?_) (wpAny_pyIter_listiter hitJ (key _ _ ?_))
      all_goals
        intro h' tk' zs m' hz hD5 hn5 up5
        refine wpAny_pure ⟨rfl, n + 1 - (i + 1), by omega, h', tk', i + 1, ys ++ zs, m', rfl, hlt, rfl, ?_, ?_, fun b o e => ?_, hn5, hD5⟩
        · rw [catN_succ]; exact StrsAre.app hys hz
        · have hI3 : ∀ b ∈ fp, b ≠ J := fun b hb => by have : @LT.lt Nat _ b (I + 1) := hfp b hb; refine neN ?_; omega
          exact W.frame _ _ _ hst₃ fun b hb o e => up5 b o (hCf b hb) (hDf b hb) (hI3 b hb) (up34 b o e)
        · have := off b o e
          exact up5 b o (by refine neN ?_; omega) (by refine neN ?_; omega) (by refine neN ?_; omega) (up34 b o (ext3 b o e))
    · obtain rfl : i = n := Nat.le_antisymm hi (Nat.not_lt.mp hlt)
      refine W.done _ _ _ hst' fun h₂ tk₂ hk₂ => ?_
      have up2 : ∀ b o, b ≠ I → h'.get? b = some o → h₂.get? b = some o := fun b o h1 e => hk₂ b o (by simpa using h1) e
      refine wpAny_pure (hRR D C h₂ tk₂ _ ys (fun b o e => ?_) nD nC hCD (up2 _ _ hDI hD₁) (hn'.at' fun o e => up2 _ o hCI e) hys)
      have := off b o e
      exact up2 b o (by refine neN ?_; omega) (ext' b o e)
  exact codeAny_compStart_list (loop _ rfl) (W.self 0 _ _ _ hst₁ (loop _ rfl))
end
section
variable {prog : Program} {w : World} {A : Around} {E : Value → Shared → Prop} {env : Env}
/-- a comprehension's block whose one name is a cell -/
theorem newEnvCell {s : Shared} {scope : Scope} {cl : List (Str × Addr)} {x : Str} {Q : Env → Shared → Prop} (hcf : ∀ n, cellsFrom n scope.names cl = (x, n) :: cl) (hpc : ∀ h, pushCells h scope.names = h.push { cls := .type "cell", data := .cell none })
    (h : Q { compEnvC scope ((x, s.heap.objs.size + 1) :: cl) s.heap.objs.size env with scope := scope } { s with heap := (s.heap.push { cls := .type "dict", data := .dict #[] }).push { cls := .type "cell", data := .cell none } }) :
    wpAny (model prog w) A (newFunctionEnv scope env.globals cl [] env.qual none .none (some env)) Q E s := by
  simp only [newFunctionEnv, Option.isSome_some, if_true]
  refine wpAny_bind (wpAny_alloc ?_)
  refine wpAny_bind (wpAny_layCells _ (fun name kind cells => by cases hkc : kind == NameKind.cell <;> simp) _ _ _ _ ?_)
  dsimp only
  rw [hcf, hpc, Heap.size_push, List.forIn_nil]
  exact wpAny_bind (wpAny_pure (wpAny_pure h))

/-- one element's tree, its name a cell -/
def EltC (prog : Program) (w : World) (A : Around) (env : Env) (elt : Expr) (x : Str) (scope : Scope) (cl : List (Str × Addr)) (s₁ : Shared) (n : Nat) (P : Nat → Value → Prop) (R : Nat → Value → Prop) : Prop :=
  ∀ i v C K m₂ h tk (E' : Value → Shared → Prop), i < n → P i v → Ext s₁.heap h → s₁.heap.get? C = none → s₁.heap.get? K = none → h.Ns C m₂ → h.IsCell K (some v) →
    wpAny (model prog w) A (eval elt (compEnvC scope ((x, K) :: cl) C env)) (fun y s₃ => ∃ h' tk', s₃ = { s₁ with heap := h', toks := tk' } ∧ Ext h h' ∧ R i y) E' { s₁ with heap := h, toks := tk }
set_option maxHeartbeats 1000000 in
theorem blockC {elt iter : Expr} {x : Str} {px : Pos} {scope : Scope} {cl : List (Str × Addr)} {pos : Pos} {s₁ : Shared} {fp : List Addr} {n : Nat} {P : Nat → Value → Prop} {St : Nat → Heap → Prop} {R : Nat → Value → Prop} {oI : Obj}
    {RR : Value → Addr → Result → Shared → Prop} (W : Walks prog w A s₁.heap.objs.size fp [s₁.heap.objs.size] n P St) (hfp : ∀ b ∈ fp, b < s₁.heap.objs.size + 1) (hst : St 0 (s₁.heap.push oI)) (hsz : n ≤ sizeLine)
    (hcf : ∀ n, cellsFrom n scope.names cl = (x, n) :: cl) (hpc : ∀ h, pushCells h scope.names = h.push { cls := .type "cell", data := .cell none }) (hkind : scope.kind = .function) (hx : ∀ C K, (compEnvC scope ((x, K) :: cl) C env).kindOf x = some .cell)
    (elt_ok : EltC prog w A env elt x scope cl s₁ n P R)
    (hRR : ∀ D C h tk m' ys, Ext s₁.heap h → s₁.heap.get? D = none → s₁.heap.get? C = none → C ≠ D → h.get? D = some (lstO ys) → h.Ns C m' → ys.length = n → (∀ i y, ys[i]? = some y → R i y) → RR (.ref D) C (.ok .next) { s₁ with heap := h, toks := tk }) :
    wpAny (model prog w) A (newList []) (fun acc s₃ => wpAny (model prog w) A (newFunctionEnv scope env.globals cl [] env.qual none .none (some env)) (fun cenv s₄ =>
      codeAny (model prog w) A (.compStart (.ListComp elt [⟨.Name x px, iter, [], 0⟩] scope pos) 0 (.ref s₁.heap.objs.size) acc { cenv with scope := relabel scope env }) (RR acc cenv.locals) s₄) E s₃) E { s₁ with heap := s₁.heap.push oI } := by
  refine wpAny_newObj_type (newEnvCell hcf hpc ?_)
  dsimp only
  generalize hH1 : s₁.heap.push oI = H1 at hst ⊢
  have hI1 : H1.objs.size = s₁.heap.objs.size + 1 := by rw [← hH1, Heap.size_push]
  generalize hH2 : H1.push { cls := .type "list", dict := none, data := .seq ([] : List Value).toArray } = H2
  have hC : H2.objs.size = H1.objs.size + 1 := by rw [← hH2, Heap.size_push]
  generalize hH3 : H2.push { cls := .type "dict", data := .dict #[] } = H3
  have hK : H3.objs.size = H2.objs.size + 1 := by rw [← hH3, Heap.size_push]
  have hns₁ : (H3.push { cls := .type "cell", data := .cell none }).Ns H2.objs.size (fun _ => none) := (hH3 ▸ Heap.Ns.new H2 (.type "dict")).keeps fun b o e => Heap.get?_push_of_some _ e
  have hcell : (H3.push { cls := .type "cell", data := .cell none }).IsCell (H2.objs.size + 1) none := ⟨_, hK ▸ Heap.get?_push_size _ rfl, rfl⟩
  have old : ∀ b o, H2.get? b = some o → (H3.push { cls := .type "cell", data := .cell none }).get? b = some o := fun b o e => Heap.get?_push_of_some _ (hH3 ▸ Heap.get?_push_of_some _ e)
  generalize hh1 : H3.push { cls := .type "cell", data := .cell none } = h₁ at hns₁ hcell old
  generalize hD' : H1.objs.size = D at *
  generalize hC' : H2.objs.size = C at *
  have none1 : ∀ a, s₁.heap.objs.size ≤ a → s₁.heap.get? a = none := fun a ha => by
    cases e : s₁.heap.get? a with
    | none => rfl
    | some o' => exact absurd (Heap.lt_size e) (Nat.not_lt.mpr ha)
  generalize hI' : s₁.heap.objs.size = I at *
  generalize hK' : C + 1 = K at *
  have hDI : D ≠ I := by omega
  have hCI : C ≠ I := by omega
  have hKI : K ≠ I := by omega
  have hCD : C ≠ D := by omega
  have hKD : K ≠ D := by omega
  have hKC : K ≠ C := by omega
  have nD := none1 D (by omega)
  have nC := none1 C (by omega)
  have nK := none1 K (by omega)
  have ext0 : ∀ b o, H1.get? b = some o → h₁.get? b = some o := fun b o e => old b o (hH2 ▸ Heap.get?_push_of_some _ e)
  have ext1 : Ext s₁.heap h₁ := fun b o e => ext0 b o (hH1 ▸ Heap.get?_push_of_some _ e)
  have hacc : h₁.get? D = some (lstO []) := old _ _ (hH2 ▸ hD' ▸ Heap.get?_push_size _ rfl)
  have hst₁ : St 0 h₁ := W.frame _ _ _ hst fun b _ o e => ext0 b o e
  have off : ∀ (b : Addr) o, s₁.heap.get? b = some o → @LT.lt Nat _ b I := fun b o e => hI' ▸ Heap.lt_size e
  have hKf : ∀ b ∈ fp, b ≠ K := fun b hb => by have : @LT.lt Nat _ b (I + 1) := hfp b hb; refine neN ?_; omega
  have hDf : ∀ b ∈ fp, b ≠ D := fun b hb => by have : @LT.lt Nat _ b (I + 1) := hfp b hb; refine neN ?_; omega
  have loop : ∀ s₃ : Shared, s₃ = { s₁ with heap := h₁, toks := s₁.toks } →
      codeAny (model prog w) A (.compLoop (.ListComp elt [⟨.Name x px, iter, [], 0⟩] scope pos) 0 (.ref I) (.ref D) (compEnvC scope ((x, K) :: cl) C env)) (RR (.ref D) C) s₃ := by
    rintro s₃ rfl
    refine codeAny_compLoop_tests
      (fun k s' => ∃ h' tk i ys m' v₀, s' = { s₁ with heap := h', toks := tk } ∧ i ≤ n ∧ k = n + 1 - i ∧ ys.length = i ∧ St i h' ∧ Ext s₁.heap h' ∧ h'.Ns C m' ∧ h'.IsCell K v₀ ∧ h'.get? D = some (lstO ys) ∧ ∀ j y, ys[j]? = some y → R j y) ?_ (n + 1)
      ⟨h₁, _, 0, [], _, _, rfl, Nat.zero_le _, rfl, rfl, hst₁, ext1, hns₁, hcell, hacc, fun j y e => by simp at e⟩
    rintro k s' ⟨h', tk, i, ys, m', v₀, rfl, hi, rfl, hyl, hst', ext', hn', hc', hD₁, hys⟩
    by_cases hlt : i < n
    · refine W.item i _ _ _ hlt hst' fun v h₂ tk₂ hPv hst₂ hk₂ => ?_
      have hc₂ : h₂.IsCell K v₀ := let ⟨o, q, r⟩ := hc'; ⟨o, hk₂ _ _ (by simpa using hKI) q, r⟩
      refine wpAny_assign_Name (wpAny_storeName_cell (by simp [compEnvC, relabel, hkind]) (hx C K) (by simp [compEnvC]) hc₂ fun h₃ hc₃ hs₃ => ?_)
      refine wpAny_tests_nil ?_
      simp only [if_true]
      have up23 : ∀ b o, b ≠ K → b ≠ I → h'.get? b = some o → h₃.get? b = some o := fun b o h1 h2 e => hs₃.extBut b o h1 (hk₂ b o (by simpa using h2) e)
      have ext3 : Ext s₁.heap h₃ := fun b o e => by have := off b o e; exact up23 b o (by refine neN ?_; omega) (by refine neN ?_; omega) (ext' b o e)
      have hst₃ : St (i + 1) h₃ := W.frame _ _ _ hst₂ fun b hb o e => hs₃.extBut b o (hKf b hb) e
      have hn₃ : h₃.Ns C m' := hn'.at' fun o e => up23 C o (Ne.symm hKC) hCI e
      have hD₃ : h₃.get? D = some (lstO ys) := up23 D _ (Ne.symm hKD) hDI hD₁
      refine wpAny_mono (elt_ok i v C K _ h₃ _ _ hlt hPv ext3 nC nK hn₃ hc₃) (fun y s₄ h₄ => ?_) fun _ _ e => e
      obtain ⟨h₄, tk₄, rfl, ext4, hRy⟩ := h₄
      have hst₄ : St (i + 1) h₄ := W.frame _ _ _ hst₃ fun b _ o e => ext4 b o e
      refine append_at (hsz := by show ys.toArray.size ≤ sizeLine; rw [List.size_toArray, hyl]; exact Nat.le_trans hi hsz) (ext4 _ _ hD₃) fun h₅ hs₅ hD₅ => ?_
      refine ⟨n + 1 - (i + 1), by omega, h₅, tk₄, i + 1, ys ++ [y], _, some v, rfl, hlt, rfl, by rw [List.length_append, List.length_singleton, hyl], W.frame _ _ _ hst₄ fun b hb o e => hs₅.extBut b o (hDf b hb) e,
        fun b o e => ?_, (hn₃.keeps ext4).sameBut hs₅ hCD, (cell_up hc₃ ext4).sameBut hs₅ hKD, hD₅.trans (congrArg some (LCg.lst_snoc ys y)), fun j z e => ?_⟩
      · have := off b o e
        exact hs₅.extBut b o (by refine neN ?_; omega) (ext4 b o (ext3 b o e))
      · by_cases hj : j < ys.length
        · rw [List.getElem?_append_left hj] at e
          exact hys j z e
        · have e2 : (ys ++ [y])[j]? = [y][j - ys.length]? := List.getElem?_append_right (Nat.not_lt.mp hj)
          rw [e2] at e
          have hj0 : j - ys.length = 0 := by
            cases hq : j - ys.length with
            | zero => rfl
            | succ q => rw [hq] at e; simp at e
          rw [hj0] at e
          have : j = i := by omega
          subst this
          simp at e
          subst e
          exact hRy
    · obtain rfl : i = n := Nat.le_antisymm hi (Nat.not_lt.mp hlt)
      refine W.done _ _ _ hst' fun h₂ tk₂ hk₂ => ?_
      have up2 : ∀ b o, b ≠ I → h'.get? b = some o → h₂.get? b = some o := fun b o h1 e => hk₂ b o (by simpa using h1) e
      refine hRR D C h₂ tk₂ _ ys (fun b o e => ?_) nD nC hCD (up2 _ _ hDI hD₁) (hn'.at' fun o e => up2 _ o hCI e) hyl hys
      have := off b o e
      exact up2 b o (by refine neN ?_; omega) (ext' b o e)
  exact codeAny_compStart_list (loop _ rfl) (W.self 0 _ _ _ hst₁ (loop _ rfl))
end
section
variable {prog : Program} {w : World} {A : Around} {E : Value → Shared → Prop} {s : Shared} {env : Env} {h₀ : Heap} {L : Addr} {m : Str → Option Value} {news : List (Addr × Obj)}
def Src2 (prog : Program) (w : World) (A : Around) (h₀ : Heap) (L : Addr) (m : Str → Option Value) (news : List (Addr × Obj)) (env : Env) (elt iter2 : Expr) (x1 x2 : Str) (scope : Scope) (cl : List (Str × Addr))
    (Q : Value → Shared → Prop) (xv : Value) (s₁ : Shared) : Prop :=
  ∃ n P pss hf, IterOf prog w xv s₁ n P ∧ n ≤ 10 ∧ (∀ i, (pss i).length ≤ 50) ∧ Fr h₀ L s₁.heap m ∧ News h₀ L s₁.heap news ∧ Ext hf s₁.heap ∧ EltIn prog w A env elt x2 scope cl s₁ hf ∧ IterIn prog w A env iter2 x1 scope cl s₁ hf n P pss ∧
    ∀ ys D h tk, StrsAre ys (catN pss n) → Fr h₀ L h m → News h₀ L h ((D, lstO ys) :: news) → s₁.heap.get? D = none → Q (.ref D) { s₁ with heap := h, toks := tk }
theorem Src2.intro {elt iter2 : Expr} {x1 x2 : Str} {scope : Scope} {cl : List (Str × Addr)} {Q : Value → Shared → Prop} {xv : Value} {s₁ : Shared} {n : Nat} {P : Nat → Value → Prop} (pss : Nat → List (Str × Str)) (hf : Heap)
    (hi : IterOf prog w xv s₁ n P) (hn : n ≤ 10) (hp : ∀ i, (pss i).length ≤ 50) (F : Fr h₀ L s₁.heap m) (N : News h₀ L s₁.heap news) (he : Ext hf s₁.heap) (h1 : EltIn prog w A env elt x2 scope cl s₁ hf) (h2 : IterIn prog w A env iter2 x1 scope cl s₁ hf n P pss)
    (h3 : ∀ ys D h tk, StrsAre ys (catN pss n) → Fr h₀ L h m → News h₀ L h ((D, lstO ys) :: news) → s₁.heap.get? D = none → Q (.ref D) { s₁ with heap := h, toks := tk }) :
    Src2 prog w A h₀ L m news env elt iter2 x1 x2 scope cl Q xv s₁ := ⟨n, P, pss, hf, hi, hn, hp, F, N, he, h1, h2, h3⟩
theorem comp2_eval {elt iter1 iter2 : Expr} {x1 x2 : Str} {p1 p2 : Pos} {scope : Scope} {cl : List (Str × Addr)} {pos : Pos} {Q : Value → Shared → Prop} (hh : A.handled = none)
    (h : wpAny (model prog w) A (eval iter1 env) (Src2 prog w A h₀ L m news env elt iter2 x1 x2 scope cl Q) E s)
    (hclos : closureFor scope env = pure cl) (hcell : ∀ y ∈ scope.names, y.2 ≠ .cell) (hkind : scope.kind = .function)
    (hnames : ∀ y ∈ scope.names, y.2 = .local → scope.names.lookup y.1 = some .local) (hx1 : scope.names.lookup x1 = some .local) (hx2 : scope.names.lookup x2 = some .local)
    (hs : ∀ x, foldedSetIterable iter1 env x = pure x) (hs2 : ∀ env x, foldedSetIterable iter2 env x = pure x) :
    wpAny (model prog w) A (eval (twoC elt iter1 iter2 x1 x2 p1 p2 scope pos) env) Q E s := by
  rw [eval_ListComp]
  refine wpAny_comprehension_free (use := none) rfl hs hclos hkind hnames (wpAny_mono h (fun xv s₁ h₁ => ?_) fun _ _ e => e)
  obtain ⟨n, P, pss, hf, hi, hn, hp, F, N, he, h1, h2, h3⟩ := h₁
  refine hi _ _ _ hh fun o fp St W hfp hIo hst => ?_
  refine block2 W hfp hst hn hp hcell hkind hx1 hx2 hh he hs2 h1 h2 fun D C h tk m' ys ext nD nC hCD hD hC hys => ?_
  refine ⟨m', hC, fun h'' hs'' => ?_⟩
  have up : ∀ b o, b ≠ C → h.get? b = some o → h''.get? b = some o := fun b o hb e => hs''.extBut b o hb e
  have ext' : Ext s₁.heap h'' := fun b o e => up b o (fun q => by rw [q, nC] at e; cases e) (ext b o e)
  refine h3 ys D h'' tk hys (F.keeps ext') ?_ nD
  exact news_more (tl := [(D, lstO ys)]) F (N.grown ext') fun p hp => by
    rw [List.mem_singleton.mp hp]; exact ⟨up _ _ (Ne.symm hCD) hD, nD⟩
theorem compC_assign {elt iter : Expr} {x y : Str} {px py : Pos} {scope : Scope} {cl : List (Str × Addr)} {pos spos : Pos} {Q : Flow → Shared → Prop} (hh : A.handled = none) (hLe : env.locals = L)
    (h : wpAny (model prog w) A (eval iter env) (fun xv s₁ => ∃ n P R, IterOf prog w xv s₁ n P ∧ n ≤ sizeLine ∧ Fr h₀ L s₁.heap m ∧ News h₀ L s₁.heap news ∧ EltC prog w A env elt x scope cl s₁ n P R ∧
      ∀ ys D h tk, ys.length = n → (∀ i y, ys[i]? = some y → R i y) → Fr h₀ L h (fun z => if z = y then some (.ref D) else m z) → News h₀ L h ((D, lstO ys) :: news) → s₁.heap.get? D = none → Q .next { s₁ with heap := h, toks := tk }) E s)
    (hsw : swapsWith (.ListComp elt [⟨.Name x px, iter, [], 0⟩] scope pos) (some (.Name y py)) spos.line env = pure true)
    (hclos : closureFor scope env = pure cl) (hcf : ∀ n, cellsFrom n scope.names cl = (x, n) :: cl) (hpc : ∀ h, pushCells h scope.names = h.push { cls := .type "cell", data := .cell none }) (hkind : scope.kind = .function)
    (hx : ∀ C K, (compEnvC scope ((x, K) :: cl) C env).kindOf x = some .cell) (hnames : ∀ y ∈ scope.names, y.2 = .local → scope.names.lookup y.1 = some .local)
    (hy : env.kindOf y = some .local) (hp : (env.scope.kind == .class || (env.scope.kind == .module && env.locals != env.globals)) = false)
    (hs : ∀ x, foldedSetIterable iter env x = pure x) :
    wpAny (model prog w) A (exec (.Assign [.Name y py] (.ListComp elt [⟨.Name x px, iter, [], 0⟩] scope pos) spos) env) Q E s := by
  subst hLe
  rw [exec_Assign_Name_used _ _ _ _ hsw]
  refine wpAny_bind (wpAny_standAt (wpAny_bind ?_))
  show wpAny _ A (do let _ ← comprehension (.ListComp elt [⟨.Name x px, iter, [], 0⟩] scope pos) scope env _ (newList []) false (eval iter env) (some (assign (.Name y py) env))) _ _ s
  refine wpAny_bind (wpAny_mono (wpAny_comprehension_free (use := some (assign (.Name y py) env)) (Q := fun _ s' => Q .next s') rfl hs hclos hkind hnames
    (wpAny_mono h (fun xv s₁ h₁ => ?_) fun _ _ e => e)) (fun _ s' hq => wpAny_pure (wpAny_pure hq)) fun _ _ e => e)
  obtain ⟨n, P, R, hi, hn, F, N, he, hf⟩ := h₁
  refine hi _ _ _ hh fun o fp St W hfp hIo hst => ?_
  refine blockC W hfp hst hn hcf hpc hkind hx he fun D C h tk m' ys ext nD nC hCD hD hC hyl hys => ?_
  show wpAny _ A (assign (.Name y py) env (.ref D)) _ _ _
  have F₁ := F.keeps ext
  have N₁ : News h₀ env.locals h ((D, lstO ys) :: news) := news_more (tl := [(D, lstO ys)]) F (N.grown ext) fun p hp => by
    rw [List.mem_singleton.mp hp]; exact ⟨hD, nD⟩
  obtain ⟨oL, _, _, hL, _⟩ := F.ns
  have hCL : C ≠ env.locals := fun e => by rw [e, hL] at nC; cases nC
  have hC₀ : h₀.get? C = none := by
    cases e : h₀.get? C with
    | none => rfl
    | some o => rw [F.keep _ _ e] at nC; cases nC
  have offC : ∀ p ∈ (D, lstO ys) :: news, p.1 ≠ C := fun p hp => by
    rcases List.mem_cons.mp hp with rfl | hp
    · exact Ne.symm hCD
    · intro e; have q := (N p hp).1; rw [e, nC] at q; cases q
  refine wpAny_assign_Name (wpAny_storeName_local hy F₁.ns (fun h₂ hn₂ hs₂ => ?_) hp)
  have hL₀ : h₀.get? env.locals = none := Heap.get?_none_of_le F.above
  have F₂ : Fr h₀ env.locals h₂ (fun z => if z = y then some (.ref D) else m z) := ⟨hn₂, fun b o e => hs₂.extBut b o (fun q => by rw [q, hL₀] at e; cases e) (F₁.keep b o e), F.above⟩
  refine ⟨m', hC.sameBut hs₂ hCL, fun h'' hs'' => hf ys D h'' _ hyl hys (F₂.change hs'' hCL hC₀) (fun p hp => ?_) nD⟩
  have z : h₂.get? p.1 = some p.2 := hs₂.extBut _ _ (N₁ p hp).2.1 (N₁ p hp).1
  exact ⟨hs''.extBut _ _ (offC p hp) z, (N₁ p hp).2⟩
end
/-- the frame and all that is held since: hf stays in every heap that follows -/
structure Kp (h₀ : Heap) (L : Addr) (hf hp : Heap) (m : Str → Option Value) : Prop where
  F : Fr h₀ L hp m
  N : ∃ news, News h₀ L hp news ∧ ∀ h, Held news h → Ext hf h
theorem Kp.e {h₀ hf hp : Heap} {L : Addr} {m : Str → Option Value} (x : Kp h₀ L hf hp m) : Ext hf hp := let ⟨_, n, k⟩ := x.N; k hp fun p hp => (n p hp).1
theorem Kp.keeps {h₀ hf hp h : Heap} {L : Addr} {m : Str → Option Value} (x : Kp h₀ L hf hp m) (e : Ext hp h) : Kp h₀ L hf h m := let ⟨_, n, k⟩ := x.N; ⟨x.F.keeps e, _, n.grown e, k⟩
theorem Kp.grow {h₀ hf h : Heap} {L : Addr} {m : Str → Option Value} {tl news : List (Addr × Obj)} (F : Fr h₀ L h m) (N : News h₀ L h (tl ++ news)) (k : ∀ h, Held news h → Ext hf h) : ∃ hf', Ext hf hf' ∧ Held tl hf' ∧ Kp h₀ L hf' h m := by
  obtain ⟨hf', h1, h2⟩ := frozen (led := tl ++ news) (h := h) fun p hp => (N p hp).1
  exact ⟨hf', k hf' fun p hp => h1 p (List.mem_append_right _ hp), fun p hp => h1 p (List.mem_append_left _ hp), F, _, N, h2⟩
theorem handT_len50 (k : Nat) : (handT k).length ≤ 50 := by
  unfold handT
  rw [List.length_map]
  match k with
  | 0 => decide
  | 1 => decide
  | 2 => decide
  | 3 => decide
  | k + 4 => exact (by decide : (escT 4).length ≤ 50)
section
variable {prog : Program} {w : World} {mean : ExcName → Option Value} {mg mb : Str → Option Value} {A : Around} {E : Value → Shared → Prop} {s : Shared} {h₀ hp hf : Heap} {tk : Nat} {L f : Addr} {cd : Value} {Q : Flow → Shared → Prop} {m : Str → Option Value}
set_option maxHeartbeats 2000000 in
theorem st6 {D : Addr} {ys : List Value} {ks : Nat → Nat} {news : List (Addr × Obj)} {o4 : Obj} (hh : A.handled = none) (F : Fr h₀ L hp m) (N : News h₀ L hp ((L + 1 + 1 + 1 + 1, o4) :: news)) (hE : ∀ h, Held news h → Ext hf h) (hN4 : ∀ p ∈ news, p.1 ≠ L + 1 + 1 + 1 + 1)
    (hm : m (Str.ofString "steps") = some (.ref D)) (hD : hf.IsList D ys.toArray) (hyl : ys.length = 3) (hyk : ∀ (i : Nat) y, ys[i]? = some y → HandAt hf y (ks i)) (d4 : o4.data = .cell none)
    (k : ∀ h' tk' hf' D2 zs, Ext hf hf' → hf'.IsList D2 (List.toArray zs) → StrsAre zs (catN (fun i => handT (ks i)) 3) → hf'.IsCell (L + 1 + 1 + 1 + 1) (some (.ref D2)) → Kp h₀ L hf' h' m → Q .next { s with heap := h', toks := tk' }) :
    wpAny (model prog w) A (exec (ls 5) (lawEnv L f cd)) Q E { s with heap := hp, toks := tk } := by
  have e0 := ext_of hE N
  have q4 : hp.get? (L + 1 + 1 + 1 + 1) = some o4 := (N (L + 1 + 1 + 1 + 1, o4) (by simp)).1
  refine wpAny_Assign_Name ?_ rfl
  refine comp2_eval (h₀ := h₀) (L := L) (m := m) (news := (L + 1 + 1 + 1 + 1, o4) :: news) hh ?_ rfl (by decide) rfl (by decide) rfl rfl (fun _ => rfl) (fun _ _ => rfl)
  refine e_loc F hm ?_
  refine Src2.intro (fun i => handT (ks i)) hf (iterOf_list (IsList.at' hD e0)) (by simp [hyl]) (fun i => handT_len50 _) F N e0 ?_ ?_ ?_
  · intro v2 p C m₂ h tk Q' E' ext hv hn hx q
    obtain ⟨a, t, u, rfl, ha⟩ := hv
    refine Subscript_ ?_
    refine c_own hn hx ?_
    walk1
    refine tail_tup (its := [_, _]) (IsTuple.up ha ext) (by rfl) (by simp) (by decide) ?_
    exact q _ _
  · intro i v C m₂ h tk Q' E' hi hv ext hn hx q
    obtain ⟨a, u, rfl, ha, ⟨ul, us, rfl, hul, hup⟩⟩ := hyk i v (by simpa using hv)
    refine Subscript_ ?_
    refine c_own hn hx ?_
    walk1
    refine tail_tup (its := [_, _]) (IsTuple.up ha ext) (by rfl) (by simp) (by decide) ?_
    exact q _ _ _ hul (by simpa using hup)
  · intro zs D2 h tk2 hz F N nD
    have hD4 : D2 ≠ L + 1 + 1 + 1 + 1 := fun e => by have nD' : hp.get? D2 = none := nD; rw [e, q4] at nD'; cases nD'
    refine stCN (own := [(D2, lstO zs)]) F N (by rfl) d4 ?_ ?_ ?_
    · intro p hp
      rw [List.mem_singleton.mp hp]; exact hD4
    · exact hN4
    intro h' o' F' N' d'
    have N'' : News h₀ L h' ([(D2, lstO zs), (L + 1 + 1 + 1 + 1, o')] ++ news) := N'
    obtain ⟨hf', q1, q2, q3⟩ := Kp.grow F' N'' hE
    exact k h' _ hf' D2 zs q1 ⟨_, q2 (D2, lstO zs) (by simp), rfl, _, rfl⟩ (by simpa [hyl] using hz) ⟨_, q2 (L + 1 + 1 + 1 + 1, o') (by simp), d'⟩ q3
end
/-- three naturals as the list of values that holds them -/
def NatsAt (vs : List Value) (ns : List Nat) : Prop := Paired (fun v n => ∃ t, v = vn n t) vs ns
/-- a number that _law_stretch has made -/
def Made (ws : List Str) (n : Nat) : Prop := ∃ a, a < 2 ^ 32 ∧ n = stretchN a ws
theorem pick3 {bs : List Value} (h : bs.length = 5) : (slicePick bs.toArray none (some 3) none).size = 3 := by
  match bs, h with
  | [_, _, _, _, _], _ => rfl
/-- a list of values, each as told, as naturals -/
theorem nats_of {P : Nat → Prop} : ∀ {ys : List Value}, (∀ y ∈ ys, ∃ n t, P n ∧ y = vn n t) → ∃ ns : List Nat, NatsAt ys ns ∧ ∀ n ∈ ns, P n
  | [], _ => ⟨[], .nil, fun _ h => nomatch h⟩
  | y :: ys, h => by
    obtain ⟨n, t, hn, rfl⟩ := h y List.mem_cons_self
    obtain ⟨ns, h1, h2⟩ := nats_of fun z hz => h z (List.mem_cons_of_mem _ hz)
    refine ⟨n :: ns, .cons ⟨t, rfl⟩ h1, fun k hk => ?_⟩
    rcases List.mem_cons.mp hk with rfl | hk
    · exact hn
    · exact h2 k hk
section
variable {prog : Program} {w : World} {mean : ExcName → Option Value} {mg mb : Str → Option Value} {A : Around} {E : Value → Shared → Prop} {s : Shared} {h₀ hp hf : Heap} {tk : Nat} {L f : Addr} {cd : Value} {Q : Flow → Shared → Prop} {m : Str → Option Value}
set_option maxHeartbeats 2000000 in
theorem st7 {b D2 : Addr} {bs zs : List Value} {ws : List Str} (g : G w mean mg mb h₀) (hh : A.handled = none) (hroom : A.depth + 1 < recursionLimit) (K : Kp h₀ L hf hp m) (hb : hf.IsList b bs.toArray) (hc : hf.IsCell (L + 1 + 1 + 1) (some (.ref b))) (hbl : bs.length = 5) (hbi : ∀ v ∈ bs, IsInt v)
    (hz : hf.IsList D2 zs.toArray) (hzs : StrsAre zs ws) (hc4 : hf.IsCell (L + 1 + 1 + 1 + 1) (some (.ref D2)))
    (k : ∀ h' tk' hf' D ys ns, Ext hf hf' → hf'.IsList D (List.toArray ys) → NatsAt ys ns → ns.length = 3 → (∀ n ∈ ns, Made ws n) → Kp h₀ L hf' h' (fun z => if z = Str.ofString "stretches" then some (.ref D) else m z) → Q .next { s with heap := h', toks := tk' }) :
    wpAny (model prog w) A (exec (ls 6) (lawEnv L f cd)) Q E { s with heap := hp, toks := tk } := by
  obtain ⟨F, ⟨news, N, hE⟩⟩ := K
  have e0 : Ext hf hp := hE hp fun p hp => (N p hp).1
  have X := g.X
  have T := g.T
  refine comp_assign (h₀ := h₀) (L := L) (m := m) (news := news) hh rfl ?_ (by with_unfolding_all rfl) rfl (by decide) rfl (by decide) rfl rfl rfl (fun _ => rfl)
  refine Subscript_ ?_
  refine e_cell (cell_up hc e0) ?_
  iterate 5 walk1
  refine tail_slice (IsList.at' hb e0) IsPart.none (IsPart.int _ _) IsPart.none (by decide) (by simp [hbl]; exact Nat.le_of_ble_eq_true rfl) ?_ (by with_unfolding_all rfl)
  intro D1 h1 ext1 hD1 nD1
  have hsz : (slicePick bs.toArray none (some ((3 : Nat) : Int)) none).size = 3 := pick3 hbl
  refine SrcOk.vals (fun _ y => ∃ n t, Made ws n ∧ y = vn n t) (iterOf_list hD1) (F.keeps ext1) (N.grown ext1) (by rw [hsz]; exact Nat.le_of_ble_eq_true rfl) ?_ ?_
  · intro i v C m₂ h tk E' hi hv ext hC hn hx F N
    have hv' : IsInt v := hbi v (by have q := pick_mem (its := bs.toArray) (by simpa using Array.mem_of_getElem? hv); simpa using q)
    obtain ⟨z, tz, rfl⟩ := hv'
    have ext2 : Ext hf h := fun b o e => ext b o (ext1 b o (e0 b o e))
    refine Call_ ?_
    refine c_glob (g.keeps F.keep) (by k_is) ?_
    refine callWith_K (X.keeps F.keep) (by k_is) ?_
    refine spliced_cons ?_
    refine wpAny_BinOp ?_
    refine c_own hn hx ?_
    refine wpAny_BinOp ?_
    iterate 3 walk1
    refine mod_n (by decide) ?_
    intro a t2 tk2 ha _
    refine spliced_cons ?_
    refine c_cell (c := L + 1 + 1 + 1 + 1) (cell_up hc4 ext2) rfl ?_
    refine spliced_nil ?_
    refine ⟨X.keeps F.keep, ?_⟩
    refine law_stretch (g.keeps F.keep) (by omega) (by exact hh) (IsList.at' hz ext2) hzs ?_
    intro t3 h3 tk3 ext3
    exact ⟨h3, tk3, rfl, ext3, _, t3, ⟨a, ha, rfl⟩, rfl⟩
  · intro ys led hlen hys D h tk F N ap
    obtain ⟨hf', q1, q2, q3⟩ := Kp.grow (tl := (D, lstO ys) :: led) F N hE
    obtain ⟨ns, r1, r2⟩ := nats_of (P := Made ws) (ys := ys) fun y hy => by
      obtain ⟨i, hi, e⟩ := List.mem_iff_getElem.mp hy
      exact hys i y (by simp [hi, e])
    have r3 := Paired.len r1
    exact k h _ hf' D ys ns q1 ⟨_, q2 (D, lstO ys) (by simp), rfl, _, rfl⟩ r1 (by rw [← r3, hlen, hsz]) r2 q3
end
/-- the four octets of a number, low ones first -/
def bytes4 (n : Nat) : List Nat := (List.range 4).map fun p => n >>> (8 * p) &&& 255
/-- values that are texts of one sign each -/
def OnesAre (vs : List Value) (cs : List Nat) : Prop := Paired (fun v c => ∃ t, v = .str ⟨#[c]⟩ t) vs cs
theorem OnesAre.strs : ∀ {vs : List Value} {cs : List Nat}, OnesAre vs cs → StrsAre vs (cs.map fun c => (⟨#[c]⟩ : Str))
  | _, _, .nil => .nil
  | _, _, .cons ⟨t, e⟩ r => by subst e; exact .cons _ t (OnesAre.strs r)
theorem paired_fn {α β : Type} {F : α → β → Prop} (f : Nat → β) : ∀ {ys : List α} {n : Nat}, ys.length = n → (∀ (i : Nat) y, ys[i]? = some y → F y (f i)) → Paired F ys ((List.range n).map f) := by
  intro ys
  induction ys generalizing f with
  | nil =>
    intro n hn _
    subst hn; exact .nil
  | cons y r ih =>
    intro n hn h
    subst hn
    rw [List.length_cons, List.range_succ_eq_map, List.map_cons, List.map_map]
    exact .cons (h 0 y rfl) (ih (f ∘ Nat.succ) rfl fun i z hz => h (i + 1) z (by simpa using hz))
theorem ones_sum : ∀ cs : List Nat, ((cs.map fun c => (⟨#[c]⟩ : Str)).map (·.length)).sum = cs.length
  | [] => rfl
  | c :: r => by
    have := ones_sum r
    simp only [List.map_cons, List.sum_cons, List.length_cons] at this ⊢
    rw [this]
    have : (⟨#[c]⟩ : Str).length = 1 := rfl
    omega
theorem txt_join (x : Str) (ys : List Str) : Txt.join x ys = Str.join x ys := eq_of_beq (join_closes rfl)
section
variable {prog : Program} {w : World} {A : Around} {E : Value → Shared → Prop} {s : Shared} {env : Env} {Q : Value → Shared → Prop}
theorem join_call {e : Expr} {k1 : Nat} {p1 p2 p3 : Pos} {x : Str} (hx : x = ⟨#[]⟩) (hline : (p2.endLine == p3.line) = true) (hs : starEach [e] env = [(false, eval e env)])
    (h : ∀ tk, wpAny (model prog w) A (eval e env) (fun v s₁ => ∃ D ys cs, v = .ref D ∧ s₁.heap.IsList D (List.toArray ys) ∧ OnesAre ys cs ∧ cs.length ≤ 1000 ∧ ∀ t k, Q (.str ⟨cs.toArray⟩ t) { s₁ with toks := k }) E { s with toks := tk }) :
    wpAny (model prog w) A (eval (.Call (.Attribute (.Constant (.str x) k1 p1) (Str.ofString "join") p2) [e] [] p3) env) Q E s := by
  subst hx
  refine wpAny_Call_method_lateS rfl (by rw [hs]; rfl) hline ?_
  refine Constant_str ?_
  refine ⟨"str", "str.join", F.plainAttrs_str, F.slot_str_join, F.type_str_join, typeIs_str _ _ _, GM.noRef, ?_⟩
  refine callWith_method1 ?_ hs
  rw [hs]
  refine spliced_cons (wpAny_mono (h _) (fun v s₁ h₁ => ?_) fun _ _ e => e)
  obtain ⟨D, ys, cs, rfl, hl, ho, hc, q⟩ := h₁
  refine spliced_nil ?_
  refine join_listW hl (by simpa using ho.strs) (by decide) ?_ ?_
  · rw [ones_sum, List.length_map]; omega
  · intro t k
    rw [txt_join, join_ones]
    exact q t k
end
section
variable {prog : Program} {w : World} {mean : ExcName → Option Value} {mg mb : Str → Option Value} {A : Around} {E : Value → Shared → Prop} {s : Shared} {h₀ hp hf : Heap} {tk : Nat} {L f : Addr} {cd : Value} {Q : Flow → Shared → Prop} {m : Str → Option Value}
/-- values that are the texts of the numbers' octets -/
def BaresAre (vs : List Value) (ns : List Nat) : Prop := Paired (fun v n => ∃ t, v = .str ⟨(bytes4 n).toArray⟩ t) vs ns
theorem paired_of {α β : Type} {F F' : α → β → Prop} : ∀ {ys zs : List α} {ns : List β}, Paired F ys ns → zs.length = ys.length → (∀ (i : Nat) z, zs[i]? = some z → ∀ n, ns[i]? = some n → F' z n) → Paired F' zs ns
  | [], [], _, .nil, _, _ => .nil
  | _ :: _, z :: zs, _, .cons _ t, e, h => .cons (h 0 z rfl _ rfl) (paired_of t (by simpa using e) fun i z hz n hn => h (i + 1) z (by simpa using hz) n (by simpa using hn))
theorem Paired.get {α β : Type} {F : α → β → Prop} : ∀ {l₁ : List α} {l₂ : List β}, Paired F l₁ l₂ → ∀ {i : Nat} {a : α}, l₁[i]? = some a → ∃ b, l₂[i]? = some b ∧ F a b
  | _, _, .nil, _, _, h => by simp at h
  | _, _, .cons (b := b) h t, 0, _, e => by
    simp at e; subst e; exact ⟨b, rfl, h⟩
  | _, _, .cons h t, i + 1, _, e => by
    simp at e
    obtain ⟨b', h1, h2⟩ := Paired.get t e
    exact ⟨b', by simpa using h1, h2⟩
set_option maxHeartbeats 2000000 in
theorem st8 {D : Addr} {ys : List Value} {ns : List Nat} (g : G w mean mg mb h₀) (hh : A.handled = none) (K : Kp h₀ L hf hp m) (hm : m (Str.ofString "stretches") = some (.ref D)) (hD : hf.IsList D ys.toArray) (hy : NatsAt ys ns) (hn3 : ns.length = 3)
    (k : ∀ h' tk' hf' D zs, Ext hf hf' → hf'.IsList D (List.toArray zs) → BaresAre zs ns → Kp h₀ L hf' h' (fun z => if z = Str.ofString "bare" then some (.ref D) else m z) → Q .next { s with heap := h', toks := tk' }) :
    wpAny (model prog w) A (exec (ls 7) (lawEnv L f cd)) Q E { s with heap := hp, toks := tk } := by
  obtain ⟨Fr1, ⟨news, N, hE⟩⟩ := K
  have e0 : Ext hf hp := hE hp fun p hp => (N p hp).1
  have X := g.X
  have T := g.T
  have hyl : ys.length = 3 := by rw [Paired.len hy, hn3]
  refine compC_assign (h₀ := h₀) (L := L) (m := m) (news := news) hh rfl ?_ (by with_unfolding_all rfl) rfl (fun _ => rfl) (fun _ => rfl) rfl (fun _ _ => rfl) (by decide) rfl rfl (fun _ => rfl)
  refine e_loc Fr1 hm ?_
  refine ⟨_, _, fun i v => ∃ n t, ns[i]? = some n ∧ v = .str ⟨(bytes4 n).toArray⟩ t, iterOf_list (IsList.at' hD e0), by simp [hyl]; exact Nat.le_of_ble_eq_true rfl, Fr1, N, ?_, ?_⟩
  · intro i v C Kc m₂ h tk E' hi hv ext nC nK hn hc
    obtain ⟨n, hni, t, rfl⟩ := Paired.get hy (by simpa using hv)
    refine join_call (by decide +kernel) rfl rfl ?_
    intro tk0
    dsimp only
    refine comp_eval (h₀ := h₀) (L := L) (m := m) (news := news) hh ?_ rfl (by decide) rfl (by decide) rfl (fun _ => rfl)
    refine Call_ ?_
    refine c_boot (g.keeps fun b o e => ext b o (Fr1.keep b o e)) (by k_is) (by boot_by_name) (by decide) ?_
    have F1 : Fr h₀ L h m := Fr1.keeps ext
    have N1 : News h₀ L h news := N.grown ext
    iterate 4 walk1
    refine range1_rows (s := { s with heap := h, toks := _ }) F1 N1 ?_
    intro h2 tk2 t1 u1 v1 hr F2 N2 ext2
    refine SrcOk.vals (fun i y => ∃ t, y = .str ⟨#[n >>> (8 * i) &&& 255]⟩ t) (iterOf_range (n := 4) hr (by rfl) (by rfl)) F2 N2 (Nat.le_of_ble_eq_true rfl) ?_ ?_
    · rintro j v C2 m₃ h3 tk3 E3 hj ⟨t, rfl⟩ ext3 hC2 hn2 hx2 F N
      refine Call_ ?_
      refine c_boot (g.keeps F.keep) (by k_is) (by boot_by_name) (by decide) ?_
      iterate 2 walk1
      refine wpAny_BinOp ?_
      refine wpAny_BinOp ?_
      refine c_cell (c := Kc) (cell_up hc fun b o e => ext3 b o (ext2 b o e)) rfl ?_
      refine wpAny_BinOp ?_
      walk1
      refine c_own hn2 hx2 ?_
      iterate 4 walk1
      walk1
      refine chr_n (and255_lt _) ?_
      intro t9 tk9
      exact ⟨h3, tk9, rfl, fun _ _ e => e, t9, rfl⟩
    · intro ys2 led hyl2 hys2 D2 h3 tk3 ext3 F3 N3 fr3
      refine ⟨D2, ys2, bytes4 n, rfl, ⟨_, (fr3 (D2, lstO ys2) (by simp)).1, rfl, _, rfl⟩, paired_fn _ hyl2 hys2, by simp [bytes4], fun t k => ⟨h3, k, rfl, fun b o e => ext3 b o (ext2 b o e), n, t, hni, rfl⟩⟩
  · intro zs D h tk hzl hz F' N' nD
    obtain ⟨hf', q1, q2, q3⟩ := Kp.grow (tl := [(D, lstO zs)]) F' N' hE
    refine k h tk hf' D zs q1 ⟨_, q2 (D, lstO zs) (by simp), rfl, _, rfl⟩ (paired_of hy (by rw [hzl]; simp) fun i z e n hn => ?_) q3
    obtain ⟨n', t, h1, rfl⟩ := hz i z e
    rw [hn] at h1
    cases h1
    exact ⟨t, rfl⟩
end
theorem keep_esc (w : World) : ∀ k, keepIn (hd.heap_39 w.params) (.ref (escA k)) = true
  | 0 => by show keepIn (hd.heap_39 w.params) (.ref 35) = true; k_is
  | 1 => by show keepIn (hd.heap_39 w.params) (.ref 42) = true; k_is
  | 2 => by show keepIn (hd.heap_39 w.params) (.ref 49) = true; k_is
  | 3 => by show keepIn (hd.heap_39 w.params) (.ref 56) = true; k_is
  | k + 4 => by show keepIn (hd.heap_39 w.params) (.ref 63) = true; k_is
/-- a text by its codes -/
abbrev strL (cs : List Nat) : Str := ⟨cs.toArray⟩
theorem strL_of {y : Str} {cs : List Nat} (h : y.cps.toList = cs) : y = strL cs := by subst h; rfl
section
variable {prog : Program} {w : World} {mean : ExcName → Option Value} {mg mb : Str → Option Value} {A : Around} {s : Shared} {Q E : Value → Shared → Prop}
theorem esc_any {k : Nat} {cs : List Nat} {t : Tok} (g : G w mean mg mb s.heap) (hroom : A.depth < recursionLimit) (hx : cs.length ≤ 50)
    (ret : ∀ t h' tk, Ext s.heap h' → Q (.str (strL (escN (escT k) cs)) t) { s with heap := h', toks := tk }) : wpAny (model prog w) A (call (.ref (escA k)) [.str (strL cs) t]) Q E s := by
  have q : ∀ k, ∀ y t h' tk, y.cps.toList = escN (escT k) (strL cs).cps.toList → Ext s.heap h' → (∀ t h' tk, Ext s.heap h' → Q (.str (strL (escN (escT k) cs)) t) { s with heap := h', toks := tk }) → Q (.str y t) { s with heap := h', toks := tk } := by
    intro k y t h' tk e x r
    rw [strL_of e]; exact r t h' tk x
  match k, ret with
  | 0, ret => exact esc0 g hroom hx fun y t h' tk e x => q 0 y t h' tk e x ret
  | 1, ret => exact esc1 g hroom hx fun y t h' tk e x => q 1 y t h' tk e x ret
  | 2, ret => exact esc2 g hroom hx fun y t h' tk e x => q 2 y t h' tk e x ret
  | 3, ret => exact esc3 g hroom hx fun y t h' tk e x => q 3 y t h' tk e x ret
  | k + 4, ret => exact esc4 g hroom hx fun y t h' tk e x => q (k + 4) y t h' tk e x ret
end
section
variable {prog : Program} {w : World} {mean : ExcName → Option Value} {mg mb : Str → Option Value} {A : Around} {E : Value → Shared → Prop} {s : Shared} {h₀ hp hf : Heap} {tk : Nat} {L f : Addr} {cd : Value} {m : Str → Option Value}
theorem add_cs {a b : List Nat} {t u : Tok} {Q : Value → Shared → Prop} (hs : a.length + b.length ≤ 1000) (h : ∀ t' tk, Q (.str (strL (a ++ b)) t') { s with heap := hp, toks := tk }) : wpAny (model prog w) A (binaryOp .Add (.str (strL a) t) (.str (strL b) u)) Q E { s with heap := hp, toks := tk } := by
  have e : strL a ++ strL b = strL (a ++ b) := by
    apply congrArg Str.mk
    simp
  refine add_str (s := { s with heap := hp, toks := tk }) (fun t' tk' => ?_) (Nat.le_trans hs (Nat.le_of_ble_eq_true rfl))
  rw [e]; exact h t' tk'
theorem sub_list {x : Str} {p1 p2 p3 : Pos} {z : Int} {i kk : Nat} {D : Addr} {ys : List Value} {v : Value} {Q : Value → Shared → Prop} (hz : z = (i : Int)) (F : Fr h₀ L hp m) (hm : m x = some (.ref D)) (hl : hp.IsList D ys.toArray) (hy : ys[i]? = some v) (hi : i < 2 ^ 62)
    (h : ∀ tk', Q v { s with heap := hp, toks := tk' }) (hk : (lawEnv L f cd).kindOf x = some .local := by rfl) (hd : (x == ("__debug__" : Str)) = false := by decide) :
    wpAny (model prog w) A (eval (.Subscript (.Name x p1) (.Constant (.int z) kk p2) p3) (lawEnv L f cd)) Q E { s with heap := hp, toks := tk } := by
  refine Subscript_ ?_
  refine e_loc F hm ?_ rfl hk hd
  refine const_n hz ?_
  intro _ _
  exact tail_list hl hy hi (h _)
theorem sub_tup {x : Str} {p1 p2 p3 : Pos} {z : Int} {i kk : Nat} {D : Addr} {ys : List Value} {v : Value} {Q : Value → Shared → Prop} (hz : z = (i : Int)) (F : Fr h₀ L hp m) (hm : m x = some (.ref D)) (hl : hp.IsTuple D ys.toArray) (hy : ys[i]? = some v) (hi : i < 2 ^ 62)
    (h : ∀ tk', Q v { s with heap := hp, toks := tk' }) (hk : (lawEnv L f cd).kindOf x = some .local := by rfl) (hd : (x == ("__debug__" : Str)) = false := by decide) :
    wpAny (model prog w) A (eval (.Subscript (.Name x p1) (.Constant (.int z) kk p2) p3) (lawEnv L f cd)) Q E { s with heap := hp, toks := tk } := by
  refine Subscript_ ?_
  refine e_loc F hm ?_ rfl hk hd
  refine const_n hz ?_
  intro _ _
  exact tail_tup hl hy (List.getElem?_eq_some_iff.mp hy).1 hi (h _)
theorem hand_sub {p1 p2 p3 p4 p5 : Pos} {z : Int} {i k1 k2 : Nat} {D : Addr} {ys : List Value} {v : Value} {k : Nat} {Q : Value → Shared → Prop} (hz : z = (i : Int)) (F : Fr h₀ L hp m) (e : Ext hf hp) (hm : m (Str.ofString "steps") = some (.ref D)) (hl : hf.IsList D ys.toArray) (hy : ys[i]? = some v) (hi : i < 2 ^ 62) (hv : HandAt hf v k)
    (h : ∀ tk', Q (.ref (escA k)) { s with heap := hp, toks := tk' }) :
    wpAny (model prog w) A (eval (.Subscript (.Subscript (.Name (Str.ofString "steps") p1) (.Constant (.int z) k1 p2) p3) (.Constant (.int 0) k2 p4) p5) (lawEnv L f cd)) Q E { s with heap := hp, toks := tk } := by
  obtain ⟨a, u, rfl, ht, _⟩ := hv
  refine Subscript_ ?_
  refine sub_list hz F hm (IsList.at' hl e) hy hi fun tk' => ?_
  refine const_n (n := 0) rfl ?_
  intro _ _
  exact tail_tup (its := [_, _]) (IsTuple.up ht e) (by rfl) (by simp) (by decide) (h _)
end
section
variable {prog : Program} {w : World} {mean : ExcName → Option Value} {mg mb : Str → Option Value} {A : Around} {E : Value → Shared → Prop} {s : Shared} {h₀ hp hf : Heap} {tk : Nat} {L f : Addr} {cd : Value} {Q : Flow → Shared → Prop} {m : Str → Option Value}
theorem ext_trans {a b c : Heap} (h : Ext a b) (k : Ext b c) : Ext a c := fun x o e => k x o (h x o e)
set_option maxHeartbeats 2000000 in
theorem st9 {D B : Addr} {ys bs : List Value} {y : Value} {k0 n0 n1 n2 c d : Nat} {v1 v2 : Value} {p1 p2 : Str × Str} (g : G w mean mg mb h₀) (hh : A.handled = none) (hroom : A.depth + 1 < recursionLimit) (K : Kp h₀ L hf hp m)
    (hm : m (Str.ofString "steps") = some (.ref D)) (hD : hf.IsList D ys.toArray) (hy : ys[0]? = some y) (hv : HandAt hf y k0)
    (hmb : m (Str.ofString "bare") = some (.ref B)) (hB : hf.IsList B bs.toArray) (hbs : BaresAre bs [n0, n1, n2])
    (hm1 : m (Str.ofString "early") = some v1) (h1 : PairAt hf v1 p1) (hc : p1.1 = strL [c]) (hm2 : m (Str.ofString "late") = some v2) (h2 : PairAt hf v2 p2) (hd : p2.1 = strL [d])
    (k : ∀ h' tk' t, Kp h₀ L hf h' (fun z => if z = Str.ofString "first" then some (.str (strL (escN (escT k0) (bytes4 n0 ++ [c] ++ bytes4 n1 ++ [d] ++ bytes4 n2))) t) else m z) → Q .next { s with heap := h', toks := tk' }) :
    wpAny (model prog w) A (exec (ls 8) (lawEnv L f cd)) Q E { s with heap := hp, toks := tk } := by
  obtain ⟨F, ⟨news, N, hE⟩⟩ := K
  have e0 : Ext hf hp := hE hp fun p hp => (N p hp).1
  have X := g.X
  obtain ⟨a1, t1, u1, rfl, ha1⟩ := h1
  obtain ⟨a2, t2, u2, rfl, ha2⟩ := h2
  rw [hc] at ha1
  rw [hd] at ha2
  obtain ⟨x0, g0, tb0, rfl⟩ := Paired.at hbs (i := 0) rfl
  obtain ⟨x1, g1, tb1, rfl⟩ := Paired.at hbs (i := 1) rfl
  obtain ⟨x2, g2, tb2, rfl⟩ := Paired.at hbs (i := 2) rfl
  have hB' := IsList.at' hB e0
  have l4 : ∀ n, (bytes4 n).length = 4 := fun n => by simp [bytes4]
  refine wpAny_Assign_Name ?_ rfl
  refine Call_ ?_
  refine hand_sub rfl F e0 hm hD hy (by decide) hv fun _ => ?_
  refine callWith_K (X.keeps F.keep) (keep_esc w k0) ?_
  refine spliced_cons ?_
  refine wpAny_BinOp ?_
  refine wpAny_BinOp ?_
  refine wpAny_BinOp ?_
  refine wpAny_BinOp ?_
  refine sub_list rfl F hmb hB' g0 (by decide) fun _ => ?_
  refine sub_tup (ys := [_, _]) rfl F hm1 (IsTuple.up ha1 e0) rfl (by decide) fun _ => ?_
  refine add_cs (by simp [l4]) fun _ _ => ?_
  refine sub_list rfl F hmb hB' g1 (by decide) fun _ => ?_
  refine add_cs (by simp [l4]) fun _ _ => ?_
  refine sub_tup (ys := [_, _]) rfl F hm2 (IsTuple.up ha2 e0) rfl (by decide) fun _ => ?_
  refine add_cs (by simp [l4]) fun _ _ => ?_
  refine sub_list rfl F hmb hB' g2 (by decide) fun _ => ?_
  refine add_cs (by simp [l4]) fun _ _ => ?_
  refine spliced_nil ?_
  refine ⟨X.keeps F.keep, ?_⟩
  refine esc_any (g.keeps F.keep) (by omega) (by simp [l4]) fun t h' tk' ext => ?_
  refine e_st (F.keeps ext) (N.grown ext) fun h2 tk2 F2 N2 => ?_
  exact k h2 tk2 t ⟨F2, news, N2, hE⟩
theorem stE {n : Nat} {x y : Str} {z : Int} {i q1 q2 : Nat} {pa pb pc pd pe pf pg ph : Pos} {D : Addr} {ys : List Value} {v : Value} {kk : Nat} {cs : List Nat} {t : Tok} (hls : ls n = .Assign [.Name y pa] (.Call (.Subscript (.Subscript (.Name (Str.ofString "steps") pb) (.Constant (.int z) q1 pc) pd) (.Constant (.int 0) q2 pe) pf) [.Name x pg] [] ph) pa')
    (g : G w mean mg mb h₀) (hroom : A.depth + 1 < recursionLimit) (K : Kp h₀ L hf hp m)
    (hm : m (Str.ofString "steps") = some (.ref D)) (hD : hf.IsList D ys.toArray) (hz : z = (i : Int)) (hi : i < 2 ^ 62) (hy : ys[i]? = some v) (hv : HandAt hf v kk) (hmx : m x = some (.str (strL cs) t)) (hcs : cs.length ≤ 50)
    (k : ∀ h' tk' t, Kp h₀ L hf h' (fun z => if z = y then some (.str (strL (escN (escT kk) cs)) t) else m z) → Q .next { s with heap := h', toks := tk' })
    (hkx : (lawEnv L f cd).kindOf x = some .local := by rfl) (hky : (lawEnv L f cd).kindOf y = some .local := by rfl) (hdx : (x == ("__debug__" : Str)) = false := by decide) :
    wpAny (model prog w) A (exec (ls n) (lawEnv L f cd)) Q E { s with heap := hp, toks := tk } := by
  obtain ⟨F, ⟨news, N, hE⟩⟩ := K
  have e0 : Ext hf hp := hE hp fun p hp => (N p hp).1
  have X := g.X
  rw [hls]
  refine wpAny_Assign_Name ?_ rfl
  refine Call_ ?_
  refine hand_sub hz F e0 hm hD hy hi hv fun _ => ?_
  refine callWith_K (X.keeps F.keep) (keep_esc w kk) ?_
  refine spliced_cons ?_
  refine e_loc F hmx ?_ rfl hkx hdx
  refine spliced_nil ?_
  refine ⟨X.keeps F.keep, ?_⟩
  refine esc_any (g.keeps F.keep) (by omega) hcs fun t h' tk' ext => ?_
  refine e_st (F.keeps ext) (N.grown ext) (fun h2 tk2 F2 N2 => ?_) hky
  exact k h2 tk2 t ⟨F2, news, N2, hE⟩
end
section
variable {prog : Program} {w : World} {A : Around} {E : Value → Shared → Prop} {s : Shared} {env : Env} {h₀ : Heap} {L : Addr} {Q : Flow → Shared → Prop} {m : Str → Option Value}
theorem chg2 {h h' : Heap} {news : List (Addr × Obj)} {e it : Addr} (F : Fr h₀ L h m) (N : News h₀ L h news) (he : h₀.get? e = none) (hi : h₀.get? it = none) (hLe : L ≠ e) (hLi : L ≠ it) (ho : ∀ p ∈ news, p.1 ≠ e ∧ p.1 ≠ it)
    (hk : ∀ b o, b ≠ e → b ≠ it → h.get? b = some o → h'.get? b = some o) : Fr h₀ L h' m ∧ News h₀ L h' news :=
  ⟨⟨F.ns.at' fun o q => hk _ o hLe hLi q, fun b o q => hk b o (fun z => by rw [z, he] at q; cases q) (fun z => by rw [z, hi] at q; cases q) (F.keep b o q), F.above⟩, fun p hp => ⟨hk _ _ (ho p hp).1 (ho p hp).2 (N p hp).1, (N p hp).2⟩⟩
set_option maxHeartbeats 1000000 in
theorem for_enum {xi xv : Str} {pi pv pt pos : Pos} {kt : Nat} {iter : Expr} {body : List Stmt} (hLe : env.locals = L) (hh : A.handled = none) (hxi : env.kindOf xi = some .local) (hxv : env.kindOf xv = some .local)
    (hp' : (env.scope.kind == .class || (env.scope.kind == .module && env.locals != env.globals)) = false) (J : Nat → (Str → Option Value) → Prop) (items : Array Value) (h0 : J 0 m)
    (h : wpAny (model prog w) A (eval iter env) (fun xv s₁ => ∃ (e it l : Addr) (hq hf : Heap), xv = .ref e ∧ e ≠ it ∧ hq.get? e = none ∧ hq.get? it = none ∧ IsEnum s₁.heap e it 0 .none ∧ s₁.heap.IsListIter it l 0 ∧ Ext hq s₁.heap ∧ Kp h₀ L hf hq m ∧ hf.IsList l items ∧
      (∀ h' tk' m', Kp h₀ L hf h' m' → J items.size m' → Q .next { s₁ with heap := h', toks := tk' }) ∧
      (∀ (i : Nat) v tk' m₁ h tk (own : List (Addr × Obj)) (Q' : Flow → Shared → Prop) (E' : Value → Shared → Prop), items[i]? = some v → J i m₁ → Fr h₀ L h (fun y => if y = xv' then some v else if y = xi then some (vn i tk') else m₁ y) → News h₀ L h own → (∀ h, Held own h → Ext hf h) →
        (∀ h' tk' m₂, Fr h₀ L h' m₂ → News h₀ L h' own → J (i + 1) m₂ → Q' .next { s₁ with heap := h', toks := tk' }) → wpAny (model prog w) A (execs body env) Q' E' { s₁ with heap := h, toks := tk })) E s)
    (hxv' : xv' = xv) (hs : ∀ x, foldedSetIterable iter env x = pure x := by intro _; rfl) :
    wpAny (model prog w) A (exec (.For (.Tuple [.Name xi pi, .Name xv pv] kt pt) iter body [] pos) env) Q E s := by
  subst hLe hxv'
  refine wpAny_For (wpAny_mono h (fun xval s₁ h₁ => ?_) fun _ _ e => e) hs
  obtain ⟨e, it, l, hq, hf, rfl, hei, ne, ni, he, hit, hext, K, hl, hdone, hbody⟩ := h₁
  refine wpAny_pyIter_enum he ?_
  obtain ⟨F, ⟨news, N, hE⟩⟩ := K
  have n0e : h₀.get? e = none := by
    cases q : h₀.get? e with
    | none => rfl
    | some o => rw [F.keep _ _ q] at ne; cases ne
  have n0i : h₀.get? it = none := by
    cases q : h₀.get? it with
    | none => rfl
    | some o => rw [F.keep _ _ q] at ni; cases ni
  obtain ⟨oL, _, _, hL, _⟩ := F.ns
  have hLe : env.locals ≠ e := fun q => by rw [q, ne] at hL; cases hL
  have hLi : env.locals ≠ it := fun q => by rw [q, ni] at hL; cases hL
  have ho : ∀ p ∈ news, p.1 ≠ e ∧ p.1 ≠ it := fun p hp => ⟨fun q => (by have z := (N p hp).1; rw [q, ne] at z; cases z), fun q => (by have z := (N p hp).1; rw [q, ni] at z; cases z)⟩
  have hEl : ∀ {h : Heap}, News h₀ env.locals h news → Ext hf h := fun n => hE _ fun p hp => (n p hp).1
  refine codeAny_forLoop_any
    (fun k s' => ∃ h' tk m' i old, s' = { s₁ with heap := h', toks := tk } ∧ IsEnum h' e it ((i : Nat) : Int) old ∧ h'.IsListIter it l i ∧ Fr h₀ env.locals h' m' ∧ News h₀ env.locals h' news ∧ J i m' ∧ i ≤ items.size ∧ k = items.size + 1 - i) ?_ (items.size + 1)
    ⟨s₁.heap, s₁.toks, m, 0, .none, rfl, he, hit, F.keeps hext, N.grown hext, h0, Nat.zero_le _, rfl⟩
  rintro k s' ⟨H, tk, m', i, old, rfl, he', hit', F', N', hJ, hi, rfl⟩
  have hl' := IsList.at' hl (hEl N')
  cases hv : items[i]? with
  | none =>
    have hsz : i = items.size := Nat.le_antisymm hi (by simpa using hv)
    refine wpAny_pyNext_enum_end hh he' hit' hl' hv fun h₁ he₁ => wpAny_execs_nil ?_
    obtain ⟨F₁, N₁⟩ := chg2 F' N' n0e n0i hLe hLi ho fun b o _ hbi x => he₁ b o hbi x
    exact hdone h₁ tk m' ⟨F₁, news, N₁, hE⟩ (hsz ▸ hJ)
  | some v =>
    have hlt : i < items.size := (Array.getElem?_eq_some_iff.mp hv).1
    have heH : @LT.lt Nat _ e H.objs.size := Heap.lt_size he'
    have hiH : @LT.lt Nat _ it H.objs.size := by obtain ⟨oi, hoi, _⟩ := id hit'; exact Heap.lt_size hoi
    refine wpAny_pyNext_enum_item he' hit' hl' hv hei fun h₁ heo hit₁ ht₁ hz₁ hk₁ => ?_
    refine wpAny_letOwnedTupleGo_enum heo fun h₂ he₂ hs₂ => ?_
    replace hs₂ : Heap.SameBut e h₁ h₂ := hs₂
    have ht₂ : h₂.IsTuple H.objs.size #[.int i tk, v] := ⟨_, (hs₂.2 _ (Nat.ne_of_gt heH)).trans ht₁, rfl, _, rfl⟩
    have hz₂ : h₂.objs.size = H.objs.size + 1 := hs₂.1.trans hz₁
    refine wpAny_assign_Tuple hh ht₂ rfl rfl fun h₃ hx₃ => ?_
    replace hx₃ : Heap.ExtBut h₂.objs.size h₂ h₃ := hx₃
    have old₃ : ∀ b o, @LT.lt Nat _ b H.objs.size → h₂.get? b = some o → h₃.get? b = some o := fun b o hb x => hx₃ b o (by rw [hz₂]; exact Nat.ne_of_lt (Nat.lt_succ_of_lt hb)) x
    obtain ⟨F₃, N₃⟩ := chg2 F' N' n0e n0i hLe hLi ho (h' := h₃) fun b o hbe hbi x => old₃ b o (Heap.lt_size x) (hs₂.extBut b o hbe (hk₁ b o hbe hbi x))
    have he₃ : IsEnum h₃ e it ((i : Int) + 1) v := old₃ _ _ heH he₂
    have hit₃ : h₃.IsListIter it l (i + 1) := (hit₁.extBut hs₂.extBut (Ne.symm hei)).at fun o x => old₃ _ o hiH x
    obtain ⟨oi, hoi, _⟩ := id hit₃
    have N₃' : News h₀ env.locals h₃ ((e, { cls := .type "enumerate", data := .fields #[.none, .bool false, .ref it, rawInt ((i : Int) + 1), .none, v] }) :: (it, oi) :: news) := by
      intro p hp
      rcases List.mem_cons.mp hp with rfl | hp
      · exact ⟨he₃, Ne.symm hLe, n0e⟩
      · rcases List.mem_cons.mp hp with rfl | hp
        · exact ⟨hoi, Ne.symm hLi, n0i⟩
        · exact N₃ p hp
    show wpAny _ A (do holding [v] (assign (.Name xi pi) env (.int i tk)); holding [] (assign (.Name xv' pv) env v); pure ()) _ _ _
    refine wpAny_bind (wpAny_holding (wpAny_assign_Name (wpAny_storeName_local hxi F₃.ns (fun h₄ hn₄ hs₄ => ?_) hp')))
    have F₄ := F₃.set hn₄ hs₄
    have N₄ := N₃'.set hs₄
    refine wpAny_bind (wpAny_holding (wpAny_assign_Name (wpAny_storeName_local hxv F₄.ns (fun h₅ hn₅ hs₅ => wpAny_pure ?_) hp')))
    have F₅ := F₄.set hn₅ hs₅
    have N₅ := N₄.set hs₅
    refine hbody i v tk m' h₅ _ _ _ _ hv hJ F₅ N₅ (fun h H => hE h fun p hp => H p (List.mem_cons_of_mem _ (List.mem_cons_of_mem _ hp))) fun h₆ tk₆ m₂ F₆ N₆ hJ₆ => ?_
    refine ⟨items.size + 1 - (i + 1), by omega, h₆, tk₆, m₂, i + 1, v, rfl, ?_, ?_, F₆, fun p hp => N₆ p (List.mem_cons_of_mem _ (List.mem_cons_of_mem _ hp)), hJ₆, hlt, rfl⟩
    · have : ((i + 1 : Nat) : Int) = (i : Int) + 1 := by push_cast; rfl
      rw [this]; exact (N₆ _ List.mem_cons_self).1
    · exact hit₃.at fun o x => by rw [hoi] at x; cases x; exact (N₆ _ (List.mem_cons_of_mem _ List.mem_cons_self)).1
end

def ampN (k : Nat) : List Nat := (List.replicate k [97, 109, 112, 59]).flatten
def markN (k : Nat) : List Nat := [38] ++ ampN k
/-- what the k-th hand has written -/
def textK (n0 n1 n2 : Nat) (e l : List Nat) (k : Nat) : List Nat := bytes4 n0 ++ markN k ++ e ++ bytes4 n1 ++ markN k ++ l ++ bytes4 n2
def Same3 (m m' : Str → Option Value) : Prop := ∀ z, z ≠ Str.ofString "turn" → z ≠ Str.ofString "writing" → z ≠ Str.ofString "mark" → m' z = m z
section
variable {prog : Program} {w : World} {mean : ExcName → Option Value} {mg mb : Str → Option Value} {A : Around} {E : Value → Shared → Prop} {s : Shared} {h₀ hp hf : Heap} {tk : Nat} {L f : Addr} {cd : Value} {Q : Flow → Shared → Prop} {m : Str → Option Value}
theorem mul_amp {i : Nat} {t u : Tok} {x : Str} {Q : Value → Shared → Prop} (hx : x = strL [97, 109, 112, 59]) (hi : i < 3) (h : ∀ t' tk, Q (.str (strL (ampN i)) t') { s with heap := hp, toks := tk }) :
    wpAny (model prog w) A (binaryOp .Mult (.str x t) (vn i u)) Q E { s with heap := hp, toks := tk } := by
  subst hx
  have e : i = 0 ∨ i = 1 ∨ i = 2 := by omega
  refine SB.mul (s := { s with heap := hp, toks := tk }) (mulOk_of 4 2 (by decide) (by omega) (by omega) (by decide) (by decide)) fun t' k => ?_
  have q : Txt.mul (strL [97, 109, 112, 59]) (i : Int) = strL (ampN i) := by
    rcases e with rfl | rfl | rfl <;> decide +kernel
  rw [q]; exact h t' k
set_option maxHeartbeats 2000000 in
theorem st12 {B : Addr} {bs : List Value} {n0 n1 n2 : Nat} {e l : List Nat} {v1 v2 : Value} {p1 p2 : Str × Str} {t0 t1 t2 : Tok} (g : G w mean mg mb h₀) (hh : A.handled = none) (K : Kp h₀ L hf hp m)
    (hmb : m (Str.ofString "bare") = some (.ref B)) (hB : hf.IsList B bs.toArray) (hbs : BaresAre bs [n0, n1, n2])
    (hm1 : m (Str.ofString "early") = some v1) (h1 : PairAt hf v1 p1) (hc : p1.2 = strL e) (hm2 : m (Str.ofString "late") = some v2) (h2 : PairAt hf v2 p2) (hd : p2.2 = strL l) (hel : e.length ≤ 10) (hll : l.length ≤ 10)
    (hf1 : m (Str.ofString "first") = some (.str (strL (textK n0 n1 n2 e l 0)) t0)) (hf2 : m (Str.ofString "second") = some (.str (strL (textK n0 n1 n2 e l 1)) t1)) (hf3 : m (Str.ofString "third") = some (.str (strL (textK n0 n1 n2 e l 2)) t2))
    (k : ∀ h' tk' hf' m', Ext hf hf' → Same3 m m' → Kp h₀ L hf' h' m' → Q .next { s with heap := h', toks := tk' }) :
    wpAny (model prog w) A (exec (ls 11) (lawEnv L f cd)) Q E { s with heap := hp, toks := tk } := by
  have X := g.X
  obtain ⟨F, ⟨news, N, hE⟩⟩ := K
  obtain ⟨a1, tt1, u1, rfl, ha1⟩ := h1
  obtain ⟨a2, tt2, u2, rfl, ha2⟩ := h2
  rw [hc] at ha1
  rw [hd] at ha2
  obtain ⟨x0, g0, tb0, rfl⟩ := Paired.at hbs (i := 0) rfl
  obtain ⟨x1, g1, tb1, rfl⟩ := Paired.at hbs (i := 1) rfl
  obtain ⟨x2, g2, tb2, rfl⟩ := Paired.at hbs (i := 2) rfl
  have l4 : ∀ n, (bytes4 n).length = 4 := fun n => by simp [bytes4]
  refine for_enum (h₀ := h₀) (L := L) (m := m) rfl hh rfl rfl rfl (fun _ m' => Same3 m m') #[.str (strL (textK n0 n1 n2 e l 0)) t0, .str (strL (textK n0 n1 n2 e l 1)) t1, .str (strL (textK n0 n1 n2 e l 2)) t2] (fun _ _ _ _ => rfl) ?_ rfl
  refine Call_ ?_
  refine e_boot (g.keeps F.keep) (by k_is) (by boot_by_name) (by decide) ?_
  iterate 2 walk1
  refine List_ ?_
  refine spliced_cons ?_
  refine e_loc F hf1 ?_
  refine spliced_cons ?_
  refine e_loc F hf2 ?_
  refine spliced_cons ?_
  refine e_loc F hf3 ?_
  refine spliced_nil ?_
  refine newList_N (s := { s with heap := hp, toks := _ }) F N (fun hq F1 N1 => ?_) (Nat.le_of_ble_eq_true rfl)
  obtain ⟨hf', q1, q2, q3⟩ := Kp.grow (tl := [_]) F1 N1 hE
  have hl := q2 _ List.mem_cons_self
  refine spliced_nil ?_
  refine call_enumerate_list ⟨_, (N1 _ List.mem_cons_self).1, rfl, _, rfl⟩ fun h' he hit hsz hk => ?_
  have nn : ∀ a, @LE.le Nat _ hq.objs.size a → hq.get? a = none := fun a ha => Heap.get?_none_of_le ha
  refine ⟨_, _, _, hq, hf', rfl, Nat.succ_ne_self _, nn _ (Nat.le_succ _), nn _ (Nat.le_refl _), he, hit, hk, q3, ⟨_, hl, rfl, _, rfl⟩, fun h'' tk'' m' K' hJ => k h'' tk'' hf' m' q1 hJ K', ?_⟩
  clear he hit hsz hk
  intro i v tkv m₁ h tk own Q' E' hv hJ F2 N2 eo done
  have e0 := eo h fun p hp => (N2 p hp).1
  dsimp only at done ⊢
  have hB' : h.IsList B bs.toArray := IsList.at' (IsList.at' hB q1) e0
  have ha1' := IsTuple.up (IsTuple.up ha1 q1) e0
  have ha2' := IsTuple.up (IsTuple.up ha2 q1) e0
  have hi : i < 3 := by
    have := (Array.getElem?_eq_some_iff.mp hv).1
    simpa using this
  have hvi : ∃ t, v = .str (strL (textK n0 n1 n2 e l i)) t := by
    have : i = 0 ∨ i = 1 ∨ i = 2 := by omega
    rcases this with rfl | rfl | rfl <;> (simp at hv; exact ⟨_, hv.symm⟩)
  obtain ⟨tv, rfl⟩ := hvi
  have al : (ampN i).length ≤ 8 := by
    have : i = 0 ∨ i = 1 ∨ i = 2 := by omega
    rcases this with rfl | rfl | rfl <;> decide
  have ml : (markN i).length ≤ 9 := by simp only [markN, List.length_append, List.length_cons, List.length_nil]; omega
  refine wpAny_execs_cons ?_
  refine wpAny_Assign_Name ?_ rfl
  refine wpAny_BinOp ?_
  refine Constant_str ?_
  refine wpAny_BinOp ?_
  refine Constant_str ?_
  refine e_loc (v := vn i tkv) F2 (by rfl) ?_
  refine mul_amp (by decide +kernel) hi fun t5 tk5 => ?_
  rw [show (Str.ofString "&") = strL [38] by decide +kernel]
  refine add_cs (by simp; omega) fun t6 tk6 => ?_
  refine e_st F2 N2 fun h3 tk3 F3 N3 => ?_
  have e3 := eo h3 fun p hp => (N3 p hp).1
  have ga : ∀ z w, z ≠ Str.ofString "turn" → z ≠ Str.ofString "writing" → z ≠ Str.ofString "mark" → m z = some w → (fun y => if y = Str.ofString "mark" then some (.str (strL ([38] ++ ampN i)) t6) else (if y = Str.ofString "writing" then some (.str (strL (textK n0 n1 n2 e l i)) tv) else if y = Str.ofString "turn" then some (vn i tkv) else m₁ y)) z = some w := by
    intro z w q1 q2 q3 q4
    show (if z = _ then _ else _) = _
    rw [if_neg q3, if_neg q2, if_neg q1, hJ z q1 q2 q3, q4]
  have gm := ga (Str.ofString "bare") _ (by decide) (by decide) (by decide) hmb
  have ge := ga (Str.ofString "early") _ (by decide) (by decide) (by decide) hm1
  have gl := ga (Str.ofString "late") _ (by decide) (by decide) (by decide) hm2
  refine wpAny_execs_cons ?_
  refine wpAny_If ?_
  refine wpAny_isTrue_Compare1 ?_
  refine e_loc (v := .str (strL (textK n0 n1 n2 e l i)) tv) F3 (by rfl) ?_
  refine wpAny_BinOp ?_
  refine wpAny_BinOp ?_
  refine wpAny_BinOp ?_
  refine wpAny_BinOp ?_
  refine wpAny_BinOp ?_
  refine wpAny_BinOp ?_
  refine sub_list rfl F3 gm (IsList.at' (IsList.at' hB q1) e3) g0 (by decide) fun _ => ?_
  refine e_loc (v := .str (strL (markN i)) t6) F3 (by rfl) ?_
  refine add_cs (by simp only [List.length_append, l4]; omega) fun _ _ => ?_
  refine sub_tup (ys := [_, _]) rfl F3 ge (IsTuple.up (IsTuple.up ha1 q1) e3) rfl (by decide) fun _ => ?_
  refine add_cs (by simp only [List.length_append, l4]; omega) fun _ _ => ?_
  refine sub_list rfl F3 gm (IsList.at' (IsList.at' hB q1) e3) g1 (by decide) fun _ => ?_
  refine add_cs (by simp only [List.length_append, l4]; omega) fun _ _ => ?_
  refine e_loc (v := .str (strL (markN i)) t6) F3 (by rfl) ?_
  refine add_cs (by simp only [List.length_append, l4]; omega) fun _ _ => ?_
  refine sub_tup (ys := [_, _]) rfl F3 gl (IsTuple.up (IsTuple.up ha2 q1) e3) rfl (by decide) fun _ => ?_
  refine add_cs (by simp only [List.length_append, l4]; omega) fun _ _ => ?_
  refine sub_list rfl F3 gm (IsList.at' (IsList.at' hB q1) e3) g2 (by decide) fun _ => ?_
  refine add_cs (by simp only [List.length_append, l4]; omega) fun _ _ => ?_
  refine ne_str ?_
  refine wpAny_truthy_bool ?_
  have eqq : (strL (textK n0 n1 n2 e l i) != strL (bytes4 n0 ++ markN i ++ e ++ bytes4 n1 ++ markN i ++ l ++ bytes4 n2)) = false := by
    show (strL (textK n0 n1 n2 e l i) != strL (textK n0 n1 n2 e l i)) = false
    exact bne_self_eq_false _
  rw [eqq, if_neg Bool.false_ne_true]
  refine wpAny_execs_nil ?_
  refine wpAny_execs_nil ?_
  refine done h3 _ _ F3 N3 fun z q1 q2 q3 => ?_
  show (if z = _ then _ else _) = _
  rw [if_neg q3, if_neg q2, if_neg q1, hJ z q1 q2 q3]
end
section
variable {prog : Program} {w : World} {mean : ExcName → Option Value} {mg mb : Str → Option Value} {A : Around} {E : Value → Shared → Prop} {s : Shared} {h₀ hp hf : Heap} {tk : Nat} {L f : Addr} {cd : Value} {Q : Flow → Shared → Prop} {m : Str → Option Value}
theorem NatsAt.of {f : Nat → Nat} {ys : List Value} {n : Nat} (hl : ys.length = n) (h : ∀ (i : Nat) y, ys[i]? = some y → ∃ t, y = vn (f i) t) : NatsAt ys ((List.range n).map f) := paired_fn (F := fun v n => ∃ t, v = vn n t) f hl h
set_option maxHeartbeats 2000000 in
theorem st13 {c0 c1 c2 : List Nat} {t0 t1 t2 : Tok} (g : G w mean mg mb h₀) (hh : A.handled = none) (hroom : A.depth + 1 < recursionLimit) (K : Kp h₀ L hf hp m)
    (hf1 : m (Str.ofString "first") = some (.str (strL c0) t0)) (hf2 : m (Str.ofString "second") = some (.str (strL c1) t1)) (hf3 : m (Str.ofString "third") = some (.str (strL c2) t2))
    (b0 : ∀ c ∈ c0, c < 2 ^ 32) (b1 : ∀ c ∈ c1, c < 2 ^ 32) (b2 : ∀ c ∈ c2, c < 2 ^ 32)
    (k : ∀ h' tk' hf' D ys, Ext hf hf' → hf'.IsList D (List.toArray ys) → NatsAt ys [sumR c0 ^^^ 4294967295, sumR c1 ^^^ 4294967295, sumR c2 ^^^ 4294967295] → Kp h₀ L hf' h' (fun z => if z = Str.ofString "told" then some (.ref D) else m z) → Q .next { s with heap := h', toks := tk' }) :
    wpAny (model prog w) A (exec (ls 12) (lawEnv L f cd)) Q E { s with heap := hp, toks := tk } := by
  obtain ⟨F, ⟨news, N, hE⟩⟩ := K
  have X := g.X
  have T := g.T
  let cc : Nat → List Nat := fun i => match i with | 0 => c0 | 1 => c1 | _ => c2
  refine comp_assign (h₀ := h₀) (L := L) (m := m) (news := news) hh rfl ?_ (by with_unfolding_all rfl) rfl (by decide) rfl (by decide) rfl rfl rfl (fun _ => rfl)
  refine List_ ?_
  refine spliced_cons ?_
  refine e_loc F hf1 ?_
  refine spliced_cons ?_
  refine e_loc F hf2 ?_
  refine spliced_cons ?_
  refine e_loc F hf3 ?_
  refine spliced_nil ?_
  refine wpAny_newObj_type ?_ (Nat.le_of_ble_eq_true rfl)
  have ext1 : Ext hp (hp.push { cls := .type "list", dict := none, data := .seq [.str (strL c0) t0, .str (strL c1) t1, .str (strL c2) t2].toArray }) := fun b o e => Heap.get?_push_of_some _ e
  refine SrcOk.vals (fun i y => ∃ t, y = vn (sumR (cc i) ^^^ 4294967295) t) (iterOf_list (ax := hp.objs.size) (its := [.str (strL c0) t0, .str (strL c1) t1, .str (strL c2) t2].toArray) ⟨_, Heap.get?_push_size _ rfl, rfl, _, rfl⟩) (F.keeps ext1) (N.grown ext1) (Nat.le_of_ble_eq_true rfl) ?_ ?_
  · intro i v C m₂ h tk E' hi hv ext hC hn hx F N
    have hcc : ∃ t, v = .str (strL (cc i)) t ∧ ∀ c ∈ (strL (cc i)).cps.toList, c < 2 ^ 32 := by
      have hi3 : i < 3 := hi
      have : i = 0 ∨ i = 1 ∨ i = 2 := by omega
      rcases this with rfl | rfl | rfl <;> simp at hv
      · exact ⟨_, hv.symm, b0⟩
      · exact ⟨_, hv.symm, b1⟩
      · exact ⟨_, hv.symm, b2⟩
    obtain ⟨t, rfl, hb⟩ := hcc
    refine Call_ ?_
    refine c_glob (g.keeps F.keep) (by k_is) ?_
    refine callWith_K (X.keeps F.keep) (by k_is) ?_
    refine spliced_cons ?_
    refine c_own hn hx ?_
    refine spliced_nil ?_
    refine ⟨X.keeps F.keep, ?_⟩
    refine law_sum (g.keeps F.keep) hroom (by exact hh) hb ?_
    intro t3 h3 tk3 ext3
    exact ⟨h3, tk3, rfl, ext3, t3, rfl⟩
  · intro ys led hlen hys D h tk F N ap
    obtain ⟨hf', q1, q2, q3⟩ := Kp.grow (tl := (D, lstO ys) :: led) F N hE
    exact k h _ hf' D ys q1 ⟨_, q2 (D, lstO ys) (by simp), rfl, _, rfl⟩ (NatsAt.of (f := fun i => sumR (cc i) ^^^ 4294967295) (n := 3) (by simpa using hlen) hys) q3
end
theorem turnedN_lt (n : Nat) : turnedN n < 2 ^ 32 := by
  have key : ∀ k t, t < 2 ^ 0 ∨ True → (List.range k).foldl (fun t place => 2 * t + (n >>> place &&& 1)) 0 < 2 ^ k := by
    intro k
    induction k with
    | zero => intro _ _; exact Nat.one_pos
    | succ k ih =>
      intro t _
      have := ih 0 (Or.inr trivial)
      rw [List.range_succ, List.foldl_append, List.foldl_cons, List.foldl_nil, Nat.pow_succ]
      have h1 : n >>> k &&& 1 ≤ 1 := Nat.and_le_right
      omega
  exact key 32 0 (Or.inr trivial)
theorem downStep_lt {p : Nat} (h : p < 2 ^ 32) : downStep p < 2 ^ 32 := by
  unfold downStep
  split
  · exact shr_lt h 1
  · have : p ^^^ 4374732215 < 2 ^ 33 := Nat.xor_lt_two_pow (Nat.lt_of_lt_of_le h (by decide)) (by decide)
    rw [Nat.shiftRight_eq_div_pow]; omega
theorem downN_lt {p : Nat} (h : p < 2 ^ 32) (k : Nat) : downN p k < 2 ^ 32 := foldl_inv (P := fun p => p < 2 ^ 32) (fun _ _ h => downStep_lt h) h
theorem partedN_lt {p : Nat} (h : p < 2 ^ 33) : partedN p < 2 ^ 33 := foldl_inv (P := fun p => p < 2 ^ 33) (fun p _ _ => partStep_lt p) h
theorem alongStep_lt {c p place : Nat} (h : p < 2 ^ 32) : alongStep c p place < 2 ^ 32 := by
  unfold alongStep
  have hb : (c >>> place &&& 1) <<< 31 < 2 ^ 32 := by
    have : c >>> place &&& 1 ≤ 1 := Nat.and_le_right
    rw [Nat.shiftLeft_eq]; omega
  have hx := Nat.xor_lt_two_pow h hb
  generalize p ^^^ (c >>> place &&& 1) <<< 31 = q at hx ⊢
  unfold upStep
  split
  · rename_i h0
    rw [Nat.shiftRight_eq_div_pow] at h0
    exact (Nat.div_eq_zero_iff_lt (by decide)).mp h0
  · rename_i h0
    have hq : 2 * q < 2 ^ 33 := by omega
    have hz : 2 * q ^^^ 4374732215 < 2 ^ 33 := Nat.xor_lt_two_pow hq (by decide)
    have hq32 : (2 * q).testBit 32 = true := by
      rw [Nat.testBit_eq_decide_div_mod_eq, decide_eq_true_eq]
      rw [Nat.shiftRight_eq_div_pow] at h0
      omega
    have hz32 : (2 * q ^^^ 4374732215).testBit 32 = false := by
      rw [Nat.testBit_xor, hq32]; decide
    rw [Nat.testBit_eq_decide_div_mod_eq, decide_eq_false_iff_not] at hz32
    omega
theorem alongN_lt {p : Nat} (h : p < 2 ^ 32) (cs : List Nat) : alongN p cs < 2 ^ 32 := foldl_inv (P := fun p => p < 2 ^ 32) (fun _ _ h => foldl_inv (P := fun p => p < 2 ^ 32) (fun _ _ h => alongStep_lt h) h) h

/-- an expression of the law's own block that comes to a natural -/
def Ev (prog : Program) (w : World) (A : Around) (s : Shared) (h₀ hf : Heap) (L f : Addr) (cd : Value) (m : Str → Option Value) (e : Expr) (n : Nat) : Prop :=
  ∀ hp tk (Q E : Value → Shared → Prop), Kp h₀ L hf hp m → (∀ t h' tk', Ext hp h' → Q (vn n t) { s with heap := h', toks := tk' }) → wpAny (model prog w) A (eval e (lawEnv L f cd)) Q E { s with heap := hp, toks := tk }
/-- the same for a text -/
def EvS (prog : Program) (w : World) (A : Around) (s : Shared) (h₀ hf : Heap) (L f : Addr) (cd : Value) (m : Str → Option Value) (e : Expr) (cs : List Nat) : Prop :=
  ∀ hp tk (Q E : Value → Shared → Prop), Kp h₀ L hf hp m → (∀ t tk', Q (.str (strL cs) t) { s with heap := hp, toks := tk' }) → wpAny (model prog w) A (eval e (lawEnv L f cd)) Q E { s with heap := hp, toks := tk }
section
variable {prog : Program} {w : World} {mean : ExcName → Option Value} {mg mb : Str → Option Value} {A : Around} {s : Shared} {h₀ hf : Heap} {L f : Addr} {cd : Value} {m : Str → Option Value} {e e1 e2 : Expr} {a b : Nat} {p p1 p2 p3 : Pos} {kk : Nat}
theorem Ev.name {x : Str} {t : Tok} (hm : m x = some (vn a t)) (hk : (lawEnv L f cd).kindOf x = some .local := by rfl) (hd : (x == ("__debug__" : Str)) = false := by decide) : Ev prog w A s h₀ hf L f cd m (.Name x p) a :=
  fun hp _ _ _ K q => e_loc K.F hm (q _ hp _ fun _ _ e => e) rfl hk hd
theorem Ev.con {z : Int} (hz : z = (a : Int)) : Ev prog w A s h₀ hf L f cd m (.Constant (.int z) kk p) a :=
  fun hp _ _ _ _ q => const_n hz fun t _ => q t hp _ fun _ _ e => e
theorem Ev.sub {x : Str} {z : Int} {i : Nat} {D : Addr} {ys : List Value} {t : Tok} (hm : m x = some (.ref D)) (hl : hf.IsList D ys.toArray) (hy : ys[i]? = some (vn a t)) (hz : z = (i : Int)) (hi : i < 2 ^ 62)
    (hk : (lawEnv L f cd).kindOf x = some .local := by rfl) (hd : (x == ("__debug__" : Str)) = false := by decide) : Ev prog w A s h₀ hf L f cd m (.Subscript (.Name x p1) (.Constant (.int z) kk p2) p3) a :=
  fun hp _ _ _ K q => sub_list hz K.F hm (IsList.at' hl K.e) hy hi (fun _ => q _ hp _ fun _ _ e => e) hk hd
theorem Ev.xor (h1 : Ev prog w A s h₀ hf L f cd m e1 a) (h2 : Ev prog w A s h₀ hf L f cd m e2 b) : Ev prog w A s h₀ hf L f cd m (.BinOp e1 .BitXor e2 p) (a ^^^ b) :=
  fun _ _ _ _ K q => wpAny_BinOp (h1 _ _ _ _ K fun _ _ _ x1 => h2 _ _ _ _ (K.keeps x1) fun _ h' _ x2 => xor_n fun t _ => q t h' _ (ext_trans x1 x2))
theorem Ev.add (h1 : Ev prog w A s h₀ hf L f cd m e1 a) (h2 : Ev prog w A s h₀ hf L f cd m e2 b) : Ev prog w A s h₀ hf L f cd m (.BinOp e1 .Add e2 p) (a + b) :=
  fun _ _ _ _ K q => wpAny_BinOp (h1 _ _ _ _ K fun _ _ _ x1 => h2 _ _ _ _ (K.keeps x1) fun _ h' _ x2 => add_n fun t _ => q t h' _ (ext_trans x1 x2))
theorem Ev.mul (ha : a < 2 ^ 64) (h1 : Ev prog w A s h₀ hf L f cd m e1 a) (h2 : Ev prog w A s h₀ hf L f cd m e2 b) : Ev prog w A s h₀ hf L f cd m (.BinOp e1 .Mult e2 p) (a * b) :=
  fun _ _ _ _ K q => wpAny_BinOp (h1 _ _ _ _ K fun _ _ _ x1 => h2 _ _ _ _ (K.keeps x1) fun _ h' _ x2 => mul_n ha fun t _ => q t h' _ (ext_trans x1 x2))
theorem EvS.con {x : Str} {cs : List Nat} (hx : x = strL cs) : EvS prog w A s h₀ hf L f cd m (.Constant (.str x) kk p) cs :=
  fun _ _ _ _ _ q => Constant_str (by subst hx; exact q _ _)
theorem EvS.snd {x : Str} {v : Value} {pr : Str × Str} {cs : List Nat} {z : Int} (hm : m x = some v) (hv : PairAt hf v pr) (hc : pr.2 = strL cs) (hz : z = ((1 : Nat) : Int))
    (hk : (lawEnv L f cd).kindOf x = some .local := by rfl) (hd : (x == ("__debug__" : Str)) = false := by decide) : EvS prog w A s h₀ hf L f cd m (.Subscript (.Name x p1) (.Constant (.int z) kk p2) p3) cs := by
  intro hp tk Q E K q
  obtain ⟨a, t, u, rfl, ha⟩ := hv
  rw [hc] at ha
  exact sub_tup (ys := [_, _]) hz K.F hm (IsTuple.up ha K.e) rfl (by decide) (fun _ => q _ _) hk hd
/-- one argument, two arguments -/
theorem Ev.call1 {x : Str} {fa : Addr} {n : Nat} (g : G w mean mg mb h₀) (hx : nsIn (hd.heap_39 w.params) mainGlobals x = some (some (.ref fa))) (hkeep : keepIn (hd.heap_39 w.params) (.ref fa) = true)
    (C : ∀ hp tk t (Q E : Value → Shared → Prop), Ext h₀ hp → (∀ t h' tk', Ext hp h' → Q (vn n t) { s with heap := h', toks := tk' }) → wpAny (model prog w) A (call (.ref fa) [vn a t]) Q E { s with heap := hp, toks := tk })
    (h1 : Ev prog w A s h₀ hf L f cd m e1 a)
    (hs : starEach [e1] (lawEnv L f cd) = [(false, eval e1 (lawEnv L f cd))]) (hk : lawScope.kind = .function := by rfl) (hxk : (lawEnv L f cd).kindOf x = some .globalImplicit := by rfl) (hd' : (x == ("__debug__" : Str)) = false := by decide) :
    Ev prog w A s h₀ hf L f cd m (.Call (.Name x p1) [e1] [] p2) n := by
  intro hp tk Q E K q
  have X := g.X
  refine Call_ ?_
  refine e_glob (g.keeps K.F.keep) hx ?_ hk hxk hd'
  refine callWith_K (X.keeps K.F.keep) hkeep ?_ hs rfl
  rw [hs]
  refine spliced_cons ?_
  refine h1 _ _ _ _ K fun t h' tk' x1 => ?_
  refine spliced_nil ?_
  refine ⟨X.keeps (K.keeps x1).F.keep, ?_⟩
  exact C _ _ _ _ _ (K.keeps x1).F.keep fun t2 h2 tk2 x2 => q t2 h2 tk2 (ext_trans x1 x2)
theorem Ev.call2 {x : Str} {fa : Addr} {n : Nat} (g : G w mean mg mb h₀) (hx : nsIn (hd.heap_39 w.params) mainGlobals x = some (some (.ref fa))) (hkeep : keepIn (hd.heap_39 w.params) (.ref fa) = true)
    (C : ∀ hp tk t u (Q E : Value → Shared → Prop), Ext h₀ hp → (∀ t h' tk', Ext hp h' → Q (vn n t) { s with heap := h', toks := tk' }) → wpAny (model prog w) A (call (.ref fa) [vn a t, vn b u]) Q E { s with heap := hp, toks := tk })
    (h1 : Ev prog w A s h₀ hf L f cd m e1 a) (h2 : Ev prog w A s h₀ hf L f cd m e2 b)
    (hs : starEach [e1, e2] (lawEnv L f cd) = [(false, eval e1 (lawEnv L f cd)), (false, eval e2 (lawEnv L f cd))]) (hs2 : starEach [e2] (lawEnv L f cd) = [(false, eval e2 (lawEnv L f cd))])
    (hk : lawScope.kind = .function := by rfl) (hxk : (lawEnv L f cd).kindOf x = some .globalImplicit := by rfl) (hd' : (x == ("__debug__" : Str)) = false := by decide) :
    Ev prog w A s h₀ hf L f cd m (.Call (.Name x p1) [e1, e2] [] p2) n := by
  intro hp tk Q E K q
  have X := g.X
  refine Call_ ?_
  refine e_glob (g.keeps K.F.keep) hx ?_ hk hxk hd'
  refine callWith_K (X.keeps K.F.keep) hkeep ?_ (by rw [hs, hs2]) (by rw [hs2]; rfl)
  rw [hs]
  refine spliced_cons ?_
  refine h1 _ _ _ _ K fun t h' tk' x1 => ?_
  refine spliced_cons ?_
  refine h2 _ _ _ _ (K.keeps x1) fun t2 h2 tk2 x2 => ?_
  refine spliced_nil ?_
  have x3 := ext_trans x1 x2
  refine ⟨X.keeps (K.keeps x3).F.keep, ?_⟩
  exact C _ _ _ _ _ _ (K.keeps x3).F.keep fun t2 h2 tk2 x2 => q t2 h2 tk2 (ext_trans x3 x2)
theorem Ev.callS {x : Str} {fa : Addr} {n : Nat} {cs : List Nat} (g : G w mean mg mb h₀) (hx : nsIn (hd.heap_39 w.params) mainGlobals x = some (some (.ref fa))) (hkeep : keepIn (hd.heap_39 w.params) (.ref fa) = true)
    (C : ∀ hp tk t u (Q E : Value → Shared → Prop), Ext h₀ hp → (∀ t h' tk', Ext hp h' → Q (vn n t) { s with heap := h', toks := tk' }) → wpAny (model prog w) A (call (.ref fa) [vn a t, .str (strL cs) u]) Q E { s with heap := hp, toks := tk })
    (h1 : Ev prog w A s h₀ hf L f cd m e1 a) (h2 : EvS prog w A s h₀ hf L f cd m e2 cs)
    (hs : starEach [e1, e2] (lawEnv L f cd) = [(false, eval e1 (lawEnv L f cd)), (false, eval e2 (lawEnv L f cd))]) (hs2 : starEach [e2] (lawEnv L f cd) = [(false, eval e2 (lawEnv L f cd))])
    (hk : lawScope.kind = .function := by rfl) (hxk : (lawEnv L f cd).kindOf x = some .globalImplicit := by rfl) (hd' : (x == ("__debug__" : Str)) = false := by decide) :
    Ev prog w A s h₀ hf L f cd m (.Call (.Name x p1) [e1, e2] [] p2) n := by
  intro hp tk Q E K q
  have X := g.X
  refine Call_ ?_
  refine e_glob (g.keeps K.F.keep) hx ?_ hk hxk hd'
  refine callWith_K (X.keeps K.F.keep) hkeep ?_ (by rw [hs, hs2]) (by rw [hs2]; rfl)
  rw [hs]
  refine spliced_cons ?_
  refine h1 _ _ _ _ K fun t h' tk' x1 => ?_
  refine spliced_cons ?_
  refine h2 _ _ _ _ (K.keeps x1) fun t2 tk2 => ?_
  refine spliced_nil ?_
  refine ⟨X.keeps (K.keeps x1).F.keep, ?_⟩
  exact C _ _ _ _ _ _ (K.keeps x1).F.keep fun t2 h2 tk2 x2 => q t2 h2 tk2 (ext_trans x1 x2)
theorem ev_assign {x : Str} {Q : Flow → Shared → Prop} {E : Value → Shared → Prop} {hp : Heap} {tk : Nat} (K : Kp h₀ L hf hp m) (h : Ev prog w A s h₀ hf L f cd m e a)
    (k : ∀ h' tk' t, Kp h₀ L hf h' (fun z => if z = x then some (vn a t) else m z) → Q .next { s with heap := h', toks := tk' })
    (hu : swapsWith e (some (.Name x p1)) p2.line (lawEnv L f cd) = pure false := by rfl) (hky : (lawEnv L f cd).kindOf x = some .local := by rfl) :
    wpAny (model prog w) A (exec (.Assign [.Name x p1] e p2) (lawEnv L f cd)) Q E { s with heap := hp, toks := tk } := by
  refine wpAny_Assign_Name ?_ hu
  refine h _ _ _ _ K fun t h' tk' x1 => ?_
  obtain ⟨F, news, N, hE⟩ := K.keeps x1
  exact e_st F N (fun h2 tk2 F2 N2 => k h2 tk2 t ⟨F2, news, N2, hE⟩) hky
end
theorem paired_len {α β : Type} {F : α → β → Prop} : ∀ {ys : List α} {ns : List β}, ys.length = ns.length → (∀ (i : Nat) z n, ys[i]? = some z → ns[i]? = some n → F z n) → Paired F ys ns
  | [], [], _, _ => .nil
  | _ :: _, _ :: _, e, h => .cons (h 0 _ _ rfl rfl) (paired_len (by simpa using e) fun i z n hz hn => h (i + 1) z n (by simpa using hz) (by simpa using hn))
section
variable {prog : Program} {w : World} {mean : ExcName → Option Value} {mg mb : Str → Option Value} {A : Around} {E : Value → Shared → Prop} {s : Shared} {h₀ hp hf : Heap} {tk : Nat} {L f : Addr} {cd : Value} {Q : Flow → Shared → Prop} {m : Str → Option Value}
theorem NatsAt.ints : ∀ {ys : List Value} {ns : List Nat}, NatsAt ys ns → IntsAre ys (ns.map Int.ofNat)
  | _, _, .nil => .nil
  | _, _, .cons ⟨t, e⟩ r => by subst e; exact .cons _ t (NatsAt.ints r)
set_option maxHeartbeats 2000000 in
theorem st14 {D : Addr} {ys : List Value} {ns : List Nat} (g : G w mean mg mb h₀) (hh : A.handled = none) (K : Kp h₀ L hf hp m) (hm : m (Str.ofString "told") = some (.ref D)) (hD : hf.IsList D ys.toArray) (hy : NatsAt ys ns) (hn : 0 < ns.length)
    (k : ∀ h' tk', Kp h₀ L hf h' m → Q .next { s with heap := h', toks := tk' }) :
    wpAny (model prog w) A (exec (ls 13) (lawEnv L f cd)) Q E { s with heap := hp, toks := tk } := by
  have e0 := K.e
  obtain ⟨F, ⟨news, N, hE⟩⟩ := K
  have X := g.X
  have T := g.T
  refine wpAny_If ?_
  refine wpAny_isTrue_Compare1 ?_
  refine Call_ ?_
  refine e_boot (g.keeps F.keep) (by k_is) (by boot_by_name) (by decide) ?_
  iterate 2 walk1
  refine e_loc F hm ?_
  walk1
  refine min_list_N (s := { s with heap := hp, toks := _ }) hh F N (IsList.at' hD e0) hy.ints (by simpa using hn) ?_
  intro h' M t tk' F1 N1 hM _
  obtain ⟨n, _, rfl⟩ := List.mem_map.mp hM
  refine const_n (n := 0) rfl ?_
  intro _ _
  repeat walk1
  · rename_i hlt
    exact absurd hlt (by have : (0 : Int) ≤ Int.ofNat n := Int.natCast_nonneg n; omega)
  · refine wpAny_execs_nil ?_
    exact k h' _ ⟨F1, news, N1, hE⟩
set_option maxHeartbeats 2000000 in
theorem st15 {D : Addr} {ys : List Value} {ns : List Nat} (g : G w mean mg mb h₀) (hh : A.handled = none) (hroom : A.depth + 1 < recursionLimit) (K : Kp h₀ L hf hp m) (hm : m (Str.ofString "told") = some (.ref D)) (hD : hf.IsList D ys.toArray) (hy : NatsAt ys ns) (hn : ns.length ≤ 1000)
    (k : ∀ h' tk' hf' D ys, Ext hf hf' → hf'.IsList D (List.toArray ys) → NatsAt ys (ns.map fun n => turnedN (n ^^^ 4294967295)) → Kp h₀ L hf' h' (fun z => if z = Str.ofString "sums" then some (.ref D) else m z) → Q .next { s with heap := h', toks := tk' }) :
    wpAny (model prog w) A (exec (ls 14) (lawEnv L f cd)) Q E { s with heap := hp, toks := tk } := by
  have e0 := K.e
  obtain ⟨F, ⟨news, N, hE⟩⟩ := K
  have X := g.X
  have T := g.T
  have hyl := Paired.len hy
  refine comp_assign (h₀ := h₀) (L := L) (m := m) (news := news) hh rfl ?_ (by with_unfolding_all rfl) rfl (by decide) rfl (by decide) rfl rfl rfl (fun _ => rfl)
  refine e_loc F hm ?_
  refine SrcOk.vals (fun i y => ∃ n t, ns[i]? = some n ∧ y = vn (turnedN (n ^^^ 4294967295)) t) (iterOf_list (IsList.at' hD e0)) F N (by rw [List.size_toArray, hyl]; exact Nat.le_trans hn (Nat.le_of_ble_eq_true rfl)) ?_ ?_
  · intro i v C m₂ h tk E' hi hv ext hC hn hx F N
    obtain ⟨n, hni, t, rfl⟩ := Paired.get hy (by simpa using hv)
    refine Call_ ?_
    refine c_glob (g.keeps F.keep) (by k_is) ?_
    refine callWith_K (X.keeps F.keep) (by k_is) ?_
    refine spliced_cons ?_
    refine wpAny_BinOp ?_
    refine c_own hn hx ?_
    walk1
    walk1
    refine spliced_nil ?_
    refine ⟨X.keeps F.keep, ?_⟩
    refine law_turned (g.keeps F.keep) (by omega) (by exact hh) ?_
    intro t3 h3 tk3 ext3
    exact ⟨h3, tk3, rfl, ext3, n, t3, hni, rfl⟩
  · intro ys2 led hlen hys D h tk F N ap
    obtain ⟨hf', q1, q2, q3⟩ := Kp.grow (tl := (D, lstO ys2) :: led) F N hE
    refine k h _ hf' D ys2 q1 ⟨_, q2 (D, lstO ys2) (by simp), rfl, _, rfl⟩ (paired_len (by rw [hlen, List.length_map, ← hyl]; simp) fun i z n e hn => ?_) q3
    obtain ⟨n', t, h1, rfl⟩ := hys i z e
    rw [List.getElem?_map, h1] at hn
    cases hn
    exact ⟨t, rfl⟩
end
section
variable {prog : Program} {w : World} {mean : ExcName → Option Value} {mg mb : Str → Option Value} {A : Around} {E : Value → Shared → Prop} {s : Shared} {h₀ hp hf : Heap} {tk : Nat} {L f : Addr} {cd : Value} {m : Str → Option Value} {e e1 e2 : Expr} {a b : Nat} {p p1 p2 p3 : Pos}
theorem ev_down (g : G w mean mg mb h₀) (hroom : A.depth < recursionLimit) (hh : A.handled = none) (hb : b < 1000000) (h1 : Ev prog w A s h₀ hf L f cd m e1 a) (h2 : Ev prog w A s h₀ hf L f cd m e2 b)
    (hs : starEach [e1, e2] (lawEnv L f cd) = [(false, eval e1 (lawEnv L f cd)), (false, eval e2 (lawEnv L f cd))]) (hs2 : starEach [e2] (lawEnv L f cd) = [(false, eval e2 (lawEnv L f cd))]) :
    Ev prog w A s h₀ hf L f cd m (.Call (.Name (Str.ofString "_law_down") p1) [e1, e2] [] p2) (downN a b) :=
  Ev.call2 g (fa := 105) (by k_is) (by k_is) (fun _ _ _ _ _ _ x q => law_down (g.keeps x) hroom hh hb q) h1 h2 hs hs2
theorem ev_parted (g : G w mean mg mb h₀) (hroom : A.depth < recursionLimit) (hh : A.handled = none) (ha : a < 2 ^ 33) (h1 : Ev prog w A s h₀ hf L f cd m e1 a)
    (hs : starEach [e1] (lawEnv L f cd) = [(false, eval e1 (lawEnv L f cd))]) :
    Ev prog w A s h₀ hf L f cd m (.Call (.Name (Str.ofString "_law_parted") p1) [e1] [] p2) (partedN a) :=
  Ev.call1 g (fa := 112) (by k_is) (by k_is) (fun _ _ _ _ _ x q => law_parted (g.keeps x) hroom hh ha q) h1 hs
theorem ev_along {cs : List Nat} (g : G w mean mg mb h₀) (hroom : A.depth < recursionLimit) (hh : A.handled = none) (h1 : Ev prog w A s h₀ hf L f cd m e1 a) (h2 : EvS prog w A s h₀ hf L f cd m e2 cs)
    (hs : starEach [e1, e2] (lawEnv L f cd) = [(false, eval e1 (lawEnv L f cd)), (false, eval e2 (lawEnv L f cd))]) (hs2 : starEach [e2] (lawEnv L f cd) = [(false, eval e2 (lawEnv L f cd))]) :
    Ev prog w A s h₀ hf L f cd m (.Call (.Name (Str.ofString "_law_along") p1) [e1, e2] [] p2) (alongN a cs) :=
  Ev.callS g (fa := 98) (by k_is) (by k_is) (fun _ _ _ _ _ _ x q => law_along (x := strL cs) (g.keeps x) hroom hh q) h1 h2 hs hs2
theorem ev_len {cs : List Nat} (g : G w mean mg mb h₀) (h1 : EvS prog w A s h₀ hf L f cd m e1 cs)
    (hs : starEach [e1] (lawEnv L f cd) = [(false, eval e1 (lawEnv L f cd))]) (hc : cs.length < 1000000) :
    Ev prog w A s h₀ hf L f cd m (.Call (.Name (Str.ofString "len") p1) [e1] [] p2) cs.length := by
  intro hp tk Q E K q
  have X := g.X
  have T := g.T
  refine Call_ ?_
  refine e_boot (g.keeps K.F.keep) (by k_is) (by boot_by_name) (by decide) ?_
  refine callWith_method1 ?_ hs rfl
  rw [hs]
  refine spliced_cons ?_
  refine h1 _ _ _ _ K fun t tk' => ?_
  refine spliced_nil ?_
  refine P.len_str (x := strL cs) (by show ¬ ((cs.length : Int) ≥ 2 ^ 63); omega) ?_
  exact q _ hp _ fun _ _ e => e
end
/-- what the law reckons back -/
structure Law01 where
  (S0 S1 S2 : Nat) (e l : List Nat)
namespace Law01
variable (x : Law01)
def gap : Nat := x.S0 ^^^ x.S1
def rest : Nat := partedN (x.gap ^^^ downN (x.S1 ^^^ x.S2) 32)
def one : Nat := partedN (x.gap ^^^ x.rest)
def two : Nat := partedN (partedN x.rest)
def still : Nat := partedN (alongN 0 [97, 109, 112, 59])
def begun : Nat := still ^^^ alongN 0 [38]
def behind : Nat := 32 + 8 * x.l.length
def back0 : Nat := downN (downN x.two (x.behind + 40 + 8 * x.e.length) ^^^ begun) 40 ^^^ 4294967295
def back1 : Nat := downN (downN x.one x.behind ^^^ begun) 40 ^^^ alongN still x.e
def back2 : Nat := downN (x.S0 ^^^ x.one ^^^ x.two) 32 ^^^ alongN still x.l
end Law01
section
variable {prog : Program} {w : World} {mean : ExcName → Option Value} {mg mb : Str → Option Value} {A : Around} {E : Value → Shared → Prop} {s : Shared} {h₀ hp hf : Heap} {tk : Nat} {L f : Addr} {cd : Value} {Q : Flow → Shared → Prop} {m : Str → Option Value}
set_option maxHeartbeats 4000000 in
theorem law_tail {D DS : Addr} {ys zs : List Value} {ns : List Nat} {v1 v2 : Value} {p1 p2 : Str × Str} (x : Law01) (g : G w mean mg mb h₀) (hh : A.handled = none) (hroom : A.depth + 1 < recursionLimit) (hunits : A.units + 64 < cLine) (K : Kp h₀ L hf hp m)
    (hms : m (Str.ofString "sums") = some (.ref D)) (hD : hf.IsList D ys.toArray) (hy : NatsAt ys [x.S0, x.S1, x.S2]) (b0 : x.S0 < 2 ^ 32) (b1 : x.S1 < 2 ^ 32) (b2 : x.S2 < 2 ^ 32)
    (hmz : m (Str.ofString "stretches") = some (.ref DS)) (hDS : hf.IsList DS zs.toArray) (hz : NatsAt zs ns)
    (hm1 : m (Str.ofString "early") = some v1) (hp1 : PairAt hf v1 p1) (hc : p1.2 = strL x.e) (hm2 : m (Str.ofString "late") = some v2) (hp2 : PairAt hf v2 p2) (hd : p2.2 = strL x.l) (hel : x.e.length ≤ 10) (hll : x.l.length ≤ 10)
    (k : ∀ h' tk' hf' m', Kp h₀ L hf' h' m' → Q (.ret (.bool (decide ([turnedN x.back0, turnedN x.back1, turnedN x.back2].map Int.ofNat = ns.map Int.ofNat)))) { s with heap := h', toks := tk' }) :
    wpAny (model prog w) A (execs [ls 15, ls 16, ls 17, ls 18, ls 19, ls 20, ls 21, ls 22, ls 23] (lawEnv L f cd)) Q E { s with heap := hp, toks := tk } := by
  have hr : A.depth < recursionLimit := by omega
  have bd : ∀ {a b : Nat}, a < 2 ^ 32 → b < 2 ^ 32 → a ^^^ b < 2 ^ 32 := fun h k => Nat.xor_lt_two_pow h k
  have up : ∀ {a : Nat}, a < 2 ^ 32 → a < 2 ^ 33 := fun h => Nat.lt_of_lt_of_le h (by decide)
  obtain ⟨y0, g0, t0, rfl⟩ := Paired.at hy (i := 0) rfl
  obtain ⟨y1, g1, t1, rfl⟩ := Paired.at hy (i := 1) rfl
  obtain ⟨y2, g2, t2, rfl⟩ := Paired.at hy (i := 2) rfl
  refine wpAny_execs_cons ?_
  refine ev_assign (a := x.gap) K (Ev.xor (Ev.sub hms hD g0 rfl (by decide)) (Ev.sub hms hD g1 rfl (by decide))) fun h1 tk1 t1 K => ?_
  have bg : x.gap < 2 ^ 32 := bd b0 b1
  refine wpAny_execs_cons ?_
  refine ev_assign (a := x.rest) K (ev_parted g hr hh (Nat.xor_lt_two_pow (up bg) (up (downN_lt (bd b1 b2) 32))) (Ev.xor (Ev.name (by rfl)) (ev_down g hr hh (by decide) (Ev.xor (Ev.sub (by exact hms) hD g1 rfl (by decide)) (Ev.sub (by exact hms) hD g2 rfl (by decide))) (Ev.con rfl) rfl rfl)) rfl) fun h2 tk2 t2 K => ?_
  have br : x.rest < 2 ^ 33 := partedN_lt (Nat.xor_lt_two_pow (up bg) (up (downN_lt (bd b1 b2) 32)))
  have bo : x.gap ^^^ x.rest < 2 ^ 33 := Nat.xor_lt_two_pow (up bg) br
  refine wpAny_execs_cons ?_
  refine ev_assign (a := x.one) K (ev_parted g hr hh bo (Ev.xor (Ev.name (by rfl)) (Ev.name (by rfl))) rfl) fun h3 tk3 t3 K => ?_
  refine wpAny_execs_cons ?_
  refine ev_assign (a := x.two) K (ev_parted g hr hh (partedN_lt br) (ev_parted g hr hh br (Ev.name (by rfl)) rfl) rfl) fun h4 tk4 t4 K => ?_
  refine wpAny_execs_cons ?_
  refine ev_assign (a := Law01.still) K (ev_parted g hr hh (up (alongN_lt (by decide) _)) (ev_along g hr hh (Ev.con (a := 0) rfl) (EvS.con (by decide +kernel)) rfl rfl) rfl) fun h5 tk5 t5 K => ?_
  refine wpAny_execs_cons ?_
  refine ev_assign (a := Law01.begun) K (Ev.xor (Ev.name (by rfl)) (ev_along g hr hh (Ev.con (a := 0) rfl) (EvS.con (by decide +kernel)) rfl rfl)) fun h6 tk6 t6 K => ?_
  refine wpAny_execs_cons ?_
  refine ev_assign (a := x.behind) K (Ev.add (Ev.con rfl) (Ev.mul (by decide) (Ev.con (a := 8) rfl) (ev_len g (EvS.snd (by exact hm2) hp2 hd rfl) rfl (by omega)))) fun h7 tk7 t7 K => ?_
  have bb : x.behind ≤ 112 := by show 32 + 8 * x.l.length ≤ 112; omega
  refine wpAny_execs_cons ?_
  refine wpAny_Assign_Name ?_ rfl
  refine List_ ?_
  refine spliced_cons ?_
  refine (Ev.xor (ev_down g hr hh (by decide) (Ev.xor (ev_down (b := x.behind + 40 + 8 * x.e.length) g hr hh (by omega) (Ev.name (by rfl)) (Ev.add (Ev.add (Ev.name (by rfl)) (Ev.con (a := 40) rfl)) (Ev.mul (by decide) (Ev.con (a := 8) rfl) (ev_len g (EvS.snd (by exact hm1) hp1 hc rfl) rfl (by omega)))) rfl rfl) (Ev.name (by rfl))) (Ev.con (a := 40) rfl) rfl rfl) (Ev.con (a := 4294967295) rfl)) _ _ _ _ K fun u0 h8 tk8 x0 => ?_
  refine spliced_cons ?_
  refine (Ev.xor (ev_down g hr hh (by decide) (Ev.xor (ev_down (b := x.behind) g hr hh (by omega) (Ev.name (by rfl)) (Ev.name (by rfl)) rfl rfl) (Ev.name (by rfl))) (Ev.con (a := 40) rfl) rfl rfl) (ev_along g hr hh (Ev.name (by rfl)) (EvS.snd (by exact hm1) hp1 hc rfl) rfl rfl)) _ _ _ _ (K.keeps x0) fun u1 h9 tk9 x1 => ?_
  refine spliced_cons ?_
  refine (Ev.xor (ev_down g hr hh (by decide) (Ev.xor (Ev.xor (Ev.sub (by exact hms) hD g0 rfl (by decide)) (Ev.name (by rfl))) (Ev.name (by rfl))) (Ev.con (a := 32) rfl) rfl rfl) (ev_along g hr hh (Ev.name (by rfl)) (EvS.snd (by exact hm2) hp2 hd rfl) rfl rfl)) _ _ _ _ ((K.keeps x0).keeps x1) fun u2 h10 tk10 x2 => ?_
  refine spliced_nil ?_
  have K10 := ((K.keeps x0).keeps x1).keeps x2
  obtain ⟨F, ⟨news, N, hE⟩⟩ := K10
  refine newList_N (s := { s with heap := h10, toks := tk10 }) F N (fun h11 F11 N11 => ?_) (Nat.le_of_ble_eq_true rfl)
  refine e_st F11 N11 fun h12 tk12 F12 N12 => ?_
  obtain ⟨hf', q1, q2, q3⟩ := Kp.grow (tl := [_]) F12 N12 hE
  have hback := q2 _ List.mem_cons_self
  clear F11 N11 F12 N12 F N K
  obtain ⟨F, ⟨news, N, hE⟩⟩ := q3
  have hB := IsList.at' (vs := [vn x.back0 u0, vn x.back1 u1, vn x.back2 u2].toArray) ⟨_, hback, rfl, _, rfl⟩ (Kp.e ⟨F, news, N, hE⟩)
  have hDS' := IsList.at' (IsList.at' hDS q1) (Kp.e ⟨F, news, N, hE⟩)
  have T := g.T
  have X := g.X
  obtain ⟨M, F, hMb, hMs⟩ : ∃ M, Fr h₀ L h12 M ∧ M (Str.ofString "back") = some (.ref h10.objs.size) ∧ M (Str.ofString "stretches") = some (.ref DS) := ⟨_, F, rfl, hmz⟩
  show wpAny _ _ (execs [ls 23] _) _ _ _
  refine wpAny_execs_cons ?_
  refine wpAny_Return_some ?_
  refine wpAny_Compare1 ?_
  refine comp_eval (h₀ := h₀) (L := L) (m := M) (news := news) hh ?_ rfl (by decide) rfl (by decide) rfl (fun _ => rfl)
  refine e_loc F hMb ?_
  have hBn : NatsAt [vn x.back0 u0, vn x.back1 u1, vn x.back2 u2] [x.back0, x.back1, x.back2] := .cons ⟨_, rfl⟩ (.cons ⟨_, rfl⟩ (.cons ⟨_, rfl⟩ .nil))
  refine SrcOk.vals (fun i y => ∃ n t, [x.back0, x.back1, x.back2][i]? = some n ∧ y = vn (turnedN n) t) (iterOf_list hB) F N (Nat.le_of_ble_eq_true rfl) ?_ ?_
  · intro i v C m₂ h tk E' hi hv ext hC hn hx F N
    obtain ⟨n, hni, t, rfl⟩ := Paired.get hBn (by simpa using hv)
    refine Call_ ?_
    refine c_glob (g.keeps F.keep) (by k_is) ?_
    refine callWith_K (X.keeps F.keep) (by k_is) ?_
    refine spliced_cons ?_
    refine c_own hn hx ?_
    refine spliced_nil ?_
    refine ⟨X.keeps F.keep, ?_⟩
    refine law_turned (g.keeps F.keep) (by omega) (by exact hh) ?_
    intro t3 h3 tk3 ext3
    exact ⟨h3, tk3, rfl, ext3, n, t3, hni, rfl⟩
  · intro ys2 led hlen hys D2 h tk ext3 F3 N3 fr
    refine e_loc F3 hMs ?_
    have h3 : NatsAt ys2 ([x.back0, x.back1, x.back2].map turnedN) := paired_len (by simpa using hlen) fun i z n e hn => by
      obtain ⟨n', t, h1, rfl⟩ := hys i z e
      rw [List.getElem?_map, h1] at hn
      cases hn
      exact ⟨t, rfl⟩
    refine eq_intsK ⟨_, (N3 (D2, lstO ys2) (by simp)).1, rfl, _, rfl⟩ h3.ints (IsList.at' hDS' ext3) hz.ints hunits ?_
    exact k h _ hf' _ ⟨F3, news, fun p hp => N3 p (by simp [hp]), hE⟩
end
theorem escN_append (rs : List (Nat × List Nat)) : ∀ a b : List Nat, escN rs (a ++ b) = escN rs a ++ escN rs b := by
  induction rs with
  | nil => intro a b; rfl
  | cons p r ih =>
    intro a b
    show escN r (repl p.1 p.2 (a ++ b)) = escN r (repl p.1 p.2 a) ++ escN r (repl p.1 p.2 b)
    rw [repl_append, ih]
theorem escN_not {rs : List (Nat × List Nat)} : ∀ {l : List Nat}, (∀ p ∈ rs, p.1 ∉ l) → escN rs l = l := by
  induction rs with
  | nil => intro l _; rfl
  | cons p r ih =>
    intro l h
    show escN r (repl p.1 p.2 l) = l
    rw [repl_not (h p List.mem_cons_self)]
    exact ih fun q hq => h q (List.mem_cons_of_mem _ hq)
theorem esc_sign : ∀ k : Fin 5, ∀ p ∈ escT k, escN (escT k) [p.1] = p.2 ∧ p.2 = [38] ++ p.2.drop 1 ∧ (p.2.drop 1).length ≤ 10 ∧ p.1 < 128 ∧ ∀ c ∈ p.2, c < 128 := by decide +kernel
theorem esc_tail : ∀ k : Fin 5, ∀ p ∈ escT k, ∀ j : Fin 5, ∀ q ∈ escT j, q.1 ∉ p.2.drop 1 := by decide +kernel
theorem esc_amp : ∀ k : Fin 5, escN (escT k) [38] = [38, 97, 109, 112, 59] := by decide +kernel
theorem esc_amps : ∀ k : Fin 5, ∀ q ∈ escT k, ∀ j : Fin 3, q.1 ∉ ampN j := by decide +kernel
theorem ampN_succ (j : Nat) : ampN (j + 1) = [97, 109, 112, 59] ++ ampN j := by
  unfold ampN; rw [List.replicate_succ, List.flatten_cons]
/-- no sign of the k-th hand's text stands in l -/
def Av (k : Nat) (l : List Nat) : Prop := ∀ q ∈ escT k, q.1 ∉ l
theorem esc_first {k0 n0 n1 n2 c d : Nat} {e l : List Nat} (hk : k0 < 5) (hc : (c, [38] ++ e) ∈ escT k0) (hd : (d, [38] ++ l) ∈ escT k0) (h0 : Av k0 (bytes4 n0)) (h1 : Av k0 (bytes4 n1)) (h2 : Av k0 (bytes4 n2)) :
    escN (escT k0) (bytes4 n0 ++ [c] ++ bytes4 n1 ++ [d] ++ bytes4 n2) = textK n0 n1 n2 e l 0 := by
  have ec := (esc_sign ⟨k0, hk⟩ _ hc).1
  have ed := (esc_sign ⟨k0, hk⟩ _ hd).1
  dsimp only at ec ed
  rw [escN_append, escN_append, escN_append, escN_append, escN_not h0, escN_not h1, escN_not h2, ec, ed]
  simp [textK, markN, ampN]
theorem esc_next {k k0 n0 n1 n2 c d j : Nat} {e l : List Nat} (hk : k < 5) (hj : j < 2) (hk0 : k0 < 5) (hc : (c, [38] ++ e) ∈ escT k0) (hd : (d, [38] ++ l) ∈ escT k0) (h0 : Av k (bytes4 n0)) (h1 : Av k (bytes4 n1)) (h2 : Av k (bytes4 n2)) :
    escN (escT k) (textK n0 n1 n2 e l j) = textK n0 n1 n2 e l (j + 1) := by
  have ee : escN (escT k) e = e := escN_not (by simpa using esc_tail ⟨k0, hk0⟩ _ hc ⟨k, hk⟩)
  have el : escN (escT k) l = l := escN_not (by simpa using esc_tail ⟨k0, hk0⟩ _ hd ⟨k, hk⟩)
  have em : escN (escT k) (markN j) = markN (j + 1) := by
    unfold markN
    rw [escN_append, show escN (escT k) [38] = _ from esc_amp ⟨k, hk⟩, escN_not (fun q hq => esc_amps ⟨k, hk⟩ q hq ⟨j, by omega⟩), ampN_succ]; rfl
  unfold textK
  rw [escN_append, escN_append, escN_append, escN_append, escN_append, escN_append, escN_not h0, escN_not h1, escN_not h2, ee, el, em]
theorem bytes4_lt {n c : Nat} (h : c ∈ bytes4 n) : c < 256 := by
  unfold bytes4 at h
  obtain ⟨p, _, rfl⟩ := List.mem_map.mp h
  exact Nat.lt_of_le_of_lt Nat.and_le_right (by decide)
theorem textK_lt {n0 n1 n2 j : Nat} {e l : List Nat} (he : ∀ c ∈ e, c < 256) (hl : ∀ c ∈ l, c < 256) (hj : j < 3) : ∀ c ∈ textK n0 n1 n2 e l j, c < 256 := by
  have ha : ∀ c ∈ markN j, c < 256 := (by decide : ∀ j : Fin 3, ∀ c ∈ markN j, c < 256) ⟨j, hj⟩
  intro c h
  unfold textK at h
  simp only [List.mem_append] at h
  rcases h with (((((h | h) | h) | h) | h) | h) | h
  · exact bytes4_lt h
  · exact ha c h
  · exact he c h
  · exact bytes4_lt h
  · exact ha c h
  · exact hl c h
  · exact bytes4_lt h
theorem textK_len {n0 n1 n2 j : Nat} {e l : List Nat} (he : e.length ≤ 10) (hl : l.length ≤ 10) (hj : j < 3) : (textK n0 n1 n2 e l j).length ≤ 50 := by
  have ha : (markN j).length ≤ 9 := (by decide : ∀ j : Fin 3, (markN j).length ≤ 9) ⟨j, hj⟩
  have l4 : ∀ n, (bytes4 n).length = 4 := fun n => by simp [bytes4]
  unfold textK
  simp only [List.length_append, l4]
  omega
/-- the octets of a number -/
theorem byte_eq (n k : Nat) : n >>> k &&& 255 = n / 2 ^ k % 256 := by
  rw [Nat.shiftRight_eq_div_pow]
  exact Nat.and_two_pow_sub_one_eq_mod _ 8
def fixW (ws : List Str) (c : Nat) : Nat := if inW c ws then c + 128 else c
theorem step_eq (ws : List Str) (n p : Nat) : stretchStep ws n p = if inW (n / 2 ^ (8 * p) % 256) ws then n + 128 * 2 ^ (8 * p) else n := by
  unfold stretchStep
  rw [byte_eq, Nat.shiftLeft_eq]
theorem stretch_bytes {ws : List Str} (hw : ∀ c, inW c ws = true → c < 128) {a : Nat} (ha : a < 2 ^ 32) :
    ∃ f0 f1 f2 f3, stretchN a ws = f0 + 256 * f1 + 65536 * f2 + 16777216 * f3 ∧ f0 < 256 ∧ f1 < 256 ∧ f2 < 256 ∧ f3 < 256 ∧ inW f0 ws = false ∧ inW f1 ws = false ∧ inW f2 ws = false ∧ inW f3 ws = false := by
  have fx : ∀ c, c < 256 → fixW ws c < 256 ∧ inW (fixW ws c) ws = false := by
    intro c hc
    unfold fixW
    cases h : inW c ws
    · exact ⟨hc, h⟩
    · have := hw c h
      refine ⟨by simp; omega, ?_⟩
      cases h2 : inW (c + 128) ws
      · exact h2
      · have := hw _ h2; omega
  have st0 : ∀ b0 r, b0 < 256 → stretchStep ws (b0 + 256 * r) 0 = fixW ws b0 + 256 * r := by
    intro b0 r h
    rw [step_eq]
    have e : (b0 + 256 * r) / 2 ^ (8 * 0) % 256 = b0 := by omega
    rw [e]; unfold fixW
    split <;> omega
  have st1 : ∀ b0 b1 r, b0 < 256 → b1 < 256 → stretchStep ws (b0 + 256 * b1 + 65536 * r) 1 = b0 + 256 * fixW ws b1 + 65536 * r := by
    intro b0 b1 r h h1
    rw [step_eq]
    have e : (b0 + 256 * b1 + 65536 * r) / 2 ^ (8 * 1) % 256 = b1 := by omega
    rw [e]; unfold fixW
    split <;> omega
  have st2 : ∀ b0 b1 b2 r, b0 < 256 → b1 < 256 → b2 < 256 → stretchStep ws (b0 + 256 * b1 + 65536 * b2 + 16777216 * r) 2 = b0 + 256 * b1 + 65536 * fixW ws b2 + 16777216 * r := by
    intro b0 b1 b2 r h h1 h2
    rw [step_eq]
    have e : (b0 + 256 * b1 + 65536 * b2 + 16777216 * r) / 2 ^ (8 * 2) % 256 = b2 := by omega
    rw [e]; unfold fixW
    split <;> omega
  have st3 : ∀ b0 b1 b2 b3, b0 < 256 → b1 < 256 → b2 < 256 → b3 < 256 → stretchStep ws (b0 + 256 * b1 + 65536 * b2 + 16777216 * b3) 3 = b0 + 256 * b1 + 65536 * b2 + 16777216 * fixW ws b3 := by
    intro b0 b1 b2 b3 h h1 h2 h3
    rw [step_eq]
    have e : (b0 + 256 * b1 + 65536 * b2 + 16777216 * b3) / 2 ^ (8 * 3) % 256 = b3 := by omega
    rw [e]; unfold fixW
    split <;> omega
  have hr : stretchN a ws = stretchStep ws (stretchStep ws (stretchStep ws (stretchStep ws a 0) 1) 2) 3 := rfl
  have b0 : a % 256 < 256 := by omega
  have b1 : a / 256 % 256 < 256 := by omega
  have b2 : a / 65536 % 256 < 256 := by omega
  have b3 : a / 16777216 < 256 := by omega
  have ea : a = a % 256 + 256 * (a / 256) := by omega
  have e1 : a / 256 = a / 256 % 256 + 256 * (a / 65536) := by omega
  have e2 : a / 65536 = a / 65536 % 256 + 256 * (a / 16777216) := by omega
  obtain ⟨g0, q0⟩ := fx _ b0
  obtain ⟨g1, q1⟩ := fx _ b1
  obtain ⟨g2, q2⟩ := fx _ b2
  obtain ⟨g3, q3⟩ := fx _ b3
  have z0 : stretchStep ws a 0 = fixW ws (a % 256) + 256 * (a / 256 % 256) + 65536 * (a / 65536) := by
    have := st0 (a % 256) (a / 256) b0
    rw [← ea] at this
    rw [this]; omega
  have z1 : stretchStep ws (stretchStep ws a 0) 1 = fixW ws (a % 256) + 256 * fixW ws (a / 256 % 256) + 65536 * (a / 65536 % 256) + 16777216 * (a / 16777216) := by
    rw [z0, st1 _ _ _ g0 b1]; omega
  refine ⟨_, _, _, _, ?_, g0, g1, g2, g3, q0, q1, q2, q3⟩
  rw [hr, z1, st2 _ _ _ _ g0 g1 b2, st3 _ _ _ _ g0 g1 g2 b3]
theorem bytes4_eq {f0 f1 f2 f3 : Nat} (h0 : f0 < 256) (h1 : f1 < 256) (h2 : f2 < 256) (h3 : f3 < 256) : bytes4 (f0 + 256 * f1 + 65536 * f2 + 16777216 * f3) = [f0, f1, f2, f3] := by
  show [_ >>> _ &&& _, _ >>> _ &&& _, _ >>> _ &&& _, _ >>> _ &&& _] = _
  rw [byte_eq, byte_eq, byte_eq, byte_eq]
  have e0 : (f0 + 256 * f1 + 65536 * f2 + 16777216 * f3) / 1 % 256 = f0 := by omega
  have e1 : (f0 + 256 * f1 + 65536 * f2 + 16777216 * f3) / 256 % 256 = f1 := by omega
  have e2 : (f0 + 256 * f1 + 65536 * f2 + 16777216 * f3) / 65536 % 256 = f2 := by omega
  have e3 : (f0 + 256 * f1 + 65536 * f2 + 16777216 * f3) / 16777216 % 256 = f3 := by omega
  exact congr (congrArg List.cons e0) (congr (congrArg List.cons e1) (congr (congrArg List.cons e2) (congrArg (fun x => [x]) e3)))
theorem ws_mem {ks : Nat → Nat} {x : Str} (h : x ∈ catN (fun i => handT (ks i)) 3) : ∃ i, i < 3 ∧ ∃ q ∈ escT (ks i), x = ⟨#[q.1]⟩ := by
  unfold catN at h
  obtain ⟨i, hi, hx⟩ := List.mem_flatMap.mp h
  obtain ⟨p, hp, rfl⟩ := List.mem_map.mp hx
  unfold handT at hp
  obtain ⟨q, hq, rfl⟩ := List.mem_map.mp hp
  exact ⟨i, List.mem_range.mp hi, q, hq, rfl⟩
theorem ws_in {ks : Nat → Nat} {i : Nat} (hi : i < 3) {q : Nat × List Nat} (hq : q ∈ escT (ks i)) : inW q.1 (catN (fun i => handT (ks i)) 3) = true := by
  unfold inW
  rw [List.any_eq_true]
  refine ⟨⟨#[q.1]⟩, ?_, by simp⟩
  unfold catN
  refine List.mem_flatMap.mpr ⟨i, List.mem_range.mpr hi, List.mem_map.mpr ⟨_, List.mem_map.mpr ⟨q, hq, rfl⟩, rfl⟩⟩
theorem made_av {ks : Nat → Nat} (hk : ∀ i, i < 3 → ks i < 5) {n : Nat} (h : Made (catN (fun i => handT (ks i)) 3) n) : n < 2 ^ 32 ∧ ∀ i, i < 3 → Av (ks i) (bytes4 n) := by
  obtain ⟨a, ha, rfl⟩ := h
  have hw : ∀ c, inW c (catN (fun i => handT (ks i)) 3) = true → c < 128 := by
    intro c hc
    unfold inW at hc
    rw [List.any_eq_true] at hc
    obtain ⟨x, hx, e⟩ := hc
    obtain ⟨i, hi, q, hq, rfl⟩ := ws_mem hx
    have e' := eq_of_beq e
    have : q.1 = c := by injection e' with e''; simpa using e''
    subst this
    exact (esc_sign ⟨ks i, hk i hi⟩ q hq).2.2.2.1
  obtain ⟨f0, f1, f2, f3, e, h0, h1, h2, h3, q0, q1, q2, q3⟩ := stretch_bytes hw ha
  rw [e]
  refine ⟨by omega, fun i hi q hq hm => ?_⟩
  rw [bytes4_eq h0 h1 h2 h3] at hm
  have hin := ws_in hi hq
  simp only [List.mem_cons, List.not_mem_nil, or_false] at hm
  rcases hm with hm | hm | hm | hm <;> rw [hm] at hin
  · rw [hin] at q0; cases q0
  · rw [hin] at q1; cases q1
  · rw [hin] at q2; cases q2
  · rw [hin] at q3; cases q3
/-- linear over bits, below 2^32 -/
def Lin (f : Nat → Nat) : Prop := ∀ a b, a < 2 ^ 32 → b < 2 ^ 32 → f (a ^^^ b) = f a ^^^ f b
theorem xlt {a b : Nat} (h : a < 2 ^ 32) (k : b < 2 ^ 32) : a ^^^ b < 2 ^ 32 := Nat.xor_lt_two_pow h k
theorem Lin.zero {f : Nat → Nat} (h : Lin f) : f 0 = 0 := by
  have := h 0 0 (by decide) (by decide)
  rw [Nat.xor_self] at this
  rw [this]; exact Nat.xor_self _
theorem top_bit {n p : Nat} (h1 : ¬ p < 2 ^ n) (h2 : p < 2 ^ (n + 1)) : p ^^^ 2 ^ n < 2 ^ n := by
  refine Nat.lt_pow_two_of_testBit _ fun i hi => ?_
  rw [Nat.testBit_xor, Nat.testBit_two_pow]
  by_cases e : n = i
  · subst e
    have : p.testBit n = true := by
      rw [Nat.testBit_eq_decide_div_mod_eq, decide_eq_true_eq]
      have hp : 0 < 2 ^ n := Nat.two_pow_pos n
      have h3 : p / 2 ^ n = 1 := by
        refine Nat.div_eq_of_lt_le ?_ ?_
        · omega
        · rw [Nat.pow_succ] at h2; omega
      rw [h3]
    rw [this]; simp
  · have : p.testBit i = false := Nat.testBit_lt_two_pow (Nat.lt_of_lt_of_le h2 (Nat.pow_le_pow_right (by decide) (by omega)))
    rw [this]; simp [e]
theorem Lin.ext {f g : Nat → Nat} (hf : Lin f) (hg : Lin g) (h : ∀ i : Fin 32, f (2 ^ i.1) = g (2 ^ i.1)) : ∀ p, p < 2 ^ 32 → f p = g p := by
  have key : ∀ n, n ≤ 32 → ∀ p, p < 2 ^ n → f p = g p := by
    intro n
    induction n with
    | zero =>
      intro _ p hp
      have : p = 0 := by omega
      rw [this, hf.zero, hg.zero]
    | succ n ih =>
      intro hn p hp
      by_cases hlt : p < 2 ^ n
      · exact ih (by omega) p hlt
      · have h1 := top_bit hlt hp
        have e : p = (p ^^^ 2 ^ n) ^^^ 2 ^ n := by rw [Nat.xor_assoc, Nat.xor_self, Nat.xor_zero]
        have b1 : p ^^^ 2 ^ n < 2 ^ 32 := Nat.lt_of_lt_of_le h1 (Nat.pow_le_pow_right (by decide) (by omega))
        have b2 : (2 : Nat) ^ n < 2 ^ 32 := Nat.pow_lt_pow_right (by decide) (by omega)
        rw [e, hf _ _ b1 b2, hg _ _ b1 b2, ih (by omega) _ h1, h ⟨n, by omega⟩]
  exact key 32 (Nat.le_refl _)
theorem Lin.bound {f : Nat → Nat} (hf : Lin f) (h : ∀ i : Fin 32, f (2 ^ i.1) < 2 ^ 32) : ∀ p, p < 2 ^ 32 → f p < 2 ^ 32 := by
  have key : ∀ n, n ≤ 32 → ∀ p, p < 2 ^ n → f p < 2 ^ 32 := by
    intro n
    induction n with
    | zero =>
      intro _ p hp
      have : p = 0 := by omega
      rw [this, hf.zero]; decide
    | succ n ih =>
      intro hn p hp
      by_cases hlt : p < 2 ^ n
      · exact ih (by omega) p hlt
      · have h1 := top_bit hlt hp
        have e : p = (p ^^^ 2 ^ n) ^^^ 2 ^ n := by rw [Nat.xor_assoc, Nat.xor_self, Nat.xor_zero]
        have b1 : p ^^^ 2 ^ n < 2 ^ 32 := Nat.lt_of_lt_of_le h1 (Nat.pow_le_pow_right (by decide) (by omega))
        have b2 : (2 : Nat) ^ n < 2 ^ 32 := Nat.pow_lt_pow_right (by decide) (by omega)
        rw [e, hf _ _ b1 b2]
        exact xlt (ih (by omega) _ h1) (h ⟨n, by omega⟩)
  exact key 32 (Nat.le_refl _)
theorem Lin.comp {f g : Nat → Nat} (hf : Lin f) (hg : Lin g) (hb : ∀ p, p < 2 ^ 32 → g p < 2 ^ 32) : Lin (fun p => f (g p)) := fun a b ha h => by
  show f (g (a ^^^ b)) = _
  rw [hg a b ha h, hf _ _ (hb a ha) (hb b h)]
theorem xor_mid (a b c d : Nat) : (a ^^^ b) ^^^ (c ^^^ d) = (a ^^^ c) ^^^ (b ^^^ d) := by
  rw [Nat.xor_assoc, Nat.xor_assoc, ← Nat.xor_assoc b c d, Nat.xor_comm b c, Nat.xor_assoc c b d]
theorem Lin.xor {f g : Nat → Nat} (hf : Lin f) (hg : Lin g) : Lin (fun p => f p ^^^ g p) := fun a b ha h => by
  show f (a ^^^ b) ^^^ g (a ^^^ b) = _
  rw [hf a b ha h, hg a b ha h, xor_mid]
theorem Lin.id : Lin (fun p => p) := fun _ _ _ _ => rfl
theorem xor_self_left (a b : Nat) : a ^^^ (a ^^^ b) = b := by rw [← Nat.xor_assoc, Nat.xor_self, Nat.zero_xor]
theorem xor_self_right (a b : Nat) : a ^^^ b ^^^ b = a := by rw [Nat.xor_assoc, Nat.xor_self, Nat.xor_zero]

/-- a step that adds P where a bit stands -/
theorem bit_mul {x y P : Nat} (hx : x ≤ 1) (hy : y ≤ 1) : (x ^^^ y) * P = x * P ^^^ y * P := by
  have h1 : x = 0 ∨ x = 1 := by omega
  have h2 : y = 0 ∨ y = 1 := by omega
  rcases h1 with rfl | rfl <;> rcases h2 with rfl | rfl <;> simp
theorem two_xor (a b : Nat) : 2 * (a ^^^ b) = 2 * a ^^^ 2 * b := by
  have := @Nat.shiftLeft_xor_distrib 1 a b
  simp only [Nat.shiftLeft_eq, Nat.pow_one] at this
  rw [Nat.mul_comm 2, this, Nat.mul_comm a, Nat.mul_comm b]
def upU (p : Nat) : Nat := upStep (2 * p)
theorem upU_eq {p : Nat} (h : p < 2 ^ 32) : upU p = 2 * p ^^^ (p >>> 31) * 4374732215 := by
  unfold upU upStep
  have e : (2 * p) >>> 32 = p >>> 31 := by simp only [Nat.shiftRight_eq_div_pow]; omega
  have hle : p >>> 31 ≤ 1 := by rw [Nat.shiftRight_eq_div_pow]; omega
  rw [e]
  split
  · rename_i h0; rw [h0, Nat.zero_mul, Nat.xor_zero]
  · have : p >>> 31 = 1 := by omega
    rw [this, Nat.one_mul]
theorem upU_lin : Lin upU := fun a b ha hb => by
  rw [upU_eq (xlt ha hb), upU_eq ha, upU_eq hb, two_xor, Nat.shiftRight_xor_distrib, bit_mul, xor_mid]
  · rw [Nat.shiftRight_eq_div_pow]; omega
  · rw [Nat.shiftRight_eq_div_pow]; omega
theorem alongStep_up (c p place : Nat) : alongStep c p place = upU (p ^^^ (c >>> place &&& 1) <<< 31) := rfl
theorem upU_lt {p : Nat} (h : p < 2 ^ 32) : upU p < 2 ^ 32 := by
  have := alongStep_lt (c := 0) (place := 0) h
  rw [alongStep_up] at this
  simpa using this
def uN : Nat → Nat → Nat
  | 0, p => p
  | k + 1, p => upU (uN k p)
theorem uN_lt {p : Nat} (h : p < 2 ^ 32) : ∀ k, uN k p < 2 ^ 32
  | 0 => h
  | k + 1 => upU_lt (uN_lt h k)
theorem uN_lin : ∀ k, Lin (uN k)
  | 0 => Lin.id
  | k + 1 => show Lin (fun p => upU (uN k p)) from Lin.comp (f := upU) (g := uN k) upU_lin (uN_lin k) fun _ h => uN_lt h k
theorem uN_add (a p : Nat) : ∀ b, uN (a + b) p = uN b (uN a p)
  | 0 => rfl
  | b + 1 => congrArg upU (uN_add a p b)
/-- down takes up back -/
theorem crc_bit {p E : Nat} : (if p &&& 1 = 0 then p >>> 1 else p >>> 1 ^^^ E) = p >>> 1 ^^^ (p &&& 1) * E := by
  have h : p &&& 1 ≤ 1 := Nat.and_le_right
  split
  · rename_i h0; rw [h0, Nat.zero_mul, Nat.xor_zero]
  · have : p &&& 1 = 1 := by omega
    rw [this, Nat.one_mul]
theorem and_one_le (p : Nat) : p &&& 1 ≤ 1 := Nat.and_le_right
theorem crcStep_lin : Lin crcStep := fun a b _ _ => by
  unfold crcStep
  rw [crc_bit, crc_bit, crc_bit, Nat.shiftRight_xor_distrib, Nat.and_xor_distrib_right, bit_mul (and_one_le a) (and_one_le b), xor_mid]
theorem downStep_lin : Lin downStep := fun a b _ _ => by
  have e : ∀ p, downStep p = p >>> 1 ^^^ (p &&& 1) * 2187366107 := fun p => by
    unfold downStep
    rw [Nat.shiftRight_xor_distrib, ← crc_bit, show (4374732215 : Nat) >>> 1 = 2187366107 from rfl]
  rw [e, e, e, Nat.shiftRight_xor_distrib, Nat.and_xor_distrib_right, bit_mul (and_one_le a) (and_one_le b), xor_mid]
theorem down_up {p : Nat} (h : p < 2 ^ 32) : downStep (upU p) = p := Lin.ext (Lin.comp downStep_lin upU_lin fun _ h => upU_lt h) Lin.id (by decide +kernel) p h
theorem downN_zero (p : Nat) : downN p 0 = p := rfl
theorem downN_succ (p k : Nat) : downN p (k + 1) = downN (downStep p) k := by
  unfold downN
  rw [List.range_succ_eq_map, List.foldl_cons, List.foldl_map]
theorem downN_uN {p : Nat} (h : p < 2 ^ 32) : ∀ k, downN (uN k p) k = p
  | 0 => rfl
  | k + 1 => by rw [downN_succ]; show downN (downStep (upU (uN k p))) k = p; rw [down_up (uN_lt h k), downN_uN h k]
/-- folds of linear steps -/
theorem foldl_lin {α : Type} {f : Nat → α → Nat} (hl : ∀ x, Lin (fun p => f p x)) (hb : ∀ x p, p < 2 ^ 32 → f p x < 2 ^ 32) : ∀ l : List α, Lin (fun p => l.foldl f p)
  | [] => Lin.id
  | x :: l => fun a b ha h => by
    show l.foldl f (f (a ^^^ b) x) = _
    rw [show f (a ^^^ b) x = f a x ^^^ f b x from hl x a b ha h]
    exact foldl_lin hl hb l _ _ (hb x a ha) (hb x b h)
theorem turned_fold (a b : Nat) : ∀ (l : List Nat) (t u : Nat), l.foldl (fun t place => 2 * t + ((a ^^^ b) >>> place &&& 1)) (t ^^^ u) = l.foldl (fun t place => 2 * t + (a >>> place &&& 1)) t ^^^ l.foldl (fun t place => 2 * t + (b >>> place &&& 1)) u
  | [], _, _ => rfl
  | x :: l, t, u => by
    have add_bit : ∀ t y, y ≤ 1 → 2 * t + y = 2 * t ^^^ y := fun t y hy => by
      have := xor_and_sum (2 * t) y
      have hz : (2 * t) &&& y = 0 := by
        have : y = 0 ∨ y = 1 := by omega
        rcases this with rfl | rfl
        · exact Nat.and_zero _
        · rw [Nat.and_one_is_mod]; omega
      omega
    rw [List.foldl_cons, List.foldl_cons, List.foldl_cons, ← turned_fold a b l]
    congr 1
    rw [add_bit _ _ (and_one_le _), add_bit _ _ (and_one_le _), add_bit _ _ (and_one_le _), two_xor, Nat.shiftRight_xor_distrib, Nat.and_xor_distrib_right, xor_mid]
theorem turnedN_lin : Lin turnedN := fun a b _ _ => turned_fold a b (List.range 32) 0 0
theorem turned_turned {p : Nat} (h : p < 2 ^ 32) : turnedN (turnedN p) = p := Lin.ext (Lin.comp turnedN_lin turnedN_lin fun p _ => turnedN_lt p) Lin.id (by decide +kernel) p h
theorem turned_crc {p : Nat} (h : p < 2 ^ 32) : turnedN (crcStep p) = upU (turnedN p) :=
  Lin.ext (Lin.comp turnedN_lin crcStep_lin fun _ h => crcStep_lt h) (Lin.comp upU_lin turnedN_lin fun p _ => turnedN_lt p) (by decide +kernel) p h
theorem shlx (k a b : Nat) : (a ^^^ b) <<< k = a <<< k ^^^ b <<< k := Nat.shiftLeft_xor_distrib
theorem part_lin1 (k a b : Nat) : (a ^^^ b) ^^^ (a ^^^ b) <<< k = (a ^^^ a <<< k) ^^^ (b ^^^ b <<< k) := by rw [shlx, xor_mid]
theorem partCut_xor (a b : Nat) : partCut (a ^^^ b) = partCut a ^^^ partCut b := by
  have h1 : ∀ a b, part1 (a ^^^ b) = part1 a ^^^ part1 b := part_lin1 1
  have h2 : ∀ a b, part2 (a ^^^ b) = part2 a ^^^ part2 b := part_lin1 2
  have h4 : ∀ a b, part4 (a ^^^ b) = part4 a ^^^ part4 b := part_lin1 4
  have h8 : ∀ a b, part8 (a ^^^ b) = part8 a ^^^ part8 b := part_lin1 8
  have h16 : ∀ a b, part16 (a ^^^ b) = part16 a ^^^ part16 b := part_lin1 16
  have h32 : ∀ a b, part32 (a ^^^ b) = part32 a ^^^ part32 b := part_lin1 32
  unfold partCut
  rw [h1, h2, h4, h8, h16, h32, Nat.and_xor_distrib_right]
theorem partStep_eq (p : Nat) : partStep p = partCut p ^^^ (partCut p >>> 32) * 4357819245 := by
  have h := partCut_lt p
  have hle : partCut p >>> 32 ≤ 1 := by rw [Nat.shiftRight_eq_div_pow]; omega
  unfold partStep
  split
  · rename_i h0; rw [h0, Nat.zero_mul, Nat.xor_zero]
  · have : partCut p >>> 32 = 1 := by omega
    rw [this, Nat.one_mul]
theorem partStep_lin : Lin partStep := fun a b _ _ => by
  have h : ∀ p, partCut p >>> 32 ≤ 1 := fun p => by
    have h := partCut_lt p
    rw [Nat.shiftRight_eq_div_pow]; omega
  rw [partStep_eq, partStep_eq, partStep_eq, partCut_xor, Nat.shiftRight_xor_distrib, bit_mul (h a) (h b), xor_mid]
theorem partStep_bound : ∀ p, p < 2 ^ 32 → partStep p < 2 ^ 32 := Lin.bound partStep_lin (by decide +kernel)
theorem parted_lin : Lin partedN := foldl_lin (f := fun p (_ : Nat) => partStep p) (fun _ => partStep_lin) (fun _ p h => partStep_bound p h) (List.range 32)
theorem parted_bound {p : Nat} (h : p < 2 ^ 32) : partedN p < 2 ^ 32 := foldl_inv (P := fun p => p < 2 ^ 32) (fun p _ h => partStep_bound p h) h
/-- the multiplication by x ** 32 -/
abbrev uq (p : Nat) : Nat := uN 32 p
theorem parted_of {p : Nat} (h : p < 2 ^ 32) : partedN (p ^^^ uq p) = p :=
  Lin.ext (f := fun p => partedN (p ^^^ uq p)) (Lin.comp parted_lin (Lin.xor Lin.id (uN_lin 32)) fun p h => xlt h (uN_lt h 32)) Lin.id (by decide +kernel) p h
theorem of_parted {p : Nat} (h : p < 2 ^ 32) : partedN p ^^^ uq (partedN p) = p :=
  Lin.ext (f := fun p => partedN p ^^^ uq (partedN p)) (Lin.xor parted_lin (Lin.comp (uN_lin 32) parted_lin fun p h => parted_bound h)) Lin.id (by decide +kernel) p h
/-- along a text -/
theorem alongC_lin (c : Nat) {p : Nat} (h : p < 2 ^ 32) : alongC p c = uN 8 p ^^^ alongC 0 c := by
  have bit : ∀ place, (c >>> place &&& 1) <<< 31 < 2 ^ 32 := fun place => by
    have : c >>> place &&& 1 ≤ 1 := Nat.and_le_right
    rw [Nat.shiftLeft_eq]; omega
  have key : ∀ (l : List Nat) p q, p < 2 ^ 32 → q < 2 ^ 32 → l.foldl (alongStep c) (p ^^^ q) = uN l.length p ^^^ l.foldl (alongStep c) q := by
    intro l
    induction l with
    | nil => intro p q _ _; rfl
    | cons x l ih =>
      intro p q hp hq
      rw [List.foldl_cons, List.foldl_cons]
      have e : alongStep c (p ^^^ q) x = upU p ^^^ alongStep c q x := by
        rw [alongStep_up, alongStep_up, Nat.xor_assoc, upU_lin _ _ hp (xlt hq (bit x))]
      rw [e, ih _ _ (upU_lt hp) (alongStep_lt hq), List.length_cons]
      congr 1
      have := uN_add 1 p l.length
      rw [Nat.add_comm] at this
      exact this.symm
  have := key (List.range 8) p 0 h (by decide)
  rw [Nat.xor_zero] at this
  exact this
theorem alongC_lt {p : Nat} (h : p < 2 ^ 32) (c : Nat) : alongC p c < 2 ^ 32 := foldl_inv (P := fun p => p < 2 ^ 32) (fun _ _ h => alongStep_lt h) h
theorem alongN_lin {p : Nat} (h : p < 2 ^ 32) : ∀ (cs : List Nat) (q : Nat), q < 2 ^ 32 → alongN (p ^^^ q) cs = uN (8 * cs.length) p ^^^ alongN q cs := by
  intro cs
  induction cs generalizing p with
  | nil => intro q _; rfl
  | cons c cs ih =>
    intro q hq
    show alongN (alongC (p ^^^ q) c) cs = _ ^^^ alongN (alongC q c) cs
    have e : alongC (p ^^^ q) c = uN 8 p ^^^ alongC q c := by
      rw [alongC_lin c (xlt h hq), uN_lin 8 _ _ h hq, Nat.xor_assoc, ← alongC_lin c hq]
    rw [e, ih (uN_lt h 8) _ (alongC_lt hq c), ← uN_add, List.length_cons]
    congr 2
    omega
theorem alongN_zero {p : Nat} (h : p < 2 ^ 32) (cs : List Nat) : alongN p cs = uN (8 * cs.length) p ^^^ alongN 0 cs := by
  have := alongN_lin h cs 0 (by decide)
  rwa [Nat.xor_zero] at this
theorem alongN_append (p : Nat) (a b : List Nat) : alongN p (a ++ b) = alongN (alongN p a) b := List.foldl_append
theorem alongC_small : ∀ c : Fin 256, alongC 0 c.1 = uN 8 (turnedN c.1) := by decide +kernel
theorem turned_crc8 {p : Nat} (h : p < 2 ^ 32) : turnedN (crc8 p) = uN 8 (turnedN p) := by
  have key : ∀ k, turnedN ((List.range k).foldl (fun c _ => crcStep c) p) = uN k (turnedN p) ∧ (List.range k).foldl (fun c _ => crcStep c) p < 2 ^ 32 := by
    intro k
    induction k with
    | zero => exact ⟨rfl, h⟩
    | succ k ih =>
      rw [List.range_succ, List.foldl_append, List.foldl_cons, List.foldl_nil]
      refine ⟨?_, crcStep_lt ih.2⟩
      rw [turned_crc ih.2, ih.1]; rfl
  exact (key 8).1
theorem turned_sum {cs : List Nat} (hc : ∀ c ∈ cs, c < 256) : turnedN (sumR cs) = alongN 4294967295 cs := by
  have key : ∀ (cs : List Nat) (r : Nat), r < 2 ^ 32 → (∀ c ∈ cs, c < 256) → turnedN (cs.foldl (fun r c => crc8 (r ^^^ c)) r) = alongN (turnedN r) cs := by
    intro cs
    induction cs with
    | nil => intro r _ _; rfl
    | cons c cs ih =>
      intro r hr hc
      have c8 := hc c List.mem_cons_self
      have c32 : c < 2 ^ 32 := Nat.lt_of_lt_of_le c8 (by decide)
      rw [List.foldl_cons, ih _ (crc8_lt (xlt hr c32)) fun d hd => hc d (List.mem_cons_of_mem _ hd)]
      show alongN _ cs = alongN (alongC (turnedN r) c) cs
      congr 1
      rw [turned_crc8 (xlt hr c32), turnedN_lin _ _ hr c32, uN_lin 8 _ _ (turnedN_lt r) (turnedN_lt c), alongC_lin c (turnedN_lt r), alongC_small ⟨c, c8⟩]
  have := key cs 4294967295 (by decide) hc
  rw [show turnedN 4294967295 = 4294967295 from by decide +kernel] at this
  exact this
/-- along a number's octets -/
theorem bytes4_xor (a b : Nat) : bytes4 (a ^^^ b) = List.zipWith (· ^^^ ·) (bytes4 a) (bytes4 b) := by
  have e : ∀ k, (a ^^^ b) >>> k &&& 255 = (a >>> k &&& 255) ^^^ (b >>> k &&& 255) := fun k => by
    rw [Nat.shiftRight_xor_distrib, Nat.and_xor_distrib_right]
  show [_, _, _, _] = [_, _, _, _]
  simp only [e]
theorem alongC_xor {c d p q : Nat} (hc : c < 256) (hd : d < 256) (hp : p < 2 ^ 32) (hq : q < 2 ^ 32) : alongC (p ^^^ q) (c ^^^ d) = alongC p c ^^^ alongC q d := by
  have hcd : c ^^^ d < 256 := Nat.xor_lt_two_pow (n := 8) hc hd
  have b : ∀ {x : Nat}, x < 256 → x < 2 ^ 32 := fun h => Nat.lt_of_lt_of_le h (by decide)
  rw [alongC_lin _ (xlt hp hq), alongC_lin c hp, alongC_lin d hq, alongC_small ⟨_, hcd⟩, alongC_small ⟨c, hc⟩, alongC_small ⟨d, hd⟩, turnedN_lin _ _ (b hc) (b hd), uN_lin 8 _ _ hp hq, uN_lin 8 _ _ (turnedN_lt c) (turnedN_lt d), xor_mid]
theorem alongZ_lin : Lin (fun n => alongN 0 (bytes4 n)) := fun a b _ _ => by
  show alongN 0 (bytes4 (a ^^^ b)) = _
  rw [bytes4_xor]
  have la : ∀ c ∈ bytes4 a, c < 256 := fun c h => bytes4_lt h
  have lb : ∀ c ∈ bytes4 b, c < 256 := fun c h => bytes4_lt h
  have key : ∀ (xs ys : List Nat) p q, xs.length = ys.length → (∀ c ∈ xs, c < 256) → (∀ c ∈ ys, c < 256) → p < 2 ^ 32 → q < 2 ^ 32 → alongN (p ^^^ q) (List.zipWith (· ^^^ ·) xs ys) = alongN p xs ^^^ alongN q ys := by
    intro xs
    induction xs with
    | nil =>
      intro ys p q hl _ _ _ _
      cases ys with
      | nil => rfl
      | cons => simp at hl
    | cons x xs ih =>
      intro ys p q hl hx hy hp hq
      cases ys with
      | nil => simp at hl
      | cons y ys =>
        show alongN (alongC (p ^^^ q) (x ^^^ y)) (List.zipWith _ xs ys) = _
        rw [alongC_xor (hx x List.mem_cons_self) (hy y List.mem_cons_self) hp hq]
        exact ih ys _ _ (by simpa using hl) (fun c h => hx c (List.mem_cons_of_mem _ h)) (fun c h => hy c (List.mem_cons_of_mem _ h)) (alongC_lt hp x) (alongC_lt hq y)
  exact key (bytes4 a) (bytes4 b) 0 0 (by simp [bytes4]) la lb (by decide) (by decide)
theorem along_bytes {p n : Nat} (hp : p < 2 ^ 32) (hn : n < 2 ^ 32) : alongN p (bytes4 n) = uN 32 (p ^^^ turnedN n) := by
  have z : alongN 0 (bytes4 n) = uN 32 (turnedN n) :=
    Lin.ext alongZ_lin (Lin.comp (uN_lin 32) turnedN_lin fun p _ => turnedN_lt p) (by decide +kernel) n hn
  rw [alongN_zero hp, z, uN_lin 32 _ _ hp (turnedN_lt n)]
  have l4 : (bytes4 n).length = 4 := by simp [bytes4]
  rw [l4]
theorem still_lt : Law01.still < 2 ^ 32 := parted_bound (alongN_lt (by decide) _)
theorem begun_lt : Law01.begun < 2 ^ 32 := xlt still_lt (alongN_lt (by decide) _)
theorem along_amp {p : Nat} (h : p < 2 ^ 32) : alongN p [97, 109, 112, 59] = uN 32 (p ^^^ Law01.still) ^^^ Law01.still := by
  have a := of_parted (p := alongN 0 [97, 109, 112, 59]) (alongN_lt (by decide) _)
  have e : alongN 0 [97, 109, 112, 59] = Law01.still ^^^ uN 32 Law01.still := a.symm
  rw [alongN_zero h, e, uN_lin 32 _ _ h still_lt, Nat.xor_comm Law01.still, Nat.xor_assoc]; rfl
theorem along_amps {p : Nat} (h : p < 2 ^ 32) : ∀ k, alongN p (ampN k) = uN (32 * k) (p ^^^ Law01.still) ^^^ Law01.still := by
  intro k
  induction k generalizing p with
  | zero =>
    show p = (p ^^^ Law01.still) ^^^ Law01.still
    rw [xor_self_right]
  | succ k ih =>
    have hb : uN 32 (p ^^^ Law01.still) < 2 ^ 32 := uN_lt (xlt h still_lt) 32
    rw [ampN_succ, alongN_append, along_amp h, ih (xlt hb still_lt), xor_self_right, ← uN_add]
    congr 2
    omega
theorem along_mark {p : Nat} (h : p < 2 ^ 32) (k : Nat) : alongN p (markN k) = uN (32 * k) (uN 8 p ^^^ Law01.begun) ^^^ Law01.still := by
  have b : alongN 0 [38] < 2 ^ 32 := alongN_lt (by decide) _
  unfold markN
  rw [alongN_append, alongN_zero h [38], along_amps (xlt (uN_lt h _) b)]
  congr 2
  show uN 8 p ^^^ alongN 0 [38] ^^^ Law01.still = uN 8 p ^^^ (Law01.still ^^^ alongN 0 [38])
  rw [Nat.xor_assoc, Nat.xor_comm (alongN 0 [38])]
theorem along_turn {p n : Nat} (h : p < 2 ^ 32) (hn : n < 2 ^ 32) (k : Nat) (e : List Nat) : alongN p (bytes4 n ++ markN k ++ e) = uN (32 * k + 8 * e.length) (uN 40 (p ^^^ turnedN n) ^^^ Law01.begun) ^^^ alongN Law01.still e := by
  have hx : p ^^^ turnedN n < 2 ^ 32 := xlt h (turnedN_lt n)
  have e40 : uN 8 (uN 32 (p ^^^ turnedN n)) = uN 40 (p ^^^ turnedN n) := (uN_add 32 _ 8).symm
  rw [alongN_append, alongN_append, along_bytes h hn, along_mark (uN_lt hx 32), e40]
  have hr : uN (32 * k) (uN 40 (p ^^^ turnedN n) ^^^ Law01.begun) < 2 ^ 32 := uN_lt (xlt (uN_lt hx 40) begun_lt) _
  rw [alongN_lin hr e _ still_lt, uN_add]
section
variable (n0 n1 n2 : Nat) (e l : List Nat)
def G0 : Nat := uN 40 (4294967295 ^^^ turnedN n0) ^^^ Law01.begun
def H1 : Nat := uN 40 (alongN Law01.still e ^^^ turnedN n1) ^^^ Law01.begun
def X01 : Nat := uN (32 + 8 * l.length + 40 + 8 * e.length) (G0 n0)
def Y01 : Nat := uN (32 + 8 * l.length) (H1 n1 e)
def Z01 : Nat := uN 32 (alongN Law01.still l ^^^ turnedN n2)
end
theorem G0_lt (n0 : Nat) : G0 n0 < 2 ^ 32 := xlt (uN_lt (xlt (by decide) (turnedN_lt _)) _) begun_lt
theorem H1_lt (n1 : Nat) (e : List Nat) : H1 n1 e < 2 ^ 32 := xlt (uN_lt (xlt (alongN_lt still_lt _) (turnedN_lt _)) _) begun_lt
theorem sum_shape {n0 n1 n2 : Nat} (h0 : n0 < 2 ^ 32) (h1 : n1 < 2 ^ 32) (h2 : n2 < 2 ^ 32) (e l : List Nat) (k : Nat) :
    alongN 4294967295 (textK n0 n1 n2 e l k) = uN (64 * k) (X01 n0 e l) ^^^ uN (32 * k) (Y01 n1 e l) ^^^ Z01 n2 l := by
  have et : textK n0 n1 n2 e l k = (bytes4 n0 ++ markN k ++ e) ++ ((bytes4 n1 ++ markN k ++ l) ++ bytes4 n2) := by
    unfold textK; simp only [List.append_assoc]
  have hF : (4294967295 : Nat) < 2 ^ 32 := by decide
  have eG : uN 40 (4294967295 ^^^ turnedN n0) ^^^ Law01.begun = G0 n0 := rfl
  have hE : alongN Law01.still e < 2 ^ 32 := alongN_lt still_lt _
  have hL : alongN Law01.still l < 2 ^ 32 := alongN_lt still_lt _
  have hA : uN (32 * k + 8 * e.length) (G0 n0) < 2 ^ 32 := uN_lt (G0_lt n0) _
  have hT1 := turnedN_lt n1
  have hT2 := turnedN_lt n2
  rw [et, alongN_append, along_turn hF h0, eG, alongN_append, along_turn (xlt hA hE) h1, Nat.xor_assoc (uN (32 * k + 8 * e.length) (G0 n0)), uN_lin 40 _ _ hA (xlt hE hT1), Nat.xor_assoc]
  rw [show uN 40 (alongN Law01.still e ^^^ turnedN n1) ^^^ Law01.begun = H1 n1 e from rfl]
  rw [uN_lin _ _ _ (uN_lt hA 40) (H1_lt n1 e), along_bytes (xlt (xlt (uN_lt (uN_lt hA 40) _) (uN_lt (H1_lt n1 e) _)) hL) h2, Nat.xor_assoc _ (alongN Law01.still l)]
  rw [uN_lin 32 _ _ (xlt (uN_lt (uN_lt hA 40) _) (uN_lt (H1_lt n1 e) _)) (xlt hL hT2), uN_lin 32 _ _ (uN_lt (uN_lt hA 40) _) (uN_lt (H1_lt n1 e) _)]
  rw [← uN_add, ← uN_add, ← uN_add, ← uN_add]
  unfold X01 Y01 Z01
  rw [← uN_add, ← uN_add]
  congr 3 <;> omega
theorem xor4 {a b c d : Nat} : a ^^^ b ^^^ c ^^^ d = (a ^^^ c) ^^^ (b ^^^ d) := by
  rw [← xor_mid, Nat.xor_assoc (a ^^^ b)]
theorem x_cancel3 (a b z : Nat) : (a ^^^ z) ^^^ (b ^^^ z) = a ^^^ b := by rw [xor_mid, Nat.xor_self, Nat.xor_zero]
/-- Newton's differences -/
theorem newton {X Y Z S0 S1 S2 : Nat} (hX : X < 2 ^ 32) (hY : Y < 2 ^ 32) (hZ : Z < 2 ^ 32) (e0 : S0 = X ^^^ Y ^^^ Z) (e1 : S1 = uq (uq X) ^^^ uq Y ^^^ Z) (e2 : S2 = uq (uq (uq (uq X))) ^^^ uq (uq Y) ^^^ Z) :
    partedN ((S0 ^^^ S1) ^^^ downN (S1 ^^^ S2) 32) = X ^^^ uq (uq X) ∧ partedN ((S0 ^^^ S1) ^^^ (X ^^^ uq (uq X))) = Y ∧ partedN (partedN (X ^^^ uq (uq X))) = X ∧ S0 ^^^ Y ^^^ X = Z := by
  have q1 := uN_lt hX 32
  have q2 := uN_lt q1 32
  have q3 := uN_lt q2 32
  have r1 := uN_lt hY 32
  have L := uN_lin 32
  have g : S0 ^^^ S1 = (X ^^^ uq (uq X)) ^^^ (Y ^^^ uq Y) := by
    rw [e0, e1, x_cancel3, xor_mid]
  have d : S1 ^^^ S2 = uq ((uq X ^^^ uq (uq (uq X))) ^^^ (Y ^^^ uq Y)) := by
    show _ = uN 32 _
    rw [L _ _ (xlt q1 q3) (xlt hY r1), L _ _ q1 q3, L _ _ hY r1, e1, e2, x_cancel3, xor_mid]
  have dd : downN (S1 ^^^ S2) 32 = (uq X ^^^ uq (uq (uq X))) ^^^ (Y ^^^ uq Y) := by
    rw [d]; exact downN_uN (xlt (xlt q1 q3) (xlt hY r1)) 32
  refine ⟨?_, ?_, ?_, ?_⟩
  · rw [g, dd, x_cancel3]
    have : uq X ^^^ uq (uq (uq X)) = uq (X ^^^ uq (uq X)) := (L _ _ hX q2).symm
    rw [this]
    exact parted_of (xlt hX q2)
  · rw [g, Nat.xor_comm (X ^^^ uq (uq X)), xor_self_right]
    exact parted_of hY
  · have : X ^^^ uq (uq X) = (X ^^^ uq X) ^^^ uq (X ^^^ uq X) := by
      show _ = _ ^^^ uN 32 (X ^^^ uN 32 X)
      rw [L _ _ hX q1, Nat.xor_assoc, ← Nat.xor_assoc (uN 32 X), Nat.xor_self, Nat.zero_xor]
    rw [this, parted_of (xlt hX q1), parted_of hX]
  · rw [e0, Nat.xor_comm X Y, Nat.xor_assoc, Nat.xor_assoc, Nat.xor_assoc, ← Nat.xor_assoc Z Y X, Nat.xor_comm Z Y, Nat.xor_assoc Y Z X, ← Nat.xor_assoc X Y, Nat.xor_comm X Y, Nat.xor_assoc Y X, xor_self_left, Nat.xor_comm Z X, xor_self_left]
theorem plain01 {n0 n1 n2 : Nat} (h0 : n0 < 2 ^ 32) (h1 : n1 < 2 ^ 32) (h2 : n2 < 2 ^ 32) (e l : List Nat) (he : ∀ c ∈ e, c < 256) (hl : ∀ c ∈ l, c < 256) (x : Law01) (hxe : x.e = e) (hxl : x.l = l)
    (e0 : x.S0 = turnedN (sumR (textK n0 n1 n2 e l 0))) (e1 : x.S1 = turnedN (sumR (textK n0 n1 n2 e l 1))) (e2 : x.S2 = turnedN (sumR (textK n0 n1 n2 e l 2))) :
    turnedN x.back0 = n0 ∧ turnedN x.back1 = n1 ∧ turnedN x.back2 = n2 := by
  have hX : X01 n0 e l < 2 ^ 32 := uN_lt (G0_lt n0) _
  have hY : Y01 n1 e l < 2 ^ 32 := uN_lt (H1_lt n1 e) _
  have hE : alongN Law01.still e < 2 ^ 32 := alongN_lt still_lt _
  have hL : alongN Law01.still l < 2 ^ 32 := alongN_lt still_lt _
  have hZ' : alongN Law01.still l ^^^ turnedN n2 < 2 ^ 32 := xlt hL (turnedN_lt n2)
  have hZ : Z01 n2 l < 2 ^ 32 := uN_lt hZ' _
  rw [turned_sum (textK_lt he hl (by decide)), sum_shape h0 h1 h2] at e0 e1 e2
  have f0 : x.S0 = X01 n0 e l ^^^ Y01 n1 e l ^^^ Z01 n2 l := e0
  have f1 : x.S1 = uq (uq (X01 n0 e l)) ^^^ uq (Y01 n1 e l) ^^^ Z01 n2 l := by rw [e1]; show _ = uN 32 (uN 32 _) ^^^ _ ^^^ _; rw [← uN_add]
  have f2 : x.S2 = uq (uq (uq (uq (X01 n0 e l)))) ^^^ uq (uq (Y01 n1 e l)) ^^^ Z01 n2 l := by
    rw [e2]; show _ = uN 32 (uN 32 (uN 32 (uN 32 _))) ^^^ uN 32 (uN 32 _) ^^^ _
    rw [← uN_add, ← uN_add, ← uN_add, ← uN_add]
  obtain ⟨a1, a2, a3, a4⟩ := newton hX hY hZ f0 f1 f2
  have r : x.rest = X01 n0 e l ^^^ uq (uq (X01 n0 e l)) := a1
  have o : x.one = Y01 n1 e l := by unfold Law01.one; rw [r]; exact a2
  have t : x.two = X01 n0 e l := by unfold Law01.two; rw [r]; exact a3
  have hx0 : (4294967295 : Nat) ^^^ turnedN n0 < 2 ^ 32 := xlt (by decide) (turnedN_lt n0)
  have hx1 : alongN Law01.still e ^^^ turnedN n1 < 2 ^ 32 := xlt hE (turnedN_lt n1)
  refine ⟨?_, ?_, ?_⟩
  · have : x.back0 = turnedN n0 := by
      unfold Law01.back0 Law01.behind
      rw [t, hxe, hxl]
      unfold X01
      rw [downN_uN (G0_lt n0)]
      unfold G0
      rw [xor_self_right, downN_uN hx0, Nat.xor_comm, xor_self_left]
    rw [this, turned_turned h0]
  · have : x.back1 = turnedN n1 := by
      unfold Law01.back1 Law01.behind
      rw [o, hxe, hxl]
      unfold Y01
      rw [downN_uN (H1_lt n1 e)]
      unfold H1
      rw [xor_self_right, downN_uN hx1, Nat.xor_comm, xor_self_left]
    rw [this, turned_turned h1]
  · have : x.back2 = turnedN n2 := by
      unfold Law01.back2
      rw [o, t, hxl, a4]
      unfold Z01
      rw [downN_uN hZ', Nat.xor_comm, xor_self_left]
    rw [this, turned_turned h2]
theorem hand_pair {k : Nat} {p : Str × Str} (hk : k < 5) (h : p ∈ handT k) : ∃ c e, p.1 = strL [c] ∧ p.2 = strL e ∧ (c, [38] ++ e) ∈ escT k ∧ e.length ≤ 10 ∧ ∀ d ∈ e, d < 256 := by
  unfold handT at h
  obtain ⟨q, hq, rfl⟩ := List.mem_map.mp h
  obtain ⟨_, h2, h3, _, h5⟩ := esc_sign ⟨k, hk⟩ q hq
  refine ⟨q.1, q.2.drop 1, rfl, rfl, ?_, h3, fun d hd => Nat.lt_of_lt_of_le (h5 d (List.mem_of_mem_drop hd)) (by decide)⟩
  have : (q.1, [38] ++ q.2.drop 1) = q := by rw [← h2]
  rw [this]; exact hq
section
variable {prog : Program} {w : World} {mean : ExcName → Option Value} {mg mb : Str → Option Value} {A : Around} {E : Value → Shared → Prop} {s : Shared} {h₀ hp hf : Heap} {tk : Nat} {L f : Addr} {cd : Value} {Q : Flow → Shared → Prop} {m : Str → Option Value}
set_option maxHeartbeats 4000000 in
theorem law_all {o1 o2 o3 o4 : Obj} {l : Addr} {vs : List Value} {ns : List Int} (g : G w mean mg mb h₀) (hh : A.handled = none) (hroom : A.depth + 1 < recursionLimit) (hunits : A.units + 64 < cLine)
    (F : Fr h₀ L hp (fun _ => none)) (N : News h₀ L hp [(L + 1 + 1 + 1 + 1, o4), (L + 1 + 1 + 1, o3), (L + 1 + 1, o2), (L + 1, o1)])
    (d1 : o1.data = .cell (some (.ref l))) (d2 : o2.data = .cell none) (d3 : o3.data = .cell none) (d4 : o4.data = .cell none) (hl : h₀.IsList l vs.toArray) (hi : IntsAre vs ns) (hn : ns.length ≤ 63)
    (k : ∀ h' tk' hf' m', Kp h₀ L hf' h' m' → Q (.ret (.bool true)) { s with heap := h', toks := tk' }) :
    wpAny (model prog w) A (execs [ls 0, ls 1, ls 2, ls 3, ls 4, ls 5, ls 6, ls 7, ls 8, ls 9, ls 10, ls 11, ls 12, ls 13, ls 14, ls 15, ls 16, ls 17, ls 18, ls 19, ls 20, ls 21, ls 22, ls 23] (lawEnv L f cd)) Q E { s with heap := hp, toks := tk } := by
  refine wpAny_execs_cons ?_
  refine st1 g F N d2 fun h1 tk1 b ob o2' bs hb hbl hbi d2' F1 N1 => ?_
  refine wpAny_execs_cons ?_
  refine st2 g hh F1 N1 d1 d2' d3 hb hbl hbi hl hi hn fun h2 tk2 b2 ob2 o3' bs2 hb2 hbl2 hbi2 hb4 d3' F2 N2 => ?_
  refine wpAny_execs_cons ?_
  refine st3 g hh hroom F2 N2 d3' hb2 hbl2 hbi2 hb4 fun h3 tk3 D ys hf3 news hyl hyk hD hB hcell hE hheld hne F3 N3 => ?_
  have hks : ∃ ks : Nat → Nat, ∀ (i : Nat) y, ys[i]? = some y → ks i < 5 ∧ HandAt hf3 y (ks i) := by
    match ys, hyl, hyk with
    | [y0, y1, y2], _, hyk =>
      obtain ⟨k0, a0, b0⟩ := hyk 0 y0 rfl
      obtain ⟨k1, a1, b1⟩ := hyk 1 y1 rfl
      obtain ⟨k2, a2, b2⟩ := hyk 2 y2 rfl
      refine ⟨fun i => match i with | 0 => k0 | 1 => k1 | _ => k2, fun i y e => ?_⟩
      match i, e with
      | 0, e => cases e; exact ⟨a0, b0⟩
      | 1, e => cases e; exact ⟨a1, b1⟩
      | 2, e => cases e; exact ⟨a2, b2⟩
      | i + 3, e => simp at e
  obtain ⟨ks, hks⟩ := hks
  obtain ⟨y0, hy0⟩ : ∃ y, ys[0]? = some y := ⟨ys[0]'(by omega), by simp⟩
  obtain ⟨y1, hy1⟩ : ∃ y, ys[1]? = some y := ⟨ys[1]'(by omega), by simp⟩
  obtain ⟨y2, hy2⟩ : ∃ y, ys[2]? = some y := ⟨ys[2]'(by omega), by simp⟩
  obtain ⟨k0, v0⟩ := hks 0 y0 hy0
  obtain ⟨k1, v1⟩ := hks 1 y1 hy1
  obtain ⟨k2, v2⟩ := hks 2 y2 hy2
  refine wpAny_execs_cons ?_
  refine st4 F3 N3 hE (by rfl) hD hy0 v0 fun h4 tk4 u hu F4 N4 => ?_
  refine wpAny_execs_cons ?_
  refine st5 g hh F4 N4 hE (by rfl) hu hB hcell hbl2 hbi2 k0 fun h5 tk5 v1' v2' p1 p2 m1 m2 q1 q2 F5 N5 => ?_
  obtain ⟨c, e, c1, c2, c3, c4, c5⟩ := hand_pair k0 m1
  obtain ⟨d, l', e1, e2, e3, e4, e5⟩ := hand_pair k0 m2
  refine wpAny_execs_cons ?_
  refine st6 hh F5 N5 hE hne (by rfl) hD hyl (ks := ks) (fun i y e => (hks i y e).2) d4 fun h6 tk6 hf6 D2 zs x6 hD2 hzs hc4 K6 => ?_
  refine wpAny_execs_cons ?_
  refine st7 g hh hroom K6 (IsList.at' hB x6) (cell_up hcell x6) hbl2 hbi2 hD2 hzs hc4 fun h7 tk7 hf7 DS ss nn x7 hDS hss hn3 hmade K7 => ?_
  match nn, hn3, hss, hmade with
  | [n0, n1, n2], _, hss, hmade =>
  have hks3 : ∀ i, i < 3 → ks i < 5 := by
    intro i hi
    have : i = 0 ∨ i = 1 ∨ i = 2 := by omega
    rcases this with rfl | rfl | rfl <;> assumption
  obtain ⟨b0, av0⟩ := made_av hks3 (hmade n0 (by simp))
  obtain ⟨b1, av1⟩ := made_av hks3 (hmade n1 (by simp))
  obtain ⟨b2, av2⟩ := made_av hks3 (hmade n2 (by simp))
  refine wpAny_execs_cons ?_
  refine st8 g hh K7 (by rfl) hDS hss rfl fun h8 tk8 hf8 B bb x8 hBB hbb K8 => ?_
  have x36 := x6
  have x38 : Ext hf3 hf8 := ext_trans x6 (ext_trans x7 x8)
  refine wpAny_execs_cons ?_
  refine st9 g hh hroom K8 (by rfl) (IsList.at' hD x38) hy0 (HandAt.up v0 x38) (by rfl) hBB hbb (by rfl) (PairAt.up q1 x38) c1 (by rfl) (PairAt.up q2 x38) e1 fun h9 tk9 t9 K9 => ?_
  rw [esc_first k0 c3 e3 (av0 0 (by decide)) (av1 0 (by decide)) (av2 0 (by decide))] at K9
  refine wpAny_execs_cons ?_
  refine stE (n := 9) (i := 1) rfl g hroom K9 (by rfl) (IsList.at' hD x38) rfl (by decide) hy1 (HandAt.up v1 x38) (by rfl) (textK_len c4 e4 (by decide)) fun h10 tk10 t10 K10 => ?_
  rw [esc_next k1 (by decide) k0 c3 e3 (av0 1 (by decide)) (av1 1 (by decide)) (av2 1 (by decide))] at K10
  refine wpAny_execs_cons ?_
  refine stE (n := 10) (i := 2) rfl g hroom K10 (by rfl) (IsList.at' hD x38) rfl (by decide) hy2 (HandAt.up v2 x38) (by rfl) (textK_len c4 e4 (by decide)) fun h11 tk11 t11 K11 => ?_
  rw [esc_next k2 (by decide) k0 c3 e3 (av0 2 (by decide)) (av1 2 (by decide)) (av2 2 (by decide))] at K11
  refine wpAny_execs_cons ?_
  refine st12 g hh K11 (by rfl) hBB hbb (by rfl) (PairAt.up q1 x38) c2 (by rfl) (PairAt.up q2 x38) e2 c4 e4 (by rfl) (by rfl) (by rfl) fun h12 tk12 hf12 m12 x12 same K12 => ?_
  have up256 : ∀ {cs : List Nat}, (∀ c ∈ cs, c < 256) → ∀ c ∈ cs, c < 2 ^ 32 := fun h c hc => Nat.lt_of_lt_of_le (h c hc) (by decide)
  refine wpAny_execs_cons ?_
  refine st13 g hh hroom K12 ((same _ (by decide) (by decide) (by decide)).trans (by rfl)) ((same _ (by decide) (by decide) (by decide)).trans (by rfl)) ((same _ (by decide) (by decide) (by decide)).trans (by rfl))
    (up256 (textK_lt c5 e5 (by decide))) (up256 (textK_lt c5 e5 (by decide))) (up256 (textK_lt c5 e5 (by decide))) fun h13 tk13 hf13 DT tt x13 hDT htt K13 => ?_
  refine wpAny_execs_cons ?_
  refine st14 g hh K13 (by rfl) hDT htt (by simp) fun h14 tk14 K14 => ?_
  refine wpAny_execs_cons ?_
  refine st15 g hh hroom K14 (by rfl) hDT htt (by simp) fun h15 tk15 hf15 DU uu x15 hDU huu K15 => ?_
  have x8f : Ext hf8 hf15 := ext_trans x12 (ext_trans x13 x15)
  have x3f : Ext hf3 hf15 := ext_trans x38 x8f
  simp only [List.map_cons, List.map_nil, xor_self_right] at huu
  let x : Law01 := ⟨turnedN (sumR (textK n0 n1 n2 e l' 0)), turnedN (sumR (textK n0 n1 n2 e l' 1)), turnedN (sumR (textK n0 n1 n2 e l' 2)), e, l'⟩
  have hl15 : (fun z => if z = Str.ofString "sums" then some (Value.ref DU) else (fun z => if z = Str.ofString "told" then some (Value.ref DT) else m12 z) z) (Str.ofString "early") = some v1' :=
    (same _ (by decide) (by decide) (by decide)).trans (by rfl)
  have hl16 : (fun z => if z = Str.ofString "sums" then some (Value.ref DU) else (fun z => if z = Str.ofString "told" then some (Value.ref DT) else m12 z) z) (Str.ofString "late") = some v2' :=
    (same _ (by decide) (by decide) (by decide)).trans (by rfl)
  have hl17 : (fun z => if z = Str.ofString "sums" then some (Value.ref DU) else (fun z => if z = Str.ofString "told" then some (Value.ref DT) else m12 z) z) (Str.ofString "stretches") = some (.ref DS) :=
    (same _ (by decide) (by decide) (by decide)).trans (by rfl)
  refine law_tail (Q := Q) (ys := uu) x g hh hroom hunits K15 (by rfl) hDU huu (turnedN_lt _) (turnedN_lt _) (turnedN_lt _) hl17 (IsList.at' hDS (ext_trans x8 x8f)) hss hl15 (PairAt.up q1 x3f) c2 hl16 (PairAt.up q2 x3f) e2 c4 e4 fun h' tk' hf' m' K' => ?_
  obtain ⟨r0, r1, r2⟩ := plain01 b0 b1 b2 e l' c5 e5 x rfl rfl rfl rfl rfl
  rw [r0, r1, r2, decide_eq_true rfl]
  exact k h' tk' hf' m' K'
end
theorem room_depth (e : Env) : (callerA.deeper e).depth + 1 < recursionLimit := by
  simp only [depth_deeper, depth_caller]
  decide +kernel
theorem room_units (e : Env) : (callerA.deeper e).units + 64 < cLine := by
  simp only [units_deeper, units_caller]
  decide +kernel
end Mine
set_option maxHeartbeats 8000000 in
theorem PySem.Challenge.cw_ph0069_01_holds : PySem.Challenge.rw_ph0069_01.Holds := by
  refine Mine.hd ?_
  k_go0
  all_goals (try k_fold)
  rename Fr _ _ _ _ => F
  rename News _ _ _ _ => N
  rename Heap.IsList _ _ _ => hl
  rename IntsAre _ _ => hi
  rename Top _ _ _ _ _ _ => T
  rename Frag.In _ _ => X
  rename (¬ ((63 : Nat) : Int) < _) => hc
  rename (Shared.gens _ = #[]) => hgens
  refine Mine.law_all ⟨X, T⟩ rfl (Mine.room_depth _) (Mine.room_units _) F N (by assumption) (by assumption) (by assumption) (by assumption) hl hi (by omega) ?_
  intro h' tk' hf' m' K'
  have F9 := K'.F
  w_end
  wrow_close
