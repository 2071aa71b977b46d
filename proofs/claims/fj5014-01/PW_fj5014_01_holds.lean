import PyProof.Rows.All
import Wide.All
import OpenK.AllK
import Wide.FinOn
import PySem.Challenge.RW_fj5014_01
set_option Elab.async false
section
open PySem PySem.W PyProof.Rows
set_option maxRecDepth 100000
set_option maxHeartbeats 0
namespace Mine
open_top hd for PySem.Challenge.rw_fj5014_01
end Mine
end

section
open PySem PySem.W PyProof.Rows
set_option maxRecDepth 100000
namespace Mine
theorem gen_tk {α : Type} {M : Model} {A : Around} {t : Sem α} {Q : α → Shared → Prop} {E : Value → Shared → Prop} {h : Heap} {g : Array GenState} {d : Drawn} {a b : Nat} {os : OsState} (H : ∀ k, wpAny M A t Q E ⟨h, g, d, k, os⟩) : wpAny M A t Q E ⟨h, g, d, a + b, os⟩ := H _
end Mine
end

section
open PySem PySem.W PyProof.Rows PySem.Calls
set_option maxRecDepth 100000
namespace Mine
/-- a contract of a def of the text: room for r frames -/
abbrev MyClaim (r : Nat) (w : World) (f : Addr) (news : List (Addr × Obj)) (pre : Prop) (vs : List Value) (R : Tok → Value) : Prop :=
  ∀ (p : Program) (loose : List Str) (mean : ExcName → Option Value) (mg mb : Str → Option Value) (dp un : Nat) (gd : Option (List Code)) (cn : Str) (cs : Scope) (a : Addr) (ccd : Value) (cl : List (Str × Addr)) (outer : List Env) (A₀ : Around) (base h₀ : Heap) (L : Addr) (m : Str → Option Value) (s : Shared) (Q E : Value → Shared → Prop),
    Below A₀ base outer h₀ → Fr h₀ L s.heap m → (Mine.hd.heap_39 w.params).In h₀ → News h₀ L s.heap news → Top p loose mean mg mb h₀ → cs.kind = .function → pre → dp + r < recursionLimit → un + 8 * r < cLine → CbRet h₀ L m news s Q R →
      wpAny (model PySem.Challenge.rw_fj5014_01.row.prog w) (ktrTop dp un gd cn cs L a ccd cl outer) (PySem.call (.ref f) vs) Q E s
theorem use1 {prog : Program} {w : World} {K : Frag} {p : Program} {loose : List Str} {mean : ExcName → Option Value} {mg mb : Str → Option Value} {f : Addr} {news : List (Addr × Obj)} {pre : Prop} {vs : List Value} {R : Tok → Value} (C : CbClaim prog w K p loose mean mg mb f news [] pre vs R)
    {dp un : Nat} {gd : Option (List Code)} {cn : Str} {cs : Scope} {a : Addr} {ccd : Value} {cl : List (Str × Addr)} {outer : List Env} {A₀ : Around} {base h₀ : Heap} {L : Addr} {m : Str → Option Value} {s : Shared} {Q E : Value → Shared → Prop}
    (hB : Below A₀ base outer h₀) (hF : Fr h₀ L s.heap m) (hK : K.In h₀) (hN : News h₀ L s.heap news) (hT : Top p loose mean mg mb h₀) (hcs : cs.kind = .function) (hp : pre) (hd : dp + 1 < recursionLimit) (hu : un + 8 < cLine) (hr : CbRet h₀ L m news s Q R) :
    wpAny (model prog w) (ktrTop dp un gd cn cs L a ccd cl outer) (PySem.call (.ref f) vs) Q E s := C dp un gd cn cs a ccd cl outer A₀ base h₀ L m s Q E hB hF hK hN hT hcs hp hd hu hr
theorem use2 {r : Nat} {w : World} {p : Program} {loose : List Str} {mean : ExcName → Option Value} {mg mb : Str → Option Value} {f : Addr} {news : List (Addr × Obj)} {pre : Prop} {vs : List Value} {R : Tok → Value} (C : MyClaim r w f news pre vs R)
    {dp un : Nat} {gd : Option (List Code)} {cn : Str} {cs : Scope} {a : Addr} {ccd : Value} {cl : List (Str × Addr)} {outer : List Env} {A₀ : Around} {base h₀ : Heap} {L : Addr} {m : Str → Option Value} {s : Shared} {Q E : Value → Shared → Prop}
    (hB : Below A₀ base outer h₀) (hF : Fr h₀ L s.heap m) (hK : (Mine.hd.heap_39 w.params).In h₀) (hN : News h₀ L s.heap news) (hT : Top p loose mean mg mb h₀) (hcs : cs.kind = .function) (hp : pre) (hd : dp + r < recursionLimit) (hu : un + 8 * r < cLine) (hr : CbRet h₀ L m news s Q R) :
    wpAny (model PySem.Challenge.rw_fj5014_01.row.prog w) (ktrTop dp un gd cn cs L a ccd cl outer) (PySem.call (.ref f) vs) Q E s := C p loose mean mg mb dp un gd cn cs a ccd cl outer A₀ base h₀ L m s Q E hB hF hK hN hT hcs hp hd hu hr
end Mine
end

section
open PySem PySem.W PyProof.Rows PySem.Calls
set_option maxRecDepth 100000
namespace Mine
section
variable {prog : Program} {w : World} {A : Around} {E : Value → Shared → Prop} {s : Shared} {env : Env} {h₀ : Heap} {x : Str} {body : List Stmt} {Q : Flow → Shared → Prop}
theorem strs_len : ∀ {vs : List Value} {hs : List Str}, StrsAre vs hs → vs.length = hs.length
  | _, _, .nil => rfl
  | _, _, .cons _ _ h => by simp [strs_len h]
theorem strs_get : ∀ {vs : List Value} {hs : List Str}, StrsAre vs hs → ∀ {i : Nat} {v : Value}, vs[i]? = some v → ∃ y t, hs[i]? = some y ∧ v = .str y t
  | _, _, .nil, i, v, h => by simp at h
  | _, _, .cons y t r, 0, v, h => by simp at h; exact ⟨y, t, by simp, h.symm⟩
  | _, _, .cons y t r, i + 1, v, h => by
    simp at h
    obtain ⟨z, u, h1, h2⟩ := strs_get r h
    exact ⟨z, u, by simpa using h1, h2⟩
theorem fr_off {L : Addr} {h : Heap} {m₁ m₀ : Str → Option Value} {v : Option Value} (F : Fr h₀ L h (fun y => if y = x then v else m₁ y)) (hm : ∀ z, z ≠ x → m₁ z = m₀ z) : Fr h₀ L h (fun y => if y = x then v else m₀ y) := by
  have e : (fun y => if y = x then v else m₁ y) = fun y => if y = x then v else m₀ y := by
    funext y
    by_cases hy : y = x
    · simp [hy]
    · simp only [if_neg hy]; exact hm y hy
  rw [e] at F
  exact F
abbrev StrsJ (x : Str) (m₀ : Str → Option Value) (news : List (Addr × Obj)) (P : Prop) (m' : Str → Option Value) (nx : List (Addr × Obj)) : Prop := nx = news ∧ (∀ z, z ≠ x → m' z = m₀ z) ∧ P
theorem iter_strs {l : Addr} {vs : List Value} {hs : List Str} {m₀ : Str → Option Value} {news : List (Addr × Obj)} (P : List Str → Prop)
    (hh : A.handled = none) (hls : s.heap.IsList l vs.toArray) (hsrc : (∃ o, h₀.get? l = some o) ∨ ∃ o, (l, o) ∈ news) (hi : StrsAre vs hs) (F : Fr h₀ env.locals s.heap m₀) (N : News h₀ env.locals s.heap news) (hp : P [])
    (turn : ∀ pre y post t h tk own, hs = pre ++ y :: post → P pre → Fr h₀ env.locals h (fun z => if z = x then some (.str y t) else m₀ z) → News h₀ env.locals h (news ++ own) →
      wpAny (model prog w) A (execs body env) (InvPostN h₀ env.locals (StrsJ x m₀ news (P (pre ++ [y]))) own (news.map (·.1)) { s with heap := h, toks := tk } Q) E { s with heap := h, toks := tk })
    (done : ∀ (u : Str → Option Value) h tk, P hs → Fr h₀ env.locals h (fun z => if z = x then u z else m₀ z) → News h₀ env.locals h news → Q .next { s with heap := h, toks := tk }) :
    wpAny (model prog w) A (pyIter (.ref l)) (fun it s₂ => LoopAtV prog w A h₀ env x body Q E it s₂) E s := by
  obtain ⟨ol, hol, _⟩ := id hls
  have hne : l ≠ s.heap.objs.size := Nat.ne_of_lt (Heap.lt_size hol)
  have hlL : l ≠ env.locals := by
    rcases hsrc with ⟨o, ho⟩ | ⟨o, ho⟩
    · exact Nat.ne_of_lt (Nat.lt_of_lt_of_le (Heap.lt_size ho) F.above)
    · exact (N _ ho).2.1
  refine wpAny_pyIter_list hls ?_
  have W := Walks.list (prog := prog) (w := w) hh s.heap.objs.size l hne vs.toArray
  have hlen : vs.toArray.size = hs.length := by simp [strs_len hi]
  rw [hlen] at W
  refine ⟨_, _, _, hs.length, _, _, m₀, news, (fun i m nx => StrsJ x m₀ news (P (hs.take i)) m nx), rfl, W, ?_, ?_, ?_, ⟨⟨_, Heap.get?_push_size _ rfl, rfl, rfl⟩, hls.at fun o e => Heap.get?_push_of_some _ e⟩, F.push _, (fun p hp => ⟨Heap.get?_push_of_some _ (N p hp).1, (N p hp).2⟩), ⟨rfl, fun _ _ => rfl, by simpa using hp⟩, ?_, ?_⟩
  · intro hm
    rcases List.mem_cons.mp hm with e | hm
    · exact absurd F.ns.lt (e ▸ Nat.lt_irrefl _)
    · exact hlL (List.mem_singleton.mp hm).symm
  · intro b hb
    rw [List.mem_singleton.mp hb]
    exact next_is_new F
  · intro p hp hI
    exact absurd (Heap.lt_size (N p hp).1) ((List.mem_singleton.mp hI) ▸ Nat.lt_irrefl _)
  · rintro i v m₁ news₁ s₁ own ⟨hh', tk', rfl⟩ hin hP ⟨rfl, hm, hJ⟩ hoff hown hget hfp _ F₁ N₁
    obtain ⟨y, t, hy, rfl⟩ := strs_get hi (by simpa using hP)
    have hs1 : hs.take (i + 1) = hs.take i ++ [y] := by simp [List.take_add_one, hy]
    have e : hs = hs.take i ++ y :: hs.drop (i + 1) := by
      have ht := List.take_append_drop (i + 1) hs
      rw [hs1, List.append_assoc] at ht
      exact ht.symm
    dsimp only
    rw [hs1]
    refine wpAny_mono (turn _ y _ t hh' tk' (own.filter fun p => decide (p.1 = s.heap.objs.size)) e hJ (fr_off F₁ hm) (fun p hp => N₁ p ((List.mem_append.mp hp).elim (fun h => List.mem_append.mpr (.inr h)) fun h => List.mem_append.mpr (.inl ((List.mem_filter.mp h).1))))) (fun f s₂ p => ?_) fun _ _ e => e
    have fin : InvEndN h₀ env.locals (StrsJ x m₀ news₁ (P (hs.take i ++ [y]))) (own.filter fun p => decide (p.1 = s.heap.objs.size)) (news₁.map (·.1)) { s with heap := hh', toks := tk' } s₂ →
        LoopStepU h₀ env.locals [s.heap.objs.size] own (fun m nx => StrsJ x m₀ news₁ (P (hs.take i ++ [y])) m nx) { s with heap := hh', toks := tk' } .next s₂ := by
      rintro ⟨h', tk, m', news', nx, e, F', N', hn, ho, ha, rfl, hm', hp'⟩
      refine ⟨rfl, h', tk, m', nx, e, F', fun p hp => ?_, hoff, rfl, hm', hp'⟩
      rcases List.mem_append.mp hp with h | h
      · by_cases hI : p.1 = s.heap.objs.size
        · exact N' p (ho p (List.mem_filter.mpr ⟨h, by simpa using hI⟩))
        · have h1 : p.1 = l := by
            rcases List.mem_cons.mp (hown p h) with h2 | h2
            · exact absurd h2 hI
            · exact List.mem_singleton.mp h2
          rcases hsrc with ⟨o, h3⟩ | ⟨o, h3⟩
          · have h4 := (N₁ p (List.mem_append.mpr (.inl h))).2.2
            rw [h1, h3] at h4
            cases h4
          · have h5 := (N₁ _ (List.mem_append.mpr (.inr h3))).1
            have h6 := hget p h
            rw [h1, h5] at h6
            have h7 : p = (l, o) := Prod.ext h1 (Option.some.inj h6).symm
            rw [h7]
            exact N' _ (hn _ h3)
      · exact N' p (hn p h)
    cases f with
    | ret v => exact .ret p
    | brk => exact .brk p
    | next => exact .next (fin p)
    | cont => exact .cont (fin p)
  · rintro h' tk m' news' F' N' _ ⟨rfl, hm, hJ⟩
    rw [List.take_length] at hJ
    refine done m' h' tk hJ ?_ N'
    have e : (fun z => if z = x then m' z else m₀ z) = m' := by
      funext z
      by_cases hz : z = x
      · simp [hz]
      · simp only [if_neg hz]; exact (hm z hz).symm
    rw [e]; exact F'
theorem iter_signs {xt : Str} {tx : Tok} {m₀ : Str → Option Value} {news : List (Addr × Obj)} (P : List Nat → Prop)
    (hh : A.handled = none) (F : Fr h₀ env.locals s.heap m₀) (N : News h₀ env.locals s.heap news) (hp : P [])
    (turn : ∀ pre n post t h tk own, xt.cps.toList = pre ++ n :: post → P pre → Fr h₀ env.locals h (fun z => if z = x then some (.str ⟨#[n]⟩ t) else m₀ z) → News h₀ env.locals h (news ++ own) →
      wpAny (model prog w) A (execs body env) (InvPostN h₀ env.locals (StrsJ x m₀ news (P (pre ++ [n]))) own (news.map (·.1)) { s with heap := h, toks := tk } Q) E { s with heap := h, toks := tk })
    (done : ∀ (u : Str → Option Value) h tk, P xt.cps.toList → Fr h₀ env.locals h (fun z => if z = x then u z else m₀ z) → News h₀ env.locals h news → Q .next { s with heap := h, toks := tk }) :
    wpAny (model prog w) A (pyIter (.str xt tx)) (fun it s₂ => LoopAtV prog w A h₀ env x body Q E it s₂) E s := by
  refine wpAny_pyIter_str fun o St hW hst => ?_
  have W := hW A hh
  refine loop_invN (fun i m nx => StrsJ x m₀ news (P (xt.cps.toList.take i)) m nx) W ?_ ?_ ?_ ?_ hst (F.push _) (fun p hp => ⟨Heap.get?_push_of_some _ (N p hp).1, (N p hp).2⟩) ⟨rfl, fun _ _ => rfl, by simpa using hp⟩ ?_ ?_
  · intro hm
    exact absurd F.ns.lt ((List.mem_singleton.mp hm) ▸ Nat.lt_irrefl _)
  · intro b' hb
    rw [List.mem_singleton.mp hb]
    exact next_is_new F
  · intro p hp hI
    exact absurd (Heap.lt_size (N p hp).1) ((List.mem_singleton.mp hI) ▸ Nat.lt_irrefl _)
  · intro p hp hI
    exact absurd (Heap.lt_size (N p hp).1) ((List.mem_singleton.mp hI) ▸ Nat.lt_irrefl _)
  · rintro i v m₁ nx h tk own hi ⟨n, u, hn, rfl⟩ _ hoff ⟨rfl, hm, hp'⟩ F₁ N₁
    have hn' : xt.cps.toList[i]? = some n := by simpa using hn
    have hs : xt.cps.toList.take (i + 1) = xt.cps.toList.take i ++ [n] := by simp [List.take_add_one, hn']
    have e : xt.cps.toList = xt.cps.toList.take i ++ n :: xt.cps.toList.drop (i + 1) := by
      have ht := List.take_append_drop (i + 1) xt.cps.toList
      rw [hs, List.append_assoc] at ht
      exact ht.symm
    dsimp only
    rw [hs]
    exact turn _ n _ u h tk own e hp' (fr_off F₁ hm) N₁
  · rintro m₁ nx h tk ⟨rfl, hm, hp'⟩ F₁ N₁
    have hl : xt.cps.size = xt.cps.toList.length := by simp
    rw [hl, List.take_length] at hp'
    refine done m₁ h tk hp' ?_ N₁
    have e : (fun z => if z = x then m₁ z else m₀ z) = m₁ := by
      funext z
      by_cases hz : z = x
      · simp [hz]
      · simp only [if_neg hz]; exact (hm z hz).symm
    rw [e]; exact F₁
theorem strs_end {L : Addr} {m₀ m' : Str → Option Value} {news own nw : List (Addr × Obj)} {P : Prop} {s₁ : Shared} {h' : Heap} {tk : Nat} (F : Fr h₀ L h' m') (N : News h₀ L h' nw) (hs : ∀ p ∈ news ++ own, p ∈ nw) (hm : ∀ z, z ≠ x → m' z = m₀ z) (hp : P) :
    InvEndN h₀ L (StrsJ x m₀ news P) own (news.map (·.1)) s₁ { s₁ with heap := h', toks := tk } :=
  ⟨h', tk, m', nw, news, rfl, F, N, fun p h => hs p (List.mem_append.mpr (.inl h)), fun p h => hs p (List.mem_append.mpr (.inr h)), rfl, rfl, hm, hp⟩
end
end Mine
end

section
open PySem PySem.W PyProof.Rows
set_option maxRecDepth 100000
set_option maxHeartbeats 0
namespace Mine
theorem walk_state1 : True := by
  w_top off
  k_with_none
  trivial
local macro_rules | `(tactic| walk_at "execs cons") => `(tactic| (k_here; with_reducible refine gen_tk ?_; intro tk9))
local macro_rules | `(tactic| walk_at "execs nil") => `(tactic| (k_here; with_reducible refine gen_tk ?_; intro tk9))
theorem str_ext {x y : Str} (h : x.cps.toList = y.cps.toList) : x = y := by
  obtain ⟨⟨a⟩⟩ := x; obtain ⟨⟨b⟩⟩ := y; simp at h; simp [h]
theorem cat_toList (x y : Str) : (x ++ y).cps.toList = x.cps.toList ++ y.cps.toList := by
  show (x.cps ++ y.cps).toList = _
  simp
theorem len_toList (x : Str) : x.length = x.cps.toList.length := by
  show x.cps.size = _
  simp
theorem one_beq (n c : Nat) (y : Str) (hy : y = ⟨#[c]⟩) : ((⟨#[n]⟩ : Str) == y) = decide (n = c) := by
  subst hy
  rw [Bool.eq_iff_iff, beq_iff_eq, decide_eq_true_eq]
  simp
def nameC (c : Nat) : List Nat :=
  if c = 38 then [38, 97, 109, 112, 59] else if c = 60 then [38, 108, 116, 59] else if c = 62 then [38, 103, 116, 59] else if c = 34 then [38, 113, 117, 111, 116, 59] else [c]
def namesL (l : List Nat) : List Nat := l.flatMap nameC
def namesS (x : Str) : Str := ⟨(namesL x.cps.toList).toArray⟩
def NmP (pre : List Int) (out : Str) : Prop := out.length ≤ 6 * pre.length ∧ out.cps.toList = namesL (pre.map Int.toNat)
theorem nameC_len (c : Nat) : (nameC c).length ≤ 6 := by unfold nameC; (repeat' split) <;> (simp only [List.length_cons, List.length_nil]; omega)
theorem nm_start : (Str.ofString "").length ≤ 6 * ([] : List Int).length ∧ (Str.ofString "").cps.toList = namesL (List.map Int.toNat []) := by decide +kernel
theorem nm_step {pre : List Int} {out y : Str} {n : Nat} (h1 : out.length ≤ 6 * pre.length) (h2 : out.cps.toList = namesL (pre.map Int.toNat)) (hy : y.cps.toList = nameC n) :
    (out ++ y).length ≤ 6 * (pre ++ [(n : Int)]).length ∧ (out ++ y).cps.toList = namesL ((pre ++ [(n : Int)]).map Int.toNat) := by
  refine ⟨?_, ?_⟩
  · rw [len_toList, cat_toList, List.length_append, ← len_toList, hy, List.length_append]
    have := nameC_len n
    simp only [List.length_cons, List.length_nil]
    omega
  · rw [cat_toList, h2, hy]
    simp [namesL]
section
variable {n : Nat}
theorem amp1 (h : ((⟨#[n]⟩ : Str) == Str.ofString "&") = true) : n = 38 := by rw [one_beq n 38 _ (by decide +kernel)] at h; simpa using h
theorem amp0 (h : ((⟨#[n]⟩ : Str) == Str.ofString "&") = false) : n ≠ 38 := by rw [one_beq n 38 _ (by decide +kernel)] at h; simpa using h
theorem lt1 (h : ((⟨#[n]⟩ : Str) == Str.ofString "<") = true) : n = 60 := by rw [one_beq n 60 _ (by decide +kernel)] at h; simpa using h
theorem lt0 (h : ((⟨#[n]⟩ : Str) == Str.ofString "<") = false) : n ≠ 60 := by rw [one_beq n 60 _ (by decide +kernel)] at h; simpa using h
theorem gt1 (h : ((⟨#[n]⟩ : Str) == Str.ofString ">") = true) : n = 62 := by rw [one_beq n 62 _ (by decide +kernel)] at h; simpa using h
theorem gt0 (h : ((⟨#[n]⟩ : Str) == Str.ofString ">") = false) : n ≠ 62 := by rw [one_beq n 62 _ (by decide +kernel)] at h; simpa using h
theorem qu1 (h : ((⟨#[n]⟩ : Str) == Str.ofString "\"") = true) : n = 34 := by rw [one_beq n 34 _ (by decide +kernel)] at h; simpa using h
theorem qu0 (h : ((⟨#[n]⟩ : Str) == Str.ofString "\"") = false) : n ≠ 34 := by rw [one_beq n 34 _ (by decide +kernel)] at h; simpa using h
theorem hy1 (h : n = 38) : (Str.ofString "&amp;").cps.toList = nameC n := by subst h; decide +kernel
theorem hy2 (h : n = 60) : (Str.ofString "&lt;").cps.toList = nameC n := by subst h; decide +kernel
theorem hy3 (h : n = 62) : (Str.ofString "&gt;").cps.toList = nameC n := by subst h; decide +kernel
theorem hy4 (h : n = 34) : (Str.ofString "&quot;").cps.toList = nameC n := by subst h; decide +kernel
theorem hy5 (h1 : n ≠ 38) (h2 : n ≠ 60) (h3 : n ≠ 62) (h4 : n ≠ 34) : (⟨#[n]⟩ : Str).cps.toList = nameC n := by simp [nameC, h1, h2, h3, h4]
end
theorem nm_fin {x out : Str} (h : out.length ≤ 6 * x.length ∧ out.cps.toList = namesL ((KStt.codes x).map Int.toNat)) : out = namesS x := by
  refine str_ext ?_
  rw [h.2]
  have : (KStt.codes x).map Int.toNat = x.cps.toList := by
    unfold KStt.codes
    rw [List.map_map]
    have : (Int.toNat ∘ fun (c : Nat) => (c : Int)) = id := by funext c; simp
    rw [this, List.map_id]
  rw [this]
  simp [namesS]

theorem names_ok {w : World} {p : Program} {loose : List Str} {mean : ExcName → Option Value} {mg mb : Str → Option Value} (x : Str) (tx : Tok) (news : List (Addr × Obj)) :
    CbClaim PySem.Challenge.rw_fj5014_01.row.prog w (Mine.hd.heap_39 w.params) p loose mean mg mb 453 news [] (x.length ≤ 1048576) [.str x tx] (fun t => .str (namesS x) t) := by
  k_fill
  k_with "pyIter str" => k_state (fun pre out => out.length ≤ 6 * pre.length ∧ out.cps.toList = namesL (pre.map Int.toNat)) "out"
  k_with "state" => first
    | exact nm_start
    | exact nm_step (by assumption) (by assumption) (hy1 (amp1 (by assumption)))
    | exact nm_step (by assumption) (by assumption) (hy2 (lt1 (by assumption)))
    | exact nm_step (by assumption) (by assumption) (hy3 (gt1 (by assumption)))
    | exact nm_step (by assumption) (by assumption) (hy4 (qu1 (by assumption)))
    | exact nm_step (by assumption) (by assumption) (hy5 (amp0 (by assumption)) (lt0 (by assumption)) (gt0 (by assumption)) (qu0 (by assumption)))
  dsimp only [CbClaim, CbLists, CbRet]
  intro dp un gd cn cs a ccd cl outer A₀ base h₀ L m s Q E hB hF hK hN hT hcs hp hd hu hret
  refine wpAny_call ?_
  k_dflt cell_enter
  k_steps
  all_goals exact cb_retS (Q := Q) hret (nm_fin ⟨by assumption, by assumption⟩) (by k_asm) (by k_asm)
end Mine
end

section
open PySem PySem.W PyProof.Rows
set_option maxRecDepth 100000
namespace Mine
/-- a text's signs -/
abbrev LL (x : Str) : List Nat := x.cps.toList
def chAt (x : Str) (k : Int) : Nat := (LL x)[k.toNat]?.getD 0
theorem item_eq (x : Str) {k : Int} (h : 0 ≤ k) : Txt.item x k = ⟨#[chAt x k]⟩ := by
  unfold Txt.item Txt.charAt chAt seqIndex?
  have e : ¬ (k < 0) := by omega
  simp only [e, if_false]
  by_cases hk : k < (x.length : Int)
  · simp [h, hk]
  · have hn : ¬ (k.toNat < x.cps.size) := by
      have : x.length = x.cps.size := rfl
      omega
    have h2 : x.cps.toList.length ≤ k.toNat := by simp; omega
    simp only [h, hk, decide_true, decide_false, Bool.and_false, Bool.false_eq_true, if_false, Option.bind_none, LL]
    rw [List.getElem?_eq_none h2]
theorem drop_ch (x : Str) {k : Int} (h : 0 ≤ k) (hk : k < (x.length : Int)) : (LL x).drop k.toNat = chAt x k :: (LL x).drop (k + 1).toNat := by
  have hn : k.toNat < (LL x).length := by simp only [LL, Array.length_toList]; have : x.length = x.cps.size := rfl; omega
  have e : (k + 1).toNat = k.toNat + 1 := by omega
  rw [List.drop_eq_getElem_cons hn, e]
  unfold chAt
  rw [List.getElem?_eq_getElem hn]; rfl
theorem drop_end (x : Str) {k : Int} (hk : ¬ k < (x.length : Int)) : (LL x).drop k.toNat = [] := by
  apply List.drop_eq_nil_of_le
  simp only [LL, Array.length_toList]
  have : x.length = x.cps.size := rfl
  omega
def hexs : List Nat := [48, 49, 50, 51, 52, 53, 54, 55, 56, 57, 97, 98, 99, 100, 101, 102, 65, 66, 67, 68, 69, 70]
def isHx (c : Nat) : Bool := hexs.contains c
def hv (c : Nat) : Nat := if c ≤ 57 then c - 48 else if c ≤ 70 then c - 55 else c - 87
abbrev HX : Str := Str.ofString "0123456789abcdefABCDEF"
theorem hx_list : HX.cps.toList = hexs := by decide +kernel
theorem occ_hx (c : Nat) : (Builtin.Str.occurrences HX ⟨#[c]⟩ 0 HX.length 1).isEmpty = !isHx c := by
  have h := StrLaws.found_one HX c
  rw [hx_list] at h
  unfold isHx
  cases he : (Builtin.Str.occurrences HX ⟨#[c]⟩ 0 HX.length 1).isEmpty with
  | true => rw [he] at h; simp at h; simp [h]
  | false => rw [he] at h; simp at h; simp [h]
theorem low_hx : ∀ c ∈ hexs, (Builtin.Str.occurrences HX (Txt.lower ⟨#[c]⟩) 0 HX.length 1).isEmpty = false ∧ Txt.find HX (Txt.lower ⟨#[c]⟩) = (hv c : Int) ∧ hv c < 16 := by decide +kernel
theorem isHx_mem {c : Nat} (h : isHx c = true) : c ∈ hexs := by unfold isHx at h; simpa using h
/-- percent signs undone once -/
def onceL : List Nat → List Nat
  | 37 :: a :: b :: r => if isHx a && isHx b then (hv a * 16 + hv b) :: onceL r else 37 :: onceL (a :: b :: r)
  | c :: r => c :: onceL r
  | [] => []
def onceS (x : Str) : Str := ⟨(onceL (LL x)).toArray⟩
theorem once_other {c : Nat} {r : List Nat} (h : c ≠ 37) : onceL (c :: r) = c :: onceL r := by
  rw [onceL.eq_def]
  split <;> simp_all
theorem once_short {r : List Nat} (h : r.length < 2) : onceL (37 :: r) = 37 :: onceL r := by
  match r, h with
  | [], _ => simp [onceL]
  | [a], _ => simp [onceL]
theorem once_no {a b : Nat} {r : List Nat} (h : (isHx a && isHx b) = false) : onceL (37 :: a :: b :: r) = 37 :: onceL (a :: b :: r) := by
  rw [onceL]; simp [h]
theorem once_yes {a b : Nat} {r : List Nat} (h1 : isHx a = true) (h2 : isHx b = true) : onceL (37 :: a :: b :: r) = (hv a * 16 + hv b) :: onceL r := by
  rw [onceL]; simp [h1, h2]
section
variable {x out : Str} {k : Int}
def OnP (x : Str) (k : Int) (out : Str) : Prop := LL out ++ onceL ((LL x).drop k.toNat) = onceL (LL x)
theorem pc1 (h0 : 0 ≤ k) (h : (Txt.item x k == Str.ofString "%") = true) : chAt x k = 37 := by
  rw [item_eq x h0, one_beq _ 37 _ (by decide +kernel)] at h; simpa using h
theorem pc0 (h0 : 0 ≤ k) (h : (Txt.item x k == Str.ofString "%") = false) : chAt x k ≠ 37 := by
  rw [item_eq x h0, one_beq _ 37 _ (by decide +kernel)] at h; simpa using h
theorem oc1 (h0 : 0 ≤ k) (h : (Builtin.Str.occurrences HX (Txt.item x k) 0 HX.length 1).isEmpty = false) : isHx (chAt x k) = true := by
  rw [item_eq x h0, occ_hx] at h; simpa using h
theorem oc0 (h0 : 0 ≤ k) (h : (Builtin.Str.occurrences HX (Txt.item x k) 0 HX.length 1).isEmpty = true) : isHx (chAt x k) = false := by
  rw [item_eq x h0, occ_hx] at h; simpa using h
theorem idx_no (h2 : (Builtin.Str.occurrences HX (Txt.lower (Txt.item x k)) 0 HX.length 1).isEmpty = true) (h : (Builtin.Str.occurrences HX (Txt.item x k) 0 HX.length 1).isEmpty = false) (h0 : 0 ≤ k) : False := by
  have := oc1 h0 h
  rw [item_eq x h0, (low_hx _ (isHx_mem this)).1] at h2
  cases h2
theorem fd_eq (h0 : 0 ≤ k) (h : (Builtin.Str.occurrences HX (Txt.item x k) 0 HX.length 1).isEmpty = false) : Txt.find HX (Txt.lower (Txt.item x k)) = (hv (chAt x k) : Int) ∧ hv (chAt x k) < 16 := by
  have := oc1 h0 h
  rw [item_eq x h0]
  exact (low_hx _ (isHx_mem this)).2
theorem chr_lo {a b : Int} (h1 : 0 ≤ a) (h2 : 0 ≤ b) : 0 ≤ a * 16 + b := by omega
theorem chr_hi {j : Int} (h0 : 0 ≤ k) (h1 : 0 ≤ j) (h : (Builtin.Str.occurrences HX (Txt.item x k) 0 HX.length 1).isEmpty = false) (h2 : (Builtin.Str.occurrences HX (Txt.item x j) 0 HX.length 1).isEmpty = false) :
    Txt.find HX (Txt.lower (Txt.item x k)) * 16 + Txt.find HX (Txt.lower (Txt.item x j)) ≤ 1114111 := by
  obtain ⟨e1, l1⟩ := fd_eq h0 h
  obtain ⟨e2, l2⟩ := fd_eq h1 h2
  rw [e1, e2]; omega
theorem len_x (x : Str) : x.length = (LL x).length := len_toList x
theorem on_start : (0 : Int) ≤ 0 ∧ (0 : Int) ≤ x.length ∧ ((Str.ofString "").length : Int) ≤ 0 ∧ OnP x 0 (Str.ofString "") := by
  refine ⟨by omega, by omega, by decide +kernel, ?_⟩
  show LL (Str.ofString "") ++ onceL ((LL x).drop 0) = onceL (LL x)
  rw [List.drop_zero]
  have : LL (Str.ofString "") = [] := by decide +kernel
  rw [this, List.nil_append]
/-- a turn that takes one sign as it stands -/
theorem on_one (h0 : 0 ≤ k) (hk : k < (x.length : Int)) (hl : (out.length : Int) ≤ k) (hp : OnP x k out) (hs : onceL (chAt x k :: (LL x).drop (k + 1).toNat) = chAt x k :: onceL ((LL x).drop (k + 1).toNat)) :
    0 ≤ k + 1 ∧ k + 1 ≤ (x.length : Int) ∧ ((out ++ Txt.item x k).length : Int) ≤ k + 1 ∧ OnP x (k + 1) (out ++ Txt.item x k) := by
  refine ⟨by omega, by omega, ?_, ?_⟩
  · rw [item_eq x h0, len_toList, cat_toList, List.length_append, ← len_toList]
    simp only [List.length_cons, List.length_nil]; omega
  · unfold OnP at hp ⊢
    rw [← hp, drop_ch x h0 hk, hs, LL, cat_toList, item_eq x h0]
    simp
theorem on_A (h0 : 0 ≤ k) (hk : k < (x.length : Int)) (hl : (out.length : Int) ≤ k) (hp : OnP x k out) (h : (Txt.item x k == Str.ofString "%") = false) :
    0 ≤ k + 1 ∧ k + 1 ≤ (x.length : Int) ∧ ((out ++ Txt.item x k).length : Int) ≤ k + 1 ∧ OnP x (k + 1) (out ++ Txt.item x k) :=
  on_one h0 hk hl hp (once_other (pc0 h0 h))
theorem on_B (h0 : 0 ≤ k) (hk : k < (x.length : Int)) (hl : (out.length : Int) ≤ k) (hp : OnP x k out) (h : (Txt.item x k == Str.ofString "%") = true) (h2 : ¬ k + 2 < (x.length : Int)) :
    0 ≤ k + 1 ∧ k + 1 ≤ (x.length : Int) ∧ ((out ++ Txt.item x k).length : Int) ≤ k + 1 ∧ OnP x (k + 1) (out ++ Txt.item x k) := by
  refine on_one h0 hk hl hp ?_
  rw [pc1 h0 h]
  refine once_short ?_
  rw [List.length_drop, ← len_x]; omega
theorem drop3 (h0 : 0 ≤ k) (h2 : k + 2 < (x.length : Int)) : (LL x).drop (k + 1).toNat = chAt x (k + 1) :: chAt x (k + 2) :: (LL x).drop (k + 3).toNat := by
  rw [drop_ch x (by omega : 0 ≤ k + 1) (by omega), show k + 1 + 1 = k + 2 by omega, drop_ch x (by omega : 0 ≤ k + 2) h2, show k + 2 + 1 = k + 3 by omega]
theorem on_C (h0 : 0 ≤ k) (hk : k < (x.length : Int)) (hl : (out.length : Int) ≤ k) (hp : OnP x k out) (h : (Txt.item x k == Str.ofString "%") = true) (h2 : k + 2 < (x.length : Int))
    (h3 : (Builtin.Str.occurrences HX (Txt.item x (k + 1)) 0 HX.length 1).isEmpty = true) :
    0 ≤ k + 1 ∧ k + 1 ≤ (x.length : Int) ∧ ((out ++ Txt.item x k).length : Int) ≤ k + 1 ∧ OnP x (k + 1) (out ++ Txt.item x k) := by
  refine on_one h0 hk hl hp ?_
  rw [pc1 h0 h, drop3 h0 h2]
  exact once_no (by rw [oc0 (by omega) h3]; rfl)
theorem on_D (h0 : 0 ≤ k) (hk : k < (x.length : Int)) (hl : (out.length : Int) ≤ k) (hp : OnP x k out) (h : (Txt.item x k == Str.ofString "%") = true) (h2 : k + 2 < (x.length : Int))
    (h3 : (Builtin.Str.occurrences HX (Txt.item x (k + 2)) 0 HX.length 1).isEmpty = true) :
    0 ≤ k + 1 ∧ k + 1 ≤ (x.length : Int) ∧ ((out ++ Txt.item x k).length : Int) ≤ k + 1 ∧ OnP x (k + 1) (out ++ Txt.item x k) := by
  refine on_one h0 hk hl hp ?_
  rw [pc1 h0 h, drop3 h0 h2]
  exact once_no (by rw [oc0 (by omega) h3, Bool.and_false])
theorem on_E (h0 : 0 ≤ k) (hk : k < (x.length : Int)) (hl : (out.length : Int) ≤ k) (hp : OnP x k out) (h : (Txt.item x k == Str.ofString "%") = true) (h2 : k + 2 < (x.length : Int))
    (h3 : (Builtin.Str.occurrences HX (Txt.item x (k + 1)) 0 HX.length 1).isEmpty = false) (h4 : (Builtin.Str.occurrences HX (Txt.item x (k + 2)) 0 HX.length 1).isEmpty = false) {y : Str}
    (hy : y = ⟨#[(Txt.find HX (Txt.lower (Txt.item x (k + 1))) * 16 + Txt.find HX (Txt.lower (Txt.item x (k + 2)))).toNat]⟩) :
    0 ≤ k + 3 ∧ k + 3 ≤ (x.length : Int) ∧ ((out ++ y).length : Int) ≤ k + 3 ∧ OnP x (k + 3) (out ++ y) := by
  obtain ⟨e1, _⟩ := fd_eq (by omega : 0 ≤ k + 1) h3
  obtain ⟨e2, _⟩ := fd_eq (by omega : 0 ≤ k + 2) h4
  rw [e1, e2] at hy
  have e : ((hv (chAt x (k + 1)) : Int) * 16 + (hv (chAt x (k + 2)) : Int)).toNat = hv (chAt x (k + 1)) * 16 + hv (chAt x (k + 2)) := by omega
  rw [e] at hy
  refine ⟨by omega, by omega, ?_, ?_⟩
  · rw [hy, len_toList, cat_toList, List.length_append, ← len_toList]
    simp only [List.length_cons, List.length_nil]; omega
  · unfold OnP at hp ⊢
    rw [← hp, drop_ch x h0 hk, pc1 h0 h, drop3 h0 h2, once_yes (oc1 (by omega) h3) (oc1 (by omega) h4), LL, cat_toList, hy]
    simp
theorem on_fin (hk : ¬ k < (x.length : Int)) (hp : OnP x k out) : out = onceS x := by
  refine str_ext ?_
  unfold OnP at hp
  rw [drop_end x hk] at hp
  simp [onceL] at hp
  simp [onceS, hp]
theorem on_meas {j : Int} (h0 : 0 ≤ k) (hk : k < (x.length : Int)) (hj : k < j) : x.length - j.toNat < x.length - k.toNat := by omega
end
end Mine
end

section
open PySem PySem.W PyProof.Rows
set_option maxRecDepth 100000
namespace Mine
section
variable {x : Str} {k : Int} {ns : List Int}
theorem slice_LL (x : Str) {i j : Int} (h0 : 0 ≤ i) (h1 : i ≤ j) (h2 : i ≤ (x.length : Int)) : LL (Txt.slice x (some i) (some j)) = ((LL x).drop i.toNat).take (j - i).toNat := by
  have hl : x.length = (LL x).length := len_toList x
  by_cases hj : j ≤ (x.length : Int)
  · show LL (StrLaws.sliceText x (some i) (some j)) = _
    rw [StrLaws.sliceText_plain ⟨h0, h1, by rw [hl] at hj; exact hj⟩]
  · have e : StrLaws.sliceText x (some i) (some j) = StrLaws.sliceText x (some i) (some (x.length : Int)) := by
      unfold StrLaws.sliceText
      have : Builtin.Str.strSliceIndices (some i) (some j) 1 x.length = Builtin.Str.strSliceIndices (some i) (some (x.length : Int)) 1 x.length := by
        have a : ¬ ((x.length : Int) < 0) := by omega
        have b : ¬ (j < 0) := by omega
        have c : min j (x.length : Int) = (x.length : Int) := by omega
        simp [Builtin.Str.strSliceIndices, a, b, c]
      rw [this]
    show LL (StrLaws.sliceText x (some i) (some j)) = _
    rw [e, StrLaws.sliceText_plain ⟨h0, h2, by rw [hl]; exact Int.le_refl _⟩]
    show ((LL x).drop i.toNat).take ((x.length : Int) - i).toNat = _
    rw [List.take_of_length_le (by rw [List.length_drop, ← hl]; omega), List.take_of_length_le (by rw [List.length_drop, ← hl]; omega)]
abbrev pairOf (x : Str) (k : Int) : Str := Txt.slice x (some (k + 1)) (some (k + 3))
theorem pair_LL (h0 : 0 ≤ k) (hk : k < (x.length : Int)) : LL (pairOf x k) = ((LL x).drop (k + 1).toNat).take 2 := by
  rw [slice_LL x (by omega) (by omega) (by omega)]
  congr 1
  omega
theorem pair_two (h0 : 0 ≤ k) (hk : k < (x.length : Int)) (h : ((pairOf x k).length : Int) = 2) : k + 2 < (x.length : Int) ∧ LL (pairOf x k) = [chAt x (k + 1), chAt x (k + 2)] := by
  have hp := pair_LL h0 hk
  have h2 : k + 2 < (x.length : Int) := by
    rw [len_toList] at h
    change ((LL (pairOf x k)).length : Int) = 2 at h
    rw [hp, List.length_take, List.length_drop, ← len_x] at h
    omega
  refine ⟨h2, ?_⟩
  rw [hp, drop3 h0 h2]
  rfl
theorem pair_short (h0 : 0 ≤ k) (hk : k < (x.length : Int)) (h : ¬ ((pairOf x k).length : Int) = 2) : ((LL x).drop (k + 1).toNat).length < 2 := by
  rw [len_toList] at h
  change ¬ ((LL (pairOf x k)).length : Int) = 2 at h
  rw [pair_LL h0 hk, List.length_take] at h
  omega
theorem pair_at (h0 : 0 ≤ k) (hk : k < (x.length : Int)) (h : ((pairOf x k).length : Int) = 2) : chAt (pairOf x k) 0 = chAt x (k + 1) ∧ chAt (pairOf x k) 1 = chAt x (k + 2) := by
  have e := (pair_two h0 hk h).2
  constructor <;> (unfold chAt at *; rw [e]; rfl)
def UnP (x : Str) (k : Int) (ns : List Int) : Prop := ns.map Int.toNat ++ onceL ((LL x).drop k.toNat) = onceL (LL x)
def Asc (x : Str) : Prop := (∀ c ∈ LL x, c < 128) ∧ ∀ c ∈ onceL (LL x), c < 128
theorem un_start : (0 : Int) ≤ 0 ∧ (0 : Int) ≤ x.length ∧ (([] : List Int).length : Int) ≤ 0 ∧ UnP x 0 [] := by
  refine ⟨by omega, by omega, by decide, ?_⟩
  show [] ++ onceL ((LL x).drop 0) = onceL (LL x)
  rw [List.drop_zero, List.nil_append]
theorem asc_at (ha : Asc x) (h0 : 0 ≤ k) (hk : k < (x.length : Int)) : chAt x k < 128 := by
  apply ha.1
  have : chAt x k ∈ (LL x).drop k.toNat := by rw [drop_ch x h0 hk]; exact List.mem_cons_self
  exact List.mem_of_mem_drop this
theorem u8_nat {c : Nat} (h : c < 128) : ((c.toUInt8.toNat : Nat) : Int) = (c : Int) := by
  have e : c.toUInt8.toNat = c % 256 := rfl
  rw [e]; omega
theorem un_one (ha : Asc x) (h0 : 0 ≤ k) (hk : k < (x.length : Int)) (hl : (ns.length : Int) ≤ k) (hp : UnP x k ns) (hs : onceL (chAt x k :: (LL x).drop (k + 1).toNat) = chAt x k :: onceL ((LL x).drop (k + 1).toNat)) :
    0 ≤ k + 1 ∧ k + 1 ≤ (x.length : Int) ∧ ((ns ++ [(((chAt x k).toUInt8.toNat : Nat) : Int)]).length : Int) ≤ k + 1 ∧ UnP x (k + 1) (ns ++ [(((chAt x k).toUInt8.toNat : Nat) : Int)]) := by
  refine ⟨by omega, by omega, ?_, ?_⟩
  · rw [List.length_append]; simp only [List.length_cons, List.length_nil]; omega
  · unfold UnP at hp ⊢
    rw [← hp, drop_ch x h0 hk, hs, u8_nat (asc_at ha h0 hk)]
    simp
theorem un_A (ha : Asc x) (h0 : 0 ≤ k) (hk : k < (x.length : Int)) (hl : (ns.length : Int) ≤ k) (hp : UnP x k ns) (h : (Txt.item x k == Str.ofString "%") = false) :
    0 ≤ k + 1 ∧ k + 1 ≤ (x.length : Int) ∧ ((ns ++ [(((chAt x k).toUInt8.toNat : Nat) : Int)]).length : Int) ≤ k + 1 ∧ UnP x (k + 1) (ns ++ [(((chAt x k).toUInt8.toNat : Nat) : Int)]) :=
  un_one ha h0 hk hl hp (once_other (pc0 h0 h))
theorem un_B (ha : Asc x) (h0 : 0 ≤ k) (hk : k < (x.length : Int)) (hl : (ns.length : Int) ≤ k) (hp : UnP x k ns) (h : (Txt.item x k == Str.ofString "%") = true) (h2 : ¬ ((pairOf x k).length : Int) = 2) :
    0 ≤ k + 1 ∧ k + 1 ≤ (x.length : Int) ∧ ((ns ++ [(((chAt x k).toUInt8.toNat : Nat) : Int)]).length : Int) ≤ k + 1 ∧ UnP x (k + 1) (ns ++ [(((chAt x k).toUInt8.toNat : Nat) : Int)]) := by
  refine un_one ha h0 hk hl hp ?_
  rw [pc1 h0 h]
  exact once_short (pair_short h0 hk h2)
theorem un_C (ha : Asc x) (h0 : 0 ≤ k) (hk : k < (x.length : Int)) (hl : (ns.length : Int) ≤ k) (hp : UnP x k ns) (h : (Txt.item x k == Str.ofString "%") = true) (h2 : ((pairOf x k).length : Int) = 2)
    (h3 : (Builtin.Str.occurrences HX (Txt.item (pairOf x k) 0) 0 HX.length 1).isEmpty = true) :
    0 ≤ k + 1 ∧ k + 1 ≤ (x.length : Int) ∧ ((ns ++ [(((chAt x k).toUInt8.toNat : Nat) : Int)]).length : Int) ≤ k + 1 ∧ UnP x (k + 1) (ns ++ [(((chAt x k).toUInt8.toNat : Nat) : Int)]) := by
  refine un_one ha h0 hk hl hp ?_
  have e := oc0 (by omega) h3
  rw [(pair_at h0 hk h2).1] at e
  rw [pc1 h0 h, drop3 h0 (pair_two h0 hk h2).1]
  exact once_no (by rw [e]; rfl)
theorem un_D (ha : Asc x) (h0 : 0 ≤ k) (hk : k < (x.length : Int)) (hl : (ns.length : Int) ≤ k) (hp : UnP x k ns) (h : (Txt.item x k == Str.ofString "%") = true) (h2 : ((pairOf x k).length : Int) = 2)
    (h3 : (Builtin.Str.occurrences HX (Txt.item (pairOf x k) 1) 0 HX.length 1).isEmpty = true) :
    0 ≤ k + 1 ∧ k + 1 ≤ (x.length : Int) ∧ ((ns ++ [(((chAt x k).toUInt8.toNat : Nat) : Int)]).length : Int) ≤ k + 1 ∧ UnP x (k + 1) (ns ++ [(((chAt x k).toUInt8.toNat : Nat) : Int)]) := by
  refine un_one ha h0 hk hl hp ?_
  have e := oc0 (by omega) h3
  rw [(pair_at h0 hk h2).2] at e
  rw [pc1 h0 h, drop3 h0 (pair_two h0 hk h2).1]
  exact once_no (by rw [e, Bool.and_false])
theorem un_E (h0 : 0 ≤ k) (hk : k < (x.length : Int)) (hl : (ns.length : Int) ≤ k) (hp : UnP x k ns) (h : (Txt.item x k == Str.ofString "%") = true) (h2 : ((pairOf x k).length : Int) = 2)
    (h3 : (Builtin.Str.occurrences HX (Txt.item (pairOf x k) 0) 0 HX.length 1).isEmpty = false) (h4 : (Builtin.Str.occurrences HX (Txt.item (pairOf x k) 1) 0 HX.length 1).isEmpty = false) :
    0 ≤ k + 3 ∧ k + 3 ≤ (x.length : Int) ∧ ((ns ++ [((hv (chAt x (k + 1)) * 16 + hv (chAt x (k + 2)) : Nat) : Int)]).length : Int) ≤ k + 3 ∧ UnP x (k + 3) (ns ++ [((hv (chAt x (k + 1)) * 16 + hv (chAt x (k + 2)) : Nat) : Int)]) := by
  have e1 := oc1 (by omega) h3
  have e2 := oc1 (by omega) h4
  rw [(pair_at h0 hk h2).1] at e1
  rw [(pair_at h0 hk h2).2] at e2
  have h5 := (pair_two h0 hk h2).1
  refine ⟨by omega, by omega, ?_, ?_⟩
  · rw [List.length_append]; simp only [List.length_cons, List.length_nil]; omega
  · unfold UnP at hp ⊢
    rw [← hp, drop_ch x h0 hk, pc1 h0 h, drop3 h0 h5, once_yes e1 e2, List.map_append, List.append_assoc]
    rfl
theorem pair_hex (h0 : 0 ≤ k) (hk : k < (x.length : Int)) (h2 : ((pairOf x k).length : Int) = 2)
    (h3 : (Builtin.Str.occurrences HX (Txt.item (pairOf x k) 0) 0 HX.length 1).isEmpty = false) (h4 : (Builtin.Str.occurrences HX (Txt.item (pairOf x k) 1) 0 HX.length 1).isEmpty = false) :
    pairOf x k = ⟨#[chAt x (k + 1), chAt x (k + 2)]⟩ ∧ isHx (chAt x (k + 1)) = true ∧ isHx (chAt x (k + 2)) = true := by
  have e1 := oc1 (by omega) h3
  have e2 := oc1 (by omega) h4
  rw [(pair_at h0 hk h2).1] at e1
  rw [(pair_at h0 hk h2).2] at e2
  exact ⟨str_ext (pair_two h0 hk h2).2, e1, e2⟩
theorem hv_lt {c : Nat} (h : isHx c = true) : hv c < 16 := (low_hx _ (isHx_mem h)).2.2
theorem un_all (ha : Asc x) (hk : ¬ k < (x.length : Int)) (hp : UnP x k ns) : ns.map Int.toNat = onceL (LL x) ∧ ∀ c ∈ ns.map Int.toNat, c < 128 := by
  unfold UnP at hp
  rw [drop_end x hk] at hp
  have e : ns.map Int.toNat = onceL (LL x) := by simpa [onceL] using hp
  exact ⟨e, by rw [e]; exact ha.2⟩
def bytesOf (ns : List Int) : Array UInt8 := byteArr ns
def In8 (ns : List Int) : Prop := ∀ n ∈ ns, 0 ≤ n ∧ n < 256
theorem in8_nil : In8 [] := fun _ h => nomatch h
theorem in8_byte {c : UInt8} (h : In8 ns) : In8 (ns ++ [((c.toNat : Nat) : Int)]) := by
  intro n hn
  rcases List.mem_append.mp hn with hn | hn
  · exact h n hn
  · rw [List.mem_singleton.mp hn]
    have := c.toNat_lt
    omega
theorem in8_hex {a b : Nat} (ha : isHx a = true) (hb : isHx b = true) (h : In8 ns) : In8 (ns ++ [((hv a * 16 + hv b : Nat) : Int)]) := by
  have h1 := hv_lt ha
  have h2 := hv_lt hb
  intro n hn
  rcases List.mem_append.mp hn with hn | hn
  · exact h n hn
  · rw [List.mem_singleton.mp hn]
    omega
theorem un_bytes (ha : Asc x) (hk : ¬ k < (x.length : Int)) (hp : UnP x k ns) (hi : In8 ns) :
    (∀ p, ((bytesOf ns).getD p 0).toNat < 128) ∧ (⟨((bytesOf ns).toList.map fun c => c.toNat).toArray⟩ : Str) = onceS x := by
  obtain ⟨e, hlt⟩ := un_all ha hk hp
  have em : (bytesOf ns).toList.map (fun c => c.toNat) = ns.map Int.toNat := by
    simp only [bytesOf, byteArr, List.map_map]
    apply List.map_congr_left
    intro n hn
    show n.toNat % 256 = n.toNat
    have := hi n hn
    omega
  refine ⟨fun p => ?_, ?_⟩
  · by_cases hp : p < (bytesOf ns).size
    · have : ((bytesOf ns).getD p 0).toNat ∈ ns.map Int.toNat := by
        rw [← em]
        refine List.mem_map.2 ⟨_, ?_, rfl⟩
        simp only [Array.getD, hp, dif_pos]
        exact Array.getElem_mem_toList _
      exact hlt _ this
    · rw [Array.getD, dif_neg hp]
      decide
  · refine str_ext ?_
    show ((_ : List UInt8).map _).toArray.toList = _
    rw [em, e]
    rfl
end
end Mine
end

section
open PySem PySem.W PyProof.Rows
set_option maxRecDepth 100000
namespace Mine
theorem onceL_len : ∀ (n : Nat) (l : List Nat), l.length ≤ n → (onceL l).length ≤ l.length
  | _, [], _ => by simp [onceL]
  | 0, _ :: _, h => by simp at h
  | n + 1, c :: r, h => by
    have hr : r.length ≤ n := by simpa using h
    have ih := onceL_len n r hr
    by_cases hc : c = 37
    · subst hc
      match r, hr, ih with
      | [], _, _ => simp [onceL]
      | [a], _, _ => simp [onceL]
      | a :: b :: r, hr, ih =>
        by_cases hx : (isHx a && isHx b) = true
        · rw [Bool.and_eq_true] at hx
          rw [once_yes hx.1 hx.2]
          have := onceL_len n r (by simp at hr; omega)
          simp only [List.length_cons]
          omega
        · rw [once_no (by simpa using hx)]
          simp only [List.length_cons] at ih ⊢
          omega
    · rw [once_other hc]
      simp only [List.length_cons]
      omega
theorem onceS_len (x : Str) : (onceS x).length ≤ x.length := by
  rw [len_toList, len_toList]
  exact onceL_len _ _ (Nat.le_refl _)
theorem LL_once (x : Str) : LL (onceS x) = onceL (LL x) := rfl
def openS (x : Str) : Str := onceS (onceS (onceS x))
def Asc3 (x : Str) : Prop := x.length ≤ 1000 ∧ Asc x ∧ Asc (onceS x) ∧ Asc (onceS (onceS x))
theorem once_fix {x : Str} (h : onceS x = x) : openS x = x := by unfold openS; rw [h, h, h]
theorem a3_1 {x : Str} (h : Asc3 x) : x.length ≤ 1000 ∧ Asc x := ⟨h.1, h.2.1⟩
theorem a3_2 {x : Str} (h : Asc3 x) : (onceS x).length ≤ 1000 ∧ Asc (onceS x) := ⟨Nat.le_trans (onceS_len x) h.1, h.2.2.1⟩
theorem a3_3 {x : Str} (h : Asc3 x) : (onceS (onceS x)).length ≤ 1000 ∧ Asc (onceS (onceS x)) := ⟨Nat.le_trans (onceS_len _) (a3_2 h).1, h.2.2.2⟩
theorem op_1 {x : Str} (h : (onceS x == x) = true) : x = openS x := by
  have h := beq_iff_eq.mp h
  unfold openS; rw [h, h, h]
theorem op_2 {x : Str} (h : (onceS (onceS x) == onceS x) = true) : onceS x = openS x := by
  have h := beq_iff_eq.mp h
  unfold openS; rw [h, h]
theorem op_3 {x : Str} (h : (onceS (onceS (onceS x)) == onceS (onceS x)) = true) : onceS (onceS x) = openS x := by
  have h := beq_iff_eq.mp h
  unfold openS; rw [h]
end Mine
end

section
open PySem PySem.W PyProof.Rows PySem.Calls
set_option maxRecDepth 100000
set_option maxHeartbeats 0
namespace Mine
theorem walk_state2 : True := by
  w_top off
  k_with_none
  trivial
local macro_rules | `(tactic| walk_at "execs cons") => `(tactic| (k_here; with_reducible refine gen_tk ?_; intro tk9))
local macro_rules | `(tactic| walk_at "execs nil") => `(tactic| (k_here; with_reducible refine gen_tk ?_; intro tk9))

def Src (h₀ : Heap) (news : List (Addr × Obj)) (l : Addr) (vs : List Value) : Prop := h₀.IsList l vs.toArray ∨ ∃ n, (l, listOf vs.toArray n) ∈ news
theorem Src.keep {h₀ g : Heap} {L : Addr} {m : Str → Option Value} {news : List (Addr × Obj)} {l : Addr} {vs : List Value} (S : Src h₀ news l vs) (F : Fr h₀ L g m) : Src g news l vs :=
  S.elim (fun h => .inl (h.at fun o e => F.keep l o e)) .inr
theorem Src.list {h₀ h : Heap} {L : Addr} {m : Str → Option Value} {news : List (Addr × Obj)} {l : Addr} {vs : List Value} (S : Src h₀ news l vs) (F : Fr h₀ L h m) (N : News h₀ L h news) : h.IsList l vs.toArray := by
  rcases S with S | ⟨n, S⟩
  · exact S.at fun o e => F.keep l o e
  · exact ⟨_, (N _ S).1, rfl, n, rfl⟩
theorem Src.or {h₀ : Heap} {news : List (Addr × Obj)} {l : Addr} {vs : List Value} (S : Src h₀ news l vs) : (∃ o, h₀.get? l = some o) ∨ ∃ o, (l, o) ∈ news := by
  rcases S with ⟨o, h, _⟩ | ⟨n, S⟩
  · exact .inl ⟨o, h⟩
  · exact .inr ⟨_, S⟩
def preS (x h : Str) : Bool := Txt.slice x none (some (h.length : Int)) == h
def NoPre (x : Str) (hs : List Str) : Prop := ∀ h ∈ hs, preS x h = false
theorem noPre_snoc {x y : Str} {hs : List Str} (h : NoPre x hs) (hy : preS x y = false) : NoPre x (hs ++ [y]) := by
  intro z hz
  rcases List.mem_append.mp hz with hz | hz
  · exact h z hz
  · rw [List.mem_singleton.mp hz]; exact hy
theorem noPre_nil {x : Str} : NoPre x [] := fun _ h => nomatch h
theorem iter_pre {prog : Program} {w : World} {A : Around} {E : Value → Shared → Prop} {s : Shared} {env : Env} {h₀ : Heap} {xn : Str} {body : List Stmt} {Q : Flow → Shared → Prop}
    {x : Str} {l : Addr} {vs : List Value} {hs : List Str} {m₀ : Str → Option Value} {news : List (Addr × Obj)} (h0 : NoPre x []) (hh : A.handled = none) (S : Src h₀ news l vs) (hi : StrsAre vs hs) (hz : ∀ y ∈ hs, y.length ≤ 1000) (F : Fr h₀ env.locals s.heap m₀) (N : News h₀ env.locals s.heap news)
    (turn : ∀ pre y post t h tk own, hs = pre ++ y :: post → NoPre x pre → y.length ≤ 1000 → Fr h₀ env.locals h (fun z => if z = xn then some (.str y t) else m₀ z) → News h₀ env.locals h (news ++ own) →
      wpAny (model prog w) A (execs body env) (InvPostN h₀ env.locals (StrsJ xn m₀ news (NoPre x (pre ++ [y]))) own (news.map (·.1)) { s with heap := h, toks := tk } Q) E { s with heap := h, toks := tk })
    (done : ∀ (u : Str → Option Value) h tk, NoPre x hs → Fr h₀ env.locals h (fun z => if z = xn then u z else m₀ z) → News h₀ env.locals h news → Q .next { s with heap := h, toks := tk }) :
    wpAny (model prog w) A (pyIter (.ref l)) (fun it s₂ => LoopAtV prog w A h₀ env xn body Q E it s₂) E s :=
  iter_strs (NoPre x) hh (S.list F N) S.or hi F N noPre_nil (fun pre y post t h tk own e hp => turn pre y post t h tk own e hp (hz y (by rw [e]; simp))) done
/-- a contract of a def with a list of texts -/
abbrev MyClaimL (r : Nat) (w : World) (f : Addr) (news : List (Addr × Obj)) (l : Addr) (lvs : List Value) (pre : Prop) (vs : List Value) (R : Tok → Value) : Prop :=
  ∀ (p : Program) (loose : List Str) (mean : ExcName → Option Value) (mg mb : Str → Option Value) (dp un : Nat) (gd : Option (List Code)) (cn : Str) (cs : Scope) (a : Addr) (ccd : Value) (cl : List (Str × Addr)) (outer : List Env) (A₀ : Around) (base h₀ : Heap) (L : Addr) (m : Str → Option Value) (s : Shared) (Q E : Value → Shared → Prop),
    Below A₀ base outer h₀ → Fr h₀ L s.heap m → (Mine.hd.heap_39 w.params).In h₀ → News h₀ L s.heap news → Top p loose mean mg mb h₀ → cs.kind = .function → Src h₀ news l lvs → pre → dp + r < recursionLimit → un + 8 * r < cLine → CbRet h₀ L m news s Q R →
      wpAny (model PySem.Challenge.rw_fj5014_01.row.prog w) (ktrTop dp un gd cn cs L a ccd cl outer) (PySem.call (.ref f) vs) Q E s
def scanB : List Nat → Bool
  | [] => true
  | c :: r => if c = 47 then true else if c = 58 then false else scanB r
def mark1 (x : Str) : Bool := [Str.ofString "/", Str.ofString "#", Str.ofString "?"].any fun y => y == Txt.slice x none (some 1)
def plainB (x : Str) (hs : List Str) : Bool := hs.any (preS x) || mark1 x || scanB (LL x)
def Calm (l : List Nat) : Prop := ∀ c ∈ l, c ≠ 47 ∧ c ≠ 58
theorem calm_nil : Calm [] := fun _ h => nomatch h
theorem calm_snoc {l : List Nat} {n : Nat} (h : Calm l) (h1 : n ≠ 47) (h2 : n ≠ 58) : Calm (l ++ [n]) := by
  intro c hc
  rcases List.mem_append.mp hc with hc | hc
  · exact h c hc
  · rw [List.mem_singleton.mp hc]; exact ⟨h1, h2⟩
theorem scan_calm : ∀ {l r : List Nat}, Calm l → scanB (l ++ r) = scanB r
  | [], r, _ => rfl
  | c :: l, r, h => by
    have := h c (.head _)
    rw [List.cons_append, scanB, if_neg this.1, if_neg this.2]
    exact scan_calm fun d hd => h d (.tail _ hd)
section
variable {x y : Str} {hs pre post : List Str} {n : Nat} {a b : List Nat}
theorem sl1 (h : ((⟨#[n]⟩ : Str) == Str.ofString "/") = true) : n = 47 := by rw [one_beq n 47 _ (by decide +kernel)] at h; simpa using h
theorem sl0 (h : ((⟨#[n]⟩ : Str) == Str.ofString "/") = false) : n ≠ 47 := by rw [one_beq n 47 _ (by decide +kernel)] at h; simpa using h
theorem co1 (h : ((⟨#[n]⟩ : Str) == Str.ofString ":") = true) : n = 58 := by rw [one_beq n 58 _ (by decide +kernel)] at h; simpa using h
theorem co0 (h : ((⟨#[n]⟩ : Str) == Str.ofString ":") = false) : n ≠ 58 := by rw [one_beq n 58 _ (by decide +kernel)] at h; simpa using h
theorem any_no (h : NoPre x hs) : hs.any (preS x) = false := by
  rw [List.any_eq_false]; intro y hy; simp [h y hy]
theorem pl_1 (e : hs = pre ++ y :: post) (h : (Txt.slice x none (some (y.length : Int)) == y) = true) : true = plainB x hs := by
  have : hs.any (preS x) = true := List.any_eq_true.mpr ⟨y, by rw [e]; simp, h⟩
  unfold plainB; rw [this]; rfl
theorem pl_2 (h : ([Str.ofString "/", Str.ofString "#", Str.ofString "?"].any fun z => z == Txt.slice x none (some 1)) = true) : true = plainB x hs := by
  have : mark1 x = true := h
  unfold plainB; rw [this]; simp
theorem pl_x (h1 : NoPre x hs) (h2 : ([Str.ofString "/", Str.ofString "#", Str.ofString "?"].any fun z => z == Txt.slice x none (some 1)) = false) : plainB x hs = scanB (LL x) := by
  have : mark1 x = false := h2
  unfold plainB; rw [this, any_no h1]; rfl
theorem pl_3 (h1 : NoPre x hs) (h2 : ([Str.ofString "/", Str.ofString "#", Str.ofString "?"].any fun z => z == Txt.slice x none (some 1)) = false) (e : x.cps.toList = a ++ n :: b) (h3 : Calm a) (h4 : ((⟨#[n]⟩ : Str) == Str.ofString "/") = true) : true = plainB x hs := by
  rw [pl_x h1 h2, LL, e, scan_calm h3, scanB, if_pos (sl1 h4)]
theorem pl_4 (h1 : NoPre x hs) (h2 : ([Str.ofString "/", Str.ofString "#", Str.ofString "?"].any fun z => z == Txt.slice x none (some 1)) = false) (e : x.cps.toList = a ++ n :: b) (h3 : Calm a) (h4 : ((⟨#[n]⟩ : Str) == Str.ofString "/") = false) (h5 : ((⟨#[n]⟩ : Str) == Str.ofString ":") = true) : false = plainB x hs := by
  rw [pl_x h1 h2, LL, e, scan_calm h3, scanB, if_neg (sl0 h4), if_pos (co1 h5)]
theorem pl_5 (h1 : NoPre x hs) (h2 : ([Str.ofString "/", Str.ofString "#", Str.ofString "?"].any fun z => z == Txt.slice x none (some 1)) = false) (h3 : Calm x.cps.toList) : true = plainB x hs := by
  have := scan_calm (r := []) h3
  rw [List.append_nil] at this
  rw [pl_x h1 h2, LL, this]; rfl
end
theorem iter_calm {prog : Program} {w : World} {A : Around} {E : Value → Shared → Prop} {s : Shared} {env : Env} {h₀ : Heap} {xn : Str} {body : List Stmt} {Q : Flow → Shared → Prop}
    {x : Str} {tx : Tok} {m₀ : Str → Option Value} {news : List (Addr × Obj)} (hh : A.handled = none) (F : Fr h₀ env.locals s.heap m₀) (N : News h₀ env.locals s.heap news)
    (turn : ∀ pre n post t h tk own, x.cps.toList = pre ++ n :: post → Calm pre → Fr h₀ env.locals h (fun z => if z = xn then some (.str ⟨#[n]⟩ t) else m₀ z) → News h₀ env.locals h (news ++ own) →
      wpAny (model prog w) A (execs body env) (InvPostN h₀ env.locals (StrsJ xn m₀ news (Calm (pre ++ [n]))) own (news.map (·.1)) { s with heap := h, toks := tk } Q) E { s with heap := h, toks := tk })
    (done : ∀ (u : Str → Option Value) h tk, Calm x.cps.toList → Fr h₀ env.locals h (fun z => if z = xn then u z else m₀ z) → News h₀ env.locals h news → Q .next { s with heap := h, toks := tk }) :
    wpAny (model prog w) A (pyIter (.str x tx)) (fun it s₂ => LoopAtV prog w A h₀ env xn body Q E it s₂) E s :=
  iter_signs Calm hh F N calm_nil turn done
local macro_rules | `(tactic| walk_at "exec For Name Name cons nil") => `(tactic| (k_here; (rename Fr _ _ _ _ => lF'); (with_unfolding_all refine' For_invVF lF' ?k1 ?k2 ?_; (case k1 => exact rfl); (case k2 => exact rfl); k_whole)))
local macro_rules | `(tactic| walk_at "pyIter ref") => `(tactic| (k_here; (rename Src _ _ _ _ => lS'); refine' iter_pre ?k0 ?k1 lS' ?k2 ?k3 ?k4 ?k5 ?_ ?_; (case k0 => assumption); (case k1 => with_unfolding_all rfl); (case k2 => assumption); (case k3 => assumption); (case k4 => k_asm); (case k5 => k_asm)))
local macro_rules | `(tactic| walk_at "pyIter str") => `(tactic| (k_here; refine' iter_calm ?k1 ?k4 ?k5 ?_ ?_; (case k1 => with_unfolding_all rfl); (case k4 => k_asm); (case k5 => k_asm)))
local macro_rules | `(tactic| walk_at "InvEndN") => `(tactic| (refine' strs_end ?k1 ?k2 ?k3 ?k4 ?k5; (case k1 => k_asm); (case k2 => k_asm); (case k3 => intro p hp; exact hp); (case k4 => intro z hz; exact if_neg hz); (case k5 => first | exact noPre_snoc (by assumption) (by assumption) | exact calm_snoc (by assumption) (sl0 (by assumption)) (co0 (by assumption)))))
theorem plain_ok {w : World} (x : Str) (tx : Tok) (l : Addr) (lvs : List Value) (hs : List Str) (news : List (Addr × Obj)) :
    MyClaimL 1 w 446 news l lvs (x.length ≤ 1000 ∧ StrsAre lvs hs ∧ ∀ y ∈ hs, y.length ≤ 1000) [.str x tx, .ref l] (fun _ => .bool (plainB x hs)) := by
  dsimp only [MyClaimL, CbRet]
  k_fill
  intro p loose mean mg mb dp un gd cn cs a ccd cl outer A₀ base h₀ L m s Q E hB hF hK hN hT hcs hS hp hd hu hret
  refine wpAny_call ?_
  k_dflt (refine' code_def ?k1 ?k2 ?k3 ?k4 ?k5 ?kA ?kF ?kK ?k6 ?k7 ?k8 ?k9 ?kB ?_ ?c2 ?c3 ?c4 ?c5; (case kA => exact rfl); (case kF => exact rfl); (case kK => assumption); (case k1 => k_asm); (case k2 => k_asm); (case k3 => k_asm); (case k4 => k_asm); (case k5 => k_asm); (case k6 => k_is); (case k7 => k_is); (case k8 => exact Nat.lt_of_le_of_lt (Nat.le_add_right _ _) hd); (case k9 => first | exact BindsTo.of_eq rfl | exact binds_K (by k_in) rfl (by k_is) rfl rfl rfl); (case c5 => decide); (case kB => exact locs rfl); (case c2 => exact rfl); (case c3 => exact rfl); (case c4 => exact rfl); k_whole; intro g' L' h' FG' F' N' B' X' T'; (try dsimp only); (try k_lift B'); (try k_fold))
  replace hS := hS.keep FG'
  obtain ⟨hp1, hp2, hp3⟩ := hp
  have hMark : NoPre x [] := noPre_nil
  k_steps
  all_goals first
    | exact cb_retB (Q := Q) hret (pl_1 (by assumption) (by assumption)) (by k_asm) (cb_drop (by assumption) (fun p hp => by simp [hp]))
    | exact cb_retB (Q := Q) hret (pl_2 (by assumption)) (by k_asm) (cb_drop (by assumption) (fun p hp => by simp [hp]))
    | exact cb_retB (Q := Q) hret (pl_3 (by assumption) (by assumption) (by assumption) (by assumption) (by assumption)) (by k_asm) (cb_drop (by assumption) (fun p hp => by simp [hp]))
    | exact cb_retB (Q := Q) hret (pl_4 (by assumption) (by assumption) (by assumption) (by assumption) (by assumption) (by assumption)) (by k_asm) (cb_drop (by assumption) (fun p hp => by simp [hp]))
    | exact cb_retB (Q := Q) hret (pl_5 (by assumption) (by assumption) (by assumption)) (by k_asm) (cb_drop (by assumption) (fun p hp => by simp [hp]))
    | skip
end Mine
end

section
open PySem PySem.W PyProof.Rows
open PySem.Builtin.Str
set_option maxRecDepth 100000
namespace Mine
theorem scan_split : ∀ {a r : List Nat}, (∀ c ∈ a, c ≠ 47) → (r = [] ∨ r.head? = some 47) → scanB (a ++ r) = decide (58 ∉ a)
  | [], r, _, hr => by
    rcases hr with rfl | hr
    · simp [scanB]
    · cases r with
      | nil => simp at hr
      | cons c r => simp at hr; subst hr; simp [scanB]
  | c :: a, r, h, hr => by
    have h1 : c ≠ 47 := h c (.head _)
    have ih := scan_split (a := a) (r := r) (fun d hd => h d (.tail _ hd)) hr
    rw [List.cons_append, scanB, if_neg h1, ih]
    by_cases hc : c = 58
    · subst hc; simp
    · rw [if_neg hc]
      have : (58 ∉ c :: a) ↔ 58 ∉ a := by simp [Ne.symm hc]
      simp only [this]
theorem slash_eq : Str.ofString "/" = (⟨#[47]⟩ : Str) := by decide +kernel
theorem colon_eq : Str.ofString ":" = (⟨#[58]⟩ : Str) := by decide +kernel
theorem kind_one (x : Str) : (decide (Builtin.Str.strKind x < Builtin.Str.strKind (⟨#[47]⟩ : Str))) = false := by
  have h1 : Builtin.Str.strKind (⟨#[47]⟩ : Str) = 1 := by decide +kernel
  rw [h1]
  unfold Builtin.Str.strKind
  split
  · rfl
  · split <;> rfl
theorem first_part {x y : Str} (h : (Txt.splitMax x (Str.ofString "/") 1)[0]? = some y) : scanB (LL x) = decide (58 ∉ LL y) := by
  rw [slash_eq] at h
  unfold Txt.splitMax at h
  rw [kind_one, Bool.or_false] at h
  have hlim : limitOf x 1 = 1 := rfl
  rw [hlim] at h
  by_cases h0 : decide (x.length < (⟨#[47]⟩ : Str).length) = true
  · rw [if_pos h0] at h
    simp at h
    subst h
    have hx : x.length = 0 := by
      have : (⟨#[47]⟩ : Str).length = 1 := rfl
      rw [this] at h0
      simpa using h0
    have : LL x = [] := List.eq_nil_of_length_eq_zero (by rw [← len_x, hx])
    rw [this]; rfl
  · rw [if_neg h0] at h
    by_cases he : (occurrences x ⟨#[47]⟩ 0 x.length 1).isEmpty = true
    · rw [if_pos he] at h
      simp at h
      subst h
      have hn := StrLaws.found_one x 47
      rw [he] at hn
      have hn : 47 ∉ LL x := by simpa using hn
      have := scan_split (a := LL x) (r := []) (fun c hc e => hn (e ▸ hc)) (.inl rfl)
      rwa [List.append_nil] at this
    · rw [if_neg he] at h
      have hof := StrLaws.occ_head_from x ⟨#[47]⟩ 0 1 (Nat.le_refl _)
      rcases hof with ⟨h1, _⟩ | ⟨i, r, h1, _, h2, h3⟩
      · rw [h1] at he; simp at he
      · have hl := StrLaws.occ_length_le x ⟨#[47]⟩ 0 x.length 1
        rw [h1] at h hl
        have hr : r = [] := by
          cases r with
          | nil => rfl
          | cons a b => simp at hl
        subst hr
        have hy : y = strSub x 0 i := by
          have : (partsBetween x [i] (⟨#[47]⟩ : Str).length)[0]? = some (strSub x 0 i) := rfl
          rw [this] at h
          exact (Option.some.inj h).symm
        have hi : (LL x)[i]? = some 47 := (StrLaws.subAt_one x 47 i).mp h2
        have hb : ∀ k, k < i → (LL x)[k]? ≠ some 47 := fun k hk e => h3 k (Nat.zero_le _) hk ((StrLaws.subAt_one x 47 k).mpr e)
        have hyl : LL y = (LL x).take i := by
          rw [hy]
          show (x.cps.extract 0 i).toList = _
          rw [Array.toList_extract, List.extract_eq_take_drop]
          simp
        have e : LL x = (LL x).take i ++ (LL x).drop i := (List.take_append_drop i _).symm
        have hs := scan_split (a := (LL x).take i) (r := (LL x).drop i) (fun c hc e47 => by
          subst e47
          obtain ⟨k, hk, hk2⟩ := List.mem_iff_getElem.mp hc
          rw [List.length_take] at hk
          refine hb k (by omega) ?_
          rw [List.getElem_take] at hk2
          rw [List.getElem?_eq_getElem (by omega), hk2]) (.inr (by rw [List.head?_drop]; exact hi))
        rw [← e] at hs
        rw [hs, hyl]
theorem starts_pre (x h : Str) : Txt.startswith x h = preS x h := by
  have e1 : LL (Txt.slice x none (some (h.length : Int))) = (LL x).take h.length := by
    show LL (StrLaws.sliceText x none (some (h.length : Int))) = _
    have : StrLaws.sliceText x none (some (h.length : Int)) = Txt.slice x (some 0) (some (h.length : Int)) := by
      show _ = StrLaws.sliceText x _ _
      unfold StrLaws.sliceText; rw [StrLaws.sliceIdx_none_lo]
    rw [this, slice_LL x (by omega) (by omega) (by omega)]
    simp
  unfold Txt.startswith preS
  rw [StrLaws.subAt_eq, List.drop_zero, Bool.eq_iff_iff]
  simp only [Bool.and_eq_true, decide_eq_true_eq, beq_iff_eq]
  constructor
  · rintro ⟨_, h2⟩
    exact str_ext (e1.trans h2)
  · intro h2
    have h3 : (LL x).take h.length = h.cps.toList := by rw [← e1, h2]
    refine ⟨?_, h3⟩
    have := congrArg List.length h3
    rw [List.length_take, ← len_toList, ← len_x] at this
    omega
theorem any_pre (x : Str) (hs : List Str) : hs.any (Txt.startswith x) = hs.any (preS x) := by
  congr 1; funext h; exact starts_pre x h
theorem mark_eq (x : Str) : [Str.ofString "/", Str.ofString "#", Str.ofString "?"].any (Txt.startswith x) = mark1 x := by
  rw [any_pre]
  have h1 : (Str.ofString "/").length = 1 := by decide +kernel
  have h2 : (Str.ofString "#").length = 1 := by decide +kernel
  have h3 : (Str.ofString "?").length = 1 := by decide +kernel
  unfold mark1
  simp only [List.any_cons, List.any_nil, preS, h1, h2, h3]
  have hb : ∀ a b : Str, (a == b) = (b == a) := fun a b => by rw [Bool.eq_iff_iff, beq_iff_eq, beq_iff_eq]; exact eq_comm
  rw [hb (Str.ofString "/"), hb (Str.ofString "#"), hb (Str.ofString "?")]
  rfl
section
variable {x y : Str} {hs ks : List Str}
theorem sf_1 (h : hs.any (Txt.startswith x) = true) : true = plainB x (hs ++ ks) := by
  rw [any_pre] at h; unfold plainB; rw [List.any_append, h]; rfl
theorem sf_2 (h : ks.any (Txt.startswith x) = true) : true = plainB x (hs ++ ks) := by
  rw [any_pre] at h; unfold plainB; rw [List.any_append, h]; simp
theorem sf_3 (h : [Str.ofString "/", Str.ofString "#", Str.ofString "?"].any (Txt.startswith x) = true) : true = plainB x (hs ++ ks) := by
  rw [mark_eq] at h; unfold plainB; rw [h]; simp
theorem sf_4 (h1 : hs.any (Txt.startswith x) = false) (h2 : ks.any (Txt.startswith x) = false) (h3 : [Str.ofString "/", Str.ofString "#", Str.ofString "?"].any (Txt.startswith x) = false) {l : List (Str × Tok)}
    (h4 : List.map (fun x => x.fst) l = Txt.splitMax x (Str.ofString "/") 1) (h5 : (List.map (fun x => x.fst) l)[Int.toNat 0]? = some y) : (!!(occurrences y (Str.ofString ":") 0 y.length 1).isEmpty) = plainB x (hs ++ ks) := by
  rw [h4] at h5
  rw [any_pre] at h1 h2
  rw [mark_eq] at h3
  unfold plainB
  rw [List.any_append, h1, h2, h3, first_part h5, Bool.not_not, colon_eq]
  have := StrLaws.found_one y 58
  simp only [Bool.or_self, Bool.false_or]
  have e : (occurrences y ⟨#[58]⟩ 0 y.length 1).isEmpty = !decide (58 ∈ LL y) := by rw [← this, Bool.not_not]
  rw [e, decide_not]
end
end Mine
end

section
open PySem PySem.W PyProof.Rows PySem.Calls
open PySem.Builtin PySem.Builtin.Str
set_option maxRecDepth 100000
namespace Mine
theorem tup_loop {x : PySem.Str} {R : Fin} {f : Value → Option Fin × Unit → Sem (ForInStep (Option Fin × Unit))}
    (hf : ∀ y t st, f (.str y t) st = if Txt.startswith x y = true then pure (.done (some R, ())) else pure (.yield (none, ()))) :
    ∀ {l : List Value} {hs : List PySem.Str}, StrsAre l hs → forIn l (none, ()) f = pure (if hs.any (Txt.startswith x) = true then some R else none, ())
  | _, _, .nil => by simp
  | _, _, .cons (vs := l) (ys := ys) y t r => by
    rw [List.forIn_cons, hf]
    cases hy : Txt.startswith x y with
    | true => simp [hy]
    | false =>
      simp only [Bool.false_eq_true, if_false, List.any_cons, hy, Bool.false_or]
      show (forIn l (none, ()) f) = _
      exact tup_loop hf r
section
variable {prog : Program} {w : World} {A : Around} {E : Value → Shared → Prop} {s : Shared} {x : PySem.Str} {t : Tok} {a : Addr} {its : Array Value} {hs : List PySem.Str}
theorem tup_sub : isSubtype (.type "tuple") (.type "tuple") = pure true := by rw [isSubtype_type]; kernel_rfl
theorem starts_tup {Q : Value → Shared → Prop} (hi : StrsAre its.toList hs) (ht : IsTup s.heap a its) (h : Q (.bool (hs.any (Txt.startswith x))) s) : wpAny (model prog w) A (PySem.call (.builtin "str.startswith") [.str x t, .ref a]) Q E s := by
  obtain ⟨o, ho, hc, n, hd⟩ := ht
  refine wpAny_call (codeAny_call_builtin PySem.F.slot_str_startswith.plain PySem.F.entry_str_startswith (PySem.F.slot_str_startswith.check _ _ _ _ _ _ _ _ (typeIs_str _ _ _) (PySem.F.args_str_startswith_2 _ _) ?_))
  unfold Builtin.«str.startswith» affixEntry
  refine wpAny_bind (wpAny_of_eq (a := (Value.str x t, x, [Value.ref a])) (by first | rfl | kernel_rfl) ?_)
  dsimp only [List.headD_cons, List.drop_succ_cons, List.drop_zero]
  refine wpAny_bind (wpAny_of_eq (a := ((0 : Nat), x.length)) (by first | rfl | (unfold searchRange; simp)) ?_)
  dsimp only
  refine wpAny_bind (KPt.asStr_ref ho hd ?_)
  dsimp only
  refine wpAny_bind (wpAny_isInstance (T := "tuple") ⟨o, ho, hc⟩ tup_sub ?_)
  rw [if_pos rfl]
  refine wpAny_bind (wpAny_rule ?_)
  refine wpAny_bind (wpAny_seqItems ho hd ?_)
  dsimp only
  rw [← Array.forIn_toList]
  refine wpAny_bind (wpAny_of_eq (tup_loop (x := x) (R := .done (.ret (.bool true))) ?hf hi) ?_)
  case hf =>
    intro y t st
    show (if Txt.startswith x y = true then _ else _) = _
    cases Txt.startswith x y <;> rfl
  cases hb : hs.any (Txt.startswith x) with
  | true =>
    rw [hb] at h
    exact wpAny_pure h
  | false =>
    rw [hb] at h
    exact wpAny_pure h
end
end Mine
end

section
open PySem PySem.W PyProof.Rows PySem.Calls
set_option maxRecDepth 100000
set_option maxHeartbeats 0
namespace Mine
theorem walk_state3 : True := by
  w_top off
  k_with_none
  trivial
local macro_rules | `(tactic| walk_at "execs cons") => `(tactic| (k_here; with_reducible refine gen_tk ?_; intro tk9))
local macro_rules | `(tactic| walk_at "execs nil") => `(tactic| (k_here; with_reducible refine gen_tk ?_; intro tk9))

abbrev tplO (vs : List Value) (n : Nat) : Obj := { cls := .type "tuple", data := .seq vs.toArray n }
def SrcT (h₀ : Heap) (news : List (Addr × Obj)) (l : Addr) (vs : List Value) : Prop := IsTup h₀ l vs.toArray ∨ ∃ n, (l, tplO vs n) ∈ news
theorem SrcT.keep {h₀ g : Heap} {L : Addr} {m : Str → Option Value} {news : List (Addr × Obj)} {l : Addr} {vs : List Value} (S : SrcT h₀ news l vs) (F : Fr h₀ L g m) : SrcT g news l vs :=
  S.elim (fun h => .inl (h.keeps F.keep)) .inr
theorem SrcT.tup {h₀ h : Heap} {L : Addr} {m : Str → Option Value} {news : List (Addr × Obj)} {l : Addr} {vs : List Value} (S : SrcT h₀ news l vs) (F : Fr h₀ L h m) (N : News h₀ L h news) : IsTup h l vs.toArray := by
  rcases S with S | ⟨n, S⟩
  · exact S.keeps F.keep
  · exact ⟨_, (N _ S).1, rfl, n, rfl⟩
abbrev MyClaimT (r : Nat) (w : World) (f : Addr) (news : List (Addr × Obj)) (l k : Addr) (lvs kvs : List Value) (pre : Prop) (vs : List Value) (R : Tok → Value) : Prop :=
  ∀ (p : Program) (loose : List Str) (mean : ExcName → Option Value) (mg mb : Str → Option Value) (dp un : Nat) (gd : Option (List Code)) (cn : Str) (cs : Scope) (a : Addr) (ccd : Value) (cl : List (Str × Addr)) (outer : List Env) (A₀ : Around) (base h₀ : Heap) (L : Addr) (m : Str → Option Value) (s : Shared) (Q E : Value → Shared → Prop),
    Below A₀ base outer h₀ → Fr h₀ L s.heap m → (Mine.hd.heap_39 w.params).In h₀ → News h₀ L s.heap news → Top p loose mean mg mb h₀ → cs.kind = .function → SrcT h₀ news l lvs ∧ SrcT h₀ news k kvs → pre → dp + r < recursionLimit → un + 8 * r < cLine → CbRet h₀ L m news s Q R →
      wpAny (model PySem.Challenge.rw_fj5014_01.row.prog w) (ktrTop dp un gd cn cs L a ccd cl outer) (PySem.call (.ref f) vs) Q E s
theorem starts_src {prog : Program} {w : World} {A : Around} {E : Value → Shared → Prop} {s : Shared} {h₀ : Heap} {L : Addr} {m : Str → Option Value} {news : List (Addr × Obj)} {x : Str} {t : Tok} {a : Addr} {vs : List Value} {hs : List Str} {Q : Value → Shared → Prop}
    (S : SrcT h₀ news a vs) (hi : StrsAre vs hs) (F : Fr h₀ L s.heap m) (N : News h₀ L s.heap news) (h : Q (.bool (hs.any (Txt.startswith x))) s) : wpAny (model prog w) A (PySem.call (.builtin "str.startswith") [.str x t, .ref a]) Q E s :=
  starts_tup (its := vs.toArray) (by simpa using hi) (S.tup F N) h
theorem starts_led {prog : Program} {w : World} {A : Around} {E : Value → Shared → Prop} {s : Shared} {h₀ : Heap} {L : Addr} {news : List (Addr × Obj)} {x : Str} {t : Tok} {a : Addr} {vs : List Value} {n : Nat} {hs : List Str} {Q : Value → Shared → Prop}
    (N : News h₀ L s.heap ((a, tplO vs n) :: news)) (hi : StrsAre vs hs) (h : Q (.bool (hs.any (Txt.startswith x))) s) : wpAny (model prog w) A (PySem.call (.builtin "str.startswith") [.str x t, .ref a]) Q E s :=
  starts_tup (its := vs.toArray) (by simpa using hi) ⟨_, (N _ (.head _)).1, rfl, n, rfl⟩ h
local macro_rules | `(tactic| walk_at "call builtin:str.startswith") => `(tactic| (k_here; first
  | (refine' starts_src ?k1 ?k2 ?k3 ?k4 ?_; (case k1 => assumption); (case k2 => assumption); (case k3 => k_asm); (case k4 => k_asm))
  | (refine' starts_led ?k4 ?k2 ?_; (case k4 => k_asm); (case k2 => exact .cons _ _ (.cons _ _ (.cons _ _ .nil))))))
theorem safe_ok {w : World} (x : Str) (tx : Tok) (l k : Addr) (lvs kvs : List Value) (hs ks : List Str) (news : List (Addr × Obj)) :
    MyClaimT 1 w 396 news l k lvs kvs (x.length ≤ 1000 ∧ StrsAre lvs hs ∧ StrsAre kvs ks) [.str x tx, .ref l, .ref k] (fun _ => .bool (plainB x (hs ++ ks))) := by
  dsimp only [MyClaimT, CbRet]
  k_fill
  intro p loose mean mg mb dp un gd cn cs a ccd cl outer A₀ base h₀ L m s Q E hB hF hK hN hT hcs hS hp hd hu hret
  refine wpAny_call ?_
  k_dflt (refine' code_def ?k1 ?k2 ?k3 ?k4 ?k5 ?kA ?kF ?kK ?k6 ?k7 ?k8 ?k9 ?kB ?_ ?c2 ?c3 ?c4 ?c5; (case kA => exact rfl); (case kF => exact rfl); (case kK => assumption); (case k1 => k_asm); (case k2 => k_asm); (case k3 => k_asm); (case k4 => k_asm); (case k5 => k_asm); (case k6 => k_is); (case k7 => k_is); (case k8 => exact Nat.lt_of_le_of_lt (Nat.le_add_right _ _) hd); (case k9 => first | exact BindsTo.of_eq rfl | exact binds_K (by k_in) rfl (by k_is) rfl rfl rfl); (case c5 => decide); (case kB => exact locs rfl); (case c2 => exact rfl); (case c3 => exact rfl); (case c4 => exact rfl); k_whole; intro g' L' h' FG' F' N' B' X' T'; (try dsimp only); (try k_lift B'); (try k_fold))
  obtain ⟨hS1, hS2⟩ := hS
  replace hS1 := hS1.keep FG'
  replace hS2 := hS2.keep FG'
  obtain ⟨hp1, hp2, hp3⟩ := hp
  k_steps
  all_goals first
    | exact cb_retB (Q := Q) hret (sf_1 (by assumption)) (by k_asm) (cb_drop (by assumption) (fun p hp => by simp [hp]))
    | exact cb_retB (Q := Q) hret (sf_2 (by assumption)) (by k_asm) (cb_drop (by assumption) (fun p hp => by simp [hp]))
    | exact cb_retB (Q := Q) hret (sf_3 (by assumption)) (by k_asm) (cb_drop (by assumption) (fun p hp => by simp [hp]))
    | exact cb_retB (Q := Q) hret (sf_4 (by assumption) (by assumption) (by assumption) (by assumption) (by assumption)) (by k_asm) (cb_drop (by assumption) (fun p hp => by simp [hp]))
    | skip
end Mine
end

section
open PySem PySem.W PyProof.Rows
set_option maxRecDepth 100000
set_option maxHeartbeats 0
namespace Mine
theorem walk_state4 : True := by
  w_top off
  k_with_none
  trivial
local macro_rules | `(tactic| walk_at "zz pad") => `(tactic| skip)
local macro_rules | `(tactic| walk_at "call builtin:chr") => `(tactic| refine chr_of_range (chr_lo (by assumption) (by assumption)) (chr_hi (by omega) (by omega) (by assumption) (by assumption)) ?_)
local macro_rules | `(tactic| walk_at "execs cons") => `(tactic| (k_here; with_reducible refine gen_tk ?_; intro tk9))
local macro_rules | `(tactic| walk_at "execs nil") => `(tactic| (k_here; with_reducible refine gen_tk ?_; intro tk9))
theorem once_ok {w : World} {p : Program} {loose : List Str} {mean : ExcName → Option Value} {mg mb : Str → Option Value} (x : Str) (tx : Tok) (news : List (Addr × Obj)) :
    CbClaim PySem.Challenge.rw_fj5014_01.row.prog w (Mine.hd.heap_39 w.params) p loose mean mg mb 432 news [] (x.length ≤ 1000) [.str x tx] (fun t => .str (onceS x) t) := by
  k_fill
  k_with "exec While Compare cons nil" => k_while (fun script k out => 0 ≤ k ∧ k ≤ (x.length : Int) ∧ (out.length : Int) ≤ k ∧ OnP x k out) (fun script k out => x.length - k.toNat) "k" "out"
  k_with "state" => first
    | with_reducible exact on_start
    | with_reducible exact on_A (by assumption) (by assumption) (by assumption) (by assumption) (by assumption)
    | with_reducible exact on_B (by assumption) (by assumption) (by assumption) (by assumption) (by assumption) (by assumption)
    | with_reducible exact on_C (by assumption) (by assumption) (by assumption) (by assumption) (by assumption) (by assumption) (by assumption)
    | with_reducible exact on_D (by assumption) (by assumption) (by assumption) (by assumption) (by assumption) (by assumption) (by assumption)
    | with_reducible exact on_E (by assumption) (by assumption) (by assumption) (by assumption) (by assumption) (by assumption) (by assumption) (by assumption) rfl
  dsimp only [CbClaim, CbLists, CbRet]
  intro dp un gd cn cs a ccd cl outer A₀ base h₀ L m s Q E hB hF hK hN hT hcs hp hd hu hret
  refine wpAny_call ?_
  k_dflt cell_enter
  k_steps
  all_goals first
    | with_reducible exact (idx_no (by assumption) (by assumption) (by omega)).elim
    | exact cb_retS (Q := Q) hret (on_fin (by assumption) (by assumption)) (by k_asm) (by k_asm)
    | skip
end Mine
end

section
open PySem PySem.W PyProof.Rows PySem.Calls
set_option maxRecDepth 100000
set_option maxHeartbeats 0
namespace Mine
theorem walk_state5 : True := by
  w_top off
  k_with_none
  trivial
local macro_rules | `(tactic| walk_at "execs cons") => `(tactic| (k_here; with_reducible refine gen_tk ?_; intro tk9))
local macro_rules | `(tactic| walk_at "execs nil") => `(tactic| (k_here; with_reducible refine gen_tk ?_; intro tk9))
theorem once_my {w : World} (x : Str) (tx : Tok) (news : List (Addr × Obj)) : MyClaim 1 w 432 news (x.length ≤ 1000) [.str x tx] (fun t => .str (onceS x) t) := fun _ _ _ _ _ => once_ok x tx news
theorem o3_2 {x : Str} (h : x.length ≤ 1000) : (onceS x).length ≤ 1000 := Nat.le_trans (onceS_len x) h
theorem o3_3 {x : Str} (h : x.length ≤ 1000) : (onceS (onceS x)).length ≤ 1000 := Nat.le_trans (onceS_len _) (o3_2 h)
local macro_rules | `(tactic| walk_at "call ref") => `(tactic| (k_here; (with_reducible show wpAny _ _ (PySem.call (Value.ref 432) [Value.str _ _]) _ _ _); k_dflt (refine' use2 (once_my _ _ _) ?k1 ?k2 ?k3 ?k4 ?k5 ?kK ?kp ?kd ?ku ?_); (case k1 => k_asm); (case k2 => k_asm); (case k3 => k_asm); (case k4 => k_asm); (case k5 => k_asm); (case kK => first | exact rfl | assumption); (case kp => first | assumption | exact o3_2 (by assumption) | exact o3_3 (by assumption)); (case kd => first | omega | ((try dsimp only [Around.deeper, ktrTop]); omega) | ktr_room); (case ku => first | omega | ((try dsimp only [Around.deeper, ktrTop]); omega) | ktr_units); intro t9 h9 tk9 F9 N9; (try dsimp only)))
theorem open_ok {w : World} (x : Str) (tx : Tok) (news : List (Addr × Obj)) :
    MyClaim 2 w 439 news (x.length ≤ 1000) [.str x tx] (fun t => .str (openS x) t) := by
  dsimp only [MyClaim, CbRet]
  k_fill
  intro p loose mean mg mb dp un gd cn cs a ccd cl outer A₀ base h₀ L m s Q E hB hF hK hN hT hcs hp hd hu hret
  refine wpAny_call ?_
  k_dflt (refine' code_def ?k1 ?k2 ?k3 ?k4 ?k5 ?kA ?kF ?kK ?k6 ?k7 ?k8 ?k9 ?kB ?_ ?c2 ?c3 ?c4 ?c5; (case kA => exact rfl); (case kF => exact rfl); (case kK => assumption); (case k1 => k_asm); (case k2 => k_asm); (case k3 => k_asm); (case k4 => k_asm); (case k5 => k_asm); (case k6 => k_is); (case k7 => k_is); (case k8 => exact Nat.lt_of_le_of_lt (Nat.le_add_right _ _) hd); (case k9 => first | exact BindsTo.of_eq rfl | exact binds_K (by k_in) rfl (by k_is) rfl rfl rfl); (case c5 => decide); (case kB => exact locs rfl); (case c2 => exact rfl); (case c3 => exact rfl); (case c4 => exact rfl); k_whole; intro g' L' h' FG' F' N' B' X' T'; (try dsimp only); (try k_lift B'); (try k_fold))
  k_steps
  all_goals first
    | exact cb_retS (Q := Q) hret rfl (by k_asm) (by k_asm)
    | skip
end Mine
end

section
open PySem PySem.W PyProof.Rows PySem.Calls
set_option maxRecDepth 100000
set_option maxHeartbeats 0
namespace Mine
theorem walk_state6 : True := by
  w_top off
  k_with_none
  trivial
local macro_rules | `(tactic| walk_at "execs cons") => `(tactic| (k_here; with_reducible refine gen_tk ?_; intro tk9))
local macro_rules | `(tactic| walk_at "execs nil") => `(tactic| (k_here; with_reducible refine gen_tk ?_; intro tk9))

abbrev boxO (S : Addr) (p : Int) (tp : Tok) (g : Int) (tg : Tok) (n : Nat) : Obj := listOf #[.ref S, .int p tp, .int g tg] n
abbrev DrawRet (h₀ : Heap) (L : Addr) (m : Str → Option Value) (B S : Addr) (rest : List (Addr × Obj)) (size : Int) (s : Shared) (Q : Value → Shared → Prop) : Prop :=
  ∀ (k : Int) (t : Tok) (p' : Int) (tp' : Tok) (g' : Int) (tg' : Tok) (n' : Nat) (h' : Heap) (tk' : Nat), 0 ≤ k → k < size → 0 ≤ p' → Fr h₀ L h' m → News h₀ L h' ((B, boxO S p' tp' g' tg' n') :: rest) → Q (.int k t) { s with heap := h', toks := tk' }
local macro_rules | `(tactic| k_all) => `(tactic| assumption)
theorem fm0 {a b : Int} (h : 0 < b) : 0 ≤ a.fmod b := by rw [Int.fmod_eq_emod_of_nonneg a (Int.le_of_lt h)]; exact Int.emod_nonneg _ (by omega)
theorem fm1 {a b : Int} (h : 0 < b) : a.fmod b < b := by rw [Int.fmod_eq_emod_of_nonneg a (Int.le_of_lt h)]; exact Int.emod_lt_of_pos _ h
theorem draw_ok {w : World} (B S : Addr) (svs : List Value) (sns : List Int) (p : Int) (tp : Tok) (g : Int) (tg : Tok) (n : Nat) (size : Int) (tz : Tok) (rest : List (Addr × Obj)) :
  ∀ (pr : Program) (loose : List Str) (mean : ExcName → Option Value) (mg mb : Str → Option Value) (dp un : Nat) (gd : Option (List Code)) (cn : Str) (cs : Scope) (a : Addr) (ccd : Value) (cl : List (Str × Addr)) (outer : List Env) (A₀ : Around) (base h₀ : Heap) (L : Addr) (m : Str → Option Value) (s : Shared) (Q E : Value → Shared → Prop),
    Below A₀ base outer h₀ → Fr h₀ L s.heap m → (Mine.hd.heap_39 w.params).In h₀ → News h₀ L s.heap ((B, boxO S p tp g tg n) :: rest) → Top pr loose mean mg mb h₀ → cs.kind = .function → h₀.IsList S svs.toArray → IntsAre svs sns → sns.length ≤ 63 → (∀ q ∈ rest, q.1 ≠ B) → 0 ≤ p → 0 < size → size ≤ 100 → dp + 1 < recursionLimit → un + 8 * 1 < cLine → DrawRet h₀ L m B S rest size s Q →
      wpAny (model PySem.Challenge.rw_fj5014_01.row.prog w) (ktrTop dp un gd cn cs L a ccd cl outer) (PySem.call (.ref 425) [.ref B, .int size tz]) Q E s := by
  dsimp only [DrawRet, boxO]
  k_fill
  intro pr loose mean mg mb dp un gd cn cs a ccd cl outer A₀ base h₀ L m s Q E hB hF hK hN hT hcs hS hi hz hoff hp0 hs0 hs1 hd hu hret
  refine wpAny_call ?_
  k_dflt (refine' code_def ?k1 ?k2 ?k3 ?k4 ?k5 ?kA ?kF ?kK ?k6 ?k7 ?k8 ?k9 ?kB ?_ ?c2 ?c3 ?c4 ?c5; (case kA => exact rfl); (case kF => exact rfl); (case kK => assumption); (case k1 => k_asm); (case k2 => k_asm); (case k3 => k_asm); (case k4 => k_asm); (case k5 => k_asm); (case k6 => k_is); (case k7 => k_is); (case k8 => exact Nat.lt_of_le_of_lt (Nat.le_add_right _ _) hd); (case k9 => first | exact BindsTo.of_eq rfl | exact binds_K (by k_in) rfl (by k_is) rfl rfl rfl); (case c5 => decide); (case kB => exact locs rfl); (case c2 => exact rfl); (case c3 => exact rfl); (case c4 => exact rfl); k_whole; intro g' L' h' FG' F' N' B' X' T'; (try dsimp only); (try k_lift B'); (try k_fold))
  replace hS : g'.IsList S svs.toArray := hS.at fun o e => FG'.keep _ _ e
  k_steps
  all_goals ((rename Fr _ _ _ _ => kF9); (rename News _ _ _ _ => kN9); exact hret _ _ _ _ _ _ _ _ _ (fm0 hs0) (fm1 hs0) (by omega) kF9 kN9)
end Mine
end

section
open PySem PySem.W PyProof.Rows PySem.Calls
set_option maxRecDepth 100000
set_option maxHeartbeats 0
namespace Mine
section
variable {w : World} {B S l : Addr} {svs : List Value} {sns : List Int} {p : Int} {tp : Tok} {g : Int} {tg : Tok} {n : Nat} {size : Int} {tz : Tok} {rest tmp : List (Addr × Obj)}
  {pr : Program} {loose : List Str} {mean : ExcName → Option Value} {mg mb : Str → Option Value} {dp un : Nat} {gd : Option (List Code)} {cn : Str} {cs : Scope} {a : Addr} {ccd : Value} {cl : List (Str × Addr)} {outer : List Env} {A₀ : Around} {base h₀ : Heap} {L : Addr} {m : Str → Option Value} {s : Shared} {Q E : Value → Shared → Prop}
/-- a draw: the box moves to the head of the ledger -/
theorem draw_use (hB : Below A₀ base outer h₀) (hF : Fr h₀ L s.heap m) (hK : (Mine.hd.heap_39 w.params).In h₀) (hN : News h₀ L s.heap (tmp ++ (B, boxO S p tp g tg n) :: rest)) (hT : Top pr loose mean mg mb h₀) (hcs : cs.kind = .function) (hS : h₀.IsList S svs.toArray) (hi : IntsAre svs sns) (hz : sns.length ≤ 63)
    (hoff : ∀ q ∈ tmp ++ rest, q.1 ≠ B) (hp : 0 ≤ p) (hs0 : 0 < size) (hs1 : size ≤ 100) (hd : dp + 1 < recursionLimit) (hu : un + 8 * 1 < cLine)
    (h : ∀ (k : Int) (t : Tok) (p' : Int) (tp' : Tok) (g' : Int) (tg' : Tok) (n' : Nat) (h' : Heap) (tk' : Nat), 0 ≤ k → k < size → 0 ≤ p' → Fr h₀ L h' m → News h₀ L h' ((B, boxO S p' tp' g' tg' n') :: (tmp ++ rest)) → Q (.int k t) { s with heap := h', toks := tk' }) :
    wpAny (model PySem.Challenge.rw_fj5014_01.row.prog w) (ktrTop dp un gd cn cs L a ccd cl outer) (PySem.call (.ref 425) [.ref B, .int size tz]) Q E s :=
  draw_ok B S svs sns p tp g tg n size tz (tmp ++ rest) pr loose mean mg mb dp un gd cn cs a ccd cl outer A₀ base h₀ L m s Q E hB hF hK
    (fun q hq => hN q (by rcases List.mem_cons.mp hq with rfl | hq
                          · simp
                          · rcases List.mem_append.mp hq with h | h
                            · simp [h]
                            · simp [h])) hT hcs hS hi hz hoff hp hs0 hs1 hd hu h
end
section
variable {prog : Program} {w : World} {A : Around} {E : Value → Shared → Prop} {s : Shared} {h₀ : Heap} {L l : Addr} {m : Str → Option Value} {news : List (Addr × Obj)} {vs : List Value} {hs : List Str} {k : Int} {u : Tok} {n : Nat} {value slice : Expr} {Q : Value → Shared → Prop}
theorem strs_at : ∀ {vs : List Value} {hs : List Str}, StrsAre vs hs → ∀ {i : Nat} {y : Str}, hs[i]? = some y → ∃ t, vs[i]? = some (.str y t)
  | _, _, .nil, i, y, h => by simp at h
  | _, _, .cons z t r, 0, y, h => by simp at h; subst h; exact ⟨t, by simp⟩
  | _, _, .cons z t r, i + 1, y, h => by
    simp at h
    obtain ⟨u, hu⟩ := strs_at r h
    exact ⟨u, by simpa using hu⟩
/-- an item of a list of texts, by a drawn index -/
theorem pick_strs (N : News h₀ L s.heap news) (hm : (l, listOf vs.toArray n) ∈ news) (hi : StrsAre vs hs) (h0 : 0 ≤ k) (h1 : k < (hs.length : Int)) (hz : hs.length ≤ 1000)
    (h : ∀ y t, hs[k.toNat]? = some y → Q (.str y t) s)
    (hss : subscripted slice false (.ref l) (.int k u) = operate [.ref l, .int k u] (getItem (.ref l) (.int k u)) := by with_unfolding_all rfl) :
    wpAny (model prog w) A (subscriptTail value slice (.ref l) (.int k u)) Q E s := by
  have hk : k.toNat < hs.length := by omega
  obtain ⟨t, ht⟩ := strs_at hi (List.getElem?_eq_getElem hk)
  exact item_listR ⟨_, (N _ hm).1, rfl, n, rfl⟩ h0 (by omega) (by simpa using ht) (h _ t (List.getElem?_eq_getElem hk)) hss
theorem pick_any (N : News h₀ L s.heap news) (hm : (l, listOf vs.toArray n) ∈ news) (h0 : 0 ≤ k) (h1 : k < (vs.length : Int)) (hz : vs.length ≤ 1000)
    (h : ∀ v, vs[k.toNat]? = some v → Q v s)
    (hss : subscripted slice false (.ref l) (.int k u) = operate [.ref l, .int k u] (getItem (.ref l) (.int k u)) := by with_unfolding_all rfl) :
    wpAny (model prog w) A (subscriptTail value slice (.ref l) (.int k u)) Q E s := by
  have hk : k.toNat < vs.length := by omega
  exact item_listR ⟨_, (N _ hm).1, rfl, n, rfl⟩ h0 (by omega) (by simp) (h _ (List.getElem?_eq_getElem hk)) hss
end
end Mine
end

section
open PySem PySem.W PyProof.Rows PySem.Calls
set_option maxRecDepth 100000
namespace Mine
section
variable {M : Model} {A : Around} {E : Value → Shared → Prop} {s : Shared} {K : Frag} {h₀ : Heap} {L a : Addr} {m mg mb : Str → Option Value} {cn : Str} {cs : Scope} {ccd : Value} {cl : List (Str × Addr)} {p : Program} {loose : List Str} {mean : ExcName → Option Value} {x : Str} {pos : Pos} {v : Value} {Q : Value → Shared → Prop}
theorem nameX_K (F : Fr h₀ L s.heap m) (X : K.In h₀) (T : Top p loose mean mg mb h₀) (e : nsIn K mainGlobals x = some (some v)) (h : Q v s)
    (hk : cs.kind = .function := by rfl) (hx : (envX cn cs L a ccd cl).kindOf x = some .globalImplicit := by rfl) (hd : (x == ("__debug__" : Str)) = false := by decide) :
    wpAny M A (eval (.Name x pos) (envX cn cs L a ccd cl)) Q E s :=
  Calls.Name_function_global hk hx (Calls.loadGlobal_global (env := envX cn cs L a ccd cl) (T.g.keeps F.keep) (mg_of X T.g e) h) hd
theorem nameX_B (F : Fr h₀ L s.heap m) (X : K.In h₀) (T : Top p loose mean mg mb h₀) (e : nsIn K mainGlobals x = some none) (hv : bootBuiltins x = some v) (hn : x ≠ "__name__") (h : Q v s)
    (hk : cs.kind = .function := by rfl) (hx : (envX cn cs L a ccd cl).kindOf x = some .globalImplicit := by rfl) (hd : (x == ("__debug__" : Str)) = false := by decide) :
    wpAny M A (eval (.Name x pos) (envX cn cs L a ccd cl)) Q E s :=
  Calls.Name_function_global hk hx (Calls.loadGlobal_builtin (env := envX cn cs L a ccd cl) (T.g.keeps F.keep) (mg_none_of X T.g e) (T.b.keeps F.keep) ((T.builtins x hn).trans hv) h) hd
theorem ldX (F : Fr h₀ L s.heap m) (hv : m x = some v) (h : Q v s)
    (hk : cs.kind = .function := by rfl) (hl : (envX cn cs L a ccd cl).kindOf x = some .local := by rfl) (hd : (x == ("__debug__" : Str)) = false := by decide) :
    wpAny M A (eval (.Name x pos) (envX cn cs L a ccd cl)) Q E s := wpAny_Name (wpAny_loadName_local hk hl F.ns hv h) hd
end
section
variable {prog : Program} {w : World} {A : Around} {E : Value → Shared → Prop} {s : Shared} {K : Frag} {h₀ : Heap} {L D C x : Addr} {m : Str → Option Value} {news : List (Addr × Obj)} {ox : Obj} {odx : Option Obj} {cdD : ClassData} {Q : Value → Shared → Prop}
/-- super with both arguments written -/
theorem call_super2 (F : Fr h₀ L s.heap m) (X₀ : K.In h₀) (N : News h₀ L s.heap news) (I : InstAt s.heap x ox C odx) (hD : clsIn K D = some cdD) (hsub : mroIn K C (.ref D) = some true)
    (h : ∀ so h', Fr h₀ L h' m → News h₀ L h' ((so, ks_superObj D x C) :: news) → (∀ p ∈ news, p.1 < so) → Q (.ref so) { s with heap := h' }) :
    wpAny (model prog w) A (PySem.call (.type "super") [.ref D, .ref x]) Q E s := by
  have X : K.In s.heap := X₀.keeps F.keep
  obtain ⟨hh, g, d, t, os⟩ := s
  obtain ⟨oD, hD1, hD2⟩ : ∃ oD, hh.get? D = some oD ∧ oD.data = .cls cdD := by
    unfold clsIn at hD
    split at hD
    · rename_i c d cd' sl ho
      cases hD
      exact ⟨_, X _ _ ho, rfl⟩
    · cases hD
  refine ks_wpAny_call_super hD1 hD2 I.at_ I.cls (fun c e => ?_) (looks_mroIn X hsub) (fun h' e k => ?_)
  · have := I.no
    unfold notCls at this
    rw [e] at this
    exact Bool.noConfusion this
  · obtain ⟨F', N', l'⟩ := ks_newsPush (s := ⟨hh, g, d, t, os⟩) F N rfl e k
    exact h _ _ F' N' l'
end
end Mine
end

section
open PySem PySem.W PyProof.Rows PySem.Calls
set_option maxRecDepth 100000
set_option maxHeartbeats 0
namespace Mine
theorem walk_state7 : True := by
  w_top off
  k_with_none
  trivial
local macro_rules | `(tactic| walk_at "execs cons") => `(tactic| (k_here; with_reducible refine gen_tk ?_; intro tk9))
local macro_rules | `(tactic| walk_at "execs nil") => `(tactic| (k_here; with_reducible refine gen_tk ?_; intro tk9))
local macro_rules | `(tactic| walk_at "eval Name") => `(tactic| (k_here; (with_reducible show wpAny _ _ (eval (Expr.Name (PySem.Str.ofString "super") _) _) _ _ _); (rename Fr _ _ _ _ => kF); k_dflt (refine' nameX_B kF ?k1 ?k2 ?k3 ?k4 ?k5 ?_; (case k1 => k_asm); (case k2 => k_asm); (case k3 => k_is); (case k4 => boot_by_name); (case k5 => decide))))
local macro_rules | `(tactic| walk_at "call type:super") => `(tactic| (k_here; k_dflt (refine' call_super2 ?k1 ?k2 ?k3 ?k4 ?k5 ?k6 ?_; (case k1 => k_asm); (case k2 => k_asm); (case k3 => k_asm); (case k4 => k_inst); (case k5 => k_is); (case k6 => k_is)); intro so' h' F' N' l1; (try k_lt l1)))
local macro_rules | `(tactic| walk_at "call ref") => `(tactic| (k_here; k_dflt (refine' call_meth ?k1 ?k2 ?_; (case k1 => k_asm); (case k2 => k_mem)); k_dflt (refine' code_def ?k1 ?k2 ?k3 ?k4 ?k5 ?kA ?kF ?kK ?k6 ?k7 ?k8 ?k9 ?kB ?_ ?c2 ?c3 ?c4 ?c5; (case kA => exact rfl); (case kF => exact rfl); (case kK => first | exact rfl | assumption); (case k1 => k_asm); (case k2 => k_asm); (case k3 => k_asm); (case k4 => k_asm); (case k5 => k_asm); (case k6 => k_is); (case k7 => k_is); (case k8 => first | omega | ((try dsimp only [Around.deeper, Around.under, ktrTop]); omega) | ktr_room); (case k9 => first | exact BindsTo.of_eq rfl | exact binds_K (by k_in) rfl (by k_is) rfl rfl rfl); (case c5 => decide); (case kB => exact locs rfl); (case c2 => exact rfl); (case c3 => exact rfl); (case c4 => exact rfl); k_whole; intro g' L' h' FG' F' N' B' X' T'; (try dsimp only); (try k_lift B'); (try k_fold))))
local macro_rules | `(tactic| walk_at "setAttr ref") => `(tactic| (k_here; k_dflt (refine' set_dict ?k1 ?k2 ?k3 ?k4 ?k5 ?k6 ?k7 ?k8 ?k9 ?k10 ?k11 ?k12 ?k13 ?_; (case k1 => k_asm); (case k2 => k_asm); (case k3 => k_asm); (case k4 => k_inst); (case k5 => exact rfl); (case k6 => k_is); (case k7 => k_is); (case k8 => k_is); (case k9 => k_is); (case k10 => k_get); (case k11 => k_put); (case k12 => k_upd); (case k13 => exact Nat.le_of_ble_eq_true rfl)); intro h' F' N'; (try k_sweep)))
/-- the maker's dict -/
abbrev mkD (w : World) (dd : Addr) (t1 t2 t3 : Tok) (e : Bool) (al : Value) : Obj :=
  dictOf [{ hash := PyData.keyHash w.params (Str.ofString "_BaseRenderer__methods"), key := .str (Str.ofString "_BaseRenderer__methods") t1, val := .ref dd },
    { hash := PyData.keyHash w.params (Str.ofString "_allow_harmful_protocols"), key := .str (Str.ofString "_allow_harmful_protocols") t2, val := al },
    { hash := PyData.keyHash w.params (Str.ofString "_escape"), key := .str (Str.ofString "_escape") t3, val := .bool e }] 3
theorem make_ok {w : World} (e : Bool) (al : Value) (news : List (Addr × Obj)) :
  ∀ (p : Program) (loose : List Str) (mean : ExcName → Option Value) (mg mb : Str → Option Value) (dp un : Nat) (gd : Option (List Code)) (cn : Str) (cs : Scope) (a : Addr) (ccd : Value) (cl : List (Str × Addr)) (outer : List Env) (A₀ : Around) (base h₀ : Heap) (L : Addr) (m : Str → Option Value) (s : Shared) (Q E : Value → Shared → Prop),
    Below A₀ base outer h₀ → Fr h₀ L s.heap m → (Mine.hd.heap_39 w.params).In h₀ → News h₀ L s.heap news → Top p loose mean mg mb h₀ → cs.kind = .function → dp + 2 < recursionLimit → un + 8 * 2 < cLine →
    (∀ x d dd t1 t2 t3 h' tk', Fr h₀ L h' m → News h₀ L h' ((x, instObj 380 d) :: (d, mkD w dd t1 t2 t3 e al) :: news) → (∀ p ∈ news, p.1 < d) → d < x → Q (.ref x) { s with heap := h', toks := tk' }) →
      wpAny (model PySem.Challenge.rw_fj5014_01.row.prog w) (ktrTop dp un gd cn cs L a ccd cl outer) (PySem.call (.ref 380) [] [(Str.ofString "escape", .bool e), (Str.ofString "allow_harmful_protocols", al)]) Q E s := by
  k_fill
  intro p loose mean mg mb dp un gd cn cs a ccd cl outer A₀ base h₀ L m s Q E hB hF hK hN hT hcs hd hu hret
  k_dflt (refine' call_cls ?k1 ?k2 ?k3 ?k4 ?k5 ?k6 ?_)
  case k1 => k_asm
  case k2 => k_asm
  case k3 => k_asm
  case k4 => k_is
  case k5 => k_is
  case k6 => k_is
  k_whole
  intro x' d' h' F' N' l1 l2
  (try k_lt l1)
  (try k_lt2 l2)
  k_dflt (refine' ks_code_super ?k1 ?k2 ?k3 ?k4 ?k5 ?kA ?kF ?kK ?k6 ?k7 ?k8 ?k9 ?kB ?_ ?c1 ?c2 ?c3 ?c4)
  case kA => exact rfl
  case kF => exact rfl
  case kK => assumption
  case k1 => k_asm
  case k2 => k_asm
  case k3 => k_asm
  case k4 => k_asm
  case k5 => k_asm
  case k6 => k_is
  case k7 => k_is
  case k8 => first | omega | ((try dsimp only [Around.deeper, Around.under, ktrTop]); omega) | ktr_room
  case k9 => exact binds_K (by k_in) rfl (by k_is) rfl rfl rfl
  case kB => exact locs rfl
  case c1 => decide
  case c2 => exact rfl
  case c3 => exact rfl
  case c4 => exact rfl
  intro g' L' h' FG' F' N' B' X' T' l1
  (try k_lt l1)
  (try dsimp only)
  (try k_lift B')
  iterate 60 (all_goals try (first | (k_unfold; (try dsimp only)) | walk1 | (dsimp only; walk1) | (leave1; walk_say "STEP leave1"; try dsimp only)))
  rename News _ _ _ _ => kN9
  rename Fr _ _ _ _ => kF9
  exact hret x' d' _ _ _ _ _ _ kF9 (cb_drop kN9 (fun p hp => .tail _ (.tail _ (.tail _ hp)))) (by assumption) (by assumption)
end Mine
end

section
open PySem PySem.W PyProof.Rows
set_option maxRecDepth 100000
namespace Mine
namespace Fx
theorem plainAttrs_pat : PlainAttrs "re.Pattern" :=
  ⟨⟨"object.__getattribute__", by rw [typeLookup_type, builtinLookup_eq_fast]; kernel_rfl, by decide +kernel⟩, by rw [typeLookup_type, builtinLookup_eq_fast]; kernel_rfl⟩
theorem slot_pat_sub : Slot "re.Pattern" "sub" "re.Pattern.sub" :=
  .of (owner := "re.Pattern") (n := "sub") (by rw [typeLookup_type, builtinLookup_eq_fast]; kernel_rfl) (by decide +kernel) (by decide +kernel) (by decide +kernel)
    (by first | exact .inl (by decide +kernel) | exact .inr (by decide +kernel)) (by rw [isSubtype_type]; kernel_rfl)
theorem type_pat_sub : typeOf (.builtin "re.Pattern.sub") = pure (.type "method_descriptor") := by show builtinType _ = _; rw [builtinType_eq_fast]; kernel_rfl
theorem entry_pat_sub : entryFor table "re.Pattern.sub" = some Builtin.«re.Pattern.sub» := entryFor_of_tree (by kernel_rfl)
theorem kind_loop : builtinKind "re.Pattern.sub.loop" = none := by decide +kernel
theorem plain_loop : plainId "re.Pattern.sub.loop" = true := by decide +kernel
theorem entry_loop : entryFor table "re.Pattern.sub.loop" = some Builtin.«re.Pattern.sub.loop» := entryFor_of_tree (by kernel_rfl)
theorem args_pat_sub (a b c : Value) : argsOk "re.Pattern.sub" ⟨[a, b, c], []⟩ := by unfold argsOk; kernel_rfl
theorem plainAttrs_match : PlainAttrs "re.Match" :=
  ⟨⟨"object.__getattribute__", by rw [typeLookup_type, builtinLookup_eq_fast]; kernel_rfl, by decide +kernel⟩, by rw [typeLookup_type, builtinLookup_eq_fast]; kernel_rfl⟩
theorem slot_match_group : Slot "re.Match" "group" "re.Match.group" :=
  .of (owner := "re.Match") (n := "group") (by rw [typeLookup_type, builtinLookup_eq_fast]; kernel_rfl) (by decide +kernel) (by decide +kernel) (by decide +kernel)
    (by first | exact .inl (by decide +kernel) | exact .inr (by decide +kernel)) (by rw [isSubtype_type]; kernel_rfl)
theorem type_match_group : typeOf (.builtin "re.Match.group") = pure (.type "method_descriptor") := by show builtinType _ = _; rw [builtinType_eq_fast]; kernel_rfl
theorem entry_match_group : entryFor table "re.Match.group" = some Builtin.«re.Match.group» := entryFor_of_tree (by kernel_rfl)
theorem args_match_group (a b : Value) : argsOk "re.Match.group" ⟨[a, b], []⟩ := by unfold argsOk; kernel_rfl
theorem slot_str_encode : Slot "str" "encode" "str.encode" :=
  .of (owner := "str") (n := "encode") (by rw [typeLookup_type, builtinLookup_eq_fast]; kernel_rfl) (by decide +kernel) (by decide +kernel) (by decide +kernel)
    (by first | exact .inl (by decide +kernel) | exact .inr (by decide +kernel)) (by rw [isSubtype_type]; kernel_rfl)
theorem type_str_encode : typeOf (.builtin "str.encode") = pure (.type "method_descriptor") := by show builtinType _ = _; rw [builtinType_eq_fast]; kernel_rfl
theorem entry_str_encode : entryFor table "str.encode" = some Builtin.«str.encode» := entryFor_of_tree (by kernel_rfl)
theorem args_str_encode (a b : Value) : argsOk "str.encode" ⟨[a, b], []⟩ := by unfold argsOk; kernel_rfl
theorem args_bytes_decode (a b c : Value) : argsOk "bytes.decode" ⟨[a, b, c], []⟩ := by unfold argsOk; kernel_rfl
end Fx
end Mine
end

section
set_option maxRecDepth 100000
namespace Mine
open PySem PySem.Sre
def RC : Array Nat := #[14, 8, 1, 3, 4294967295, 1, 1, 38, 0, 16, 38, 17, 0, 7, 18, 16, 35, 24, 10, 1, 7, 13, 5, 22, 48, 57, 0, 1, 16, 59, 15, 56, 31, 16, 35, 13, 6, 16, 120, 16, 88, 0, 24, 16, 1, 4294967295, 13, 11, 9, 0, 67043328, 126, 126, 0, 0, 0, 0, 0, 1, 16, 59, 15, 25, 23, 24, 17, 1, 32, 13, 12, 21, 9, 5632, 402653257, 0, 0, 0, 0, 0, 0, 0, 1, 16, 59, 15, 2, 0, 17, 1, 1]
@[reducible] def mk (T : Array Nat) (st pc pos hd : Nat) (o : Bool) (a b : Option Nat) (lm li : Int) (fr : List Sre.Frame) (wt : Nat) (ans : Option Bool) (seen : Seen) : M :=
  { code := RC, text := T, lim := T.size, start := st, lastStart := T.size, wholeText := false, mustAdvance := false, pc := pc, pos := pos, handed := hd, outermost := o, marks := #[a, b], lastmark := lm, lastindex := li,
    loops := #[], inner := none, frames := fr, weight := wt, answer := ans, seen := seen, outcome := none }
@[reducible] def fS (s : Nat) (o : Bool) : Sre.Frame := { wait := .nextStart, pc := 9, pos := s, outermost := o }
@[reducible] def kp : Sre.Kept := { lastmark := 0, lastindex := -1, whole := false, marks := #[] }
@[reducible] def fB (pc p : Nat) (o : Bool) : Sre.Frame := { wait := .nextBranch, pc := pc, pos := p, outermost := o, kept := kp }
@[reducible] def fG (pc p : Nat) (o : Bool) (n : Int) : Sre.Frame := { wait := .giveBack, pc := pc, pos := p, outermost := o, count := n, kept := kp }
section
variable {T : Array Nat} {st pc pos hd s p : Nat} {o : Bool} {a b : Option Nat} {lm li : Int} {fr : List Sre.Frame} {wt : Nat} {seen : Seen}
theorem step_exec (hpc : pc < RC.size) : (mk T st pc pos hd o a b lm li fr wt none seen).step = (mk T st pc pos hd o a b lm li fr wt none seen).exec := by
  unfold M.step
  simp only [Option.isSome_none, Bool.false_eq_true, if_false, hpc, if_true]
theorem exec_lit {c : Nat} (h0 : RC.getD pc 0 = 16) (h1 : RC.getD (pc + 1) 0 = c) : (mk T st pc pos hd o a b lm li fr wt none seen).exec =
    if pos < T.size ∧ T.getD pos 0 = c then mk T st (pc + 2) (pos + 1) hd o a b lm li fr wt none (seen.add 16) else mk T st pc pos hd o a b lm li fr wt (some false) (seen.add 16) := by
  have ho : ops[16]? = some Op.LITERAL := rfl
  unfold M.exec M.word
  simp only [Nat.add_zero, h0, ho, accepts, h1, itemWidth, M.say]
  generalize T.getD pos 0 = v
  by_cases hp : pos < T.size
  · have : ¬ pos ≥ T.size := by omega
    simp only [this, if_false]
    by_cases hc : v = c
    · simp [hp, hc]
    · have : (v == c) = false := by simpa using hc
      simp [this, hp, hc]
  · have : pos ≥ T.size := by omega
    simp [this, hp]
theorem exec_mark0 : (mk T st 11 pos hd o a b (-1) (-1) fr wt none seen).exec = mk T st 13 pos hd o (some pos) b 0 (-1) fr wt none (seen.add 17) := rfl
theorem exec_mark1 : (mk T st 87 pos hd o a b 0 (-1) fr wt none seen).exec = mk T st 89 pos hd o a (some pos) 1 1 fr wt none (seen.add 17) := by
  have ho : ops[17]? = some Op.MARK := rfl
  have h0 : RC.getD 87 0 = 17 := rfl
  have h1 : RC.getD 88 0 = 1 := rfl
  unfold M.exec M.word
  simp only [Nat.add_zero, h0, ho, h1, M.mark, Nat.reduceAdd]
  rfl
theorem exec_jump30 : (mk T st 30 pos hd o a b lm li fr wt none seen).exec = mk T st 87 pos hd o a b lm li fr wt none (seen.add 15) := rfl
theorem exec_jump61 : (mk T st 61 pos hd o a b lm li fr wt none seen).exec = mk T st 87 pos hd o a b lm li fr wt none (seen.add 15) := rfl
theorem exec_jump84 : (mk T st 84 pos hd o a b lm li fr wt none seen).exec = mk T st 87 pos hd o a b lm li fr wt none (seen.add 15) := rfl
theorem exec_branch : (mk T st 13 pos hd o a b 0 (-1) fr 1 none seen).exec = mk T st 15 pos pos o a b 0 (-1) (fB 14 pos o :: fr) 2 none (seen.add 7) := rfl
theorem exec_succ : (mk T st 89 pos hd o a b lm li fr wt none seen).exec = mk T st 89 pos pos o a b lm li fr wt (some true) (seen.add 1) := by cases o <;> rfl
theorem alt_14 : (mk T st pc pos hd o a b lm li (fB 14 p o :: fr) 2 (some false) seen).step = mk T st 33 p p o a b 0 (-1) (fB 32 p o :: fr) 2 none seen := rfl
theorem alt_32 : (mk T st pc pos hd o a b lm li (fB 32 p o :: fr) 2 (some false) seen).step = mk T st 64 p p o a b 0 (-1) (fB 63 p o :: fr) 2 none seen := rfl
theorem alt_63 : (mk T st pc pos hd o a b lm li (fB 63 p o :: fr) 2 (some false) seen).step = mk T st 63 p hd o a b 0 (-1) fr 1 (some false) seen := rfl
theorem alt_yes {q : Nat} : (mk T st pc pos hd o a b lm li (fB q p o :: fr) 2 (some true) seen).step = mk T st q p hd o a b lm li fr 1 (some true) seen := rfl
theorem give_yes {q : Nat} {n : Int} : (mk T st pc pos hd o a b lm li (fG q p o n :: fr) 3 (some true) seen).step = mk T st q p hd o a b lm li fr 2 (some true) seen := rfl
theorem start_yes : (mk T st pc pos hd o a b lm li [fS s o] 1 (some true) seen).step = mk T st 9 s hd o a b lm li [] 0 (some true) seen := rfl
theorem start_no (h : s < T.size) : (mk T st pc pos hd o a b lm li [fS s o] 1 (some false) seen).step = mk T (s + 1) 9 (s + 1) (s + 1) false a b (-1) (-1) [fS (s + 1) false] 1 none seen := by
  show (if s < T.size then _ else _) = _
  rw [if_pos h]; rfl
theorem start_end (h : ¬ s < T.size) : (mk T st pc pos hd o a b lm li [fS s o] 1 (some false) seen).step = mk T st 9 s hd o a b lm li [] 0 (some false) seen := by
  show (if s < T.size then _ else _) = _
  rw [if_neg h]; rfl
theorem fin_step {y : Bool} : (mk T st pc pos hd o a b lm li [] 0 (some y) seen).step = { mk T st pc pos hd o a b lm li [] 0 (some y) seen with outcome := some (if y then .matched else .failed) } := rfl
/-- sets -/
def cls68 (c : Nat) : Bool := !(decide (c < 256) && (RC.getD (71 + (1 + c / 32)) 0).testBit (c % 32))
def cls46 (c : Nat) : Bool := decide (c < 256) && (RC.getD (48 + (1 + c / 32)) 0).testBit (c % 32)
def cls21 (c : Nat) : Bool := decide (48 ≤ c) && decide (c ≤ 57)
def cls35 (c : Nat) : Bool := c == 120 || c == 88
theorem acc68 (c : Nat) (seen : Seen) : ∃ seen', accepts RC 68 c seen = .ok (cls68 c, seen') := by
  have e : accepts RC 68 c seen = (if (decide (c < 256) && (RC.getD (71 + (1 + c / 32)) 0).testBit (c % 32)) = true then .ok (false, (seen.add 21).add 9) else .ok (true, ((seen.add 21).add 9).add 0)) := rfl
  rw [e]; unfold cls68
  by_cases h : (decide (c < 256) && (RC.getD (71 + (1 + c / 32)) 0).testBit (c % 32)) = true
  · rw [if_pos h, h]; exact ⟨_, rfl⟩
  · rw [if_neg h]; simp only [Bool.not_eq_true] at h; rw [h]; exact ⟨_, rfl⟩
theorem acc46 (c : Nat) (seen : Seen) : ∃ seen', accepts RC 46 c seen = .ok (cls46 c, seen') := by
  have e : accepts RC 46 c seen = (if (decide (c < 256) && (RC.getD (48 + (1 + c / 32)) 0).testBit (c % 32)) = true then .ok (true, seen.add 9) else .ok (false, (seen.add 9).add 0)) := rfl
  rw [e]; unfold cls46
  by_cases h : (decide (c < 256) && (RC.getD (48 + (1 + c / 32)) 0).testBit (c % 32)) = true
  · rw [if_pos h, h]; exact ⟨_, rfl⟩
  · rw [if_neg h]; simp only [Bool.not_eq_true] at h; rw [h]; exact ⟨_, rfl⟩
theorem acc21 (c : Nat) (seen : Seen) : ∃ seen', accepts RC 21 c seen = .ok (cls21 c, seen') := by
  have e : accepts RC 21 c seen = (if (decide (48 ≤ c) && decide (c ≤ 57)) = true then .ok (true, seen.add 22) else .ok (false, (seen.add 22).add 0)) := rfl
  rw [e]; unfold cls21
  by_cases h : (decide (48 ≤ c) && decide (c ≤ 57)) = true
  · rw [if_pos h, h]; exact ⟨_, rfl⟩
  · rw [if_neg h]; simp only [Bool.not_eq_true] at h; rw [h]; exact ⟨_, rfl⟩
theorem acc35 (c : Nat) (seen : Seen) : ∃ seen', accepts RC 35 c seen = .ok (cls35 c, seen') := by
  have e : accepts RC 35 c seen = (if (c == 120) = true then .ok (true, seen.add 16) else if (c == 88) = true then .ok (true, (seen.add 16).add 16) else .ok (false, ((seen.add 16).add 16).add 0)) := rfl
  rw [e]; unfold cls35
  cases h1 : c == 120 <;> cases h2 : c == 88 <;> exact ⟨_, rfl⟩
theorem exec_in35 (hp : pos < T.size) (hc : cls35 (T.getD pos 0) = true) : ∃ seen', (mk T st 35 pos hd o a b lm li fr wt none seen).exec = mk T st 42 (pos + 1) hd o a b lm li fr wt none seen' := by
  obtain ⟨s2, h⟩ := acc35 (T.getD pos 0) (seen.add 13)
  rw [hc] at h
  refine ⟨s2, ?_⟩
  have e : (mk T st 35 pos hd o a b lm li fr wt none seen).exec = (if pos ≥ T.size then (mk T st 35 pos hd o a b lm li fr wt none (seen.add 13)).say false else
    match accepts RC 35 (T.getD pos 0) (seen.add 13) with
    | .error why => (mk T st 35 pos hd o a b lm li fr wt none (seen.add 13)).stick why
    | .ok (false, seen) => (mk T st 35 pos hd o a b lm li fr wt none seen).say false
    | .ok (true, seen) => mk T st 42 (pos + 1) hd o a b lm li fr wt none seen) := rfl
  rw [e, if_neg (by omega), h]
theorem run_spec {i : Nat} {cls : Nat → Bool} (hacc : ∀ c seen, ∃ seen', accepts RC i c seen = .ok (cls c, seen')) : ∀ (k n p found : Nat) (seen : Seen), (∀ j, j < k → cls (T.getD (p + j) 0) = true) → k ≤ n → (k = n ∨ cls (T.getD (p + k) 0) = false) →
    ∃ seen', Sre.run RC T i n p found seen = .ok (found + k, seen') := by
  intro k
  induction k with
  | zero =>
    intro n p found seen _ _ h
    cases n with
    | zero => exact ⟨seen, by simp [Sre.run]⟩
    | succ n =>
      rcases h with h | h
      · cases h
      · obtain ⟨s2, e⟩ := hacc (T.getD p 0) seen
        rw [Nat.add_zero] at h
        refine ⟨s2, ?_⟩
        unfold Sre.run
        rw [e, h]; rfl
  | succ k ih =>
    intro n p found seen hj hk h
    cases n with
    | zero => omega
    | succ n =>
      obtain ⟨s2, e⟩ := hacc (T.getD p 0) seen
      have h0 := hj 0 (by omega)
      rw [Nat.add_zero] at h0
      obtain ⟨s3, e3⟩ := ih n (p + 1) (found + 1) s2 (fun j hlt => by have := hj (j + 1) (by omega); rwa [show p + 1 + j = p + (j + 1) by omega]) (by omega) (by
        rcases h with h | h
        · left; omega
        · right; rwa [show p + 1 + k = p + (k + 1) by omega])
      refine ⟨s3, ?_⟩
      unfold Sre.run
      rw [e, h0]
      show Sre.run RC T i n (p + 1) (found + 1) s2 = _
      rw [e3, show found + 1 + k = found + (k + 1) by omega]
/-- the three repeats -/
theorem exec_rep64 {n : Nat} (hp : pos < T.size) (hn : 1 ≤ n) (hr : ∀ seen, ∃ seen', Sre.run RC T 68 (min 32 (T.size - pos)) pos 0 seen = .ok (n, seen')) :
    ∃ seen', (mk T st 64 pos hd o a b 0 (-1) fr 2 none seen).exec = mk T st 82 (pos + n) (pos + n) o a b 0 (-1) (fG 64 (pos + n) o n :: fr) 3 none seen' := by
  obtain ⟨s2, h⟩ := hr ((seen.add 24).add 13)
  refine ⟨s2, ?_⟩
  have e : (mk T st 64 pos hd o a b 0 (-1) fr 2 none seen).exec = (if ((1 : Nat) : Int) > (T.size : Int) - pos then (mk T st 64 pos hd o a b 0 (-1) fr 2 none (seen.add 24)).say false else
    match Sre.run RC T 68 (min 32 ((T.size : Int) - pos).toNat) pos 0 ((seen.add 24).add 13) with
    | .error why => (mk T st 64 pos hd o a b 0 (-1) fr 2 none (seen.add 24)).stick why
    | .ok (n, seen) => if n < 1 then (mk T st 64 pos hd o a b 0 (-1) fr 2 none seen).say false else mk T st 82 (pos + n) (pos + n) o a b 0 (-1) (fG 64 (pos + n) o n :: fr) 3 none seen) := rfl
  rw [e, if_neg (by omega), show ((T.size : Int) - pos).toNat = T.size - pos by omega, h]
  show (if n < 1 then _ else _) = _
  rw [if_neg (by omega)]
theorem exec_rep64_none (h : T.size ≤ pos ∨ cls68 (T.getD pos 0) = false) : ∃ seen', (mk T st 64 pos hd o a b 0 (-1) fr 2 none seen).exec = mk T st 64 pos hd o a b 0 (-1) fr 2 (some false) seen' := by
  have e : (mk T st 64 pos hd o a b 0 (-1) fr 2 none seen).exec = (if ((1 : Nat) : Int) > (T.size : Int) - pos then (mk T st 64 pos hd o a b 0 (-1) fr 2 none (seen.add 24)).say false else
    match Sre.run RC T 68 (min 32 ((T.size : Int) - pos).toNat) pos 0 ((seen.add 24).add 13) with
    | .error why => (mk T st 64 pos hd o a b 0 (-1) fr 2 none (seen.add 24)).stick why
    | .ok (n, seen) => if n < 1 then (mk T st 64 pos hd o a b 0 (-1) fr 2 none seen).say false else mk T st 82 (pos + n) (pos + n) o a b 0 (-1) (fG 64 (pos + n) o n :: fr) 3 none seen) := rfl
  rw [e]
  by_cases hp : T.size ≤ pos
  · rw [if_pos (by omega)]; exact ⟨_, rfl⟩
  · rw [if_neg (by omega)]
    obtain ⟨s2, hr⟩ := run_spec (T := T) acc68 0 (min 32 ((T.size : Int) - pos).toNat) pos 0 ((seen.add 24).add 13) (fun j hj => by omega) (by omega) (.inr (by rw [Nat.add_zero]; exact h.resolve_left hp))
    rw [hr]; exact ⟨_, rfl⟩
theorem exec_rep17 {n : Nat} (hp : pos < T.size) (hn : 1 ≤ n) (hr : ∀ seen, ∃ seen', Sre.run RC T 21 (min 7 (T.size - pos)) pos 0 seen = .ok (n, seen')) :
    ∃ seen', (mk T st 17 pos hd o a b 0 (-1) fr 2 none seen).exec = mk T st 28 (pos + n) (pos + n) o a b 0 (-1) (fG 17 (pos + n) o n :: fr) 3 none seen' := by
  obtain ⟨s2, h⟩ := hr ((seen.add 24).add 13)
  refine ⟨s2, ?_⟩
  have e : (mk T st 17 pos hd o a b 0 (-1) fr 2 none seen).exec = (if ((1 : Nat) : Int) > (T.size : Int) - pos then (mk T st 17 pos hd o a b 0 (-1) fr 2 none (seen.add 24)).say false else
    match Sre.run RC T 21 (min 7 ((T.size : Int) - pos).toNat) pos 0 ((seen.add 24).add 13) with
    | .error why => (mk T st 17 pos hd o a b 0 (-1) fr 2 none (seen.add 24)).stick why
    | .ok (n, seen) => if n < 1 then (mk T st 17 pos hd o a b 0 (-1) fr 2 none seen).say false else mk T st 28 (pos + n) (pos + n) o a b 0 (-1) (fG 17 (pos + n) o n :: fr) 3 none seen) := rfl
  rw [e, if_neg (by omega), show ((T.size : Int) - pos).toNat = T.size - pos by omega, h]
  show (if n < 1 then _ else _) = _
  rw [if_neg (by omega)]
theorem exec_rep17_none (h : T.size ≤ pos ∨ cls21 (T.getD pos 0) = false) : ∃ seen', (mk T st 17 pos hd o a b 0 (-1) fr 2 none seen).exec = mk T st 17 pos hd o a b 0 (-1) fr 2 (some false) seen' := by
  have e : (mk T st 17 pos hd o a b 0 (-1) fr 2 none seen).exec = (if ((1 : Nat) : Int) > (T.size : Int) - pos then (mk T st 17 pos hd o a b 0 (-1) fr 2 none (seen.add 24)).say false else
    match Sre.run RC T 21 (min 7 ((T.size : Int) - pos).toNat) pos 0 ((seen.add 24).add 13) with
    | .error why => (mk T st 17 pos hd o a b 0 (-1) fr 2 none (seen.add 24)).stick why
    | .ok (n, seen) => if n < 1 then (mk T st 17 pos hd o a b 0 (-1) fr 2 none seen).say false else mk T st 28 (pos + n) (pos + n) o a b 0 (-1) (fG 17 (pos + n) o n :: fr) 3 none seen) := rfl
  rw [e]
  by_cases hp : T.size ≤ pos
  · rw [if_pos (by omega)]; exact ⟨_, rfl⟩
  · rw [if_neg (by omega)]
    obtain ⟨s2, hr⟩ := run_spec (T := T) acc21 0 (min 7 ((T.size : Int) - pos).toNat) pos 0 ((seen.add 24).add 13) (fun j hj => by omega) (by omega) (.inr (by rw [Nat.add_zero]; exact h.resolve_left hp))
    rw [hr]; exact ⟨_, rfl⟩
theorem exec_rep42 {n : Nat} (hp : pos < T.size) (hn : 1 ≤ n) (hb : T.size < 4294967295) (hr : ∀ seen, ∃ seen', Sre.run RC T 46 (T.size - pos) pos 0 seen = .ok (n, seen')) :
    ∃ seen', (mk T st 42 pos hd o a b 0 (-1) fr 2 none seen).exec = mk T st 59 (pos + n) (pos + n) o a b 0 (-1) (fG 42 (pos + n) o n :: fr) 3 none seen' := by
  obtain ⟨s2, h⟩ := hr ((seen.add 24).add 13)
  refine ⟨s2, ?_⟩
  have e : (mk T st 42 pos hd o a b 0 (-1) fr 2 none seen).exec = (if ((1 : Nat) : Int) > (T.size : Int) - pos then (mk T st 42 pos hd o a b 0 (-1) fr 2 none (seen.add 24)).say false else
    match Sre.run RC T 46 (min 4294967295 ((T.size : Int) - pos).toNat) pos 0 ((seen.add 24).add 13) with
    | .error why => (mk T st 42 pos hd o a b 0 (-1) fr 2 none (seen.add 24)).stick why
    | .ok (n, seen) => if n < 1 then (mk T st 42 pos hd o a b 0 (-1) fr 2 none seen).say false else mk T st 59 (pos + n) (pos + n) o a b 0 (-1) (fG 42 (pos + n) o n :: fr) 3 none seen) := rfl
  rw [e, if_neg (by omega), show min 4294967295 ((T.size : Int) - pos).toNat = T.size - pos by omega, h]
  show (if n < 1 then _ else _) = _
  rw [if_neg (by omega)]
theorem give_no {n : Nat} (hn : 2 ≤ n) : (mk T st pc pos hd o a b lm li (fG 64 p o n :: fr) 3 (some false) seen).step = mk T st 82 (p - 1) (p - 1) o a b 0 (-1) (fG 64 (p - 1) o ((n - 1 : Nat) : Int) :: fr) 3 none seen := by
  have e : (mk T st pc pos hd o a b lm li (fG 64 p o n :: fr) 3 (some false) seen).step = (if (n : Int) - 1 < ((1 : Nat) : Int) then (mk T st 64 p hd o a b 0 (-1) fr 2 none seen).say false else mk T st 82 (p - 1) (p - 1) o a b 0 (-1) (fG 64 (p - 1) o ((n : Int) - 1) :: fr) 3 none seen) := rfl
  rw [e, if_neg (by omega), show (n : Int) - 1 = ((n - 1 : Nat) : Int) by omega]
theorem give_last : (mk T st pc pos hd o a b lm li (fG 64 p o 1 :: fr) 3 (some false) seen).step = mk T st 64 p hd o a b 0 (-1) fr 2 (some false) seen := rfl
end
end Mine
end

section
set_option maxRecDepth 100000
namespace Mine
open PySem PySem.Sre
theorem runFor_done {m : M} (h : m.outcome.isSome = true) : ∀ n, M.runFor n m = m
  | 0 => rfl
  | n + 1 => by unfold M.runFor; rw [if_pos h]
theorem runFor_add : ∀ (x y : Nat) (m : M), M.runFor (x + y) m = M.runFor y (M.runFor x m)
  | 0, y, m => by rw [Nat.zero_add]; rfl
  | x + 1, y, m => by
    by_cases h : m.outcome.isSome = true
    · rw [runFor_done h, runFor_done h (x + 1), runFor_done h]
    · rw [show x + 1 + y = (x + y) + 1 by omega]
      show (if m.outcome.isSome then m else M.runFor (x + y) m.step) = M.runFor y (if m.outcome.isSome then m else M.runFor x m.step)
      rw [if_neg h, if_neg h]
      exact runFor_add x y m.step
def Rch (b : Nat) (m m' : M) : Prop := ∃ n, n ≤ b ∧ M.runFor n m = m'
theorem Rch.step {m m' : M} (h0 : m.outcome = none) (h : m.step = m') : Rch 1 m m' := ⟨1, Nat.le_refl _, by unfold M.runFor; rw [h0]; exact h⟩
theorem Rch.trans {x y : Nat} {m m' m'' : M} (h1 : Rch x m m') (h2 : Rch y m' m'') : Rch (x + y) m m'' := by
  obtain ⟨n, hn, e⟩ := h1
  obtain ⟨k, hk, e2⟩ := h2
  exact ⟨n + k, by omega, by rw [runFor_add, e, e2]⟩
theorem Rch.mono {x y : Nat} {m m' : M} (h : Rch x m m') (hxy : x ≤ y) : Rch y m m' := by
  obtain ⟨n, hn, e⟩ := h
  exact ⟨n, by omega, e⟩
@[reducible] def tr (T : Array Nat) (s : Nat) (o : Bool) (a b : Option Nat) (seen : Seen) : M := mk T s 9 s s o a b (-1) (-1) [fS s o] 1 none seen
section
variable {T : Array Nat} {st pc pos hd s p : Nat} {o : Bool} {a b : Option Nat} {lm li : Int} {fr : List Sre.Frame} {wt : Nat} {seen : Seen}
theorem go_exec {m' : M} (hpc : pc < RC.size) (h : (mk T st pc pos hd o a b lm li fr wt none seen).exec = m') : Rch 1 (mk T st pc pos hd o a b lm li fr wt none seen) m' := .step rfl (by rw [step_exec hpc, h])
theorem go_lit {c : Nat} (hpc : pc < RC.size) (h0 : RC.getD pc 0 = 16) (h1 : RC.getD (pc + 1) 0 = c) (hp : pos < T.size) (hc : T.getD pos 0 = c) :
    Rch 1 (mk T st pc pos hd o a b lm li fr wt none seen) (mk T st (pc + 2) (pos + 1) hd o a b lm li fr wt none (seen.add 16)) := go_exec hpc (by rw [exec_lit h0 h1, if_pos ⟨hp, hc⟩])
theorem no_lit {c : Nat} (hpc : pc < RC.size) (h0 : RC.getD pc 0 = 16) (h1 : RC.getD (pc + 1) 0 = c) (hp : ¬ (pos < T.size ∧ T.getD pos 0 = c)) :
    Rch 1 (mk T st pc pos hd o a b lm li fr wt none seen) (mk T st pc pos hd o a b lm li fr wt (some false) (seen.add 16)) := go_exec hpc (by rw [exec_lit h0 h1, if_neg hp])
theorem skip_one (hs : s < T.size) (hc : T.getD s 0 ≠ 38) : ∃ seen', Rch 2 (tr T s o a b seen) (tr T (s + 1) false a b seen') :=
  ⟨_, (no_lit (c := 38) (by decide) rfl rfl (fun h => hc h.2)).trans (.step rfl (start_no hs))⟩
theorem at_end (hs : ¬ s < T.size) : ∃ mf, Rch 3 (tr T s o a b seen) mf ∧ mf.outcome = some .failed :=
  ⟨_, ((no_lit (c := 38) (by decide) rfl rfl (fun h => hs h.1)).trans (.step rfl (start_end hs))).trans (.step rfl fin_step), rfl⟩
/-- the sign &, up to the branch -/
theorem to_alt1 (hs : s < T.size) (hc : T.getD s 0 = 38) : ∃ seen', Rch 3 (tr T s o a b seen) (mk T s 15 (s + 1) (s + 1) o (some (s + 1)) b 0 (-1) [fB 14 (s + 1) o, fS s o] 2 none seen') :=
  ⟨_, ((go_lit (c := 38) (by decide) rfl rfl hs hc).trans (go_exec (by decide) exec_mark0)).trans (go_exec (by decide) exec_branch)⟩
/-- no #: to the third way -/
theorem to_alt3 (hs : s < T.size) (hc : T.getD s 0 = 38) (hh : ¬ (s + 1 < T.size ∧ T.getD (s + 1) 0 = 35)) : ∃ seen', Rch 7 (tr T s o a b seen) (mk T s 64 (s + 1) (s + 1) o (some (s + 1)) b 0 (-1) [fB 63 (s + 1) o, fS s o] 2 none seen') := by
  obtain ⟨s1, r1⟩ := to_alt1 (o := o) (a := a) (b := b) (seen := seen) hs hc
  exact ⟨_, r1.trans (((no_lit (c := 35) (by decide) rfl rfl hh).trans (.step rfl alt_14)).trans ((no_lit (c := 35) (by decide) rfl rfl hh).trans (.step rfl alt_32)))⟩
/-- the third way failed: the next start -/
theorem alt3_failed (hs : s < T.size) : Rch 2 (mk T st pc pos hd o a b lm li [fB 63 p o, fS s o] 2 (some false) seen) (tr T (s + 1) false a b seen) :=
  Rch.trans (.step rfl alt_63) (.step rfl (start_no hs))
/-- the giving back that finds no ; -/
theorem gives : ∀ (n : Nat) (pos hd : Nat) (seen : Seen), (∀ j, j ≤ n → ¬ (pos - j < T.size ∧ T.getD (pos - j) 0 = 59)) → n < pos →
    ∃ seen' pos', Rch (2 * n + 2) (mk T st 82 pos hd o a b 0 (-1) (fG 64 pos o ((n + 1 : Nat) : Int) :: fr) 3 none seen) (mk T st 64 pos' hd o a b 0 (-1) fr 2 (some false) seen') ∨
      ∃ hd', Rch (2 * n + 2) (mk T st 82 pos hd o a b 0 (-1) (fG 64 pos o ((n + 1 : Nat) : Int) :: fr) 3 none seen) (mk T st 64 pos' hd' o a b 0 (-1) fr 2 (some false) seen')
  | 0, pos, hd, seen, h, _ => ⟨_, _, .inr ⟨_, (no_lit (c := 59) (by decide) rfl rfl (by simpa using h 0 (Nat.le_refl _))).trans (.step rfl give_last)⟩⟩
  | n + 1, pos, hd, seen, h, hp => by
    obtain ⟨s2, p2, r⟩ := gives n (pos - 1) (pos - 1) (seen.add 16) (fun j hj => by have := h (j + 1) (by omega); rwa [show pos - (j + 1) = pos - 1 - j by omega] at this) (by omega)
    have first : Rch 2 (mk T st 82 pos hd o a b 0 (-1) (fG 64 pos o ((n + 1 + 1 : Nat) : Int) :: fr) 3 none seen) (mk T st 82 (pos - 1) (pos - 1) o a b 0 (-1) (fG 64 (pos - 1) o ((n + 1 : Nat) : Int) :: fr) 3 none (seen.add 16)) :=
      Rch.trans (no_lit (c := 59) (by decide) rfl rfl (by simpa using h 0 (by omega))) (.step rfl (give_no (n := n + 1 + 1) (by omega)))
    rcases r with r | ⟨hd', r⟩
    · exact ⟨s2, p2, .inr ⟨_, (first.trans r).mono (by omega)⟩⟩
    · exact ⟨s2, p2, .inr ⟨_, (first.trans r).mono (by omega)⟩⟩
theorem cls68_59 : cls68 59 = false := by decide
theorem amp_alone {k : Nat} (hs : s < T.size) (hc : T.getD s 0 = 38) (hh : ¬ (s + 1 < T.size ∧ T.getD (s + 1) 0 = 35)) (hk : k ≤ 32) (hz : s + 1 + k ≤ T.size) (hj : ∀ j, j < k → cls68 (T.getD (s + 1 + j) 0) = true)
    (he : s + 1 + k = T.size ∨ (cls68 (T.getD (s + 1 + k) 0) = false ∧ T.getD (s + 1 + k) 0 ≠ 59)) : ∃ seen', Rch 100 (tr T s o a b seen) (tr T (s + 1) false (some (s + 1)) b seen') := by
  obtain ⟨s1, r1⟩ := to_alt3 (o := o) (a := a) (b := b) (seen := seen) hs hc hh
  by_cases hk0 : k = 0
  · subst hk0
    obtain ⟨s2, e⟩ := exec_rep64_none (T := T) (st := s) (pos := s + 1) (hd := s + 1) (o := o) (a := some (s + 1)) (b := b) (fr := [fB 63 (s + 1) o, fS s o]) (seen := s1) (by
      rcases he with he | he
      · left; omega
      · right; simpa using he.1)
    exact ⟨_, ((r1.trans (go_exec (by decide) e)).trans (alt3_failed hs)).mono (by omega)⟩
  · have hr : ∀ seen, ∃ seen', Sre.run RC T 68 (min 32 (T.size - (s + 1))) (s + 1) 0 seen = .ok (k, seen') := fun seen => by
      have := run_spec (T := T) acc68 k (min 32 (T.size - (s + 1))) (s + 1) 0 seen hj (by omega) (by
        rcases he with he | he
        · by_cases h32 : k = 32
          · left; omega
          · left; omega
        · right; exact he.1)
      simpa using this
    obtain ⟨s2, e⟩ := exec_rep64 (T := T) (st := s) (pos := s + 1) (hd := s + 1) (o := o) (a := some (s + 1)) (b := b) (fr := [fB 63 (s + 1) o, fS s o]) (seen := s1) (by omega : s + 1 < T.size) (by omega : 1 ≤ k) hr
    obtain ⟨m, hm⟩ : ∃ m, k = m + 1 := ⟨k - 1, by omega⟩
    subst hm
    obtain ⟨s3, p3, r⟩ := gives (T := T) (st := s) (o := o) (a := some (s + 1)) (b := b) (fr := [fB 63 (s + 1) o, fS s o]) m (s + 1 + (m + 1)) (s + 1 + (m + 1)) s2 (fun j hjm => by
      rintro ⟨h1, h2⟩
      by_cases h0 : j = 0
      · subst h0
        rcases he with he | he
        · rw [Nat.sub_zero] at h1; omega
        · exact he.2 (by simpa using h2)
      · have := hj (m + 1 - j) (by omega)
        rw [show s + 1 + (m + 1 - j) = s + 1 + (m + 1) - j by omega, h2, cls68_59] at this
        cases this) (by omega)
    rcases r with r | ⟨hd', r⟩
    · exact ⟨_, (((r1.trans (go_exec (by decide) e)).trans r).trans (alt3_failed hs)).mono (by omega)⟩
    · exact ⟨_, (((r1.trans (go_exec (by decide) e)).trans r).trans (alt3_failed hs)).mono (by omega)⟩
structure Hit (mf : M) (s e : Nat) : Prop where
  out : mf.outcome = some .matched
  start : mf.start = s
  handed : mf.handed = e
  marks : mf.marks = #[some (s + 1), some e]
  lm : mf.lastmark = 1
  li : mf.lastindex = 1
/-- behind the ; : the match -/
theorem to_hit {q n : Nat} {pg : Nat} (hq : q < RC.size) : ∃ mf, Rch 6 (mk T s 87 pos hd o (some (s + 1)) b 0 (-1) [fG q pg o n, fB pc p o, fS s o] 3 none seen) mf ∧ Hit mf s pos :=
  ⟨_, (((((go_exec (by decide) exec_mark1).trans (go_exec (by decide) exec_succ)).trans (.step rfl give_yes)).trans (.step rfl alt_yes)).trans (.step rfl start_yes)).trans (.step rfl fin_step), rfl, rfl, rfl, rfl, rfl, rfl⟩
theorem hit_name {n : Nat} (hs : s < T.size) (hc : T.getD s 0 = 38) (h35 : T.getD (s + 1) 0 ≠ 35) (hn : 1 ≤ n) (hn2 : n ≤ 32) (hj : ∀ j, j < n → cls68 (T.getD (s + 1 + j) 0) = true) (hz : s + 1 + n < T.size) (he : T.getD (s + 1 + n) 0 = 59) :
    ∃ mf, Rch 100 (tr T s o a b seen) mf ∧ Hit mf s (s + 1 + n + 1) := by
  obtain ⟨s1, r1⟩ := to_alt3 (o := o) (a := a) (b := b) (seen := seen) hs hc (fun h => h35 h.2)
  have hr : ∀ seen, ∃ seen', Sre.run RC T 68 (min 32 (T.size - (s + 1))) (s + 1) 0 seen = .ok (n, seen') := fun seen => by
    have := run_spec (T := T) acc68 n (min 32 (T.size - (s + 1))) (s + 1) 0 seen hj (by omega) (.inr (by rw [he]; exact cls68_59))
    simpa using this
  obtain ⟨s2, e⟩ := exec_rep64 (T := T) (st := s) (pos := s + 1) (hd := s + 1) (o := o) (a := some (s + 1)) (b := b) (fr := [fB 63 (s + 1) o, fS s o]) (seen := s1) (by omega : s + 1 < T.size) hn hr
  obtain ⟨mf, r2, hit⟩ := to_hit (T := T) (s := s) (pos := s + 1 + n + 1) (hd := s + 1 + n) (o := o) (b := b) (q := 64) (n := n) (pg := s + 1 + n) (pc := 63) (p := s + 1) (seen := (s2.add 16).add 15) (by decide)
  exact ⟨mf, ((((r1.trans (go_exec (by decide) e)).trans (go_lit (c := 59) (by decide) rfl rfl hz he)).trans (go_exec (by decide) exec_jump84)).trans r2).mono (by omega), hit⟩
theorem hit_dec {n : Nat} (hs : s < T.size) (hc : T.getD s 0 = 38) (h1 : s + 1 < T.size) (h35 : T.getD (s + 1) 0 = 35) (hn : 1 ≤ n) (hn2 : n ≤ 7) (hj : ∀ j, j < n → cls21 (T.getD (s + 2 + j) 0) = true) (hz : s + 2 + n < T.size) (he : T.getD (s + 2 + n) 0 = 59) :
    ∃ mf, Rch 100 (tr T s o a b seen) mf ∧ Hit mf s (s + 2 + n + 1) := by
  obtain ⟨s1, r1⟩ := to_alt1 (o := o) (a := a) (b := b) (seen := seen) hs hc
  have hr : ∀ seen, ∃ seen', Sre.run RC T 21 (min 7 (T.size - (s + 2))) (s + 2) 0 seen = .ok (n, seen') := fun seen => by
    have := run_spec (T := T) acc21 n (min 7 (T.size - (s + 2))) (s + 2) 0 seen hj (by omega) (.inr (by rw [he]; decide))
    simpa using this
  obtain ⟨s2, e⟩ := exec_rep17 (T := T) (st := s) (pos := s + 2) (hd := s + 1) (o := o) (a := some (s + 1)) (b := b) (fr := [fB 14 (s + 1) o, fS s o]) (seen := s1.add 16) (by omega : s + 2 < T.size) hn hr
  obtain ⟨mf, r2, hit⟩ := to_hit (T := T) (s := s) (pos := s + 2 + n + 1) (hd := s + 2 + n) (o := o) (b := b) (q := 17) (n := n) (pg := s + 2 + n) (pc := 14) (p := s + 1) (seen := (s2.add 16).add 15) (by decide)
  exact ⟨mf, (((((r1.trans (go_lit (c := 35) (by decide) rfl rfl h1 h35)).trans (go_exec (by decide) e)).trans (go_lit (c := 59) (by decide) rfl rfl hz he)).trans (go_exec (by decide) exec_jump30)).trans r2).mono (by omega), hit⟩
theorem hit_hex {n : Nat} (hs : s < T.size) (hc : T.getD s 0 = 38) (h1 : s + 1 < T.size) (h35 : T.getD (s + 1) 0 = 35) (h2 : s + 2 < T.size) (hx : cls35 (T.getD (s + 2) 0) = true) (hd21 : cls21 (T.getD (s + 2) 0) = false)
    (hn : 1 ≤ n) (hb : T.size < 4294967295) (hj : ∀ j, j < n → cls46 (T.getD (s + 3 + j) 0) = true) (hz : s + 3 + n < T.size) (he : T.getD (s + 3 + n) 0 = 59) :
    ∃ mf, Rch 100 (tr T s o a b seen) mf ∧ Hit mf s (s + 3 + n + 1) := by
  obtain ⟨s1, r1⟩ := to_alt1 (o := o) (a := a) (b := b) (seen := seen) hs hc
  obtain ⟨s2, e2⟩ := exec_rep17_none (T := T) (st := s) (pos := s + 2) (hd := s + 1) (o := o) (a := some (s + 1)) (b := b) (fr := [fB 14 (s + 1) o, fS s o]) (seen := s1.add 16) (.inr hd21)
  obtain ⟨s3, e3⟩ := exec_in35 (T := T) (st := s) (pos := s + 2) (hd := s + 1) (o := o) (a := some (s + 1)) (b := b) (lm := 0) (li := -1) (fr := [fB 32 (s + 1) o, fS s o]) (wt := 2) (seen := s2.add 16) h2 hx
  have hr : ∀ seen, ∃ seen', Sre.run RC T 46 (T.size - (s + 3)) (s + 3) 0 seen = .ok (n, seen') := fun seen => by
    have := run_spec (T := T) acc46 n (T.size - (s + 3)) (s + 3) 0 seen hj (by omega) (.inr (by rw [he]; decide))
    simpa using this
  obtain ⟨s4, e4⟩ := exec_rep42 (T := T) (st := s) (pos := s + 3) (hd := s + 1) (o := o) (a := some (s + 1)) (b := b) (fr := [fB 32 (s + 1) o, fS s o]) (seen := s3) (by omega : s + 3 < T.size) hn hb hr
  obtain ⟨mf, r2, hit⟩ := to_hit (T := T) (s := s) (pos := s + 3 + n + 1) (hd := s + 3 + n) (o := o) (b := b) (q := 42) (n := n) (pg := s + 3 + n) (pc := 32) (p := s + 1) (seen := (s4.add 16).add 15) (by decide)
  exact ⟨mf, ((((((((r1.trans (go_lit (c := 35) (by decide) rfl rfl h1 h35)).trans (go_exec (by decide) e2)).trans (.step rfl alt_14)).trans (go_lit (c := 35) (by decide) rfl rfl h1 h35)).trans (go_exec (by decide) e3)).trans (go_exec (by decide) e4)).trans
    (go_lit (c := 59) (by decide) rfl rfl hz he)).trans ((go_exec (by decide) exec_jump61).trans r2)).mono (by omega), hit⟩
end
end Mine
end

section
set_option maxRecDepth 100000
namespace Mine
open PySem PySem.Sre
inductive Pc where
  | ch (c : Nat)
  | amp
  | rf (b y : List Nat)
def Pc.src : Pc → List Nat
  | .ch c => [c]
  | .amp => [38]
  | .rf b _ => 38 :: (b ++ [59])
def Pc.dst : Pc → List Nat
  | .ch c => [c]
  | .amp => [38]
  | .rf _ y => y
def srcs (ps : List Pc) : List Nat := ps.flatMap Pc.src
def dsts (ps : List Pc) : List Nat := ps.flatMap Pc.dst
def RefOk (b : List Nat) : Prop :=
  (b ≠ [] ∧ b.length ≤ 32 ∧ ∀ c ∈ b, cls68 c = true) ∨ (∃ ds, b = 35 :: ds ∧ ds ≠ [] ∧ ds.length ≤ 7 ∧ ∀ c ∈ ds, cls21 c = true) ∨
    (∃ x hs, b = 35 :: x :: hs ∧ cls35 x = true ∧ cls21 x = false ∧ hs ≠ [] ∧ ∀ c ∈ hs, cls46 c = true)
def AmpOk (t : List Nat) : Prop := t.head? ≠ some 35 ∧ (t.takeWhile cls68).length ≤ 32 ∧ (t.dropWhile cls68).head? ≠ some 59
def Ok : List Pc → Prop
  | [] => True
  | .ch c :: r => c ≠ 38 ∧ Ok r
  | .amp :: r => AmpOk (srcs r) ∧ Ok r
  | .rf b _ :: r => RefOk b ∧ Ok r
def nextRef : List Pc → List Nat × Option (List Nat × List Nat × List Pc)
  | [] => ([], none)
  | .ch c :: r => (c :: (nextRef r).1, (nextRef r).2)
  | .amp :: r => (38 :: (nextRef r).1, (nextRef r).2)
  | .rf b y :: r => ([], some (b, y, r))
theorem srcs_cons (p : Pc) (r : List Pc) : srcs (p :: r) = p.src ++ srcs r := by simp [srcs]
theorem dsts_cons (p : Pc) (r : List Pc) : dsts (p :: r) = p.dst ++ dsts r := by simp [dsts]
theorem next_none : ∀ {ps : List Pc}, (nextRef ps).2 = none → srcs ps = (nextRef ps).1 ∧ dsts ps = (nextRef ps).1
  | [], _ => ⟨rfl, rfl⟩
  | .ch c :: r, h => by
    obtain ⟨h1, h2⟩ := next_none (ps := r) h
    rw [srcs_cons, dsts_cons, h1, h2]; exact ⟨rfl, rfl⟩
  | .amp :: r, h => by
    obtain ⟨h1, h2⟩ := next_none (ps := r) h
    rw [srcs_cons, dsts_cons, h1, h2]; exact ⟨rfl, rfl⟩
theorem next_some : ∀ {ps : List Pc} {b y : List Nat} {q : List Pc}, (nextRef ps).2 = some (b, y, q) → srcs ps = (nextRef ps).1 ++ 38 :: (b ++ 59 :: srcs q) ∧ dsts ps = (nextRef ps).1 ++ (y ++ dsts q) ∧ q.length < ps.length
  | .ch c :: r, b, y, q, h => by
    obtain ⟨h1, h2, h3⟩ := next_some (ps := r) h
    rw [srcs_cons, dsts_cons, h1, h2]; exact ⟨rfl, rfl, by simp only [List.length_cons]; omega⟩
  | .amp :: r, b, y, q, h => by
    obtain ⟨h1, h2, h3⟩ := next_some (ps := r) h
    rw [srcs_cons, dsts_cons, h1, h2]; exact ⟨rfl, rfl, by simp only [List.length_cons]; omega⟩
  | .rf b' y' :: r, b, y, q, h => by
    simp only [nextRef, Option.some.injEq, Prod.mk.injEq] at h
    obtain ⟨rfl, rfl, rfl⟩ := h
    rw [srcs_cons, dsts_cons]
    exact ⟨by simp [Pc.src, nextRef], by simp [Pc.dst, nextRef], by simp⟩
theorem next_ok : ∀ {ps : List Pc} {b y : List Nat} {q : List Pc}, (nextRef ps).2 = some (b, y, q) → Ok ps → Ok q
  | .ch c :: r, b, y, q, h, k => next_ok (ps := r) h k.2
  | .amp :: r, b, y, q, h, k => next_ok (ps := r) h k.2
  | .rf b' y' :: r, b, y, q, h, k => by
    simp only [nextRef, Option.some.injEq, Prod.mk.injEq] at h
    obtain ⟨rfl, rfl, rfl⟩ := h
    exact k.2
theorem next_mem : ∀ {ps : List Pc} {b y : List Nat} {q : List Pc}, (nextRef ps).2 = some (b, y, q) → Pc.rf b y ∈ ps ∧ ∀ p ∈ q, p ∈ ps
  | .ch c :: r, b, y, q, h => by
    obtain ⟨h1, h2⟩ := next_mem (ps := r) h
    exact ⟨.tail _ h1, fun p hp => .tail _ (h2 p hp)⟩
  | .amp :: r, b, y, q, h => by
    obtain ⟨h1, h2⟩ := next_mem (ps := r) h
    exact ⟨.tail _ h1, fun p hp => .tail _ (h2 p hp)⟩
  | .rf b' y' :: r, b, y, q, h => by
    simp only [nextRef, Option.some.injEq, Prod.mk.injEq] at h
    obtain ⟨rfl, rfl, rfl⟩ := h
    exact ⟨.head _, fun p hp => .tail _ hp⟩
section
variable {T : Array Nat} {s : Nat} {o : Bool} {a b : Option Nat} {seen : Seen}
theorem at_drop {l : List Nat} (h : T.toList.drop s = l) (j : Nat) : T.getD (s + j) 0 = l.getD j 0 := by
  subst h
  simp [Array.getD_eq_getD_getElem?, List.getD_eq_getElem?_getD, List.getElem?_drop]
theorem size_drop {l : List Nat} (h : T.toList.drop s = l) (hs : s ≤ T.size) : s + l.length = T.size := by
  subst h
  simp; omega
theorem takeWhile_spec (f : Nat → Bool) : ∀ (t : List Nat) (j : Nat), j < (t.takeWhile f).length → f (t.getD j 0) = true
  | [], j, h => by simp at h
  | x :: t, j, h => by
    rw [List.takeWhile_cons] at h
    cases hx : f x with
    | false => rw [hx] at h; simp at h
    | true =>
      rw [hx] at h
      cases j with
      | zero => simpa using hx
      | succ j => simpa using takeWhile_spec f t j (by simpa using h)
theorem dropWhile_spec (f : Nat → Bool) : ∀ (t : List Nat), (t.takeWhile f).length ≤ t.length ∧ ((t.takeWhile f).length = t.length ∨ (f (t.getD (t.takeWhile f).length 0) = false ∧ (t.dropWhile f).head? = some (t.getD (t.takeWhile f).length 0) ∧ (t.takeWhile f).length < t.length))
  | [] => ⟨by simp, .inl rfl⟩
  | x :: t => by
    rw [List.takeWhile_cons, List.dropWhile_cons]
    cases hx : f x with
    | false => exact ⟨by simp, .inr ⟨by simpa using hx, by simp, by simp⟩⟩
    | true =>
      obtain ⟨h1, h2⟩ := dropWhile_spec f t
      simp only [if_true, List.length_cons]
      refine ⟨by omega, ?_⟩
      rcases h2 with h2 | ⟨h2, h3, h4⟩
      · left; omega
      · right; exact ⟨by simpa using h2, by simpa using h3, by omega⟩
theorem tail_drop {x : Nat} {t : List Nat} (h : T.toList.drop s = x :: t) : T.toList.drop (s + 1) = t := by
  rw [← List.drop_drop, h]; rfl
theorem lt_drop {x : Nat} {t : List Nat} (h : T.toList.drop s = x :: t) : s < T.size := by
  apply Nat.lt_of_not_le
  intro hn
  rw [List.drop_eq_nil_of_le (by simpa using hn)] at h
  cases h
theorem ref_hit {bd : List Nat} {t : List Nat} (h : T.toList.drop s = 38 :: (bd ++ 59 :: t)) (hr : RefOk bd) (hb : T.size < 4294967295) : ∃ mf, Rch 100 (tr T s o a b seen) mf ∧ Hit mf s (s + bd.length + 2) := by
  have hs := lt_drop h
  have hz := size_drop h (Nat.le_of_lt hs)
  simp only [List.length_cons, List.length_append] at hz
  have h0 := at_drop h 0
  rw [Nat.add_zero] at h0
  have hc : T.getD s 0 = 38 := by simpa using h0
  have hat : ∀ j, T.getD (s + 1 + j) 0 = (bd ++ 59 :: t).getD j 0 := at_drop (tail_drop h)
  have hin : ∀ j, j < bd.length → T.getD (s + 1 + j) 0 = bd.getD j 0 := fun j hj => by
    rw [hat, List.getD_eq_getElem?_getD, List.getElem?_append_left hj, List.getD_eq_getElem?_getD]
  have hend : T.getD (s + 1 + bd.length) 0 = 59 := by
    rw [hat, List.getD_eq_getElem?_getD, List.getElem?_append_right (Nat.le_refl _)]; simp
  have mem : ∀ (l : List Nat) j, j < l.length → l.getD j 0 ∈ l := fun l j hj => by
    rw [List.getD_eq_getElem?_getD, List.getElem?_eq_getElem hj]; exact List.getElem_mem hj
  rcases hr with ⟨hne, hl, hall⟩ | ⟨ds, rfl, hne, hl, hall⟩ | ⟨x, hs', rfl, hx, hx21, hne, hall⟩
  · have hlen : 1 ≤ bd.length := by cases bd with | nil => exact absurd rfl hne | cons => simp
    have hj : ∀ j, j < bd.length → cls68 (T.getD (s + 1 + j) 0) = true := fun j hj => by rw [hin j hj]; exact hall _ (mem _ _ hj)
    have h35 : T.getD (s + 1) 0 ≠ 35 := fun e => by
      have := hj 0 hlen
      rw [Nat.add_zero, e] at this
      exact absurd this (by decide)
    obtain ⟨mf, r, hit⟩ := hit_name (T := T) (o := o) (a := a) (b := b) (seen := seen) hs hc h35 hlen hl hj (by omega) hend
    exact ⟨mf, r, by rw [show s + bd.length + 2 = s + 1 + bd.length + 1 by omega]; exact hit⟩
  · have hlen : 1 ≤ ds.length := by cases ds with | nil => exact absurd rfl hne | cons => simp
    simp only [List.length_cons] at hz hend hin
    have h35 : T.getD (s + 1) 0 = 35 := by have := hin 0 (by omega); rw [Nat.add_zero] at this; simpa using this
    have hj : ∀ j, j < ds.length → cls21 (T.getD (s + 2 + j) 0) = true := fun j hj => by
      have := hin (j + 1) (by omega)
      rw [show s + 1 + (j + 1) = s + 2 + j by omega] at this
      rw [this]; simp only [List.getD_cons_succ]; exact hall _ (mem _ _ hj)
    obtain ⟨mf, r, hit⟩ := hit_dec (T := T) (o := o) (a := a) (b := b) (seen := seen) hs hc (by omega) h35 hlen hl hj (by omega) (by rw [show s + 2 + ds.length = s + 1 + (ds.length + 1) by omega]; exact hend)
    exact ⟨mf, r, by simp only [List.length_cons]; rw [show s + (ds.length + 1) + 2 = s + 2 + ds.length + 1 by omega]; exact hit⟩
  · have hlen : 1 ≤ hs'.length := by cases hs' with | nil => exact absurd rfl hne | cons => simp
    simp only [List.length_cons] at hz hend hin
    have h35 : T.getD (s + 1) 0 = 35 := by have := hin 0 (by omega); rw [Nat.add_zero] at this; simpa using this
    have hxx : T.getD (s + 2) 0 = x := by have := hin 1 (by omega); rw [show s + 1 + 1 = s + 2 by omega] at this; simpa using this
    have hj : ∀ j, j < hs'.length → cls46 (T.getD (s + 3 + j) 0) = true := fun j hj => by
      have := hin (j + 2) (by omega)
      rw [show s + 1 + (j + 2) = s + 3 + j by omega] at this
      rw [this]; simp only [List.getD_cons_succ]; exact hall _ (mem _ _ hj)
    obtain ⟨mf, r, hit⟩ := hit_hex (T := T) (o := o) (a := a) (b := b) (seen := seen) hs hc (by omega) h35 (by omega) (by rw [hxx]; exact hx) (by rw [hxx]; exact hx21) hlen hb hj (by omega) (by rw [show s + 3 + hs'.length = s + 1 + (hs'.length + 1 + 1) by omega]; exact hend)
    exact ⟨mf, r, by simp only [List.length_cons]; rw [show s + (hs'.length + 1 + 1) + 2 = s + 3 + hs'.length + 1 by omega]; exact hit⟩
theorem amp_skip {t : List Nat} (h : T.toList.drop s = 38 :: t) (hk : AmpOk t) : ∃ seen', Rch 100 (tr T s o a b seen) (tr T (s + 1) false (some (s + 1)) b seen') := by
  have hs := lt_drop h
  have hz := size_drop h (Nat.le_of_lt hs)
  simp only [List.length_cons] at hz
  have h0 := at_drop h 0
  rw [Nat.add_zero] at h0
  have hat : ∀ j, T.getD (s + 1 + j) 0 = t.getD j 0 := at_drop (tail_drop h)
  obtain ⟨k1, k2, k3⟩ := hk
  obtain ⟨d1, d2⟩ := dropWhile_spec cls68 t
  refine amp_alone (k := (t.takeWhile cls68).length) hs (by simpa using h0) ?_ k2 (by omega) (fun j hj => by rw [hat]; exact takeWhile_spec cls68 t j hj) ?_
  · rintro ⟨h1, h2⟩
    have := hat 0
    rw [Nat.add_zero, h2] at this
    apply k1
    cases t with
    | nil => simp at hz; omega
    | cons x t => simp at this; simp [this]
  · rcases d2 with d2 | ⟨d2, d3, d4⟩
    · left; omega
    · right
      rw [hat]
      refine ⟨d2, fun e => k3 ?_⟩
      rw [d3, e]
theorem search : ∀ (ps : List Pc) (s : Nat) (o : Bool) (a b : Option Nat) (seen : Seen), T.toList.drop s = srcs ps → s ≤ T.size → Ok ps → T.size < 4294967295 →
    ∃ mf, Rch (100 * ps.length + 200) (tr T s o a b seen) mf ∧ (match (nextRef ps).2 with
      | none => mf.outcome = some .failed
      | some (bd, _, _) => Hit mf (s + (nextRef ps).1.length) (s + (nextRef ps).1.length + bd.length + 2))
  | [], s, o, a, b, seen, h, hs, _, _ => by
    obtain ⟨mf, r, e⟩ := at_end (T := T) (s := s) (o := o) (a := a) (b := b) (seen := seen) (by have := size_drop h hs; simp [srcs] at this; omega)
    exact ⟨mf, r.mono (by omega), e⟩
  | .ch c :: r, s, o, a, b, seen, h, hs, hok, hb => by
    rw [srcs_cons] at h
    have hlt := lt_drop (x := c) (t := srcs r) h
    have h0 := at_drop h 0
    obtain ⟨s1, r1⟩ := skip_one (T := T) (s := s) (o := o) (a := a) (b := b) (seen := seen) hlt (by rw [Nat.add_zero] at h0; rw [h0]; simpa [Pc.src] using hok.1)
    obtain ⟨mf, r2, e⟩ := search r (s + 1) false a b s1 (tail_drop h) hlt hok.2 hb
    refine ⟨mf, (r1.trans r2).mono (by simp only [List.length_cons]; omega), ?_⟩
    simp only [nextRef, List.length_cons]
    rw [show s + ((nextRef r).1.length + 1) = s + 1 + (nextRef r).1.length by omega]
    exact e
  | .amp :: r, s, o, a, b, seen, h, hs, hok, hb => by
    rw [srcs_cons] at h
    have hlt := lt_drop (x := 38) (t := srcs r) h
    obtain ⟨s1, r1⟩ := amp_skip (T := T) (s := s) (o := o) (a := a) (b := b) (seen := seen) (t := srcs r) h hok.1
    obtain ⟨mf, r2, e⟩ := search r (s + 1) false (some (s + 1)) b s1 (tail_drop h) hlt hok.2 hb
    refine ⟨mf, (r1.trans r2).mono (by simp only [List.length_cons]; omega), ?_⟩
    simp only [nextRef, List.length_cons]
    rw [show s + ((nextRef r).1.length + 1) = s + 1 + (nextRef r).1.length by omega]
    exact e
  | .rf bd y :: r, s, o, a, b, seen, h, hs, hok, hb => by
    rw [srcs_cons] at h
    have h' : T.toList.drop s = 38 :: (bd ++ 59 :: srcs r) := by rw [h]; simp [Pc.src]
    obtain ⟨mf, r1, hit⟩ := ref_hit (T := T) (s := s) (o := o) (a := a) (b := b) (seen := seen) h' hok.1 hb
    exact ⟨mf, r1.mono (by omega), by simpa [nextRef] using hit⟩
end
/-- the search as the built-in asks it -/
theorem forSearch_eq (T : Array Nat) (s : Nat) (hs : s ≤ T.size) : (Sre.forSearch RC T 1 s T.size false = { tr T s true none none (({} : Seen).add 14) with answer := some false, frames := [], weight := 0, lastStart := 0, lastmark := -1, lastindex := -1 } ∧ T.size - s < 3) ∨
    (Sre.forSearch RC T 1 s T.size false = tr T s true none none (({} : Seen).add 14) ∧ 3 ≤ T.size - s) := by
  have e : Sre.forSearch RC T 1 s T.size false = (if (decide (s > T.size) || decide (T.size - s < 3)) = true then { tr T s true none none (({} : Seen).add 14) with answer := some false, frames := [], weight := 0, lastStart := 0, lastmark := -1, lastindex := -1 } else tr T s true none none (({} : Seen).add 14)) := rfl
  rw [e]
  by_cases h : T.size - s < 3
  · left
    rw [if_pos (by simp [h])]; exact ⟨rfl, h⟩
  · right
    rw [if_neg (by simp only [Bool.or_eq_true, decide_eq_true_eq]; omega)]
    exact ⟨rfl, by omega⟩
end Mine
end

section
open PySem PySem.W PyProof.Rows PySem.Calls
open PySem.Builtin.Re
set_option maxRecDepth 100000
namespace Mine
open PySem.Sre in
theorem drive {M₀ : Model} {A : Around} {E : Value → Shared → Prop} {s : Shared} {Q : Sre.M → Shared → Prop} {mf : Sre.M} (hf : mf.outcome.isSome = true) (hQ : Q mf s) :
    ∀ (turns n : Nat) (m : Sre.M), M.runFor n m = mf → n ≤ 4 * turns → 1 ≤ turns → wpAny M₀ A (reDrive turns m) Q E s
  | 0, n, m, _, _, h => absurd h (by decide)
  | turns + 1, n, m, h, hn, _ => by
    unfold reDrive
    show wpAny M₀ A (if (M.runFor 4 m).outcome.isSome = true then pure (M.runFor 4 m) else _) Q E s
    by_cases h4 : (M.runFor 4 m).outcome.isSome = true
    · rw [if_pos h4]
      have e : M.runFor 4 m = mf := by
        by_cases hn4 : 4 ≤ n
        · have := runFor_add 4 (n - 4) m
          rw [show 4 + (n - 4) = n by omega, h, runFor_done h4] at this
          exact this.symm
        · have := runFor_add n (4 - n) m
          rw [show n + (4 - n) = 4 by omega, h, runFor_done hf] at this
          exact this
      rw [e]
      exact wpAny_pure hQ
    · rw [if_neg h4]
      have hn4 : 4 < n := by
        apply Nat.lt_of_not_le
        intro hle
        have := runFor_add n (4 - n) m
        rw [show n + (4 - n) = 4 by omega, h, runFor_done hf] at this
        exact h4 (by rw [this]; exact hf)
      refine wpAny_bind (wpAny_rule ?_)
      refine drive hf hQ turns (n - 4) (M.runFor 4 m) ?_ (by omega) (by omega)
      have := runFor_add 4 (n - 4) m
      rw [show 4 + (n - 4) = n by omega, h] at this
      exact this.symm
theorem rules_pass {M₀ : Model} {A : Around} {E : Value → Shared → Prop} {s : Shared} {Q : PUnit → Shared → Prop} (c : Nat → Bool) (g : Nat → String) (hQ : Q ⟨⟩ s) :
    ∀ l : List Nat, wpAny M₀ A (forIn l PUnit.unit (fun i (_ : PUnit) => (if c i = true then (do rule (g i); pure (ForInStep.yield PUnit.unit)) else pure (ForInStep.yield PUnit.unit) : Sem (ForInStep PUnit)))) Q E s
  | [] => wpAny_pure hQ
  | i :: l => by
    rw [List.forIn_cons]
    refine wpAny_bind ?_
    cases h : c i with
    | false => 
      rw [if_neg (by simp)]
      exact wpAny_pure (rules_pass c g hQ l)
    | true =>
      rw [if_pos rfl]
      exact wpAny_bind (wpAny_rule (wpAny_pure (rules_pass c g hQ l)))
theorem runToEnd {M₀ : Model} {A : Around} {E : Value → Shared → Prop} {s : Shared} {Q : Option Sre.M → Shared → Prop} {m mf : Sre.M} {n : Nat} (h : Sre.M.runFor n m = mf) (hn : n ≤ 4 * 2 ^ 64) (hf : mf.outcome.isSome = true)
    (h1 : mf.outcome = some .matched → Q (some mf) s) (h2 : mf.outcome = some .failed → Q none s) (h3 : ∀ w, mf.outcome ≠ some (.stuck w)) : wpAny M₀ A (reRunToEnd m) Q E s := by
  unfold reRunToEnd
  refine wpAny_bind (drive hf ?_ (2 ^ 64) n m h hn (by decide))
  refine wpAny_bind (rules_pass _ _ ?_ _)
  cases ho : mf.outcome with
  | none => rw [ho] at hf; cases hf
  | some x =>
    cases x with
    | matched => exact wpAny_pure (h1 ho)
    | failed => exact wpAny_pure (h2 ho)
    | stuck w => exact absurd ho (h3 w)
end Mine
namespace Mine
theorem ref_len {bd : List Nat} (h : RefOk bd) : 1 ≤ bd.length := by
  rcases h with ⟨hne, _⟩ | ⟨ds, rfl, _⟩ | ⟨x, hs, rfl, _⟩
  · cases bd with | nil => exact absurd rfl hne | cons => simp
  · simp
  · simp
theorem ok_ref : ∀ {ps : List Pc} {bd y : List Nat}, Ok ps → Pc.rf bd y ∈ ps → RefOk bd
  | .ch c :: r, bd, y, h, hm => by cases hm with | tail _ hm => exact ok_ref h.2 hm
  | .amp :: r, bd, y, h, hm => by cases hm with | tail _ hm => exact ok_ref h.2 hm
  | .rf b' y' :: r, bd, y, h, hm => by
    cases hm with
    | head => exact h.1
    | tail _ hm => exact ok_ref h.2 hm
theorem src_len : ∀ ps : List Pc, ps.length ≤ (srcs ps).length
  | [] => Nat.le_refl _
  | p :: r => by
    have := src_len r
    rw [srcs_cons, List.length_append, List.length_cons]
    have : 1 ≤ p.src.length := by cases p <;> simp [Pc.src]
    omega
open PySem.Sre in
/-- what the next search finds -/
theorem find_next {T : Array Nat} {s : Nat} {ps : List Pc} (h : T.toList.drop s = srcs ps) (hs : s ≤ T.size) (hok : Ok ps) (hb : T.size < 1000000) :
    ∃ mf n, M.runFor n (Sre.forSearch RC T 1 s T.size false) = mf ∧ n ≤ 4 * 2 ^ 64 ∧ (match (nextRef ps).2 with
      | none => mf.outcome = some .failed
      | some (bd, _, _) => Hit mf (s + (nextRef ps).1.length) (s + (nextRef ps).1.length + bd.length + 2)) := by
  have hz := size_drop h hs
  have hl := src_len ps
  rcases forSearch_eq T s hs with ⟨e, h3⟩ | ⟨e, h3⟩
  · rw [e]
    have hn : (nextRef ps).2 = none := by
      cases hq : (nextRef ps).2 with
      | none => rfl
      | some z =>
        obtain ⟨bd, y, q⟩ := z
        have h1 := (next_some hq).1
        have h2 := ref_len (ok_ref hok (next_mem hq).1)
        rw [h1] at hz
        simp only [List.length_append, List.length_cons] at hz
        omega
    rw [hn]
    exact ⟨_, 1, rfl, by decide, rfl⟩
  · rw [e]
    obtain ⟨mf, ⟨n, hn, hr⟩, hm⟩ := search (T := T) ps s true none none (({} : Sre.Seen).add 14) h hs hok (by omega)
    exact ⟨mf, n, hr, by omega, hm⟩
theorem nextFound_ok {M₀ : Model} {A : Around} {E : Value → Shared → Prop} {s₀ : Shared} {Q : Option Sre.M → Shared → Prop} {t : ReTarget} {T : Array Nat} {s : Nat} {ps : List Pc} (hc : t.code = RC) (ht : t.text = T) (hg : t.groups = 1) (hlim : t.lim = T.size)
    (h : T.toList.drop s = srcs ps) (hs : s ≤ T.size) (hok : Ok ps) (hb : T.size < 1000000)
    (h1 : (nextRef ps).2 = none → Q none s₀) (h2 : ∀ bd y q mf, (nextRef ps).2 = some (bd, y, q) → Hit mf (s + (nextRef ps).1.length) (s + (nextRef ps).1.length + bd.length + 2) → Q (some mf) s₀) :
    wpAny M₀ A (reNextFound t s false) Q E s₀ := by
  unfold reNextFound
  rw [hc, ht, hg, hlim]
  obtain ⟨mf, n, hr, hn, hm⟩ := find_next h hs hok hb
  cases hq : (nextRef ps).2 with
  | none =>
    rw [hq] at hm
    refine runToEnd hr hn (by rw [hm]; rfl) (fun e => ?_) (fun _ => h1 hq) (fun w e => ?_)
    · rw [hm] at e; cases e
    · rw [hm] at e; cases e
  | some z =>
    obtain ⟨bd, y, q⟩ := z
    rw [hq] at hm
    have hm' : Hit mf (s + (nextRef ps).1.length) (s + (nextRef ps).1.length + bd.length + 2) := hm
    refine runToEnd hr hn (by rw [hm'.out]; rfl) (fun _ => h2 bd y q mf hq hm') (fun e => ?_) (fun w e => ?_)
    · rw [hm'.out] at e; cases e
    · rw [hm'.out] at e; cases e
/-- the pattern, as the heap bears it -/
structure PatAt (h : Heap) (P : Addr) : Prop where
  pat : ∃ oP fs C, h.get? P = some oP ∧ oP.data = .fields fs ∧ fs.getD 5 .none = .ref C ∧ reRawNat (fs.getD 6 .none) = 0 ∧ reRawNat (fs.getD 2 .none) = 1 ∧
    ∃ oC items n, h.get? C = some oC ∧ oC.data = .seq items n ∧ (items.map reRawOf).map (·.toNat) = RC
theorem PatAt.keeps {h h' : Heap} {P : Addr} (H : PatAt h P) (k : ∀ b o, h.get? b = some o → h'.get? b = some o) : PatAt h' P := by
  obtain ⟨oP, fs, C, h1, h2, h3, h4, h5, oC, items, n, h6, h7, h8⟩ := H.pat
  exact ⟨oP, fs, C, k _ _ h1, h2, h3, h4, h5, oC, items, n, k _ _ h6, h7, h8⟩
theorem wholeTarget_ok {M₀ : Model} {A : Around} {E : Value → Shared → Prop} {s : Shared} {P : Addr} {x : Str} {tx : Tok} {Q : ReTarget → Shared → Prop} (H : PatAt s.heap P)
    (h : Q { pattern := .ref P, string := .str x tx, code := RC, text := x.cps, kind := 0, groups := 1, pos := 0, lim := x.cps.size } s) : wpAny M₀ A (reWholeTarget (.ref P) (.str x tx)) Q E s := by
  obtain ⟨oP, fs, C, h1, h2, h3, h4, h5, oC, items, n, h6, h7, h8⟩ := H.pat
  unfold reWholeTarget
  refine wpAny_bind (wpAny_fieldsOf h1 h2 ?_)
  refine wpAny_bind (wpAny_pure ?_)
  dsimp only
  rw [h4, if_neg (by decide), if_neg (by decide)]
  refine wpAny_bind (wpAny_of_eq (rfl : reNoCollectionInside (.str x tx) 0 = pure ()) ?_)
  rw [h3]
  unfold reRawItems
  refine wpAny_bind (wpAny_bind (wpAny_seqItems h6 h7 (wpAny_pure ?_)))
  dsimp only [Option.getD_some]
  rw [h8, h5]
  exact wpAny_pure h
end Mine
end

section
open PySem PySem.W PyProof.Rows PySem.Calls
open PySem.Builtin.Re
set_option maxRecDepth 100000
namespace Mine
abbrev tupO (s e : Nat) : Obj := { cls := .type "tuple", data := .seq #[rawInt s, rawInt e, rawInt (s + 1 : Nat), rawInt e] }
abbrev matO (P : Addr) (x : Str) (tx : Tok) (ta : Addr) : Obj := { cls := .type "re.Match", data := .fields #[.str x tx, .ref P, rawInt 0, rawInt x.cps.size, rawInt 1, .ref ta] }
section
variable {M₀ : Model} {A : Around} {E : Value → Shared → Prop} {s : Shared} {h₀ h : Heap} {L l : Addr} {m : Str → Option Value} {news : List (Addr × Obj)} {P : Addr} {x : Str} {tx : Tok}
theorem set_head {o o' : Obj} {f : Obj → Obj} (F : Fr h₀ L h m) (N : News h₀ L h ((l, o) :: news)) (hl : ∀ p ∈ news, p.1 ≠ l) (e : f o = o') (hf : o'.isFreed = false) : Fr h₀ L (h.update l f) m ∧ News h₀ L (h.update l f) ((l, o') :: news) := by
  have z := N (l, o) (.head _)
  have hs : Heap.SameBut l h (h.update l f) := Heap.SameBut.update ..
  have ge : (h.update l f).get? l = some o' := by
    have : (h.update l f).get? l = some (f o) := by first | exact Heap.get?_update_self f z.1 (by rw [e]; exact hf) | exact Heap.get?_update_self _ z.1 (by rw [e]; exact hf)
    rw [this, e]
  refine ⟨F.change hs z.2.1 z.2.2, ?_⟩
  exact news_set (pre := []) N (fun _ hp => nomatch hp) hl hs ge
theorem newMatch_ok {mf : Sre.M} {b e : Nat} {Q : Value → Shared → Prop} (H : Hit mf b e) (hbe : b < e) (F : Fr h₀ L s.heap m) (N : News h₀ L s.heap news)
    (h : ∀ ta ma h', Fr h₀ L h' m → News h₀ L h' ((ma, matO P x tx ta) :: (ta, tupO b e) :: news) → (∀ p ∈ news, p.1 < ta) → ta < ma → Q (.ref ma) { s with heap := h' }) :
    wpAny M₀ A (reNewMatch (.ref P) (.str x tx) 1 0 x.cps.size mf) Q E s := by
  unfold reNewMatch
  have m0 : mf.marks.getD (2 * 0) none = some (b + 1) := by rw [H.marks]; rfl
  have m1 : mf.marks.getD (2 * 0 + 1) none = some e := by rw [H.marks]; rfl
  have lm : ((2 * 0 + 1 : Nat) : Int) ≤ mf.lastmark := by rw [H.lm]; decide
  have nlt : ¬ e < b + 1 := by omega
  have r1 : List.range 1 = [0] := rfl
  dsimp only
  simp only [r1, List.any_cons, List.any_nil, List.flatMap_cons, List.flatMap_nil, m0, m1, lm, if_true, decide_true, decide_false, nlt, Bool.true_and, Bool.or_false, Bool.false_eq_true, if_false, H.start, H.handed, H.li, List.append_nil]
  have z := N.push F (tupO b e) rfl
  refine wpAny_bind (wpAny_newTuple ?_ (by simp only [List.length_cons, List.length_nil]; rw [sizeLine_eq]; omega))
  refine wpAny_newObj_type (h _ _ _ ((F.push _).push _) ((N.push F (tupO b e) rfl).push (F.push _) (matO P x tx s.heap.objs.size) rfl) (fun p hp => Heap.lt_size (N p hp).1) ?_) (by first | exact trivial | (simp [sizeOk]; done) | (simp [sizeOk]; rw [sizeLine_eq]; omega))
  show s.heap.objs.size < (s.heap.push _).objs.size
  rw [Heap.size_push]; omega
end
section
variable {prog : Program} {w : World} {A : Around} {h₀ : Heap} {L l P f : Addr} {m : Str → Option Value} {news : List (Addr × Obj)} {x : Str} {tx : Tok} {R : Result → Shared → Prop}
def flatT (ts : List (Str × Tok)) : List Nat := ts.flatMap fun p => p.1.cps.toList
abbrev loopArgs (P : Addr) (x : Str) (tx : Tok) (f : Addr) (n : Int) (done : Nat) (l : Addr) : Args := ⟨[.ref P, .str x tx, .ref f, rawInt 1, rawInt 0, rawInt n, rawInt done, rawInt done, .bool false, .ref l, .bool false], []⟩
abbrev CallBack (prog : Program) (w : World) (A : Around) (h₀ : Heap) (L l P f : Addr) (m : Str → Option Value) (news : List (Addr × Obj)) (x : Str) (tx : Tok) (bd y : List Nat) : Prop :=
  ∀ (b0 e0 : Nat) (ta ma : Addr) (its : Array Value) (cap : Nat) (s' : Shared) (Q' E' : Value → Shared → Prop), (x.cps.extract (b0 + 1) e0).toList = bd ++ [59] → e0 ≤ x.cps.size → Fr h₀ L s'.heap m →
    News h₀ L s'.heap ((ma, matO P x tx ta) :: (ta, tupO b0 e0) :: (l, listOf its cap) :: news) → (∀ p ∈ (l, listOf its cap) :: news, p.1 < ta) → ta < ma →
    (∀ t h' tk', Fr h₀ L h' m → News h₀ L h' ((ma, matO P x tx ta) :: (ta, tupO b0 e0) :: (l, listOf its cap) :: news) → Q' (.str ⟨y.toArray⟩ t) { s' with heap := h', toks := tk' }) →
    wpAny (model prog w) A.in1 (PySem.call (.ref f) [.ref ma]) Q' E' s'
theorem flatT_app (a b : List (Str × Tok)) : flatT (a ++ b) = flatT a ++ flatT b := by simp [flatT]
theorem flatT_snoc (ts : List (Str × Tok)) (y : List Nat) (t : Tok) : flatT (ts ++ [((⟨y.toArray⟩ : Str), t)]) = flatT ts ++ y := by simp [flatT]
theorem slice_ok {M₀ : Model} {A : Around} {E : Value → Shared → Prop} {s : Shared} {T : Array Nat} {b e : Nat} {Q : Value → Shared → Prop} (h : Q (.str ⟨T.extract b e⟩ s.toks) { s with toks := s.toks + 1 }) (hT : T.size < 100000) : wpAny M₀ A (reSlice T 0 b e) Q E s := by
  unfold reSlice
  rw [if_pos (by decide)]
  refine wpAny_mkStr h ?_
  show (T.extract b e).size ≤ sizeLine
  rw [sizeLine_eq, Array.size_extract]; omega
theorem push_ok {M₀ : Model} {A : Around} {E : Value → Shared → Prop} {s : Shared} {ts : List (Str × Tok)} {cap : Nat} {y : Str} {ty : Tok} {Q : Unit → Shared → Prop} (F : Fr h₀ L s.heap m) (N : News h₀ L s.heap ((l, listOf (strValues ts).toArray cap) :: news)) (hl : ∀ p ∈ news, p.1 ≠ l)
    (hts : ts.length < 100000) (h : ∀ h', Fr h₀ L h' m → News h₀ L h' ((l, listOf (strValues (ts ++ [(y, ty)])).toArray (cap + 1)) :: news) → Q () { s with heap := h' }) : wpAny M₀ A (updateSeq l (fun a => a.push (.str y ty))) Q E s := by
  have hz : (strValues ts).length = ts.length := by simp [strValues]
  refine wpAny_updateSeq (N _ (.head _)).1 rfl ?_ (by rw [List.size_toArray, hz, sizeLine_eq]; omega) (by rw [Array.size_push, List.size_toArray, hz, sizeLine_eq]; omega)
  have e : Obj.mapSeq (fun a => a.push (.str y ty)) (listOf (strValues ts).toArray cap) = listOf (strValues (ts ++ [(y, ty)])).toArray (cap + 1) := by
    have hne : ¬ ((((strValues ts).toArray.push (.str y ty)).size == (strValues ts).toArray.size) = true) := by simp
    show listOf ((strValues ts).toArray.push (.str y ty)) (if (((strValues ts).toArray.push (.str y ty)).size == (strValues ts).toArray.size) = true then cap else cap + 1) = _
    rw [if_neg hne]
    simp [strValues]
  obtain ⟨F', N'⟩ := set_head F N hl e rfl
  exact h _ F' N'
theorem glue_flat (g : Str) (hg : g.cps = #[]) : ∀ (l : List (Str × Tok)) (acc : Array Nat), (l.map (·.1)).foldl (fun acc (p : Str) => acc ++ g.cps ++ p.cps) acc = acc ++ (flatT l).toArray
  | [], acc => by simp [flatT]
  | p :: l, acc => by
    rw [List.map_cons, List.foldl_cons, glue_flat g hg l]
    simp only [flatT, hg, List.flatMap_cons, Array.append_empty]
    apply Array.toList_inj.mp
    simp
theorem join_flat (g : Str) (hg : g.cps = #[]) (l : List (Str × Tok)) : Txt.join g (l.map (·.1)) = ⟨(flatT l).toArray⟩ := by
  cases l with
  | nil => rfl
  | cons p l =>
    show (⟨((l.map (·.1)).foldl (fun acc (p : Str) => acc ++ g.cps ++ p.cps) p.1.cps)⟩ : Str) = _
    rw [glue_flat g hg]
    simp [flatT]
theorem sum_flat (g : Str) (hg : g.cps = #[]) : ∀ (l : List (Str × Tok)) (a : Nat), (l.map (·.1)).foldl (fun (a : Nat) (p : Str) => a + p.length + g.length) a = a + (flatT l).length
  | [], a => by simp [flatT]
  | p :: l, a => by
    rw [List.map_cons, List.foldl_cons, sum_flat g hg l]
    have : g.length = 0 := by show g.cps.size = 0; rw [hg]; rfl
    have e : p.1.length = p.1.cps.toList.length := by simp [Str.length]
    simp only [flatT, List.flatMap_cons, List.length_append, this, e]; omega
theorem join_ok (g : Str) (hg : g.cps = #[]) (l : List (Str × Tok)) (h : (flatT l).length < 100000) : JoinOk g (l.map (·.1)) = true := by
  unfold JoinOk
  rw [List.foldl_toArray, sum_flat g hg]
  simp only [Builtin.Str.tooLong, Bool.not_eq_true', decide_eq_false_iff_not, sizeLine_eq]
  omega
theorem drop_extract (x : Str) (b n : Nat) : (x.cps.extract b (b + n)).toList = (x.cps.toList.drop b).take n := by
  rw [Array.toList_extract, List.extract_eq_take_drop]
  rw [show b + n - b = n by omega]
theorem sub_loop : ∀ (k : Nat) (ps : List Pc), ps.length < k → ∀ (done : Nat) (n : Int) (cap : Nat) (ts : List (Str × Tok)) (s : Shared), PatAt h₀ P → Fr h₀ L s.heap m → News h₀ L s.heap ((l, listOf (strValues ts).toArray cap) :: news) → (∀ p ∈ news, p.1 ≠ l) →
    x.cps.toList.drop done = srcs ps → done ≤ x.cps.size → Ok ps → x.cps.size < 90000 → ts.length + 2 * ps.length < 90000 → (flatT ts).length + (dsts ps).length < 90000 →
    (∀ bd y, Pc.rf bd y ∈ ps → CallBack prog w A h₀ L l P f m news x tx bd y) →
    (∀ t h' tk', Fr h₀ L h' m → News h₀ L h' news → R (.ok (.ret (.str ⟨(flatT ts ++ dsts ps).toArray⟩ t))) { s with heap := h', toks := tk' }) →
    codeAny (model prog w) A (.builtin "re.Pattern.sub.loop" (loopArgs P x tx f n done l)) R s := by
  intro k
  induction k with
  | zero =>
    intro ps hk
    exact absurd hk (Nat.not_lt_zero _)
  | succ k ih =>
    intro ps hk done n cap ts s HP F N hl hd hdl hok hx hts hfl HC hR
    refine codeAny_builtin Fx.entry_loop ?_
    rw [Around.under_plainId Fx.plain_loop]
    unfold Builtin.«re.Pattern.sub.loop»
    dsimp only [loopArgs, rawInt]
    refine wpAny_bind (wholeTarget_ok (HP.keeps F.keep) ?_)
    rw [if_neg (by decide)]
    refine wpAny_bind ?_
    rw [if_neg (by simp)]
    have hz := size_drop hd hdl
    refine nextFound_ok (ps := ps) rfl rfl rfl rfl (by simpa using hd) (by simpa using hdl) hok (by show x.cps.size < 1000000; omega) (fun hno => ?_) (fun bd y q mf hq hit => ?_)
    · obtain ⟨e1, e2⟩ := next_none hno
      rw [e1, ← e2] at hd hz
      dsimp only
      by_cases hlt : done < x.cps.size
      · rw [if_pos (by simpa using hlt)]
        refine wpAny_bind (slice_ok ?_ (by omega))
        refine wpAny_bind (push_ok F N hl (by omega) ?_)
        intro h1 F1 N1
        have hf : flatT (ts ++ [((⟨x.cps.extract (done : Int).toNat x.cps.size⟩ : Str), s.toks)]) = flatT ts ++ dsts ps := by
          rw [flatT_app]
          congr 1
          have := drop_extract x done (x.cps.size - done)
          rw [show done + (x.cps.size - done) = x.cps.size by omega, hd] at this
          simp only [flatT, List.flatMap_cons, List.flatMap_nil, List.append_nil, Int.toNat_natCast]
          rw [this, List.take_of_length_le (by omega)]
        have hl1 : (ts ++ [((⟨x.cps.extract (done : Int).toNat x.cps.size⟩ : Str), s.toks)]).length < 100000 := by rw [List.length_append]; simp only [List.length_cons, List.length_nil]; omega
        revert N1 hf hl1
        generalize ts ++ [((⟨x.cps.extract (done : Int).toNat x.cps.size⟩ : Str), s.toks)] = ts1
        intro N1 hf hl1
        refine wpAny_bind (slice_ok ?_ (by omega))
        refine wpAny_bind (wpAny_seqItems (N1 _ (.head _)).1 rfl ?_)
        dsimp only [Option.getD_some]
        by_cases he : ts1 = []
        · subst he
          rw [if_pos (by rfl)]
          refine wpAny_bind (wpAny_pure ?_)
          rw [if_neg (by decide)]
          have := hR (s.toks + 1) h1 (s.toks + 1 + 1) F1 (fun p hp => N1 p (.tail _ hp))
          rw [← hf] at this
          have e0 : (⟨x.cps.extract 0 0⟩ : Str) = ⟨(flatT []).toArray⟩ := by simp [flatT]
          rw [e0]
          exact wpAny_pure this
        · rw [if_neg (by cases ts1 with | nil => exact absurd rfl he | cons => simp [strValues])]
          rw [if_pos (by decide)]
          refine wpAny_bind (SC.join (N1.isList (.head _)) rfl (join_ok _ (by simp) _ (by rw [hf, List.length_append]; omega)) ?_)
          intro t' k'
          rw [if_neg (by decide), join_flat _ (by simp), hf]
          exact wpAny_pure (hR t' _ k' F1 (fun p hp => N1 p (.tail _ hp)))
      · rw [if_neg (by simpa using hlt)]
        have hp0 : dsts ps = [] := List.eq_nil_of_length_eq_zero (by omega)
        rw [hp0, List.append_nil] at hR
        refine wpAny_bind (slice_ok ?_ (by omega))
        refine wpAny_bind (wpAny_seqItems (N _ (.head _)).1 rfl ?_)
        dsimp only [Option.getD_some]
        by_cases he : ts = []
        · subst he
          rw [if_pos (by rfl)]
          refine wpAny_bind (wpAny_pure ?_)
          rw [if_neg (by decide)]
          have := hR s.toks s.heap (s.toks + 1) F (fun p hp => N p (.tail _ hp))
          have e0 : (⟨x.cps.extract 0 0⟩ : Str) = ⟨(flatT []).toArray⟩ := by simp [flatT]
          rw [e0]
          exact wpAny_pure this
        · rw [if_neg (by cases ts with | nil => exact absurd rfl he | cons => simp [strValues])]
          rw [if_pos (by decide)]
          refine wpAny_bind (SC.join (N.isList (.head _)) rfl (join_ok _ (by simp) _ (by omega)) ?_)
          intro t' k'
          rw [if_neg (by decide), join_flat _ (by simp)]
          exact wpAny_pure (hR t' _ k' F (fun p hp => N p (.tail _ hp)))
    · obtain ⟨e1, e2, e3⟩ := next_some hq
      dsimp only
      rw [hit.start]
      simp only [Int.toNat_natCast] at hit ⊢
      have hpl : (nextRef ps).1.length + bd.length + 2 + (srcs q).length = (srcs ps).length := by rw [e1]; simp only [List.length_append, List.length_cons]; omega
      have hle : done + (nextRef ps).1.length + bd.length + 2 ≤ x.cps.size := by omega
      have hd1 : x.cps.toList.drop (done + (nextRef ps).1.length + 1) = bd ++ 59 :: srcs q := by
        rw [Nat.add_assoc, ← List.drop_drop, hd, e1, ← List.drop_drop, List.drop_left]; rfl
      have hbody : (x.cps.extract (done + (nextRef ps).1.length + 1) (done + (nextRef ps).1.length + bd.length + 2)).toList = bd ++ [59] := by
        have := drop_extract x (done + (nextRef ps).1.length + 1) (bd.length + 1)
        rw [show done + (nextRef ps).1.length + 1 + (bd.length + 1) = done + (nextRef ps).1.length + bd.length + 2 by omega, hd1] at this
        rw [this, List.take_append, List.take_of_length_le (by omega)]
        simp
      have hdq : x.cps.toList.drop (done + (nextRef ps).1.length + bd.length + 2) = srcs q := by
        rw [show done + (nextRef ps).1.length + bd.length + 2 = done + (nextRef ps).1.length + 1 + (bd.length + 1) by omega, ← List.drop_drop, hd1, ← List.drop_drop, List.drop_left]; rfl
      have hokq := next_ok hq hok
      have heb : (done + (nextRef ps).1.length + bd.length + 2 == done + (nextRef ps).1.length) = false := by rw [beq_eq_false_iff_ne]; omega
      have hql : q.length < ps.length := e3
      by_cases hlt0 : 0 < (nextRef ps).1.length
      · rw [if_pos (by omega)]
        refine wpAny_bind (slice_ok ?_ (by omega))
        refine wpAny_bind (push_ok F N hl (by omega) ?_)
        intro h1 F1 N1
        have hf : flatT (ts ++ [((⟨x.cps.extract done (done + (nextRef ps).1.length)⟩ : Str), s.toks)]) = flatT ts ++ (nextRef ps).1 := by
          rw [flatT_app]
          congr 1
          have := drop_extract x done (nextRef ps).1.length
          rw [hd, e1, List.take_left] at this
          simp only [flatT, List.flatMap_cons, List.flatMap_nil, List.append_nil]
          exact this
        have hl1 : (ts ++ [((⟨x.cps.extract done (done + (nextRef ps).1.length)⟩ : Str), s.toks)]).length ≤ ts.length + 1 := by rw [List.length_append]; simp only [List.length_cons, List.length_nil]; omega
        revert N1 hf hl1
        generalize ts ++ [((⟨x.cps.extract done (done + (nextRef ps).1.length)⟩ : Str), s.toks)] = ts1
        intro N1 hf hl1
        rw [if_neg (by decide)]
        refine wpAny_bind (newMatch_ok hit (by omega) F1 N1 ?_)
        intro ta ma h2 F2 N2 hlt hta
        refine wpAny_bind (wpAny_holding ?_)
        rw [if_pos (by decide)]
        refine HC bd y (next_mem hq).1 _ _ ta ma _ _ _ _ _ hbody hle F2 N2 hlt hta ?_
        intro t3 h3 tk3 F3 N3
        rw [if_pos (by simp)]
        refine wpAny_bind (push_ok F3 (fun p hp => N3 p (.tail _ (.tail _ hp))) hl (by omega) ?_)
        intro h4 F4 N4
        refine wpAny_pure ⟨plainId_quiet Fx.plain_loop _, ?_⟩
        rw [hit.handed, heb]
        refine ih q (by omega) _ (n + 1) _ _ _ HP F4 N4 hl hdq hle hokq hx (by rw [List.length_append]; simp only [List.length_cons, List.length_nil]; omega) (by rw [flatT_snoc, hf]; rw [e2] at hfl; simp only [List.length_append] at hfl ⊢; omega) (fun bd' y' hm => HC bd' y' ((next_mem hq).2 _ hm)) ?_
        intro t5 h5 tk5 F5 N5
        have := hR t5 h5 tk5 F5 N5
        rw [e2] at this
        rw [flatT_snoc, hf]
        simp only [List.append_assoc] at this ⊢
        exact this
      · rw [if_neg (by omega)]
        have hp0 : (nextRef ps).1 = [] := List.eq_nil_of_length_eq_zero (by omega)
        obtain ⟨ts1, rfl⟩ : ∃ z, z = ts := ⟨_, rfl⟩
        have hf : flatT ts1 = flatT ts1 ++ (nextRef ps).1 := by rw [hp0, List.append_nil]
        have F1 := F
        have N1 := N
        have hl1 : ts1.length ≤ ts1.length + 1 := by omega
        rw [if_neg (by decide)]
        refine wpAny_bind (newMatch_ok hit (by omega) F1 N1 ?_)
        intro ta ma h2 F2 N2 hlt hta
        refine wpAny_bind (wpAny_holding ?_)
        rw [if_pos (by decide)]
        refine HC bd y (next_mem hq).1 _ _ ta ma _ _ _ _ _ hbody hle F2 N2 hlt hta ?_
        intro t3 h3 tk3 F3 N3
        rw [if_pos (by simp)]
        refine wpAny_bind (push_ok F3 (fun p hp => N3 p (.tail _ (.tail _ hp))) hl (by omega) ?_)
        intro h4 F4 N4
        refine wpAny_pure ⟨plainId_quiet Fx.plain_loop _, ?_⟩
        rw [hit.handed, heb]
        refine ih q (by omega) _ (n + 1) _ _ _ HP F4 N4 hl hdq hle hokq hx (by rw [List.length_append]; simp only [List.length_cons, List.length_nil]; omega) (by rw [flatT_snoc, hf]; rw [e2] at hfl; simp only [List.length_append] at hfl ⊢; omega) (fun bd' y' hm => HC bd' y' ((next_mem hq).2 _ hm)) ?_
        intro t5 h5 tk5 F5 N5
        have := hR t5 h5 tk5 F5 N5
        rw [e2] at this
        rw [flatT_snoc, hf]
        simp only [List.append_assoc] at this ⊢
        exact this
end
end Mine
end

section
open PySem PySem.W PyProof.Rows PySem.Calls
open PySem.Builtin.Re
set_option maxRecDepth 100000
namespace Mine
section
variable {prog : Program} {w : World} {A : Around} {h₀ : Heap} {L P f : Addr} {m : Str → Option Value} {news : List (Addr × Obj)} {x : Str} {tx : Tok} {s : Shared} {Q E : Value → Shared → Prop}
theorem named_eq (r s : Value) : reNamed "re.Pattern.sub" "sub" ["repl", "string", "count"] 2 [r, s] [] = pure [some r, some s, none] := by kernel_rfl
theorem fn_call : typeLookup (.type "function") "__call__" = pure (some (.builtin "function.__call__")) := by rw [typeLookup_type, builtinLookup_eq_fast]; kernel_rfl
theorem str_no_ba : isSubtype (.type "str") (.type "bytearray") = pure false := by rw [isSubtype_type]; kernel_rfl
theorem sub_call {oP of : Obj} (F : Fr h₀ L s.heap m) (N : News h₀ L s.heap news) (HP : PatAt h₀ P) (hP : h₀.get? P = some oP) (tP : oP.cls = .type "re.Pattern") (hf : h₀.get? f = some of) (tf : of.cls = .type "function")
    {ps : List Pc} (hs : x.cps.toList = srcs ps) (hok : Ok ps) (hx : x.cps.size < 40000) (hd : (dsts ps).length < 40000)
    (HC : ∀ l, (∀ p ∈ news, p.1 < l) → ∀ bd y, Pc.rf bd y ∈ ps → CallBack prog w A h₀ L l P f m news x tx bd y)
    (hQ : ∀ t h' tk', Fr h₀ L h' m → News h₀ L h' news → Q (.str ⟨(dsts ps).toArray⟩ t) { s with heap := h', toks := tk' }) :
    wpAny (model prog w) A (PySem.call (.builtin "re.Pattern.sub") [.ref P, .ref f, .str x tx]) Q E s := by
  have hT : s.TypeIs (.ref P) "re.Pattern" := ⟨_, F.keep _ _ hP, tP⟩
  have hTf : s.TypeIs (.ref f) "function" := ⟨_, F.keep _ _ hf, tf⟩
  refine wpAny_call (codeAny_call_builtin Fx.slot_pat_sub.plain Fx.entry_pat_sub (Fx.slot_pat_sub.check _ _ _ _ _ _ _ _ hT (Fx.args_pat_sub _ _ _) ?_))
  unfold Builtin.«re.Pattern.sub» reSubstitute
  dsimp only
  refine wpAny_bind (wpAny_of_eq (named_eq _ _) ?_)
  dsimp only
  refine wpAny_bind (wpAny_pure ?_)
  refine wpAny_bind (wpAny_specialOf hTf fn_call ?_)
  dsimp only [Option.isSome_some]
  rw [if_pos rfl]
  refine wpAny_bind (wpAny_pure ?_)
  rw [if_pos rfl]
  refine wpAny_bind (wpAny_pure ?_)
  dsimp only
  refine wpAny_bind (wpAny_holding (wholeTarget_ok (HP.keeps F.keep) ?_))
  rw [if_pos (by decide)]
  refine wpAny_bind ?_
  unfold reNotHeld
  refine wpAny_bind (wpAny_isInstance (typeIs_str _ _ _) str_no_ba ?_)
  rw [if_neg (by decide)]
  refine wpAny_pure ?_
  refine wpAny_bind (wpAny_newList ?_)
  refine wpAny_pure ⟨plainId_quiet Fx.plain_loop _, ?_⟩
  have F1 := F.push (listOf #[] 0)
  have N1 := N.push F (listOf #[] 0) rfl
  have hlt : ∀ p ∈ news, p.1 < s.heap.objs.size := fun p hp => Heap.lt_size (N p hp).1
  refine sub_loop (l := s.heap.objs.size) (news := news) (ps.length + 1) ps (by omega) 0 0 0 [] _ HP F1 N1 (fun p hp => Nat.ne_of_lt (hlt p hp)) (by rw [List.drop_zero]; exact hs) (Nat.zero_le _) hok (by omega) ?_ ?_ (HC _ hlt) ?_
  · have := src_len ps
    rw [← hs] at this
    simp only [Array.length_toList, List.length_nil] at this ⊢
    omega
  · simp only [flatT, List.flatMap_nil, List.length_nil]; omega
  · intro t h' tk' F' N'
    exact hQ t h' tk' F' N'
end
end Mine
end

section
open PySem PySem.W PyProof.Rows PySem.Calls
open PySem.Builtin.Re
set_option maxRecDepth 100000
namespace Mine
section
variable {prog : Program} {w : World} {A : Around} {h₀ : Heap} {L P ma ta : Addr} {m : Str → Option Value} {news : List (Addr × Obj)} {x : Str} {tx : Tok} {s : Shared} {E : Value → Shared → Prop} {b0 e0 : Nat}
theorem group_method {M₀ : Model} {pl : Sem Bool} {Q : Value × List Value → Shared → Prop} (N : News h₀ L s.heap news) (hm : (ma, matO P x tx ta) ∈ news) (h : Q (.builtin "re.Match.group", [.ref ma]) s) : wpAny M₀ A (getMethod (.ref ma) "group" pl) Q E s :=
  getMethod_builtin ⟨_, (N _ hm).1, rfl⟩ Fx.plainAttrs_match Fx.slot_match_group Fx.type_match_group (fun a e => by cases e; exact ⟨_, (N _ hm).1, rfl⟩) h
theorem grp_no (fs : Array Value) (a b c d : Int) (u : Tok) : reGroupNumber ⟨fs, #[a, b, c, d]⟩ (.int 1 u) = pure 1 := by kernel_rfl
theorem txt_of (x : Str) (tx : Tok) : reTextOf (.str x tx) = pure (x.cps, 0) := rfl
theorem group_call {u : Tok} {Q : Value → Shared → Prop} (N : News h₀ L s.heap news) (hm : (ma, matO P x tx ta) ∈ news) (ht : (ta, tupO b0 e0) ∈ news) (hx : x.cps.size < 100000)
    (h : Q (.str ⟨x.cps.extract (b0 + 1) e0⟩ s.toks) { s with toks := s.toks + 1 }) : wpAny (model prog w) A (PySem.call (.builtin "re.Match.group") [.ref ma, .int 1 u]) Q E s := by
  have hT : s.TypeIs (.ref ma) "re.Match" := ⟨_, (N _ hm).1, rfl⟩
  refine wpAny_call (codeAny_call_builtin Fx.slot_match_group.plain Fx.entry_match_group (Fx.slot_match_group.check _ _ _ _ _ _ _ _ hT (Fx.args_match_group _ _) ?_))
  unfold Builtin.«re.Match.group»
  dsimp only
  refine wpAny_bind (wpAny_of_eq (rfl : noKeywords "Match.group" ⟨[.ref ma, .int 1 u], []⟩ = pure ()) ?_)
  refine wpAny_bind ?_
  unfold reFound
  refine wpAny_bind (wpAny_fieldsOf (N _ hm).1 rfl ?_)
  refine wpAny_bind ?_
  unfold reRawItems
  refine wpAny_bind (wpAny_seqItems (N _ ht).1 rfl ?_)
  refine wpAny_pure ?_
  refine wpAny_pure ?_
  have e : Array.map reRawOf ((some #[rawInt (b0 : Int), rawInt (e0 : Int), rawInt ((b0 + 1 : Nat) : Int), rawInt (e0 : Int)]).getD #[]) = #[(b0 : Int), (e0 : Int), ((b0 + 1 : Nat) : Int), (e0 : Int)] := by simp [reRawOf, rawInt]
  rw [e]
  refine wpAny_bind (wpAny_of_eq (grp_no _ _ _ _ _ _) ?_)
  refine wpAny_bind ?_
  unfold reGroupText
  dsimp only
  rw [if_neg (by
    simp only [Bool.or_eq_true, decide_eq_true_eq]
    show ¬ ((((b0 + 1 : Nat) : Int)) < 0 ∨ ((e0 : Nat) : Int) < 0)
    omega)]
  refine wpAny_bind (wpAny_of_eq (txt_of x tx) ?_)
  show wpAny _ _ (reSlice x.cps 0 (((b0 + 1 : Nat) : Int)).toNat ((e0 : Nat) : Int).toNat) _ _ _
  refine slice_ok ?_ hx
  exact wpAny_pure h
end
end Mine
end

section
open PySem PySem.W PyProof.Rows PySem.Calls PySem.NumText
set_option maxRecDepth 100000
namespace Mine
theorem hex_parts : ∀ a ∈ hexs, ∀ b ∈ hexs, sign ([a, b].dropWhile blank) = (false, [a, b]) ∧ based 16 [a, b] = (16, false, [a, b]) ∧ digits? 16 ([a, b].reverse.dropWhile blank).reverse = some #[hv a, hv b] ∧ [a, b].takeWhile (· != 0) = [a, b] ∧ a < 128 ∧ b < 128 := by decide +kernel
theorem judge_hex (p q : Nat) : judge 0 false 16 false (some #[p, q]) = (int_private% "Numeral.value") ((p * 16 + q : Nat) : Int) := by
  unfold judge
  simp
theorem read_hex {a b : Nat} (ha : isHx a = true) (hb : isHx b = true) : (int_private% "readNumeral") 0 16 [a, b] = (int_private% "Numeral.value") ((hv a * 16 + hv b : Nat) : Int) := by
  obtain ⟨h1, h2, h3, _⟩ := hex_parts a (isHx_mem ha) b (isHx_mem hb)
  rw [readNumeral_eq, h1]
  dsimp only
  rw [h2]
  dsimp only
  rw [h3]
  exact judge_hex _ _
theorem wp_text16 {M : Model} {A : Around} {E : Value → Shared → Prop} {s : Shared} {Q : Value → Shared → Prop} {v : Value} {text : List Nat} {n : Int}
    (hs : (text.takeWhile (· != 0)).length ≤ 640) (hr : (int_private% "readNumeral") 0 16 (text.takeWhile (· != 0)) = (int_private% "Numeral.value") n)
    (ha : ((text.takeWhile (· != 0)).length == text.length) = true) (h : Q (.int n s.toks) { s with toks := s.toks + 1 }) :
    wpAny M A ((int_private% "intFromText") v text 16) Q E s := by
  obtain ⟨hp, g, d, tk, os⟩ := s
  repeat (any_goals (first
    | assumption
    | (with_reducible refine wpAny_ite_true (decide_eq_true hs) ?_)
    | (with_reducible refine wpAny_ite_true (decide_eq_true ha) ?_)
    | wp_step))
  all_goals (try rw [hr])
  all_goals (try dsimp only)
  repeat (any_goals (first
    | assumption
    | (with_reducible refine wpAny_ite_true (decide_eq_true hs) ?_)
    | (with_reducible refine wpAny_ite_true (decide_eq_true ha) ?_)
    | wp_step))
theorem gives_hex {a b : Nat} {u v : Tok} (ha : isHx a = true) (hb : isHx b = true) : Gives (Builtin.«int.__new__» ⟨[.type "int", .str ⟨#[a, b]⟩ u, .int 16 v], []⟩) (.int ((hv a * 16 + hv b : Nat) : Int)) :=
  .of_wp fun M A E s Q h => by
    obtain ⟨hp, g, d, tk, os⟩ := s
    have f1 := F.conv_sub_int
    have f2 := F.madeHere_int
    obtain ⟨_, _, _, h4, h5, h6⟩ := hex_parts a (isHx_mem ha) b (isHx_mem hb)
    have hr := read_hex ha hb
    have ht : (if (#[a, b] : Array Nat).all (· < 128) = true then [a, b] else Unicode.numberText [a, b]) = [a, b] := by simp [h5, h6]
    have k1 : (([a, b] : List Nat).takeWhile (· != 0)).length ≤ 640 := by rw [h4]; simp
    have k2 : ((([a, b] : List Nat).takeWhile (· != 0)).length == ([a, b] : List Nat).length) = true := by rw [h4]; rfl
    have k3 : (int_private% "readNumeral") 0 16 ([a, b].takeWhile (· != 0)) = (int_private% "Numeral.value") ((hv a * 16 + hv b : Nat) : Int) := by rw [h4]; exact hr
    clear h4 h5 h6 hr
    repeat (any_goals (first
      | assumption
      | ((with_reducible show wpAny _ _ ((int_private% "intFromText") _ _ _) _ _ _); (first | (rw [ht]) | skip); refine wp_text16 (n := ((hv a * 16 + hv b : Nat) : Int)) ?_ ?_ ?_ ?_)
      | wp_step))
    all_goals exact ⟨_, rfl, h⟩
theorem typeCall_int_2 (a b : Value) : checkTypeCall "int" ⟨[a, b], []⟩ = pure () := by kernel_rfl
theorem newCall_int_2 (a b : Value) : checkBuiltinCall "int.__new__" ⟨[.type "int", a, b], []⟩ = pure () := by kernel_rfl
theorem args_object_init_3 (a b c : Value) : argsOk "object.__init__" ⟨[a, b, c], []⟩ := by unfold argsOk; kernel_rfl
theorem call_hex {prog : Program} {w : World} {A : Around} {E : Value → Shared → Prop} {s : Shared} {Q : Value → Shared → Prop} {y : Str} {a b : Nat} {t u : Tok} (hy : y = ⟨#[a, b]⟩) (ha : isHx a = true) (hb : isHx b = true)
    (h : Q (.int ((hv a * 16 + hv b : Nat) : Int) s.toks) { s with toks := s.toks + 1 }) : wpAny (model prog w) A (PySem.call (.type "int") [.str y t, .int 16 u]) Q E s := by
  subst hy
  exact callType_new F.called_int F.newNe_int (typeCall_int_2 _ _) (newCall_int_2 _ _) (fun obj => args_object_init_3 obj _ _) F.entry_int_new (gives_hex (u := t) (v := u) ha hb).meets (show (Made.int _).post _ s from ⟨rfl, h⟩)
end Mine
end

section
open PySem PySem.W PyProof.Rows
set_option maxRecDepth 100000
set_option maxHeartbeats 0
namespace Mine
theorem walk_state8 : True := by
  w_top off
  k_with_none
  trivial
local macro_rules | `(tactic| walk_at "execs cons") => `(tactic| (k_here; with_reducible refine gen_tk ?_; intro tk9))
local macro_rules | `(tactic| walk_at "execs nil") => `(tactic| (k_here; with_reducible refine gen_tk ?_; intro tk9))
theorem group_call' {prog : Program} {w : World} {A : Around} {h₀ : Heap} {L P ma ta : Addr} {news : List (Addr × Obj)} {x : Str} {tx : Tok} {s : Shared} {E : Value → Shared → Prop} {b0 e0 : Nat} {u : Tok} {nm : Str} {Q : Value → Shared → Prop} (N : News h₀ L s.heap news) (hm : (ma, matO P x tx ta) ∈ news) (ht : (ta, tupO b0 e0) ∈ news) (hx : x.cps.size < 100000)
    (hn : (⟨x.cps.extract (b0 + 1) e0⟩ : Str) = nm) (h : Q (.str nm s.toks) { s with toks := s.toks + 1 }) : wpAny (model prog w) A (PySem.call (.builtin "re.Match.group") [.ref ma, .int 1 u]) Q E s :=
  group_call N hm ht hx (by rw [hn]; exact h)
local macro_rules | `(tactic| walk_at "getMethod ref") => `(tactic| (k_here; (with_reducible show wpAny _ _ (getMethod (Value.ref _) (PySem.Str.ofString "group") _) _ _ _); refine' group_method ?k1 ?k2 ?_; (case k1 => k_asm); (case k2 => k_mem)))
local macro_rules | `(tactic| walk_at "call builtin:re.Match.group") => `(tactic| (k_here; refine' group_call' ?k1 ?k2 ?k3 ?k4 ?k5 ?_; (case k1 => k_asm); (case k2 => k_mem); (case k3 => k_mem); (case k4 => assumption); (case k5 => assumption)))
local macro_rules | `(tactic| walk_at "call type:int") => `(tactic| (k_here; (with_reducible show wpAny _ _ (PySem.call (Value.type "int") [Value.str _ _, Value.int _ _]) _ _ _); refine call_hex (a := 51) (b := 67) (by decide +kernel) (by decide) (by decide) ?_))
theorem cr_amp {w : World} {p : Program} {loose : List Str} {mean : ExcName → Option Value} {mg mb : Str → Option Value} (P : Addr) (x : Str) (tx : Tok) (ma ta : Addr) (b0 e0 : Nat) (news : List (Addr × Obj)) (hx : x.cps.size < 100000) (hn : (⟨x.cps.extract (b0 + 1) e0⟩ : Str) = Str.ofString "amp;") :
    CbClaim PySem.Challenge.rw_fj5014_01.row.prog w (Mine.hd.heap_39 w.params) p loose mean mg mb 60 ((ma, matO P x tx ta) :: (ta, tupO b0 e0) :: news) [] True [.ref ma] (fun t => .str (Str.ofString "&") t) := by
  k_fill
  dsimp only [CbClaim, CbLists, CbRet]
  intro dp un gd cn cs a ccd cl outer A₀ base h₀ L m s Q E hB hF hK hN hT hcs hp hd hu hret
  refine wpAny_call ?_
  k_dflt cell_enter
  k_steps
  all_goals first
    | exact cb_retS (Q := Q) hret (by decide +kernel) (by k_asm) (by k_asm)
    | exact cb_retS (Q := Q) hret (by decide +kernel) (by k_asm) (cb_drop (by assumption) (fun p hp => .tail _ hp))
    | (exfalso; rename (List.isEmpty _ = _) => hq; exact absurd hq (by decide +kernel))
    | skip
theorem cr_lt {w : World} {p : Program} {loose : List Str} {mean : ExcName → Option Value} {mg mb : Str → Option Value} (P : Addr) (x : Str) (tx : Tok) (ma ta : Addr) (b0 e0 : Nat) (news : List (Addr × Obj)) (hx : x.cps.size < 100000) (hn : (⟨x.cps.extract (b0 + 1) e0⟩ : Str) = Str.ofString "lt;") :
    CbClaim PySem.Challenge.rw_fj5014_01.row.prog w (Mine.hd.heap_39 w.params) p loose mean mg mb 60 ((ma, matO P x tx ta) :: (ta, tupO b0 e0) :: news) [] True [.ref ma] (fun t => .str (Str.ofString "<") t) := by
  k_fill
  dsimp only [CbClaim, CbLists, CbRet]
  intro dp un gd cn cs a ccd cl outer A₀ base h₀ L m s Q E hB hF hK hN hT hcs hp hd hu hret
  refine wpAny_call ?_
  k_dflt cell_enter
  k_steps
  all_goals first
    | exact cb_retS (Q := Q) hret (by decide +kernel) (by k_asm) (by k_asm)
    | exact cb_retS (Q := Q) hret (by decide +kernel) (by k_asm) (cb_drop (by assumption) (fun p hp => .tail _ hp))
    | (exfalso; rename (List.isEmpty _ = _) => hq; exact absurd hq (by decide +kernel))
    | skip
theorem cr_copy {w : World} {p : Program} {loose : List Str} {mean : ExcName → Option Value} {mg mb : Str → Option Value} (P : Addr) (x : Str) (tx : Tok) (ma ta : Addr) (b0 e0 : Nat) (news : List (Addr × Obj)) (hx : x.cps.size < 100000) (hn : (⟨x.cps.extract (b0 + 1) e0⟩ : Str) = Str.ofString "copy;") :
    CbClaim PySem.Challenge.rw_fj5014_01.row.prog w (Mine.hd.heap_39 w.params) p loose mean mg mb 60 ((ma, matO P x tx ta) :: (ta, tupO b0 e0) :: news) [] True [.ref ma] (fun t => .str (Str.ofString "©") t) := by
  k_fill
  dsimp only [CbClaim, CbLists, CbRet]
  intro dp un gd cn cs a ccd cl outer A₀ base h₀ L m s Q E hB hF hK hN hT hcs hp hd hu hret
  refine wpAny_call ?_
  k_dflt cell_enter
  k_steps
  all_goals first
    | exact cb_retS (Q := Q) hret (by decide +kernel) (by k_asm) (by k_asm)
    | exact cb_retS (Q := Q) hret (by decide +kernel) (by k_asm) (cb_drop (by assumption) (fun p hp => .tail _ hp))
    | (exfalso; rename (List.isEmpty _ = _) => hq; exact absurd hq (by decide +kernel))
    | skip
theorem cr_bogus {w : World} {p : Program} {loose : List Str} {mean : ExcName → Option Value} {mg mb : Str → Option Value} (P : Addr) (x : Str) (tx : Tok) (ma ta : Addr) (b0 e0 : Nat) (news : List (Addr × Obj)) (hx : x.cps.size < 100000) (hn : (⟨x.cps.extract (b0 + 1) e0⟩ : Str) = Str.ofString "bogus;") :
    CbClaim PySem.Challenge.rw_fj5014_01.row.prog w (Mine.hd.heap_39 w.params) p loose mean mg mb 60 ((ma, matO P x tx ta) :: (ta, tupO b0 e0) :: news) [] True [.ref ma] (fun t => .str (Str.ofString "&bogus;") t) := by
  k_fill
  dsimp only [CbClaim, CbLists, CbRet]
  intro dp un gd cn cs a ccd cl outer A₀ base h₀ L m s Q E hB hF hK hN hT hcs hp hd hu hret
  refine wpAny_call ?_
  k_dflt cell_enter
  k_steps
  all_goals first
    | exact cb_retS (Q := Q) hret (by decide +kernel) (by k_asm) (by k_asm)
    | exact cb_retS (Q := Q) hret (by decide +kernel) (by k_asm) (cb_drop (by assumption) (fun p hp => .tail _ hp))
    | (exfalso; rename (List.isEmpty _ = _) => hq; exact absurd hq (by decide +kernel))
    | skip
theorem cr_w {w : World} {p : Program} {loose : List Str} {mean : ExcName → Option Value} {mg mb : Str → Option Value} (P : Addr) (x : Str) (tx : Tok) (ma ta : Addr) (b0 e0 : Nat) (news : List (Addr × Obj)) (hx : x.cps.size < 100000) (hn : (⟨x.cps.extract (b0 + 1) e0⟩ : Str) = Str.ofString "w;") :
    CbClaim PySem.Challenge.rw_fj5014_01.row.prog w (Mine.hd.heap_39 w.params) p loose mean mg mb 60 ((ma, matO P x tx ta) :: (ta, tupO b0 e0) :: news) [] True [.ref ma] (fun t => .str (Str.ofString "&w;") t) := by
  k_fill
  dsimp only [CbClaim, CbLists, CbRet]
  intro dp un gd cn cs a ccd cl outer A₀ base h₀ L m s Q E hB hF hK hN hT hcs hp hd hu hret
  refine wpAny_call ?_
  k_dflt cell_enter
  k_steps
  all_goals first
    | exact cb_retS (Q := Q) hret (by decide +kernel) (by k_asm) (by k_asm)
    | exact cb_retS (Q := Q) hret (by decide +kernel) (by k_asm) (cb_drop (by assumption) (fun p hp => .tail _ hp))
    | (exfalso; rename (List.isEmpty _ = _) => hq; exact absurd hq (by decide +kernel))
    | skip
theorem cr_dec {w : World} {p : Program} {loose : List Str} {mean : ExcName → Option Value} {mg mb : Str → Option Value} (P : Addr) (x : Str) (tx : Tok) (ma ta : Addr) (b0 e0 : Nat) (news : List (Addr × Obj)) (hx : x.cps.size < 100000) (hn : (⟨x.cps.extract (b0 + 1) e0⟩ : Str) = Str.ofString "#38;") :
    CbClaim PySem.Challenge.rw_fj5014_01.row.prog w (Mine.hd.heap_39 w.params) p loose mean mg mb 60 ((ma, matO P x tx ta) :: (ta, tupO b0 e0) :: news) [] True [.ref ma] (fun t => .str (Str.ofString "&") t) := by
  k_fill
  dsimp only [CbClaim, CbLists, CbRet]
  intro dp un gd cn cs a ccd cl outer A₀ base h₀ L m s Q E hB hF hK hN hT hcs hp hd hu hret
  refine wpAny_call ?_
  k_dflt cell_enter
  k_steps
  all_goals first
    | exact cb_retS (Q := Q) hret (by decide +kernel) (by k_asm) (by k_asm)
    | exact cb_retS (Q := Q) hret (by decide +kernel) (by k_asm) (cb_drop (by assumption) (fun p hp => .tail _ hp))
    | (exfalso; rename (List.isEmpty _ = _) => hq; exact absurd hq (by decide +kernel))
    | skip
theorem cr_hex {w : World} {p : Program} {loose : List Str} {mean : ExcName → Option Value} {mg mb : Str → Option Value} (P : Addr) (x : Str) (tx : Tok) (ma ta : Addr) (b0 e0 : Nat) (news : List (Addr × Obj)) (hx : x.cps.size < 100000) (hn : (⟨x.cps.extract (b0 + 1) e0⟩ : Str) = Str.ofString "#x3C;") :
    CbClaim PySem.Challenge.rw_fj5014_01.row.prog w (Mine.hd.heap_39 w.params) p loose mean mg mb 60 ((ma, matO P x tx ta) :: (ta, tupO b0 e0) :: news) [] True [.ref ma] (fun t => .str (Str.ofString "<") t) := by
  k_fill
  dsimp only [CbClaim, CbLists, CbRet]
  intro dp un gd cn cs a ccd cl outer A₀ base h₀ L m s Q E hB hF hK hN hT hcs hp hd hu hret
  refine wpAny_call ?_
  k_dflt cell_enter
  k_steps
  all_goals first
    | exact cb_retS (Q := Q) hret (by decide +kernel) (by k_asm) (by k_asm)
    | exact cb_retS (Q := Q) hret (by decide +kernel) (by k_asm) (cb_drop (by assumption) (fun p hp => .tail _ hp))
    | (exfalso; rename (List.isEmpty _ = _) => hq; exact absurd hq (by decide +kernel))
    | skip
end Mine
end

section
open PySem PySem.W PyProof.Rows PySem.Calls
set_option maxRecDepth 100000
namespace Mine
theorem runs_toks {M : Model} {Γ : Ctx} {p : Pos} {t : Sem Fin} {fs : List Frame} {s s' : Shared} {e : End} (h : Runs M Γ p t fs s e s') : s.toks ≤ s'.toks := by
  have set_toks : ∀ (s : Shared) g x, (s.setGen g x).toks = s.toks := fun _ _ _ => rfl
  induction h <;> simp only [set_toks] at * <;> first | exact Nat.le_refl _ | assumption | omega
theorem wp_toks {α : Type} {M : Model} {Γ : Ctx} : ∀ (t : Sem α) (Q : α → Pos → Shared → Prop) (E : Value → Pos → Shared → Prop) (p : Pos) (s : Shared), Sem.wp M Γ t Q E p s →
    Sem.wp M Γ t (fun a p' s' => s.toks ≤ s'.toks ∧ Q a p' s') (fun a p' s' => s.toks ≤ s'.toks ∧ E a p' s') p s := by
  intro t
  induction t with
  | pure a => intro Q E p s h; rw [Sem.wp] at h ⊢; exact ⟨Nat.le_refl _, h⟩
  | raise e => intro Q E p s h; rw [Sem.wp] at h ⊢; exact ⟨Nat.le_refl _, h⟩
  | unsupported w => intro Q E p s h; rw [Sem.wp] at h; exact h.elim
  | finish w => intro Q E p s h; rw [Sem.wp] at h; exact h.elim
  | register a k ih => intro Q E p s h; rw [Sem.wp] at h; exact h.elim
  | «yield» v g l k ih => intro Q E p s h; rw [Sem.wp] at h; exact h.elim
  | fork c k ih => intro Q E p s h; rw [Sem.wp] at h; exact h.elim
  | await a t d l k ih => intro Q E p s h; rw [Sem.wp] at h; exact h.elim
  | rule tag k ih => intro Q E p s h; rw [Sem.wp] at h ⊢; exact ih _ _ _ _ _ h
  | «at» q k ih => intro Q E p s h; rw [Sem.wp] at h ⊢; exact ih _ _ _ _ _ h
  | load a q k ih => intro Q E p s h; rw [Sem.wp] at h ⊢; obtain ⟨o, ho, h⟩ := h; exact ⟨o, ho, ih _ _ _ _ _ h⟩
  | update a q f k ih => intro Q E p s h; rw [Sem.wp] at h ⊢; exact ⟨h.1, ih _ _ _ _ _ h.2⟩
  | alloc o k ih => intro Q E p s h; rw [Sem.wp] at h ⊢; exact ih _ _ _ _ _ h
  | loadIfAlive a k ih => intro Q E p s h; rw [Sem.wp] at h ⊢; exact ih _ _ _ _ _ h
  | point l k ih => intro Q E p s h; rw [Sem.wp] at h ⊢; exact ih _ _ _ _ _ h
  | fresh k ih =>
    intro Q E p s h
    rw [Sem.wp] at h ⊢
    have := ih _ _ _ _ _ h
    refine Sem.wp_mono M Γ _ (fun a p' s' x => ⟨?_, x.2⟩) (fun a p' s' x => ⟨?_, x.2⟩) _ _ this <;> exact Nat.le_of_succ_le x.1
  | ask k ih => intro Q E p s h; rw [Sem.wp] at h ⊢; exact ih _ _ _ _ _ h
  | choose src n k ih => intro Q E p s h; rw [Sem.wp] at h ⊢; exact ⟨h.1, ih _ _ _ _ _ h.2⟩
  | os q l k ih => intro Q E p s h; rw [Sem.wp] at h ⊢; exact ih _ _ _ _ _ h
  | call c hd g l k ih =>
    intro Q E p s h
    rw [Sem.wp] at h ⊢
    obtain ⟨r, s₁, hr, h⟩ := h
    have h1 := runs_toks hr
    refine ⟨r, s₁, hr, ?_⟩
    refine Sem.wp_mono M Γ _ (fun a p' s' x => ⟨?_, x.2⟩) (fun a p' s' x => ⟨?_, x.2⟩) _ _ (ih _ _ _ _ _ h) <;> exact Nat.le_trans h1 x.1
  | handled own k ih => intro Q E p s h; rw [Sem.wp] at h ⊢; exact ih _ _ _ _ _ h
  | newGen c k ih => intro Q E p s h; rw [Sem.wp] at h ⊢; exact ih _ _ _ _ _ h
  | genState g k ih => intro Q E p s h; rw [Sem.wp] at h ⊢; obtain ⟨o, ho, h⟩ := h; exact ⟨o, ho, ih _ _ _ _ _ h⟩
  | resume g r l k ih =>
    intro Q E p s h
    rw [Sem.wp] at h ⊢
    obtain ⟨res, s₁, hr, h⟩ := h
    have h1 : s.toks ≤ s₁.toks := by
      unfold Wakes at hr
      split at hr
      · exact hr.elim
      · split at hr
        · obtain ⟨e₁, s₂, hr, _, _, rfl⟩ := hr
          have z := runs_toks hr
          exact z
        · rw [hr.2]; exact Nat.le_refl _
        · rw [hr.2]; exact Nat.le_refl _
      · obtain ⟨e₁, s₂, hr, _, _, rfl⟩ := hr
        have z := runs_toks hr
        exact z
      · rw [hr.2]; exact Nat.le_refl _
      · rw [hr.2]; exact Nat.le_refl _
    refine ⟨res, s₁, hr, ?_⟩
    refine Sem.wp_mono M Γ _ (fun a p' s' x => ⟨?_, x.2⟩) (fun a p' s' x => ⟨?_, x.2⟩) _ _ (ih _ _ _ _ _ h) <;> exact Nat.le_trans h1 x.1
  | stack k ih => intro Q E p s h; rw [Sem.wp] at h ⊢; exact ih _ _ _ _ _ h
  | thread k ih => intro Q E p s h; rw [Sem.wp] at h ⊢; exact ih _ _ _ _ _ h
/-- no step of the machine lowers the count of tokens -/
theorem grow {α : Type} {M : Model} {A : Around} {t : Sem α} {Q : α → Shared → Prop} {E : Value → Shared → Prop} {s : Shared} (h : wpAny M A t (fun a s' => s.toks ≤ s'.toks → Q a s') E s) : wpAny M A t Q E s := fun Γ p hΓ =>
  Sem.wp_mono M Γ t (fun _ _ _ x => x.2 x.1) (fun _ _ _ x => x.2) p s (wp_toks t _ _ p s (h Γ p hΓ))
end Mine
end

section
open PySem PySem.W PyProof.Rows PySem.Calls
set_option maxRecDepth 100000
namespace Mine
def rplL (l : List Nat) (c : Nat) (z : List Nat) : List Nat := l.flatMap fun a => if a = c then z else [a]
def rplS (x : Str) (c : Nat) (z : Str) : Str := ⟨(rplL (LL x) c (LL z)).toArray⟩
theorem rpl_app (a b : List Nat) (c : Nat) (z : List Nat) : rplL (a ++ b) c z = rplL a c z ++ rplL b c z := by simp [rplL]
theorem rpl_free (c : Nat) (z : List Nat) : ∀ l : List Nat, c ∉ l → rplL l c z = l
  | [], _ => rfl
  | a :: l, h => by
    have ih := rpl_free c z l (fun hm => h (.tail _ hm))
    have : a ≠ c := fun e => h (e ▸ .head _)
    simp only [rplL, List.flatMap_cons, if_neg this] at ih ⊢
    rw [ih]; rfl
theorem rpl_join (c : Nat) (z : Str) : ∀ parts : List Str, (∀ p ∈ parts, c ∉ p.cps.toList) → rplL (Str.join ⟨#[c]⟩ parts).cps.toList c (LL z) = (Str.join z parts).cps.toList
  | [], _ => rfl
  | [p], h => rpl_free c _ _ (h p (List.mem_singleton.mpr rfl))
  | p :: q :: r, h => by
    have ih := rpl_join c z (q :: r) fun a ha => h a (List.mem_cons_of_mem _ ha)
    show rplL (p ++ ⟨#[c]⟩ ++ Str.join ⟨#[c]⟩ (q :: r)).cps.toList c (LL z) = (p ++ z ++ Str.join z (q :: r)).cps.toList
    simp only [Str.cps_append, Array.toList_append]
    rw [rpl_app, rpl_app, ih, rpl_free c _ _ (h p (List.mem_cons_self ..))]
    simp [rplL]
theorem replace_is (x z : Str) (c : Nat) : Txt.replace x ⟨#[c]⟩ z = rplS x c z := by
  refine str_ext ?_
  rw [StrLaws.replace_one, ← rpl_join c z _ (StrLaws.split_free x c), StrLaws.join_split]
  simp [rplS]
theorem rpl_len (x z : Str) (c : Nat) (h : z.length ≤ 6) : (rplS x c z).length ≤ 6 * x.length := by
  have hz : (LL z).length ≤ 6 := by rw [← len_toList]; exact h
  have e : (rplS x c z).length = (rplL (LL x) c (LL z)).length := by rw [len_toList]; simp [rplS]
  rw [e, len_toList x]
  generalize LL z = w at hz
  have : ∀ l : List Nat, (rplL l c w).length ≤ 6 * l.length := by
    intro l
    induction l with
    | nil => simp [rplL]
    | cons a l ih =>
      simp only [rplL, List.flatMap_cons, List.length_append, List.length_cons] at ih ⊢
      split <;> (try simp only [List.length_cons, List.length_nil]) <;> omega
  exact this (LL x)
theorem rpl_ok {prog : Program} {w : World} {A : Around} {E : Value → Shared → Prop} {s : Shared} {x y z : Str} {c : Nat} {t u v : Tok} {Q : Value → Shared → Prop} (hy : y = ⟨#[c]⟩) (hu : 0 < u) (hv : u < v) (hz : z.length ≤ 6) (hz2 : (y == z) = false) (hx : x.length ≤ 250000)
    (h : ∀ t' k, s.toks ≤ k → (rplS x c z).length ≤ 6 * x.length → Q (.str (rplS x c z) t') { s with toks := k }) : wpAny (model prog w) A (PySem.call (.builtin "str.replace") [.str x t, .str y u, .str z v]) Q E s := by
  subst hy
  refine grow (SC.replaceW (Nat.ne_of_gt hu) (Nat.ne_of_gt (Nat.lt_trans hu hv)) (Nat.ne_of_lt hv) hz2 (by omega) (by omega) ?_)
  intro t' k hk
  rw [replace_is]
  exact h t' k hk (rpl_len x z c hz)
theorem names_rpl (x : Str) : rplS (rplS (rplS (rplS x 38 (Str.ofString "&amp;")) 60 (Str.ofString "&lt;")) 62 (Str.ofString "&gt;")) 34 (Str.ofString "&quot;") = namesS x := by
  refine str_ext ?_
  have e1 : LL (Str.ofString "&amp;") = [38, 97, 109, 112, 59] := by decide +kernel
  have e2 : LL (Str.ofString "&lt;") = [38, 108, 116, 59] := by decide +kernel
  have e3 : LL (Str.ofString "&gt;") = [38, 103, 116, 59] := by decide +kernel
  have e4 : LL (Str.ofString "&quot;") = [38, 113, 117, 111, 116, 59] := by decide +kernel
  simp only [rplS, namesS, e1, e2, e3, e4, LL]
  generalize x.cps.toList = l
  induction l with
  | nil => rfl
  | cons a l ih =>
    have hc : ∀ (a : Nat) (r : List Nat) (c : Nat) (z : List Nat), rplL (a :: r) c z = (if a = c then z else [a]) ++ rplL r c z := fun a r c z => by simp [rplL]
    have hn : namesL (a :: l) = nameC a ++ namesL l := by simp [namesL]
    rw [hn, hc a l 38]
    simp only [rpl_app]
    rw [ih]
    congr 1
    unfold nameC
    by_cases h1 : a = 38
    · subst h1; rfl
    · by_cases h2 : a = 60
      · subst h2; rfl
      · by_cases h3 : a = 62
        · subst h3; rfl
        · by_cases h4 : a = 34
          · subst h4; rfl
          · simp [h1, h2, h3, h4, rplL]
theorem gen_toks {α : Type} {M : Model} {A : Around} {t : Sem α} {Q : α → Shared → Prop} {E : Value → Shared → Prop} {h : Heap} {g : Array GenState} {d : Drawn} {a b : Nat} {os : OsState} (h0 : 0 < a + b) (H : ∀ k, 0 < k → wpAny M A t Q E ⟨h, g, d, k, os⟩) : wpAny M A t Q E ⟨h, g, d, a + b, os⟩ := H _ h0
end Mine
end

section
open PySem PySem.W PyProof.Rows
open PySem.Builtin.Re
set_option maxRecDepth 100000
set_option maxHeartbeats 0
namespace Mine
theorem walk_state9 : True := by
  w_top off
  k_with_none
  trivial
local macro_rules | `(tactic| walk_at "execs cons") => `(tactic| (k_here; with_reducible refine gen_tk ?_; intro tk9))
local macro_rules | `(tactic| walk_at "execs nil") => `(tactic| (k_here; with_reducible refine gen_tk ?_; intro tk9))
local macro_rules | `(tactic| walk_at "call builtin:str.replace") => `(tactic| (k_here; refine' rpl_ok (c := 38) (by decide +kernel) ?r1 ?r2 (by decide +kernel) (by decide +kernel) ?r3 ?_; (case r1 => first | assumption | exact Nat.succ_pos _ | exact Nat.lt_of_lt_of_le (by assumption) (by assumption)); (case r2 => exact Nat.lt_succ_self _); (case r3 => omega); intro t9 k9 hk9 hr9))
local macro_rules | `(tactic| walk_at "call builtin:str.replace") => `(tactic| (k_here; refine' rpl_ok (c := 60) (by decide +kernel) ?r1 ?r2 (by decide +kernel) (by decide +kernel) ?r3 ?_; (case r1 => first | assumption | exact Nat.succ_pos _ | exact Nat.lt_of_lt_of_le (by assumption) (by assumption)); (case r2 => exact Nat.lt_succ_self _); (case r3 => omega); intro t9 k9 hk9 hr9))
local macro_rules | `(tactic| walk_at "call builtin:str.replace") => `(tactic| (k_here; refine' rpl_ok (c := 62) (by decide +kernel) ?r1 ?r2 (by decide +kernel) (by decide +kernel) ?r3 ?_; (case r1 => first | assumption | exact Nat.succ_pos _ | exact Nat.lt_of_lt_of_le (by assumption) (by assumption)); (case r2 => exact Nat.lt_succ_self _); (case r3 => omega); intro t9 k9 hk9 hr9))
local macro_rules | `(tactic| walk_at "call builtin:str.replace") => `(tactic| (k_here; refine' rpl_ok (c := 34) (by decide +kernel) ?r1 ?r2 (by decide +kernel) (by decide +kernel) ?r3 ?_; (case r1 => first | assumption | exact Nat.succ_pos _ | exact Nat.lt_of_lt_of_le (by assumption) (by assumption)); (case r2 => exact Nat.lt_succ_self _); (case r3 => omega); intro t9 k9 hk9 hr9))
local macro_rules | `(tactic| walk_at "execs cons") => `(tactic| (k_here; with_reducible refine' gen_toks ?r1 ?_; (case r1 => first | omega | exact Nat.add_pos_right _ (Nat.lt_of_lt_of_eq (Nat.succ_pos 1) (by kernel_rfl)) | exact Nat.add_pos_right _ (Nat.lt_of_lt_of_eq (Nat.succ_pos 0) (by kernel_rfl))); intro k9 hk9))
theorem escape_ok {w : World} {p : Program} {loose : List Str} {mean : ExcName → Option Value} {mg mb : Str → Option Value} (x : Str) (tx : Tok) (news : List (Addr × Obj)) :
    CbClaim PySem.Challenge.rw_fj5014_01.row.prog w (Mine.hd.heap_39 w.params) p loose mean mg mb 131 news [] (x.length ≤ 1000) [.str x tx] (fun t => .str (namesS x) t) := by
  k_fill
  dsimp only [CbClaim, CbLists, CbRet]
  intro dp un gd cn cs a ccd cl outer A₀ base h₀ L m s Q E hB hF hK hN hT hcs hp hd hu hret
  refine wpAny_call ?_
  k_dflt (refine' code_def ?k1 ?k2 ?k3 ?k4 ?k5 ?kA ?kF ?kK ?k6 ?k7 ?k8 ?k9 ?kB ?_ ?c2 ?c3 ?c4 ?c5; (case kA => exact rfl); (case kF => exact rfl); (case kK => assumption); (case k1 => k_asm); (case k2 => k_asm); (case k3 => k_asm); (case k4 => k_asm); (case k5 => k_asm); (case k6 => k_is); (case k7 => k_is); (case k8 => exact Nat.lt_of_succ_lt hd); (case k9 => first | exact BindsTo.of_eq rfl | exact binds_K (by k_in) rfl (by k_is) rfl rfl rfl); (case c5 => decide); (case kB => exact locs rfl); (case c2 => exact rfl); (case c3 => exact rfl); (case c4 => exact rfl); k_whole; intro g' L' h' FG' F' N' B' X' T'; (try dsimp only); (try k_lift B'); (try k_fold))
  k_steps
  all_goals first
    | exact cb_retS (Q := Q) hret (names_rpl x) (by k_asm) (by k_asm)
    | skip
end Mine
end

section
open PySem PySem.W PyProof.Rows PySem.Calls
open PySem.Builtin.Re
set_option maxRecDepth 100000
set_option maxHeartbeats 0
namespace Mine
/-- the references that are told, and what is read for them -/
def known : List (List Nat × List Nat) := [([97, 109, 112], [38]), ([108, 116], [60]), ([99, 111, 112, 121], [169]), ([98, 111, 103, 117, 115], [38, 98, 111, 103, 117, 115, 59]), ([119], [38, 119, 59]), ([35, 51, 56], [38]), ([35, 120, 51, 67], [60])]
theorem patMk {h : Heap} {K : Frag} {P C : Addr} {pc dc : Value} {pd cd : Option Addr} {fs items : Array Value} {n : Nat} {psl csl : Array (Option Value)} (X : K.In h) (e1 : K.lookup P = some ⟨pc, pd, .fields fs, psl⟩) (h3 : fs.getD 5 .none = .ref C) (e2 : K.lookup C = some ⟨dc, cd, .seq items n, csl⟩)
    (h4 : reRawNat (fs.getD 6 .none) = 0) (h5 : reRawNat (fs.getD 2 .none) = 1) (e3 : (items.map reRawOf).map (·.toNat) = RC) : PatAt h P :=
  ⟨_, _, _, X _ _ e1, rfl, h3, h4, h5, _, _, _, X _ _ e2, rfl, e3⟩
theorem patK {w : World} {h : Heap} (X : (Mine.hd.heap_39 w.params).In h) : PatAt h 143 := by
  have hfill : PySem.Challenge.rw_fj5014_01 = PySem.Challenge.rw_fj5014_01 ∧ Mine.hd.heap_39 = Mine.hd.heap_39 := by k_fill; exact ⟨rfl, rfl⟩
  refine' patMk X ?e1 ?h3 ?e2 ?h4 ?h5 ?e3
  case e1 => k_is
  case h3 => exact rfl
  case e2 => k_is
  case h4 => exact rfl
  case h5 => exact rfl
  case e3 => decide +kernel
theorem clsK {h : Heap} {K : Frag} {a : Addr} {c : Value} {d : Option Addr} {dt : Data} {sl : Array (Option Value)} (X : K.In h) (e : K.lookup a = some ⟨c, d, dt, sl⟩) : ∃ o, h.get? a = some o ∧ o.cls = c ∧ o.dict = d := ⟨_, X _ _ e, rfl, rfl⟩
theorem pat_cls {w : World} {h : Heap} (X : (Mine.hd.heap_39 w.params).In h) : ∃ o, h.get? 143 = some o ∧ o.cls = .type "re.Pattern" ∧ o.dict = none := by
  have hfill : PySem.Challenge.rw_fj5014_01 = PySem.Challenge.rw_fj5014_01 ∧ Mine.hd.heap_39 = Mine.hd.heap_39 := by k_fill; exact ⟨rfl, rfl⟩
  refine' clsK X ?e
  case e => k_is
theorem cr_cls {w : World} {h : Heap} (X : (Mine.hd.heap_39 w.params).In h) : ∃ o, h.get? 60 = some o ∧ o.cls = .type "function" ∧ o.dict = none := by
  have hfill : PySem.Challenge.rw_fj5014_01 = PySem.Challenge.rw_fj5014_01 ∧ Mine.hd.heap_39 = Mine.hd.heap_39 := by k_fill; exact ⟨rfl, rfl⟩
  refine' clsK X ?e
  case e => k_is
theorem sub_method {M₀ : Model} {A : Around} {E : Value → Shared → Prop} {s : Shared} {h₀ : Heap} {L : Addr} {m : Str → Option Value} {w : World} {pl : Sem Bool} {Q : Value × List Value → Shared → Prop} (F : Fr h₀ L s.heap m) (X : (Mine.hd.heap_39 w.params).In h₀) (h : Q (.builtin "re.Pattern.sub", [.ref 143]) s) :
    wpAny M₀ A (getMethod (.ref 143) "sub" pl) Q E s := by
  obtain ⟨o, h1, h2, h3⟩ := pat_cls X
  exact getMethod_builtin ⟨_, F.keep _ _ h1, h2⟩ Fx.plainAttrs_pat Fx.slot_pat_sub Fx.type_pat_sub (fun a e => by cases e; exact ⟨_, F.keep _ _ h1, h3⟩) h
theorem callback {w : World} {p : Program} {loose : List Str} {mean : ExcName → Option Value} {mg mb : Str → Option Value} {dp un : Nat} {gd : Option (List Code)} {cn : Str} {cs : Scope} {a : Addr} {ccd : Value} {cl : List (Str × Addr)} {outer : List Env} {A₀ : Around} {base h₀ : Heap} {L l : Addr} {m : Str → Option Value} {news : List (Addr × Obj)} {x : Str} {tx : Tok} {bd y : List Nat}
    (hB : Below A₀ base outer h₀) (hK : (Mine.hd.heap_39 w.params).In h₀) (hT : Top p loose mean mg mb h₀) (hcs : cs.kind = .function) (hd : dp + 1 < recursionLimit) (hu : un + 9 < cLine) (hx : x.cps.size < 100000) (hk : (bd, y) ∈ known) :
    CallBack PySem.Challenge.rw_fj5014_01.row.prog w (ktrTop dp un gd cn cs L a ccd cl outer) h₀ L l 143 60 m news x tx bd y := by
  intro b0 e0 ta ma its cap s' Q' E' hbody he F N hlt hta hret
  have key : ∀ nm out : Str, LL nm = bd ++ [59] → out = ⟨y.toArray⟩ → ((⟨x.cps.extract (b0 + 1) e0⟩ : Str) = nm) ∧ (∀ (t : Tok) (h' : Heap) (tk' : Nat), Fr h₀ L h' m → News h₀ L h' ((ma, matO 143 x tx ta) :: (ta, tupO b0 e0) :: (l, listOf its cap) :: news) → Q' (.str out t) { s' with heap := h', toks := tk' }) := by
    intro nm out h1 h2
    refine ⟨str_ext ?_, ?_⟩
    · rw [hbody]; exact h1.symm
    · rw [h2]; exact hret
  simp only [known, List.mem_cons, Prod.mk.injEq, List.not_mem_nil, or_false] at hk
  rcases hk with ⟨rfl, rfl⟩ | ⟨rfl, rfl⟩ | ⟨rfl, rfl⟩ | ⟨rfl, rfl⟩ | ⟨rfl, rfl⟩ | ⟨rfl, rfl⟩ | ⟨rfl, rfl⟩
  · obtain ⟨k1, k2⟩ := key (Str.ofString "amp;") (Str.ofString "&") (by decide +kernel) (by decide +kernel)
    exact cr_amp 143 x tx ma ta b0 e0 _ hx k1 dp (un + 1) gd cn cs a ccd cl outer A₀ base h₀ L m s' Q' E' hB F hK N hT hcs trivial hd (by omega) k2
  · obtain ⟨k1, k2⟩ := key (Str.ofString "lt;") (Str.ofString "<") (by decide +kernel) (by decide +kernel)
    exact cr_lt 143 x tx ma ta b0 e0 _ hx k1 dp (un + 1) gd cn cs a ccd cl outer A₀ base h₀ L m s' Q' E' hB F hK N hT hcs trivial hd (by omega) k2
  · obtain ⟨k1, k2⟩ := key (Str.ofString "copy;") (Str.ofString "©") (by decide +kernel) (by decide +kernel)
    exact cr_copy 143 x tx ma ta b0 e0 _ hx k1 dp (un + 1) gd cn cs a ccd cl outer A₀ base h₀ L m s' Q' E' hB F hK N hT hcs trivial hd (by omega) k2
  · obtain ⟨k1, k2⟩ := key (Str.ofString "bogus;") (Str.ofString "&bogus;") (by decide +kernel) (by decide +kernel)
    exact cr_bogus 143 x tx ma ta b0 e0 _ hx k1 dp (un + 1) gd cn cs a ccd cl outer A₀ base h₀ L m s' Q' E' hB F hK N hT hcs trivial hd (by omega) k2
  · obtain ⟨k1, k2⟩ := key (Str.ofString "w;") (Str.ofString "&w;") (by decide +kernel) (by decide +kernel)
    exact cr_w 143 x tx ma ta b0 e0 _ hx k1 dp (un + 1) gd cn cs a ccd cl outer A₀ base h₀ L m s' Q' E' hB F hK N hT hcs trivial hd (by omega) k2
  · obtain ⟨k1, k2⟩ := key (Str.ofString "#38;") (Str.ofString "&") (by decide +kernel) (by decide +kernel)
    exact cr_dec 143 x tx ma ta b0 e0 _ hx k1 dp (un + 1) gd cn cs a ccd cl outer A₀ base h₀ L m s' Q' E' hB F hK N hT hcs trivial hd (by omega) k2
  · obtain ⟨k1, k2⟩ := key (Str.ofString "#x3C;") (Str.ofString "<") (by decide +kernel) (by decide +kernel)
    exact cr_hex 143 x tx ma ta b0 e0 _ hx k1 dp (un + 1) gd cn cs a ccd cl outer A₀ base h₀ L m s' Q' E' hB F hK N hT hcs trivial hd (by omega) k2
end Mine
end

section
open PySem PySem.W PyProof.Rows PySem.Calls
open PySem.Builtin.Re
set_option maxRecDepth 100000
set_option maxHeartbeats 0
namespace Mine
theorem walk_state10 : True := by
  w_top off
  k_with_none
  trivial
local macro_rules | `(tactic| walk_at "execs cons") => `(tactic| (k_here; with_reducible refine gen_tk ?_; intro tk9))
local macro_rules | `(tactic| walk_at "execs nil") => `(tactic| (k_here; with_reducible refine gen_tk ?_; intro tk9))
theorem no_amp : ∀ {ps : List Pc}, 38 ∉ srcs ps → dsts ps = srcs ps
  | [], _ => rfl
  | .ch c :: r, h => by
    rw [srcs_cons, dsts_cons] at *
    rw [no_amp (fun hm => h (List.mem_append_right _ hm))]; rfl
  | .amp :: r, h => by
    exfalso; apply h; rw [srcs_cons]; simp [Pc.src]
  | .rf b y :: r, h => by
    exfalso; apply h; rw [srcs_cons]; simp [Pc.src]
theorem no_amp_txt {x : Str} {ps : List Pc} (hs : LL x = srcs ps) (h : (Builtin.Str.occurrences x (Str.ofString "&") 0 x.length 1).isEmpty = true) : x = ⟨(dsts ps).toArray⟩ := by
  have e : Str.ofString "&" = ⟨#[38]⟩ := by decide +kernel
  have := StrLaws.found_one x 38
  rw [← e, h] at this
  have hn : 38 ∉ LL x := by simpa using this
  rw [hs] at hn
  refine str_ext ?_
  rw [no_amp hn, ← hs]
theorem sub_go {w : World} {p : Program} {loose : List Str} {mean : ExcName → Option Value} {mg mb : Str → Option Value} {dp un : Nat} {gd : Option (List Code)} {cn : Str} {cs : Scope} {a : Addr} {ccd : Value} {cl : List (Str × Addr)} {outer : List Env} {A₀ : Around} {base h₀ : Heap} {L : Addr} {m : Str → Option Value} {news : List (Addr × Obj)} {x : Str} {tx : Tok} {ps : List Pc} {s : Shared} {Q E : Value → Shared → Prop}
    (hB : Below A₀ base outer h₀) (hF : Fr h₀ L s.heap m) (hK : (Mine.hd.heap_39 w.params).In h₀) (hN : News h₀ L s.heap news) (hT : Top p loose mean mg mb h₀) (hcs : cs.kind = .function) (hp : LL x = srcs ps ∧ Ok ps ∧ (∀ bd y, Pc.rf bd y ∈ ps → (bd, y) ∈ known) ∧ x.length ≤ 1000 ∧ (dsts ps).length ≤ 1000) (hd : dp + 1 < recursionLimit) (hu : un + 9 < cLine)
    (hr : CbRet h₀ L m news s Q (fun t => .str ⟨(dsts ps).toArray⟩ t)) :
    wpAny (model PySem.Challenge.rw_fj5014_01.row.prog w) (ktrTop dp un gd cn cs L a ccd cl outer) (PySem.call (.builtin "re.Pattern.sub") [.ref 143, .ref 60, .str x tx]) Q E s := by
  obtain ⟨h1, h2, h3, h4, h5⟩ := hp
  obtain ⟨oP, p1, p2, _⟩ := pat_cls hK
  obtain ⟨oF, f1, f2, _⟩ := cr_cls hK
  have h4' : x.cps.size ≤ 1000 := h4
  refine sub_call hF hN (patK hK) p1 p2 f1 f2 (ps := ps) h1 h2 (by omega) (by omega) (fun l _ bd y hm => ?_) hr
  exact callback hB hK hT hcs hd hu (by omega) (h3 bd y hm)
local macro_rules | `(tactic| walk_at "getMethod ref") => `(tactic| (k_here; (with_reducible show wpAny _ _ (getMethod (Value.ref 143) (PySem.Str.ofString "sub") _) _ _ _); refine' sub_method ?k1 ?k2 ?_; (case k1 => k_asm); (case k2 => k_asm)))
local macro_rules | `(tactic| walk_at "call builtin:re.Pattern.sub") => `(tactic| (k_here; refine' sub_go ?k1 ?k2 ?k3 ?k4 ?k5 ?kK ?kp ?kd ?ku ?kR; (case k1 => k_asm); (case k2 => k_asm); (case k3 => k_asm); (case k4 => k_asm); (case k5 => k_asm); (case kK => first | exact rfl | assumption); (case kp => assumption); (case kd => first | omega | ((try dsimp only [Around.deeper, ktrTop]); omega) | ktr_room); (case ku => first | omega | ((try dsimp only [Around.deeper, ktrTop]); omega) | ktr_units); intro t9 h9 tk9 F9 N9; (try dsimp only)))
theorem unescape_ok {w : World} (x : Str) (tx : Tok) (ps : List Pc) (news : List (Addr × Obj)) :
    MyClaim 3 w 150 news (LL x = srcs ps ∧ Ok ps ∧ (∀ bd y, Pc.rf bd y ∈ ps → (bd, y) ∈ known) ∧ x.length ≤ 1000 ∧ (dsts ps).length ≤ 1000) [.str x tx] (fun t => .str ⟨(dsts ps).toArray⟩ t) := by
  dsimp only [MyClaim, CbRet]
  k_fill
  intro p loose mean mg mb dp un gd cn cs a ccd cl outer A₀ base h₀ L m s Q E hB hF hK hN hT hcs hp hd hu hret
  refine wpAny_call ?_
  k_dflt (refine' code_def ?k1 ?k2 ?k3 ?k4 ?k5 ?kA ?kF ?kK ?k6 ?k7 ?k8 ?k9 ?kB ?_ ?c2 ?c3 ?c4 ?c5; (case kA => exact rfl); (case kF => exact rfl); (case kK => assumption); (case k1 => k_asm); (case k2 => k_asm); (case k3 => k_asm); (case k4 => k_asm); (case k5 => k_asm); (case k6 => k_is); (case k7 => k_is); (case k8 => exact Nat.lt_of_le_of_lt (Nat.le_add_right _ _) hd); (case k9 => first | exact BindsTo.of_eq rfl | exact binds_K (by k_in) rfl (by k_is) rfl rfl rfl); (case c5 => decide); (case kB => exact locs rfl); (case c2 => exact rfl); (case c3 => exact rfl); (case c4 => exact rfl); k_whole; intro g' L' h' FG' F' N' B' X' T'; (try dsimp only); (try k_lift B'); (try k_fold))
  k_steps
  all_goals first
    | exact cb_retS (Q := Q) hret (no_amp_txt hp.1 (by assumption)) (by k_asm) (by k_asm)
    | exact cb_retS (Q := Q) hret rfl (by k_asm) (by k_asm)
    | skip
end Mine
end

section
open PySem PySem.W PyProof.Rows PySem.Calls
set_option maxRecDepth 100000
set_option maxHeartbeats 0
namespace Mine
theorem walk_state11 : True := by
  w_top off
  k_with_none
  trivial
local macro_rules | `(tactic| walk_at "zz pad") => `(tactic| skip)
local macro_rules | `(tactic| walk_at "execs cons") => `(tactic| (k_here; with_reducible refine gen_tk ?_; intro tk9))
local macro_rules | `(tactic| walk_at "execs nil") => `(tactic| (k_here; with_reducible refine gen_tk ?_; intro tk9))
theorem escape_my {w : World} (x : Str) (tx : Tok) (news : List (Addr × Obj)) : MyClaim 1 w 131 news (x.length ≤ 1000) [.str x tx] (fun t => .str (namesS x) t) := fun _ _ _ _ _ => escape_ok x tx news
theorem len1000 {ps : List Pc} {x : Str} (h : LL x = srcs ps ∧ Ok ps ∧ (∀ bd y, Pc.rf bd y ∈ ps → (bd, y) ∈ known) ∧ x.length ≤ 1000 ∧ (dsts ps).length ≤ 1000) : (⟨(dsts ps).toArray⟩ : Str).length ≤ 1000 := by
  rw [len_toList]; simpa using h.2.2.2.2
local macro_rules | `(tactic| walk_at "call ref") => `(tactic| (k_here; (with_reducible show wpAny _ _ (PySem.call (Value.ref 150) [Value.str _ _]) _ _ _); k_dflt (refine' use2 (unescape_ok _ _ _ _) ?k1 ?k2 ?k3 ?k4 ?k5 ?kK ?kp ?kd ?ku ?_); (case k1 => k_asm); (case k2 => k_asm); (case k3 => k_asm); (case k4 => k_asm); (case k5 => k_asm); (case kK => first | exact rfl | assumption); (case kp => assumption); (case kd => first | omega | ((try dsimp only [Around.deeper, ktrTop]); omega) | ktr_room); (case ku => first | omega | ((try dsimp only [Around.deeper, ktrTop]); omega) | ktr_units); intro t9 h9 tk9 F9 N9; (try dsimp only)))
local macro_rules | `(tactic| walk_at "call ref") => `(tactic| (k_here; (with_reducible show wpAny _ _ (PySem.call (Value.ref 131) [Value.str _ _]) _ _ _); k_dflt (refine' use2 (escape_my _ _ _) ?k1 ?k2 ?k3 ?k4 ?k5 ?kK ?kp ?kd ?ku ?_); (case k1 => k_asm); (case k2 => k_asm); (case k3 => k_asm); (case k4 => k_asm); (case k5 => k_asm); (case kK => first | exact rfl | assumption); (case kp => first | assumption | omega | exact len1000 (by assumption)); (case kd => first | omega | ((try dsimp only [Around.deeper, ktrTop]); omega) | ktr_room); (case ku => first | omega | ((try dsimp only [Around.deeper, ktrTop]); omega) | ktr_units); intro t9 h9 tk9 F9 N9; (try dsimp only)))
theorem safe_entity_ok {w : World} (x : Str) (tx : Tok) (ps : List Pc) (news : List (Addr × Obj)) :
    MyClaim 5 w 138 news (LL x = srcs ps ∧ Ok ps ∧ (∀ bd y, Pc.rf bd y ∈ ps → (bd, y) ∈ known) ∧ x.length ≤ 1000 ∧ (dsts ps).length ≤ 1000) [.str x tx] (fun t => .str (namesS ⟨(dsts ps).toArray⟩) t) := by
  dsimp only [MyClaim, CbRet]
  k_fill
  intro p loose mean mg mb dp un gd cn cs a ccd cl outer A₀ base h₀ L m s Q E hB hF hK hN hT hcs hp hd hu hret
  refine wpAny_call ?_
  k_dflt (refine' code_def ?k1 ?k2 ?k3 ?k4 ?k5 ?kA ?kF ?kK ?k6 ?k7 ?k8 ?k9 ?kB ?_ ?c2 ?c3 ?c4 ?c5; (case kA => exact rfl); (case kF => exact rfl); (case kK => assumption); (case k1 => k_asm); (case k2 => k_asm); (case k3 => k_asm); (case k4 => k_asm); (case k5 => k_asm); (case k6 => k_is); (case k7 => k_is); (case k8 => exact Nat.lt_of_le_of_lt (Nat.le_add_right _ _) hd); (case k9 => first | exact BindsTo.of_eq rfl | exact binds_K (by k_in) rfl (by k_is) rfl rfl rfl); (case c5 => decide); (case kB => exact locs rfl); (case c2 => exact rfl); (case c3 => exact rfl); (case c4 => exact rfl); k_whole; intro g' L' h' FG' F' N' B' X' T'; (try dsimp only); (try k_lift B'); (try k_fold))
  k_steps
  all_goals first
    | exact cb_retS (Q := Q) hret rfl (by k_asm) (by k_asm)
    | skip
end Mine
end

section
open PySem PySem.W PyProof.Rows PySem.Calls
set_option maxRecDepth 100000
set_option maxHeartbeats 0
namespace Mine
theorem walk_state12 : True := by
  w_top off
  k_with_none
  trivial
local macro_rules | `(tactic| walk_at "execs cons") => `(tactic| (k_here; with_reducible refine gen_tk ?_; intro tk9))
local macro_rules | `(tactic| walk_at "execs nil") => `(tactic| (k_here; with_reducible refine gen_tk ?_; intro tk9))
abbrev mkL (w : World) (M D dd : Addr) (t1 t2 t3 : Tok) (e : Bool) (al : Value) (rest : List (Addr × Obj)) : List (Addr × Obj) := (M, instObj 380 D) :: (D, mkD w dd t1 t2 t3 e al) :: rest
local macro_rules | `(tactic| walk_at "call ref") => `(tactic| (k_here; (with_reducible show wpAny _ _ (PySem.call (Value.ref 131) [Value.str _ _]) _ _ _); k_dflt (refine' use2 (escape_my _ _ _) ?k1 ?k2 ?k3 ?k4 ?k5 ?kK ?kp ?kd ?ku ?_); (case k1 => k_asm); (case k2 => k_asm); (case k3 => k_asm); (case k4 => k_asm); (case k5 => k_asm); (case kK => first | exact rfl | assumption); (case kp => first | assumption | omega); (case kd => first | omega | ((try dsimp only [Around.deeper, ktrTop]); omega) | ktr_room); (case ku => first | omega | ((try dsimp only [Around.deeper, ktrTop]); omega) | ktr_units); intro t9 h9 tk9 F9 N9; (try dsimp only)))
local macro_rules | `(tactic| k_room) => `(tactic| first | omega | ((try dsimp only [Around.deeper, Around.under, ktrTop]); omega) | ktr_room)
theorem raw_ok {w : World} (M D dd : Addr) (t1 t2 t3 : Tok) (e : Bool) (al : Value) (y : Str) (ty : Tok) (rest : List (Addr × Obj)) :
    MyClaim 3 w 206 (mkL w M D dd t1 t2 t3 e al rest) (y.length ≤ 1000) [.ref M, .str y ty] (fun t => .str (if e then namesS y else y) t) := by
  dsimp only [MyClaim, CbRet, mkL, mkD]
  k_fill
  intro p loose mean mg mb dp un gd cn cs a ccd cl outer A₀ base h₀ L m s Q E hB hF hK hN hT hcs hp hd hu hret
  refine wpAny_call ?_
  k_dflt (refine' code_def ?k1 ?k2 ?k3 ?k4 ?k5 ?kA ?kF ?kK ?k6 ?k7 ?k8 ?k9 ?kB ?_ ?c2 ?c3 ?c4 ?c5; (case kA => exact rfl); (case kF => exact rfl); (case kK => assumption); (case k1 => k_asm); (case k2 => k_asm); (case k3 => k_asm); (case k4 => k_asm); (case k5 => k_asm); (case k6 => k_is); (case k7 => k_is); (case k8 => exact Nat.lt_of_le_of_lt (Nat.le_add_right _ _) hd); (case k9 => first | exact BindsTo.of_eq rfl | exact binds_K (by k_in) rfl (by k_is) rfl rfl rfl); (case c5 => decide); (case kB => exact locs rfl); (case c2 => exact rfl); (case c3 => exact rfl); (case c4 => exact rfl); k_whole; intro g' L' h' FG' F' N' B' X' T'; (try dsimp only); (try k_lift B'); (try k_fold))
  k_steps
  all_goals first
    | exact cb_retS (Q := Q) hret (by simp_all) (by k_asm) (by k_asm)
    | skip
end Mine
end

section
open PySem PySem.W PyProof.Rows PySem.Calls
set_option maxRecDepth 100000
set_option maxHeartbeats 0
namespace Mine
theorem walk_state13 : True := by
  w_top off
  k_with_none
  trivial
local macro_rules | `(tactic| walk_at "zz pad") => `(tactic| skip)
local macro_rules | `(tactic| walk_at "execs cons") => `(tactic| (k_here; with_reducible refine gen_tk ?_; intro tk9))
local macro_rules | `(tactic| walk_at "execs nil") => `(tactic| (k_here; with_reducible refine gen_tk ?_; intro tk9))
theorem ent_my {w : World} (x : Str) (tx : Tok) (ps : List Pc) (news : List (Addr × Obj)) :
    MyClaim 5 w 138 news (LL x = srcs ps ∧ Ok ps ∧ (∀ bd y, Pc.rf bd y ∈ ps → (bd, y) ∈ known) ∧ x.length ≤ 1000 ∧ (dsts ps).length ≤ 1000) [.str x tx] (fun t => .str (namesS ⟨(dsts ps).toArray⟩) t) := safe_entity_ok x tx ps news
local macro_rules | `(tactic| walk_at "call ref") => `(tactic| (k_here; (with_reducible show wpAny _ _ (PySem.call (Value.ref 138) [Value.str _ _]) _ _ _); k_dflt (refine' use2 (ent_my _ _ _ _) ?k1 ?k2 ?k3 ?k4 ?k5 ?kK ?kp ?kd ?ku ?_); (case k1 => k_asm); (case k2 => k_asm); (case k3 => k_asm); (case k4 => k_asm); (case k5 => k_asm); (case kK => first | exact rfl | assumption); (case kp => assumption); (case kd => first | omega | ((try dsimp only [Around.deeper, ktrTop]); omega) | ktr_room); (case ku => first | omega | ((try dsimp only [Around.deeper, ktrTop]); omega) | ktr_units); intro t9 h9 tk9 F9 N9; (try dsimp only)))
local macro_rules | `(tactic| k_room) => `(tactic| first | omega | ((try dsimp only [Around.deeper, Around.under, ktrTop]); omega) | ktr_room)
theorem attr_ok {w : World} (M D dd : Addr) (t1 t2 t3 : Tok) (e : Bool) (al : Value) (y : Str) (ty : Tok) (ps : List Pc) (rest : List (Addr × Obj)) :
    MyClaim 6 w 213 (mkL w M D dd t1 t2 t3 e al rest) (LL y = srcs ps ∧ Ok ps ∧ (∀ bd y, Pc.rf bd y ∈ ps → (bd, y) ∈ known) ∧ y.length ≤ 1000 ∧ (dsts ps).length ≤ 1000) [.ref M, .str y ty] (fun t => .str (namesS ⟨(dsts ps).toArray⟩) t) := by
  dsimp only [MyClaim, CbRet, mkL, mkD]
  k_fill
  intro p loose mean mg mb dp un gd cn cs a ccd cl outer A₀ base h₀ L m s Q E hB hF hK hN hT hcs hp hd hu hret
  refine wpAny_call ?_
  k_dflt (refine' code_def ?k1 ?k2 ?k3 ?k4 ?k5 ?kA ?kF ?kK ?k6 ?k7 ?k8 ?k9 ?kB ?_ ?c2 ?c3 ?c4 ?c5; (case kA => exact rfl); (case kF => exact rfl); (case kK => assumption); (case k1 => k_asm); (case k2 => k_asm); (case k3 => k_asm); (case k4 => k_asm); (case k5 => k_asm); (case k6 => k_is); (case k7 => k_is); (case k8 => exact Nat.lt_of_le_of_lt (Nat.le_add_right _ _) hd); (case k9 => first | exact BindsTo.of_eq rfl | exact binds_K (by k_in) rfl (by k_is) rfl rfl rfl); (case c5 => decide); (case kB => exact locs rfl); (case c2 => exact rfl); (case c3 => exact rfl); (case c4 => exact rfl); k_whole; intro g' L' h' FG' F' N' B' X' T'; (try dsimp only); (try k_lift B'); (try k_fold))
  k_steps
  all_goals first
    | exact cb_retS (Q := Q) hret rfl (by k_asm) (by k_asm)
    | skip
local macro_rules | `(tactic| walk_at "call ref") => `(tactic| (k_here; (with_reducible show wpAny _ _ (PySem.call (Value.ref 206) [Value.ref _, Value.str _ _]) _ _ _); k_dflt (refine' use2 (raw_ok _ _ _ _ _ _ _ _ _ _ _) ?k1 ?k2 ?k3 ?k4 ?k5 ?kK ?kp ?kd ?ku ?_); (case k1 => k_asm); (case k2 => k_asm); (case k3 => k_asm); (case k4 => k_asm); (case k5 => k_asm); (case kK => first | exact rfl | assumption); (case kp => assumption); (case kd => first | omega | ((try dsimp only [Around.deeper, ktrTop]); omega) | ktr_room); (case ku => first | omega | ((try dsimp only [Around.deeper, ktrTop]); omega) | ktr_units); intro t9 h9 tk9 F9 N9; (try dsimp only)))
theorem inline_ok {w : World} (M D dd : Addr) (t1 t2 t3 : Tok) (e : Bool) (al : Value) (y : Str) (ty : Tok) (rest : List (Addr × Obj)) :
    MyClaim 4 w 306 (mkL w M D dd t1 t2 t3 e al rest) (y.length ≤ 1000) [.ref M, .str y ty] (fun t => .str (if e then namesS y else y) t) := by
  dsimp only [MyClaim, CbRet, mkL, mkD]
  k_fill
  intro p loose mean mg mb dp un gd cn cs a ccd cl outer A₀ base h₀ L m s Q E hB hF hK hN hT hcs hp hd hu hret
  refine wpAny_call ?_
  k_dflt (refine' code_def ?k1 ?k2 ?k3 ?k4 ?k5 ?kA ?kF ?kK ?k6 ?k7 ?k8 ?k9 ?kB ?_ ?c2 ?c3 ?c4 ?c5; (case kA => exact rfl); (case kF => exact rfl); (case kK => assumption); (case k1 => k_asm); (case k2 => k_asm); (case k3 => k_asm); (case k4 => k_asm); (case k5 => k_asm); (case k6 => k_is); (case k7 => k_is); (case k8 => exact Nat.lt_of_le_of_lt (Nat.le_add_right _ _) hd); (case k9 => first | exact BindsTo.of_eq rfl | exact binds_K (by k_in) rfl (by k_is) rfl rfl rfl); (case c5 => decide); (case kB => exact locs rfl); (case c2 => exact rfl); (case c3 => exact rfl); (case c4 => exact rfl); k_whole; intro g' L' h' FG' F' N' B' X' T'; (try dsimp only); (try k_lift B'); (try k_fold))
  k_steps
  all_goals first
    | exact cb_retS (Q := Q) hret (by simp_all) (by k_asm) (by k_asm)
    | skip
end Mine
end

section
open PySem PySem.W PyProof.Rows PySem.Calls
set_option maxRecDepth 100000
set_option maxHeartbeats 0
namespace Mine
theorem walk_state14 : True := by
  w_top off
  k_with_none
  trivial
local macro_rules | `(tactic| walk_at "execs cons") => `(tactic| (k_here; with_reducible refine gen_tk ?_; intro tk9))
local macro_rules | `(tactic| walk_at "execs nil") => `(tactic| (k_here; with_reducible refine gen_tk ?_; intro tk9))
theorem pre5 : LL (Str.ofString "5") = srcs ([.ch 53]) ∧ Ok ([.ch 53]) ∧ (∀ bd y, Pc.rf bd y ∈ ([.ch 53]) → (bd, y) ∈ known) ∧ (Str.ofString "5").length ≤ 1000 ∧ (dsts ([.ch 53])).length ≤ 1000 := by
  refine ⟨by decide +kernel, by simp [Ok], by simp, by decide +kernel, by decide +kernel⟩
theorem pre0 : LL (Str.ofString "0") = srcs ([.ch 48]) ∧ Ok ([.ch 48]) ∧ (∀ bd y, Pc.rf bd y ∈ ([.ch 48]) → (bd, y) ∈ known) ∧ (Str.ofString "0").length ≤ 1000 ∧ (dsts ([.ch 48])).length ≤ 1000 := by
  refine ⟨by decide +kernel, by simp [Ok], by simp, by decide +kernel, by decide +kernel⟩
theorem preT : LL (Str.ofString "True") = srcs ([.ch 84, .ch 114, .ch 117, .ch 101]) ∧ Ok ([.ch 84, .ch 114, .ch 117, .ch 101]) ∧ (∀ bd y, Pc.rf bd y ∈ ([.ch 84, .ch 114, .ch 117, .ch 101]) → (bd, y) ∈ known) ∧ (Str.ofString "True").length ≤ 1000 ∧ (dsts ([.ch 84, .ch 114, .ch 117, .ch 101])).length ≤ 1000 := by
  refine ⟨by decide +kernel, by simp [Ok], by simp, by decide +kernel, by decide +kernel⟩
theorem preN : LL (Str.ofString "None") = srcs ([.ch 78, .ch 111, .ch 110, .ch 101]) ∧ Ok ([.ch 78, .ch 111, .ch 110, .ch 101]) ∧ (∀ bd y, Pc.rf bd y ∈ ([.ch 78, .ch 111, .ch 110, .ch 101]) → (bd, y) ∈ known) ∧ (Str.ofString "None").length ≤ 1000 ∧ (dsts ([.ch 78, .ch 111, .ch 110, .ch 101])).length ≤ 1000 := by
  refine ⟨by decide +kernel, by simp [Ok], by simp, by decide +kernel, by decide +kernel⟩
theorem pre5i : LL (Str.ofString (toString (5 : Int))) = srcs ([.ch 53]) ∧ Ok ([.ch 53]) ∧ (∀ bd y, Pc.rf bd y ∈ ([.ch 53]) → (bd, y) ∈ known) ∧ (Str.ofString (toString (5 : Int))).length ≤ 1000 ∧ (dsts ([.ch 53])).length ≤ 1000 := by
  have h : toString (5 : Int) = "5" := by decide +kernel
  rw [h]; exact pre5
theorem pre0i : LL (Str.ofString (toString (0 : Int))) = srcs ([.ch 48]) ∧ Ok ([.ch 48]) ∧ (∀ bd y, Pc.rf bd y ∈ ([.ch 48]) → (bd, y) ∈ known) ∧ (Str.ofString (toString (0 : Int))).length ≤ 1000 ∧ (dsts ([.ch 48])).length ≤ 1000 := by
  have h : toString (0 : Int) = "0" := by decide +kernel
  rw [h]; exact pre0
local macro_rules | `(tactic| walk_at "call ref") => `(tactic| (k_here; (with_reducible show wpAny _ _ (PySem.call (Value.ref 138) [Value.str _ _]) _ _ _); k_dflt (refine' use2 (ent_my _ _ _ _) ?k1 ?k2 ?k3 ?k4 ?k5 ?kK ?kp ?kd ?ku ?_); (case k1 => k_asm); (case k2 => k_asm); (case k3 => k_asm); (case k4 => k_asm); (case k5 => k_asm); (case kK => first | exact rfl | assumption); (case kp => first | exact pre5i | exact pre0i | k_dflt (exact preT) | exact preN); (case kd => first | omega | ((try dsimp only [Around.deeper, ktrTop]); omega) | ktr_room); (case ku => first | omega | ((try dsimp only [Around.deeper, ktrTop]); omega) | ktr_units); intro t9 h9 tk9 F9 N9; (try dsimp only)))
local macro_rules | `(tactic| k_room) => `(tactic| first | omega | ((try dsimp only [Around.deeper, Around.under, ktrTop]); omega) | ktr_room)
theorem attr_5 {w : World} (M D dd : Addr) (t1 t2 t3 : Tok) (e : Bool) (al : Value) (tv : Tok) (rest : List (Addr × Obj)) :
    MyClaim 6 w 213 (mkL w M D dd t1 t2 t3 e al rest) True [.ref M, .int 5 tv] (fun t => .str (Str.ofString "5") t) := by
  dsimp only [MyClaim, CbRet, mkL, mkD]
  k_fill
  intro p loose mean mg mb dp un gd cn cs a ccd cl outer A₀ base h₀ L m s Q E hB hF hK hN hT hcs hp hd hu hret
  refine wpAny_call ?_
  k_dflt (refine' code_def ?k1 ?k2 ?k3 ?k4 ?k5 ?kA ?kF ?kK ?k6 ?k7 ?k8 ?k9 ?kB ?_ ?c2 ?c3 ?c4 ?c5; (case kA => exact rfl); (case kF => exact rfl); (case kK => assumption); (case k1 => k_asm); (case k2 => k_asm); (case k3 => k_asm); (case k4 => k_asm); (case k5 => k_asm); (case k6 => k_is); (case k7 => k_is); (case k8 => exact Nat.lt_of_le_of_lt (Nat.le_add_right _ _) hd); (case k9 => first | exact BindsTo.of_eq rfl | exact binds_K (by k_in) rfl (by k_is) rfl rfl rfl); (case c5 => decide); (case kB => exact locs rfl); (case c2 => exact rfl); (case c3 => exact rfl); (case c4 => exact rfl); k_whole; intro g' L' h' FG' F' N' B' X' T'; (try dsimp only); (try k_lift B'); (try k_fold))
  k_steps
  all_goals first
    | exact cb_retS (Q := Q) hret (by decide +kernel) (by k_asm) (by k_asm)
    | skip
theorem attr_0 {w : World} (M D dd : Addr) (t1 t2 t3 : Tok) (e : Bool) (al : Value) (tv : Tok) (rest : List (Addr × Obj)) :
    MyClaim 6 w 213 (mkL w M D dd t1 t2 t3 e al rest) True [.ref M, .int 0 tv] (fun t => .str (Str.ofString "0") t) := by
  dsimp only [MyClaim, CbRet, mkL, mkD]
  k_fill
  intro p loose mean mg mb dp un gd cn cs a ccd cl outer A₀ base h₀ L m s Q E hB hF hK hN hT hcs hp hd hu hret
  refine wpAny_call ?_
  k_dflt (refine' code_def ?k1 ?k2 ?k3 ?k4 ?k5 ?kA ?kF ?kK ?k6 ?k7 ?k8 ?k9 ?kB ?_ ?c2 ?c3 ?c4 ?c5; (case kA => exact rfl); (case kF => exact rfl); (case kK => assumption); (case k1 => k_asm); (case k2 => k_asm); (case k3 => k_asm); (case k4 => k_asm); (case k5 => k_asm); (case k6 => k_is); (case k7 => k_is); (case k8 => exact Nat.lt_of_le_of_lt (Nat.le_add_right _ _) hd); (case k9 => first | exact BindsTo.of_eq rfl | exact binds_K (by k_in) rfl (by k_is) rfl rfl rfl); (case c5 => decide); (case kB => exact locs rfl); (case c2 => exact rfl); (case c3 => exact rfl); (case c4 => exact rfl); k_whole; intro g' L' h' FG' F' N' B' X' T'; (try dsimp only); (try k_lift B'); (try k_fold))
  k_steps
  all_goals first
    | exact cb_retS (Q := Q) hret (by decide +kernel) (by k_asm) (by k_asm)
    | skip
theorem attr_T {w : World} (M D dd : Addr) (t1 t2 t3 : Tok) (e : Bool) (al : Value) (tv : Tok) (rest : List (Addr × Obj)) :
    MyClaim 6 w 213 (mkL w M D dd t1 t2 t3 e al rest) True [.ref M, .bool true] (fun t => .str (Str.ofString "True") t) := by
  dsimp only [MyClaim, CbRet, mkL, mkD]
  k_fill
  intro p loose mean mg mb dp un gd cn cs a ccd cl outer A₀ base h₀ L m s Q E hB hF hK hN hT hcs hp hd hu hret
  refine wpAny_call ?_
  k_dflt (refine' code_def ?k1 ?k2 ?k3 ?k4 ?k5 ?kA ?kF ?kK ?k6 ?k7 ?k8 ?k9 ?kB ?_ ?c2 ?c3 ?c4 ?c5; (case kA => exact rfl); (case kF => exact rfl); (case kK => assumption); (case k1 => k_asm); (case k2 => k_asm); (case k3 => k_asm); (case k4 => k_asm); (case k5 => k_asm); (case k6 => k_is); (case k7 => k_is); (case k8 => exact Nat.lt_of_le_of_lt (Nat.le_add_right _ _) hd); (case k9 => first | exact BindsTo.of_eq rfl | exact binds_K (by k_in) rfl (by k_is) rfl rfl rfl); (case c5 => decide); (case kB => exact locs rfl); (case c2 => exact rfl); (case c3 => exact rfl); (case c4 => exact rfl); k_whole; intro g' L' h' FG' F' N' B' X' T'; (try dsimp only); (try k_lift B'); (try k_fold))
  k_steps
  all_goals first
    | exact cb_retS (Q := Q) hret (by decide +kernel) (by k_asm) (by k_asm)
    | skip
theorem attr_N {w : World} (M D dd : Addr) (t1 t2 t3 : Tok) (e : Bool) (al : Value) (tv : Tok) (rest : List (Addr × Obj)) :
    MyClaim 6 w 213 (mkL w M D dd t1 t2 t3 e al rest) True [.ref M, .none] (fun t => .str (Str.ofString "None") t) := by
  dsimp only [MyClaim, CbRet, mkL, mkD]
  k_fill
  intro p loose mean mg mb dp un gd cn cs a ccd cl outer A₀ base h₀ L m s Q E hB hF hK hN hT hcs hp hd hu hret
  refine wpAny_call ?_
  k_dflt (refine' code_def ?k1 ?k2 ?k3 ?k4 ?k5 ?kA ?kF ?kK ?k6 ?k7 ?k8 ?k9 ?kB ?_ ?c2 ?c3 ?c4 ?c5; (case kA => exact rfl); (case kF => exact rfl); (case kK => assumption); (case k1 => k_asm); (case k2 => k_asm); (case k3 => k_asm); (case k4 => k_asm); (case k5 => k_asm); (case k6 => k_is); (case k7 => k_is); (case k8 => exact Nat.lt_of_le_of_lt (Nat.le_add_right _ _) hd); (case k9 => first | exact BindsTo.of_eq rfl | exact binds_K (by k_in) rfl (by k_is) rfl rfl rfl); (case c5 => decide); (case kB => exact locs rfl); (case c2 => exact rfl); (case c3 => exact rfl); (case c4 => exact rfl); k_whole; intro g' L' h' FG' F' N' B' X' T'; (try dsimp only); (try k_lift B'); (try k_fold))
  k_steps
  all_goals first
    | exact cb_retS (Q := Q) hret (by decide +kernel) (by k_asm) (by k_asm)
    | skip
end Mine
end

section
open PySem PySem.W PyProof.Rows PySem.Calls
set_option maxRecDepth 100000
set_option maxHeartbeats 0
namespace Mine
theorem walk_state15 : True := by
  w_top off
  k_with_none
  trivial
local macro_rules | `(tactic| walk_at "zz pad") => `(tactic| skip)
local macro_rules | `(tactic| walk_at "execs cons") => `(tactic| (k_here; with_reducible refine gen_tk ?_; intro tk9))
local macro_rules | `(tactic| walk_at "execs nil") => `(tactic| (k_here; with_reducible refine gen_tk ?_; intro tk9))
local macro_rules | `(tactic| k_room) => `(tactic| first | omega | ((try dsimp only [Around.deeper, Around.under, ktrTop]); omega) | ktr_room)
local macro_rules | `(tactic| walk_at "call ref") => `(tactic| (k_here; (with_reducible show wpAny _ _ (PySem.call (Value.ref 206) [Value.ref _, Value.str _ _]) _ _ _); k_dflt (refine' use2 (raw_ok _ _ _ _ _ _ _ _ _ _ _) ?k1 ?k2 ?k3 ?k4 ?k5 ?kK ?kp ?kd ?ku ?_); (case k1 => k_asm); (case k2 => k_asm); (case k3 => k_asm); (case k4 => k_asm); (case k5 => k_asm); (case kK => first | exact rfl | assumption); (case kp => first | assumption | omega); (case kd => first | omega | ((try dsimp only [Around.deeper, ktrTop]); omega) | ktr_room); (case ku => first | omega | ((try dsimp only [Around.deeper, ktrTop]); omega) | ktr_units); intro t9 h9 tk9 F9 N9; (try dsimp only)))
theorem names_len (x : Str) : (namesS x).length ≤ 6 * x.length := by
  rw [len_toList, len_toList]
  show (namesL x.cps.toList).toArray.toList.length ≤ _
  simp only [namesL]
  induction x.cps.toList with
  | nil => simp
  | cons c r ih =>
    have := nameC_len c
    simp only [List.flatMap_cons, List.length_append, List.length_cons] at ih ⊢
    omega
theorem block_ok {w : World} (M D dd : Addr) (t1 t2 t3 : Tok) (e : Bool) (al : Value) (y : Str) (ty : Tok) (rest : List (Addr × Obj)) :
    MyClaim 4 w 363 (mkL w M D dd t1 t2 t3 e al rest) (y.length ≤ 1000) [.ref M, .str y ty] (fun t => .str (if e then Str.ofString "<p>" ++ namesS (Txt.strip y) ++ Str.ofString "</p>\n" else y ++ Str.ofString "\n") t) := by
  dsimp only [MyClaim, CbRet, mkL, mkD]
  k_fill
  intro p loose mean mg mb dp un gd cn cs a ccd cl outer A₀ base h₀ L m s Q E hB hF hK hN hT hcs hp hd hu hret
  refine wpAny_call ?_
  k_dflt (refine' code_def ?k1 ?k2 ?k3 ?k4 ?k5 ?kA ?kF ?kK ?k6 ?k7 ?k8 ?k9 ?kB ?_ ?c2 ?c3 ?c4 ?c5; (case kA => exact rfl); (case kF => exact rfl); (case kK => assumption); (case k1 => k_asm); (case k2 => k_asm); (case k3 => k_asm); (case k4 => k_asm); (case k5 => k_asm); (case k6 => k_is); (case k7 => k_is); (case k8 => exact Nat.lt_of_le_of_lt (Nat.le_add_right _ _) hd); (case k9 => first | exact BindsTo.of_eq rfl | exact binds_K (by k_in) rfl (by k_is) rfl rfl rfl); (case c5 => decide); (case kB => exact locs rfl); (case c2 => exact rfl); (case c3 => exact rfl); (case c4 => exact rfl); k_whole; intro g' L' h' FG' F' N' B' X' T'; (try dsimp only); (try k_lift B'); (try k_fold))
  have hl1 := names_len (Txt.strip y)
  have hl3 : (Str.ofString "<p>").length = 3 := by decide +kernel
  have hl4 : (Str.ofString "</p>\n").length = 5 := by decide +kernel
  k_steps
  all_goals first
    | exact cb_retS (Q := Q) hret (by simp_all) (by k_asm) (by k_asm)
    | skip
end Mine
end

section
open PySem PySem.W PyProof.Rows PySem.Calls
open PySem.Builtin
set_option maxRecDepth 100000
namespace Mine
theorem enc_one {id : String} {self : Value} {c : Nat} (h : c < 128) : _codecs.encodeNarrow id _codecs.utf8Codec none self ⟨#[c]⟩ = pure #[c.toUInt8] := by
  have h1 : Str.isSurrogate c = false := by unfold Str.isSurrogate; simp; omega
  have h2 : Str.utf8Of c = [c.toUInt8] := by unfold Str.utf8Of; rw [if_pos h]
  unfold _codecs.encodeNarrow _codecs.utf8Codec
  simp [Str.length, h1, h2]
theorem enc_entry {c : Nat} {t u : Tok} (h : c < 128) : «str.encode» ⟨[.str ⟨#[c]⟩ t, .str (Str.ofString "utf-8") u], []⟩ = (mkBytes #[c.toUInt8] >>= fun v => ret v) := by
  have e : «str.encode» ⟨[.str ⟨#[c]⟩ t, .str (Str.ofString "utf-8") u], []⟩ = ((_codecs.encodeNarrow "str.encode" _codecs.utf8Codec none (.str ⟨#[c]⟩ t) ⟨#[c]⟩ >>= fun b => mkBytes b) >>= fun v => ret v) := by kernel_rfl
  rw [e, enc_one h]; rfl
theorem utf8_lo {b : Array UInt8} {p : Nat} (h : (b.getD p 0).toNat < 128) : _codecs.utf8Decoder.find true b p = .char (b.getD p 0).toNat (p + 1) := by
  unfold _codecs.utf8Decoder Bytes.utf8At
  dsimp only
  rw [if_pos h]
theorem dec_loop {b : Array UInt8} {f : Nat → Nat × Array Nat × _codecs.Faults → Sem (ForInStep (Nat × Array Nat × _codecs.Faults))}
    (hf : ∀ x p out st, p < b.size → out.size = p → f x (p, out, st) = pure (.yield (p + 1, out ++ #[(b.getD p 0).toNat], st))) :
    ∀ k i p out st, p + k = b.size → out.size = p → forIn (List.range' i k) (p, out, st) f = pure (b.size, out ++ ((b.toList.drop p).map fun c => c.toNat).toArray, st)
  | 0, i, p, out, st, h1, h2 => by
    have e : b.toList.drop p = [] := List.drop_eq_nil_of_le (by simp; omega)
    rw [e]
    have : p = b.size := by omega
    subst this
    simp
  | k + 1, i, p, out, st, h1, h2 => by
    have hp : p < b.size := by omega
    have e : b.toList.drop p = b.getD p 0 :: b.toList.drop (p + 1) := by
      rw [List.drop_eq_getElem_cons (by simpa using hp)]
      simp [Array.getD, hp]
    rw [List.range'_succ, List.forIn_cons, hf _ _ _ _ hp h2]
    show (forIn (List.range' (i + 1) k) (p + 1, out ++ #[(b.getD p 0).toNat], st) f) = _
    rw [dec_loop hf k (i + 1) (p + 1) _ st (by omega) (by simp; omega), e]
    simp
theorem dec_all {id : String} {b : Array UInt8} (hb : ∀ p, (b.getD p 0).toNat < 128) (hz : b.size ≤ 16777216) : _codecs.runDecoder id _codecs.utf8Decoder (some (Str.ofString "replace")) true b 0 [] = pure ((b.toList.map fun c => c.toNat).toArray, b.size) := by
  unfold _codecs.runDecoder
  simp only [utf8_lo (hb _), Std.Legacy.Range.forIn_eq_forIn_range', Std.Legacy.Range.size, Nat.sub_zero, Nat.add_sub_cancel, Nat.div_one]
  rw [dec_loop (b := b) ?hf b.size 0 0 #[] _ (by omega) rfl]
  case hf =>
    intro x p out st hp ho
    have h1 : ¬ (out.size > sizeLine) := by rw [sizeLine_eq]; omega
    have h2 : ¬ (p ≥ b.size) := by omega
    rw [if_neg h1]
    simp [h2, _codecs.Found.char]
  simp
theorem dec_road {id : String} {b : Array UInt8} (hb : ∀ p, (b.getD p 0).toNat < 128) (hz : b.size ≤ 16777216) : _codecs.decodeRoad id b (Str.ofString "utf-8") (some (Str.ofString "replace")) [] = mkStr ⟨(b.toList.map fun c => c.toNat).toArray⟩ := by
  have e : _codecs.decodeRoad id b (Str.ofString "utf-8") (some (Str.ofString "replace")) [] = (_codecs.runDecoder id _codecs.utf8Decoder (some (Str.ofString "replace")) true b 0 [] >>= fun r => mkStr ⟨r.1⟩) := by kernel_rfl
  rw [e, dec_all hb hz]; rfl
theorem dec_text {b : Array UInt8} {t t1 t2 t3 : Tok} {d : Str} (hb : ∀ p, (b.getD p 0).toNat < 128) (hz : b.size ≤ 16777216) :
    Meets («_codecs.decode.text» ⟨[.bytes b t, .str (Str.ofString "utf-8") t1, .str (Str.ofString "replace") t3, .str d t2], []⟩) (fun _ R s => R (.ok (.ret (.str ⟨(b.toList.map fun c => c.toNat).toArray⟩ s.toks))) { s with toks := s.toks + 1 }) := by
  refine .of_wp fun prog w A R s h => ?_
  show wpAny _ _ (Bytes.bytesLike _ (.bytes b t) >>= fun r => _) _ _ s
  refine wpAny_bind (wpAny_of_eq KBd.like_eq ?_)
  refine wpAny_bind (wpAny_of_eq KBd.held_eq ?_)
  show wpAny _ _ (_codecs.decodeRoad _ b (Str.ofString "utf-8") (some (Str.ofString "replace")) [] >>= fun v => _) _ _ s
  rw [dec_road hb hz]
  refine wpAny_bind ?_
  exact wpAny_mkStr (wpAny_pure ⟨_, rfl, h⟩) (by rw [sizeLine_eq]; show (b.toList.map fun c => c.toNat).toArray.size ≤ _; simpa using hz)
theorem dec_entry {c : UInt8} {cs : List UInt8} {t u v : Tok} : «bytes.decode» ⟨[.bytes (c :: cs).toArray t, .str (Str.ofString "utf-8") u, .str (Str.ofString "replace") v], []⟩ = (mkStr (Str.ofString "utf-8") >>= fun _ => mkStr (Str.ofString "utf-8") >>= fun e => mkStr (Str.ofString "replace") >>= fun r => mkStr (Str.ofString "bytes.decode") >>= fun d =>
    PySem.call (.builtin "_codecs.decode.text") [.bytes (c :: cs).toArray t, e, r, d] >>= fun v => ret v) := by kernel_rfl
theorem dec_entry0 {t u v : Tok} : «bytes.decode» ⟨[.bytes #[] t, .str (Str.ofString "utf-8") u, .str (Str.ofString "replace") v], []⟩ = (rule "bytes.decode.empty" >>= fun _ => retStr Str.empty) := by kernel_rfl
theorem dec_meets {b : Array UInt8} {t u v : Tok} (hb : ∀ p, (b.getD p 0).toNat < 128) (hz : b.size ≤ 16777216) :
    Meets («bytes.decode» ⟨[.bytes b t, .str (Str.ofString "utf-8") u, .str (Str.ofString "replace") v], []⟩) (fun _ R s => ∀ t' k, R (.ok (.ret (.str ⟨(b.toList.map fun c => c.toNat).toArray⟩ t'))) { s with toks := k }) := by
  refine .of_wp fun prog w A R s h => ?_
  obtain ⟨l⟩ := b
  cases l with
  | nil =>
    rw [dec_entry0]
    refine wpAny_bind (wpAny_rule ?_)
    exact wpAny_bind (wpAny_mkStr (wpAny_pure ⟨_, rfl, h _ _⟩) (by decide))
  | cons c cs =>
    rw [dec_entry]
    refine wpAny_bind (wpAny_mkStr ?_ (by decide))
    refine wpAny_bind (wpAny_mkStr ?_ (by decide))
    refine wpAny_bind (wpAny_mkStr ?_ (by decide))
    refine wpAny_bind (wpAny_mkStr ?_ (by decide))
    exact wpAny_bind (call_function_meets KBd.kind_text KBd.plain_text KBd.entry_text (KBd.args_text _ _ _ _) (dec_text hb hz) (wpAny_pure ⟨_, rfl, h _ _⟩))
section
variable {prog : Program} {w : World} {A : Around} {E : Value → Shared → Prop} {s : Shared} {h₀ : Heap} {L D : Addr} {m : Str → Option Value} {news news' : List (Addr × Obj)}
theorem call_decode {b : Array UInt8} {t u v : Tok} {Q : Value → Shared → Prop} (hb : ∀ p, (b.getD p 0).toNat < 128) (hz : b.size ≤ 16777216) (h : ∀ t' k, Q (.str ⟨(b.toList.map fun c => c.toNat).toArray⟩ t') { s with toks := k }) :
    wpAny (model prog w) A (PySem.call (.builtin "bytes.decode") [.bytes b t, .str (Str.ofString "utf-8") u, .str (Str.ofString "replace") v]) Q E s :=
  call_meets FB.slot_bytes_decode (typeIs_bytes _ _ _) FB.entry_bytes_decode (Fx.args_bytes_decode _ _ _) (dec_meets hb hz) h
theorem call_encode {c : Nat} {y : Str} {t u : Tok} {Q : Value → Shared → Prop} (hy : y = ⟨#[c]⟩) (hc : c < 128) (h : ∀ t' k, Q (.bytes #[c.toUInt8] t') { s with toks := k }) :
    wpAny (model prog w) A (PySem.call (.builtin "str.encode") [.str y t, .str (Str.ofString "utf-8") u]) Q E s := by
  subst hy
  refine call_meets Fx.slot_str_encode (typeIs_str _ _ _) Fx.entry_str_encode (Fx.args_str_encode _ _) (S := fun _ R s => ∀ t' k, R (.ok (.ret (.bytes #[c.toUInt8] t'))) { s with toks := k }) (.of_wp fun prog w A R s h => ?_) h
  rw [enc_entry hc]
  exact wpAny_bind (wpAny_mkBytes (wpAny_pure ⟨_, rfl, h _ _⟩) (by rw [sizeLine_eq]; exact Nat.le_of_ble_eq_true rfl))
theorem get_encode {M : Model} {x : Str} {t : Tok} {pl : Sem Bool} {Q : Value × List Value → Shared → Prop} (h : Q (.builtin "str.encode", [.str x t]) s) : wpAny M A (getMethod (.str x t) (Str.ofString "encode") pl) Q E s :=
  getMethod_builtin (typeIs_str _ _ _) PySem.F.plainAttrs_str Fx.slot_str_encode Fx.type_str_encode (fun _ e => nomatch e) h
end
end Mine
end

section
open PySem PySem.W PyProof.Rows PySem.Calls
open PySem.Builtin
set_option maxRecDepth 100000
namespace Mine
section
variable {prog : Program} {w : World} {A : Around} {E : Value → Shared → Prop} {s : Shared} {h₀ h h' : Heap} {L D I : Addr} {m : Str → Option Value} {news : List (Addr × Obj)}
theorem Fr.ext (F : Fr h₀ L h m) (he : ∀ b o, b ≠ I → h.get? b = some o → h'.get? b = some o) (hL : I ≠ L) (hn : h₀.get? I = none) : Fr h₀ L h' m := by
  obtain ⟨oL, a1, a2, hoL, a3⟩ := F.ns
  refine ⟨⟨oL, a1, a2, he L _ (Ne.symm hL) hoL, a3⟩, fun b x e => he b _ ?_ (F.keep b x e), F.above⟩
  rintro rfl
  rw [hn] at e
  cases e
theorem bytes_len_tl : typeLookup (.type "bytes") "__len__" = pure (some (.builtin "bytes.__len__")) := by rw [typeLookup_type, builtinLookup_eq_fast]; kernel_rfl
theorem extend_byte {c : UInt8} {t : Tok} {its : Array Value} {n : Nat} {Q : Value → Shared → Prop} (hh : A.handled = none) (F : Fr h₀ L s.heap m) (N : News h₀ L s.heap ((D, listOf its n) :: news)) (hl : ∀ p ∈ news, p.1 < D) (hz : its.size ≤ 100000)
    (h : ∀ h' tk t', Fr h₀ L h' m → News h₀ L h' ((D, listOf (its.push (.int (c.toNat : Int) t')) (n + 1)) :: news) → Q .none { s with heap := h', toks := tk }) :
    wpAny (model prog w) A (PySem.call (.builtin "list.extend") [.ref D, .bytes #[c] t]) Q E s := by
  have z := N _ (.head _)
  refine wpAny_call (codeAny_call_builtin PySem.F.slot_list_extend.plain PySem.F.entry_list_extend (PySem.F.slot_list_extend.check _ _ _ _ _ _ _ _ ⟨_, z.1, rfl⟩ (PySem.F.args_list_extend_2 _ _) ?_))
  show wpAny _ _ (Builtin.List.listExtendWith (.ref D) (.bytes #[c] t) .none) _ _ s
  unfold Builtin.List.listExtendWith
  refine wpAny_bind (wpAny_typeOf (T := "bytes") (v := .bytes #[c] t) rfl ?_)
  have h1 : Builtin.List.listSameRef (.ref D) (.bytes #[c] t) = false := rfl
  have h2 : (Value.type "bytes" == Value.type "list") = false := by decide
  have h3 : (Value.type "bytes" == Value.type "tuple") = false := by decide
  simp only [h1, h2, h3, Bool.or_false, Bool.false_eq_true, if_false]
  refine wpAny_bind (KBw.pyIter_bytes ?_)
  refine wpAny_bind (wpAny_holding ?_)
  unfold Builtin.List.listLengthHint
  refine wpAny_bind (wpAny_specialOf (T := "bytes") (v := .bytes #[c] t) rfl bytes_len_tl ?_)
  wp_delta
  refine wpAny_bind (wpAny_isInstance (T := "bytes") (v := .bytes #[c] t) (b := true) rfl (by rw [isSubtype_type]; kernel_rfl) ?_)
  show wpAny _ _ (typeOf (Value.bytes #[c] t) >>= _) _ _ _
  refine wpAny_bind (wpAny_typeOf (T := "bytes") (v := .bytes #[c] t) rfl ?_)
  refine wpAny_pure ?_
  rw [if_neg (by decide)]
  have hI : s.heap.objs.size ≠ D := Nat.ne_of_gt (Heap.lt_size z.1)
  have F1 := F.push { cls := .type "bytes_iterator", data := .fields #[.bytes #[c] t, .int 0 0] }
  have N1 := N.push F { cls := .type "bytes_iterator", data := .fields #[.bytes #[c] t, .int 0 0] } rfl
  have zI := N1 _ (.head _)
  have lt : ∀ p ∈ (D, listOf its n) :: news, p.1 ≠ s.heap.objs.size := fun p hp => Nat.ne_of_lt (Heap.lt_size (N p hp).1)
  refine wpAny_pure ⟨plainId_quiet PySem.F.plain_extend_loop _, ?_⟩
  refine codeAny_builtin PySem.F.entry_extend_loop ?_
  rw [Around.under_plainId PySem.F.plain_extend_loop _]
  show wpAny _ A.in1 (pyNext (.ref s.heap.objs.size) >>= _) _ _ _
  refine wpAny_bind (KBw.next_item (b := #[c]) (t := t) (i := 0) (c := c) ⟨_, zI.1, rfl, rfl⟩ rfl fun h' hit' hs' => ?_)
  have F2 := F1.change hs' zI.2.1 zI.2.2
  have N2 : News h₀ L h' ((D, listOf its n) :: news) := fun p hp => ⟨(hs'.2 p.1 (lt p hp)).trans (N1 p (.tail _ hp)).1, (N p hp).2⟩
  show wpAny _ A.in1 (updateSeq D (·.push _) >>= _) _ _ _
  refine wpAny_bind (wpAny_updateSeq (N2 _ (.head _)).1 rfl ?_ (by rw [sizeLine_eq]; omega) (by rw [Array.size_push, sizeLine_eq]; omega))
  have e : Obj.mapSeq (fun a => a.push (.int (c.toNat : Int) s.toks)) (listOf its n) = listOf (its.push (.int (c.toNat : Int) s.toks)) (n + 1) := by
    have hne : ¬ (((its.push (.int (c.toNat : Int) s.toks)).size == its.size) = true) := by simp
    show listOf (its.push (.int (c.toNat : Int) s.toks)) (if ((its.push (.int (c.toNat : Int) s.toks)).size == its.size) = true then n else n + 1) = _
    rw [if_neg hne]
  obtain ⟨F3, N3⟩ := set_head F2 N2 (fun p hp => Nat.ne_of_lt (hl p hp)) e rfl
  have hit3 : KBw.IsBytesIter (h'.update D (Obj.mapSeq (fun a => a.push (.int (c.toNat : Int) s.toks)))) s.heap.objs.size #[c] t 1 := by
    obtain ⟨o, ho, r⟩ := hit'
    exact ⟨o, (Heap.get?_update_other _ _ (Ne.symm hI)).trans ho, r⟩
  refine wpAny_pure ⟨plainId_quiet PySem.F.plain_extend_loop _, ?_⟩
  refine codeAny_builtin PySem.F.entry_extend_loop ?_
  rw [Around.under_plainId PySem.F.plain_extend_loop _]
  show wpAny _ A.in1 (pyNext (.ref s.heap.objs.size) >>= _) _ _ _
  refine wpAny_bind (KBw.next_end (b := #[c]) (t := t) (i := 1) hh hit3 rfl fun h'' he => ?_)
  refine wpAny_pure ?_
  refine h h'' _ _ (Fr.ext F3 he zI.2.1 zI.2.2) fun p hp => ⟨he p.1 _ ?_ (N3 p hp).1, (N3 p hp).2⟩
  rcases List.mem_cons.mp hp with rfl | hp
  · exact Ne.symm hI
  · exact lt p (.tail _ hp)
end
end Mine
end

section
open PySem PySem.W PyProof.Rows PySem.Calls
set_option maxRecDepth 100000
set_option maxHeartbeats 0
namespace Mine
theorem walk_state16 : True := by
  w_top off
  k_with_none
  trivial
local macro_rules | `(tactic| walk_at "execs cons") => `(tactic| (k_here; with_reducible refine gen_tk ?_; intro tk9))
local macro_rules | `(tactic| walk_at "execs nil") => `(tactic| (k_here; with_reducible refine gen_tk ?_; intro tk9))
def Stop (P : Prop) : Prop := P
theorem stop {P : Prop} (h : Stop P) : P := h
theorem nameA {l : Addr} {o : Obj} {rest : List (Addr × Obj)} {h₀ h : Heap} {L : Addr} {P : Prop} (_N : News h₀ L h ((l, o) :: rest)) (k : ∀ l', l' = l → P) : P := k l rfl
section
variable {prog : Program} {w : World} {A : Around} {E : Value → Shared → Prop} {s : Shared} {h₀ : Heap} {L D : Addr} {m : Str → Option Value} {news : List (Addr × Obj)} {x : Str} {k : Int} {ns : List Int} {vs : List Value}
theorem uq_encode {t u : Tok} {Q : Value → Shared → Prop} (h0 : 0 ≤ k) (hk : k < (x.length : Int)) (ha : Asc x) (h : ∀ t' tk, Q (.bytes #[(chAt x k).toUInt8] t') { s with toks := tk }) :
    wpAny (model prog w) A (PySem.call (.builtin "str.encode") [.str (Txt.item x k) t, .str (Str.ofString "utf-8") u]) Q E s :=
  call_encode (item_eq x h0) (asc_at ha h0 hk) h
theorem uq_extend {c : UInt8} {t : Tok} {n : Nat} {Q : Value → Shared → Prop} (hh : A.handled = none) (F : Fr h₀ L s.heap m) (N : News h₀ L s.heap ((D, listOf vs.toArray n) :: news)) (hl : ∀ p ∈ news, p.1 < D) (hi : IntsAre vs ns) (h8 : In8 ns) (hz : (ns.length : Int) ≤ k) (hk : k < (x.length : Int)) (hx : x.length ≤ 1000)
    (h : ∀ h' tk t', Fr h₀ L h' m → News h₀ L h' ((D, listOf (vs ++ [Value.int (c.toNat : Int) t']).toArray (n + 1)) :: news) → IntsAre (vs ++ [Value.int (c.toNat : Int) t']) (ns ++ [((c.toNat : Nat) : Int)]) → In8 (ns ++ [((c.toNat : Nat) : Int)]) → Q .none { s with heap := h', toks := tk }) :
    wpAny (model prog w) A (PySem.call (.builtin "list.extend") [.ref D, .bytes #[c] t]) Q E s := by
  have hv := hi.length
  refine extend_byte hh F N hl (by rw [List.size_toArray]; omega) fun h' tk t' F' N' => ?_
  rw [List.push_toArray] at N'
  exact h h' tk t' F' N' (hi.append (.cons _ _ .nil)) (in8_byte h8)
theorem uq_int {t u : Tok} {Q : Value → Shared → Prop} (h0 : 0 ≤ k) (hk : k < (x.length : Int)) (h2 : ((pairOf x k).length : Int) = 2)
    (h3 : (Builtin.Str.occurrences HX (Txt.item (pairOf x k) 0) 0 HX.length 1).isEmpty = false) (h4 : (Builtin.Str.occurrences HX (Txt.item (pairOf x k) 1) 0 HX.length 1).isEmpty = false) (h8 : In8 ns)
    (h : In8 (ns ++ [((hv (chAt x (k + 1)) * 16 + hv (chAt x (k + 2)) : Nat) : Int)]) → ∀ t' tk, Q (.int ((hv (chAt x (k + 1)) * 16 + hv (chAt x (k + 2)) : Nat) : Int) t') { s with toks := tk }) : wpAny (model prog w) A (PySem.call (.type "int") [.str (Txt.slice x (some (k + 1)) (some (k + 3))) t, .int 16 u]) Q E s := by
  obtain ⟨e, e1, e2⟩ := pair_hex h0 hk h2 h3 h4
  exact call_hex e e1 e2 (h (in8_hex e1 e2 h8) _ _)
theorem uq_decode {t u v : Tok} {Q : Value → Shared → Prop} (ha : Asc x) (hk : ¬ k < (x.length : Int)) (hp : UnP x k ns) (hi : In8 ns) (hz : (ns.length : Int) ≤ x.length) (hx : x.length ≤ 1000) (h : ∀ t' k, Q (.str (onceS x) t') { s with toks := k }) :
    wpAny (model prog w) A (PySem.call (.builtin "bytes.decode") [.bytes (byteArr ns) t, .str (Str.ofString "utf-8") u, .str (Str.ofString "replace") v]) Q E s := by
  obtain ⟨e1, e2⟩ := un_bytes ha hk hp hi
  refine call_decode e1 (by unfold byteArr; simp; omega) ?_
  change (⟨((byteArr ns).toList.map fun c => c.toNat).toArray⟩ : Str) = onceS x at e2
  rw [e2]; exact h
end
local macro_rules | `(tactic| walk_at "exec While Compare cons nil") => `(tactic| refine stop ?_)
local macro_rules | `(tactic| walk_at "getMethod str") => `(tactic| (k_here; with_reducible refine get_encode ?_))
local macro_rules | `(tactic| walk_at "call builtin:str.encode") => `(tactic| (k_here; with_reducible refine uq_encode (by assumption) (by assumption) (by assumption) ?_; intro _ _))
local macro_rules | `(tactic| walk_at "call builtin:list.extend") => `(tactic| (k_here; refine' uq_extend ?k0 ?k1 ?k2 ?k3 ?k4 ?k5 ?k6 ?k7 ?k8 ?_; (case k0 => with_unfolding_all rfl); (case k1 => k_asm); (case k2 => k_asm); (case k3 => assumption); (case k4 => assumption); (case k5 => assumption); (case k6 => assumption); (case k7 => assumption); (case k8 => assumption); intro _ _ _ _ _ _ _))
local macro_rules | `(tactic| walk_at "call type:int") => `(tactic| (k_here; with_reducible refine uq_int (by assumption) (by assumption) (by assumption) (by assumption) (by assumption) (by assumption) ?_; intro _ _ _))
local macro_rules | `(tactic| walk_at "call builtin:bytes.decode") => `(tactic| (k_here; with_reducible refine uq_decode (by assumption) (by assumption) (by assumption) (by assumption) (by omega) (by assumption) ?_; intro _ _))
theorem unquote_ok {w : World} {p : Program} {loose : List Str} {mean : ExcName → Option Value} {mg mb : Str → Option Value} (x : Str) (tx : Tok) (news : List (Addr × Obj)) :
    CbClaim PySem.Challenge.rw_fj5014_01.row.prog w (Mine.hd.heap_39 w.params) p loose mean mg mb 53 news [] (x.length ≤ 1000 ∧ Asc x) [.str x tx] (fun t => .str (onceS x) t) := by
  k_fill
  dsimp only [CbClaim, CbLists, CbRet]
  intro dp un gd cn cs a ccd cl outer A₀ base h₀ L m s Q E hB hF hK hN hT hcs hp hd hu hret
  obtain ⟨hp1, hp2⟩ := hp
  refine wpAny_call ?_
  k_dflt cell_enter
  k_steps
  unfold Stop
  rename Fr _ _ _ _ => lF
  rename News _ _ _ _ => lN
  refine nameA lN ?_; intro l e; subst e
  refine ksw_while (σ := Int × Tok × List Value × List Int × Nat) (fun c => (l, W.listOf c.2.2.1.toArray c.2.2.2.2) :: news) (fun c => [(Str.ofString "place", .int c.1 c.2.1)]) (fun c => IntsAre c.2.2.1 c.2.2.2.1 ∧ In8 c.2.2.2.1) [Str.ofString "pair"]
    (fun c => 0 ≤ c.1 ∧ c.1 ≤ (x.length : Int) ∧ (c.2.2.2.1.length : Int) ≤ c.1 ∧ UnP x c.1 c.2.2.2.1) (fun c => x.length - c.1.toNat) ⟨0, ?tk, [], [], 0⟩ lF lN ?hf ?hk ?hp ?turn
  case hk =>
    intro p hp; cases hp with
    | head => rfl
    | tail _ h => cases h
  case hf => exact ⟨IntsAre.nil, in8_nil⟩
  case hp => exact un_start
  · rintro ⟨k, tk, vs, ns, nn⟩ kU kH kTk ⟨kFa, k8⟩ ⟨kI1, kI2, kI3, kI4⟩ kFr kNews
    dsimp only at *
    dsimp only [kstB] at kFr
    clear lF lN
    k_steps
    all_goals first
      | ((rename News _ _ _ _ => nE'); (try simp only [List.push_toArray] at nE'); (refine ksw_end ⟨_, _, _, _, _⟩ (by assumption) nE' (by kst_in) ⟨by first | assumption | exact IntsAre.append kFa (.cons _ _ .nil), by assumption⟩ (by kst_all) (by ksw_same) ?pp (by dsimp only; omega)); (case pp => first
        | with_reducible exact un_A (by assumption) (by assumption) (by assumption) (by assumption) (by assumption) (by assumption)
        | with_reducible exact un_B (by assumption) (by assumption) (by assumption) (by assumption) (by assumption) (by assumption) (by assumption)
        | with_reducible exact un_C (by assumption) (by assumption) (by assumption) (by assumption) (by assumption) (by assumption) (by assumption) (by assumption)
        | with_reducible exact un_D (by assumption) (by assumption) (by assumption) (by assumption) (by assumption) (by assumption) (by assumption) (by assumption)
        | with_reducible exact un_E (by assumption) (by assumption) (by assumption) (by assumption) (by assumption) (by assumption) (by assumption) (by assumption)))
      | exact cb_retS (Q := Q) hret rfl (by k_asm) (cb_drop (by assumption) (fun p hp => .tail _ hp))
      | skip
end Mine
end

section
open PySem PySem.W PyProof.Rows PySem.Calls
set_option maxRecDepth 100000
set_option maxHeartbeats 0
namespace Mine
theorem walk_state17 : True := by
  w_top off
  k_with_none
  trivial
local macro_rules | `(tactic| walk_at "execs cons") => `(tactic| (k_here; with_reducible refine gen_tk ?_; intro tk9))
local macro_rules | `(tactic| walk_at "execs nil") => `(tactic| (k_here; with_reducible refine gen_tk ?_; intro tk9))
theorem unquote_my {w : World} (x : Str) (tx : Tok) (news : List (Addr × Obj)) : MyClaim 1 w 53 news (x.length ≤ 1000 ∧ Asc x) [.str x tx] (fun t => .str (onceS x) t) := fun _ _ _ _ _ => unquote_ok x tx news
theorem unr_tail {h₀ : Heap} {L I : Addr} {it : Obj} {rest : (Str → Option Value) → List (Addr × Obj) → Prop} {s₁ : Shared} {h' : Heap} {tk : Nat} {m' : Str → Option Value} {news : List (Addr × Obj)} (F : Fr h₀ L h' m') (N : News h₀ L h' ((I, it) :: news))
    (hl : ∀ p ∈ news, p.1 < I) (r : rest m' news) : UnrEnd h₀ L s₁ I it rest { s₁ with heap := h', toks := tk } := UnrEnd.intro F N news (fun _ hp => hp) (fun p hp => Nat.ne_of_lt (hl p hp)) r
local macro_rules | `(tactic| walk_at "UnrEnd") => `(tactic| (k_here; refine' unr_tail ?k1 ?k2 ?k3 ?_; (case k1 => k_asm); (case k2 => k_asm); (case k3 => assumption)))
local macro_rules | `(tactic| walk_at "call ref") => `(tactic| (k_here; (with_reducible show wpAny _ _ (PySem.call (Value.ref 53) [Value.str _ _]) _ _ _); k_dflt (refine' use2 (unquote_my _ _ _) ?k1 ?k2 ?k3 ?k4 ?k5 ?kK ?kp ?kd ?ku ?_); (case k1 => k_asm); (case k2 => k_asm); (case k3 => k_asm); (case k4 => k_asm); (case k5 => k_asm); (case kK => first | exact rfl | assumption); (case kp => first | exact a3_1 (by assumption) | exact a3_2 (by assumption) | exact a3_3 (by assumption)); (case kd => first | omega | ((try dsimp only [Around.deeper, ktrTop]); omega) | ktr_room); (case ku => first | omega | ((try dsimp only [Around.deeper, ktrTop]); omega) | ktr_units); intro t9 h9 tk9 F9 N9; (try dsimp only)))
theorem unqurl_ok {w : World} (x : Str) (tx : Tok) (news : List (Addr × Obj)) :
    MyClaim 2 w 389 news (Asc3 x) [.str x tx] (fun t => .str (openS x) t) := by
  dsimp only [MyClaim, CbRet]
  k_fill
  intro p loose mean mg mb dp un gd cn cs a ccd cl outer A₀ base h₀ L m s Q E hB hF hK hN hT hcs hp hd hu hret
  refine wpAny_call ?_
  k_dflt (refine' code_def ?k1 ?k2 ?k3 ?k4 ?k5 ?kA ?kF ?kK ?k6 ?k7 ?k8 ?k9 ?kB ?_ ?c2 ?c3 ?c4 ?c5; (case kA => exact rfl); (case kF => exact rfl); (case kK => assumption); (case k1 => k_asm); (case k2 => k_asm); (case k3 => k_asm); (case k4 => k_asm); (case k5 => k_asm); (case k6 => k_is); (case k7 => k_is); (case k8 => exact Nat.lt_of_le_of_lt (Nat.le_add_right _ _) hd); (case k9 => first | exact BindsTo.of_eq rfl | exact binds_K (by k_in) rfl (by k_is) rfl rfl rfl); (case c5 => decide); (case kB => exact locs rfl); (case c2 => exact rfl); (case c3 => exact rfl); (case c4 => exact rfl); k_whole; intro g' L' h' FG' F' N' B' X' T'; (try dsimp only); (try k_lift B'); (try k_fold))
  k_steps
  all_goals first
    | exact cb_retS (Q := Q) hret rfl (by k_asm) (by first | k_asm | exact (cb_drop (by assumption) (fun p hp => .tail _ hp)))
    | exact cb_retS (Q := Q) hret (op_1 (by assumption)) (by k_asm) (by first | k_asm | exact (cb_drop (by assumption) (fun p hp => .tail _ hp)))
    | exact cb_retS (Q := Q) hret (op_2 (by assumption)) (by k_asm) (by first | k_asm | exact (cb_drop (by assumption) (fun p hp => .tail _ hp)))
    | exact cb_retS (Q := Q) hret (op_3 (by assumption)) (by k_asm) (by first | k_asm | exact (cb_drop (by assumption) (fun p hp => .tail _ hp)))
    | skip
end Mine
end

section
open PySem PySem.W PyProof.Rows PySem.Calls
set_option maxRecDepth 100000
namespace Mine
theorem srcT_K {K : Frag} {h₀ : Heap} {news : List (Addr × Obj)} {l : Addr} {od : Option Addr} {vs : List Value} {n : Nat} {sl : Array (Option Value)} (X : K.In h₀) (h : K.lookup l = some ⟨.type "tuple", od, .seq vs.toArray n, sl⟩) : SrcT h₀ news l vs :=
  .inl ⟨_, X _ _ h, rfl, n, rfl⟩
theorem useT {r : Nat} {w : World} {p : Program} {loose : List Str} {mean : ExcName → Option Value} {mg mb : Str → Option Value} {f : Addr} {news : List (Addr × Obj)} {l k : Addr} {lvs kvs : List Value} {pre : Prop} {vs : List Value} {R : Tok → Value} (C : MyClaimT r w f news l k lvs kvs pre vs R)
    {dp un : Nat} {gd : Option (List Code)} {cn : Str} {cs : Scope} {a : Addr} {ccd : Value} {cl : List (Str × Addr)} {outer : List Env} {A₀ : Around} {base h₀ : Heap} {L : Addr} {m : Str → Option Value} {s : Shared} {Q E : Value → Shared → Prop}
    (hB : Below A₀ base outer h₀) (hF : Fr h₀ L s.heap m) (hK : (Mine.hd.heap_39 w.params).In h₀) (hN : News h₀ L s.heap news) (hT : Top p loose mean mg mb h₀) (hcs : cs.kind = .function) (h1 : SrcT h₀ news l lvs) (h2 : SrcT h₀ news k kvs) (hp : pre) (hd : dp + r < recursionLimit) (hu : un + 8 * r < cLine) (hr : CbRet h₀ L m news s Q R) :
    wpAny (model PySem.Challenge.rw_fj5014_01.row.prog w) (ktrTop dp un gd cn cs L a ccd cl outer) (PySem.call (.ref f) vs) Q E s := C p loose mean mg mb dp un gd cn cs a ccd cl outer A₀ base h₀ L m s Q E hB hF hK hN hT hcs ⟨h1, h2⟩ hp hd hu hr
end Mine
end

section
open PySem PySem.W PyProof.Rows PySem.Calls
set_option maxRecDepth 100000
set_option maxHeartbeats 0
namespace Mine
theorem walk_state18 : True := by
  w_top off
  k_with_none
  trivial
local macro_rules | `(tactic| walk_at "zz pad") => `(tactic| skip)
local macro_rules | `(tactic| walk_at "execs cons") => `(tactic| (k_here; with_reducible refine gen_tk ?_; intro tk9))
local macro_rules | `(tactic| walk_at "execs nil") => `(tactic| (k_here; with_reducible refine gen_tk ?_; intro tk9))
local macro_rules | `(tactic| walk_at "call ref") => `(tactic| (k_here; (with_reducible show wpAny _ _ (PySem.call (Value.ref 389) [Value.str _ _]) _ _ _); k_dflt (refine' use2 (unqurl_ok _ _ _) ?k1 ?k2 ?k3 ?k4 ?k5 ?kK ?kp ?kd ?ku ?_); (case k1 => k_asm); (case k2 => k_asm); (case k3 => k_asm); (case k4 => k_asm); (case k5 => k_asm); (case kK => first | exact rfl | assumption); (case kp => assumption); (case kd => first | omega | ((try dsimp only [Around.deeper, ktrTop]); omega) | ktr_room); (case ku => first | omega | ((try dsimp only [Around.deeper, ktrTop]); omega) | ktr_units); intro t9 h9 tk9 F9 N9; (try dsimp only)))
abbrev safesS : List Str := [Str.ofString "http:", Str.ofString "https:", Str.ofString "mailto:", Str.ofString "tel:", Str.ofString "ftp:", Str.ofString "ftps:", Str.ofString "irc:", Str.ofString "ircs:"]
abbrev goodsS : List Str := [Str.ofString "data:image/gif;", Str.ofString "data:image/png;", Str.ofString "data:image/jpeg;", Str.ofString "data:image/webp;"]
local macro_rules | `(tactic| walk_at "call ref") => `(tactic| (k_here; (with_reducible show wpAny _ _ (PySem.call (Value.ref 396) [Value.str _ _, Value.ref _, Value.ref _]) _ _ _); k_dflt (refine' useT (safe_ok _ _ _ _ _ _ safesS goodsS _) ?k1 ?k2 ?k3 ?k4 ?k5 ?kK ?h1 ?h2 ?kp ?kd ?ku ?_); (case k1 => k_asm); (case k2 => k_asm); (case k3 => k_asm); (case k4 => k_asm); (case k5 => k_asm); (case kK => k_dflt (exact rfl)); (case h1 => (refine' srcT_K ?x ?y; (case x => assumption); (case y => k_is))); (case h2 => (refine' srcT_K ?x ?y; (case x => assumption); (case y => k_is))); (case kp => k_dflt (exact ⟨by omega, (.cons _ _ (.cons _ _ (.cons _ _ (.cons _ _ (.cons _ _ (.cons _ _ (.cons _ _ (.cons _ _ .nil)))))))), (.cons _ _ (.cons _ _ (.cons _ _ (.cons _ _ .nil))))⟩)); (case kd => first | omega | ((try dsimp only [Around.deeper, ktrTop]); omega) | ktr_room); (case ku => first | omega | ((try dsimp only [Around.deeper, ktrTop]); omega) | ktr_units); intro t9 h9 tk9 F9 N9; (try dsimp only)))
theorem san_N {w : World} (M D dd : Addr) (t1 t2 t3 : Tok) (e : Bool) (y : Str) (ty : Tok) (rest : List (Addr × Obj)) :
    MyClaim 4 w 227 (mkL w M D dd t1 t2 t3 e .none rest) (Asc3 y ∧ y.length ≤ 300) [.ref M, .str y ty] (fun t => .str (if plainB (Txt.lstrip (Txt.lower (openS y))) (safesS ++ goodsS) then y else Str.ofString "#harmful-link") t) := by
  dsimp only [MyClaim, CbRet, mkL, mkD]
  k_fill
  intro p loose mean mg mb dp un gd cn cs a ccd cl outer A₀ base h₀ L m s Q E hB hF hK hN hT hcs hp hd hu hret
  refine wpAny_call ?_
  k_dflt (refine' code_def ?k1 ?k2 ?k3 ?k4 ?k5 ?kA ?kF ?kK ?k6 ?k7 ?k8 ?k9 ?kB ?_ ?c2 ?c3 ?c4 ?c5; (case kA => exact rfl); (case kF => exact rfl); (case kK => assumption); (case k1 => k_asm); (case k2 => k_asm); (case k3 => k_asm); (case k4 => k_asm); (case k5 => k_asm); (case k6 => k_is); (case k7 => k_is); (case k8 => exact Nat.lt_of_le_of_lt (Nat.le_add_right _ _) hd); (case k9 => first | exact BindsTo.of_eq rfl | exact binds_K (by k_in) rfl (by k_is) rfl rfl rfl); (case c5 => decide); (case kB => exact locs rfl); (case c2 => exact rfl); (case c3 => exact rfl); (case c4 => exact rfl); k_whole; intro g' L' h' FG' F' N' B' X' T'; (try dsimp only); (try k_lift B'); (try k_fold))
  obtain ⟨hp, hp2⟩ := hp
  have hz : (openS y).length ≤ 300 := Nat.le_trans (Nat.le_trans (onceS_len _) (Nat.le_trans (onceS_len _) (onceS_len _))) hp2
  k_steps
  all_goals first
    | exact cb_retS (Q := Q) hret (by simp_all) (by k_asm) (by k_asm)
    | skip
end Mine
end

section
open PySem PySem.W PyProof.Rows PySem.Calls
set_option maxRecDepth 100000
set_option maxHeartbeats 0
namespace Mine
theorem walk_state19 : True := by
  w_top off
  k_with_none
  trivial
local macro_rules | `(tactic| walk_at "execs cons") => `(tactic| (k_here; with_reducible refine gen_tk ?_; intro tk9))
local macro_rules | `(tactic| walk_at "execs nil") => `(tactic| (k_here; with_reducible refine gen_tk ?_; intro tk9))
local macro_rules | `(tactic| walk_at "call ref") => `(tactic| (k_here; (with_reducible show wpAny _ _ (PySem.call (Value.ref 389) [Value.str _ _]) _ _ _); k_dflt (refine' use2 (unqurl_ok _ _ _) ?k1 ?k2 ?k3 ?k4 ?k5 ?kK ?kp ?kd ?ku ?_); (case k1 => k_asm); (case k2 => k_asm); (case k3 => k_asm); (case k4 => k_asm); (case k5 => k_asm); (case kK => first | exact rfl | assumption); (case kp => assumption); (case kd => first | omega | ((try dsimp only [Around.deeper, ktrTop]); omega) | ktr_room); (case ku => first | omega | ((try dsimp only [Around.deeper, ktrTop]); omega) | ktr_units); intro t9 h9 tk9 F9 N9; (try dsimp only)))
abbrev jsS : Str := Str.ofString "javascript:"
theorem starts_led1 {prog : Program} {w : World} {A : Around} {E : Value → Shared → Prop} {s : Shared} {h₀ : Heap} {L : Addr} {news : List (Addr × Obj)} {x : Str} {t : Tok} {a : Addr} {vs : List Value} {n : Nat} {hs : List Str} {Q : Value → Shared → Prop}
    (N : News h₀ L s.heap news) (hm : (a, tplO vs n) ∈ news) (hi : StrsAre vs hs) (h : Q (.bool (hs.any (Txt.startswith x))) s) : wpAny (model prog w) A (PySem.call (.builtin "str.startswith") [.str x t, .ref a]) Q E s :=
  starts_tup (its := vs.toArray) (by simpa using hi) ⟨_, (N _ hm).1, rfl, n, rfl⟩ h
local macro_rules | `(tactic| walk_at "call builtin:str.startswith") => `(tactic| (k_here; refine' starts_led1 ?k4 ?k5 ?k2 ?_; (case k4 => k_asm); (case k5 => k_mem); (case k2 => exact .cons _ _ .nil)))
local macro_rules | `(tactic| walk_at "call ref") => `(tactic| (k_here; (with_reducible show wpAny _ _ (PySem.call (Value.ref 396) [Value.str _ _, Value.ref _, Value.ref _]) _ _ _); k_dflt (refine' useT (safe_ok _ _ _ _ _ _ safesS goodsS _) ?k1 ?k2 ?k3 ?k4 ?k5 ?kK ?h1 ?h2 ?kp ?kd ?ku ?_); (case k1 => k_asm); (case k2 => k_asm); (case k3 => k_asm); (case k4 => k_asm); (case k5 => k_asm); (case kK => k_dflt (exact rfl)); (case h1 => (refine' srcT_K ?x ?y; (case x => assumption); (case y => k_is))); (case h2 => (refine' srcT_K ?x ?y; (case x => assumption); (case y => k_is))); (case kp => k_dflt (exact ⟨by omega, (.cons _ _ (.cons _ _ (.cons _ _ (.cons _ _ (.cons _ _ (.cons _ _ (.cons _ _ (.cons _ _ .nil)))))))), (.cons _ _ (.cons _ _ (.cons _ _ (.cons _ _ .nil))))⟩)); (case kd => first | omega | ((try dsimp only [Around.deeper, ktrTop]); omega) | ktr_room); (case ku => first | omega | ((try dsimp only [Around.deeper, ktrTop]); omega) | ktr_units); intro t9 h9 tk9 F9 N9; (try dsimp only)))
theorem truthy_led {prog : Program} {w : World} {A : Around} {E : Value → Shared → Prop} {s : Shared} {h₀ : Heap} {L : Addr} {news : List (Addr × Obj)} {a : Addr} {v : Value} {n : Nat} {Q : Bool → Shared → Prop} (N : News h₀ L s.heap news) (hm : (a, listOf #[v] n) ∈ news)
    (h : Q true { s with toks := s.toks + 1 + 1 }) : wpAny (model prog w) A (truthy (.ref a)) Q E s :=
  wpAny_truthy_list (items := #[v]) ⟨_, (N _ hm).1, rfl, n, rfl⟩ (by show (1 : Int) < 2 ^ 63; decide) h
local macro_rules | `(tactic| walk_at "truthy ref") => `(tactic| (k_here; refine' truthy_led ?k4 ?k5 ?_; (case k4 => k_asm); (case k5 => k_mem)))
theorem san_L {w : World} (M D dd l : Addr) (t1 t2 t3 tj : Tok) (nj : Nat) (e : Bool) (y : Str) (ty : Tok) (rest : List (Addr × Obj)) :
    MyClaim 4 w 227 (mkL w M D dd t1 t2 t3 e (.ref l) ((l, listOf #[.str jsS tj] nj) :: rest)) (Asc3 y ∧ y.length ≤ 300) [.ref M, .str y ty] (fun t => .str (if Txt.startswith (Txt.lstrip (Txt.lower (openS y))) jsS || plainB (Txt.lstrip (Txt.lower (openS y))) (safesS ++ goodsS) then y else Str.ofString "#harmful-link") t) := by
  dsimp only [MyClaim, CbRet, mkL, mkD]
  k_fill
  intro p loose mean mg mb dp un gd cn cs a ccd cl outer A₀ base h₀ L m s Q E hB hF hK hN hT hcs hp hd hu hret
  refine wpAny_call ?_
  k_dflt (refine' code_def ?k1 ?k2 ?k3 ?k4 ?k5 ?kA ?kF ?kK ?k6 ?k7 ?k8 ?k9 ?kB ?_ ?c2 ?c3 ?c4 ?c5; (case kA => exact rfl); (case kF => exact rfl); (case kK => assumption); (case k1 => k_asm); (case k2 => k_asm); (case k3 => k_asm); (case k4 => k_asm); (case k5 => k_asm); (case k6 => k_is); (case k7 => k_is); (case k8 => exact Nat.lt_of_le_of_lt (Nat.le_add_right _ _) hd); (case k9 => first | exact BindsTo.of_eq rfl | exact binds_K (by k_in) rfl (by k_is) rfl rfl rfl); (case c5 => decide); (case kB => exact locs rfl); (case c2 => exact rfl); (case c3 => exact rfl); (case c4 => exact rfl); k_whole; intro g' L' h' FG' F' N' B' X' T'; (try dsimp only); (try k_lift B'); (try k_fold))
  obtain ⟨hp, hp2⟩ := hp
  have hz : (openS y).length ≤ 300 := Nat.le_trans (Nat.le_trans (onceS_len _) (Nat.le_trans (onceS_len _) (onceS_len _))) hp2
  k_steps
  all_goals first
    | exact cb_retS (Q := Q) hret (by simp_all) (by k_asm) (cb_drop (by assumption) (fun p hp => by simp [hp]))
    | skip
end Mine
end

section
open PySem PySem.W PyProof.Rows PySem.Calls
set_option maxRecDepth 100000
set_option maxHeartbeats 0
namespace Mine
theorem walk_state20 : True := by
  w_top off
  k_with_none
  trivial
local macro_rules | `(tactic| walk_at "execs cons") => `(tactic| (k_here; with_reducible refine gen_tk ?_; intro tk9))
local macro_rules | `(tactic| walk_at "execs nil") => `(tactic| (k_here; with_reducible refine gen_tk ?_; intro tk9))
theorem san_T {w : World} (M D dd : Addr) (t1 t2 t3 : Tok) (e : Bool) (y : Str) (ty : Tok) (rest : List (Addr × Obj)) :
    MyClaim 4 w 227 (mkL w M D dd t1 t2 t3 e (.bool true) rest) True [.ref M, .str y ty] (fun t => .str y t) := by
  dsimp only [MyClaim, CbRet, mkL, mkD]
  k_fill
  intro p loose mean mg mb dp un gd cn cs a ccd cl outer A₀ base h₀ L m s Q E hB hF hK hN hT hcs hp hd hu hret
  refine wpAny_call ?_
  k_dflt (refine' code_def ?k1 ?k2 ?k3 ?k4 ?k5 ?kA ?kF ?kK ?k6 ?k7 ?k8 ?k9 ?kB ?_ ?c2 ?c3 ?c4 ?c5; (case kA => exact rfl); (case kF => exact rfl); (case kK => assumption); (case k1 => k_asm); (case k2 => k_asm); (case k3 => k_asm); (case k4 => k_asm); (case k5 => k_asm); (case k6 => k_is); (case k7 => k_is); (case k8 => exact Nat.lt_of_le_of_lt (Nat.le_add_right _ _) hd); (case k9 => first | exact BindsTo.of_eq rfl | exact binds_K (by k_in) rfl (by k_is) rfl rfl rfl); (case c5 => decide); (case kB => exact locs rfl); (case c2 => exact rfl); (case c3 => exact rfl); (case c4 => exact rfl); k_whole; intro g' L' h' FG' F' N' B' X' T'; (try dsimp only); (try k_lift B'); (try k_fold))
  k_steps
  all_goals first
    | exact cb_retS (Q := Q) hret rfl (by k_asm) (by k_asm)
    | skip
end Mine
end

section
open PySem PySem.W PyProof.Rows
set_option maxRecDepth 100000
namespace Mine
/-! the law's own tables -/
def frontsS : List Str := [Str.ofString "", Str.ofString " ", Str.ofString "  "]
def headsS : List Str := [Str.ofString "http://a", Str.ofString "HTTP://b", Str.ofString "mailto:c", Str.ofString "/d", Str.ofString "#e", Str.ofString "?f", Str.ofString "g/h:i", Str.ofString "j", Str.ofString "", Str.ofString "javascript:k", Str.ofString "JaVaScRiPt:l", Str.ofString "vbscript:m", Str.ofString "data:image/png;n", Str.ofString "data:text/html;o", Str.ofString "%3Ap", Str.ofString "%6Aavascript:q", Str.ofString "%2525253Ar", Str.ofString "%25253As"]
def tailsS : List (Str × Str) := [(Str.ofString "", Str.ofString ""), (Str.ofString "t", Str.ofString "t"), (Str.ofString "&amp;", Str.ofString "&"), (Str.ofString "\"u\"", Str.ofString "\"u\""), (Str.ofString "<v>", Str.ofString "<v>"), (Str.ofString "&#38;", Str.ofString "&"), (Str.ofString "&w;", Str.ofString "&w;")]
def marksS : List (Str × Str) := [(Str.ofString "a", Str.ofString "a"), (Str.ofString "&amp;", Str.ofString "&"), (Str.ofString "&lt;", Str.ofString "<"), (Str.ofString "&#38;", Str.ofString "&"), (Str.ofString "&#x3C;", Str.ofString "<"), (Str.ofString "&bogus;", Str.ofString "&bogus;"), (Str.ofString "\"", Str.ofString "\""), (Str.ofString "<", Str.ofString "<"), (Str.ofString ">", Str.ofString ">"), (Str.ofString "&", Str.ofString "&"), (Str.ofString "&copy;", Str.ofString "©")]
theorem LL_cat (x y : Str) : LL (x ++ y) = LL x ++ LL y := cat_toList x y
def Known (ps : List Pc) : Prop := ∀ bd y, Pc.rf bd y ∈ ps → (bd, y) ∈ known
def Pre (x : Str) (ps : List Pc) : Prop := LL x = srcs ps ∧ Ok ps ∧ (∀ bd y, Pc.rf bd y ∈ ps → (bd, y) ∈ known) ∧ x.length ≤ 1000 ∧ (dsts ps).length ≤ 1000
theorem srcs_app (a b : List Pc) : srcs (a ++ b) = srcs a ++ srcs b := by simp [srcs]
theorem dsts_app (a b : List Pc) : dsts (a ++ b) = dsts a ++ dsts b := by simp [dsts]
def chs (l : List Nat) : List Pc := l.map Pc.ch
theorem srcs_chs (l : List Nat) : srcs (chs l) = l := by
  induction l with
  | nil => rfl
  | cons c l ih => show srcs (Pc.ch c :: chs l) = _; rw [srcs_cons, ih]; rfl
theorem dsts_chs (l : List Nat) : dsts (chs l) = l := by
  induction l with
  | nil => rfl
  | cons c l ih => show dsts (Pc.ch c :: chs l) = _; rw [dsts_cons, ih]; rfl
theorem ok_chs {ps : List Pc} (hp : Ok ps) : ∀ l : List Nat, (∀ c ∈ l, c ≠ 38) → Ok (chs l ++ ps)
  | [], _ => hp
  | c :: l, h => ⟨h c (.head _), ok_chs hp l fun d hd => h d (.tail _ hd)⟩
theorem known_chs {ps : List Pc} (hp : Known ps) (l : List Nat) : Known (chs l ++ ps) := by
  intro bd y h
  rcases List.mem_append.mp h with h | h
  · unfold chs at h
    obtain ⟨c, _, hc⟩ := List.mem_map.mp h
    cases hc
  · exact hp bd y h
theorem known_nil : Known [] := fun _ _ h => nomatch h
theorem known_one {b y : List Nat} (h : (b, y) ∈ known) : Known [.rf b y] := by
  intro bd z hm
  rw [List.mem_singleton] at hm
  cases hm; exact h
theorem rok1 : RefOk [97, 109, 112] := .inl ⟨by decide, by decide, by decide⟩
theorem rok2 : RefOk [108, 116] := .inl ⟨by decide, by decide, by decide⟩
theorem rok3 : RefOk [99, 111, 112, 121] := .inl ⟨by decide, by decide, by decide⟩
theorem rok4 : RefOk [98, 111, 103, 117, 115] := .inl ⟨by decide, by decide, by decide⟩
theorem rok5 : RefOk [119] := .inl ⟨by decide, by decide, by decide⟩
theorem rok6 : RefOk [35, 51, 56] := .inr (.inl ⟨[51, 56], rfl, by decide, by decide, by decide⟩)
theorem rok7 : RefOk [35, 120, 51, 67] := .inr (.inr ⟨120, [51, 67], rfl, by decide, by decide, by decide, by decide⟩)
/-- a tail is a list of pieces -/
theorem tail_ps {a b : Str} (h : (a, b) ∈ tailsS) : ∃ qs, LL a = srcs qs ∧ LL b = dsts qs ∧ Ok qs ∧ Known qs := by
  have chars : ∀ (x : Str) (l : List Nat), LL x = l → (∀ c ∈ l, c ≠ 38) → ∃ qs, LL x = srcs qs ∧ LL x = dsts qs ∧ Ok qs ∧ Known qs := fun x l e hl =>
    ⟨chs l, by rw [srcs_chs, e], by rw [dsts_chs, e], by have := ok_chs (ps := []) trivial l hl; rwa [List.append_nil] at this, by have := known_chs known_nil l; rwa [List.append_nil] at this⟩
  have refs : ∀ (x z : Str) (bd y : List Nat), LL x = 38 :: (bd ++ [59]) → LL z = y → RefOk bd → (bd, y) ∈ known → ∃ qs, LL x = srcs qs ∧ LL z = dsts qs ∧ Ok qs ∧ Known qs := fun x z bd y e1 e2 hr hk =>
    ⟨[.rf bd y], by rw [e1]; simp [srcs, Pc.src], by rw [e2]; simp [dsts, Pc.dst], ⟨hr, trivial⟩, known_one hk⟩
  simp only [tailsS, List.mem_cons, Prod.mk.injEq, List.not_mem_nil, or_false] at h
  rcases h with ⟨rfl, rfl⟩ | ⟨rfl, rfl⟩ | ⟨rfl, rfl⟩ | ⟨rfl, rfl⟩ | ⟨rfl, rfl⟩ | ⟨rfl, rfl⟩ | ⟨rfl, rfl⟩
  · exact chars _ [] (by decide +kernel) (by decide)
  · exact chars _ [116] (by decide +kernel) (by decide)
  · exact refs _ _ [97, 109, 112] [38] (by decide +kernel) (by decide +kernel) rok1 (by decide)
  · exact chars _ [34, 117, 34] (by decide +kernel) (by decide)
  · exact chars _ [60, 118, 62] (by decide +kernel) (by decide)
  · exact refs _ _ [35, 51, 56] [38] (by decide +kernel) (by decide +kernel) rok6 (by decide)
  · exact refs _ _ [119] [38, 119, 59] (by decide +kernel) (by decide +kernel) rok5 (by decide)
theorem front_chs : ∀ f ∈ frontsS, (∀ c ∈ LL f, c ≠ 38) ∧ f.length ≤ 2 := by decide +kernel
theorem head_chs : ∀ h ∈ headsS, (∀ c ∈ LL h, c ≠ 38) ∧ h.length ≤ 20 := by decide +kernel
theorem tail_len : ∀ p ∈ tailsS, p.1.length ≤ 5 ∧ p.2.length ≤ 5 := by decide +kernel
theorem len_app (x y : Str) : (x ++ y).length = x.length + y.length := by
  rw [len_x, LL_cat, List.length_append, ← len_x, ← len_x]
theorem len_list {x : Str} {l : List Nat} (h : LL x = l) : l.length = x.length := by rw [len_x x, h]
theorem url_pre {f h a b : Str} (hf : f ∈ frontsS) (hh : h ∈ headsS) (ht : (a, b) ∈ tailsS) : ∃ ps, Pre (f ++ h ++ a) ps ∧ (⟨(dsts ps).toArray⟩ : Str) = f ++ h ++ b := by
  obtain ⟨qs, q1, q2, q3, q4⟩ := tail_ps ht
  obtain ⟨f1, f2⟩ := front_chs f hf
  obtain ⟨h1, h2⟩ := head_chs h hh
  obtain ⟨t1, t2⟩ := tail_len _ ht
  have eb : dsts (chs (LL f) ++ (chs (LL h) ++ qs)) = LL (f ++ h ++ b) := by
    rw [dsts_app, dsts_app, dsts_chs, dsts_chs, ← q2, LL_cat, LL_cat, List.append_assoc]
  refine ⟨chs (LL f) ++ (chs (LL h) ++ qs), ⟨?_, ok_chs (ok_chs q3 _ h1) _ f1, known_chs (known_chs q4 _) _, ?_, ?_⟩, ?_⟩
  · rw [srcs_app, srcs_app, srcs_chs, srcs_chs, ← q1, LL_cat, LL_cat, List.append_assoc]
  · rw [len_app, len_app]; simp only at t1; omega
  · rw [eb, ← len_x, len_app, len_app]; simp only at t2; omega
  · rw [eb]
theorem url_len {f h a b : Str} (hf : f ∈ frontsS) (hh : h ∈ headsS) (ht : (a, b) ∈ tailsS) : (f ++ h ++ a).length ≤ 30 ∧ (f ++ h ++ b).length ≤ 30 ∧ (f ++ h).length ≤ 25 := by
  obtain ⟨_, f2⟩ := front_chs f hf
  obtain ⟨_, h2⟩ := head_chs h hh
  obtain ⟨t1, t2⟩ := tail_len _ ht
  simp only at t1 t2
  have e1 := len_app (f ++ h) a
  have e2 := len_app (f ++ h) b
  have e3 := len_app f h
  omega
/-! percent signs: three times over nothing beyond ASCII -/
def ascB (x : Str) : Bool := (LL x).all (· < 128) && (onceL (LL x)).all (· < 128) && (onceL (onceL (LL x))).all (· < 128) && (onceL (onceL (onceL (LL x)))).all (· < 128)
theorem asc_of {x : Str} (h : ascB x = true) (hl : x.length ≤ 300) : Asc3 x := by
  unfold ascB at h
  simp only [Bool.and_eq_true, List.all_eq_true, decide_eq_true_eq] at h
  obtain ⟨⟨⟨h1, h2⟩, h3⟩, h4⟩ := h
  exact ⟨by omega, ⟨h1, h2⟩, ⟨h2, h3⟩, ⟨h3, h4⟩⟩
theorem url_ascB : (frontsS.all fun f => headsS.all fun h => tailsS.all fun p => ascB (f ++ h ++ p.1)) = true := by decide +kernel
theorem url_asc {f h a b : Str} (hf : f ∈ frontsS) (hh : h ∈ headsS) (ht : (a, b) ∈ tailsS) : Asc3 (f ++ h ++ a) ∧ (f ++ h ++ a).length ≤ 300 := by
  have hl := (url_len hf hh ht).1
  refine ⟨asc_of ?_ (by omega), by omega⟩
  have := url_ascB
  simp only [List.all_eq_true] at this
  exact this f hf h hh _ ht
/-! words -/
def markPs : List Pc := [.ch 97, .rf [97, 109, 112] [38], .rf [108, 116] [60], .rf [35, 51, 56] [38], .rf [35, 120, 51, 67] [60], .rf [98, 111, 103, 117, 115] [38, 98, 111, 103, 117, 115, 59], .ch 34, .ch 60, .ch 62, .amp, .rf [99, 111, 112, 121] [169]]
def MarkP (p : Pc) : Prop := p ∈ markPs
theorem mark_ps {a b : Str} (h : (a, b) ∈ marksS) : ∃ p, p ∈ markPs ∧ LL a = p.src ∧ LL b = p.dst := by
  simp only [marksS, List.mem_cons, Prod.mk.injEq, List.not_mem_nil, or_false] at h
  rcases h with ⟨rfl, rfl⟩ | ⟨rfl, rfl⟩ | ⟨rfl, rfl⟩ | ⟨rfl, rfl⟩ | ⟨rfl, rfl⟩ | ⟨rfl, rfl⟩ | ⟨rfl, rfl⟩ | ⟨rfl, rfl⟩ | ⟨rfl, rfl⟩ | ⟨rfl, rfl⟩ | ⟨rfl, rfl⟩
  · exact ⟨.ch 97, by simp [markPs], by decide +kernel, by decide +kernel⟩
  · exact ⟨.rf [97, 109, 112] [38], by simp [markPs], by decide +kernel, by decide +kernel⟩
  · exact ⟨.rf [108, 116] [60], by simp [markPs], by decide +kernel, by decide +kernel⟩
  · exact ⟨.rf [35, 51, 56] [38], by simp [markPs], by decide +kernel, by decide +kernel⟩
  · exact ⟨.rf [35, 120, 51, 67] [60], by simp [markPs], by decide +kernel, by decide +kernel⟩
  · exact ⟨.rf [98, 111, 103, 117, 115] [38, 98, 111, 103, 117, 115, 59], by simp [markPs], by decide +kernel, by decide +kernel⟩
  · exact ⟨.ch 34, by simp [markPs], by decide +kernel, by decide +kernel⟩
  · exact ⟨.ch 60, by simp [markPs], by decide +kernel, by decide +kernel⟩
  · exact ⟨.ch 62, by simp [markPs], by decide +kernel, by decide +kernel⟩
  · exact ⟨.amp, by simp [markPs], by decide +kernel, by decide +kernel⟩
  · exact ⟨.rf [99, 111, 112, 121] [169], by simp [markPs], by decide +kernel, by decide +kernel⟩
theorem mark_src {p : Pc} (h : p ∈ markPs) : p.src ≠ [] ∧ p.src.length ≤ 7 ∧ p.dst.length ≤ 7 ∧ (p.src = [97] ∨ p.src = [34] ∨ p.src = [62] ∨ p.src.head? = some 60 ∨ p.src.head? = some 38) ∧ ∀ c ∈ p.src, Unicode.isSpace c = false := by
  simp only [markPs, List.mem_cons, List.not_mem_nil, or_false] at h
  rcases h with rfl | rfl | rfl | rfl | rfl | rfl | rfl | rfl | rfl | rfl | rfl <;> refine ⟨by decide, by decide, by decide, by decide, by decide +kernel⟩
theorem amp_ok : ∀ {ps : List Pc}, (∀ p ∈ ps, p ∈ markPs) → (srcs ps).head? ≠ some 35 ∧ ((srcs ps).takeWhile cls68).length ≤ ps.length ∧ ((srcs ps).dropWhile cls68).head? ≠ some 59
  | [], _ => by simp [srcs]
  | p :: r, h => by
    obtain ⟨ih1, ih2, ih3⟩ := amp_ok (ps := r) fun q hq => h q (.tail _ hq)
    have c1 : cls68 97 = true := by decide
    have c2 : cls68 34 = true := by decide
    have c3 : cls68 62 = true := by decide
    have c4 : cls68 60 = false := by decide
    have c5 : cls68 38 = false := by decide
    rw [srcs_cons]
    rcases (mark_src (h p (.head _))).2.2.2.1 with e | e | e | e | e
    · rw [e]; simp only [List.cons_append, List.nil_append, List.head?_cons, List.takeWhile_cons, List.dropWhile_cons, c1, if_true, List.length_cons]
      exact ⟨by simp, by omega, ih3⟩
    · rw [e]; simp only [List.cons_append, List.nil_append, List.head?_cons, List.takeWhile_cons, List.dropWhile_cons, c2, if_true, List.length_cons]
      exact ⟨by simp, by omega, ih3⟩
    · rw [e]; simp only [List.cons_append, List.nil_append, List.head?_cons, List.takeWhile_cons, List.dropWhile_cons, c3, if_true, List.length_cons]
      exact ⟨by simp, by omega, ih3⟩
    · cases hs : p.src with
      | nil => rw [hs] at e; simp at e
      | cons c l =>
        rw [hs] at e; simp at e; subst e
        simp [c4]
    · cases hs : p.src with
      | nil => rw [hs] at e; simp at e
      | cons c l =>
        rw [hs] at e; simp at e; subst e
        simp [c5]
theorem words_ok : ∀ {ps : List Pc}, (∀ p ∈ ps, p ∈ markPs) → ps.length ≤ 33 → Ok ps
  | [], _, _ => trivial
  | p :: r, h, hl => by
    have hr : ∀ q ∈ r, q ∈ markPs := fun q hq => h q (.tail _ hq)
    simp only [List.length_cons] at hl
    have ih := words_ok (ps := r) hr (by omega)
    obtain ⟨a1, a2, a3⟩ := amp_ok hr
    have hp := h p (.head _)
    simp only [markPs, List.mem_cons, List.not_mem_nil, or_false] at hp
    rcases hp with rfl | rfl | rfl | rfl | rfl | rfl | rfl | rfl | rfl | rfl | rfl
    · exact ⟨by decide, ih⟩
    · exact ⟨rok1, ih⟩
    · exact ⟨rok2, ih⟩
    · exact ⟨rok6, ih⟩
    · exact ⟨rok7, ih⟩
    · exact ⟨rok4, ih⟩
    · exact ⟨by decide, ih⟩
    · exact ⟨by decide, ih⟩
    · exact ⟨by decide, ih⟩
    · exact ⟨⟨a1, by omega, a3⟩, ih⟩
    · exact ⟨rok3, ih⟩
theorem words_known {ps : List Pc} (h : ∀ p ∈ ps, p ∈ markPs) : Known ps := by
  intro bd y hm
  have hp := h _ hm
  simp only [markPs, List.mem_cons, List.not_mem_nil, or_false] at hp
  rcases hp with h | h | h | h | h | h | h | h | h | h | h <;> first | (cases h; decide) | cases h
theorem words_len : ∀ {ps : List Pc}, (∀ p ∈ ps, p ∈ markPs) → (srcs ps).length ≤ 7 * ps.length ∧ (dsts ps).length ≤ 7 * ps.length
  | [], _ => by simp [srcs, dsts]
  | p :: r, h => by
    obtain ⟨i1, i2⟩ := words_len (ps := r) fun q hq => h q (.tail _ hq)
    obtain ⟨_, m1, m2, _⟩ := mark_src (h p (.head _))
    rw [srcs_cons, dsts_cons]
    simp only [List.length_append, List.length_cons]
    omega
/-- what _law_words gives back -/
def WordP (x y : Str) (ps : List Pc) : Prop := LL x = srcs ps ∧ LL y = dsts ps ∧ (∀ p ∈ ps, p ∈ markPs)
theorem word_start : WordP (Str.ofString "") (Str.ofString "") [] := ⟨by decide +kernel, by decide +kernel, fun _ h => nomatch h⟩
theorem word_step {x y a b : Str} {ps : List Pc} (h : WordP x y ps) (hm : (a, b) ∈ marksS) : ∃ p, WordP (x ++ a) (y ++ b) (ps ++ [p]) := by
  obtain ⟨p, hp, e1, e2⟩ := mark_ps hm
  obtain ⟨h1, h2, h3⟩ := h
  refine ⟨p, ?_, ?_, ?_⟩
  · rw [srcs_app, ← h1, LL_cat, e1]; simp [srcs]
  · rw [dsts_app, ← h2, LL_cat, e2]; simp [dsts]
  · intro q hq
    rcases List.mem_append.mp hq with hq | hq
    · exact h3 q hq
    · rw [List.mem_singleton.mp hq]; exact hp
theorem word_len {x y : Str} {ps : List Pc} (h : WordP x y ps) : x.length ≤ 7 * ps.length ∧ y.length ≤ 7 * ps.length := by
  rw [len_x, len_x, h.1, h.2.1]; exact words_len h.2.2
theorem word_pre {x y : Str} {ps : List Pc} (h : WordP x y ps) (hl : ps.length ≤ 6) : Pre x ps ∧ (⟨(dsts ps).toArray⟩ : Str) = y := by
  have hL := word_len h
  have hw := words_len h.2.2
  refine ⟨⟨h.1, words_ok h.2.2 (by omega), words_known h.2.2, by omega, by omega⟩, ?_⟩
  rw [← h.2.1]
/-! strip -/
theorem strip_pad {t : List Nat} (hn : t ≠ []) (hs : ∀ c ∈ t, Unicode.isSpace c = false) {x y : Str} (hx : LL x = 32 :: (t ++ [10])) (hy : LL y = t) : Txt.strip x = y := by
  have s32 : Unicode.isSpace 32 = true := by decide +kernel
  have s10 : Unicode.isSpace 10 = true := by decide +kernel
  have tw : ∀ r : List Nat, (t ++ r).takeWhile Unicode.isSpace = [] := by
    intro r
    cases ht : t with
    | nil => exact absurd ht hn
    | cons c l => simp [hs c (by rw [ht]; exact .head _)]
  have twr : ∀ r : List Nat, (t.reverse ++ r).takeWhile Unicode.isSpace = [] := by
    intro r
    cases ht : t.reverse with
    | nil => exact absurd (by simpa using ht) hn
    | cons c l => simp [hs c (by rw [← List.mem_reverse, ht]; exact .head _)]
  have hx' : x.cps.toList = 32 :: (t ++ [10]) := hx
  have hlen : x.length = t.length + 2 := by rw [len_x, hx]; simp
  have e1 : PySem.stripLo Unicode.isSpace true x = 1 := by
    unfold PySem.stripLo
    rw [if_pos rfl, hx', List.takeWhile_cons, s32, if_pos rfl, tw]; rfl
  have e2 : PySem.stripHi Unicode.isSpace true x 1 = t.length + 1 := by
    unfold PySem.stripHi
    rw [if_pos rfl, hx']
    have : (List.drop 1 (32 :: (t ++ [10]))).reverse = 10 :: (t.reverse ++ []) := by simp
    rw [this, List.takeWhile_cons, s10, if_pos rfl, twr, hlen]
    simp
  unfold Txt.strip
  rw [PyProof.Rows.stripBy_eq, e1, e2]
  refine str_ext ?_
  show (x.cps.extract 1 (t.length + 1)).toList = _
  have hy' : y.cps.toList = t := hy
  rw [Array.toList_extract, List.extract_eq_take_drop, hx', hy']
  simp
theorem strip_word {x y : Str} {ps : List Pc} (h : WordP x y ps) (hl : 1 ≤ ps.length) : Txt.strip (Str.ofString " " ++ x ++ Str.ofString "\n") = x := by
  have hs : ∀ c ∈ LL x, Unicode.isSpace c = false := by
    intro c hc
    rw [h.1] at hc
    unfold srcs at hc
    obtain ⟨p, hp, hc⟩ := List.mem_flatMap.mp hc
    exact (mark_src (h.2.2 p hp)).2.2.2.2 c hc
  have hn : LL x ≠ [] := by
    rw [h.1]
    cases ps with
    | nil => simp at hl
    | cons p r =>
      rw [srcs_cons]
      intro e
      exact (mark_src (h.2.2 p (.head _))).1 (List.append_eq_nil_iff.mp e).1
  refine strip_pad hn hs ?_ rfl
  have e1 : LL (Str.ofString " ") = [32] := by decide +kernel
  have e2 : LL (Str.ofString "\n") = [10] := by decide +kernel
  rw [LL_cat, LL_cat, e1, e2]; simp
end Mine
end

section
open PySem PySem.W PyProof.Rows PySem.Calls
set_option maxRecDepth 100000
set_option maxHeartbeats 0
namespace Mine
theorem walk_state21 : True := by
  w_top off
  k_with_none
  trivial
local macro_rules | `(tactic| walk_at "execs cons") => `(tactic| (k_here; with_reducible refine gen_tk ?_; intro tk9))
local macro_rules | `(tactic| walk_at "execs nil") => `(tactic| (k_here; with_reducible refine gen_tk ?_; intro tk9))
/-! the maker's methods upon any ledger that holds it -/
theorem claim_led {r : Nat} {w : World} {f : Addr} {A B : List (Addr × Obj)} {pre : Prop} {vs : List Value} {R : Tok → Value} (hs : ∀ p ∈ B, p ∈ A) (hb : ∀ p ∈ A, p ∈ B) (C : MyClaim r w f B pre vs R) : MyClaim r w f A pre vs R := by
  intro p loose mean mg mb dp un gd cn cs a ccd cl outer A₀ base h₀ L m s Q E hB hF hK hN hT hcs hp hd hu hr
  exact C p loose mean mg mb dp un gd cn cs a ccd cl outer A₀ base h₀ L m s Q E hB hF hK (fun p hp => hN p (hs p hp)) hT hcs hp hd hu (fun t h' tk' F' N' => hr t h' tk' F' (fun p hp => N' p (hb p hp)))
theorem claim_mono {r r' : Nat} {w : World} {f : Addr} {A : List (Addr × Obj)} {pre pre' : Prop} {vs : List Value} {R R' : Tok → Value} (hr : r ≤ r') (hp : pre' → pre) (hR : pre' → R = R') (C : MyClaim r w f A pre vs R) : MyClaim r' w f A pre' vs R' := by
  intro p loose mean mg mb dp un gd cn cs a ccd cl outer A₀ base h₀ L m s Q E hB hF hK hN hT hcs h hd hu hr'
  refine C p loose mean mg mb dp un gd cn cs a ccd cl outer A₀ base h₀ L m s Q E hB hF hK hN hT hcs (hp h) (by omega) (by omega) ?_
  rw [hR h]; exact hr'
def MkAt (w : World) (news : List (Addr × Obj)) (M : Addr) (e : Bool) (al : Value) : Prop := ∃ D dd t1 t2 t3, (M, instObj 380 D) ∈ news ∧ (D, mkD w dd t1 t2 t3 e al) ∈ news
theorem useM {r : Nat} {w : World} {f M : Addr} {e : Bool} {al : Value} {news : List (Addr × Obj)} {pre : Prop} {vs : List Value} {R : Tok → Value} (h : MkAt w news M e al) (C : ∀ D dd t1 t2 t3, MyClaim r w f (mkL w M D dd t1 t2 t3 e al news) pre vs R) : MyClaim r w f news pre vs R := by
  obtain ⟨D, dd, t1, t2, t3, h1, h2⟩ := h
  refine claim_led ?_ ?_ (C D dd t1 t2 t3)
  · intro p hp
    rcases List.mem_cons.mp hp with rfl | hp
    · exact h1
    · rcases List.mem_cons.mp hp with rfl | hp
      · exact h2
      · exact hp
  · intro p hp; exact .tail _ (.tail _ hp)
def norm (x : Str) : Str := Txt.lstrip (Txt.lower (openS x))
abbrev allS : List Str := safesS ++ goodsS
abbrev HL : Str := Str.ofString "#harmful-link"
def harmV : Value → Str → Bool
  | .bool _, _ => false
  | .ref _, x => !(Txt.startswith (norm x) jsS || plainB (norm x) allS)
  | _, x => !plainB (norm x) allS
def AlAt (news : List (Addr × Obj)) (v : Value) : Prop := v = .none ∨ v = .bool true ∨ ∃ l t n, v = .ref l ∧ (l, listOf #[.str jsS t] n) ∈ news
theorem san_any {w : World} (M D dd : Addr) (t1 t2 t3 : Tok) (e : Bool) (al : Value) (y : Str) (ty : Tok) (news : List (Addr × Obj)) (ha : AlAt news al) :
    MyClaim 4 w 227 (mkL w M D dd t1 t2 t3 e al news) (Asc3 y ∧ y.length ≤ 300) [.ref M, .str y ty] (fun t => .str (if harmV al y then HL else y) t) := by
  rcases ha with rfl | rfl | ⟨l, t, n, rfl, hm⟩
  · refine claim_mono (Nat.le_refl _) (fun h => h) (fun _ => ?_) (san_N M D dd t1 t2 t3 e y ty news)
    funext t
    show Value.str (if plainB (norm y) allS = true then y else HL) t = Value.str (if (!plainB (norm y) allS) = true then HL else y) t
    cases plainB (norm y) allS <;> rfl
  · exact claim_mono (Nat.le_refl _) (fun _ => trivial) (fun _ => rfl) (san_T M D dd t1 t2 t3 e y ty news)
  · refine claim_led ?_ ?_ (claim_mono (Nat.le_refl _) (fun h => h) (fun _ => ?_) (san_L M D dd l t1 t2 t3 t n e y ty news))
    · intro p hp
      rcases List.mem_cons.mp hp with rfl | hp
      · exact .head _
      · rcases List.mem_cons.mp hp with rfl | hp
        · exact .tail _ (.head _)
        · rcases List.mem_cons.mp hp with rfl | hp
          · exact .tail _ (.tail _ hm)
          · exact .tail _ (.tail _ hp)
    · intro p hp
      rcases List.mem_cons.mp hp with rfl | hp
      · exact .head _
      · rcases List.mem_cons.mp hp with rfl | hp
        · exact .tail _ (.head _)
        · exact .tail _ (.tail _ (.tail _ hp))
    · funext t
      show Value.str (if (Txt.startswith (norm y) jsS || plainB (norm y) allS) = true then y else HL) t = Value.str (if (!(Txt.startswith (norm y) jsS || plainB (norm y) allS)) = true then HL else y) t
      cases (Txt.startswith (norm y) jsS || plainB (norm y) allS) <;> rfl
def hlPs : List Pc := chs (LL HL)
theorem hl_pre : Pre HL hlPs := by
  refine ⟨(srcs_chs _).symm, ?_, ?_, by decide +kernel, by rw [hlPs, dsts_chs]; decide +kernel⟩
  · have := ok_chs (ps := []) trivial (LL HL) (by decide +kernel)
    rwa [List.append_nil] at this
  · have := known_chs known_nil (LL HL)
    rw [List.append_nil] at this; exact this
theorem hl_names : namesS ⟨(dsts hlPs).toArray⟩ = HL := by rw [hlPs, dsts_chs]; decide +kernel
theorem san_pre {b : Bool} {y : Str} {ps : List Pc} (h : Pre y ps) : Pre (if b = true then HL else y) (if b = true then hlPs else ps) := by
  cases b
  · exact h
  · exact hl_pre
theorem san_names {b : Bool} {ps : List Pc} : namesS ⟨(dsts (if b = true then hlPs else ps)).toArray⟩ = if b = true then HL else namesS ⟨(dsts ps).toArray⟩ := by
  cases b
  · rfl
  · exact hl_names
local macro_rules | `(tactic| walk_at "call ref") => `(tactic| (k_here; (with_reducible show wpAny _ _ (PySem.call (Value.ref 227) [Value.ref _, Value.str _ _]) _ _ _); k_dflt (refine' use2 (san_any _ _ _ _ _ _ _ _ _ _ _ (by assumption)) ?k1 ?k2 ?k3 ?k4 ?k5 ?kK ?kp ?kd ?ku ?_); (case k1 => k_asm); (case k2 => k_asm); (case k3 => k_asm); (case k4 => k_asm); (case k5 => k_asm); (case kK => first | exact rfl | assumption); (case kp => exact ⟨by assumption, by assumption⟩); (case kd => first | omega | ((try dsimp only [Around.deeper, ktrTop]); omega) | ktr_room); (case ku => first | omega | ((try dsimp only [Around.deeper, ktrTop]); omega) | ktr_units); intro t9 h9 tk9 F9 N9; (try dsimp only)))
local macro_rules | `(tactic| walk_at "call ref") => `(tactic| (k_here; (with_reducible show wpAny _ _ (PySem.call (Value.ref 213) [Value.ref _, Value.str _ _]) _ _ _); k_dflt (refine' use2 (attr_ok _ _ _ _ _ _ _ _ _ _ _ _) ?k1 ?k2 ?k3 ?k4 ?k5 ?kK ?kp ?kd ?ku ?_); (case k1 => k_asm); (case k2 => k_asm); (case k3 => k_asm); (case k4 => k_asm); (case k5 => k_asm); (case kK => first | exact rfl | assumption); (case kp => k_dflt (exact san_pre (by assumption))); (case kd => first | omega | ((try dsimp only [Around.deeper, ktrTop]); omega) | ktr_room); (case ku => first | omega | ((try dsimp only [Around.deeper, ktrTop]); omega) | ktr_units); intro t9 h9 tk9 F9 N9; (try dsimp only)))
local macro_rules | `(tactic| k_room) => `(tactic| first | omega | ((try dsimp only [Around.deeper, Around.under, ktrTop]); omega) | ktr_room)
theorem safe_url_ok {w : World} (M D dd : Addr) (t1 t2 t3 : Tok) (e : Bool) (al : Value) (y : Str) (ty : Tok) (ps : List Pc) (rest : List (Addr × Obj)) (ha : AlAt rest al) :
    MyClaim 7 w 241 (mkL w M D dd t1 t2 t3 e al rest) (Asc3 y ∧ y.length ≤ 300 ∧ Pre y ps) [.ref M, .str y ty] (fun t => .str (if harmV al y then HL else namesS ⟨(dsts ps).toArray⟩) t) := by
  dsimp only [MyClaim, CbRet, mkL, mkD]
  k_fill
  intro p loose mean mg mb dp un gd cn cs a ccd cl outer A₀ base h₀ L m s Q E hB hF hK hN hT hcs hp hd hu hret
  refine wpAny_call ?_
  k_dflt (refine' code_def ?k1 ?k2 ?k3 ?k4 ?k5 ?kA ?kF ?kK ?k6 ?k7 ?k8 ?k9 ?kB ?_ ?c2 ?c3 ?c4 ?c5; (case kA => exact rfl); (case kF => exact rfl); (case kK => assumption); (case k1 => k_asm); (case k2 => k_asm); (case k3 => k_asm); (case k4 => k_asm); (case k5 => k_asm); (case k6 => k_is); (case k7 => k_is); (case k8 => exact Nat.lt_of_le_of_lt (Nat.le_add_right _ _) hd); (case k9 => first | exact BindsTo.of_eq rfl | exact binds_K (by k_in) rfl (by k_is) rfl rfl rfl); (case c5 => decide); (case kB => exact locs rfl); (case c2 => exact rfl); (case c3 => exact rfl); (case c4 => exact rfl); k_whole; intro g' L' h' FG' F' N' B' X' T'; (try dsimp only); (try k_lift B'); (try k_fold))
  obtain ⟨hp, hp2, hp3⟩ := hp
  k_steps
  all_goals first
    | exact cb_retS (Q := Q) hret san_names (by k_asm) (by k_asm)
    | skip
end Mine
end

section
open PySem PySem.W PyProof.Rows PySem.Calls
set_option maxRecDepth 100000
set_option maxHeartbeats 0
namespace Mine
theorem walk_state22 : True := by
  w_top off
  k_with_none
  trivial
local macro_rules | `(tactic| walk_at "execs cons") => `(tactic| (k_here; with_reducible refine gen_tk ?_; intro tk9))
local macro_rules | `(tactic| walk_at "execs nil") => `(tactic| (k_here; with_reducible refine gen_tk ?_; intro tk9))
theorem srcL_K {K : Frag} {h₀ : Heap} {news : List (Addr × Obj)} {l : Addr} {od : Option Addr} {vs : List Value} {n : Nat} {sl : Array (Option Value)} (X : K.In h₀) (h : K.lookup l = some ⟨.type "list", od, .seq vs.toArray n, sl⟩) : Src h₀ news l vs :=
  .inl ⟨_, X _ _ h, rfl, n, rfl⟩
theorem useL {r : Nat} {w : World} {p : Program} {loose : List Str} {mean : ExcName → Option Value} {mg mb : Str → Option Value} {f : Addr} {news : List (Addr × Obj)} {l : Addr} {lvs : List Value} {pre : Prop} {vs : List Value} {R : Tok → Value} (C : MyClaimL r w f news l lvs pre vs R)
    {dp un : Nat} {gd : Option (List Code)} {cn : Str} {cs : Scope} {a : Addr} {ccd : Value} {cl : List (Str × Addr)} {outer : List Env} {A₀ : Around} {base h₀ : Heap} {L : Addr} {m : Str → Option Value} {s : Shared} {Q E : Value → Shared → Prop}
    (hB : Below A₀ base outer h₀) (hF : Fr h₀ L s.heap m) (hK : (Mine.hd.heap_39 w.params).In h₀) (hN : News h₀ L s.heap news) (hT : Top p loose mean mg mb h₀) (hcs : cs.kind = .function) (h1 : Src h₀ news l lvs) (hp : pre) (hd : dp + r < recursionLimit) (hu : un + 8 * r < cLine) (hr : CbRet h₀ L m news s Q R) :
    wpAny (model PySem.Challenge.rw_fj5014_01.row.prog w) (ktrTop dp un gd cn cs L a ccd cl outer) (PySem.call (.ref f) vs) Q E s := C p loose mean mg mb dp un gd cn cs a ccd cl outer A₀ base h₀ L m s Q E hB hF hK hN hT hcs h1 hp hd hu hr
abbrev safe12 : List Str := [Str.ofString "http:", Str.ofString "https:", Str.ofString "mailto:", Str.ofString "tel:", Str.ofString "ftp:", Str.ofString "ftps:", Str.ofString "irc:", Str.ofString "ircs:", Str.ofString "data:image/gif;", Str.ofString "data:image/png;", Str.ofString "data:image/jpeg;", Str.ofString "data:image/webp;"]
theorem safe12_len : ∀ y ∈ safe12, y.length ≤ 1000 := by decide +kernel
theorem all_eq : allS = safe12 := rfl
theorem hv_T (y : Str) : harmV (.bool true) y = false := by unfold harmV; rfl
theorem hv_N (y : Str) : harmV .none y = !plainB (norm y) allS := by unfold harmV; rfl
theorem hv_L (l : Addr) (y : Str) : harmV (.ref l) y = !(Txt.startswith (norm y) jsS || plainB (norm y) allS) := by unfold harmV; rfl
theorem hm_T (y : Str) : false = harmV (.bool true) y := (hv_T y).symm
theorem hm_N {y : Str} : (!plainB (Txt.lstrip (Txt.lower (openS y))) safe12) = harmV .none y := by rw [hv_N, all_eq]; unfold norm; exact Eq.refl _
theorem js_len : (Str.ofString "javascript:").length = 11 := by decide +kernel
theorem hm_L1 {y : Str} {l : Addr} (h : (Txt.slice (Txt.lstrip (Txt.lower (openS y))) none (some 11) == Str.ofString "javascript:") = true) : false = harmV (.ref l) y := by
  have e : preS (norm y) jsS = true := by unfold preS norm; rw [js_len]; exact h
  rw [hv_L, starts_pre, e, Bool.true_or, Bool.not_true]
theorem hm_L2 {y : Str} {l : Addr} (h : (Txt.slice (Txt.lstrip (Txt.lower (openS y))) none (some 11) == Str.ofString "javascript:") = false) : (!plainB (Txt.lstrip (Txt.lower (openS y))) safe12) = harmV (.ref l) y := by
  have e : preS (norm y) jsS = false := by unfold preS norm; rw [js_len]; exact h
  rw [hv_L, starts_pre, e, Bool.false_or, all_eq]; unfold norm; exact Eq.refl _
theorem truthy_l2 {prog : Program} {w : World} {A : Around} {E : Value → Shared → Prop} {s : Shared} {h₀ : Heap} {L : Addr} {news : List (Addr × Obj)} {a : Addr} {v : Value} {n : Nat} {Q : Bool → Shared → Prop} (N : News h₀ L s.heap news) (hm : (a, listOf #[v] n) ∈ news)
    (h : Q true { s with toks := s.toks + 1 + 1 }) : wpAny (model prog w) A (truthy (.ref a)) Q E s :=
  wpAny_truthy_list (items := #[v]) ⟨_, (N _ hm).1, rfl, n, rfl⟩ (by show (1 : Int) < 2 ^ 63; decide) h
local macro_rules | `(tactic| walk_at "truthy ref") => `(tactic| (k_here; refine' truthy_l2 ?k4 ?k5 ?_; (case k4 => k_asm); (case k5 => assumption)))
local macro_rules | `(tactic| walk_at "call ref") => `(tactic| (k_here; (with_reducible show wpAny _ _ (PySem.call (Value.ref 439) [Value.str _ _]) _ _ _); k_dflt (refine' use2 (open_ok _ _ _) ?k1 ?k2 ?k3 ?k4 ?k5 ?kK ?kp ?kd ?ku ?_); (case k1 => k_asm); (case k2 => k_asm); (case k3 => k_asm); (case k4 => k_asm); (case k5 => k_asm); (case kK => first | exact rfl | assumption); (case kp => omega); (case kd => first | omega | ((try dsimp only [Around.deeper, ktrTop]); omega) | ktr_room); (case ku => first | omega | ((try dsimp only [Around.deeper, ktrTop]); omega) | ktr_units); intro t9 h9 tk9 F9 N9; (try dsimp only)))
local macro_rules | `(tactic| walk_at "call ref") => `(tactic| (k_here; (with_reducible show wpAny _ _ (PySem.call (Value.ref 446) [Value.str _ _, Value.ref _]) _ _ _); k_dflt (refine' useL (plain_ok _ _ _ _ safe12 _) ?k1 ?k2 ?k3 ?k4 ?k5 ?kK ?h1 ?kp ?kd ?ku ?_); (case k1 => k_asm); (case k2 => k_asm); (case k3 => k_asm); (case k4 => k_asm); (case k5 => k_asm); (case kK => k_dflt (exact rfl)); (case h1 => (refine' srcL_K ?x ?y; (case x => assumption); (case y => k_is))); (case kp => k_dflt (exact ⟨by omega, (.cons _ _ (.cons _ _ (.cons _ _ (.cons _ _ (.cons _ _ (.cons _ _ (.cons _ _ (.cons _ _ (.cons _ _ (.cons _ _ (.cons _ _ (.cons _ _ .nil)))))))))))), safe12_len⟩)); (case kd => first | omega | ((try dsimp only [Around.deeper, ktrTop]); omega) | ktr_room); (case ku => first | omega | ((try dsimp only [Around.deeper, ktrTop]); omega) | ktr_units); intro t9 h9 tk9 F9 N9; (try dsimp only)))
theorem harm_T {w : World} (y : Str) (ty : Tok)  (news : List (Addr × Obj)) :
    MyClaim 3 w 467 news (y.length ≤ 300 ∧ True) [.str y ty, .bool true] (fun _ => .bool (harmV (.bool true) y)) := by
  dsimp only [MyClaim, CbRet]
  k_fill
  intro p loose mean mg mb dp un gd cn cs a ccd cl outer A₀ base h₀ L m s Q E hB hF hK hN hT hcs hp hd hu hret
  refine wpAny_call ?_
  k_dflt (refine' code_def ?k1 ?k2 ?k3 ?k4 ?k5 ?kA ?kF ?kK ?k6 ?k7 ?k8 ?k9 ?kB ?_ ?c2 ?c3 ?c4 ?c5; (case kA => exact rfl); (case kF => exact rfl); (case kK => assumption); (case k1 => k_asm); (case k2 => k_asm); (case k3 => k_asm); (case k4 => k_asm); (case k5 => k_asm); (case k6 => k_is); (case k7 => k_is); (case k8 => exact Nat.lt_of_le_of_lt (Nat.le_add_right _ _) hd); (case k9 => first | exact BindsTo.of_eq rfl | exact binds_K (by k_in) rfl (by k_is) rfl rfl rfl); (case c5 => decide); (case kB => exact locs rfl); (case c2 => exact rfl); (case c3 => exact rfl); (case c4 => exact rfl); k_whole; intro g' L' h' FG' F' N' B' X' T'; (try dsimp only); (try k_lift B'); (try k_fold))
  have hz : y.length ≤ 300 → (openS y).length ≤ 300 := fun hp2 => Nat.le_trans (Nat.le_trans (onceS_len _) (Nat.le_trans (onceS_len _) (onceS_len _))) hp2
  obtain ⟨hp1, hp2⟩ := hp
  replace hz := hz hp1
  k_steps
  all_goals first
    | ((with_reducible show Q (Value.bool false) _); exact cb_retB (Q := Q) hret (hm_T y) (by k_asm) (by k_asm))
    | skip
theorem harm_N {w : World} (y : Str) (ty : Tok)  (news : List (Addr × Obj)) :
    MyClaim 3 w 467 news (y.length ≤ 300 ∧ True) [.str y ty, .none] (fun _ => .bool (harmV (.none) y)) := by
  dsimp only [MyClaim, CbRet]
  k_fill
  intro p loose mean mg mb dp un gd cn cs a ccd cl outer A₀ base h₀ L m s Q E hB hF hK hN hT hcs hp hd hu hret
  refine wpAny_call ?_
  k_dflt (refine' code_def ?k1 ?k2 ?k3 ?k4 ?k5 ?kA ?kF ?kK ?k6 ?k7 ?k8 ?k9 ?kB ?_ ?c2 ?c3 ?c4 ?c5; (case kA => exact rfl); (case kF => exact rfl); (case kK => assumption); (case k1 => k_asm); (case k2 => k_asm); (case k3 => k_asm); (case k4 => k_asm); (case k5 => k_asm); (case k6 => k_is); (case k7 => k_is); (case k8 => exact Nat.lt_of_le_of_lt (Nat.le_add_right _ _) hd); (case k9 => first | exact BindsTo.of_eq rfl | exact binds_K (by k_in) rfl (by k_is) rfl rfl rfl); (case c5 => decide); (case kB => exact locs rfl); (case c2 => exact rfl); (case c3 => exact rfl); (case c4 => exact rfl); k_whole; intro g' L' h' FG' F' N' B' X' T'; (try dsimp only); (try k_lift B'); (try k_fold))
  have hz : y.length ≤ 300 → (openS y).length ≤ 300 := fun hp2 => Nat.le_trans (Nat.le_trans (onceS_len _) (Nat.le_trans (onceS_len _) (onceS_len _))) hp2
  obtain ⟨hp1, hp2⟩ := hp
  replace hz := hz hp1
  k_steps
  all_goals first
    | ((with_reducible show Q (Value.bool (!_)) _); exact cb_retB (Q := Q) hret hm_N (by k_asm) (by k_asm))
    | skip
theorem harm_L {w : World} (y : Str) (ty : Tok) (l : Addr) (t : Tok) (n : Nat) (news : List (Addr × Obj)) :
    MyClaim 3 w 467 news (y.length ≤ 300 ∧ (l, listOf #[.str jsS t] n) ∈ news) [.str y ty, .ref l] (fun _ => .bool (harmV (.ref l) y)) := by
  dsimp only [MyClaim, CbRet]
  k_fill
  intro p loose mean mg mb dp un gd cn cs a ccd cl outer A₀ base h₀ L m s Q E hB hF hK hN hT hcs hp hd hu hret
  refine wpAny_call ?_
  k_dflt (refine' code_def ?k1 ?k2 ?k3 ?k4 ?k5 ?kA ?kF ?kK ?k6 ?k7 ?k8 ?k9 ?kB ?_ ?c2 ?c3 ?c4 ?c5; (case kA => exact rfl); (case kF => exact rfl); (case kK => assumption); (case k1 => k_asm); (case k2 => k_asm); (case k3 => k_asm); (case k4 => k_asm); (case k5 => k_asm); (case k6 => k_is); (case k7 => k_is); (case k8 => exact Nat.lt_of_le_of_lt (Nat.le_add_right _ _) hd); (case k9 => first | exact BindsTo.of_eq rfl | exact binds_K (by k_in) rfl (by k_is) rfl rfl rfl); (case c5 => decide); (case kB => exact locs rfl); (case c2 => exact rfl); (case c3 => exact rfl); (case c4 => exact rfl); k_whole; intro g' L' h' FG' F' N' B' X' T'; (try dsimp only); (try k_lift B'); (try k_fold))
  have hz : y.length ≤ 300 → (openS y).length ≤ 300 := fun hp2 => Nat.le_trans (Nat.le_trans (onceS_len _) (Nat.le_trans (onceS_len _) (onceS_len _))) hp2
  obtain ⟨hp1, hp2⟩ := hp
  replace hz := hz hp1
  k_steps
  all_goals first
    | ((with_reducible show Q (Value.bool false) _); exact cb_retB (Q := Q) hret (hm_L1 (by assumption)) (by k_asm) (by k_asm))
    | ((with_reducible show Q (Value.bool (!_)) _); exact cb_retB (Q := Q) hret (hm_L2 (by assumption)) (by k_asm) (by k_asm))
    | skip
theorem harm_ok {w : World} (al : Value) (y : Str) (ty : Tok) (news : List (Addr × Obj)) (ha : AlAt news al) :
    MyClaim 3 w 467 news (y.length ≤ 300) [.str y ty, al] (fun _ => .bool (harmV al y)) := by
  rcases ha with rfl | rfl | ⟨l, t, n, rfl, hm⟩
  · exact claim_mono (Nat.le_refl _) (fun h => ⟨h, trivial⟩) (fun _ => rfl) (harm_N y ty news)
  · exact claim_mono (Nat.le_refl _) (fun h => ⟨h, trivial⟩) (fun _ => rfl) (harm_T y ty news)
  · exact claim_mono (Nat.le_refl _) (fun h => ⟨h, hm⟩) (fun _ => rfl) (harm_L y ty l t n news)
end Mine
end

section
open PySem PySem.W PyProof.Rows PySem.Calls
set_option maxRecDepth 100000
namespace Mine
section
variable {w : World} {news : List (Addr × Obj)} {M : Addr} {e : Bool} {al : Value}
theorem raw_m (h : MkAt w news M e al) (y : Str) (ty : Tok) : MyClaim 3 w 206 news (y.length ≤ 1000) [.ref M, .str y ty] (fun t => .str (if e then namesS y else y) t) :=
  useM h fun D dd t1 t2 t3 => raw_ok M D dd t1 t2 t3 e al y ty news
theorem inline_m (h : MkAt w news M e al) (y : Str) (ty : Tok) : MyClaim 4 w 306 news (y.length ≤ 1000) [.ref M, .str y ty] (fun t => .str (if e then namesS y else y) t) :=
  useM h fun D dd t1 t2 t3 => inline_ok M D dd t1 t2 t3 e al y ty news
theorem attr_m (h : MkAt w news M e al) (y : Str) (ty : Tok) (ps : List Pc) : MyClaim 6 w 213 news (Pre y ps) [.ref M, .str y ty] (fun t => .str (namesS ⟨(dsts ps).toArray⟩) t) :=
  useM h fun D dd t1 t2 t3 => attr_ok M D dd t1 t2 t3 e al y ty ps news
theorem attr_w (h : MkAt w news M e al) (y z : Str) (ty : Tok) (ps : List Pc) : MyClaim 6 w 213 news (WordP y z ps ∧ ps.length ≤ 6) [.ref M, .str y ty] (fun t => .str (namesS z) t) := by
  refine claim_mono (Nat.le_refl _) (fun hp => (word_pre hp.1 hp.2).1) (fun hp => ?_) (attr_m h y ty ps)
  funext t
  rw [(word_pre hp.1 hp.2).2]
def AttrV (v : Value) (sh : Str) : Prop := (∃ t, v = .int 5 t ∧ sh = Str.ofString "5") ∨ (∃ t, v = .int 0 t ∧ sh = Str.ofString "0") ∨ (v = .bool true ∧ sh = Str.ofString "True") ∨ (v = .none ∧ sh = Str.ofString "None") ∨ (∃ y t z ps, v = .str y t ∧ WordP y z ps ∧ ps.length ≤ 6 ∧ sh = namesS z)
theorem attr_v (h : MkAt w news M e al) (v : Value) (sh : Str) : MyClaim 6 w 213 news (AttrV v sh) [.ref M, v] (fun t => .str sh t) := by
  intro p loose mean mg mb dp un gd cn cs a ccd cl outer A₀ base h₀ L m s Q E hB hF hK hN hT hcs hp
  rcases hp with ⟨t, rfl, rfl⟩ | ⟨t, rfl, rfl⟩ | ⟨rfl, rfl⟩ | ⟨rfl, rfl⟩ | ⟨y, t, z, ps, rfl, hw, hl, rfl⟩
  · exact useM h (fun D dd t1 t2 t3 => attr_5 M D dd t1 t2 t3 e al t news) p loose mean mg mb dp un gd cn cs a ccd cl outer A₀ base h₀ L m s Q E hB hF hK hN hT hcs trivial
  · exact useM h (fun D dd t1 t2 t3 => attr_0 M D dd t1 t2 t3 e al t news) p loose mean mg mb dp un gd cn cs a ccd cl outer A₀ base h₀ L m s Q E hB hF hK hN hT hcs trivial
  · exact useM h (fun D dd t1 t2 t3 => attr_T M D dd t1 t2 t3 e al 0 news) p loose mean mg mb dp un gd cn cs a ccd cl outer A₀ base h₀ L m s Q E hB hF hK hN hT hcs trivial
  · exact useM h (fun D dd t1 t2 t3 => attr_N M D dd t1 t2 t3 e al 0 news) p loose mean mg mb dp un gd cn cs a ccd cl outer A₀ base h₀ L m s Q E hB hF hK hN hT hcs trivial
  · exact attr_w h y z t ps p loose mean mg mb dp un gd cn cs a ccd cl outer A₀ base h₀ L m s Q E hB hF hK hN hT hcs ⟨hw, hl⟩
theorem block_m (h : MkAt w news M e al) (y : Str) (ty : Tok) : MyClaim 4 w 363 news (y.length ≤ 1000) [.ref M, .str y ty] (fun t => .str (if e then Str.ofString "<p>" ++ namesS (Txt.strip y) ++ Str.ofString "</p>\n" else y ++ Str.ofString "\n") t) :=
  useM h fun D dd t1 t2 t3 => block_ok M D dd t1 t2 t3 e al y ty news
theorem safe_m (h : MkAt w news M e al) (ha : AlAt news al) (y : Str) (ty : Tok) (ps : List Pc) : MyClaim 7 w 241 news (Asc3 y ∧ y.length ≤ 300 ∧ Pre y ps) [.ref M, .str y ty] (fun t => .str (if harmV al y then HL else namesS ⟨(dsts ps).toArray⟩) t) :=
  useM h fun D dd t1 t2 t3 => safe_url_ok M D dd t1 t2 t3 e al y ty ps news ha
theorem safe_u (h : MkAt w news M e al) (ha : AlAt news al) (f hd a b : Str) (ty : Tok) : MyClaim 7 w 241 news (f ∈ frontsS ∧ hd ∈ headsS ∧ (a, b) ∈ tailsS) [.ref M, .str (f ++ hd ++ a) ty] (fun t => .str (if harmV al (f ++ hd ++ a) then HL else namesS (f ++ hd ++ b)) t) := by
  intro p loose mean mg mb dp un gd cn cs a' ccd cl outer A₀ base h₀ L m s Q E hB hF hK hN hT hcs hp hd' hu hr
  obtain ⟨h1, h2, h3⟩ := hp
  obtain ⟨ps, q1, q2⟩ := url_pre h1 h2 h3
  obtain ⟨q3, q4⟩ := url_asc h1 h2 h3
  refine safe_m h ha (f ++ hd ++ a) ty ps p loose mean mg mb dp un gd cn cs a' ccd cl outer A₀ base h₀ L m s Q E hB hF hK hN hT hcs ⟨q3, q4, q1⟩ hd' hu ?_
  rw [q2]; exact hr
theorem harm_f {al : Value} {x : Str} (h : plainB (norm x) allS = true) : harmV al x = false := by
  unfold harmV
  split
  · rfl
  · rw [h, Bool.or_true]; rfl
  · rw [h]; rfl
/-- texts without marks of HTML and percent signs -/
def plainT (y : Str) : Bool := (LL y).all (fun c => c != 38) && ascB y && decide (y.length ≤ 300) && (namesS y == y)
theorem plain_pre {y : Str} (h : plainT y = true) : Asc3 y ∧ y.length ≤ 300 ∧ Pre y (chs (LL y)) ∧ namesS ⟨(dsts (chs (LL y))).toArray⟩ = y := by
  unfold plainT at h
  simp only [Bool.and_eq_true, decide_eq_true_eq, beq_iff_eq, List.all_eq_true, bne_iff_ne] at h
  obtain ⟨⟨⟨h1, h2⟩, h3⟩, h4⟩ := h
  refine ⟨asc_of h2 h3, h3, ⟨(srcs_chs _).symm, ?_, ?_, by omega, ?_⟩, ?_⟩
  · have := ok_chs (ps := []) trivial (LL y) h1
    rwa [List.append_nil] at this
  · have := known_chs known_nil (LL y)
    rw [List.append_nil] at this; exact this
  · rw [dsts_chs, ← len_x]; omega
  · rw [dsts_chs]; exact h4
theorem safe_p (h : MkAt w news M e al) (ha : AlAt news al) (y : Str) (ty : Tok) : MyClaim 7 w 241 news (plainT y = true) [.ref M, .str y ty] (fun t => .str (if harmV al y then HL else y) t) := by
  refine claim_mono (Nat.le_refl _) (fun hp => ?_) (fun hp => ?_) (safe_m h ha y ty (chs (LL y)))
  · obtain ⟨q1, q2, q3, _⟩ := plain_pre hp
    exact ⟨q1, q2, q3⟩
  · funext t; rw [(plain_pre hp).2.2.2]
abbrev xS : Str := Str.ofString "x"
def nearS (y : Str) : Str := Txt.slice y none (some (-1)) ++ Str.ofString "x:"
theorem near_plain : (safe12.all fun y => plainT (nearS y)) = true := by decide +kernel
theorem safe_plain : (safe12.all fun y => plainT (y ++ xS) && plainB (norm (y ++ xS)) allS) = true := by decide +kernel
theorem safe_x (h : MkAt w news M e al) (ha : AlAt news al) (y : Str) (ty : Tok) : MyClaim 7 w 241 news (y ∈ safe12) [.ref M, .str (y ++ xS) ty] (fun t => .str (y ++ xS) t) := by
  have key : y ∈ safe12 → plainT (y ++ xS) = true ∧ plainB (norm (y ++ xS)) allS = true := fun hy => by
    have := List.all_eq_true.mp safe_plain y hy
    simpa using this
  refine claim_mono (Nat.le_refl _) (fun hp => (key hp).1) (fun hp => ?_) (safe_p h ha (y ++ xS) ty)
  funext t
  rw [harm_f (key hp).2]; rfl
theorem safe_n (h : MkAt w news M e al) (ha : AlAt news al) (y : Str) (ty : Tok) : MyClaim 7 w 241 news (y ∈ safe12) [.ref M, .str (nearS y) ty] (fun t => .str (if harmV al (nearS y) then HL else nearS y) t) :=
  claim_mono (Nat.le_refl _) (fun hp => List.all_eq_true.mp near_plain y hp) (fun _ => rfl) (safe_p h ha (nearS y) ty)
end
end Mine
end

section
open PySem PySem.W PyProof.Rows PySem.Calls
set_option maxRecDepth 100000
set_option maxHeartbeats 0
namespace Mine
theorem walk_state23 : True := by
  w_top off
  k_with_none
  trivial
local macro_rules | `(tactic| walk_at "execs cons") => `(tactic| (k_here; with_reducible refine gen_tk ?_; intro tk9))
local macro_rules | `(tactic| walk_at "execs nil") => `(tactic| (k_here; with_reducible refine gen_tk ?_; intro tk9))
abbrev TabRet (h₀ : Heap) (L : Addr) (m : Str → Option Value) (news : List (Addr × Obj)) (s : Shared) (Q : Value → Shared → Prop) (Tab : Value → List (Addr × Obj) → Prop) : Prop :=
  ∀ (v : Value) (led : List (Addr × Obj)) (h' : Heap) (tk' : Nat), Fr h₀ L h' m → News h₀ L h' (led ++ news) → (∀ p ∈ led, ∀ q ∈ news, q.1 < p.1) → Tab v led → Q v { s with heap := h', toks := tk' }
/-- a contract that makes new objects -/
abbrev MyClaimN (r : Nat) (w : World) (f : Addr) (news : List (Addr × Obj)) (vs : List Value) (Tab : Value → List (Addr × Obj) → Prop) : Prop :=
  ∀ (p : Program) (loose : List Str) (mean : ExcName → Option Value) (mg mb : Str → Option Value) (dp un : Nat) (gd : Option (List Code)) (cn : Str) (cs : Scope) (a : Addr) (ccd : Value) (cl : List (Str × Addr)) (outer : List Env) (A₀ : Around) (base h₀ : Heap) (L : Addr) (m : Str → Option Value) (s : Shared) (Q E : Value → Shared → Prop),
    Below A₀ base outer h₀ → Fr h₀ L s.heap m → (Mine.hd.heap_39 w.params).In h₀ → News h₀ L s.heap news → Top p loose mean mg mb h₀ → cs.kind = .function → dp + r < recursionLimit → un + 8 * r < cLine → TabRet h₀ L m news s Q Tab →
      wpAny (model PySem.Challenge.rw_fj5014_01.row.prog w) (ktrTop dp un gd cn cs L a ccd cl outer) (PySem.call (.ref f) vs) Q E s
def PairsAt (vs : List Value) (led : List (Addr × Obj)) (ps : List (Str × Str)) : Prop := vs.length = ps.length ∧ ∀ (i : Nat) (v : Value), vs[i]? = some v → ∃ (a b : Str) (r : Addr) (t1 t2 : Tok) (n : Nat), (a, b) ∈ ps ∧ v = .ref r ∧ (r, tplO [.str a t1, .str b t2] n) ∈ led
def StrTab (hs : List Str) (v : Value) (led : List (Addr × Obj)) : Prop := ∃ l vs n, v = .ref l ∧ (l, listOf vs.toArray n) ∈ led ∧ StrsAre vs hs
def PairTab (ps : List (Str × Str)) (v : Value) (led : List (Addr × Obj)) : Prop := ∃ l vs n, v = .ref l ∧ (l, listOf vs.toArray n) ∈ led ∧ PairsAt vs led ps
theorem pairs_nil {led : List (Addr × Obj)} : PairsAt [] led [] := ⟨rfl, fun i v h => by simp at h⟩
theorem pairs_cons {led : List (Addr × Obj)} {a b : Str} {r : Addr} {t1 t2 : Tok} {n : Nat} {vs : List Value} {ps : List (Str × Str)} (hm : (r, tplO [.str a t1, .str b t2] n) ∈ led) (h : PairsAt vs led ps) : PairsAt (.ref r :: vs) led ((a, b) :: ps) := by
  refine ⟨by simp [h.1], fun i v hv => ?_⟩
  cases i with
  | zero => simp at hv; exact ⟨a, b, r, t1, t2, n, .head _, hv.symm, hm⟩
  | succ i =>
    simp at hv
    obtain ⟨a', b', r', t1', t2', n', h1, h2, h3⟩ := h.2 i v hv
    exact ⟨a', b', r', t1', t2', n', .tail _ h1, h2, h3⟩
theorem heads_ok {w : World} (news : List (Addr × Obj)) : MyClaimN 1 w 403 news [] (StrTab headsS) := by
  dsimp only [MyClaimN, TabRet]
  k_fill
  intro p loose mean mg mb dp un gd cn cs a ccd cl outer A₀ base h₀ L m s Q E hB hF hK hN hT hcs hd hu hret
  refine wpAny_call ?_
  k_dflt (refine' code_def ?k1 ?k2 ?k3 ?k4 ?k5 ?kA ?kF ?kK ?k6 ?k7 ?k8 ?k9 ?kB ?_ ?c2 ?c3 ?c4 ?c5; (case kA => exact rfl); (case kF => exact rfl); (case kK => assumption); (case k1 => k_asm); (case k2 => k_asm); (case k3 => k_asm); (case k4 => k_asm); (case k5 => k_asm); (case k6 => k_is); (case k7 => k_is); (case k8 => exact Nat.lt_of_le_of_lt (Nat.le_add_right _ _) hd); (case k9 => first | exact BindsTo.of_eq rfl | exact binds_K (by k_in) rfl (by k_is) rfl rfl rfl); (case c5 => decide); (case kB => exact locs rfl); (case c2 => exact rfl); (case c3 => exact rfl); (case c4 => exact rfl); k_whole; intro g' L' h' FG' F' N' B' X' T'; (try dsimp only); (try k_lift B'); (try k_fold))
  k_steps
  all_goals (rename Fr _ _ _ _ => kF9; rename News _ _ _ _ => kN9; repeat (rename _ ∧ _ => hX; cases hX))
  all_goals refine hret (.ref _) [_] _ _ kF9 kN9 ?_ ?_
  · intro p hp q hq
    repeat (cases hp with | head => (first | exact kst_ltOf (by assumption) q hq | exact (show ∀ p ∈ news, p.1 < _ by assumption) q hq) | tail _ hp => ?_)
    first | done | cases hp
  · exact ⟨_, _, _, rfl, .head _, by unfold headsS; repeat (first | exact .nil | refine .cons _ _ ?_)⟩
theorem tails_ok {w : World} (news : List (Addr × Obj)) : MyClaimN 1 w 410 news [] (PairTab tailsS) := by
  dsimp only [MyClaimN, TabRet]
  k_fill
  intro p loose mean mg mb dp un gd cn cs a ccd cl outer A₀ base h₀ L m s Q E hB hF hK hN hT hcs hd hu hret
  refine wpAny_call ?_
  k_dflt (refine' code_def ?k1 ?k2 ?k3 ?k4 ?k5 ?kA ?kF ?kK ?k6 ?k7 ?k8 ?k9 ?kB ?_ ?c2 ?c3 ?c4 ?c5; (case kA => exact rfl); (case kF => exact rfl); (case kK => assumption); (case k1 => k_asm); (case k2 => k_asm); (case k3 => k_asm); (case k4 => k_asm); (case k5 => k_asm); (case k6 => k_is); (case k7 => k_is); (case k8 => exact Nat.lt_of_le_of_lt (Nat.le_add_right _ _) hd); (case k9 => first | exact BindsTo.of_eq rfl | exact binds_K (by k_in) rfl (by k_is) rfl rfl rfl); (case c5 => decide); (case kB => exact locs rfl); (case c2 => exact rfl); (case c3 => exact rfl); (case c4 => exact rfl); k_whole; intro g' L' h' FG' F' N' B' X' T'; (try dsimp only); (try k_lift B'); (try k_fold))
  k_steps
  all_goals (rename Fr _ _ _ _ => kF9; rename News _ _ _ _ => kN9; repeat (rename _ ∧ _ => hX; cases hX))
  all_goals refine hret (.ref _) [_,_,_,_,_,_,_,_] _ _ kF9 kN9 ?_ ?_
  · intro p hp q hq
    repeat (cases hp with | head => (first | exact kst_ltOf (by assumption) q hq | exact (show ∀ p ∈ news, p.1 < _ by assumption) q hq) | tail _ hp => ?_)
    first | done | cases hp
  · exact ⟨_, _, _, rfl, .head _, by unfold tailsS; repeat (first | exact pairs_nil | refine pairs_cons (by repeat (first | exact .head _ | refine .tail _ ?_)) ?_)⟩
theorem marks_ok {w : World} (news : List (Addr × Obj)) : MyClaimN 1 w 417 news [] (PairTab marksS) := by
  dsimp only [MyClaimN, TabRet]
  k_fill
  intro p loose mean mg mb dp un gd cn cs a ccd cl outer A₀ base h₀ L m s Q E hB hF hK hN hT hcs hd hu hret
  refine wpAny_call ?_
  k_dflt (refine' code_def ?k1 ?k2 ?k3 ?k4 ?k5 ?kA ?kF ?kK ?k6 ?k7 ?k8 ?k9 ?kB ?_ ?c2 ?c3 ?c4 ?c5; (case kA => exact rfl); (case kF => exact rfl); (case kK => assumption); (case k1 => k_asm); (case k2 => k_asm); (case k3 => k_asm); (case k4 => k_asm); (case k5 => k_asm); (case k6 => k_is); (case k7 => k_is); (case k8 => exact Nat.lt_of_le_of_lt (Nat.le_add_right _ _) hd); (case k9 => first | exact BindsTo.of_eq rfl | exact binds_K (by k_in) rfl (by k_is) rfl rfl rfl); (case c5 => decide); (case kB => exact locs rfl); (case c2 => exact rfl); (case c3 => exact rfl); (case c4 => exact rfl); k_whole; intro g' L' h' FG' F' N' B' X' T'; (try dsimp only); (try k_lift B'); (try k_fold))
  k_steps
  all_goals (rename Fr _ _ _ _ => kF9; rename News _ _ _ _ => kN9; repeat (rename _ ∧ _ => hX; cases hX))
  all_goals refine hret (.ref _) [_,_,_,_,_,_,_,_,_,_,_,_] _ _ kF9 kN9 ?_ ?_
  · intro p hp q hq
    repeat (cases hp with | head => (first | exact kst_ltOf (by assumption) q hq | exact (show ∀ p ∈ news, p.1 < _ by assumption) q hq) | tail _ hp => ?_)
    first | done | cases hp
  · exact ⟨_, _, _, rfl, .head _, by unfold marksS; repeat (first | exact pairs_nil | refine pairs_cons (by repeat (first | exact .head _ | refine .tail _ ?_)) ?_)⟩
end Mine
end

section
open PySem PySem.W PyProof.Rows PySem.Calls
set_option maxRecDepth 100000
set_option maxHeartbeats 0
namespace Mine
theorem off_nil {B : Addr} : ∀ q ∈ ([] : List (Addr × Obj)), q.1 ≠ B := fun _ h => nomatch h
theorem off_cons {B a : Addr} {o : Obj} {l : List (Addr × Obj)} (h : a ≠ B) (k : ∀ q ∈ l, q.1 ≠ B) : ∀ q ∈ (a, o) :: l, q.1 ≠ B := List.forall_mem_cons.mpr ⟨h, k⟩
theorem off_app {B : Addr} {o : Obj} {led rest : List (Addr × Obj)} (h : ∀ p ∈ led, ∀ q ∈ (B, o) :: rest, q.1 < p.1) (k : ∀ q ∈ rest, q.1 ≠ B) : ∀ q ∈ led ++ rest, q.1 ≠ B := fun q hq => by
  rcases List.mem_append.mp hq with hq | hq
  · exact Nat.ne_of_gt (h q hq (B, o) (.head _))
  · exact k q hq
theorem mark_lenB : ∀ p ∈ marksS, p.1.length ≤ 7 ∧ p.2.length ≤ 7 := by decide +kernel
theorem mark_len {a b : Str} (h : (a, b) ∈ marksS) : a.length ≤ 7 ∧ b.length ≤ 7 := mark_lenB _ h
theorem tail_len2 {a b : Str} (h : (a, b) ∈ tailsS) : a.length ≤ 5 ∧ b.length ≤ 5 := tail_len _ h
theorem box_ex {h₀ h : Heap} {L B S r : Addr} {o : Obj} {p g : Int} {tp tg : Tok} {n : Nat} {R : List (Addr × Obj)} (N : News h₀ L h ((r, o) :: (B, boxO S p tp g tg n) :: R)) (hp : 0 ≤ p) : ∃ (p' : Int) (tp' : Tok) (g' : Int) (tg' : Tok) (n' : Nat), 0 ≤ p' ∧ News h₀ L h ((r, o) :: (B, boxO S p' tp' g' tg' n') :: R) := ⟨p, tp, g, tg, n, hp, N⟩
theorem lt_ne {a b : Addr} (h : @LT.lt Nat _ b a) : a ≠ b := Nat.ne_of_gt h
section
variable {w : World} {pr : Program} {loose : List Str} {mean : ExcName → Option Value} {mg mb : Str → Option Value} {dp un : Nat} {gd : Option (List Code)} {cn : Str} {cs : Scope} {a : Addr} {ccd : Value} {cl : List (Str × Addr)} {outer : List Env} {A₀ : Around} {base h₀ : Heap} {L : Addr} {m : Str → Option Value} {s : Shared} {Q E : Value → Shared → Prop} {news : List (Addr × Obj)}
theorem pairs_use {f : Addr} {ps : List (Str × Str)} (C : ∀ news, MyClaimN 1 w f news [] (PairTab ps)) (hB : Below A₀ base outer h₀) (hF : Fr h₀ L s.heap m) (hK : (Mine.hd.heap_39 w.params).In h₀) (hN : News h₀ L s.heap news) (hT : Top pr loose mean mg mb h₀) (hcs : cs.kind = .function) (hd : dp + 1 < recursionLimit) (hu : un + 8 * 1 < cLine)
    (h : ∀ (l : Addr) (led : List (Addr × Obj)) (vs : List Value) (n : Nat) (h' : Heap) (tk' : Nat), (l, listOf vs.toArray n) ∈ led → PairsAt vs led ps → (∀ p ∈ led, ∀ q ∈ news, q.1 < p.1) → Fr h₀ L h' m → News h₀ L h' (led ++ news) → Q (.ref l) { s with heap := h', toks := tk' }) :
    wpAny (model PySem.Challenge.rw_fj5014_01.row.prog w) (ktrTop dp un gd cn cs L a ccd cl outer) (PySem.call (.ref f) []) Q E s := by
  refine C news pr loose mean mg mb dp un gd cn cs a ccd cl outer A₀ base h₀ L m s Q E hB hF hK hN hT hcs hd hu ?_
  rintro v led h' tk' F' N' ho ⟨l, vs, n, rfl, h1, h2⟩
  exact h l led vs n h' tk' h1 h2 ho F' N'
theorem pairs_len {f : Addr} {ps : List (Str × Str)} (C : ∀ news, MyClaimN 1 w f news [] (PairTab ps)) (hB : Below A₀ base outer h₀) (hF : Fr h₀ L s.heap m) (hK : (Mine.hd.heap_39 w.params).In h₀) (hN : News h₀ L s.heap news) (hT : Top pr loose mean mg mb h₀) (hcs : cs.kind = .function) (hd : dp + 1 < recursionLimit) (hu : un + 8 * 1 < cLine)
    (h : ∀ (l : Addr) (vs : List Value) (n : Nat) (h' : Heap) (tk' : Nat), vs.length = ps.length → Fr h₀ L h' m → News h₀ L h' ((l, listOf vs.toArray n) :: news) → Q (.ref l) { s with heap := h', toks := tk' }) :
    wpAny (model PySem.Challenge.rw_fj5014_01.row.prog w) (ktrTop dp un gd cn cs L a ccd cl outer) (PySem.call (.ref f) []) Q E s := by
  refine pairs_use C hB hF hK hN hT hcs hd hu fun l led vs n h' tk' h1 h2 ho F' N' => h l vs n h' tk' h2.1 F' fun p hp => ?_
  rcases List.mem_cons.mp hp with rfl | hp
  · exact N' _ (List.mem_append_left _ h1)
  · exact N' _ (List.mem_append_right _ hp)
theorem heads_use (hB : Below A₀ base outer h₀) (hF : Fr h₀ L s.heap m) (hK : (Mine.hd.heap_39 w.params).In h₀) (hN : News h₀ L s.heap news) (hT : Top pr loose mean mg mb h₀) (hcs : cs.kind = .function) (hd : dp + 1 < recursionLimit) (hu : un + 8 * 1 < cLine)
    (h : ∀ (l : Addr) (led : List (Addr × Obj)) (vs : List Value) (n : Nat) (h' : Heap) (tk' : Nat), (l, listOf vs.toArray n) ∈ led → StrsAre vs headsS → (∀ p ∈ led, ∀ q ∈ news, q.1 < p.1) → Fr h₀ L h' m → News h₀ L h' (led ++ news) → Q (.ref l) { s with heap := h', toks := tk' }) :
    wpAny (model PySem.Challenge.rw_fj5014_01.row.prog w) (ktrTop dp un gd cn cs L a ccd cl outer) (PySem.call (.ref 403) []) Q E s := by
  refine heads_ok news pr loose mean mg mb dp un gd cn cs a ccd cl outer A₀ base h₀ L m s Q E hB hF hK hN hT hcs hd hu ?_
  rintro v led h' tk' F' N' ho ⟨l, vs, n, rfl, h1, h2⟩
  exact h l led vs n h' tk' h1 h2 ho F' N'
theorem heads_len (hB : Below A₀ base outer h₀) (hF : Fr h₀ L s.heap m) (hK : (Mine.hd.heap_39 w.params).In h₀) (hN : News h₀ L s.heap news) (hT : Top pr loose mean mg mb h₀) (hcs : cs.kind = .function) (hd : dp + 1 < recursionLimit) (hu : un + 8 * 1 < cLine)
    (h : ∀ (l : Addr) (vs : List Value) (n : Nat) (h' : Heap) (tk' : Nat), vs.length = headsS.length → Fr h₀ L h' m → News h₀ L h' ((l, listOf vs.toArray n) :: news) → Q (.ref l) { s with heap := h', toks := tk' }) :
    wpAny (model PySem.Challenge.rw_fj5014_01.row.prog w) (ktrTop dp un gd cn cs L a ccd cl outer) (PySem.call (.ref 403) []) Q E s := by
  refine heads_use hB hF hK hN hT hcs hd hu fun l led vs n h' tk' h1 h2 ho F' N' => h l vs n h' tk' (strs_len h2) F' fun p hp => ?_
  rcases List.mem_cons.mp hp with rfl | hp
  · exact N' _ (List.mem_append_left _ h1)
  · exact N' _ (List.mem_append_right _ hp)
end
section
variable {prog : Program} {w : World} {A : Around} {E : Value → Shared → Prop} {s : Shared} {h₀ : Heap} {L l : Addr} {m : Str → Option Value} {news led rest : List (Addr × Obj)} {e : Addr × Obj} {vs : List Value} {hs : List Str} {ps : List (Str × Str)} {k : Int} {u : Tok} {n c : Nat} {value slice : Expr} {Q : Value → Shared → Prop}
theorem len_led (N : News h₀ L s.heap ((l, listOf vs.toArray n) :: news)) (hl : vs.length = c) (hz : c ≤ 1000) (h : News h₀ L s.heap news → ∀ (t : Tok) (tk : Nat), Q (.int (c : Int) t) { s with toks := tk }) :
    wpAny (model prog w) A (PySem.call (.builtin "len") [.ref l]) Q E s := by
  subst hl
  refine call_len_list (items := vs.toArray) ⟨_, (N _ (.head _)).1, rfl, n, rfl⟩ (by rw [List.size_toArray]; omega) ?_
  have := h (fun p hp => N p (.tail _ hp)) (s.toks + 1) (s.toks + 1 + 1)
  rwa [List.size_toArray]
theorem pick_pair (N : News h₀ L s.heap (e :: (led ++ rest))) (hm : (l, listOf vs.toArray n) ∈ led) (hp : PairsAt vs led ps) (h0 : 0 ≤ k) (h1 : k < (ps.length : Int)) (hz : ps.length ≤ 1000) {e' : Addr × Obj} (ho : ∀ p ∈ led, ∀ q ∈ e' :: rest, q.1 < p.1) (he : e'.1 = e.1)
    (h : ∀ (r : Addr) (a b : Str) (t1 t2 : Tok) (n : Nat), (a, b) ∈ ps → (∀ q ∈ e :: rest, q.1 < r) → News h₀ L s.heap ((r, tplO [.str a t1, .str b t2] n) :: e :: rest) → Q (.ref r) s)
    (hss : subscripted slice false (.ref l) (.int k u) = operate [.ref l, .int k u] (getItem (.ref l) (.int k u)) := by with_unfolding_all rfl) :
    wpAny (model prog w) A (subscriptTail value slice (.ref l) (.int k u)) Q E s := by
  have hl := hp.1
  have hk : k.toNat < vs.length := by omega
  obtain ⟨a, b, r, t1, t2, n', q1, q2, q3⟩ := hp.2 k.toNat _ (List.getElem?_eq_getElem hk)
  refine item_listR ⟨_, (N _ (.tail _ (List.mem_append_left _ hm))).1, rfl, n, rfl⟩ h0 (by omega) (x := .ref r) (by rw [List.getElem?_toArray, List.getElem?_eq_getElem hk, q2]) ?_ hss
  refine h r a b t1 t2 n' q1 (fun q hq => ?_) (fun q hq => ?_)
  · rcases List.mem_cons.mp hq with rfl | hq
    · have := ho _ q3 e' (.head _); rw [he] at this; exact this
    · exact ho _ q3 q (.tail _ hq)
  · rcases List.mem_cons.mp hq with rfl | hq
    · exact N _ (.tail _ (List.mem_append_left _ q3))
    · rcases List.mem_cons.mp hq with rfl | hq
      · exact N _ (.head _)
      · exact N _ (.tail _ (List.mem_append_right _ hq))
theorem pick_head (N : News h₀ L s.heap (e :: (led ++ rest))) (hm : (l, listOf vs.toArray n) ∈ led) (hi : StrsAre vs hs) (h0 : 0 ≤ k) (h1 : k < (hs.length : Int)) (hz : hs.length ≤ 1000)
    (h : ∀ (y : Str) (t : Tok), y ∈ hs → News h₀ L s.heap (e :: rest) → Q (.str y t) s)
    (hss : subscripted slice false (.ref l) (.int k u) = operate [.ref l, .int k u] (getItem (.ref l) (.int k u)) := by with_unfolding_all rfl) :
    wpAny (model prog w) A (subscriptTail value slice (.ref l) (.int k u)) Q E s := by
  refine pick_strs N (.tail _ (List.mem_append_left _ hm)) hi h0 h1 hz (fun y t hy => h y t (List.mem_of_getElem? hy) fun q hq => ?_) hss
  rcases List.mem_cons.mp hq with rfl | hq
  · exact N _ (.head _)
  · exact N _ (.tail _ (List.mem_append_right _ hq))
/-- a pick out of a written list of texts -/
theorem pick_menu (N : News h₀ L s.heap (e :: (l, listOf vs.toArray n) :: rest)) (hi : StrsAre vs hs) (h0 : 0 ≤ k) (h1 : k < (hs.length : Int)) (hz : hs.length ≤ 1000)
    (h : ∀ (y : Str) (t : Tok), y ∈ hs → News h₀ L s.heap (e :: rest) → Q (.str y t) s)
    (hss : subscripted slice false (.ref l) (.int k u) = operate [.ref l, .int k u] (getItem (.ref l) (.int k u)) := by with_unfolding_all rfl) :
    wpAny (model prog w) A (subscriptTail value slice (.ref l) (.int k u)) Q E s := by
  refine pick_head (led := [(l, listOf vs.toArray n)]) (rest := rest) N (.head _) hi h0 h1 hz h hss
end
end Mine
end

section
open PySem PySem.W PyProof.Rows PySem.Calls
set_option maxRecDepth 100000
set_option maxHeartbeats 0
namespace Mine
theorem walk_state24 : True := by
  w_top off
  k_with_none
  trivial
local macro_rules | `(tactic| walk_at "execs cons") => `(tactic| (k_here; with_reducible refine gen_tk ?_; intro tk9))
local macro_rules | `(tactic| walk_at "execs nil") => `(tactic| (k_here; with_reducible refine gen_tk ?_; intro tk9))
local macro_rules | `(tactic| walk_at "call ref") => `(tactic| (k_here; (with_reducible show wpAny _ _ (PySem.call (Value.ref 425) [Value.ref _, Value.int _ _]) _ _ _); (rename News _ _ _ _ => nX); k_dflt (first | (refine' draw_use (tmp := _) (rest := _) ?k1 ?k2 ?k3 ?k4 ?k5 ?k6 ?k7 ?k8 ?k9 ?k10 ?k11 ?k12 ?k13 ?kd ?ku ?_; (case k4 => with_reducible exact nX)) | (refine' draw_use (tmp := []) (rest := _) ?k1 ?k2 ?k3 ?k4 ?k5 ?k6 ?k7 ?k8 ?k9 ?k10 ?k11 ?k12 ?k13 ?kd ?ku ?_; (case k4 => exact nX)) | (refine' draw_use (tmp := [_]) (rest := _) ?k1 ?k2 ?k3 ?k4 ?k5 ?k6 ?k7 ?k8 ?k9 ?k10 ?k11 ?k12 ?k13 ?kd ?ku ?_; (case k4 => exact nX)) | (refine' draw_use (tmp := [_, _]) (rest := _) ?k1 ?k2 ?k3 ?k4 ?k5 ?k6 ?k7 ?k8 ?k9 ?k10 ?k11 ?k12 ?k13 ?kd ?ku ?_; (case k4 => exact nX)) | (refine' draw_use (tmp := [_, _, _]) (rest := _) ?k1 ?k2 ?k3 ?k4 ?k5 ?k6 ?k7 ?k8 ?k9 ?k10 ?k11 ?k12 ?k13 ?kd ?ku ?_; (case k4 => exact nX)) | (refine' draw_use (tmp := [_, _, _, _]) (rest := _) ?k1 ?k2 ?k3 ?k4 ?k5 ?k6 ?k7 ?k8 ?k9 ?k10 ?k11 ?k12 ?k13 ?kd ?ku ?_; (case k4 => exact nX))); (case k1 => k_asm); (case k2 => k_asm); (case k3 => k_asm); (case k5 => k_asm); (case k6 => k_dflt (exact rfl)); (case k7 => assumption); (case k8 => assumption); (case k9 => omega); (case k10 => k_dflt (repeat' (first | exact off_nil | (refine off_cons ?_ ?_) | (refine off_app (by assumption) ?_) | assumption | exact lt_ne (by assumption) | k_ne))); (case k11 => first | assumption | omega | k_dflt decide); (case k12 => k_dflt decide); (case k13 => k_dflt decide); (case kd => first | omega | ((try dsimp only [Around.deeper, ktrTop]); omega) | ktr_room); (case ku => first | omega | ((try dsimp only [Around.deeper, ktrTop]); omega) | ktr_units); clear nX; intro k1 t1 p1 tp1 g1 tg1 n1 h1 tk1 hk0 hk1 hp1 F1 N1; (try dsimp only); (try dsimp only [List.cons_append, List.nil_append] at N1)))
local macro_rules | `(tactic| walk_at "call ref") => `(tactic| (k_here; (with_reducible show wpAny _ _ (PySem.call (Value.ref 417) _) _ _ _); k_dflt (refine' pairs_use marks_ok ?k1 ?k2 ?k3 ?k4 ?k5 ?k6 ?kd ?ku ?_); (case k1 => k_asm); (case k2 => k_asm); (case k3 => k_asm); (case k4 => k_asm); (case k5 => k_asm); (case k6 => k_dflt (exact rfl)); (case kd => first | omega | ((try dsimp only [Around.deeper, ktrTop]); omega) | ktr_room); (case ku => first | omega | ((try dsimp only [Around.deeper, ktrTop]); omega) | ktr_units); intro l7 led7 vs7 n7 h7 tk7 hm7 hp7 ho7 F7 N7; (try dsimp only)))
local macro_rules | `(tactic| walk_at "call ref") => `(tactic| (k_here; (with_reducible show wpAny _ _ (PySem.call (Value.ref 417) _) _ _ _); (rename News _ _ _ (_ ++ _) => nX); k_dflt (refine' pairs_len marks_ok ?k1 ?k2 ?k3 ?k4 ?k5 ?k6 ?kd ?ku ?_); (case k1 => k_asm); (case k2 => k_asm); (case k3 => k_asm); (case k4 => k_asm); (case k5 => k_asm); (case k6 => k_dflt (exact rfl)); (case kd => first | omega | ((try dsimp only [Around.deeper, ktrTop]); omega) | ktr_room); (case ku => first | omega | ((try dsimp only [Around.deeper, ktrTop]); omega) | ktr_units); intro l8 vs8 n8 h8 tk8 hl8 F8 N8; (try dsimp only)))
local macro_rules | `(tactic| walk_at "call builtin:len") => `(tactic| (k_here; (rename News _ _ _ _ => nX); k_dflt (refine' len_led nX ?k1 ?k2 ?_); (case k1 => assumption); (case k2 => k_dflt decide); clear nX; intro N8 t8 tk8; (try dsimp only)))
local macro_rules | `(tactic| walk_at "subscriptTail") => `(tactic| (k_here; (rename News _ _ _ _ => nX); k_dflt (refine' pick_pair nX (by assumption) (by assumption) (by assumption) (by assumption) (by decide) (by assumption) (by rfl) ?_); clear nX; intro r6 a6 b6 t6 u6 n6 hm6 l6 N6; (try k_lt l6); (first | (have hl6 := mark_len hm6) | (have hl6 := tail_len2 hm6) | skip)))
local macro_rules | `(tactic| walk_at "subscriptTail Call Name ref int") => `(tactic| (k_here; (rename News _ _ _ _ => nX); k_dflt (refine' pick_pair nX (by assumption) (by assumption) (by assumption) (by assumption) (by decide) (by assumption) (by rfl) ?_); clear nX; intro r6 a6 b6 t6 u6 n6 hm6 l6 N6; (try k_lt l6); (first | (have hl6 := mark_len hm6) | (have hl6 := tail_len2 hm6) | skip)))
local macro_rules | `(tactic| walk_at "pyIter ref") => `(tactic| refine stop ?_)
local macro_rules | `(tactic| walk_at "InvEndN") => `(tactic| refine stop ?_)
theorem words_call {w : World} (B S : Addr) (svs : List Value) (sns : List Int) (p : Int) (tp : Tok) (g : Int) (tg : Tok) (n : Nat) (rest : List (Addr × Obj)) :
  ∀ (pr : Program) (loose : List Str) (mean : ExcName → Option Value) (mg mb : Str → Option Value) (dp un : Nat) (gd : Option (List Code)) (cn : Str) (cs : Scope) (a : Addr) (ccd : Value) (cl : List (Str × Addr)) (outer : List Env) (A₀ : Around) (base h₀ : Heap) (L : Addr) (m : Str → Option Value) (s : Shared) (Q E : Value → Shared → Prop),
    Below A₀ base outer h₀ → Fr h₀ L s.heap m → (Mine.hd.heap_39 w.params).In h₀ → News h₀ L s.heap ((B, boxO S p tp g tg n) :: rest) → Top pr loose mean mg mb h₀ → cs.kind = .function → h₀.IsList S svs.toArray → IntsAre svs sns → sns.length ≤ 63 → (∀ q ∈ rest, q.1 ≠ B) → 0 ≤ p → dp + 2 < recursionLimit → un + 8 * 2 < cLine →
    (∀ (r : Addr) (x y : Str) (tx ty : Tok) (ps : List Pc) (nn : Nat) (p' : Int) (tp' : Tok) (g' : Int) (tg' : Tok) (n' : Nat) (h' : Heap) (tk' : Nat), WordP x y ps → 1 ≤ ps.length → ps.length ≤ 6 → 0 ≤ p' → r ≠ B → Fr h₀ L h' m → News h₀ L h' ((r, tplO [.str x tx, .str y ty] nn) :: (B, boxO S p' tp' g' tg' n') :: rest) → Q (.ref r) { s with heap := h', toks := tk' }) →
      wpAny (model PySem.Challenge.rw_fj5014_01.row.prog w) (ktrTop dp un gd cn cs L a ccd cl outer) (PySem.call (.ref 460) [.ref B]) Q E s := by
  dsimp only [boxO]
  k_fill
  intro pr loose mean mg mb dp un gd cn cs a ccd cl outer A₀ base h₀ L m s Q E hB hF hK hN hT hcs hS hi hz hoff hp0 hd hu hret
  refine wpAny_call ?_
  k_dflt (refine' code_def ?k1 ?k2 ?k3 ?k4 ?k5 ?kA ?kF ?kK ?k6 ?k7 ?k8 ?k9 ?kB ?_ ?c2 ?c3 ?c4 ?c5; (case kA => exact rfl); (case kF => exact rfl); (case kK => assumption); (case k1 => k_asm); (case k2 => k_asm); (case k3 => k_asm); (case k4 => k_asm); (case k5 => k_asm); (case k6 => k_is); (case k7 => k_is); (case k8 => exact Nat.lt_of_le_of_lt (Nat.le_add_right _ _) hd); (case k9 => first | exact BindsTo.of_eq rfl | exact binds_K (by k_in) rfl (by k_is) rfl rfl rfl); (case c5 => decide); (case kB => exact locs rfl); (case c2 => exact rfl); (case c3 => exact rfl); (case c4 => exact rfl); k_whole; intro g' L' h' FG' F' N' B' X' T'; (try dsimp only); (try k_lift B'); (try k_fold))
  replace hS : g'.IsList S svs.toArray := hS.at fun o e => FG'.keep _ _ e
  k_steps
  unfold Stop
  rename Fr _ _ _ _ => lF
  rename News _ _ _ _ => lN
  rename IsRange _ _ _ _ _ _ _ _ => rgX
  refine' kst_range (σ := Int × Tok × Int × Tok × Nat × Str × Tok × Str × Tok × List Pc) (fun c => (B, boxO S c.1 c.2.1 c.2.2.1 c.2.2.2.1 c.2.2.2.2.1) :: rest) (fun c => [(Str.ofString "text", .str c.2.2.2.2.2.1 c.2.2.2.2.2.2.1), (Str.ofString "read", .str c.2.2.2.2.2.2.2.1 c.2.2.2.2.2.2.2.2.1)]) (fun _ => True) [Str.ofString "one", Str.ofString "two"]
    (fun pre c => 0 ≤ c.1 ∧ WordP c.2.2.2.2.2.1 c.2.2.2.2.2.2.2.1 c.2.2.2.2.2.2.2.2.2 ∧ c.2.2.2.2.2.2.2.2.2.length = pre.length) ⟨_, _, _, _, _, Str.ofString "", ?t1, Str.ofString "", ?t2, []⟩ (by rfl) rgX (small_one (by omega) (by omega) (by omega) (by omega)) (rangeSize_nat _ _) lF lN trivial ?kk ⟨by assumption, word_start, rfl⟩ ?turn ?done
  case kk =>
    intro p hp; cases hp with
    | head => rfl
    | tail _ h => cases h with
      | head => rfl
      | tail _ h => cases h
  case turn =>
    rintro ⟨p2, tp2, g2, tg2, n2, tx, ttx, rd, trd, ps⟩ kPre kN kT kU kH kTk kOwn kEq kLt kOff - ⟨kP, kW, kL⟩ kFr kNews
    dsimp only at *
    dsimp only [kstB] at kFr
    clear lF lN
    have hoff2 : ∀ q ∈ rest ++ kOwn, q.1 ≠ B := fun q hq => by
      rcases List.mem_append.mp hq with hq | hq
      · exact hoff q hq
      · exact kOff q hq B (.head _)
    dsimp only [List.cons_append] at kNews
    have hLen := word_len kW
    k_steps
    unfold Stop
    rename (_, _) ∈ marksS => hm9
    obtain ⟨pc, hpc⟩ := word_step kW hm9
    rename Fr _ _ _ _ => kF9
    rename News _ _ _ _ => kN9
    obtain ⟨p9, tp9, g9, tg9, n9, hp9, kN8⟩ := box_ex kN9 (by assumption)
    refine kst_end ⟨p9, tp9, g9, tg9, n9, _, ?tt1, _, ?tt2, ps ++ [pc]⟩ kF9 kN8 ?hn ?ho rfl trivial ?hk ?hr ⟨hp9, hpc, by simp [kL]⟩
    case hk =>
      intro p hp; cases hp with
      | head => rfl
      | tail _ h => cases h with
        | head => rfl
        | tail _ h => cases h
    case hn =>
      intro p hp
      rcases List.mem_cons.mp hp with rfl | hp
      · exact .tail _ (.head _)
      · exact .tail _ (.tail _ (List.mem_append_left _ hp))
    case ho => intro p hp; exact .tail _ (.tail _ (List.mem_append_right _ hp))
    case hr =>
      intro z h1 h2 h3
      simp only [List.forall_mem_cons, List.not_mem_nil, false_implies, implies_true, and_true, ne_eq] at h2
      simp only [List.contains_cons, List.contains_nil, Bool.or_false, Bool.or_eq_false_iff, beq_eq_false_iff_ne, ne_eq] at h3
      simp [h1, h2, h3]
  case done =>
    rintro ⟨p2, tp2, g2, tg2, n2, tx, ttx, rd, trd, ps⟩ kU kH kTk - ⟨kP, kW, kL⟩ kFr kNews
    dsimp only at *
    dsimp only [kstB] at kFr
    clear lF lN
    rw [rangeKs_length] at kL
    k_steps
    all_goals (rename Fr _ _ _ _ => kF9; rename News _ _ _ _ => kN9; rename _ ∧ _ => hX)
    exact hret _ tx rd _ _ ps _ p2 tp2 g2 tg2 n2 _ _ kW (by omega) (by omega) kP (lt_ne hX.1) kF9 kN9
end Mine
end

section
open PySem PySem.W PyProof.Rows PySem.Calls
set_option maxRecDepth 100000
set_option maxHeartbeats 0
namespace Mine
theorem al_pick {l : Addr} {t : Tok} {n : Nat} {R : List (Addr × Obj)} {i : Nat} {v : Value} (h : [Value.none, Value.none, Value.bool true, Value.ref l][i]? = some v) (hm : (l, listOf #[.str jsS t] n) ∈ R) : AlAt R v := by
  match i, h with
  | 0, h => simp at h; exact .inl h.symm
  | 1, h => simp at h; exact .inl h.symm
  | 2, h => simp at h; exact .inr (.inl h.symm)
  | 3, h => simp at h; exact .inr (.inr ⟨l, t, n, h.symm, hm⟩)
  | n + 4, h => simp at h
theorem al_cons {R : List (Addr × Obj)} {v : Value} {e : Addr × Obj} (h : AlAt R v) : AlAt (e :: R) v := by
  rcases h with h | h | ⟨l, t, n, h, hm⟩
  · exact .inl h
  · exact .inr (.inl h)
  · exact .inr (.inr ⟨l, t, n, h, .tail _ hm⟩)
theorem al_mono {R R' : List (Addr × Obj)} {v : Value} (h : AlAt R v) (hs : ∀ p ∈ R, p ∈ R') : AlAt R' v := by
  rcases h with h | h | ⟨l, t, n, h, hm⟩
  · exact .inl h
  · exact .inr (.inl h)
  · exact .inr (.inr ⟨l, t, n, h, hs _ hm⟩)
theorem if_f {α : Type} {b : Bool} {x y : α} (h : b = false) : (if b = true then x else y) = y := by subst h; rfl
theorem if_t {α : Type} {b : Bool} {x y : α} (h : b = true) : (if b = true then x else y) = x := by subst h; rfl
theorem url_l {f h a b : Str} (hf : f ∈ frontsS) (hh : h ∈ headsS) (ht : (a, b) ∈ tailsS) : (f ++ h ++ a).length ≤ 300 := Nat.le_trans (url_len hf hh ht).1 (by omega)
theorem url_k {f h a b : Str} (hf : f ∈ frontsS) (hh : h ∈ headsS) (ht : (a, b) ∈ tailsS) : (f ++ h ++ a).length ≤ 1000 := Nat.le_trans (url_len hf hh ht).1 (by omega)
theorem url_n {f h a b : Str} (hf : f ∈ frontsS) (hh : h ∈ headsS) (ht : (a, b) ∈ tailsS) : (f ++ h ++ b).length ≤ 1048576 := Nat.le_trans (url_len hf hh ht).2.1 (by omega)
theorem front_len {f : Str} (h : f ∈ frontsS) : f.length ≤ 2 := (front_chs f h).2
theorem head_len {f : Str} (h : f ∈ headsS) : f.length ≤ 20 := (head_chs f h).2
theorem isnot_eq {M : Model} {A : Around} {Q E : Value → Shared → Prop} {s : Shared} {c d : Bool} (e : c = d) (h : Q (.bool false) s) : wpAny M A (compareOp .IsNot (.bool c) (.bool d)) Q E s := isnot_bool (by subst e; cases c <;> exact h)
theorem ne_same {prog : Program} {w : World} {A : Around} {Q E : Value → Shared → Prop} {s : Shared} {x y : Str} {t u : Tok} (e : x = y) (h : Q (.bool false) s) : wpAny (model prog w) A (compareOp .NotEq (.str x t) (.str y u)) Q E s := PyProof.Rows.ne_str (by subst e; rw [bne_self_eq_false]; exact h)
theorem eq_same {prog : Program} {w : World} {A : Around} {Q E : Value → Shared → Prop} {s : Shared} {x y : Str} {t u : Tok} (e : x = y) (h : Q (.bool true) s) : wpAny (model prog w) A (compareOp .Eq (.str x t) (.str y u)) Q E s := PyProof.Rows.eq_str (by subst e; rw [beq_self_eq_true]; exact h)
theorem nameBox {B S : Addr} {p g : Int} {tp tg : Tok} {n : Nat} {rest : List (Addr × Obj)} {h₀ h : Heap} {L : Addr} {P : Prop} (_N : News h₀ L h ((B, boxO S p tp g tg n) :: rest)) (k : ∀ (B' S' : Addr) (p' : Int) (tp' : Tok) (g' : Int) (tg' : Tok) (n' : Nat), B' = B → S' = S → p' = p → tp' = tp → g' = g → tg' = tg → n' = n → P) : P := k B S p tp g tg n rfl rfl rfl rfl rfl rfl rfl
section
variable {prog : Program} {w : World} {A : Around} {E : Value → Shared → Prop} {s : Shared} {h₀ : Heap} {L l lj : Addr} {b : Addr × Obj} {news : List (Addr × Obj)} {k : Int} {u t : Tok} {n nj : Nat} {value slice : Expr} {Q : Value → Shared → Prop}
theorem pick_allow (N : News h₀ L s.heap (b :: (l, listOf #[Value.none, Value.none, Value.bool true, Value.ref lj] n) :: (lj, listOf #[.str jsS t] nj) :: news)) (h0 : 0 ≤ k) (h1 : k < 4)
    (h : ∀ v, AlAt ((lj, listOf #[.str jsS t] nj) :: news) v → News h₀ L s.heap (b :: (lj, listOf #[.str jsS t] nj) :: news) → Q v s)
    (hss : subscripted slice false (.ref l) (.int k u) = operate [.ref l, .int k u] (getItem (.ref l) (.int k u)) := by with_unfolding_all rfl) :
    wpAny (model prog w) A (subscriptTail value slice (.ref l) (.int k u)) Q E s := by
  refine pick_any (vs := [Value.none, Value.none, Value.bool true, Value.ref lj]) N (.tail _ (.head _)) h0 h1 (by simp) (fun v hv => h v (al_pick hv (.head _)) fun p hp => N p ?_) hss
  rcases List.mem_cons.mp hp with rfl | hp
  · exact .head _
  · exact .tail _ (.tail _ hp)
end
section
variable {w : World} {pr : Program} {loose : List Str} {mean : ExcName → Option Value} {mg mb : Str → Option Value} {dp un : Nat} {gd : Option (List Code)} {cn : Str} {cs : Scope} {a : Addr} {ccd : Value} {cl : List (Str × Addr)} {outer : List Env} {A₀ : Around} {base h₀ : Heap} {L B : Addr} {m : Str → Option Value} {s : Shared} {Q E : Value → Shared → Prop} {R₀ : List (Addr × Obj)} {o : Obj}
theorem make_use (e : Bool) (al : Value) (hB : Below A₀ base outer h₀) (hF : Fr h₀ L s.heap m) (hK : (Mine.hd.heap_39 w.params).In h₀) (hN : News h₀ L s.heap ((B, o) :: R₀)) (hT : Top pr loose mean mg mb h₀) (hcs : cs.kind = .function) (hoff : ∀ q ∈ R₀, q.1 ≠ B) (ha : AlAt R₀ al) (hd : dp + 2 < recursionLimit) (hu : un + 8 * 2 < cLine)
    (h : ∀ (R : List (Addr × Obj)) (M D dd : Addr) (t1 t2 t3 : Tok) (h' : Heap) (tk' : Nat), AlAt R al → (∀ q ∈ R, q.1 ≠ B) → M ≠ B → D ≠ B → Fr h₀ L h' m → News h₀ L h' ((B, o) :: (M, instObj 380 D) :: (D, mkD w dd t1 t2 t3 e al) :: R) → Q (.ref M) { s with heap := h', toks := tk' }) :
    wpAny (model PySem.Challenge.rw_fj5014_01.row.prog w) (ktrTop dp un gd cn cs L a ccd cl outer) (PySem.call (.ref 380) [] [(Str.ofString "escape", .bool e), (Str.ofString "allow_harmful_protocols", al)]) Q E s := by
  refine make_ok e al ((B, o) :: R₀) pr loose mean mg mb dp un gd cn cs a ccd cl outer A₀ base h₀ L m s Q E hB hF hK hN hT hcs hd hu fun x d dd t1 t2 t3 h' tk' F' N' l1 l2 => ?_
  have hb := l1 (B, o) (.head _)
  refine h R₀ x d dd t1 t2 t3 h' tk' ha hoff (Nat.ne_of_gt (Nat.lt_trans hb l2)) (Nat.ne_of_gt hb) F' fun p hp => N' p ?_
  rcases List.mem_cons.mp hp with rfl | hp
  · exact .tail _ (.tail _ (.head _))
  · rcases List.mem_cons.mp hp with rfl | hp
    · exact .head _
    · rcases List.mem_cons.mp hp with rfl | hp
      · exact .tail _ (.head _)
      · exact .tail _ (.tail _ (.tail _ hp))
end
end Mine
end

section
open PySem PySem.W PyProof.Rows PySem.Calls
set_option maxRecDepth 100000
set_option maxHeartbeats 0
namespace Mine
/-! the law's own body, cut in three -/
def lawBody : List Stmt := match PySem.Challenge.pw_fj5014_01.main.body.getLast? with
  | some (.FunctionDef (body := b) ..) => b
  | _ => []
def lawScope : Scope := match PySem.Challenge.pw_fj5014_01.main.body.getLast? with
  | some (.FunctionDef (scope := b) ..) => b
  | _ => PySem.Challenge.pw_fj5014_01.main.scope
def lawTurn : List Stmt := match lawBody with
  | _ :: _ :: _ :: _ :: _ :: .For (body := b) .. :: _ => b
  | _ => []
def lawTail : List Stmt := lawBody.drop 6
abbrev turnSt : List Str := [Str.ofString "front", Str.ofString "head", Str.ofString "tail", Str.ofString "told", Str.ofString "url", Str.ofString "wanted", Str.ofString "first", Str.ofString "second", Str.ofString "plain"]
abbrev lawM (S B M : Addr) (e : Bool) (al : Value) : Str → Option Value := fun y =>
  if y = Str.ofString "maker" then some (.ref M) else if y = Str.ofString "escaped" then some (.bool e) else if y = Str.ofString "allow" then some al else if y = Str.ofString "box" then some (.ref B) else List.lookup y [(Str.ofString "script", Value.ref S)]
abbrev mkR (w : World) (B S M D dd : Addr) (p : Int) (tp : Tok) (g : Int) (tg : Tok) (n : Nat) (t1 t2 t3 : Tok) (e : Bool) (al : Value) (R : List (Addr × Obj)) : List (Addr × Obj) := (B, boxO S p tp g tg n) :: (M, instObj 380 D) :: (D, mkD w dd t1 t2 t3 e al) :: R
end Mine
end

section
open PySem PySem.W PyProof.Rows PySem.Calls
set_option maxRecDepth 100000
set_option maxHeartbeats 0
namespace Mine
def lawTurnD : List Stmt := lawTurn.drop 7
theorem box_in {h₀ h : Heap} {L B S : Addr} {p g : Int} {tp tg : Tok} {n : Nat} {R news : List (Addr × Obj)} (N : News h₀ L h news) (hm : (B, boxO S p tp g tg n) ∈ news) (hp : 0 ≤ p) (hs : ∀ q ∈ R, q ∈ news) : ∃ (p' : Int) (tp' : Tok) (g' : Int) (tg' : Tok) (n' : Nat), 0 ≤ p' ∧ News h₀ L h ((B, boxO S p' tp' g' tg' n') :: R) := ⟨p, tp, g, tg, n, hp, fun q hq => by
  rcases List.mem_cons.mp hq with rfl | hq
  · exact N _ hm
  · exact N _ (hs q hq)⟩
theorem strs_app : ∀ {vs ws : List Value} {hs ks : List Str}, StrsAre vs hs → StrsAre ws ks → StrsAre (vs ++ ws) (hs ++ ks)
  | _, _, _, _, .nil, k => k
  | _, _, _, _, .cons y t r, k => .cons y t (strs_app r k)
theorem len_both {hs ks : List Str} (h : ∀ y ∈ hs, y.length ≤ 1000) (k : ∀ y ∈ ks, y.length ≤ 1000) : ∀ y ∈ hs ++ ks, y.length ≤ 1000 := fun y hy => (List.mem_append.mp hy).elim (h y) (k y)
theorem menu4_len {y a : Str} (h : y ∈ [a, Str.ofString "x-y:z", Str.ofString "ftp:q", Str.ofString "data:a;b"]) (ha : a.length ≤ 1000) : y.length ≤ 1000 := by
  have h1 : (Str.ofString "x-y:z").length ≤ 1000 := by decide +kernel
  have h2 : (Str.ofString "ftp:q").length ≤ 1000 := by decide +kernel
  have h3 : (Str.ofString "data:a;b").length ≤ 1000 := by decide +kernel
  simp only [List.mem_cons, List.not_mem_nil, or_false] at h
  rcases h with rfl | rfl | rfl | rfl <;> assumption
theorem fr_view2 {h₀ h : Heap} {L : Addr} {m : Str → Option Value} {x₁ x₂ : Str} {v₁ v₂ : Value} (F : Fr h₀ L h m) (h₁ : m x₁ = some v₁) (h₂ : m x₂ = some v₂) : Fr h₀ L h (fun y => if y = x₁ then some v₁ else if y = x₂ then some v₂ else m y) := by
  have e : (fun y => if y = x₁ then some v₁ else if y = x₂ then some v₂ else m y) = m := by
    funext y
    by_cases e1 : y = x₁
    · subst e1; rw [if_pos rfl, h₁]
    · rw [if_neg e1]
      by_cases e2 : y = x₂
      · subst e2; rw [if_pos rfl, h₂]
      · rw [if_neg e2]
  rw [e]; exact F
section
variable {prog : Program} {w : World} {A : Around} {E : Value → Shared → Prop} {s : Shared} {h₀ : Heap} {L l T a b : Addr} {m : Str → Option Value} {news : List (Addr × Obj)} {vs ws : List Value} {k : Int} {u : Tok} {n n1 n2 : Nat} {value slice : Expr} {Q : Value → Shared → Prop}
theorem list_tup (F : Fr h₀ L s.heap m) (N : News h₀ L s.heap news) (hm : (T, tplO vs n) ∈ news) (hz : vs.length ≤ 10)
    (h : ∀ (D : Addr) (c : Nat) (h' : Heap), Fr h₀ L h' m → News h₀ L h' ((D, listOf vs.toArray c) :: news) → (∀ q ∈ news, q.1 < D) → Q (.ref D) { s with heap := h' }) : wpAny (model prog w) A (PySem.call (.type "list") [.ref T]) Q E s :=
  kup_listOfT F N hm rfl h (Nat.le_trans hz (Nat.le_of_ble_eq_true rfl))
theorem cat_led (F : Fr h₀ L s.heap m) (N : News h₀ L s.heap news) (ha : (a, listOf vs.toArray n1) ∈ news) (hb : (b, listOf ws.toArray n2) ∈ news) (hz : vs.length ≤ 10) (hy : ws.length ≤ 10)
    (h : ∀ (D : Addr) (h' : Heap), Fr h₀ L h' m → News h₀ L h' ((D, listOf (vs ++ ws).toArray 0) :: news) → (∀ q ∈ news, q.1 < D) → Q (.ref D) { s with heap := h' }) : wpAny (model prog w) A (binaryOp .Add (.ref a) (.ref b)) Q E s :=
  kmk_add_lit F N ⟨_, (N _ ha).1, rfl, n1, rfl⟩ ⟨_, (N _ hb).1, rfl, n2, rfl⟩ rfl h (Nat.le_trans (Nat.add_le_add hz hy) (Nat.le_of_ble_eq_true rfl))
/-- a pick out of two tuples of texts -/
theorem pick_tup2 {B T1 T2 : Addr} {o : Obj} {vs1 vs2 : List Value} {hs1 hs2 : List Str} {m1 m2 : Nat} {R : List (Addr × Obj)} (N : News h₀ L s.heap ((B, o) :: (l, listOf #[.ref T1, .ref T2] n) :: (T2, tplO vs2 m2) :: (T1, tplO vs1 m1) :: R)) (i1 : StrsAre vs1 hs1) (i2 : StrsAre vs2 hs2) (y1 : vs1.length ≤ 10) (y2 : vs2.length ≤ 10) (z1 : ∀ y ∈ hs1, y.length ≤ 1000) (z2 : ∀ y ∈ hs2, y.length ≤ 1000) (h0 : 0 ≤ k) (h1 : k < 2)
    (off : ∀ q ∈ (T2, tplO vs2 m2) :: (T1, tplO vs1 m1) :: R, q.1 ≠ B)
    (h : ∀ (R' : List (Addr × Obj)), (∀ q ∈ R, q ∈ R') → (∀ q ∈ R', q.1 ≠ B) → ∀ (T : Addr) (vs : List Value) (hs : List Str) (n' : Nat), (T, tplO vs n') ∈ R' → StrsAre vs hs → vs.length ≤ 10 → (∀ y ∈ hs, y.length ≤ 1000) → News h₀ L s.heap ((B, o) :: R') → Q (.ref T) s)
    (hss : subscripted slice false (.ref l) (.int k u) = operate [.ref l, .int k u] (getItem (.ref l) (.int k u)) := by with_unfolding_all rfl) :
    wpAny (model prog w) A (subscriptTail value slice (.ref l) (.int k u)) Q E s := by
  refine pick_any (vs := [.ref T1, .ref T2]) N (.tail _ (.head _)) h0 (by simpa using h1) (by simp) (fun v hv => ?_) hss
  have N' : News h₀ L s.heap ((B, o) :: (T2, tplO vs2 m2) :: (T1, tplO vs1 m1) :: R) := fun p hp => N p (by
    rcases List.mem_cons.mp hp with rfl | hp
    · exact .head _
    · exact .tail _ (.tail _ hp))
  have hsub : ∀ q ∈ R, q ∈ (T2, tplO vs2 m2) :: (T1, tplO vs1 m1) :: R := fun q hq => .tail _ (.tail _ hq)
  match hk : k.toNat, hv with
  | 0, hv => simp at hv; subst hv; exact h _ hsub off T1 vs1 hs1 m1 (.tail _ (.head _)) i1 y1 z1 N'
  | 1, hv => simp at hv; subst hv; exact h _ hsub off T2 vs2 hs2 m2 (.head _) i2 y2 z2 N'
  | i + 2, hv => simp at hv
end
section
variable {w : World} {p : Program} {loose : List Str} {mean : ExcName → Option Value} {mg mb : Str → Option Value} {dp un : Nat} {gd : Option (List Code)} {cn : Str} {cs : Scope} {a : Addr} {ccd : Value} {cl : List (Str × Addr)} {outer : List Env} {A₀ : Around} {base h₀ : Heap} {L D : Addr} {m : Str → Option Value} {s : Shared} {Q E : Value → Shared → Prop} {news : List (Addr × Obj)} {vs ws : List Value} {hs ks : List Str} {x : Str} {tx : Tok} {n : Nat}
theorem use446 (hB : Below A₀ base outer h₀) (hF : Fr h₀ L s.heap m) (hK : (Mine.hd.heap_39 w.params).In h₀) (hN : News h₀ L s.heap news) (hT : Top p loose mean mg mb h₀) (hcs : cs.kind = .function) (hm : (D, listOf (vs ++ ws).toArray n) ∈ news) (hx : x.length ≤ 1000) (i1 : StrsAre vs hs) (i2 : StrsAre ws ks) (z1 : ∀ y ∈ hs, y.length ≤ 1000) (z2 : ∀ y ∈ ks, y.length ≤ 1000)
    (hd : dp + 1 < recursionLimit) (hu : un + 8 * 1 < cLine) (hr : CbRet h₀ L m news s Q (fun _ => .bool (plainB x (hs ++ ks)))) :
    wpAny (model PySem.Challenge.rw_fj5014_01.row.prog w) (ktrTop dp un gd cn cs L a ccd cl outer) (PySem.call (.ref 446) [.str x tx, .ref D]) Q E s :=
  useL (plain_ok x tx D (vs ++ ws) (hs ++ ks) news) hB hF hK hN hT hcs (.inr ⟨n, hm⟩) ⟨hx, strs_app i1 i2, len_both z1 z2⟩ hd hu hr
end
end Mine
end

section
open PySem PySem.W PyProof.Rows PySem.Calls
set_option maxRecDepth 100000
set_option maxHeartbeats 0
namespace Mine
theorem walk_state25 : True := by
  w_top off
  k_with_none
  trivial
local macro_rules | `(tactic| walk_at "execs cons") => `(tactic| (k_here; with_reducible refine gen_tk ?_; intro tk9))
local macro_rules | `(tactic| walk_at "execs nil") => `(tactic| (k_here; with_reducible refine gen_tk ?_; intro tk9))
local macro_rules | `(tactic| walk_at "call ref") => `(tactic| (k_here; (with_reducible show wpAny _ _ (PySem.call (Value.ref 425) [Value.ref _, Value.int _ _]) _ _ _); (rename News _ _ _ _ => nX); k_dflt (first | (refine' draw_use (tmp := _) (rest := _) ?k1 ?k2 ?k3 ?k4 ?k5 ?k6 ?k7 ?k8 ?k9 ?k10 ?k11 ?k12 ?k13 ?kd ?ku ?_; (case k4 => with_reducible exact nX)) | (refine' draw_use (tmp := []) (rest := _) ?k1 ?k2 ?k3 ?k4 ?k5 ?k6 ?k7 ?k8 ?k9 ?k10 ?k11 ?k12 ?k13 ?kd ?ku ?_; (case k4 => exact nX)) | (refine' draw_use (tmp := [_]) (rest := _) ?k1 ?k2 ?k3 ?k4 ?k5 ?k6 ?k7 ?k8 ?k9 ?k10 ?k11 ?k12 ?k13 ?kd ?ku ?_; (case k4 => exact nX)) | (refine' draw_use (tmp := [_, _]) (rest := _) ?k1 ?k2 ?k3 ?k4 ?k5 ?k6 ?k7 ?k8 ?k9 ?k10 ?k11 ?k12 ?k13 ?kd ?ku ?_; (case k4 => exact nX)) | (refine' draw_use (tmp := [_, _, _]) (rest := _) ?k1 ?k2 ?k3 ?k4 ?k5 ?k6 ?k7 ?k8 ?k9 ?k10 ?k11 ?k12 ?k13 ?kd ?ku ?_; (case k4 => exact nX)) | (refine' draw_use (tmp := [_, _, _, _]) (rest := _) ?k1 ?k2 ?k3 ?k4 ?k5 ?k6 ?k7 ?k8 ?k9 ?k10 ?k11 ?k12 ?k13 ?kd ?ku ?_; (case k4 => exact nX))); (case k1 => k_asm); (case k2 => k_asm); (case k3 => k_asm); (case k5 => k_asm); (case k6 => k_dflt (exact rfl)); (case k7 => assumption); (case k8 => assumption); (case k9 => omega); (case k10 => k_dflt (repeat' (first | exact off_nil | (refine off_cons ?_ ?_) | (refine off_app (by assumption) ?_) | assumption | exact lt_ne (by assumption) | k_ne))); (case k11 => first | assumption | omega | k_dflt decide); (case k12 => k_dflt decide); (case k13 => k_dflt decide); (case kd => first | omega | ((try dsimp only [Around.deeper, ktrTop]); omega) | ktr_room); (case ku => first | omega | ((try dsimp only [Around.deeper, ktrTop]); omega) | ktr_units); clear nX; intro k1 t1 p1 tp1 g1 tg1 n1 h1 tk1 hk0 hk1 hp1 F1 N1; (try dsimp only); (try dsimp only [List.cons_append, List.nil_append] at N1)))
local macro_rules | `(tactic| walk_at "compareOp IsNot bool bool") => `(tactic| (refine' isnot_eq ?k1 ?_; (case k1 => with_reducible rfl)))
local macro_rules | `(tactic| walk_at "subscriptTail") => `(tactic| (k_here; (rename News _ _ _ _ => nX); k_dflt (refine' pick_tup2 nX ?i1 ?i2 ?y1 ?y2 ?z1 ?z2 ?k0 ?k1 ?kf ?_; (case i1 => first | exact .cons _ _ (.cons _ _ .nil) | exact .cons _ _ .nil); (case i2 => first | exact .nil | exact .cons _ _ .nil); (case y1 => exact Nat.le_of_ble_eq_true rfl); (case y2 => exact Nat.le_of_ble_eq_true rfl); (case z1 => decide +kernel); (case z2 => decide +kernel); (case k0 => assumption); (case k1 => assumption); (case kf => k_dflt (repeat' (first | exact off_nil | (refine off_cons ?_ ?_) | (refine off_app (by assumption) ?_) | assumption | exact lt_ne (by assumption) | k_ne)))); clear nX; intro R9 hs9 ho9; (try (rename @Membership.mem (Addr × Obj) (List (Addr × Obj)) _ _ (_, tplO _ _) => hmO; replace hmO := hs9 _ hmO)); intro T9 vs9 ks9 n9 hm9 hi9 hy9 hz9 N9))
local macro_rules | `(tactic| walk_at "subscriptTail") => `(tactic| (k_here; (rename News _ _ _ _ => nX); k_dflt (refine' pick_menu (hs := _) nX (.cons _ _ (.cons _ _ (.cons _ _ (.cons _ _ .nil)))) (by assumption) (by assumption) (Nat.le_of_ble_eq_true rfl) ?_); clear nX; intro y9 t9 hy9 N9; have hl9 := menu4_len hy9 (by omega)))
local macro_rules | `(tactic| walk_at "call ref") => `(tactic| (k_here; (with_reducible show wpAny _ _ (PySem.call (Value.ref 439) _) _ _ _); k_dflt (refine' use2 (open_ok _ _ _) ?k1 ?k2 ?k3 ?k4 ?k5 ?kK ?kp ?kd ?ku ?_); (case k1 => k_asm); (case k2 => k_asm); (case k3 => k_asm); (case k4 => k_asm); (case k5 => k_asm); (case kK => first | exact rfl | assumption); (case kp => omega); (case kd => first | omega | ((try dsimp only [Around.deeper, ktrTop]); omega) | ktr_room); (case ku => first | omega | ((try dsimp only [Around.deeper, ktrTop]); omega) | ktr_units); intro t9 h9 tk9 F9 N9; (try dsimp only)))
local macro_rules | `(tactic| walk_at "call type:list") => `(tactic| (k_here; k_dflt (refine' list_tup ?k1 ?k2 ?k3 ?k4 ?_; (case k1 => k_asm); (case k2 => k_asm); (case k3 => (first | exact .tail _ (by assumption) | exact .tail _ (.tail _ (by assumption)))); (case k4 => assumption)); intro D8 c8 h8 F8 N8 l8; (try k_lt l8)))
local macro_rules | `(tactic| walk_at "binaryOp Add ref ref") => `(tactic| (k_here; k_dflt (refine' cat_led ?k1 ?k2 ?k3 ?k4 ?k5 ?k6 ?_; (case k1 => k_asm); (case k2 => k_asm); (case k3 => k_mem); (case k4 => k_mem); (case k5 => assumption); (case k6 => assumption)); intro D8 h8 F8 N8 l8; (try k_lt l8)))
local macro_rules | `(tactic| walk_at "call ref") => `(tactic| (k_here; (with_reducible show wpAny _ _ (PySem.call (Value.ref 396) _) _ _ _); k_dflt (refine' useT (safe_ok _ _ _ _ _ _ _ _ _) ?k1 ?k2 ?k3 ?k4 ?k5 ?kK ?h1 ?h2 ?kp ?kd ?ku ?_); (case k1 => k_asm); (case k2 => k_asm); (case k3 => k_asm); (case k4 => k_asm); (case k5 => k_asm); (case kK => k_dflt (exact rfl)); (case h1 => exact .inr ⟨_, .tail _ (by assumption)⟩); (case h2 => exact .inr ⟨_, .tail _ (by assumption)⟩); (case kp => k_dflt (exact ⟨by assumption, by assumption, by assumption⟩)); (case kd => first | omega | ((try dsimp only [Around.deeper, ktrTop]); omega) | ktr_room); (case ku => first | omega | ((try dsimp only [Around.deeper, ktrTop]); omega) | ktr_units); intro t9 h9 tk9 F9 N9; (try dsimp only)))
local macro_rules | `(tactic| walk_at "call ref") => `(tactic| (k_here; (with_reducible show wpAny _ _ (PySem.call (Value.ref 446) _) _ _ _); k_dflt (refine' use446 ?k1 ?k2 ?k3 ?k4 ?k5 ?kK ?h1 ?h2 ?h3 ?h4 ?h5 ?h6 ?kd ?ku ?_); (case k1 => k_asm); (case k2 => k_asm); (case k3 => k_asm); (case k4 => k_asm); (case k5 => k_asm); (case kK => k_dflt (exact rfl)); (case h1 => k_mem); (case h2 => assumption); (case h3 => assumption); (case h4 => assumption); (case h5 => assumption); (case h6 => assumption); (case kd => first | omega | ((try dsimp only [Around.deeper, ktrTop]); omega) | ktr_room); (case ku => first | omega | ((try dsimp only [Around.deeper, ktrTop]); omega) | ktr_units); intro t9 h9 tk9 F9 N9; (try dsimp only)))
theorem turnD_ok {w : World} (B S : Addr) (svs : List Value) (sns : List Int) (p : Int) (tp : Tok) (g : Int) (tg : Tok) (n : Nat) (R : List (Addr × Obj)) (m : Str → Option Value) (url : Str) (tu : Tok) :
  ∀ (pr : Program) (loose : List Str) (mean : ExcName → Option Value) (mg mb : Str → Option Value) (dp un : Nat) (gd : Option (List Code)) (L fa : Addr) (cd : Value) (outer : List Env) (A₀ : Around) (base h₀ : Heap) (s : Shared) (Q : Flow → Shared → Prop) (E : Value → Shared → Prop),
    Below A₀ base outer h₀ → Fr h₀ L s.heap m → m (Str.ofString "url") = some (.str url tu) → m (Str.ofString "box") = some (.ref B) → (Mine.hd.heap_39 w.params).In h₀ → News h₀ L s.heap ((B, boxO S p tp g tg n) :: R) → Top pr loose mean mg mb h₀ →
    h₀.IsList S svs.toArray → IntsAre svs sns → sns.length ≤ 63 → (∀ q ∈ R, q.1 ≠ B) → 0 ≤ p → url.length ≤ 300 → dp + 20 < recursionLimit → un + 160 < cLine →
    (∀ (m' : Str → Option Value) (p' : Int) (tp' : Tok) (g' : Int) (tg' : Tok) (n' : Nat) (h' : Heap) (tk' : Nat), 0 ≤ p' → Fr h₀ L h' m' → (∀ z, z ≠ Str.ofString "first" → z ≠ Str.ofString "second" → z ≠ Str.ofString "plain" → m' z = m z) → News h₀ L h' ((B, boxO S p' tp' g' tg' n') :: R) → Q .next { s with heap := h', toks := tk' }) →
      wpAny (model PySem.Challenge.rw_fj5014_01.row.prog w) (ktrTop dp un gd (Str.ofString "law") lawScope L fa cd [] outer) (execs lawTurnD (envOf (Str.ofString "law") lawScope L fa cd)) Q E s := by
  conv in lawTurnD => whnf
  conv in (occs := *) lawScope => all_goals whnf
  dsimp only [boxO]
  k_fill
  intro pr loose mean mg mb dp un gd L fa cd outer A₀ base h₀ s Q E hB hF hm1 hm2 hK hN hT hS hi hz hoff hp hlen hd hu hret
  have hF2 := fr_view2 hF hm1 hm2
  clear hF
  have hz2 : (openS url).length ≤ 300 := Nat.le_trans (Nat.le_trans (onceS_len _) (Nat.le_trans (onceS_len _) (onceS_len _))) hlen
  k_steps
  rename Fr _ _ _ _ => kF9
  rename News _ _ _ _ => kN9
  obtain ⟨p9, tp9, g9, tg9, n9, hp9, kN8⟩ := box_in (R := R) kN9 (by k_mem) (by assumption) (by
    intro q hq
    refine .tail _ (.tail _ (.tail _ (.tail _ ?_)))
    refine (by assumption : ∀ q : Addr × Obj, q ∈ _ → q ∈ _) q ?_
    refine (by assumption : ∀ q : Addr × Obj, q ∈ _ → q ∈ _) q ?_
    exact hq)
  refine hret _ p9 tp9 g9 tg9 n9 _ _ hp9 kF9 ?_ kN8
  intro z z1 z2 z3
  simp only [if_neg z1, if_neg z2, if_neg z3]
  by_cases e1 : z = Str.ofString "url"
  · subst e1; rw [if_pos rfl, hm1]
  · by_cases e2 : z = Str.ofString "box"
    · subst e2; rw [if_neg e1, if_pos rfl, hm2]
    · rw [if_neg e1, if_neg e2]
end Mine
end

section
open PySem PySem.W PyProof.Rows PySem.Calls
set_option maxRecDepth 100000
set_option maxHeartbeats 0
namespace Mine
theorem walk_state26 : True := by
  w_top off
  k_with_none
  trivial
local macro_rules | `(tactic| walk_at "execs cons") => `(tactic| (k_here; with_reducible refine gen_tk ?_; intro tk9))
local macro_rules | `(tactic| walk_at "execs nil") => `(tactic| (k_here; with_reducible refine gen_tk ?_; intro tk9))
local macro_rules | `(tactic| walk_at "call ref") => `(tactic| (k_here; (with_reducible show wpAny _ _ (PySem.call (Value.ref 425) [Value.ref _, Value.int _ _]) _ _ _); (rename News _ _ _ _ => nX); k_dflt (first | (refine' draw_use (tmp := _) (rest := _) ?k1 ?k2 ?k3 ?k4 ?k5 ?k6 ?k7 ?k8 ?k9 ?k10 ?k11 ?k12 ?k13 ?kd ?ku ?_; (case k4 => with_reducible exact nX)) | (refine' draw_use (tmp := []) (rest := _) ?k1 ?k2 ?k3 ?k4 ?k5 ?k6 ?k7 ?k8 ?k9 ?k10 ?k11 ?k12 ?k13 ?kd ?ku ?_; (case k4 => exact nX)) | (refine' draw_use (tmp := [_]) (rest := _) ?k1 ?k2 ?k3 ?k4 ?k5 ?k6 ?k7 ?k8 ?k9 ?k10 ?k11 ?k12 ?k13 ?kd ?ku ?_; (case k4 => exact nX)) | (refine' draw_use (tmp := [_, _]) (rest := _) ?k1 ?k2 ?k3 ?k4 ?k5 ?k6 ?k7 ?k8 ?k9 ?k10 ?k11 ?k12 ?k13 ?kd ?ku ?_; (case k4 => exact nX)) | (refine' draw_use (tmp := [_, _, _]) (rest := _) ?k1 ?k2 ?k3 ?k4 ?k5 ?k6 ?k7 ?k8 ?k9 ?k10 ?k11 ?k12 ?k13 ?kd ?ku ?_; (case k4 => exact nX)) | (refine' draw_use (tmp := [_, _, _, _]) (rest := _) ?k1 ?k2 ?k3 ?k4 ?k5 ?k6 ?k7 ?k8 ?k9 ?k10 ?k11 ?k12 ?k13 ?kd ?ku ?_; (case k4 => exact nX))); (case k1 => k_asm); (case k2 => k_asm); (case k3 => k_asm); (case k5 => k_asm); (case k6 => k_dflt (exact rfl)); (case k7 => assumption); (case k8 => assumption); (case k9 => omega); (case k10 => k_dflt (repeat' (first | exact off_nil | (refine off_cons ?_ ?_) | (refine off_app (by assumption) ?_) | assumption | exact lt_ne (by assumption) | k_ne))); (case k11 => first | assumption | omega | k_dflt decide); (case k12 => k_dflt decide); (case k13 => k_dflt decide); (case kd => first | omega | ((try dsimp only [Around.deeper, ktrTop]); omega) | ktr_room); (case ku => first | omega | ((try dsimp only [Around.deeper, ktrTop]); omega) | ktr_units); clear nX; intro k1 t1 p1 tp1 g1 tg1 n1 h1 tk1 hk0 hk1 hp1 F1 N1; (try dsimp only); (try dsimp only [List.cons_append, List.nil_append] at N1)))
local macro_rules | `(tactic| walk_at "compareOp NotEq str str") => `(tactic| (refine' ne_same ?k1 ?_; (case k1 => first | with_reducible rfl | exact if_t (by assumption) | exact if_f (by assumption))))
local macro_rules | `(tactic| walk_at "compareOp IsNot bool bool") => `(tactic| (refine' isnot_eq ?k1 ?_; (case k1 => with_reducible rfl)))
local macro_rules | `(tactic| walk_at "call ref") => `(tactic| (k_here; (with_reducible show wpAny _ _ (PySem.call (Value.ref 403) _) _ _ _); k_dflt (refine' heads_use ?k1 ?k2 ?k3 ?k4 ?k5 ?k6 ?kd ?ku ?_); (case k1 => k_asm); (case k2 => k_asm); (case k3 => k_asm); (case k4 => k_asm); (case k5 => k_asm); (case k6 => k_dflt (exact rfl)); (case kd => first | omega | ((try dsimp only [Around.deeper, ktrTop]); omega) | ktr_room); (case ku => first | omega | ((try dsimp only [Around.deeper, ktrTop]); omega) | ktr_units); intro l7 led7 vs7 n7 h7 tk7 hm7 hp7 ho7 F7 N7; (try dsimp only)))
local macro_rules | `(tactic| walk_at "call ref") => `(tactic| (k_here; (with_reducible show wpAny _ _ (PySem.call (Value.ref 403) _) _ _ _); (rename News _ _ _ (_ ++ _) => nX); k_dflt (refine' heads_len ?k1 ?k2 ?k3 ?k4 ?k5 ?k6 ?kd ?ku ?_); (case k1 => k_asm); (case k2 => k_asm); (case k3 => k_asm); (case k4 => k_asm); (case k5 => k_asm); (case k6 => k_dflt (exact rfl)); (case kd => first | omega | ((try dsimp only [Around.deeper, ktrTop]); omega) | ktr_room); (case ku => first | omega | ((try dsimp only [Around.deeper, ktrTop]); omega) | ktr_units); intro l8 vs8 n8 h8 tk8 hl8 F8 N8; (try dsimp only)))
local macro_rules | `(tactic| walk_at "call ref") => `(tactic| (k_here; (with_reducible show wpAny _ _ (PySem.call (Value.ref 410) _) _ _ _); k_dflt (refine' pairs_use tails_ok ?k1 ?k2 ?k3 ?k4 ?k5 ?k6 ?kd ?ku ?_); (case k1 => k_asm); (case k2 => k_asm); (case k3 => k_asm); (case k4 => k_asm); (case k5 => k_asm); (case k6 => k_dflt (exact rfl)); (case kd => first | omega | ((try dsimp only [Around.deeper, ktrTop]); omega) | ktr_room); (case ku => first | omega | ((try dsimp only [Around.deeper, ktrTop]); omega) | ktr_units); intro l7 led7 vs7 n7 h7 tk7 hm7 hp7 ho7 F7 N7; (try dsimp only)))
local macro_rules | `(tactic| walk_at "call ref") => `(tactic| (k_here; (with_reducible show wpAny _ _ (PySem.call (Value.ref 410) _) _ _ _); (rename News _ _ _ (_ ++ _) => nX); k_dflt (refine' pairs_len tails_ok ?k1 ?k2 ?k3 ?k4 ?k5 ?k6 ?kd ?ku ?_); (case k1 => k_asm); (case k2 => k_asm); (case k3 => k_asm); (case k4 => k_asm); (case k5 => k_asm); (case k6 => k_dflt (exact rfl)); (case kd => first | omega | ((try dsimp only [Around.deeper, ktrTop]); omega) | ktr_room); (case ku => first | omega | ((try dsimp only [Around.deeper, ktrTop]); omega) | ktr_units); intro l8 vs8 n8 h8 tk8 hl8 F8 N8; (try dsimp only)))
local macro_rules | `(tactic| walk_at "call builtin:len") => `(tactic| (k_here; (rename News _ _ _ _ => nX); k_dflt (refine' len_led nX ?k1 ?k2 ?_); (case k1 => assumption); (case k2 => k_dflt decide); clear nX; intro N8 t8 tk8; (try dsimp only)))
local macro_rules | `(tactic| walk_at "subscriptTail") => `(tactic| (k_here; (rename News _ _ _ _ => nX); k_dflt (refine' pick_pair nX (by assumption) (by assumption) (by assumption) (by assumption) (by decide) (by assumption) (by rfl) ?_); clear nX; intro r6 a6 b6 t6 u6 n6 hm6 l6 N6; (try k_lt l6); (first | (have hl6 := mark_len hm6) | (have hl6 := tail_len2 hm6) | skip)))
local macro_rules | `(tactic| walk_at "subscriptTail") => `(tactic| (k_here; (rename News _ _ _ _ => nX); k_dflt (refine' pick_head nX (by assumption) (by assumption) (by assumption) (by assumption) (by decide) ?_); clear nX; intro y9 t9 hy9 N9; have hl9 := head_len hy9))
local macro_rules | `(tactic| walk_at "subscriptTail") => `(tactic| (k_here; (rename News _ _ _ _ => nX); k_dflt (refine' pick_menu (hs := frontsS) nX (.cons _ _ (.cons _ _ (.cons _ _ .nil))) (by assumption) (by assumption) (by decide) ?_); clear nX; intro y9 t9 hy9 N9; have hl9 := front_len hy9))
local macro_rules | `(tactic| walk_at "call ref") => `(tactic| (k_here; (with_reducible show wpAny _ _ (PySem.call (Value.ref 389) _) _ _ _); k_dflt (refine' use2 (unqurl_ok _ _ _) ?k1 ?k2 ?k3 ?k4 ?k5 ?kK ?kp ?kd ?ku ?_); (case k1 => k_asm); (case k2 => k_asm); (case k3 => k_asm); (case k4 => k_asm); (case k5 => k_asm); (case kK => first | exact rfl | assumption); (case kp => k_dflt (exact (url_asc (by assumption) (by assumption) (by assumption)).1)); (case kd => first | omega | ((try dsimp only [Around.deeper, ktrTop]); omega) | ktr_room); (case ku => first | omega | ((try dsimp only [Around.deeper, ktrTop]); omega) | ktr_units); intro t9 h9 tk9 F9 N9; (try dsimp only)))
local macro_rules | `(tactic| walk_at "call ref") => `(tactic| (k_here; (with_reducible show wpAny _ _ (PySem.call (Value.ref 439) _) _ _ _); k_dflt (refine' use2 (open_ok _ _ _) ?k1 ?k2 ?k3 ?k4 ?k5 ?kK ?kp ?kd ?ku ?_); (case k1 => k_asm); (case k2 => k_asm); (case k3 => k_asm); (case k4 => k_asm); (case k5 => k_asm); (case kK => first | exact rfl | assumption); (case kp => k_dflt (exact url_k (by assumption) (by assumption) (by assumption))); (case kd => first | omega | ((try dsimp only [Around.deeper, ktrTop]); omega) | ktr_room); (case ku => first | omega | ((try dsimp only [Around.deeper, ktrTop]); omega) | ktr_units); intro t9 h9 tk9 F9 N9; (try dsimp only)))
local macro_rules | `(tactic| walk_at "call ref") => `(tactic| (k_here; (with_reducible show wpAny _ _ (PySem.call (Value.ref 467) _) _ _ _); k_dflt (refine' use2 (harm_ok _ _ _ _ ?ka) ?k1 ?k2 ?k3 ?k4 ?k5 ?kK ?kp ?kd ?ku ?_); (case k1 => k_asm); (case k2 => k_asm); (case k3 => k_asm); (case k4 => k_asm); (case k5 => k_asm); (case ka => repeat (first | assumption | refine al_cons ?_)); (case kK => first | exact rfl | assumption); (case kp => k_dflt (exact url_l (by assumption) (by assumption) (by assumption))); (case kd => first | omega | ((try dsimp only [Around.deeper, ktrTop]); omega) | ktr_room); (case ku => first | omega | ((try dsimp only [Around.deeper, ktrTop]); omega) | ktr_units); intro t9 h9 tk9 F9 N9; (try dsimp only)))
local macro_rules | `(tactic| walk_at "call ref") => `(tactic| (k_here; (with_reducible show wpAny _ _ (PySem.call (Value.ref 453) _) _ _ _); k_dflt (refine' use1 (names_ok _ _ _) ?k1 ?k2 ?k3 ?k4 ?k5 ?kK ?kp ?kd ?ku ?_); (case k1 => k_asm); (case k2 => k_asm); (case k3 => k_asm); (case k4 => k_asm); (case k5 => k_asm); (case kK => first | exact rfl | assumption); (case kp => k_dflt (exact url_n (by assumption) (by assumption) (by assumption))); (case kd => first | omega | ((try dsimp only [Around.deeper, ktrTop]); omega) | ktr_room); (case ku => first | omega | ((try dsimp only [Around.deeper, ktrTop]); omega) | ktr_units); intro t9 h9 tk9 F9 N9; (try dsimp only)))
local macro_rules | `(tactic| walk_at "call ref") => `(tactic| (k_here; (with_reducible show wpAny _ _ (PySem.call (Value.ref 241) _) _ _ _); k_dflt (refine' use2 (safe_u ?km ?ka _ _ _ _ _) ?k1 ?k2 ?k3 ?k4 ?k5 ?kK ?kp ?kd ?ku ?_); (case k1 => k_asm); (case k2 => k_asm); (case k3 => k_asm); (case k4 => k_asm); (case k5 => k_asm); (case km => exact ⟨_, _, _, _, _, by k_mem, by k_mem⟩); (case ka => repeat (first | assumption | refine al_cons ?_)); (case kK => first | exact rfl | assumption); (case kp => k_dflt (exact ⟨by assumption, by assumption, by assumption⟩)); (case kd => first | omega | ((try dsimp only [Around.deeper, ktrTop]); omega) | ktr_room); (case ku => first | omega | ((try dsimp only [Around.deeper, ktrTop]); omega) | ktr_units); intro t9 h9 tk9 F9 N9; (try dsimp only)))
local macro_rules | `(tactic| walk_at "execs cons") => `(tactic| ((with_reducible show wpAny _ _ (execs (Stmt.Assign [Expr.Name (PySem.Str.ofString "first") _] _ _ :: _) _) _ _ _); refine stop ?_))
theorem turn_ok {w : World} (B S M D dd : Addr) (svs : List Value) (sns : List Int) (p : Int) (tp : Tok) (g : Int) (tg : Tok) (n : Nat) (t1 t2 t3 : Tok) (e : Bool) (al : Value) (R : List (Addr × Obj)) (u : Str → Option Value) (k : Int) (kt : Tok) :
  ∀ (pr : Program) (loose : List Str) (mean : ExcName → Option Value) (mg mb : Str → Option Value) (dp un : Nat) (gd : Option (List Code)) (L fa : Addr) (cd : Value) (outer : List Env) (A₀ : Around) (base h₀ : Heap) (s : Shared) (Q : Flow → Shared → Prop) (E : Value → Shared → Prop),
    Below A₀ base outer h₀ → Fr h₀ L s.heap (fun y => if y = Str.ofString "turn" then some (.int k kt) else if turnSt.contains y then u y else lawM S B M e al y) → (Mine.hd.heap_39 w.params).In h₀ → News h₀ L s.heap (mkR w B S M D dd p tp g tg n t1 t2 t3 e al R) → Top pr loose mean mg mb h₀ →
    h₀.IsList S svs.toArray → IntsAre svs sns → sns.length ≤ 63 → (∀ q ∈ R, q.1 ≠ B) → AlAt R al → M ≠ B → D ≠ B → 0 ≤ p → dp + 20 < recursionLimit → un + 160 < cLine →
    (∀ (m' : Str → Option Value) (p' : Int) (tp' : Tok) (g' : Int) (tg' : Tok) (n' : Nat) (h' : Heap) (tk' : Nat), 0 ≤ p' → Fr h₀ L h' m' → (∀ z, z ≠ Str.ofString "turn" → turnSt.contains z = false → m' z = lawM S B M e al z) → News h₀ L h' (mkR w B S M D dd p' tp' g' tg' n' t1 t2 t3 e al R) → Q .next { s with heap := h', toks := tk' }) →
      wpAny (model PySem.Challenge.rw_fj5014_01.row.prog w) (ktrTop dp un gd (Str.ofString "law") lawScope L fa cd [] outer) (execs lawTurn (envOf (Str.ofString "law") lawScope L fa cd)) Q E s := by
  conv in lawTurn => whnf
  conv in (occs := *) lawScope => all_goals whnf
  dsimp only [mkR, mkD, boxO, lawM]
  k_fill
  intro pr loose mean mg mb dp un gd L fa cd outer A₀ base h₀ s Q E hB hF hK hN hT hS hi hz hoff hal hMB hDB hp hd hu hret
  k_steps
  all_goals (unfold Stop; (rename Fr _ _ _ _ => kF9); (rename News _ _ _ _ => kN9))
  · obtain ⟨p9, tp9, g9, tg9, n9, hp9, kN8⟩ := box_in (R := (M, _) :: (D, _) :: R) kN9 (by k_mem) (by assumption) (fun q hq => .tail _ (.tail _ hq))
    refine' turnD_ok B S svs sns p9 tp9 g9 tg9 n9 _ _ _ _ pr loose mean mg mb dp un gd L fa cd outer A₀ base h₀ _ _ _ hB kF9 ?ha1 ?ha2 hK kN8 hT hS hi hz ?ha3 hp9 ?ha4 hd hu ?ha5
    case ha1 => exact rfl
    case ha2 => exact rfl
    case ha3 => exact off_cons hMB (off_cons hDB hoff)
    case ha4 => exact url_l (by assumption) (by assumption) (by assumption)
    case ha5 =>
      intro m' p' tp' g' tg' n' h' tk' hp' F' hm' N'
      refine hret m' p' tp' g' tg' n' h' tk' hp' F' ?_ N'
      intro z z1 z2
      simp only [List.contains_cons, List.contains_nil, Bool.or_false, Bool.or_eq_false_iff, beq_eq_false_iff_ne, ne_eq] at z2
      rw [hm' z z2.2.2.2.2.2.2.1 z2.2.2.2.2.2.2.2.1 z2.2.2.2.2.2.2.2.2]
      simp [z1, z2]
  · obtain ⟨p9, tp9, g9, tg9, n9, hp9, kN8⟩ := box_in (R := (M, _) :: (D, _) :: R) kN9 (by k_mem) (by assumption) (fun q hq => .tail _ (.tail _ hq))
    refine' turnD_ok B S svs sns p9 tp9 g9 tg9 n9 _ _ _ _ pr loose mean mg mb dp un gd L fa cd outer A₀ base h₀ _ _ _ hB kF9 ?hb1 ?hb2 hK kN8 hT hS hi hz ?hb3 hp9 ?hb4 hd hu ?hb5
    case hb1 => exact rfl
    case hb2 => exact rfl
    case hb3 => exact off_cons hMB (off_cons hDB hoff)
    case hb4 => exact url_l (by assumption) (by assumption) (by assumption)
    case hb5 =>
      intro m' p' tp' g' tg' n' h' tk' hp' F' hm' N'
      refine hret m' p' tp' g' tg' n' h' tk' hp' F' ?_ N'
      intro z z1 z2
      simp only [List.contains_cons, List.contains_nil, Bool.or_false, Bool.or_eq_false_iff, beq_eq_false_iff_ne, ne_eq] at z2
      rw [hm' z z2.2.2.2.2.2.2.1 z2.2.2.2.2.2.2.2.1 z2.2.2.2.2.2.2.2.2]
      simp [z1, z2]
end Mine
end

section
open PySem PySem.W PyProof.Rows PySem.Calls
set_option maxRecDepth 100000
set_option maxHeartbeats 0
namespace Mine
def lawTail2 : List Stmt := lawTail.drop 5
def lawTail3 : List Stmt := lawTail.drop 6
theorem fr_view5 {h₀ h : Heap} {L : Addr} {m : Str → Option Value} {v1 v2 v3 v4 v5 : Value} (F : Fr h₀ L h m) (h1 : m (Str.ofString "maker") = some v1) (h2 : m (Str.ofString "box") = some v2) (h3 : m (Str.ofString "allow") = some v3) (h4 : m (Str.ofString "escaped") = some v4) (h5 : m (Str.ofString "text") = some v5) :
    Fr h₀ L h (fun y => if y = Str.ofString "maker" then some v1 else if y = Str.ofString "box" then some v2 else if y = Str.ofString "allow" then some v3 else if y = Str.ofString "escaped" then some v4 else if y = Str.ofString "text" then some v5 else m y) := by
  have e : (fun y => if y = Str.ofString "maker" then some v1 else if y = Str.ofString "box" then some v2 else if y = Str.ofString "allow" then some v3 else if y = Str.ofString "escaped" then some v4 else if y = Str.ofString "text" then some v5 else m y) = m := by
    funext y
    by_cases a1 : y = Str.ofString "maker"
    · rw [if_pos a1, a1, h1]
    · by_cases a2 : y = Str.ofString "box"
      · rw [if_neg a1, if_pos a2, a2, h2]
      · by_cases a3 : y = Str.ofString "allow"
        · rw [if_neg a1, if_neg a2, if_pos a3, a3, h3]
        · by_cases a4 : y = Str.ofString "escaped"
          · rw [if_neg a1, if_neg a2, if_neg a3, if_pos a4, a4, h4]
          · by_cases a5 : y = Str.ofString "text"
            · rw [if_neg a1, if_neg a2, if_neg a3, if_neg a4, if_pos a5, a5, h5]
            · rw [if_neg a1, if_neg a2, if_neg a3, if_neg a4, if_neg a5]
  rw [e]; exact F
section
variable {prog : Program} {w : World} {A : Around} {E : Value → Shared → Prop} {s : Shared} {h₀ : Heap} {L l : Addr} {m : Str → Option Value} {news : List (Addr × Obj)} {vs : List Value} {hs : List Str} {k : Int} {u : Tok} {n : Nat} {value slice : Expr} {Q : Value → Shared → Prop}
theorem pick_src (S : Src h₀ news l vs) (hi : StrsAre vs hs) (F : Fr h₀ L s.heap m) (N : News h₀ L s.heap news) (h0 : 0 ≤ k) (h1 : k < (hs.length : Int)) (hz : hs.length ≤ 1000)
    (h : ∀ (y : Str) (t : Tok), y ∈ hs → Q (.str y t) s)
    (hss : subscripted slice false (.ref l) (.int k u) = operate [.ref l, .int k u] (getItem (.ref l) (.int k u)) := by with_unfolding_all rfl) :
    wpAny (model prog w) A (subscriptTail value slice (.ref l) (.int k u)) Q E s := by
  have hk : k.toNat < hs.length := by omega
  obtain ⟨t, ht⟩ := strs_at hi (List.getElem?_eq_getElem hk)
  exact item_listR (S.list F N) h0 (by omega) (by simpa using ht) (h _ t (List.getElem_mem hk)) hss
/-- a pick out of the five values -/
theorem pick_val {B T1 T2 T3 T4 T5 : Addr} {o : Obj} {x z : Str} {ps : List Pc} {y : Str} {a1 a2 b1 b2 c2 d2 e1 e2 : Tok} {m1 m2 m3 m4 m5 : Nat} {R : List (Addr × Obj)}
    (N : News h₀ L s.heap ((B, o) :: (l, listOf #[.ref T1, .ref T2, .ref T3, .ref T4, .ref T5] n) :: (T5, tplO [.str x e1, .str z e2] m5) :: (T4, tplO [.none, .str (Str.ofString "None") d2] m4) :: (T3, tplO [.bool true, .str (Str.ofString "True") c2] m3) :: (T2, tplO [.int 0 b1, .str (Str.ofString "0") b2] m2) :: (T1, tplO [.int 5 a1, .str (Str.ofString "5") a2] m1) :: R))
    (hw : WordP x y ps) (hl : ps.length ≤ 6) (hzz : z = namesS y) (h0 : 0 ≤ k) (h1 : k < 5)
    (h : ∀ (T : Addr) (v : Value) (sh : Str) (t : Tok) (n' : Nat), AttrV v sh → News h₀ L s.heap ((T, tplO [v, .str sh t] n') :: (B, o) :: R) → Q (.ref T) s)
    (hss : subscripted slice false (.ref l) (.int k u) = operate [.ref l, .int k u] (getItem (.ref l) (.int k u)) := by with_unfolding_all rfl) :
    wpAny (model prog w) A (subscriptTail value slice (.ref l) (.int k u)) Q E s := by
  refine pick_any (vs := [.ref T1, .ref T2, .ref T3, .ref T4, .ref T5]) N (.tail _ (.head _)) h0 (by simpa using h1) (by simp) (fun v hv => ?_) hss
  have go : ∀ (T : Addr) (v : Value) (sh : Str) (t : Tok) (n' : Nat), AttrV v sh → (T, tplO [v, .str sh t] n') ∈ ((B, o) :: (l, listOf #[.ref T1, .ref T2, .ref T3, .ref T4, .ref T5] n) :: (T5, tplO [.str x e1, .str z e2] m5) :: (T4, tplO [.none, .str (Str.ofString "None") d2] m4) :: (T3, tplO [.bool true, .str (Str.ofString "True") c2] m3) :: (T2, tplO [.int 0 b1, .str (Str.ofString "0") b2] m2) :: (T1, tplO [.int 5 a1, .str (Str.ofString "5") a2] m1) :: R) → Q (.ref T) s := fun T v sh t n' ha hm => h T v sh t n' ha fun p hp => by
    rcases List.mem_cons.mp hp with rfl | hp
    · exact N _ hm
    · rcases List.mem_cons.mp hp with rfl | hp
      · exact N _ (.head _)
      · exact N _ (.tail _ (.tail _ (.tail _ (.tail _ (.tail _ (.tail _ (.tail _ hp)))))))
  match hk : k.toNat, hv with
  | 0, hv => simp at hv; subst hv; exact go T1 _ _ _ _ (.inl ⟨_, rfl, rfl⟩) (.tail _ (.tail _ (.tail _ (.tail _ (.tail _ (.tail _ (.head _)))))))
  | 1, hv => simp at hv; subst hv; exact go T2 _ _ _ _ (.inr (.inl ⟨_, rfl, rfl⟩)) (.tail _ (.tail _ (.tail _ (.tail _ (.tail _ (.head _))))))
  | 2, hv => simp at hv; subst hv; exact go T3 _ _ _ _ (.inr (.inr (.inl ⟨rfl, rfl⟩))) (.tail _ (.tail _ (.tail _ (.tail _ (.head _)))))
  | 3, hv => simp at hv; subst hv; exact go T4 _ _ _ _ (.inr (.inr (.inr (.inl ⟨rfl, rfl⟩)))) (.tail _ (.tail _ (.tail _ (.head _))))
  | 4, hv => simp at hv; subst hv; exact go T5 _ _ _ _ (.inr (.inr (.inr (.inr ⟨x, e1, y, ps, rfl, hw, hl, hzz⟩)))) (.tail _ (.tail _ (.head _)))
  | i + 5, hv => simp at hv
end
section
variable {w : World} {news : List (Addr × Obj)} {M : Addr} {e : Bool} {al : Value}
theorem near_e (y : Str) : nearS y = Txt.slice y none (some (-1)) ++ Str.ofString "x:" := rfl
theorem near_len {y : Str} (h : y ∈ safe12) : (Txt.slice y none (some (-1)) ++ Str.ofString "x:").length ≤ 300 := by
  have := List.all_eq_true.mp near_plain y h
  rw [← near_e]
  exact (plain_pre this).2.1
theorem safe_n2 (h : MkAt w news M e al) (ha : AlAt news al) (y : Str) (ty : Tok) : MyClaim 7 w 241 news (y ∈ safe12) [.ref M, .str (Txt.slice y none (some (-1)) ++ Str.ofString "x:") ty] (fun t => .str (if harmV al (Txt.slice y none (some (-1)) ++ Str.ofString "x:") then HL else Txt.slice y none (some (-1)) ++ Str.ofString "x:") t) := safe_n h ha y ty
theorem safe12_short {y : Str} (h : y ∈ safe12) : y.length ≤ 20 := by
  have k : ∀ y ∈ safe12, y.length ≤ 20 := by decide +kernel
  exact k y h
theorem names_l {x y : Str} {ps : List Pc} (h : WordP x y ps) (hl : ps.length ≤ 6) : x.length ≤ 42 ∧ y.length ≤ 42 ∧ (namesS x).length ≤ 252 ∧ (namesS y).length ≤ 252 := by
  have := word_len h
  have a := names_len x
  have b := names_len y
  omega
theorem blk_t {e : Bool} {x y : Str} {ps : List Pc} (h : e = true) (hw : WordP x y ps) (hl : 1 ≤ ps.length) : (if e = true then Str.ofString "<p>" ++ namesS (Txt.strip (Str.ofString " " ++ x ++ Str.ofString "\n")) ++ Str.ofString "</p>\n" else Str.ofString " " ++ x ++ Str.ofString "\n" ++ Str.ofString "\n") = Str.ofString "<p>" ++ namesS x ++ Str.ofString "</p>\n" := by
  subst h
  rw [if_pos rfl, strip_word hw hl]
end
end Mine
end

section
open PySem PySem.W PyProof.Rows PySem.Calls
set_option maxRecDepth 100000
set_option maxHeartbeats 0
namespace Mine
theorem walk_state27 : True := by
  w_top off
  k_with_none
  trivial
local macro_rules | `(tactic| walk_at "execs cons") => `(tactic| (k_here; with_reducible refine gen_tk ?_; intro tk9))
local macro_rules | `(tactic| walk_at "execs nil") => `(tactic| (k_here; with_reducible refine gen_tk ?_; intro tk9))
local macro_rules | `(tactic| walk_at "call ref") => `(tactic| (k_here; (with_reducible show wpAny _ _ (PySem.call (Value.ref 425) [Value.ref _, Value.int _ _]) _ _ _); (rename News _ _ _ _ => nX); k_dflt (first | (refine' draw_use (tmp := _) (rest := _) ?k1 ?k2 ?k3 ?k4 ?k5 ?k6 ?k7 ?k8 ?k9 ?k10 ?k11 ?k12 ?k13 ?kd ?ku ?_; (case k4 => with_reducible exact nX)) | (refine' draw_use (tmp := []) (rest := _) ?k1 ?k2 ?k3 ?k4 ?k5 ?k6 ?k7 ?k8 ?k9 ?k10 ?k11 ?k12 ?k13 ?kd ?ku ?_; (case k4 => exact nX)) | (refine' draw_use (tmp := [_]) (rest := _) ?k1 ?k2 ?k3 ?k4 ?k5 ?k6 ?k7 ?k8 ?k9 ?k10 ?k11 ?k12 ?k13 ?kd ?ku ?_; (case k4 => exact nX)) | (refine' draw_use (tmp := [_, _]) (rest := _) ?k1 ?k2 ?k3 ?k4 ?k5 ?k6 ?k7 ?k8 ?k9 ?k10 ?k11 ?k12 ?k13 ?kd ?ku ?_; (case k4 => exact nX)) | (refine' draw_use (tmp := [_, _, _]) (rest := _) ?k1 ?k2 ?k3 ?k4 ?k5 ?k6 ?k7 ?k8 ?k9 ?k10 ?k11 ?k12 ?k13 ?kd ?ku ?_; (case k4 => exact nX)) | (refine' draw_use (tmp := [_, _, _, _]) (rest := _) ?k1 ?k2 ?k3 ?k4 ?k5 ?k6 ?k7 ?k8 ?k9 ?k10 ?k11 ?k12 ?k13 ?kd ?ku ?_; (case k4 => exact nX))); (case k1 => k_asm); (case k2 => k_asm); (case k3 => k_asm); (case k5 => k_asm); (case k6 => k_dflt (exact rfl)); (case k7 => assumption); (case k8 => assumption); (case k9 => omega); (case k10 => k_dflt (repeat' (first | exact off_nil | (refine off_cons ?_ ?_) | (refine off_app (by assumption) ?_) | assumption | exact lt_ne (by assumption) | k_ne))); (case k11 => first | assumption | omega | k_dflt decide); (case k12 => k_dflt decide); (case k13 => k_dflt decide); (case kd => first | omega | ((try dsimp only [Around.deeper, ktrTop]); omega) | ktr_room); (case ku => first | omega | ((try dsimp only [Around.deeper, ktrTop]); omega) | ktr_units); clear nX; intro k1 t1 p1 tp1 g1 tg1 n1 h1 tk1 hk0 hk1 hp1 F1 N1; (try dsimp only); (try dsimp only [List.cons_append, List.nil_append] at N1)))
local macro_rules | `(tactic| walk_at "compareOp NotEq str str") => `(tactic| (refine' ne_same ?k1 ?_; (case k1 => first | with_reducible rfl | exact if_t (by assumption) | exact if_f (by assumption))))
local macro_rules | `(tactic| walk_at "subscriptTail") => `(tactic| (k_here; (with_reducible show wpAny _ _ (subscriptTail _ _ (Value.ref 418) (Value.int _ _)) _ _ _); k_dflt (refine' pick_src (hs := safe12) ?k1 ?k2 ?k3 ?k4 ?k5 ?k6 ?k7 ?_); (case k4 => k_asm); (case k3 => k_asm); (case k1 => (refine' srcL_K ?x ?y; (case x => assumption); (case y => k_is))); (case k2 => k_dflt (exact (.cons _ _ (.cons _ _ (.cons _ _ (.cons _ _ (.cons _ _ (.cons _ _ (.cons _ _ (.cons _ _ (.cons _ _ (.cons _ _ (.cons _ _ (.cons _ _ .nil)))))))))))))); (case k5 => assumption); (case k6 => k_dflt (assumption)); (case k7 => k_dflt decide); intro y9 t9 hy9; have hl9 := safe12_short hy9))
local macro_rules | `(tactic| walk_at "call ref") => `(tactic| (k_here; (with_reducible show wpAny _ _ (PySem.call (Value.ref 467) _) _ _ _); k_dflt (refine' use2 (harm_ok _ _ _ _ ?ka) ?k1 ?k2 ?k3 ?k4 ?k5 ?kK ?kp ?kd ?ku ?_); (case k1 => k_asm); (case k2 => k_asm); (case k3 => k_asm); (case k4 => k_asm); (case k5 => k_asm); (case ka => repeat (first | assumption | refine al_cons ?_)); (case kK => first | exact rfl | assumption); (case kp => exact near_len (by assumption)); (case kd => first | omega | ((try dsimp only [Around.deeper, ktrTop]); omega) | ktr_room); (case ku => first | omega | ((try dsimp only [Around.deeper, ktrTop]); omega) | ktr_units); intro t9 h9 tk9 F9 N9; (try dsimp only)))
local macro_rules | `(tactic| walk_at "call ref") => `(tactic| (k_here; (with_reducible show wpAny _ _ (PySem.call (Value.ref 241) _) _ _ _); k_dflt (refine' use2 (safe_n2 ?km ?ka _ _) ?k1 ?k2 ?k3 ?k4 ?k5 ?kK ?kp ?kd ?ku ?_); (case k1 => k_asm); (case k2 => k_asm); (case k3 => k_asm); (case k4 => k_asm); (case k5 => k_asm); (case km => exact ⟨_, _, _, _, _, by k_mem, by k_mem⟩); (case ka => repeat (first | assumption | refine al_cons ?_)); (case kK => first | exact rfl | assumption); (case kp => assumption); (case kd => first | omega | ((try dsimp only [Around.deeper, ktrTop]); omega) | ktr_room); (case ku => first | omega | ((try dsimp only [Around.deeper, ktrTop]); omega) | ktr_units); intro t9 h9 tk9 F9 N9; (try dsimp only)))
local macro_rules | `(tactic| walk_at "call ref") => `(tactic| (k_here; (with_reducible show wpAny _ _ (PySem.call (Value.ref 363) _) _ _ _); k_dflt (refine' use2 (block_m ?km _ _) ?k1 ?k2 ?k3 ?k4 ?k5 ?kK ?kp ?kd ?ku ?_); (case k1 => k_asm); (case k2 => k_asm); (case k3 => k_asm); (case k4 => k_asm); (case k5 => k_asm); (case km => exact ⟨_, _, _, _, _, by k_mem, by k_mem⟩); (case kK => first | exact rfl | assumption); (case kp => omega); (case kd => first | omega | ((try dsimp only [Around.deeper, ktrTop]); omega) | ktr_room); (case ku => first | omega | ((try dsimp only [Around.deeper, ktrTop]); omega) | ktr_units); intro t9 h9 tk9 F9 N9; (try dsimp only)))
local macro_rules | `(tactic| walk_at "call ref") => `(tactic| (k_here; (with_reducible show wpAny _ _ (PySem.call (Value.ref 453) _) _ _ _); k_dflt (refine' use1 (names_ok _ _ _) ?k1 ?k2 ?k3 ?k4 ?k5 ?kK ?kp ?kd ?ku ?_); (case k1 => k_asm); (case k2 => k_asm); (case k3 => k_asm); (case k4 => k_asm); (case k5 => k_asm); (case kK => first | exact rfl | assumption); (case kp => omega); (case kd => first | omega | ((try dsimp only [Around.deeper, ktrTop]); omega) | ktr_room); (case ku => first | omega | ((try dsimp only [Around.deeper, ktrTop]); omega) | ktr_units); intro t9 h9 tk9 F9 N9; (try dsimp only)))
local macro_rules | `(tactic| walk_at "compareOp Eq str str") => `(tactic| (refine' eq_same ?k1 ?_; (case k1 => first | exact blk_t (by assumption) (by assumption) (by assumption) | exact if_f (by assumption))))
theorem tail3_ok {w : World} (B S M D dd : Addr) (svs : List Value) (sns : List Int) (p : Int) (tp : Tok) (g : Int) (tg : Tok) (n : Nat) (t1 t2 t3 : Tok) (e : Bool) (al : Value) (R : List (Addr × Obj)) (m : Str → Option Value) (x : Str) (tx : Tok) (y : Str) (ps : List Pc) :
  ∀ (pr : Program) (loose : List Str) (mean : ExcName → Option Value) (mg mb : Str → Option Value) (dp un : Nat) (gd : Option (List Code)) (L fa : Addr) (cd : Value) (outer : List Env) (A₀ : Around) (base h₀ : Heap) (s : Shared) (Q : Flow → Shared → Prop) (E : Value → Shared → Prop),
    Below A₀ base outer h₀ → Fr h₀ L s.heap m → m (Str.ofString "maker") = some (.ref M) → m (Str.ofString "box") = some (.ref B) → m (Str.ofString "allow") = some al → m (Str.ofString "escaped") = some (.bool e) → m (Str.ofString "text") = some (.str x tx) → (Mine.hd.heap_39 w.params).In h₀ → News h₀ L s.heap (mkR w B S M D dd p tp g tg n t1 t2 t3 e al R) → Top pr loose mean mg mb h₀ →
    h₀.IsList S svs.toArray → IntsAre svs sns → sns.length ≤ 63 → (∀ q ∈ R, q.1 ≠ B) → AlAt R al → M ≠ B → D ≠ B → 0 ≤ p → WordP x y ps → 1 ≤ ps.length → ps.length ≤ 6 → dp + 20 < recursionLimit → un + 160 < cLine →
    (∀ (m' : Str → Option Value) (h' : Heap) (tk' : Nat), Fr h₀ L h' m' → News h₀ L h' R → Q (.ret (.bool true)) { s with heap := h', toks := tk' }) →
      wpAny (model PySem.Challenge.rw_fj5014_01.row.prog w) (ktrTop dp un gd (Str.ofString "law") lawScope L fa cd [] outer) (execs lawTail3 (envOf (Str.ofString "law") lawScope L fa cd)) Q E s := by
  conv in lawTail3 => whnf
  conv in (occs := *) lawScope => all_goals whnf
  dsimp only [mkR, mkD, boxO]
  k_fill
  intro pr loose mean mg mb dp un gd L fa cd outer A₀ base h₀ s Q E hB hF hm1 hm2 hm3 hm4 hm5 hK hN hT hS hi hz hoff hal hMB hDB hp hw hl1 hl2 hd hu hret
  have hF2 := fr_view5 hF hm1 hm2 hm3 hm4 hm5
  clear hF hm1 hm2 hm3 hm4 hm5
  obtain ⟨hL1, hL2, hL3, hL4⟩ := names_l hw hl2
  have hLa : (Str.ofString " ").length = 1 := by decide +kernel
  have hLb : (Str.ofString "\n").length = 1 := by decide +kernel
  have hLc : (Str.ofString "<p>").length = 3 := by decide +kernel
  have hLd : (Str.ofString "</p>\n").length = 5 := by decide +kernel
  have hLe : (Str.ofString "x:").length = 2 := by decide +kernel
  k_steps
  all_goals ((rename Fr _ _ _ _ => kF9); (rename News _ _ _ _ => kN9); exact hret _ _ _ kF9 (fun q hq => kN9 q (.tail _ (.tail _ (.tail _ hq)))))
end Mine
end

section
open PySem PySem.W PyProof.Rows PySem.Calls
set_option maxRecDepth 100000
set_option maxHeartbeats 0
namespace Mine
theorem walk_state28 : True := by
  w_top off
  k_with_none
  trivial
local macro_rules | `(tactic| walk_at "execs cons") => `(tactic| (k_here; with_reducible refine gen_tk ?_; intro tk9))
local macro_rules | `(tactic| walk_at "execs nil") => `(tactic| (k_here; with_reducible refine gen_tk ?_; intro tk9))
local macro_rules | `(tactic| walk_at "compareOp NotEq str str") => `(tactic| (refine' ne_same ?k1 ?_; (case k1 => first | with_reducible rfl | exact if_t (by assumption) | exact if_f (by assumption))))
local macro_rules | `(tactic| walk_at "call ref") => `(tactic| (k_here; (with_reducible show wpAny _ _ (PySem.call (Value.ref 241) _) _ _ _); k_dflt (refine' use2 (safe_x ?km ?ka _ _) ?k1 ?k2 ?k3 ?k4 ?k5 ?kK ?kp ?kd ?ku ?_); (case k1 => k_asm); (case k2 => k_asm); (case k3 => k_asm); (case k4 => k_asm); (case k5 => k_asm); (case km => exact ⟨_, _, _, _, _, by k_mem, by k_mem⟩); (case ka => repeat (first | assumption | refine al_cons ?_)); (case kK => first | exact rfl | assumption); (case kp => assumption); (case kd => first | omega | ((try dsimp only [Around.deeper, ktrTop]); omega) | ktr_room); (case ku => first | omega | ((try dsimp only [Around.deeper, ktrTop]); omega) | ktr_units); intro t9 h9 tk9 F9 N9; (try dsimp only)))
local macro_rules | `(tactic| walk_at "exec For Name Name cons nil") => `(tactic| (k_here; (rename Fr _ _ _ _ => lF'); (with_unfolding_all refine' For_invVF lF' ?k1 ?k2 ?_; (case k1 => exact rfl); (case k2 => exact rfl); k_whole)))
local macro_rules | `(tactic| walk_at "exec For Name Name") => `(tactic| (k_here; (rename Fr _ _ _ _ => lF'); (with_unfolding_all refine' For_invVF lF' ?k1 ?k2 ?_; (case k1 => exact rfl); (case k2 => exact rfl); k_whole)))
local macro_rules | `(tactic| walk_at "pyIter ref") => `(tactic| refine stop ?_)
local macro_rules | `(tactic| walk_at "InvEndN") => `(tactic| (refine' strs_end ?k1 ?k2 ?k3 ?k4 ?k5; (case k1 => k_asm); (case k2 => k_asm); (case k3 => intro p hp; exact hp); (case k4 => intro z hz; exact if_neg hz); (case k5 => exact trivial)))
local macro_rules | `(tactic| walk_at "execs cons") => `(tactic| ((with_reducible show wpAny _ _ (execs (Stmt.Assign [Expr.Name (PySem.Str.ofString "near") _] _ _ :: _) _) _ _ _); refine stop ?_))
theorem tail2_ok {w : World} (B S M D dd : Addr) (svs : List Value) (sns : List Int) (p : Int) (tp : Tok) (g : Int) (tg : Tok) (n : Nat) (t1 t2 t3 : Tok) (e : Bool) (al : Value) (R : List (Addr × Obj)) (m : Str → Option Value) (x : Str) (tx : Tok) (y : Str) (ps : List Pc) :
  ∀ (pr : Program) (loose : List Str) (mean : ExcName → Option Value) (mg mb : Str → Option Value) (dp un : Nat) (gd : Option (List Code)) (L fa : Addr) (cd : Value) (outer : List Env) (A₀ : Around) (base h₀ : Heap) (s : Shared) (Q : Flow → Shared → Prop) (E : Value → Shared → Prop),
    Below A₀ base outer h₀ → Fr h₀ L s.heap m → m (Str.ofString "maker") = some (.ref M) → m (Str.ofString "box") = some (.ref B) → m (Str.ofString "allow") = some al → m (Str.ofString "escaped") = some (.bool e) → m (Str.ofString "text") = some (.str x tx) → (Mine.hd.heap_39 w.params).In h₀ → News h₀ L s.heap (mkR w B S M D dd p tp g tg n t1 t2 t3 e al R) → Top pr loose mean mg mb h₀ →
    h₀.IsList S svs.toArray → IntsAre svs sns → sns.length ≤ 63 → (∀ q ∈ R, q.1 ≠ B) → AlAt R al → M ≠ B → D ≠ B → 0 ≤ p → WordP x y ps → 1 ≤ ps.length → ps.length ≤ 6 → dp + 20 < recursionLimit → un + 160 < cLine → PassesOwn (model PySem.Challenge.rw_fj5014_01.row.prog w) (ktrTop dp un gd (Str.ofString "law") lawScope L fa cd [] outer) (envOf (Str.ofString "law") lawScope L fa cd) E →
    (∀ (m' : Str → Option Value) (h' : Heap) (tk' : Nat), Fr h₀ L h' m' → News h₀ L h' R → Q (.ret (.bool true)) { s with heap := h', toks := tk' }) →
      wpAny (model PySem.Challenge.rw_fj5014_01.row.prog w) (ktrTop dp un gd (Str.ofString "law") lawScope L fa cd [] outer) (execs lawTail2 (envOf (Str.ofString "law") lawScope L fa cd)) Q E s := by
  conv in lawTail2 => whnf
  conv in (occs := *) lawScope => all_goals whnf
  dsimp only [mkR, mkD, boxO]
  k_fill
  intro pr loose mean mg mb dp un gd L fa cd outer A₀ base h₀ s Q E hB hF hm1 hm2 hm3 hm4 hm5 hK hN hT hS hi hz hoff hal hMB hDB hp hw hl1 hl2 hd hu hE hret
  have hF2 := fr_view5 hF hm1 hm2 hm3 hm4 hm5
  clear hF hm1 hm2 hm3 hm4 hm5
  k_steps
  unfold Stop
  rename Fr _ _ _ _ => lF
  rename News _ _ _ _ => lN
  have hSrc : Src h₀ _ 418 _ := srcL_K (news := (B, boxO S p tp g tg n) :: (M, instObj 380 D) :: (D, mkD w dd t1 t2 t3 e al) :: R) hK (by k_is)
  refine' iter_strs (hs := safe12) (fun _ => True) ?q1 ?q2 ?q3 ?q4 ?q5 ?q6 trivial ?turn ?done
  case q5 => exact lF
  case q6 => exact lN
  case q1 => exact rfl
  case q2 => exact hSrc.list lF lN
  case q3 => exact hSrc.or
  case q4 => exact (.cons _ _ (.cons _ _ (.cons _ _ (.cons _ _ (.cons _ _ (.cons _ _ (.cons _ _ (.cons _ _ (.cons _ _ (.cons _ _ (.cons _ _ (.cons _ _ .nil))))))))))))
  case turn =>
    intro pre yy post t h tk own he _ F7 N7
    have hy : yy ∈ safe12 := by rw [he]; simp
    have hyl := safe12_short hy
    have hLx : (Str.ofString "x").length = 1 := by decide +kernel
    have hal2 : AlAt (R ++ own) al := al_mono hal fun p hp => List.mem_append_left _ hp
    dsimp only [List.cons_append, envOf] at F7 N7
    clear lF lN
    k_steps
  case done =>
    intro u h tk _ F7 N7
    dsimp only [envOf] at F7 N7
    clear lF lN
    k_steps
    unfold Stop
    rename Fr _ _ _ _ => kF9
    refine' tail3_ok B S M D dd svs sns p tp g tg n t1 t2 t3 e al R _ x tx y ps pr loose mean mg mb dp un gd L fa cd outer A₀ base h₀ _ _ _ hB kF9 ?_ ?_ ?_ ?_ ?_ hK N7 hT hS hi hz hoff hal hMB hDB hp hw hl1 hl2 hd hu ?_
    · exact rfl
    · exact rfl
    · exact rfl
    · exact rfl
    · exact rfl
    · exact hret
end Mine
end

section
open PySem PySem.W PyProof.Rows PySem.Calls
set_option maxRecDepth 100000
set_option maxHeartbeats 0
namespace Mine
section
variable {w : World} {pr : Program} {loose : List Str} {mean : ExcName → Option Value} {mg mb : Str → Option Value} {dp un : Nat} {gd : Option (List Code)} {cn : Str} {cs : Scope} {a : Addr} {ccd : Value} {cl : List (Str × Addr)} {outer : List Env} {A₀ : Around} {base h₀ : Heap} {L B S : Addr} {m : Str → Option Value} {s : Shared} {Q E : Value → Shared → Prop} {rest : List (Addr × Obj)} {svs : List Value} {sns : List Int} {p : Int} {tp : Tok} {g : Int} {tg : Tok} {n : Nat}
theorem words_use (hB : Below A₀ base outer h₀) (hF : Fr h₀ L s.heap m) (hK : (Mine.hd.heap_39 w.params).In h₀) (hN : News h₀ L s.heap ((B, boxO S p tp g tg n) :: rest)) (hT : Top pr loose mean mg mb h₀) (hcs : cs.kind = .function) (hS : h₀.IsList S svs.toArray) (hi : IntsAre svs sns) (hz : sns.length ≤ 63) (hoff : ∀ q ∈ rest, q.1 ≠ B) (hp : 0 ≤ p) (hd : dp + 2 < recursionLimit) (hu : un + 8 * 2 < cLine)
    (h : ∀ (r : Addr) (x y : Str) (tx ty : Tok) (ps : List Pc) (nn : Nat) (p' : Int) (tp' : Tok) (g' : Int) (tg' : Tok) (n' : Nat) (h' : Heap) (tk' : Nat), WordP x y ps → 1 ≤ ps.length → ps.length ≤ 6 → 0 ≤ p' → r ≠ B → Fr h₀ L h' m → News h₀ L h' ((r, tplO [.str x tx, .str y ty] nn) :: (B, boxO S p' tp' g' tg' n') :: rest) → Q (.ref r) { s with heap := h', toks := tk' }) :
    wpAny (model PySem.Challenge.rw_fj5014_01.row.prog w) (ktrTop dp un gd cn cs L a ccd cl outer) (PySem.call (.ref 460) [.ref B]) Q E s :=
  words_call B S svs sns p tp g tg n rest pr loose mean mg mb dp un gd cn cs a ccd cl outer A₀ base h₀ L m s Q E hB hF hK hN hT hcs hS hi hz hoff hp hd hu h
end
end Mine
end

section
open PySem PySem.W PyProof.Rows PySem.Calls
set_option maxRecDepth 100000
set_option maxHeartbeats 0
namespace Mine
theorem walk_state29 : True := by
  w_top off
  k_with_none
  trivial
local macro_rules | `(tactic| walk_at "execs cons") => `(tactic| (k_here; with_reducible refine gen_tk ?_; intro tk9))
local macro_rules | `(tactic| walk_at "execs nil") => `(tactic| (k_here; with_reducible refine gen_tk ?_; intro tk9))
local macro_rules | `(tactic| walk_at "call ref") => `(tactic| (k_here; (with_reducible show wpAny _ _ (PySem.call (Value.ref 425) [Value.ref _, Value.int _ _]) _ _ _); (rename News _ _ _ _ => nX); k_dflt (first | (refine' draw_use (tmp := _) (rest := _) ?k1 ?k2 ?k3 ?k4 ?k5 ?k6 ?k7 ?k8 ?k9 ?k10 ?k11 ?k12 ?k13 ?kd ?ku ?_; (case k4 => with_reducible exact nX)) | (refine' draw_use (tmp := []) (rest := _) ?k1 ?k2 ?k3 ?k4 ?k5 ?k6 ?k7 ?k8 ?k9 ?k10 ?k11 ?k12 ?k13 ?kd ?ku ?_; (case k4 => exact nX)) | (refine' draw_use (tmp := [_]) (rest := _) ?k1 ?k2 ?k3 ?k4 ?k5 ?k6 ?k7 ?k8 ?k9 ?k10 ?k11 ?k12 ?k13 ?kd ?ku ?_; (case k4 => exact nX)) | (refine' draw_use (tmp := [_, _]) (rest := _) ?k1 ?k2 ?k3 ?k4 ?k5 ?k6 ?k7 ?k8 ?k9 ?k10 ?k11 ?k12 ?k13 ?kd ?ku ?_; (case k4 => exact nX)) | (refine' draw_use (tmp := [_, _, _]) (rest := _) ?k1 ?k2 ?k3 ?k4 ?k5 ?k6 ?k7 ?k8 ?k9 ?k10 ?k11 ?k12 ?k13 ?kd ?ku ?_; (case k4 => exact nX)) | (refine' draw_use (tmp := [_, _, _, _]) (rest := _) ?k1 ?k2 ?k3 ?k4 ?k5 ?k6 ?k7 ?k8 ?k9 ?k10 ?k11 ?k12 ?k13 ?kd ?ku ?_; (case k4 => exact nX)) | (refine' draw_use (tmp := [_, _, _, _, _, _, _]) (rest := _) ?k1 ?k2 ?k3 ?k4 ?k5 ?k6 ?k7 ?k8 ?k9 ?k10 ?k11 ?k12 ?k13 ?kd ?ku ?_; (case k4 => exact nX))); (case k1 => k_asm); (case k2 => k_asm); (case k3 => k_asm); (case k5 => k_asm); (case k6 => k_dflt (exact rfl)); (case k7 => assumption); (case k8 => assumption); (case k9 => omega); (case k10 => k_dflt (repeat' (first | exact off_nil | (refine off_cons ?_ ?_) | (refine off_app (by assumption) ?_) | assumption | exact lt_ne (by assumption) | k_ne))); (case k11 => first | assumption | omega | k_dflt decide); (case k12 => k_dflt decide); (case k13 => k_dflt decide); (case kd => first | omega | ((try dsimp only [Around.deeper, ktrTop]); omega) | ktr_room); (case ku => first | omega | ((try dsimp only [Around.deeper, ktrTop]); omega) | ktr_units); clear nX; intro k1 t1 p1 tp1 g1 tg1 n1 h1 tk1 hk0 hk1 hp1 F1 N1; (try dsimp only); (try dsimp only [List.cons_append, List.nil_append] at N1)))
local macro_rules | `(tactic| walk_at "compareOp NotEq str str") => `(tactic| (refine' ne_same ?k1 ?_; (case k1 => first | with_reducible rfl | exact if_t (by assumption) | exact if_f (by assumption))))
local macro_rules | `(tactic| walk_at "subscriptTail") => `(tactic| (k_here; (rename News _ _ _ _ => nX); k_dflt (refine' pick_val nX (by assumption) (by assumption) ?k1 (by assumption) (by assumption) ?_; (case k1 => exact rfl)); clear nX; intro T9 v9 sh9 t9 n9 hv9 N9))
local macro_rules | `(tactic| walk_at "call ref") => `(tactic| (k_here; (with_reducible show wpAny _ _ (PySem.call (Value.ref 213) _) _ _ _); k_dflt (refine' use2 (attr_w ?km _ _ _ _) ?k1 ?k2 ?k3 ?k4 ?k5 ?kK ?kp ?kd ?ku ?_); (case k1 => k_asm); (case k2 => k_asm); (case k3 => k_asm); (case k4 => k_asm); (case k5 => k_asm); (case km => exact ⟨_, _, _, _, _, by k_mem, by k_mem⟩); (case kK => first | exact rfl | assumption); (case kp => exact ⟨by assumption, by assumption⟩); (case kd => first | omega | ((try dsimp only [Around.deeper, ktrTop]); omega) | ktr_room); (case ku => first | omega | ((try dsimp only [Around.deeper, ktrTop]); omega) | ktr_units); intro t9 h9 tk9 F9 N9; (try dsimp only)))
local macro_rules | `(tactic| walk_at "call ref") => `(tactic| (k_here; (with_reducible show wpAny _ _ (PySem.call (Value.ref 213) _) _ _ _); k_dflt (refine' use2 (attr_v ?km _ _) ?k1 ?k2 ?k3 ?k4 ?k5 ?kK ?kp ?kd ?ku ?_); (case k1 => k_asm); (case k2 => k_asm); (case k3 => k_asm); (case k4 => k_asm); (case k5 => k_asm); (case km => exact ⟨_, _, _, _, _, by k_mem, by k_mem⟩); (case kK => first | exact rfl | assumption); (case kp => assumption); (case kd => first | omega | ((try dsimp only [Around.deeper, ktrTop]); omega) | ktr_room); (case ku => first | omega | ((try dsimp only [Around.deeper, ktrTop]); omega) | ktr_units); intro t9 h9 tk9 F9 N9; (try dsimp only)))
local macro_rules | `(tactic| walk_at "call ref") => `(tactic| (k_here; (with_reducible show wpAny _ _ (PySem.call (Value.ref 206) _) _ _ _); k_dflt (refine' use2 (raw_m ?km _ _) ?k1 ?k2 ?k3 ?k4 ?k5 ?kK ?kp ?kd ?ku ?_); (case k1 => k_asm); (case k2 => k_asm); (case k3 => k_asm); (case k4 => k_asm); (case k5 => k_asm); (case km => exact ⟨_, _, _, _, _, by k_mem, by k_mem⟩); (case kK => first | exact rfl | assumption); (case kp => omega); (case kd => first | omega | ((try dsimp only [Around.deeper, ktrTop]); omega) | ktr_room); (case ku => first | omega | ((try dsimp only [Around.deeper, ktrTop]); omega) | ktr_units); intro t9 h9 tk9 F9 N9; (try dsimp only)))
local macro_rules | `(tactic| walk_at "call ref") => `(tactic| (k_here; (with_reducible show wpAny _ _ (PySem.call (Value.ref 306) _) _ _ _); k_dflt (refine' use2 (inline_m ?km _ _) ?k1 ?k2 ?k3 ?k4 ?k5 ?kK ?kp ?kd ?ku ?_); (case k1 => k_asm); (case k2 => k_asm); (case k3 => k_asm); (case k4 => k_asm); (case k5 => k_asm); (case km => exact ⟨_, _, _, _, _, by k_mem, by k_mem⟩); (case kK => first | exact rfl | assumption); (case kp => omega); (case kd => first | omega | ((try dsimp only [Around.deeper, ktrTop]); omega) | ktr_room); (case ku => first | omega | ((try dsimp only [Around.deeper, ktrTop]); omega) | ktr_units); intro t9 h9 tk9 F9 N9; (try dsimp only)))
local macro_rules | `(tactic| walk_at "call ref") => `(tactic| (k_here; (with_reducible show wpAny _ _ (PySem.call (Value.ref 453) _) _ _ _); k_dflt (refine' use1 (names_ok _ _ _) ?k1 ?k2 ?k3 ?k4 ?k5 ?kK ?kp ?kd ?ku ?_); (case k1 => k_asm); (case k2 => k_asm); (case k3 => k_asm); (case k4 => k_asm); (case k5 => k_asm); (case kK => first | exact rfl | assumption); (case kp => omega); (case kd => first | omega | ((try dsimp only [Around.deeper, ktrTop]); omega) | ktr_room); (case ku => first | omega | ((try dsimp only [Around.deeper, ktrTop]); omega) | ktr_units); intro t9 h9 tk9 F9 N9; (try dsimp only)))
local macro_rules | `(tactic| walk_at "call ref") => `(tactic| ((with_reducible show wpAny _ _ (PySem.call (Value.ref 460) _) _ _ _); refine stop ?_))
local macro_rules | `(tactic| walk_at "execs cons") => `(tactic| ((with_reducible show wpAny _ _ (execs (Stmt.For _ _ _ _ _ :: _) _) _ _ _); refine stop ?_))
theorem tail_ok {w : World} (B S M D dd : Addr) (svs : List Value) (sns : List Int) (p : Int) (tp : Tok) (g : Int) (tg : Tok) (n : Nat) (t1 t2 t3 : Tok) (e : Bool) (al : Value) (R : List (Addr × Obj)) (u u' : Str → Option Value) :
  ∀ (pr : Program) (loose : List Str) (mean : ExcName → Option Value) (mg mb : Str → Option Value) (dp un : Nat) (gd : Option (List Code)) (L fa : Addr) (cd : Value) (outer : List Env) (A₀ : Around) (base h₀ : Heap) (s : Shared) (Q : Flow → Shared → Prop) (E : Value → Shared → Prop),
    Below A₀ base outer h₀ → Fr h₀ L s.heap (fun y => if y = Str.ofString "turn" then u y else if turnSt.contains y then u' y else lawM S B M e al y) → (Mine.hd.heap_39 w.params).In h₀ → News h₀ L s.heap (mkR w B S M D dd p tp g tg n t1 t2 t3 e al R) → Top pr loose mean mg mb h₀ →
    h₀.IsList S svs.toArray → IntsAre svs sns → sns.length ≤ 63 → (∀ q ∈ R, q.1 ≠ B) → AlAt R al → M ≠ B → D ≠ B → 0 ≤ p → dp + 20 < recursionLimit → un + 160 < cLine → PassesOwn (model PySem.Challenge.rw_fj5014_01.row.prog w) (ktrTop dp un gd (Str.ofString "law") lawScope L fa cd [] outer) (envOf (Str.ofString "law") lawScope L fa cd) E →
    (∀ (m' : Str → Option Value) (h' : Heap) (tk' : Nat), Fr h₀ L h' m' → News h₀ L h' R → Q (.ret (.bool true)) { s with heap := h', toks := tk' }) →
      wpAny (model PySem.Challenge.rw_fj5014_01.row.prog w) (ktrTop dp un gd (Str.ofString "law") lawScope L fa cd [] outer) (execs lawTail (envOf (Str.ofString "law") lawScope L fa cd)) Q E s := by
  conv in lawTail => whnf
  conv in (occs := *) lawScope => all_goals whnf
  dsimp only [mkR, mkD, boxO, lawM]
  k_fill
  intro pr loose mean mg mb dp un gd L fa cd outer A₀ base h₀ s Q E hB hF hK hN hT hS hi hz hoff hal hMB hDB hp hd hu hE hret
  k_steps
  unfold Stop
  refine' words_use ?w1 ?w2 ?w3 ?w4 ?w5 ?w6 ?w7 ?w8 ?w9 ?w10 ?w11 ?w12 ?w13 ?_
  case w4 => exact hN
  case w1 => exact hB
  case w2 => k_asm
  case w3 => exact hK
  case w5 => exact hT
  case w6 => exact rfl
  case w7 => exact hS
  case w8 => exact hi
  case w9 => exact hz
  case w10 => exact off_cons hMB (off_cons hDB hoff)
  case w11 => exact hp
  case w12 => omega
  case w13 => omega
  intro r x y tx ty ps nn p7 tp7 g7 tg7 n7 h7 tk7 hw hl1 hl2 hp7 hrB F7 N7
  try dsimp only
  obtain ⟨hL1, hL2, hL3, hL4⟩ := names_l hw hl2
  k_steps
  all_goals (unfold Stop; (rename Fr _ _ _ _ => kF9); (rename News _ _ _ _ => kN9))
  · obtain ⟨p9, tp9, g9, tg9, n9, hp9, kN8⟩ := box_in (R := (M, _) :: (D, _) :: R) kN9 (by k_mem) (by assumption) (fun q hq => .tail _ (.tail _ (.tail _ hq)))
    refine' tail2_ok B S M D dd svs sns p9 tp9 g9 tg9 n9 t1 t2 t3 e al R _ x tx y ps pr loose mean mg mb dp un gd L fa cd outer A₀ base h₀ _ _ _ hB kF9 ?ha1 ?ha2 ?ha3 ?ha4 ?ha5 hK kN8 hT hS hi hz hoff hal hMB hDB hp9 hw hl1 hl2 hd hu hE ?ha6
    case ha1 => exact rfl
    case ha2 => exact rfl
    case ha3 => exact rfl
    case ha4 => exact rfl
    case ha5 => exact rfl
    case ha6 => exact hret
  · obtain ⟨p9, tp9, g9, tg9, n9, hp9, kN8⟩ := box_in (R := (M, _) :: (D, _) :: R) kN9 (by k_mem) (by assumption) (fun q hq => .tail _ (.tail _ (.tail _ hq)))
    refine' tail2_ok B S M D dd svs sns p9 tp9 g9 tg9 n9 t1 t2 t3 e al R _ x tx y ps pr loose mean mg mb dp un gd L fa cd outer A₀ base h₀ _ _ _ hB kF9 ?hb1 ?hb2 ?hb3 ?hb4 ?hb5 hK kN8 hT hS hi hz hoff hal hMB hDB hp9 hw hl1 hl2 hd hu hE ?hb6
    case hb1 => exact rfl
    case hb2 => exact rfl
    case hb3 => exact rfl
    case hb4 => exact rfl
    case hb5 => exact rfl
    case hb6 => exact hret
end Mine
end

section
open PySem PySem.W PyProof.Rows PySem.Calls
set_option maxRecDepth 100000
set_option maxHeartbeats 0
namespace Mine
theorem walk_state30 : True := by
  w_top off
  k_with_none
  trivial
local macro_rules | `(tactic| walk_at "execs cons") => `(tactic| (k_here; with_reducible refine gen_tk ?_; intro tk9))
local macro_rules | `(tactic| walk_at "execs nil") => `(tactic| (k_here; with_reducible refine gen_tk ?_; intro tk9))
section
variable {w : World} {pr : Program} {loose : List Str} {mean : ExcName → Option Value} {mg mb : Str → Option Value} {dp un : Nat} {gd : Option (List Code)} {cn : Str} {cs : Scope} {a : Addr} {ccd : Value} {cl : List (Str × Addr)} {outer : List Env} {A₀ : Around} {base h₀ : Heap} {L B : Addr} {m : Str → Option Value} {s : Shared} {Q E : Value → Shared → Prop} {R₀ : List (Addr × Obj)} {o : Obj}
theorem make_use2 (e : Bool) (al : Value) (hB : Below A₀ base outer h₀) (hF : Fr h₀ L s.heap m) (hK : (Mine.hd.heap_39 w.params).In h₀) (hN : News h₀ L s.heap ((B, o) :: R₀)) (hT : Top pr loose mean mg mb h₀) (hcs : cs.kind = .function) (hoff : ∀ q ∈ R₀, q.1 ≠ B) (ha : AlAt R₀ al) (hd : dp + 2 < recursionLimit) (hu : un + 8 * 2 < cLine)
    (h : ∀ (R : List (Addr × Obj)) (M D dd : Addr) (t1 t2 t3 : Tok) (h' : Heap) (tk' : Nat), (∀ q ∈ R₀, q ∈ R) → AlAt R al → (∀ q ∈ R, q.1 ≠ B) → M ≠ B → D ≠ B → Fr h₀ L h' m → News h₀ L h' ((B, o) :: (M, instObj 380 D) :: (D, mkD w dd t1 t2 t3 e al) :: R) → Q (.ref M) { s with heap := h', toks := tk' }) :
    wpAny (model PySem.Challenge.rw_fj5014_01.row.prog w) (ktrTop dp un gd cn cs L a ccd cl outer) (PySem.call (.ref 380) [] [(Str.ofString "escape", .bool e), (Str.ofString "allow_harmful_protocols", al)]) Q E s := by
  refine make_ok e al ((B, o) :: R₀) pr loose mean mg mb dp un gd cn cs a ccd cl outer A₀ base h₀ L m s Q E hB hF hK hN hT hcs hd hu fun x d dd t1 t2 t3 h' tk' F' N' l1 l2 => ?_
  have hb := l1 (B, o) (.head _)
  refine h R₀ x d dd t1 t2 t3 h' tk' (fun _ hq => hq) ha hoff (Nat.ne_of_gt (Nat.lt_trans hb l2)) (Nat.ne_of_gt hb) F' fun p hp => N' p ?_
  rcases List.mem_cons.mp hp with rfl | hp
  · exact .tail _ (.tail _ (.head _))
  · rcases List.mem_cons.mp hp with rfl | hp
    · exact .head _
    · rcases List.mem_cons.mp hp with rfl | hp
      · exact .tail _ (.head _)
      · exact .tail _ (.tail _ (.tail _ hp))
end
local macro_rules | `(tactic| walk_at "call ref") => `(tactic| (k_here; (with_reducible show wpAny _ _ (PySem.call (Value.ref 425) [Value.ref _, Value.int _ _]) _ _ _); (rename News _ _ _ _ => nX); k_dflt (first | (refine' draw_use (tmp := _) (rest := _) ?k1 ?k2 ?k3 ?k4 ?k5 ?k6 ?k7 ?k8 ?k9 ?k10 ?k11 ?k12 ?k13 ?kd ?ku ?_; (case k4 => with_reducible exact nX)) | (refine' draw_use (tmp := []) (rest := _) ?k1 ?k2 ?k3 ?k4 ?k5 ?k6 ?k7 ?k8 ?k9 ?k10 ?k11 ?k12 ?k13 ?kd ?ku ?_; (case k4 => exact nX)) | (refine' draw_use (tmp := [_]) (rest := _) ?k1 ?k2 ?k3 ?k4 ?k5 ?k6 ?k7 ?k8 ?k9 ?k10 ?k11 ?k12 ?k13 ?kd ?ku ?_; (case k4 => exact nX)) | (refine' draw_use (tmp := [_, _]) (rest := _) ?k1 ?k2 ?k3 ?k4 ?k5 ?k6 ?k7 ?k8 ?k9 ?k10 ?k11 ?k12 ?k13 ?kd ?ku ?_; (case k4 => exact nX)) | (refine' draw_use (tmp := [_, _, _]) (rest := _) ?k1 ?k2 ?k3 ?k4 ?k5 ?k6 ?k7 ?k8 ?k9 ?k10 ?k11 ?k12 ?k13 ?kd ?ku ?_; (case k4 => exact nX)) | (refine' draw_use (tmp := [_, _, _, _]) (rest := _) ?k1 ?k2 ?k3 ?k4 ?k5 ?k6 ?k7 ?k8 ?k9 ?k10 ?k11 ?k12 ?k13 ?kd ?ku ?_; (case k4 => exact nX))); (case k1 => k_asm); (case k2 => k_asm); (case k3 => k_asm); (case k5 => k_asm); (case k6 => k_dflt (exact rfl)); (case k7 => assumption); (case k8 => assumption); (case k9 => omega); (case k10 => k_dflt (repeat' (first | exact off_nil | (refine off_cons ?_ ?_) | (refine off_app (by assumption) ?_) | assumption | exact lt_ne (by assumption) | k_ne))); (case k11 => first | assumption | omega | k_dflt decide); (case k12 => k_dflt decide); (case k13 => k_dflt decide); (case kd => first | k_dflt decide | ktr_room); (case ku => first | k_dflt decide | ktr_units); clear nX; intro k1 t1 p1 tp1 g1 tg1 n1 h1 tk1 hk0 hk1 hp1 F1 N1; (try dsimp only); (try dsimp only [List.cons_append, List.nil_append] at N1)))
local macro_rules | `(tactic| walk_at "compareOp IsNot bool bool") => `(tactic| (refine' isnot_eq ?k1 ?_; (case k1 => with_reducible rfl)))
local macro_rules | `(tactic| walk_at "subscriptTail") => `(tactic| (k_here; (rename News _ _ _ _ => nX); k_dflt (refine' pick_allow nX ?k1 ?k2 ?_); (case k1 => assumption); (case k2 => assumption); clear nX; intro v9 hv9 N9))
local macro_rules | `(tactic| walk_at "subscriptTail List cons nil Call Name ref int") => `(tactic| (k_here; (rename News _ _ _ _ => nX); k_dflt (refine' pick_allow nX ?k1 ?k2 ?_); (case k1 => assumption); (case k2 => assumption); clear nX; intro v9 hv9 N9))
local macro_rules | `(tactic| walk_at "call ref") => `(tactic| ((with_reducible show wpAny _ _ (PySem.call (Value.ref 380) _ _) _ _ _); refine stop ?_))
local macro_rules | `(tactic| walk_at "pyIter ref") => `(tactic| refine stop ?_)
theorem t1 : PySem.Challenge.rw_fj5014_01.Holds := hd (by
  k_go0
  all_goals try k_fold
  k_steps
  unfold Stop
  rename News _ _ _ _ => lN
  refine nameBox lN ?_
  intro B S p tp g tg n e1 e2 e3 e4 e5 e6 e7
  subst e1; subst e2; subst e3; subst e4; subst e5; subst e6; subst e7
  k_dflt (refine' make_use2 _ _ ?k1 ?k2 ?k3 lN ?k5 ?k6 ?k7 ?k8 ?kd ?ku ?_)
  case k1 => k_asm
  case k2 => k_asm
  case k3 => k_asm
  case k5 => k_asm
  case k6 => k_dflt (exact rfl)
  case k7 => k_dflt (repeat' (first | exact off_nil | (refine off_cons ?_ ?_) | (refine off_app (by assumption) ?_) | assumption | exact lt_ne (by assumption) | k_ne))
  case k8 => assumption
  case kd => first | k_dflt decide | ktr_room
  case ku => first | k_dflt decide | ktr_units
  clear lN
  intro R M D dd t1 t2 t3 h5 tk5 hsubR hal hoff hMB hDB F5 N5
  try dsimp only
  k_steps
  unfold Stop
  rename Fr _ _ _ _ => lF
  rename News _ _ _ _ => lN
  rename IsRange _ _ _ _ _ _ _ _ => rgX
  refine' kst_range (σ := Int × Tok × Int × Tok × Nat) (fun c => (B, boxO S c.1 c.2.1 c.2.2.1 c.2.2.2.1 c.2.2.2.2) :: (M, instObj 380 D) :: (D, _) :: R) (fun c => []) (fun _ => True) turnSt
    (fun pre c => 0 ≤ c.1) ⟨_, _, _, _, _⟩ (by rfl) rgX (small_one (by omega) (by omega) (by omega) (by omega)) (rangeSize_nat _ _) lF lN trivial (fun _ h => nomatch h) (by assumption) ?turn ?done
  case turn =>
    rintro ⟨p2, tp2, g2, tg2, n2⟩ kPre kN kT kU kH kTk kOwn kEq kLt kOff - kP kFr kNews
    dsimp only at *
    dsimp only [kstB, envOf] at kFr
    dsimp only [envOf] at kNews
    clear lF lN
    dsimp only [List.cons_append] at kNews
    have hoff2 : ∀ q ∈ R ++ kOwn, q.1 ≠ B := fun q hq => by
      rcases List.mem_append.mp hq with hq | hq
      · exact hoff q hq
      · exact kOff q hq B (.head _)
    have hal2 : AlAt (R ++ kOwn) _ := al_mono hal fun p hp => List.mem_append_left _ hp
    refine' turn_ok B S M D dd _ _ p2 tp2 g2 tg2 n2 t1 t2 t3 _ _ (R ++ kOwn) kU kN kT _ _ _ _ _ _ _ _ _ _ _ _ _ _ _ _ _ _ ?a1 kFr ?a2 kNews ?a3 ?a4 ?a5 ?a6 hoff2 hal2 hMB hDB kP ?a7 ?a8 ?a9
    case a1 => k_asm
    case a2 => k_asm
    case a3 => k_asm
    case a4 => assumption
    case a5 => assumption
    case a6 => omega
    case a7 => first | k_dflt decide | ktr_room
    case a8 => first | k_dflt decide | ktr_units
    case a9 =>
      intro m' p' tp' g' tg' n' h' tk' hp' F' hm' N'
      refine kst_end ⟨p', tp', g', tg', n'⟩ F' N' ?b1 ?b2 rfl trivial (fun _ h => nomatch h) ?b3 hp'
      case b1 =>
        intro q hq
        rcases List.mem_cons.mp hq with rfl | hq
        · exact .head _
        · rcases List.mem_cons.mp hq with rfl | hq
          · exact .tail _ (.head _)
          · rcases List.mem_cons.mp hq with rfl | hq
            · exact .tail _ (.tail _ (.head _))
            · exact .tail _ (.tail _ (.tail _ (List.mem_append_left _ hq)))
      case b2 => intro q hq; exact .tail _ (.tail _ (.tail _ (List.mem_append_right _ hq)))
      case b3 => intro z z1 _ z2; exact hm' z z1 z2
  case done =>
    rintro ⟨p2, tp2, g2, tg2, n2⟩ kU kH kTk - kP kFr kNews
    dsimp only at *
    dsimp only [kstB, envOf] at kFr
    dsimp only [envOf] at kNews
    clear lF lN
    refine' tail_ok B S M D dd _ _ p2 tp2 g2 tg2 n2 t1 t2 t3 _ _ R kU kU _ _ _ _ _ _ _ _ _ _ _ _ _ _ _ _ _ _ ?d1 kFr ?d2 kNews ?d3 ?d4 ?d5 ?d6 hoff hal hMB hDB kP ?d7 ?d8 ?d10 ?d9
    case d1 => k_asm
    case d2 => k_asm
    case d3 => k_asm
    case d4 => assumption
    case d5 => assumption
    case d6 => omega
    case d7 => first | k_dflt decide | ktr_room
    case d8 => first | k_dflt decide | ktr_units
    case d10 => passes_own
    case d9 =>
      intro m' h' tk' F' N'
      have N2 : News _ _ h' [(162, tabObj #[])] := fun q hq => by
        cases hq with
        | head => exact N' _ (hsubR _ (.tail _ (.head _)))
        | tail _ hq => cases hq
      clear N' kNews kFr
      try dsimp only
      k_steps)
end Mine
end

open PySem PySem.W PyProof.Rows
set_option maxRecDepth 100000 in
set_option maxHeartbeats 8000000 in
theorem PySem.Challenge.cw_fj5014_01_holds : PySem.Challenge.rw_fj5014_01.Holds := by
  exact Mine.t1
