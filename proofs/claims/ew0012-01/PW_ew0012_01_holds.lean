import PyProof.Rows.All
import Wide.All
import OpenK.AllK
import Wide.FinOn
import PySem.Challenge.RW_ew0012_01
set_option Elab.async false

section
open PySem PySem.W PyProof.Rows
namespace Mine
set_option maxRecDepth 100000 in
set_option maxHeartbeats 8000000 in
open_top hd for PySem.Challenge.rw_ew0012_01
end Mine
end

section
open PySem PySem.W PyProof.Rows
set_option maxRecDepth 100000
namespace Mine
def Ctr (w : World) (p : Program) (loose : List Str) (mean : ExcName → Option Value) (mg mb : Str → Option Value) (f : Addr) (vs : List Value) (news : List (Addr × Obj)) (pre : Heap → Prop) (Post : Value → List (Addr × Obj) → Prop) : Prop :=
  ∀ (dp un : Nat) (gd : Option (List Code)) (cn : Str) (cs : Scope) (a : Addr) (ccd : Value) (cl : List (Str × Addr)) (outer : List Env) (A₀ : Around) (base h₀ : Heap) (L : Addr) (m : Str → Option Value) (s : Shared) (Q E : Value → Shared → Prop),
    Below A₀ base outer h₀ → Fr h₀ L s.heap m → (Mine.hd.heap_39 w.params).In h₀ → News h₀ L s.heap news → Top p loose mean mg mb h₀ → cs.kind = .function → dp + 20 < recursionLimit → un + 200 < cLine → pre base →
    (∀ r h' tk' news', Fr h₀ L h' m → News h₀ L h' news' → Post r news' → Q r { s with heap := h', toks := tk' }) →
    wpAny (model PySem.Challenge.rw_ew0012_01.row.prog w) (ktrTop dp un gd cn cs L a ccd cl outer) (call (.ref f) vs) Q E s

theorem Ctr.use {w : World} {p loose mean mg mb} {f : Addr} {vs : List Value} {news : List (Addr × Obj)} {pre : Heap → Prop} {Post : Value → List (Addr × Obj) → Prop} (C : Ctr w p loose mean mg mb f vs news pre Post)
    {dp un : Nat} {gd : Option (List Code)} {cn : Str} {cs : Scope} {a : Addr} {ccd : Value} {cl : List (Str × Addr)} {outer : List Env} {A₀ : Around} {base h₀ : Heap} {L : Addr} {m : Str → Option Value} {s : Shared} {Q E : Value → Shared → Prop}
    (B : Below A₀ base outer h₀) (F : Fr h₀ L s.heap m) (X : (Mine.hd.heap_39 w.params).In h₀) (N : News h₀ L s.heap news) (T : Top p loose mean mg mb h₀) (hk : cs.kind = .function) (hd : dp + 20 < recursionLimit) (hu : un + 200 < cLine) (hp : pre base)
    (ret : ∀ r h' tk' news', Fr h₀ L h' m → News h₀ L h' news' → Post r news' → Q r { s with heap := h', toks := tk' }) :
    wpAny (model PySem.Challenge.rw_ew0012_01.row.prog w) (ktrTop dp un gd cn cs L a ccd cl outer) (call (.ref f) vs) Q E s := C _ _ _ _ _ _ _ _ _ _ _ _ _ _ _ _ _ B F X N T hk hd hu hp ret

theorem ne_all {news : List (Addr × Obj)} {d x : Nat} (h : ∀ p ∈ news, p.1 < d) (hx : d ≤ x) : ∀ p ∈ news, p.1 ≠ x := fun p hp e => absurd (h p hp) (by rw [e]; exact Nat.not_lt.mpr hx)
theorem ne_allLe {news : List (Addr × Obj)} {d x : Nat} (h : ∀ p ∈ news, p.1 < d) (hx : d ≤ x) : ∀ p ∈ news, p.1 < x := fun p hp => Nat.lt_of_lt_of_le (h p hp) hx

inductive Del (I : Addr) (it : Obj) : List (Addr × Obj) → List (Addr × Obj) → Prop
  | head {r} : (∀ p ∈ r, p.1 ≠ I) → Del I it ((I, it) :: r) r
  | tail {p r r'} : p.1 ≠ I → Del I it r r' → Del I it (p :: r) (p :: r')
theorem Del.sub {I : Addr} {it : Obj} : ∀ {l l' : List (Addr × Obj)}, Del I it l l' → ∀ p ∈ (I, it) :: l', p ∈ l
  | _, _, .head _, p, hp => hp
  | _, _, .tail _ d, p, hp => by
    rcases List.mem_cons.mp hp with rfl | hp
    · exact .tail _ (d.sub _ (.head _))
    · rcases List.mem_cons.mp hp with rfl | hp
      · exact .head _
      · exact .tail _ (d.sub _ (.tail _ hp))
theorem Del.off {I : Addr} {it : Obj} : ∀ {l l' : List (Addr × Obj)}, Del I it l l' → ∀ p ∈ l', p.1 ≠ I
  | _, _, .head h => h
  | _, _, .tail h d => fun p hp => by
    rcases List.mem_cons.mp hp with rfl | hp
    · exact h
    · exact d.off p hp
theorem unrEnd_del {h₀ : Heap} {L I : Addr} {it : Obj} {rest : (Str → Option Value) → List (Addr × Obj) → Prop} {s₁ : Shared} {h' : Heap} {tk : Nat} {m' : Str → Option Value} {all news' : List (Addr × Obj)} (F : Fr h₀ L h' m') (N : News h₀ L h' all)
    (d : Del I it all news') (r : rest m' news') : UnrEnd h₀ L s₁ I it rest { s₁ with heap := h', toks := tk } :=
  UnrEnd.intro F N news' d.sub d.off r

theorem leN {a b : Nat} (h : a ≤ b) : a ≤ b := h
inductive Pre (d : Nat) (news : List (Addr × Obj)) : List (Addr × Obj) → List (Addr × Obj) → Prop
  | nil : Pre d news [] news
  | cons {p : Addr × Obj} {new all} : @LE.le Nat _ d p.1 → Pre d news new all → Pre d news (p :: new) (p :: all)
theorem Pre.out {d : Nat} {news : List (Addr × Obj)} : ∀ {new all}, Pre d news new all → all = new ++ news ∧ ∀ q ∈ new, @LE.le Nat _ d q.1
  | _, _, .nil => ⟨rfl, fun _ h => nomatch h⟩
  | _, _, .cons h r => by
    obtain ⟨e, hr⟩ := r.out
    refine ⟨by rw [e]; rfl, fun q hq => ?_⟩
    rcases List.mem_cons.mp hq with rfl | hq
    · exact h
    · exact hr q hq

abbrev txt (b : Int) : Str := Str.ofString (toString b)
abbrev tokObj (dx : Addr) (a b : Int) (ta tb tc : Tok) : Obj := { cls := Value.ref 126, dict := some dx, data := .plain, slots := #[some (.int b tb), some (.int a ta), some (.str (txt b) tc), some .none] }
abbrev pairObj (a b : Int) (ta tb : Tok) : Obj := { cls := .type "tuple", data := .seq #[.int a ta, .int b tb] }
def PairAt (news : List (Addr × Obj)) (v : Value) (q : Int × Int) : Prop := ∃ a ta tb, v = .ref a ∧ (a, pairObj q.1 q.2 ta tb) ∈ news
def TokAt (news : List (Addr × Obj)) (v : Value) (q : Int × Int) : Prop := ∃ x dx ta tb tc, v = .ref x ∧ (x, tokObj dx q.1 q.2 ta tb tc) ∈ news ∧ (dx, dictOf [] 0) ∈ news
theorem PairAt.mono {n n' : List (Addr × Obj)} {v : Value} {q : Int × Int} (h : PairAt n v q) (hs : ∀ p ∈ n, p ∈ n') : PairAt n' v q := by
  obtain ⟨a, ta, tb, e, hm⟩ := h; exact ⟨a, ta, tb, e, hs _ hm⟩
theorem TokAt.mono {n n' : List (Addr × Obj)} {v : Value} {q : Int × Int} (h : TokAt n v q) (hs : ∀ p ∈ n, p ∈ n') : TokAt n' v q := by
  obtain ⟨x, dx, ta, tb, tc, e, hm, hd⟩ := h; exact ⟨x, dx, ta, tb, tc, e, hs _ hm, hs _ hd⟩

def All2 {α β : Type} (R : α → β → Prop) : List α → List β → Prop
  | [], [] => True
  | a :: as, b :: bs => R a b ∧ All2 R as bs
  | _, _ => False
theorem All2.length {α β : Type} {R : α → β → Prop} : ∀ {as : List α} {bs : List β}, All2 R as bs → as.length = bs.length
  | [], [], _ => rfl
  | _ :: _, _ :: _, ⟨_, h⟩ => by rw [List.length_cons, List.length_cons, h.length]
  | [], _ :: _, h => h.elim
  | _ :: _, [], h => h.elim
theorem All2.mono {α β : Type} {R R' : α → β → Prop} (hr : ∀ a b, R a b → R' a b) : ∀ {as : List α} {bs : List β}, All2 R as bs → All2 R' as bs
  | [], [], _ => trivial
  | _ :: _, _ :: _, ⟨a, h⟩ => ⟨hr _ _ a, h.mono hr⟩
  | [], _ :: _, h => h.elim
  | _ :: _, [], h => h.elim
theorem All2.append {α β : Type} {R : α → β → Prop} : ∀ {as as' : List α} {bs bs' : List β}, All2 R as bs → All2 R as' bs' → All2 R (as ++ as') (bs ++ bs')
  | [], _, [], _, _, h => h
  | _ :: _, _, _ :: _, _, ⟨a, h⟩, h' => ⟨a, h.append h'⟩
  | [], _, _ :: _, _, h, _ => h.elim
  | _ :: _, _, [], _, h, _ => h.elim
theorem All2.get {α β : Type} {R : α → β → Prop} : ∀ {as : List α} {bs : List β} {i : Nat} {a : α} {b : β}, All2 R as bs → as[i]? = some a → bs[i]? = some b → R a b
  | _ :: _, _ :: _, 0, _, _, ⟨h, _⟩, ha, hb => by cases ha; cases hb; exact h
  | _ :: _, _ :: _, _ + 1, _, _, ⟨_, h⟩, ha, hb => h.get (by simpa using ha) (by simpa using hb)
  | [], [], _, _, _, _, ha, _ => by simp at ha
  | [], _ :: _, _, _, _, h, _, _ => h.elim
  | _ :: _, [], _, _, _, h, _, _ => h.elim
theorem All2.drop {α β : Type} {R : α → β → Prop} : ∀ {as : List α} {bs : List β} (n : Nat), All2 R as bs → All2 R (as.drop n) (bs.drop n)
  | _, _, 0, h => h
  | [], [], _ + 1, _ => trivial
  | _ :: _, _ :: _, n + 1, ⟨_, h⟩ => h.drop n
  | [], _ :: _, _ + 1, h => h.elim
  | _ :: _, [], _ + 1, h => h.elim
theorem All2.take {α β : Type} {R : α → β → Prop} : ∀ {as : List α} {bs : List β} (n : Nat), All2 R as bs → All2 R (as.take n) (bs.take n)
  | _, _, 0, _ => by rw [List.take_zero, List.take_zero]; trivial
  | [], [], _ + 1, _ => trivial
  | _ :: _, _ :: _, n + 1, ⟨a, h⟩ => ⟨a, h.take n⟩
  | [], _ :: _, _ + 1, h => h.elim
  | _ :: _, [], _ + 1, h => h.elim
end Mine
end

section
open PySem PySem.W PyProof.Rows
set_option maxRecDepth 100000
set_option linter.unusedVariables false
set_option linter.unusedSimpArgs false
namespace Mine
local macro_rules | `(tactic| walk_at "none such") => `(tactic| fail "none such")
local macro_rules | `(tactic| walk_at "none such") => `(tactic| fail "none such")
local macro_rules | `(tactic| walk_at "none such") => `(tactic| fail "none such")
local macro_rules | `(tactic| walk_at "none such") => `(tactic| fail "none such")
local macro_rules | `(tactic| walk_at "none such") => `(tactic| fail "none such")
local macro_rules | `(tactic| walk_at "none such") => `(tactic| fail "none such")
local macro_rules | `(tactic| walk_at "none such") => `(tactic| fail "none such")
local macro_rules | `(tactic| walk_at "none such") => `(tactic| fail "none such")
local macro_rules | `(tactic| walk_at "none such") => `(tactic| fail "none such")
local macro_rules | `(tactic| walk_at "none such") => `(tactic| fail "none such")
local macro_rules | `(tactic| walk_at "none such") => `(tactic| fail "none such")
local macro_rules | `(tactic| walk_at "none such") => `(tactic| fail "none such")
local macro_rules | `(tactic| walk_at "none such") => `(tactic| fail "none such")
local macro_rules | `(tactic| walk_at "none such") => `(tactic| fail "none such")
local macro_rules | `(tactic| walk_at "none such") => `(tactic| fail "none such")
local macro_rules | `(tactic| walk_at "none such") => `(tactic| fail "none such")
local macro_rules | `(tactic| walk_at "none such") => `(tactic| fail "none such")
local macro_rules | `(tactic| walk_at "none such") => `(tactic| fail "none such")
local macro_rules | `(tactic| walk_at "none such") => `(tactic| fail "none such")
local macro_rules | `(tactic| walk_at "none such") => `(tactic| fail "none such")
local macro_rules | `(tactic| walk_at "none such") => `(tactic| fail "none such")
local macro_rules | `(tactic| walk_at "none such") => `(tactic| fail "none such")
local macro_rules | `(tactic| walk_at "none such") => `(tactic| fail "none such")
local macro_rules | `(tactic| walk_at "none such") => `(tactic| fail "none such")
local macro_rules | `(tactic| walk_at "none such") => `(tactic| fail "none such")
local macro_rules | `(tactic| k_room) => `(tactic| ktr_room)
local macro_rules | `(tactic| k_units) => `(tactic| ktr_units)
local macro_rules | `(tactic| k_all) => `(tactic| (refine ne_all (by assumption) (by omega)))
local macro_rules | `(tactic| walk_at "UnrEnd") => `(tactic| (refine unrEnd_del (by assumption) (by assumption) ?_ ?_; (case refine_1 => ((repeat refine Del.tail (by k_ne) ?_); refine Del.head (by k_all)))))

def cellV (ns : List Int) (i : Int) : Int := if i < ns.length then (Int.natAbs (ns.getD i.toNat 0) : Int) % 9973 else 7 * i + 3
theorem cellV_nn (ns : List Int) (i : Int) (h : 0 ≤ i) : 0 ≤ cellV ns i := by unfold cellV; split <;> omega
theorem cellV_lt (ns : List Int) (i : Int) (h : i < 100) : cellV ns i < 9973 := by unfold cellV; split <;> omega
set_option maxHeartbeats 4000000 in
theorem cell_c (w : World) (p loose mean mg mb) (l : Addr) (vs : List Value) (ns : List Int) (i : Int) (t : Tok) (news) (h0 : 0 ≤ i) (h1 : i < 100):
    Ctr w p loose mean mg mb 139 [.ref l, .int i t] news (fun base => base.IsList l vs.toArray ∧ IntsAre vs ns ∧ ns.length ≤ 63) (fun r news' => news' = news ∧ ∃ t', r = .int (cellV ns i) t') := by
  k_with_none
  w_top off
  unfold Ctr
  k_fill
  intro dp un gd cn cs a ccd cl outer A₀ base h₀ L m s Q E B F X N T hk hd hu ⟨hl, hi, hlen⟩ hret
  refine wpAny_call ?_
  k_dflt cell_enter
  k_steps
  all_goals (refine hret _ _ _ _ (by assumption) (by assumption) ⟨rfl, ?_⟩)
  · have hc : i < (ns.length : Int) := by assumption
    have e : (if ns.getD i.toNat 0 < 0 then -ns.getD i.toNat 0 else ns.getD i.toNat 0).fmod 9973 = cellV ns i := by
      unfold cellV
      rw [if_pos hc, Int.fmod_eq_emod_of_nonneg _ (by decide)]
      congr 1
      split <;> omega
    rw [e]; exact ⟨_, rfl⟩
  · have hc : ¬ i < (ns.length : Int) := by assumption
    have e : 7 * i + 3 = cellV ns i := by
      unfold cellV
      rw [if_neg hc]
    rw [e]; exact ⟨_, rfl⟩
set_option maxHeartbeats 4000000 in
theorem after_c (w : World) (p loose mean mg mb) (x dx y dy : Addr) (a b c d : Int) (ta tb tc td te tf : Tok) (news) (hx : (x, tokObj dx a b ta tb tc) ∈ news) (hdx : (dx, dictOf [] 0) ∈ news) (hy : (y, tokObj dy c d td te tf) ∈ news) (hdy : (dy, dictOf [] 0) ∈ news) :
    Ctr w p loose mean mg mb 101 [.ref x, .ref y] news (fun _ => True) (fun r news' => news' = news ∧ ∃ z, r = .bool z ∧ (z = true ↔ d < a)) := by
  k_with_none
  w_top off
  unfold Ctr
  k_fill
  intro dp un gd cn cs a ccd cl outer A₀ base h₀ L m s Q E B F X N T hk hd hu hp hret
  refine wpAny_call ?_
  k_dflt cell_enter
  k_steps
  all_goals (first | exact hret _ _ _ _ (by assumption) (by assumption) ⟨rfl, _, rfl, by first | (simp only [decide_eq_true_eq, gt_iff_lt]; done) | ((try simp only [decide_eq_true_eq]); omega) | (simp_all; done)⟩)
set_option maxHeartbeats 4000000 in
theorem before_c (w : World) (p loose mean mg mb) (x dx y dy : Addr) (a b c d : Int) (ta tb tc td te tf : Tok) (news) (hx : (x, tokObj dx a b ta tb tc) ∈ news) (hdx : (dx, dictOf [] 0) ∈ news) (hy : (y, tokObj dy c d td te tf) ∈ news) (hdy : (dy, dictOf [] 0) ∈ news) :
    Ctr w p loose mean mg mb 108 [.ref x, .ref y] news (fun _ => True) (fun r news' => news' = news ∧ ∃ z, r = .bool z ∧ (z = true ↔ b < c)) := by
  k_with_none
  w_top off
  unfold Ctr
  k_fill
  intro dp un gd cn cs a ccd cl outer A₀ base h₀ L m s Q E B F X N T hk hd hu hp hret
  refine wpAny_call ?_
  k_dflt cell_enter
  k_steps
  all_goals (first | exact hret _ _ _ _ (by assumption) (by assumption) ⟨rfl, _, rfl, by first | (simp only [decide_eq_true_eq, gt_iff_lt]; done) | ((try simp only [decide_eq_true_eq]); omega) | (simp_all; done)⟩)
set_option maxHeartbeats 4000000 in
theorem contains_c (w : World) (p loose mean mg mb) (x dx y dy : Addr) (a b c d : Int) (ta tb tc td te tf : Tok) (news) (hx : (x, tokObj dx a b ta tb tc) ∈ news) (hdx : (dx, dictOf [] 0) ∈ news) (hy : (y, tokObj dy c d td te tf) ∈ news) (hdy : (dy, dictOf [] 0) ∈ news) :
    Ctr w p loose mean mg mb 115 [.ref x, .ref y] news (fun _ => True) (fun r news' => news' = news ∧ ∃ z, r = .bool z ∧ (z = true ↔ a ≤ c ∧ d ≤ b)) := by
  k_with_none
  w_top off
  unfold Ctr
  k_fill
  intro dp un gd cn cs a ccd cl outer A₀ base h₀ L m s Q E B F X N T hk hd hu hp hret
  refine wpAny_call ?_
  k_dflt cell_enter
  k_steps
  all_goals (first | exact hret _ _ _ _ (by assumption) (by assumption) ⟨rfl, _, rfl, by first | (simp only [decide_eq_true_eq, gt_iff_lt]; done) | ((try simp only [decide_eq_true_eq]); omega) | (simp_all; done)⟩)
set_option maxHeartbeats 4000000 in
theorem overlap_c (w : World) (p loose mean mg mb) (x dx y dy : Addr) (a b c d : Int) (ta tb tc td te tf : Tok) (news) (hx : (x, tokObj dx a b ta tb tc) ∈ news) (hdx : (dx, dictOf [] 0) ∈ news) (hy : (y, tokObj dy c d td te tf) ∈ news) (hdy : (dy, dictOf [] 0) ∈ news) :
    Ctr w p loose mean mg mb 122 [.ref x, .ref y] news (fun _ => True) (fun r news' => news' = news ∧ ∃ z, r = .bool z ∧ (z = true ↔ (a ≤ c ∧ c ≤ b) ∨ (a ≤ d ∧ d ≤ b))) := by
  k_with_none
  w_top off
  unfold Ctr
  k_fill
  intro dp un gd cn cs a ccd cl outer A₀ base h₀ L m s Q E B F X N T hk hd hu hp hret
  refine wpAny_call ?_
  k_dflt cell_enter
  k_steps
  all_goals (first | exact hret _ _ _ _ (by assumption) (by assumption) ⟨rfl, _, rfl, by first | (simp only [decide_eq_true_eq, gt_iff_lt]; done) | ((try simp only [decide_eq_true_eq]); omega) | (simp_all; done)⟩)
set_option maxHeartbeats 4000000 in
theorem eq_c (w : World) (p loose mean mg mb) (x dx y dy : Addr) (a b c d : Int) (ta tb tc td te tf : Tok) (news) (hx : (x, tokObj dx a b ta tb tc) ∈ news) (hdx : (dx, dictOf [] 0) ∈ news) (hy : (y, tokObj dy c d td te tf) ∈ news) (hdy : (dy, dictOf [] 0) ∈ news) :
    Ctr w p loose mean mg mb 77 [.ref x, .ref y] news (fun _ => True) (fun r news' => news' = news ∧ ∃ z, r = .bool z ∧ (z = true ↔ a = c ∧ b = d)) := by
  k_with_none
  w_top off
  unfold Ctr
  k_fill
  intro dp un gd cn cs a ccd cl outer A₀ base h₀ L m s Q E B F X N T hk hd hu hp hret
  refine wpAny_call ?_
  k_dflt cell_enter
  k_steps
  all_goals (first | exact hret _ _ _ _ (by assumption) (by assumption) ⟨rfl, _, rfl, by first | (simp only [decide_eq_true_eq, gt_iff_lt]; done) | ((try simp only [decide_eq_true_eq]); omega) | (simp_all; done)⟩)
end Mine
end

section
open PySem PySem.W PyProof.Rows
set_option maxRecDepth 100000
set_option linter.unusedVariables false
set_option linter.unusedSimpArgs false
set_option rowWalk.seconds 0
namespace Mine
local macro_rules | `(tactic| k_room) => `(tactic| ktr_room)
local macro_rules | `(tactic| k_units) => `(tactic| ktr_units)
local macro_rules | `(tactic| k_all) => `(tactic| (first | with_reducible assumption | (refine' ne_all ?nh ?nx; (case nh => assumption); (case nx => omega)) | fail "ne_all"))
local macro_rules | `(tactic| k_updF) => `(tactic| first | (refine' Del.head ?a; (case a => k_all)) | (refine' Del.tail ?a ?b; (case a => k_ne); (case b => k_updF)))
local macro_rules | `(tactic| k_updF) => `(tactic| first | exact Pre.nil | (refine' Pre.cons ?a ?b; (case a => (refine leN ?_; (try dsimp only); omega)); (case b => k_updF)))
local macro_rules | `(tactic| k_mem) => `(tactic| first | with_reducible assumption | exact List.mem_cons_self | (refine' List.mem_cons_of_mem _ ?_; k_mem))
local macro_rules | `(tactic| walk_at "UnrEnd") => `(tactic| (refine' unrEnd_del ?uF ?uN ?uD ?_; (case uF => k_asm); (case uN => k_asm); (case uD => k_updF)))

set_option maxHeartbeats 0 in
theorem mk_c (w : World) (p loose mean mg mb) (i j : Int) (t u v: Tok) (news) :
    Ctr w p loose mean mg mb 126 [.int i t, .int j u, .str (txt j) v, .none] news (fun _ => True)
      (fun r news' => ∃ x dx, r = .ref x ∧ news' = (x, tokObj dx i j t u v) :: (dx, dictOf [] 0) :: news ∧ (∀ p ∈ news, p.1 < dx) ∧ @LT.lt Nat _ dx x) := by
  k_with_none
  w_top off
  unfold Ctr
  k_fill
  intro dp un gd cn cs a ccd cl outer A₀ base h₀ L m s Q E B F X N T hk hd hu hp hret
  k_dflt (refine' call_cls ?k1 ?k2 ?k3 ?k4 ?k5 ?k6 ?_; (case k1 => k_asm); (case k2 => k_asm); (case k3 => k_asm); (case k4 => k_is); (case k5 => k_is); (case k6 => k_is); k_whole; intro x' d' h' F' N' l1 l2; (try k_lt l1); (try k_lt2 l2); (try k_sweep))
  refine' code_def ?k1 ?k2 ?k3 ?k4 ?k5 ?kA ?kF ?kK ?k6 ?k7 ?k8 ?k9 ?kB ?_ ?c2 ?c3 ?c4 ?c5; (case kA => exact rfl); (case kF => exact rfl); (case kK => assumption); (case k1 => k_asm); (case k2 => k_asm); (case k3 => k_asm); (case k4 => k_asm); (case k5 => k_asm); (case k6 => k_is); (case k7 => k_is); (case k8 => k_room); (case k9 => first | exact BindsTo.of_eq rfl | exact binds_K (by k_in) rfl (by k_is) rfl rfl rfl | fail "k_enter: no rule for these arguments"); (case c5 => decide); (case kB => exact locs rfl); (case c2 => exact rfl); (case c3 => exact rfl); (case c4 => exact rfl); k_whole; intro g' L' h' FG' F' N' B' X' T'; (try dsimp only); (try k_lift B'); (try k_fold)
  k_steps
  exact hret _ _ _ _ (by assumption) (by assumption) ⟨_, _, rfl, rfl, l1, l2⟩

theorem rangeKs_len (a : Int) (n : Nat) : (rangeKs a n).length = n := rangeKs_length a n
set_option maxHeartbeats 0 in
theorem places_c (w : World) (p loose mean mg mb) (x : Addr) (i j : Int) (ti tj : Tok) (news) (hx : (x, pairObj i j ti tj) ∈ news) (h1 : 0 ≤ i) (h2 : i ≤ j) (h3 : j < 1000) :
    Ctr w p loose mean mg mb 153 [.ref x] news (fun _ => True)
      (fun r news' => ∃ D vs n, r = .ref D ∧ news' = (D, listOf vs.toArray n) :: news ∧ (∀ p ∈ news, p.1 < D) ∧ IntsAre vs (rangeKs i (j + 1 - i).toNat)) := by
  k_with_none
  w_top off
  unfold Ctr
  k_fill
  intro dp un gd cn cs a ccd cl outer A₀ base h₀ L m s Q E B F X N T hk hd hu hp hret
  refine wpAny_call ?_
  k_dflt cell_enter
  k_steps
  exact hret _ _ _ _ (by assumption) (by assumption) ⟨_, _, _, rfl, rfl, by assumption, by assumption⟩

def ext (k : Int) (i : Nat) : Int := (k / 3 ^ (i + 1)) % 5
def sub1 (s k : Int) (i : Nat) : Int × Int := (s + ext k i, s + min 4 (ext k i + i))
def subs (s k : Int) : List (Int × Int) := (List.range (1 + k % 3).toNat).map (sub1 s k)
def grp (kind s k : Int) : List (Int × Int) × List (Int × Int) :=
  if kind = 0 then ([(s, s + k % 4)], [(s, s + k % 4)])
  else if kind = 1 then ((s, s + 4) :: subs s k, [(s, s + 4)])
  else if kind = 2 then ([(s, s + 4), (s + 3, s + 5 + k % 2), (s + 5, s + 6)], [(s, s + 4), (s + 5, s + 6)])
  else ([(s, s + 1 + k % 2), (s + 1, s + 4 + k % 3)], [(s + 1, s + 4 + k % 3)])
theorem fm3 (k : Int) : k.fmod 3 = k % 3 := Int.fmod_eq_emod_of_nonneg _ (by decide)
theorem fm4 (k : Int) : k.fmod 4 = k % 4 := Int.fmod_eq_emod_of_nonneg _ (by decide)
theorem fm2 (k : Int) : k.fmod 2 = k % 2 := Int.fmod_eq_emod_of_nonneg _ (by decide)
theorem subs1 {s k : Int} (h : 1 + k.fmod 3 = 1) : subs s k = [sub1 s k 0] := by
  rw [fm3] at h; unfold subs; rw [h]; rfl
theorem subs2 {s k : Int} (h : 1 + k.fmod 3 = 2) : subs s k = [sub1 s k 0, sub1 s k 1] := by
  rw [fm3] at h; unfold subs; rw [h]; rfl
theorem subs3 {s k : Int} (h : 1 + k.fmod 3 = 3) : subs s k = [sub1 s k 0, sub1 s k 1, sub1 s k 2] := by
  rw [fm3] at h; unfold subs; rw [h]; rfl
theorem ext_is (k : Int) (i : Nat) (e : Nat) (he : e = i + 1) : (k.fdiv (3 ^ e)).fmod 5 = ext k i := by
  subst he
  unfold ext
  rw [Int.fmod_eq_emod_of_nonneg _ (by decide), Int.fdiv_eq_ediv_of_nonneg _ (Int.le_of_lt (Int.pow_pos (by decide)))]
theorem pair_is {news : List (Addr × Obj)} {a : Addr} {x y : Int} {ta tb : Tok} {q : Int × Int} (hm : (a, pairObj x y ta tb) ∈ news) (h1 : x = q.1) (h2 : y = q.2) : PairAt news (.ref a) q := by
  subst h1 h2
  exact ⟨a, ta, tb, rfl, hm⟩
theorem pair_sub {news : List (Addr × Obj)} {a : Addr} {j k : Int} {ta tb : Tok} (i e : Nat) (z : Int) (he : e = i + 1) (hz : z = i)
    (hm : (a, pairObj (j + (k.fdiv (3 ^ e)).fmod 5) (j + if (k.fdiv (3 ^ e)).fmod 5 + z < 4 then (k.fdiv (3 ^ e)).fmod 5 + z else 4) ta tb) ∈ news) : PairAt news (.ref a) (sub1 j k i) := by
  subst hz
  rw [ext_is k i e he] at hm
  refine pair_is hm rfl ?_
  show _ = j + min 4 (ext k i + i)
  split <;> omega

def GrpPost (kind s k : Int) (news : List (Addr × Obj)) (r : Value) (news' : List (Addr × Obj)) : Prop :=
  ∃ d new D l1 l2 its1 its2 n1 n2, (∀ p ∈ news, p.1 < d) ∧ Pre d news new news' ∧ r = .ref D ∧ (D, ({ cls := .type "tuple", data := .seq #[.ref l1, .ref l2] } : Obj)) ∈ new ∧ (l1, listOf its1 n1) ∈ new ∧ (l2, listOf its2 n2) ∈ new ∧
    All2 (PairAt new) its1.toList (grp kind s k).1 ∧ All2 (PairAt new) its2.toList (grp kind s k).2
theorem grp0 (s k : Int) : grp 0 s k = ([(s, s + k % 4)], [(s, s + k % 4)]) := rfl
theorem grp1 (s k : Int) : grp 1 s k = ((s, s + 4) :: subs s k, [(s, s + 4)]) := rfl
theorem grp2 (s k : Int) : grp 2 s k = ([(s, s + 4), (s + 3, s + 5 + k % 2), (s + 5, s + 6)], [(s, s + 4), (s + 5, s + 6)]) := rfl
theorem grp3 (s k : Int) : grp 3 s k = ([(s, s + 1 + k % 2), (s + 1, s + 4 + k % 3)], [(s + 1, s + 4 + k % 3)]) := rfl
local macro_rules | `(tactic| ktr_rel) => `(tactic| (first
  | exact trivial
  | (refine' And.intro ?_ ?_; rotate_left; ktr_rel; first
    | (refine' pair_is ?pm ?p1 ?p2; (case pm => k_mem); (case p1 => rfl); (case p2 => first | rfl | (simp only [fm2, fm3, fm4]; done)))
    | (refine' pair_sub _ _ _ ?pe ?pz ?pm; (case pm => k_mem); (case pe => rfl); (case pz => rfl)))))
local macro_rules | `(tactic| tb_start) => `(tactic| (refine' ⟨_, _, _, _, _, _, _, _, _, ?g6, ?g7, rfl, ?g1, ?g2, ?g3, ?g4, ?g5⟩; (case g6 => assumption); (case g7 => k_updF); (case g1 => k_mem); (case g2 => k_mem); (case g3 => k_mem); (case g4 => (dsimp only; ktr_rel)); (case g5 => (dsimp only; ktr_rel))))
example (j k : Int) (D D1 D2 D3 D4 D5 l1 l2 : Addr) (news : List (Addr × Obj)) (u t1 t2 : Tok) (l1' : ∀ p ∈ news, p.1 < D1) (l2' : @LT.lt Nat _ D1 D2) (l3' : @LT.lt Nat _ D1 D3) (l3' : @LT.lt Nat _ D1 D) (l3' : @LT.lt Nat _ D1 l1) (l3' : @LT.lt Nat _ D1 l2) : GrpPost 0 j k news (Value.ref D) ((D, { cls := Value.type "tuple", data := Data.seq #[Value.ref l1, Value.ref l2] }) ::
    (l2, W.listOf #[Value.ref D1] 0) ::
      (D1, { cls := Value.type "tuple", data := Data.seq #[Value.int j u, Value.int (j + k.fmod 4) t1] }) ::
        (l1, W.listOf #[Value.ref D2] 0) :: (D2, { cls := Value.type "tuple", data := Data.seq #[Value.int j u, Value.int (j + k.fmod 4) t2] }) :: news) := by
  unfold GrpPost
  rw [grp0]
  tb_start
example (j k : Int) (D D1 D2 D3 D4 D5 l1 l2 : Addr) (news : List (Addr × Obj)) (u t1 t2 : Tok) (l1' : ∀ p ∈ news, p.1 < D1) (l2' : @LT.lt Nat _ D1 D2) (l3' : @LT.lt Nat _ D1 D3) (l3' : @LT.lt Nat _ D1 D) (l3' : @LT.lt Nat _ D1 l1) (l3' : @LT.lt Nat _ D1 l2) (h : 1 + k.fmod 3 = 2) : GrpPost 1 j k news (Value.ref D) ((D, { cls := Value.type "tuple", data := Data.seq #[Value.ref l1, Value.ref l2] }) ::
    (l2, W.listOf #[Value.ref D1] 0) ::
      (D2, { cls := Value.type "tuple", data := Data.seq #[Value.int (j + (k.fdiv (3 ^ (0 + ((0+1:Nat):Int) + 1).toNat)).fmod 5) u, Value.int (j + if (k.fdiv (3 ^ (0 + ((0+1:Nat):Int) + 1).toNat)).fmod 5 + (0 + ((0+1:Nat):Int)) < 4 then (k.fdiv (3 ^ (0 + ((0+1:Nat):Int) + 1).toNat)).fmod 5 + (0 + ((0+1:Nat):Int)) else 4) t1] }) ::
      (D3, { cls := Value.type "tuple", data := Data.seq #[Value.int (j + (k.fdiv (3 ^ (0 + ((0:Nat):Int) + 1).toNat)).fmod 5) u, Value.int (j + if (k.fdiv (3 ^ (0 + ((0:Nat):Int) + 1).toNat)).fmod 5 + (0 + ((0:Nat):Int)) < 4 then (k.fdiv (3 ^ (0 + ((0:Nat):Int) + 1).toNat)).fmod 5 + (0 + ((0:Nat):Int)) else 4) t1] }) ::
        (l1, W.listOf ((#[Value.ref D1].push (Value.ref D3)).push (Value.ref D2)) (0+1+1)) :: (D1, { cls := Value.type "tuple", data := Data.seq #[Value.int j u, Value.int (j + 4) t2] }) :: news) := by
  unfold GrpPost
  rw [grp1, subs2 h]
  tb_start

set_option maxHeartbeats 0 in
theorem grp_c (w : World) (p loose mean mg mb) (i j k : Int) (t u v: Tok)  (news) (h1 : 0 ≤ i) (h2 : i < 4) (h3 : 0 ≤ j) (h4 : j < 100) (h5 : 0 ≤ k) (h6 : k < 10000):
    Ctr w p loose mean mg mb 146 [.int i t, .int j u, .int k v] news (fun _ => True) (GrpPost i j k news) := by
  k_with_none
  w_top off
  unfold Ctr
  k_fill
  intro dp un gd cn cs a ccd cl outer A₀ base h₀ L m s Q E B F X N T hk hd hu hp hret
  refine wpAny_call ?_
  k_dflt cell_enter
  (k_with "call type:range" => k_rangeSizes)
  k_steps
  all_goals (first
    | (exfalso; (rename 1 + Int.fmod _ _ = 0 => h9); rw [fm3] at h9; omega)
    | (refine hret _ _ _ _ (by assumption) (by assumption) ?_))
  all_goals clear hret
  all_goals (unfold GrpPost; first
    | (have hi : i = 0 := by omega
       subst hi; rw [grp0]; tb_start)
    | (have hi : i = 1 := by omega
       subst hi; rw [grp1]; first | rw [subs1 (by assumption)] | rw [subs2 (by assumption)] | rw [subs3 (by assumption)]
       tb_start)
    | (have hi : i = 2 := by omega
       subst hi; rw [grp2]; tb_start)
    | (have hi : i = 3 := by omega
       subst hi; rw [grp3]; tb_start))
end Mine
end

section
open PySem PySem.W PyProof.Rows
set_option maxRecDepth 100000
set_option linter.unusedVariables false
namespace Mine
def bodyOf : Stmt → List Stmt
  | .FunctionDef _ _ b _ _ _ _ _ _ _ => b
  | _ => []
def scopeOf : Stmt → Scope
  | .FunctionDef _ _ _ _ _ _ sc _ _ _ => sc
  | _ => default
def lawStmt : Stmt := PySem.Challenge.pw_ew0012_01.main.body.getLastD (.Pass default)
def lawTail (n : Nat) : List Stmt := (bodyOf lawStmt).drop n
def lawScope : Scope := scopeOf lawStmt
abbrev lawTop (dp un : Nat) (gd : Option (List Code)) (L fa : Addr) (ccd : Value) (outer : List Env) : Around := ktrTop dp un gd (Str.ofString "law") lawScope L fa ccd [(Str.ofString "own", L + 1)] outer
abbrev lawEnv (L fa : Addr) (ccd : Value) : Env := envX (Str.ofString "law") lawScope L fa ccd [(Str.ofString "own", L + 1)]

abbrev OkR (L : Addr) (rest : List (Addr × Obj)) : Prop := ∀ p ∈ rest, @Ne Nat p.1 (L + 1) ∧ @Ne Nat p.1 86
def Hold (P : Prop) : Prop := P
theorem hold_of {P : Prop} (h : Hold P) : P := h
theorem Hold.out {P : Prop} (h : P) : Hold P := h
theorem Ctr.useH {w : World} {p loose mean mg mb} {f : Addr} {vs : List Value} {news : List (Addr × Obj)} {pre : Heap → Prop} {Post : Value → List (Addr × Obj) → Prop} (C : Ctr w p loose mean mg mb f vs news pre Post)
    {dp un : Nat} {gd : Option (List Code)} {cn : Str} {cs : Scope} {a : Addr} {ccd : Value} {cl : List (Str × Addr)} {outer : List Env} {A₀ : Around} {base h₀ : Heap} {L : Addr} {m : Str → Option Value} {s : Shared} {Q E : Value → Shared → Prop}
    (B : Below A₀ base outer h₀) (F : Fr h₀ L s.heap m) (X : (Mine.hd.heap_39 w.params).In h₀) (N : News h₀ L s.heap news) (T : Top p loose mean mg mb h₀) (hk : cs.kind = .function) (hd : dp + 20 < recursionLimit) (hu : un + 200 < cLine) (hp : pre base)
    (ret : Hold (∀ r h' tk' news', Fr h₀ L h' m → News h₀ L h' news' → Post r news' → Q r { s with heap := h', toks := tk' })) :
    wpAny (model PySem.Challenge.rw_ew0012_01.row.prog w) (ktrTop dp un gd cn cs L a ccd cl outer) (call (.ref f) vs) Q E s := C _ _ _ _ _ _ _ _ _ _ _ _ _ _ _ _ _ B F X N T hk hd hu hp ret
theorem mem_app3 {a b c : Addr × Obj} {nw rest : List (Addr × Obj)} : ∀ q ∈ a :: b :: c :: (nw ++ rest), q ∈ nw ++ (a :: b :: c :: rest) := by
  intro q hq
  simp only [List.mem_cons, List.mem_append] at hq ⊢
  grind
theorem mem_app2 {b c : Addr × Obj} {nw rest : List (Addr × Obj)} : ∀ q ∈ b :: c :: (nw ++ rest), q ∈ nw ++ (b :: c :: rest) := by
  intro q hq
  simp only [List.mem_cons, List.mem_append] at hq ⊢
  grind

section
variable {prog : Program} {w : World} {A : Around} {E : Value → Shared → Prop} {s : Shared} {env : Env} {h₀ : Heap} {x : Str} {body : List Stmt} {Q : Flow → Shared → Prop}
theorem unrPost_mono {L I : Addr} {it : Obj} {rest rest' : (Str → Option Value) → List (Addr × Obj) → Prop} {s₁ s₂ : Shared} {f : Flow} (hr : ∀ m n, rest m n → rest' m n) (h : UnrPost h₀ L s₁ I it rest Q f s₂) : UnrPost h₀ L s₁ I it rest' Q f s₂ := by
  have up : UnrEnd h₀ L s₁ I it rest s₂ → UnrEnd h₀ L s₁ I it rest' s₂ := fun ⟨h', tk, m', n', e, F, N, o, r⟩ => ⟨h', tk, m', n', e, F, N, o, hr _ _ r⟩
  cases f with
  | ret v => exact h
  | brk => exact h
  | next => exact up h
  | cont => exact up h
theorem rangeRest_of {I : Addr} {a : Int} {n : Nat} (J : Nat → (Str → Option Value) → List (Addr × Obj) → Prop)
    (hend : ∀ m news, J n m news → ∀ h tk, Fr h₀ env.locals h m → News h₀ env.locals h news → Q .next { s with heap := h, toks := tk })
    (turn : ∀ i m news, i < n → J i m news → ∀ t h tk, Fr h₀ env.locals h (fun y => if y = x then some (.int (a + (i : Int)) t) else m y) → News h₀ env.locals h ((I, itR (a + ((i + 1 : Nat) : Int)) ((n : Int) - ((i + 1 : Nat) : Int))) :: news) →
      wpAny (model prog w) A (execs body env) (UnrPost h₀ env.locals { s with heap := h, toks := tk } I (itR (a + ((i + 1 : Nat) : Int)) ((n : Int) - ((i + 1 : Nat) : Int))) (J (i + 1)) Q) E { s with heap := h, toks := tk }) :
    ∀ k i m news, i + k = n → J i m news → RangeRest prog w A E h₀ env x body Q s I a n k i m news := by
  intro k
  induction k with
  | zero =>
    intro i m news e hJ
    have e' : i = n := by omega
    subst e'
    exact fun h tk F N => hend m news hJ h tk F N
  | succ k ih =>
    intro i m news e hJ
    exact fun t h tk F N => wpAny_mono (turn i m news (by omega) hJ t h tk F N) (fun f s₂ p => unrPost_mono (fun m' n' hj => ih (i + 1) m' n' (by omega) hj) p) fun _ _ e => e
end
/-- the frame's map, forgotten but for the names told -/
theorem canon {h₀ h : Heap} {L : Addr} {m : Str → Option Value} (ps : List (Str × Value)) (hp : ∀ p ∈ ps, m p.1 = some p.2) (F : Fr h₀ L h m) : Fr h₀ L h (kstB m ps) := by
  have e : kstB m ps = m := funext fun z => kstB_eq hp fun _ => rfl
  rw [e]; exact F
theorem newsSub {h₀ h : Heap} {L : Addr} {n n' : List (Addr × Obj)} (N : News h₀ L h n) (hs : ∀ p ∈ n', p ∈ n) : News h₀ L h n' := fun p hp => N p (hs p hp)
section
variable {prog : Program} {w : World} {A : Around} {E : Value → Shared → Prop} {s : Shared} {h₀ : Heap} {L a b : Addr} {m : Str → Option Value} {news : List (Addr × Obj)} {its its2 : Array Value} {n n2 : Nat} {Q : Value → Shared → Prop}
theorem add_mine (F : Fr h₀ L s.heap m) (N : News h₀ L s.heap news) (ha : (a, listOf its n) ∈ news) (hb : (b, listOf its2 n2) ∈ news) (hz : its.size + its2.size ≤ 4096)
    (h : ∀ D h', Fr h₀ L h' m → News h₀ L h' ((D, listOf (its.toList ++ its2.toList).toArray 0) :: news) → (∀ p ∈ news, p.1 < D) → Q (.ref D) { s with heap := h' }) : wpAny (model prog w) A (binaryOp .Add (.ref a) (.ref b)) Q E s :=
  add_arrays (hsz := by rw [sizeLine_eq]; omega) F N ⟨_, (N _ ha).1, rfl, _, rfl⟩ ⟨_, (N _ hb).1, rfl, _, rfl⟩ fun h' F' N' => h _ h' F' N' fun p hp => Heap.lt_size (N p hp).1
theorem len_mine (N : News h₀ L s.heap news) (ha : (a, listOf its n) ∈ news) (hz : its.size ≤ 4096) (h : Q (.int its.size (s.toks + 1)) { s with toks := s.toks + 1 + 1 }) : wpAny (model prog w) A (call (.builtin "len") [.ref a]) Q E s :=
  PySem.Calls.call_len_list ⟨_, (N _ ha).1, rfl, _, rfl⟩ (by omega) h
theorem slice_from_mine {value slice : Expr} {k : Int} {t : Tok} (F : Fr h₀ L s.heap m) (N : News h₀ L s.heap news) (ha : (a, listOf its n) ∈ news) (hk : 0 ≤ k) (hz : its.size ≤ 4096)
    (h : ∀ D h', Fr h₀ L h' m → News h₀ L h' ((D, listOf (its.toList.drop k.toNat).toArray 0) :: news) → (∀ p ∈ news, p.1 < D) → Q (.ref D) { s with heap := h' })
    (hs : subscripted slice false (.ref a) (.ref s.heap.objs.size) = operate [.ref s.heap.objs.size, .ref a] (getItem (.ref a) (.ref s.heap.objs.size))) (ht : ∀ r, letTemporaryGo value (.ref a) r = pure ()) :
    wpAny (model prog w) A (subscriptTail value slice (.ref a) (.ref s.heap.objs.size)) Q E { s with heap := s.heap.push { cls := .type "slice", data := .fields #[.int k t, .none, .none] } } := by
  refine kmk_slice (lo := some k) (hi := none) F N ⟨_, (N _ ha).1, rfl, _, rfl⟩ (.int _ _) .none (fun D h' F' N' l1 => ?_) hs ht (by rw [sizeLine_eq]; omega)
  have e : slicePick its (some k) none none = (its.toList.drop k.toNat).toArray := by
    have := slicePick_from' its k.toNat
    rwa [Int.toNat_of_nonneg hk] at this
  rw [e] at N'
  exact h D h' F' N' l1
theorem slice_upto_mine {value slice : Expr} {k : Int} {t : Tok} (F : Fr h₀ L s.heap m) (N : News h₀ L s.heap news) (ha : (a, listOf its n) ∈ news) (hk : 0 ≤ k) (hz : its.size ≤ 4096)
    (h : ∀ D h', Fr h₀ L h' m → News h₀ L h' ((D, listOf (its.toList.take k.toNat).toArray 0) :: news) → (∀ p ∈ news, p.1 < D) → Q (.ref D) { s with heap := h' })
    (hs : subscripted slice false (.ref a) (.ref s.heap.objs.size) = operate [.ref s.heap.objs.size, .ref a] (getItem (.ref a) (.ref s.heap.objs.size))) (ht : ∀ r, letTemporaryGo value (.ref a) r = pure ()) :
    wpAny (model prog w) A (subscriptTail value slice (.ref a) (.ref s.heap.objs.size)) Q E { s with heap := s.heap.push { cls := .type "slice", data := .fields #[.none, .int k t, .none] } } := by
  refine kmk_slice (lo := none) (hi := some k) F N ⟨_, (N _ ha).1, rfl, _, rfl⟩ .none (.int _ _) (fun D h' F' N' l1 => ?_) hs ht (by rw [sizeLine_eq]; omega)
  have e : slicePick its none (some k) none = (its.toList.take k.toNat).toArray := by
    have := slicePick_upto' its k.toNat
    rwa [Int.toNat_of_nonneg hk] at this
  rw [e] at N'
  exact h D h' F' N' l1
end

section
variable {prog : Program} {w : World} {A : Around} {E : Value → Shared → Prop} {s : Shared} {h₀ : Heap} {L : Addr} {m : Str → Option Value} {env : Env}
theorem compEnd_mono {I C D : Addr} {oI oC oD : Obj} {S : List (Addr × Obj) → Prop} {rest rest' : Value → List (Addr × Obj) → Prop} {s₁ : Shared} {y : Value} {s₂ : Shared} (hr : ∀ y n, rest y n → rest' y n) (h : LCg.CompEnd h₀ L m s₁ I oI C oC D oD S rest y s₂) :
    LCg.CompEnd h₀ L m s₁ I oI C oC D oD S rest' y s₂ := by
  obtain ⟨h', tk, n', e, F, N, o, hS, r⟩ := h
  exact ⟨h', tk, n', e, F, N, o, hS, hr _ _ r⟩
theorem compRestP_of {elt : Expr} {x x₂ : Str} {scope : Scope} {cl : List (Str × Addr)} {S : List (Addr × Obj) → Prop} {P : Nat → Value → Prop} {Fin : List Value → List (Addr × Obj) → Prop} {n : Nat} (J : Nat → List Value → List (Addr × Obj) → Prop)
    (hend : ∀ ys news, J n ys news → Fin ys news)
    (turn : ∀ i ys news, i < n → J i ys news → ∀ v, P i v → ∃ (t : Addr) (ot : Obj) (v₁ v₂ : Value) (nt : Nat), v = .ref t ∧ (t, ot) ∈ news ∧ ot.cls = .type "tuple" ∧ ot.data = .seq #[v₁, v₂] nt ∧
      ∀ I oI C oC D m₂ h tk (E' : Value → Shared → Prop), LCg.NsObj oC m₂ → m₂ x = some v₁ → m₂ x₂ = some v₂ → Fr h₀ L h m → News h₀ L h ((I, oI) :: (C, oC) :: (D, LCg.lst ys) :: news) → LCg.Off3 I C D news → ((@Ne Nat I C) ∧ (@Ne Nat I D) ∧ (@Ne Nat C D)) →
      wpAny (model prog w) A (eval elt (compEnvC scope cl C env)) (LCg.CompEnd h₀ L m { s with heap := h, toks := tk } I oI C oC D (LCg.lst ys) S (fun y news' => J (i + 1) (ys ++ [y]) news')) E' { s with heap := h, toks := tk }) :
    ∀ k i ys news, i + k = n → J i ys news → LCp.CompRestP prog w A h₀ L m env elt x x₂ scope cl s S P Fin k i ys news := by
  intro k
  induction k with
  | zero =>
    intro i ys news e hJ
    have e' : i = n := by omega
    subst e'
    exact hend ys news hJ
  | succ k ih =>
    intro i ys news e hJ v hv
    obtain ⟨t, ot, v₁, v₂, nt, a1, a2, a3, a4, a5⟩ := turn i ys news (by omega) hJ v hv
    refine ⟨t, ot, v₁, v₂, nt, a1, a2, a3, a4, ?_⟩
    intro I oI C oC D m₂ h tk E' b1 b2 b3 b4 b5 b6 b7
    exact wpAny_mono (a5 I oI C oC D m₂ h tk E' b1 b2 b3 b4 b5 b6 b7) (fun y s₂ p => compEnd_mono (fun y' n' hj => ih (i + 1) _ n' (by omega) hj) p) fun _ _ e => e
theorem compRest_of {elt : Expr} {x : Str} {scope : Scope} {cl : List (Str × Addr)} {S : List (Addr × Obj) → Prop} {P : Nat → Value → Prop} {Fin : List Value → List (Addr × Obj) → Prop} {n : Nat} (J : Nat → List Value → List (Addr × Obj) → Prop)
    (hend : ∀ ys news, J n ys news → Fin ys news)
    (turn : ∀ i ys news, i < n → J i ys news → ∀ v I oI C oC D m₂ h tk (E' : Value → Shared → Prop), P i v → LCg.NsObj oC m₂ → m₂ x = some v → Fr h₀ L h m → News h₀ L h ((I, oI) :: (C, oC) :: (D, LCg.lst ys) :: news) → LCg.Off3 I C D news → ((@Ne Nat I C) ∧ (@Ne Nat I D) ∧ (@Ne Nat C D)) →
      wpAny (model prog w) A (eval elt (compEnvC scope cl C env)) (LCg.CompEnd h₀ L m { s with heap := h, toks := tk } I oI C oC D (LCg.lst ys) S (fun y news' => J (i + 1) (ys ++ [y]) news')) E' { s with heap := h, toks := tk }) :
    ∀ k i ys news, i + k = n → J i ys news → LCg.CompRest prog w A h₀ L m env elt x scope cl s S P Fin k i ys news := by
  intro k
  induction k with
  | zero =>
    intro i ys news e hJ
    have e' : i = n := by omega
    subst e'
    exact hend ys news hJ
  | succ k ih =>
    intro i ys news e hJ v I oI C oC D m₂ h tk E' hv b1 b2 b4 b5 b6 b7
    exact wpAny_mono (turn i ys news (by omega) hJ v I oI C oC D m₂ h tk E' hv b1 b2 b4 b5 b6 b7) (fun y s₂ p => compEnd_mono (fun y' n' hj => ih (i + 1) _ n' (by omega) hj) p) fun _ _ e => e
end

theorem compEnd_mk {h₀ : Heap} {L I C D c t : Addr} {oI oC oD oc ot : Obj} {m : Str → Option Value} {s₁ : Shared} {S : List (Addr × Obj) → Prop} {R : Value → List (Addr × Obj) → Prop} {y : Value} {h : Heap} {tk d : Nat} {nw rest : List (Addr × Obj)}
    (F : Fr h₀ L h m) (N : News h₀ L h (nw ++ (I, oI) :: (C, oC) :: (D, oD) :: (c, oc) :: (t, ot) :: rest)) (off : LCg.Off3 I C D ((c, oc) :: (t, ot) :: rest))
    (hd : ∀ p ∈ (I, oI) :: (C, oC) :: (D, oD) :: (c, oc) :: (t, ot) :: rest, p.1 < d) (hq : ∀ q ∈ nw, @LE.le Nat _ d q.1) (hS : S ((c, oc) :: (t, ot) :: (nw ++ rest))) (r : R y ((c, oc) :: (t, ot) :: (nw ++ rest))) :
    LCg.CompEnd h₀ L m s₁ I oI C oC D oD S R y { s₁ with heap := h, toks := tk } := by
  refine LCg.CompEnd.intro F N _ ?_ (LCg.Off3.of ?_) hS r
  · intro p hp
    simp only [List.mem_cons, List.mem_append] at hp ⊢
    grind
  · intro p hp
    have o := off.mem
    have x1 : @LT.lt Nat _ I d := hd (I, oI) (by simp)
    have x2 : @LT.lt Nat _ C d := hd (C, oC) (by simp)
    have x3 : @LT.lt Nat _ D d := hd (D, oD) (by simp)
    rcases List.mem_cons.mp hp with rfl | hp
    · exact o _ (by simp)
    rcases List.mem_cons.mp hp with rfl | hp
    · exact o _ (by simp)
    rcases List.mem_append.mp hp with hp | hp
    · have := hq p hp
      exact ⟨Nat.ne_of_gt (Nat.lt_of_lt_of_le x1 this), Nat.ne_of_gt (Nat.lt_of_lt_of_le x2 this), Nat.ne_of_gt (Nat.lt_of_lt_of_le x3 this)⟩
    · exact o _ (.tail _ (.tail _ hp))

theorem nameLedger {h₀ h : Heap} {L : Addr} {Z : List (Addr × Obj)} (N : News h₀ L h Z) : ∃ Z', News h₀ L h Z' ∧ (∀ q ∈ Z, q ∈ Z') ∧ (∀ q ∈ Z', q ∈ Z) := ⟨Z, N, fun _ h => h, fun _ h => h⟩
end Mine
end

section
open PySem PySem.W PyProof.Rows
set_option maxRecDepth 100000
set_option linter.unusedVariables false
set_option linter.unusedSimpArgs false
set_option rowWalk.seconds 0
namespace Mine
local macro_rules | `(tactic| walk_at "none such") => `(tactic| fail "none such")
local macro_rules | `(tactic| walk_at "none such") => `(tactic| fail "none such")
local macro_rules | `(tactic| walk_at "none such") => `(tactic| fail "none such")
local macro_rules | `(tactic| walk_at "none such") => `(tactic| fail "none such")
local macro_rules | `(tactic| walk_at "none such") => `(tactic| fail "none such")
local macro_rules | `(tactic| walk_at "none such") => `(tactic| fail "none such")
local macro_rules | `(tactic| walk_at "none such") => `(tactic| fail "none such")
local macro_rules | `(tactic| walk_at "none such") => `(tactic| fail "none such")
local macro_rules | `(tactic| walk_at "none such") => `(tactic| fail "none such")
local macro_rules | `(tactic| walk_at "none such") => `(tactic| fail "none such")
local macro_rules | `(tactic| walk_at "none such") => `(tactic| fail "none such")
local macro_rules | `(tactic| walk_at "none such") => `(tactic| fail "none such")
local macro_rules | `(tactic| walk_at "none such") => `(tactic| fail "none such")
local macro_rules | `(tactic| walk_at "none such") => `(tactic| fail "none such")
local macro_rules | `(tactic| walk_at "none such") => `(tactic| fail "none such")
local macro_rules | `(tactic| walk_at "none such") => `(tactic| fail "none such")
local macro_rules | `(tactic| walk_at "none such") => `(tactic| fail "none such")
local macro_rules | `(tactic| walk_at "none such") => `(tactic| fail "none such")
local macro_rules | `(tactic| walk_at "none such") => `(tactic| fail "none such")
local macro_rules | `(tactic| walk_at "none such") => `(tactic| fail "none such")
local macro_rules | `(tactic| walk_at "none such") => `(tactic| fail "none such")
local macro_rules | `(tactic| walk_at "none such") => `(tactic| fail "none such")
local macro_rules | `(tactic| walk_at "none such") => `(tactic| fail "none such")
local macro_rules | `(tactic| walk_at "none such") => `(tactic| fail "none such")
local macro_rules | `(tactic| walk_at "none such") => `(tactic| fail "none such")
local macro_rules | `(tactic| k_room) => `(tactic| ktr_room)
local macro_rules | `(tactic| k_units) => `(tactic| ktr_units)
local macro_rules | `(tactic| k_all) => `(tactic| (first | with_reducible assumption | (refine' ne_all ?nh ?nx; (case nh => assumption); (case nx => omega)) | fail "ne_all"))
local macro_rules | `(tactic| k_updF) => `(tactic| first | (refine' Del.head ?a; (case a => k_all)) | (refine' Del.tail ?a ?b; (case a => k_ne); (case b => k_updF)))
local macro_rules | `(tactic| k_updF) => `(tactic| first | exact Pre.nil | (refine' Pre.cons ?a ?b; (case a => (refine leN ?_; (try dsimp only); omega)); (case b => k_updF)))
local macro_rules | `(tactic| k_mem) => `(tactic| first | with_reducible assumption | exact List.mem_cons_self | (refine' List.mem_cons_of_mem _ ?_; k_mem))
local macro_rules | `(tactic| walk_at "UnrEnd") => `(tactic| (refine' unrEnd_del ?uF ?uN ?uD ?_; (case uF => k_asm); (case uN => k_asm); (case uD => k_updF)))
local macro_rules | `(tactic| walk_at "call ref") => `(tactic| (k_here; k_dflt (first
  | (refine' Ctr.use (cell_c _ _ _ _ _ _ _ _ _ _ _ _ ?c1 ?c2) ?cB ?cF ?cX ?cN ?cT ?ck ?cd ?cu ?cp ?_; (case c1 => omega); (case c2 => omega); (case cB => k_asm); (case cF => k_asm); (case cX => k_asm); (case cN => k_asm); (case cT => k_asm); (case ck => exact rfl); (case cd => ktr_room); (case cu => ktr_units); (case cp => exact ⟨by assumption, by assumption, by assumption⟩); intro r' h' tk' n' F' N' hP'; obtain ⟨e1', t', e2'⟩ := hP'; subst e1'; subst e2')
  | (refine' Ctr.use (mk_c _ _ _ _ _ _ _ _ _ _ _ _) ?cB ?cF ?cX ?cN ?cT ?ck ?cd ?cu ?cp ?_; (case cB => k_asm); (case cF => k_asm); (case cX => k_asm); (case cN => k_asm); (case cT => k_asm); (case ck => exact rfl); (case cd => ktr_room); (case cu => ktr_units); (case cp => trivial); intro r' h' tk' n' F' N' hP'; obtain ⟨x', dx', e1', e2', l1', l2'⟩ := hP'; subst e1'; subst e2')
  | (refine' Ctr.useH (grp_c _ _ _ _ _ _ _ _ _ _ _ _ _ ?c1 ?c2 ?c3 ?c4 ?c5 ?c6) ?cB ?cF ?cX ?cN ?cT ?ck ?cd ?cu ?cp ?_; (case c1 => first | omega | (simp only [fm4]; omega)); (case c2 => first | omega | (simp only [fm4]; omega)); (case c3 => omega); (case c4 => omega); (case c5 => exact cellV_nn _ _ (by omega)); (case c6 => exact Int.lt_trans (cellV_lt _ _ (by omega)) (by decide)); (case cB => k_asm); (case cF => k_asm); (case cX => k_asm); (case cN => k_asm); (case cT => k_asm); (case ck => exact rfl); (case cd => ktr_room); (case cu => ktr_units); (case cp => trivial)))))
local macro_rules | `(tactic| walk_at "binaryOp Add ref ref") => `(tactic| (k_here; (with_reducible show wpAny _ _ (binaryOp _ (Value.ref _) (Value.ref _)) _ _ _); k_dflt (refine' add_mine ?F ?N ?a ?b ?z ?_; (case F => k_asm); (case N => k_asm); (case a => k_mem); (case b => k_mem); (case z => (simp only [List.size_toArray]; omega))); intro D' h' F' N' l1; (try k_lt l1); (try k_sweep)))

def gs (ns : List Int) (t : Nat) : List (Int × Int) × List (Int × Int) := grp (cellV ns (2 * t + 1) % 4) (9 * t) (cellV ns (2 * t + 2))
def allP (ns : List Int) (n : Nat) : List (Int × Int) := (List.range n).flatMap fun t => (gs ns t).1
def allL (ns : List Int) (n : Nat) : List (Int × Int) := (List.range n).flatMap fun t => (gs ns t).2

def JA (ns : List Int) (L l : Addr) (oc ot : Obj) (i : Nat) (m : Str → Option Value) (news : List (Addr × Obj)) : Prop :=
  ∃ rest lp ll vp vl np nl, news = (L + 1, oc) :: (86, ot) :: rest ∧ OkR L rest ∧ m (Str.ofString "pairs") = some (.ref lp) ∧ m (Str.ofString "left") = some (.ref ll) ∧ m (Str.ofString "script") = some (.ref l) ∧
    (lp, listOf vp.toArray np) ∈ rest ∧ (ll, listOf vl.toArray nl) ∈ rest ∧ All2 (PairAt rest) vp (allP ns i) ∧ All2 (PairAt rest) vl (allL ns i)
theorem allP_succ (ns : List Int) (i : Nat) : allP ns (i + 1) = allP ns i ++ (gs ns i).1 := by
  unfold allP; rw [List.range_succ, List.flatMap_append]; simp
theorem allL_succ (ns : List Int) (i : Nat) : allL ns (i + 1) = allL ns i ++ (gs ns i).2 := by
  unfold allL; rw [List.range_succ, List.flatMap_append]; simp
theorem JA_step {h₀ h : Heap} {L l I : Addr} {it oc ot o3 : Obj} {D1 D2 D3 : Addr} {x1 x2 : List Value} {rs : List (Addr × Obj)} {m : Str → Option Value} {ns : List Int} {i : Nat} {s₁ : Shared} {tk : Nat}
    (F : Fr h₀ L h m) (N : News h₀ L h ((D3, o3) :: (D2, listOf x2.toArray 0) :: (D1, listOf x1.toArray 0) :: (I, it) :: (L + 1, oc) :: (86, ot) :: rs))
    (b1 : @LT.lt Nat _ I D1) (b2 : @LT.lt Nat _ I D2) (b3 : @LT.lt Nat _ I D3) (b4 : @LT.lt Nat _ (L + 1) I) (b5 : @LT.lt Nat _ 86 I) (hlt : OkR L rs) (hne : ∀ q ∈ rs, q.1 ≠ I)
    (m1 : m (Str.ofString "pairs") = some (.ref D1)) (m2 : m (Str.ofString "left") = some (.ref D2)) (m3 : m (Str.ofString "script") = some (.ref l))
    (a1 : All2 (PairAt rs) x1 (allP ns (i + 1))) (a2 : All2 (PairAt rs) x2 (allL ns (i + 1))) :
    UnrEnd h₀ L s₁ I it (fun m nx => JA ns L l oc ot (i + 1) m nx ∧ ∀ p ∈ nx, p.1 ≠ I) { s₁ with heap := h, toks := tk } := by
  have off : ∀ p ∈ (L + 1, oc) :: (86, ot) :: (D3, o3) :: (D2, listOf x2.toArray 0) :: (D1, listOf x1.toArray 0) :: rs, p.1 ≠ I := by
    intro p hp
    simp only [List.mem_cons] at hp
    rcases hp with rfl | rfl | rfl | rfl | rfl | hp
    · exact Nat.ne_of_lt b4
    · exact Nat.ne_of_lt b5
    · exact Nat.ne_of_gt b3
    · exact Nat.ne_of_gt b2
    · exact Nat.ne_of_gt b1
    · exact hne p hp
  refine UnrEnd.intro F N _ ?_ off ⟨⟨(D3, o3) :: (D2, listOf x2.toArray 0) :: (D1, listOf x1.toArray 0) :: rs, D1, D2, x1, x2, 0, 0, rfl, ?_, m1, m2, m3, ?_, ?_, a1.mono fun _ _ x => x.mono ?_, a2.mono fun _ _ x => x.mono ?_⟩, off⟩
  · intro p hp
    simp only [List.mem_cons] at hp ⊢
    grind
  · intro p hp
    simp only [List.mem_cons] at hp
    rcases hp with rfl | rfl | rfl | hp
    · exact ⟨Nat.ne_of_gt (Nat.lt_trans b4 b3), Nat.ne_of_gt (Nat.lt_trans b5 b3)⟩
    · exact ⟨Nat.ne_of_gt (Nat.lt_trans b4 b2), Nat.ne_of_gt (Nat.lt_trans b5 b2)⟩
    · exact ⟨Nat.ne_of_gt (Nat.lt_trans b4 b1), Nat.ne_of_gt (Nat.lt_trans b5 b1)⟩
    · exact hlt p hp
  · simp
  · simp
  · intro p hp; exact .tail _ (.tail _ (.tail _ hp))
  · intro p hp; exact .tail _ (.tail _ (.tail _ hp))
theorem grp_len (i s k : Int) (h : 0 ≤ k) : (grp i s k).1.length ≤ 4 ∧ (grp i s k).2.length ≤ 4 := by
  have e : (subs s k).length ≤ 3 := by
    unfold subs
    rw [List.length_map, List.length_range]
    omega
  unfold grp
  split
  · exact ⟨by simp, by simp⟩
  split
  · exact ⟨by simp only [List.length_cons]; omega, by simp⟩
  split
  · exact ⟨by simp, by simp⟩
  · exact ⟨by simp, by simp⟩
theorem flat_len {f : Nat → List (Int × Int)} (h : ∀ t, (f t).length ≤ 4) : ∀ n, ((List.range n).flatMap f).length ≤ 4 * n
  | 0 => by simp
  | n + 1 => by
    have := flat_len h n
    have := h n
    rw [List.range_succ, List.flatMap_append, List.length_append]
    simp only [List.flatMap_cons, List.flatMap_nil, List.append_nil]
    omega
theorem gs_len (ns : List Int) (t : Nat) : (gs ns t).1.length ≤ 4 ∧ (gs ns t).2.length ≤ 4 := grp_len _ _ _ (cellV_nn _ _ (by omega))
theorem allP_len (ns : List Int) (n : Nat) : (allP ns n).length ≤ 4 * n := flat_len (fun t => (gs_len ns t).1) n
theorem allL_len (ns : List Int) (n : Nat) : (allL ns n).length ≤ 4 * n := flat_len (fun t => (gs_len ns t).2) n
set_option maxHeartbeats 0 in
theorem pieceA (w : World) (p loose mean mg mb) (dp un : Nat) (gd : Option (List Code)) (fa : Addr) (ccd : Value) (outer : List Env) (A₀ : Around) (base h₀ : Heap) (L : Addr) (Q : Flow → Shared → Prop) (s : Shared)
    (B : Below A₀ base outer h₀) (X : (Mine.hd.heap_39 w.params).In h₀) (T : Top p loose mean mg mb h₀) (hd : dp + 30 < recursionLimit) (hu : un + 300 < cLine)
    (l : Addr) (vs : List Value) (ns : List Int) (hl : base.IsList l vs.toArray) (hi : IntsAre vs ns) (hlen : ns.length ≤ 63) (hL : @LT.lt Nat _ 86 L)
    (oc ot : Obj) (m : Str → Option Value) (news) (F : Fr h₀ L s.heap m) (N : News h₀ L s.heap news) (hJ : JA ns L l oc ot 0 m news)
    (next : ∀ m' h' tk' news', Fr h₀ L h' m' → News h₀ L h' news' → JA ns L l oc ot (1 + cellV ns 0 % 4).toNat m' news' → wpAny (model PySem.Challenge.rw_ew0012_01.row.prog w) (lawTop dp un gd L fa ccd outer) (execs (lawTail 2) (lawEnv L fa ccd)) Q (fun _ _ => False) { s with heap := h', toks := tk' }) :
    wpAny (model PySem.Challenge.rw_ew0012_01.row.prog w) (lawTop dp un gd L fa ccd outer) (execs (lawTail 1) (lawEnv L fa ccd)) Q (fun _ _ => False) s := by
  with_unfolding_all show wpAny _ _ (execs (_ :: lawTail 2) _) _ _ _
  generalize lawTail 2 = rest₉ at next ⊢
  k_with_none
  w_top off
  revert X; k_fill; intro X

  obtain ⟨rest, lp, ll, vp, vl, np, nl, rfl, hr, m1, m2, m3, hp1, hl1, hp2, hl2⟩ := hJ
  replace F := canon [(Str.ofString "pairs", .ref lp), (Str.ofString "left", .ref ll), (Str.ofString "script", .ref l)] (by simp [m1, m2, m3]) F
  dsimp only [kstB] at F
  have lifted : h₀.IsList l vs.toArray := stays_list B.stays hl
  k_steps
  (rename IsRange _ _ _ _ _ _ _ _ => rgX)
  (rename Fr _ _ _ _ => F1)
  (rename News _ _ _ _ => N1)
  have hc0 := cellV_nn ns 0 (by decide)
  have hc1 := cellV_lt ns 0 (by decide)
  have en : (cellV ns 0).fmod 4 = cellV ns 0 % 4 := fm4 _
  rw [en] at rgX
  have hn0 : 0 ≤ cellV ns 0 % 4 := Int.emod_nonneg _ (by decide)
  have hn4 : cellV ns 0 % 4 < 4 := Int.emod_lt_of_pos _ (by decide)
  with_unfolding_all refine iter_rangeUnr (n := (1 + cellV ns 0 % 4).toNat) (by rfl) rgX ?_ ?_ F1 N1 ?_
  · have : cellV ns 0 % 4 = 0 ∨ cellV ns 0 % 4 = 1 ∨ cellV ns 0 % 4 = 2 ∨ cellV ns 0 % 4 = 3 := by omega
    rcases this with h | h | h | h <;> rw [h] <;> rfl
  · have : cellV ns 0 % 4 = 0 ∨ cellV ns 0 % 4 = 1 ∨ cellV ns 0 % 4 = 2 ∨ cellV ns 0 % 4 = 3 := by omega
    rcases this with h | h | h | h <;> rw [h] <;> rfl
  · intro I hI
    refine rangeRest_of (fun i m nx => JA ns L l oc ot i m nx ∧ ∀ p ∈ nx, p.1 ≠ I) ?_ ?_ _ 0 _ _ (by omega) ?_
    · intro m' news' hJ h tk F' N'
      exact next _ _ _ _ F' N' hJ.1
    · clear next F1 N1
      intro i m' news' hin hJ t h tk F' N'
      obtain ⟨⟨rest', lp', ll', vp', vl', np', nl', rfl, hr', m1', m2', m3', hp1', hl1', hp2', hl2'⟩, hoff⟩ := hJ
      replace F' := canon [(Str.ofString "turn", .int (0 + (i : Int)) t), (Str.ofString "pairs", .ref lp'), (Str.ofString "left", .ref ll'), (Str.ofString "script", .ref l)] (by
        intro q hq
        simp only [List.mem_cons, List.not_mem_nil, or_false] at hq
        rcases hq with rfl | rfl | rfl | rfl
        · exact if_pos rfl
        · exact m1'
        · exact m2'
        · exact m3') F'
      dsimp only [kstB] at F'
      have hi4 : i < 4 := by omega
      k_steps
      refine Hold.out ?_
      intro r h2 tk2 n2 F2 N2 hP
      obtain ⟨d, nw, D, a1, a2, i1, i2, k1, k2, hb, hpre, rfl, hD, h1, h2', g1, g2⟩ := hP
      obtain ⟨rfl, hdn⟩ := hpre.out
      replace N2 := newsSub N2 mem_app3
      have eI : (0 : Int) + (i : Int) = (i : Int) := Int.zero_add _
      rw [fm4] at g1 g2
      rw [eI] at g1 g2
      have hlt : OkR L (nw ++ rest') := by
        intro q hq
        rcases List.mem_append.mp hq with hq | hq
        · have x1 : @LT.lt Nat _ (L + 1) d := hb (L + 1, oc) (by simp)
          have x3 : @LT.lt Nat _ 86 d := hb (86, ot) (by simp)
          have x2 := hdn q hq
          exact ⟨neN (by omega), neN (by omega)⟩
        · exact hr' q hq
      have hD2 := List.mem_append_left rest' hD
      have h12 := List.mem_append_left rest' h1
      have h22 := List.mem_append_left rest' h2'
      have hp12 := List.mem_append_right nw hp1'
      have hl12 := List.mem_append_right nw hl1'
      have g12 := g1.mono (R' := PairAt (nw ++ rest')) fun _ _ x => x.mono fun _ hq => List.mem_append_left _ hq
      have g22 := g2.mono (R' := PairAt (nw ++ rest')) fun _ _ x => x.mono fun _ hq => List.mem_append_left _ hq
      have hp22 := hp2'.mono (R' := PairAt (nw ++ rest')) fun _ _ x => x.mono fun _ hq => List.mem_append_right _ hq
      have hl22 := hl2'.mono (R' := PairAt (nw ++ rest')) fun _ _ x => x.mono fun _ hq => List.mem_append_right _ hq
      have hbI : @LT.lt Nat _ I d := hb (I, _) (List.mem_cons_self)
      have hneI : ∀ q ∈ nw ++ rest', q.1 ≠ I := by
        intro q hq
        rcases List.mem_append.mp hq with hq | hq
        · exact Nat.ne_of_gt (Nat.lt_of_lt_of_le hbI (hdn q hq))
        · exact hoff q (.tail _ (.tail _ hq))
      clear hD h1 h2' g1 g2 hp1' hl1' hp2' hl2' hdn hr'
      generalize nw ++ rest' = rs at *
      have z1 := g12.length
      have z2 := g22.length
      have z3 := hp22.length
      have z4 := hl22.length
      have z5 := gs_len ns i
      have z6 := allP_len ns i
      have z7 := allL_len ns i
      have eg : grp (cellV ns (2 * (i : Int) + 1) % 4) (9 * (i : Int)) (cellV ns (2 * (i : Int) + 2)) = gs ns i := rfl
      rw [eg] at g12 g22 z1 z2
      rw [Array.length_toList] at z1 z2
      have ht : IsTup h2 D #[.ref a1, .ref a2] := News.isTup N2 (.tail _ (.tail _ (.tail _ hD2)))
      k_steps
      refine JA_step (by assumption) (by assumption) (by omega) (by omega) (by omega) ?_ ?_ hlt hneI rfl rfl rfl ?_ ?_
      · exact hI (L + 1, oc) (by simp)
      · exact hI (86, ot) (by simp)
      · rw [allP_succ]; exact hp22.append g12
      · rw [allL_succ]; exact hl22.append g22
    · exact ⟨⟨rest, lp, ll, vp, vl, np, nl, rfl, hr, rfl, rfl, rfl, hp1, hl1, hp2, hl2⟩, fun p hp => Nat.ne_of_lt (hI p hp)⟩
end Mine
end

section
open PySem PySem.W PyProof.Rows
set_option maxRecDepth 100000
set_option linter.unusedVariables false
set_option linter.unusedSimpArgs false
set_option rowWalk.seconds 0
namespace Mine
local macro_rules | `(tactic| k_room) => `(tactic| ktr_room)
local macro_rules | `(tactic| k_units) => `(tactic| ktr_units)
local macro_rules | `(tactic| k_all) => `(tactic| (first | with_reducible assumption | (refine' ne_all ?nh ?nx; (case nh => assumption); (case nx => omega)) | fail "ne_all"))
local macro_rules | `(tactic| k_updF) => `(tactic| first | (refine' Del.head ?a; (case a => k_all)) | (refine' Del.tail ?a ?b; (case a => k_ne); (case b => k_updF)))
local macro_rules | `(tactic| k_updF) => `(tactic| first | exact Pre.nil | (refine' Pre.cons ?a ?b; (case a => (refine leN ?_; (try dsimp only); omega)); (case b => k_updF)))
local macro_rules | `(tactic| k_mem) => `(tactic| first | with_reducible assumption | exact List.mem_cons_self | (refine' List.mem_cons_of_mem _ ?_; k_mem))
local macro_rules | `(tactic| walk_at "UnrEnd") => `(tactic| (refine' unrEnd_del ?uF ?uN ?uD ?_; (case uF => k_asm); (case uN => k_asm); (case uD => k_updF)))
local macro_rules | `(tactic| walk_at "call ref") => `(tactic| (k_here; k_dflt (first
  | (refine' Ctr.use (cell_c _ _ _ _ _ _ _ _ _ _ _ _ ?c1 ?c2) ?cB ?cF ?cX ?cN ?cT ?ck ?cd ?cu ?cp ?_; (case c1 => omega); (case c2 => omega); (case cB => k_asm); (case cF => k_asm); (case cX => k_asm); (case cN => k_asm); (case cT => k_asm); (case ck => exact rfl); (case cd => ktr_room); (case cu => ktr_units); (case cp => exact ⟨by assumption, by assumption, by assumption⟩); intro r' h' tk' n' F' N' hP'; obtain ⟨e1', t', e2'⟩ := hP'; subst e1'; subst e2')
  | (refine' Ctr.use (mk_c _ _ _ _ _ _ _ _ _ _ _ _) ?cB ?cF ?cX ?cN ?cT ?ck ?cd ?cu ?cp ?_; (case cB => k_asm); (case cF => k_asm); (case cX => k_asm); (case cN => k_asm); (case cT => k_asm); (case ck => exact rfl); (case cd => ktr_room); (case cu => ktr_units); (case cp => trivial); intro r' h' tk' n' F' N' hP'; obtain ⟨x', dx', e1', e2', l1', l2'⟩ := hP'; subst e1'; subst e2')
  | (refine' Ctr.useH (grp_c _ _ _ _ _ _ _ _ _ _ _ _ _ ?c1 ?c2 ?c3 ?c4 ?c5 ?c6) ?cB ?cF ?cX ?cN ?cT ?ck ?cd ?cu ?cp ?_; (case c1 => first | omega | (simp only [fm4]; omega)); (case c2 => first | omega | (simp only [fm4]; omega)); (case c3 => omega); (case c4 => omega); (case c5 => exact cellV_nn _ _ (by omega)); (case c6 => exact Int.lt_trans (cellV_lt _ _ (by omega)) (by decide)); (case cB => k_asm); (case cF => k_asm); (case cX => k_asm); (case cN => k_asm); (case cT => k_asm); (case ck => exact rfl); (case cd => ktr_room); (case cu => ktr_units); (case cp => trivial)))))
local macro_rules | `(tactic| walk_at "binaryOp Add ref ref") => `(tactic| (k_here; (with_reducible show wpAny _ _ (binaryOp _ (Value.ref _) (Value.ref _)) _ _ _); k_dflt (refine' add_mine ?F ?N ?a ?b ?z ?_; (case F => k_asm); (case N => k_asm); (case a => k_mem); (case b => k_mem); (case z => (simp only [List.size_toArray]; omega))); intro D' h' F' N' l1; (try k_lt l1); (try k_sweep)))
local macro_rules | `(tactic| tb_rel) => `(tactic| first | (refine List.forall_mem_cons.mpr ⟨?ha, ?hb⟩; (case ha => (first | (refine ltN ?_; (try dsimp only); omega) | (refine leN ?_; (try dsimp only); omega) | (refine And.intro (neN ?_) (neN ?_) <;> ((try dsimp only); omega)))); (case hb => tb_rel)) | assumption | exact List.forall_mem_nil _)
local macro_rules | `(tactic| walk_at "binaryOp Add ref ref") => `(tactic| (k_here; (with_reducible show wpAny _ _ (binaryOp _ (Value.ref _) (Value.ref _)) _ _ _); k_dflt (refine' add_mine ?F ?N ?a ?b ?z ?_; (case F => k_asm); (case N => k_asm); (case a => k_mem); (case b => k_mem); (case z => (simp only [List.size_toArray, List.length_append, List.length_drop, List.length_take]; omega))); intro D' h' F' N' l1; (try k_lt l1); (try k_sweep)))
local macro_rules | `(tactic| walk_at "call builtin:len") => `(tactic| (k_here; (with_reducible show wpAny _ _ (call (Value.builtin _) [Value.ref _]) _ _ _); k_dflt (refine' len_mine ?N ?a ?z ?_; (case N => k_asm); (case a => k_mem); (case z => (simp only [List.size_toArray]; omega)))))
local macro_rules | `(tactic| walk_at "subscriptTail Name Slice ref ref") => `(tactic| (k_here; (with_reducible show wpAny _ _ (subscriptTail _ (PySem.Expr.Slice _ _ none _) (Value.ref _) (Value.ref _)) _ _ _); k_dflt (first
  | (refine' slice_from_mine ?F ?N ?a ?k ?z ?_ ?s ?t; (case F => k_asm); (case N => k_asm); (case a => k_mem); (case k => assumption); (case z => (simp only [List.size_toArray]; omega)); (case s => with_unfolding_all rfl); (case t => (intro r; with_unfolding_all rfl)))
  | (refine' slice_upto_mine ?F ?N ?a ?k ?z ?_ ?s ?t; (case F => k_asm); (case N => k_asm); (case a => k_mem); (case k => assumption); (case z => (simp only [List.size_toArray]; omega)); (case s => with_unfolding_all rfl); (case t => (intro r; with_unfolding_all rfl)))); intro D' h' F' N' l1; (try k_lt l1); (try k_sweep)))

def St (L l : Addr) (oc ot : Obj) (ps ls : List (Int × Int)) (m : Str → Option Value) (news : List (Addr × Obj)) : Prop :=
  ∃ rest lp ll vp vl np nl, news = (L + 1, oc) :: (86, ot) :: rest ∧ OkR L rest ∧ m (Str.ofString "pairs") = some (.ref lp) ∧ m (Str.ofString "left") = some (.ref ll) ∧ m (Str.ofString "script") = some (.ref l) ∧
    (lp, listOf vp.toArray np) ∈ rest ∧ (ll, listOf vl.toArray nl) ∈ rest ∧ All2 (PairAt rest) vp ps ∧ All2 (PairAt rest) vl ls
set_option maxHeartbeats 0 in
theorem pieceB (w : World) (p loose mean mg mb) (dp un : Nat) (gd : Option (List Code)) (fa : Addr) (ccd : Value) (outer : List Env) (A₀ : Around) (base h₀ : Heap) (L : Addr) (Q : Flow → Shared → Prop) (s : Shared)
    (B : Below A₀ base outer h₀) (X : (Mine.hd.heap_39 w.params).In h₀) (T : Top p loose mean mg mb h₀) (hd : dp + 30 < recursionLimit) (hu : un + 300 < cLine)
    (l : Addr) (vs : List Value) (ns : List Int) (hl : base.IsList l vs.toArray) (hi : IntsAre vs ns) (hlen : ns.length ≤ 63) (hL : @LT.lt Nat _ 86 L)
    (oc ot : Obj) (ps ls : List (Int × Int)) (hps0 : 0 < ps.length) (hps : ps.length ≤ 16) (m : Str → Option Value) (news) (F : Fr h₀ L s.heap m) (N : News h₀ L s.heap news) (hJ : St L l oc ot ps ls m news)
    (next : ∀ m' h' tk' news', Fr h₀ L h' m' → News h₀ L h' news' → St L l oc ot (ps.drop (cellV ns 9 % (ps.length : Int)).toNat ++ ps.take (cellV ns 9 % (ps.length : Int)).toNat) ls m' news' → wpAny (model PySem.Challenge.rw_ew0012_01.row.prog w) (lawTop dp un gd L fa ccd outer) (execs (lawTail 4) (lawEnv L fa ccd)) Q (fun _ _ => False) { s with heap := h', toks := tk' }) :
    wpAny (model PySem.Challenge.rw_ew0012_01.row.prog w) (lawTop dp un gd L fa ccd outer) (execs (lawTail 2) (lawEnv L fa ccd)) Q (fun _ _ => False) s := by
  with_unfolding_all show wpAny _ _ (execs (_ :: _ :: lawTail 4) _) _ _ _
  generalize lawTail 4 = rest₉ at next ⊢
  k_with_none
  w_top off
  revert X; k_fill; intro X

  obtain ⟨rest, lp, ll, vp, vl, np, nl, rfl, hr, m1, m2, m3, hp1, hl1, hp2, hl2⟩ := hJ
  replace F := canon [(Str.ofString "pairs", .ref lp), (Str.ofString "left", .ref ll), (Str.ofString "script", .ref l)] (by simp [m1, m2, m3]) F
  dsimp only [kstB] at F
  have lifted : h₀.IsList l vs.toArray := stays_list B.stays hl
  have z3 := hp2.length
  have hk0 : 0 ≤ (cellV ns 9).fmod (vp.toArray.size : Int) := by
    rw [Int.fmod_eq_emod_of_nonneg _ (by omega)]
    exact Int.emod_nonneg _ (by rw [List.size_toArray]; omega)
  k_steps
  (rename News _ _ _ _ => N9)
  have ek : (cellV ns 9).fmod (vp.toArray.size : Int) = cellV ns 9 % (ps.length : Int) := by
    rw [Int.fmod_eq_emod_of_nonneg _ (by omega), List.size_toArray, z3]
  rw [ek] at N9
  have N8 := newsSub N9 (mem_app2 (nw := [_, _, _]))
  refine next _ _ _ _ (by assumption) N8 ⟨_, _, ll, _, vl, _, nl, rfl, ?_, rfl, rfl, rfl, List.mem_cons_self, ?_, ?_, ?_⟩
  · simp only [List.cons_append, List.nil_append]; tb_rel
  · exact List.mem_append_right [_, _, _] hl1
  · exact ((hp2.drop _).append (hp2.take _)).mono fun _ _ x => x.mono fun _ hq => List.mem_append_right [_, _, _] hq
  · exact hl2.mono fun _ _ x => x.mono fun _ hq => List.mem_append_right [_, _, _] hq
end Mine
end

section
open PySem PySem.W PyProof.Rows
set_option maxRecDepth 100000
set_option linter.unusedVariables false
set_option linter.unusedSimpArgs false
set_option rowWalk.seconds 0
namespace Mine
local macro_rules | `(tactic| walk_at "none such") => `(tactic| fail "none such")
local macro_rules | `(tactic| walk_at "none such") => `(tactic| fail "none such")
local macro_rules | `(tactic| walk_at "none such") => `(tactic| fail "none such")
local macro_rules | `(tactic| walk_at "none such") => `(tactic| fail "none such")
local macro_rules | `(tactic| walk_at "none such") => `(tactic| fail "none such")
local macro_rules | `(tactic| walk_at "none such") => `(tactic| fail "none such")
local macro_rules | `(tactic| walk_at "none such") => `(tactic| fail "none such")
local macro_rules | `(tactic| walk_at "none such") => `(tactic| fail "none such")
local macro_rules | `(tactic| walk_at "none such") => `(tactic| fail "none such")
local macro_rules | `(tactic| walk_at "none such") => `(tactic| fail "none such")
local macro_rules | `(tactic| walk_at "none such") => `(tactic| fail "none such")
local macro_rules | `(tactic| walk_at "none such") => `(tactic| fail "none such")
local macro_rules | `(tactic| walk_at "none such") => `(tactic| fail "none such")
local macro_rules | `(tactic| walk_at "none such") => `(tactic| fail "none such")
local macro_rules | `(tactic| walk_at "none such") => `(tactic| fail "none such")
local macro_rules | `(tactic| walk_at "none such") => `(tactic| fail "none such")
local macro_rules | `(tactic| walk_at "none such") => `(tactic| fail "none such")
local macro_rules | `(tactic| walk_at "none such") => `(tactic| fail "none such")
local macro_rules | `(tactic| walk_at "none such") => `(tactic| fail "none such")
local macro_rules | `(tactic| walk_at "none such") => `(tactic| fail "none such")
local macro_rules | `(tactic| walk_at "none such") => `(tactic| fail "none such")
local macro_rules | `(tactic| walk_at "none such") => `(tactic| fail "none such")
local macro_rules | `(tactic| walk_at "none such") => `(tactic| fail "none such")
local macro_rules | `(tactic| walk_at "none such") => `(tactic| fail "none such")
local macro_rules | `(tactic| walk_at "none such") => `(tactic| fail "none such")
local macro_rules | `(tactic| k_room) => `(tactic| ktr_room)
local macro_rules | `(tactic| k_units) => `(tactic| ktr_units)
local macro_rules | `(tactic| k_all) => `(tactic| (first | with_reducible assumption | (refine' ne_all ?nh ?nx; (case nh => assumption); (case nx => omega)) | fail "ne_all"))
local macro_rules | `(tactic| k_updF) => `(tactic| first | (refine' Del.head ?a; (case a => k_all)) | (refine' Del.tail ?a ?b; (case a => k_ne); (case b => k_updF)))
local macro_rules | `(tactic| k_updF) => `(tactic| first | exact Pre.nil | (refine' Pre.cons ?a ?b; (case a => (refine leN ?_; (try dsimp only); omega)); (case b => k_updF)))
local macro_rules | `(tactic| k_mem) => `(tactic| first | with_reducible assumption | exact List.mem_cons_self | (refine' List.mem_cons_of_mem _ ?_; k_mem))
local macro_rules | `(tactic| walk_at "UnrEnd") => `(tactic| (refine' unrEnd_del ?uF ?uN ?uD ?_; (case uF => k_asm); (case uN => k_asm); (case uD => k_updF)))
local macro_rules | `(tactic| walk_at "call ref") => `(tactic| (k_here; k_dflt (first
  | (refine' Ctr.use (cell_c _ _ _ _ _ _ _ _ _ _ _ _ ?c1 ?c2) ?cB ?cF ?cX ?cN ?cT ?ck ?cd ?cu ?cp ?_; (case c1 => omega); (case c2 => omega); (case cB => k_asm); (case cF => k_asm); (case cX => k_asm); (case cN => k_asm); (case cT => k_asm); (case ck => exact rfl); (case cd => ktr_room); (case cu => ktr_units); (case cp => exact ⟨by assumption, by assumption, by assumption⟩); intro r' h' tk' n' F' N' hP'; obtain ⟨e1', t', e2'⟩ := hP'; subst e1'; subst e2')
  | (refine' Ctr.use (mk_c _ _ _ _ _ _ _ _ _ _ _ _) ?cB ?cF ?cX ?cN ?cT ?ck ?cd ?cu ?cp ?_; (case cB => k_asm); (case cF => k_asm); (case cX => k_asm); (case cN => k_asm); (case cT => k_asm); (case ck => exact rfl); (case cd => ktr_room); (case cu => ktr_units); (case cp => trivial); intro r' h' tk' n' F' N' hP'; obtain ⟨x', dx', e1', e2', l1', l2'⟩ := hP'; subst e1'; subst e2')
  | (refine' Ctr.useH (grp_c _ _ _ _ _ _ _ _ _ _ _ _ _ ?c1 ?c2 ?c3 ?c4 ?c5 ?c6) ?cB ?cF ?cX ?cN ?cT ?ck ?cd ?cu ?cp ?_; (case c1 => first | omega | (simp only [fm4]; omega)); (case c2 => first | omega | (simp only [fm4]; omega)); (case c3 => omega); (case c4 => omega); (case c5 => exact cellV_nn _ _ (by omega)); (case c6 => exact Int.lt_trans (cellV_lt _ _ (by omega)) (by decide)); (case cB => k_asm); (case cF => k_asm); (case cX => k_asm); (case cN => k_asm); (case cT => k_asm); (case ck => exact rfl); (case cd => ktr_room); (case cu => ktr_units); (case cp => trivial)))))
local macro_rules | `(tactic| walk_at "binaryOp Add ref ref") => `(tactic| (k_here; (with_reducible show wpAny _ _ (binaryOp _ (Value.ref _) (Value.ref _)) _ _ _); k_dflt (refine' add_mine ?F ?N ?a ?b ?z ?_; (case F => k_asm); (case N => k_asm); (case a => k_mem); (case b => k_mem); (case z => (simp only [List.size_toArray]; omega))); intro D' h' F' N' l1; (try k_lt l1); (try k_sweep)))
local macro_rules | `(tactic| tb_rel) => `(tactic| first | (refine List.forall_mem_cons.mpr ⟨?ha, ?hb⟩; (case ha => (first | (refine ltN ?_; (try dsimp only); omega) | (refine leN ?_; (try dsimp only); omega) | (refine And.intro (neN ?_) (neN ?_) <;> ((try dsimp only); omega)))); (case hb => tb_rel)) | assumption | exact List.forall_mem_nil _)
local macro_rules | `(tactic| walk_at "binaryOp Add ref ref") => `(tactic| (k_here; (with_reducible show wpAny _ _ (binaryOp _ (Value.ref _) (Value.ref _)) _ _ _); k_dflt (refine' add_mine ?F ?N ?a ?b ?z ?_; (case F => k_asm); (case N => k_asm); (case a => k_mem); (case b => k_mem); (case z => (simp only [List.size_toArray, List.length_append, List.length_drop, List.length_take]; omega))); intro D' h' F' N' l1; (try k_lt l1); (try k_sweep)))
local macro_rules | `(tactic| walk_at "call builtin:len") => `(tactic| (k_here; (with_reducible show wpAny _ _ (call (Value.builtin _) [Value.ref _]) _ _ _); k_dflt (refine' len_mine ?N ?a ?z ?_; (case N => k_asm); (case a => k_mem); (case z => (simp only [List.size_toArray]; omega)))))
local macro_rules | `(tactic| walk_at "subscriptTail Name Slice ref ref") => `(tactic| (k_here; (with_reducible show wpAny _ _ (subscriptTail _ (PySem.Expr.Slice _ _ none _) (Value.ref _) (Value.ref _)) _ _ _); k_dflt (first
  | (refine' slice_from_mine ?F ?N ?a ?k ?z ?_ ?s ?t; (case F => k_asm); (case N => k_asm); (case a => k_mem); (case k => assumption); (case z => (simp only [List.size_toArray]; omega)); (case s => with_unfolding_all rfl); (case t => (intro r; with_unfolding_all rfl)))
  | (refine' slice_upto_mine ?F ?N ?a ?k ?z ?_ ?s ?t; (case F => k_asm); (case N => k_asm); (case a => k_mem); (case k => assumption); (case z => (simp only [List.size_toArray]; omega)); (case s => with_unfolding_all rfl); (case t => (intro r; with_unfolding_all rfl)))); intro D' h' F' N' l1; (try k_lt l1); (try k_sweep)))

def StT (L l : Addr) (oc ot : Obj) (ps ls : List (Int × Int)) (m : Str → Option Value) (news : List (Addr × Obj)) : Prop :=
  ∃ rest lp ll lt vp vl vt np nl nt, news = (L + 1, oc) :: (86, ot) :: rest ∧ OkR L rest ∧ m (Str.ofString "pairs") = some (.ref lp) ∧ m (Str.ofString "left") = some (.ref ll) ∧ m (Str.ofString "script") = some (.ref l) ∧ m (Str.ofString "tokens") = some (.ref lt) ∧
    (lp, listOf vp.toArray np) ∈ rest ∧ (ll, listOf vl.toArray nl) ∈ rest ∧ (lt, listOf vt.toArray nt) ∈ rest ∧ All2 (PairAt rest) vp ps ∧ All2 (PairAt rest) vl ls ∧ All2 (TokAt rest) vt ps
def JC (L : Addr) (oc ot : Obj) (lp ll : Addr) (vp vl : List Value) (np nl : Nat) (ps ls : List (Int × Int)) (i : Nat) (ys : List Value) (news : List (Addr × Obj)) : Prop :=
  ∃ rest, news = (L + 1, oc) :: (86, ot) :: rest ∧ OkR L rest ∧ (lp, listOf vp.toArray np) ∈ rest ∧ (ll, listOf vl.toArray nl) ∈ rest ∧ All2 (PairAt rest) vp ps ∧ All2 (PairAt rest) vl ls ∧ All2 (TokAt rest) ys (ps.take i)
set_option maxHeartbeats 4000000 in
theorem pieceC (w : World) (p loose mean mg mb) (dp un : Nat) (gd : Option (List Code)) (fa : Addr) (ccd : Value) (outer : List Env) (A₀ : Around) (base h₀ : Heap) (L : Addr) (Q : Flow → Shared → Prop) (s : Shared)
    (B : Below A₀ base outer h₀) (X : (Mine.hd.heap_39 w.params).In h₀) (T : Top p loose mean mg mb h₀) (hd : dp + 30 < recursionLimit) (hu : un + 300 < cLine)
    (l : Addr) (hL : @LT.lt Nat _ 86 L)
    (oc ot : Obj) (ps ls : List (Int × Int)) (hps0 : 0 < ps.length) (hps : ps.length ≤ 16) (hbd : ∀ q ∈ ps, 0 ≤ q.1 ∧ q.1 ≤ q.2 ∧ q.2 < 100) (m : Str → Option Value) (news) (F : Fr h₀ L s.heap m) (N : News h₀ L s.heap news) (hJ : St L l oc ot ps ls m news)
    (next : ∀ m' h' tk' news', Fr h₀ L h' m' → News h₀ L h' news' → StT L l oc ot ps ls m' news' → wpAny (model PySem.Challenge.rw_ew0012_01.row.prog w) (lawTop dp un gd L fa ccd outer) (execs (lawTail 5) (lawEnv L fa ccd)) Q (fun _ _ => False) { s with heap := h', toks := tk' }) :
    wpAny (model PySem.Challenge.rw_ew0012_01.row.prog w) (lawTop dp un gd L fa ccd outer) (execs (lawTail 4) (lawEnv L fa ccd)) Q (fun _ _ => False) s := by
  with_unfolding_all show wpAny _ _ (execs (_ :: lawTail 5) _) _ _ _
  generalize lawTail 5 = rest₉ at next ⊢
  k_with_none
  w_top off
  revert X; k_fill; intro X

  obtain ⟨rest, lp, ll, vp, vl, np, nl, rfl, hr, m1, m2, m3, hp1, hl1, hp2, hl2⟩ := hJ
  replace F := canon [(Str.ofString "pairs", .ref lp), (Str.ofString "left", .ref ll), (Str.ofString "script", .ref l)] (by simp [m1, m2, m3]) F
  dsimp only [kstB] at F
  have z3 := hp2.length
  refine wpAny_execs_cons ?_
  (refine LCp.Assign_ListComp_P (F₀ := by k_asm) (by rfl) (by with_unfolding_all rfl) (by with_unfolding_all rfl) (by decide) (by rfl) (by decide) (by rfl) (by rfl) (by decide) (by rfl) (by rfl) ?_)
  walk1
  refine LCp.SrcLP.ledger (by rfl) (by assumption) N (.tail _ (.tail _ hp1)) (by rw [List.size_toArray, sizeLine_eq]; omega) ?_
  intro g
  refine compRestP_of (JC L oc ot lp ll vp vl np nl ps ls) (n := vp.toArray.size) ?_ ?_ _ 0 [] _ (Nat.zero_add _) ?_
  · intro ys news9 ⟨rest', e9, hr', hp1', hl1', hp2', hl2', ht'⟩
    subst e9
    intro D' h' tk' F' N' o1'
    rw [List.size_toArray, z3, List.take_length] at ht'
    refine next _ _ _ _ F' (newsSub N' (mem_app2 (nw := [_]))) ⟨[_] ++ rest', lp, ll, D', vp, vl, ys, np, nl, ys.length, rfl, ?_, ?_, ?_, ?_, ?_, .tail _ hp1', .tail _ hl1', List.mem_cons_self, ?_, ?_, ?_⟩
    · exact List.forall_mem_cons.mpr ⟨⟨fun e => o1'.1 e.symm, fun e => o1'.2.1 e.symm⟩, hr'⟩
    · rfl
    · rfl
    · rfl
    · rfl
    · exact hp2'.mono fun _ _ x => x.mono fun _ hq => .tail _ hq
    · exact hl2'.mono fun _ _ x => x.mono fun _ hq => .tail _ hq
    · exact ht'.mono fun _ _ x => x.mono fun _ hq => .tail _ hq
  · intro i ys news9 hin hJ v hv
    obtain ⟨rest', rfl, hr', hp1', hl1', hp2', hl2', ht'⟩ := hJ
    have hv' : vp[i]? = some v := by simpa using hv
    have hi' : i < ps.length := by rw [List.size_toArray] at hin; omega
    have hbq := hbd _ (List.getElem_mem hi')
    have hpa := hp2'.get hv' (List.getElem?_eq_getElem hi')
    have eti : ps.take (i + 1) = ps.take i ++ [ps[i]] := by rw [List.take_succ_eq_append_getElem hi']
    generalize ps[i] = q at *
    obtain ⟨q1, q2⟩ := q
    obtain ⟨hq0, hq1, hq2⟩ := hbq
    dsimp only at hq0 hq1 hq2
    obtain ⟨a, ta, tb, rfl, ha⟩ := hpa
    refine ⟨a, _, _, _, _, rfl, .tail _ (.tail _ ha), rfl, rfl, ?_⟩
    intro I oI C oC D m₂ h tk E' hC hx1 hx2 F' N' off ne
    k_steps
    (rename News _ _ _ _ => N9)
    (rename (∀ p : Addr × Obj, p ∈ _ → @LT.lt Nat _ p.1 _) => hlo)
    have hc1 : @LT.lt Nat _ (L + 1) _ := hlo (L + 1, oc) (by simp)
    have hc2 : @LT.lt Nat _ 86 _ := hlo (86, ot) (by simp)
    refine compEnd_mk (nw := [_, _]) (by assumption) N9 off hlo (by tb_rel) ?_ ?_
    · exact .inr ⟨_, .tail _ (.tail _ (.tail _ (.tail _ hp1'))), rfl, _, rfl⟩
    · refine ⟨_, rfl, ?_, .tail _ (.tail _ hp1'), .tail _ (.tail _ hl1'), hp2'.mono fun _ _ x => x.mono fun _ hq => .tail _ (.tail _ hq), hl2'.mono fun _ _ x => x.mono fun _ hq => .tail _ (.tail _ hq), ?_⟩
      · simp only [List.cons_append, List.nil_append]; tb_rel
      · rw [eti]
        refine (ht'.mono fun _ _ x => x.mono fun _ hq => .tail _ (.tail _ hq)).append ⟨⟨_, _, _, _, _, rfl, List.mem_cons_self, .tail _ List.mem_cons_self⟩, trivial⟩
  · exact ⟨rest, rfl, hr, hp1, hl1, hp2, hl2, by rw [List.take_zero]; trivial⟩
end Mine
end

section
open PySem PySem.W PyProof.Rows
set_option linter.unusedVariables false
namespace Mine
/-- the questions of the sort, answered by keys -/
def ok {α : Type} (K : Nat → Int) (N : Nat) : KasT α → (α → Prop) → Prop
  | .ret a, Q => Q a
  | .ask i j k, Q => i < N ∧ j < N ∧ ok K N (k (decide (K i < K j))) Q
theorem ok_bind {α β : Type} {K : Nat → Int} {N : Nat} {f : α → KasT β} {Q : β → Prop} : ∀ (t : KasT α), ok K N t (fun a => ok K N (f a) Q) → ok K N (t.bind f) Q
  | .ret _, h => h
  | .ask _ _ _, h => ⟨h.1, h.2.1, ok_bind _ h.2.2⟩
theorem ok_mono {α : Type} {K : Nat → Int} {N : Nat} {Q Q' : α → Prop} (hq : ∀ a, Q a → Q' a) : ∀ (t : KasT α), ok K N t Q → ok K N t Q'
  | .ret a, h => hq a h
  | .ask _ _ _, h => ⟨h.1, h.2.1, ok_mono hq _ h.2.2⟩
theorem kasWp_ok {α : Type} {K : Nat → Int} {N : Nat} {cmp : Nat → Nat → (Bool → Shared → Prop) → Shared → Prop} {s : Shared} (hc : ∀ i j (C : Bool → Shared → Prop), i < N → j < N → C (decide (K i < K j)) s → cmp i j C s) {Q : α → Shared → Prop} :
    ∀ (t : KasT α), ok K N t (fun a => Q a s) → t.kasWp cmp Q s
  | .ret _, h => h
  | .ask i j _, h => hc i j _ h.1 h.2.1 (kasWp_ok hc _ h.2.2)

def PB (N : Nat) (p : Array Nat) : Prop := ∀ i, p.getD i 0 < N
theorem getD_eq (p : Array Nat) (i : Nat) : p.getD i 0 = (p[i]?).getD 0 := by
  by_cases h : i < p.size
  · simp [Array.getD, h]
  · simp [Array.getD, h]
theorem getD_rev {p : Array Nat} {i j : Nat} (hj : j ≤ p.size) (k : Nat) : (kas_rev p i j).getD k 0 = if i ≤ k ∧ k < j then p.getD (i + j - 1 - k) 0 else p.getD k 0 := by
  rw [getD_eq, getD_eq, getD_eq]
  have e := getElem?_mirror_all (i := i) hj k
  unfold kas_rev
  by_cases h : i ≤ k ∧ k < j
  · rw [if_pos h] at e ⊢; rw [e]
  · rw [if_neg h] at e ⊢; rw [e]
theorem getD_bubble {p : Array Nat} {src d : Nat} (hs : src < p.size) (hd : d ≤ src) (k : Nat) :
    (bubble p src d).getD k 0 = if k = src - d then p.getD src 0 else if src - d < k ∧ k ≤ src then p.getD (k - 1) 0 else p.getD k 0 := by
  rw [getD_eq, getD_eq, getD_eq, getD_eq]
  have e := getElem?_bubble hs d hd k
  by_cases h1 : k = src - d
  · rw [if_pos h1] at e ⊢; rw [e]
  · rw [if_neg h1] at e ⊢
    by_cases h2 : src - d < k ∧ k ≤ src
    · rw [if_pos h2] at e ⊢; rw [e]
    · rw [if_neg h2] at e ⊢; rw [e]
theorem PB.rev {N : Nat} {p : Array Nat} {i j : Nat} (h : PB N p) (hj : j ≤ p.size) : PB N (kas_rev p i j) := by
  intro k; rw [getD_rev hj]; split <;> exact h _
theorem PB.bubble {N : Nat} {p : Array Nat} {src d : Nat} (h : PB N p) (hs : src < p.size) (hd : d ≤ src) : PB N (bubble p src d) := by
  intro k; rw [getD_bubble hs hd]
  by_cases h1 : k = src - d
  · rw [if_pos h1]; exact h _
  · rw [if_neg h1]
    by_cases h2 : src - d < k ∧ k ≤ src
    · rw [if_pos h2]; exact h _
    · rw [if_neg h2]; exact h _

section
variable (K : Nat → Int)
abbrev kk (p : Array Nat) (i : Nat) : Int := K (p.getD i 0)
def S (p : Array Nat) (n : Nat) : Prop := ∀ i j, i ≤ j → j < n → kk K p i ≤ kk K p j
def NI (p : Array Nat) (n : Nat) : Prop := ∀ i j, i ≤ j → j < n → kk K p j ≤ kk K p i
end
section
variable {K : Nat → Int} {N : Nat}
theorem S_succ {p : Array Nat} {n : Nat} (h : S K p n) (hn : 1 ≤ n) (h1 : kk K p (n - 1) ≤ kk K p n) : S K p (n + 1) := by
  intro i j hij hj
  by_cases e : j < n
  · exact h i j hij e
  · obtain rfl : j = n := by omega
    by_cases e2 : i = j
    · subst e2; exact Int.le_refl _
    · exact Int.le_trans (h i (j - 1) (by omega) (by omega)) h1
theorem NI_succ {p : Array Nat} {n : Nat} (h : NI K p n) (hn : 1 ≤ n) (h1 : kk K p n ≤ kk K p (n - 1)) : NI K p (n + 1) := by
  intro i j hij hj
  by_cases e : j < n
  · exact h i j hij e
  · obtain rfl : j = n := by omega
    by_cases e2 : i = j
    · subst e2; exact Int.le_refl _
    · exact Int.le_trans h1 (h i (j - 1) (by omega) (by omega))

theorem ok_asc {p : Array Nat} (hp : PB N p) {Q : Nat → Prop} : ∀ (f n : Nat), 1 ≤ n → S K p n →
    (∀ m, n ≤ m → m ≤ n + f → S K p m → (m < n + f → kk K p m < kk K p (m - 1)) → Q m) → ok K N (kas_asc p f n) Q
  | 0, n, _, hs, h => h n (Nat.le_refl _) (Nat.le_refl _) hs fun e => absurd e (by omega)
  | f + 1, n, h1, hs, h => by
    refine ⟨hp _, hp _, ?_⟩
    by_cases e : K (p.getD n 0) < K (p.getD (n - 1) 0)
    · rw [decide_eq_true e]
      exact h n (Nat.le_refl _) (by omega) hs fun _ => e
    · rw [decide_eq_false e]
      exact ok_asc hp f (n + 1) (by omega) (S_succ hs h1 (Int.not_lt.mp e)) fun m a b c d => h m (by omega) (by omega) c fun x => d (by omega)

/-- a stretch of equal keys turned about: the keys stay -/
theorem kk_rev_eq {p : Array Nat} {i j : Nat} (hj : j ≤ p.size) (he : ∀ a b, i ≤ a → a < j → i ≤ b → b < j → kk K p a = kk K p b) (k : Nat) : kk K (kas_rev p i j) k = kk K p k := by
  show K _ = K _
  rw [getD_rev hj]
  by_cases h : i ≤ k ∧ k < j
  · rw [if_pos h]; exact he _ _ (by omega) (by omega) h.1 h.2
  · rw [if_neg h]
theorem NI_of_kk {p p' : Array Nat} {n : Nat} (e : ∀ k, kk K p' k = kk K p k) (h : NI K p n) : NI K p' n := fun i j a b => by rw [e, e]; exact h i j a b
theorem rev_perm (p : Array Nat) (i j : Nat) : (kas_rev p i j).Perm p := mirror_perm _ _ _ _
theorem rev_size (p : Array Nat) (i j : Nat) : (kas_rev p i j).size = p.size := mirror_size _ _ _ _

theorem ok_desc {p₀ : Array Nat} {Q : Array Nat × Nat × Nat → Prop} : ∀ (f : Nat) (p : Array Nat) (n q : Nat), PB N p → p.Perm p₀ → n + f ≤ p₀.size → q + 1 ≤ n → NI K p n → (∀ a, n - 1 - q ≤ a → a < n → kk K p a = kk K p (n - 1)) →
    (∀ p' n' q', PB N p' → p'.Perm p₀ → n ≤ n' → n' ≤ n + f → q' + 1 ≤ n' → NI K p' n' → (∀ a, n' - 1 - q' ≤ a → a < n' → kk K p' a = kk K p' (n' - 1)) → Q (p', n', q')) → ok K N (kas_desc f p n q) Q
  | 0, p, n, q, hb, hp, _, hq, hn, he, h => h p n q hb hp (Nat.le_refl _) (Nat.le_refl _) hq hn he
  | f + 1, p, n, q, hb, hp, hz, hq, hn, he, h => by
    have hsz : p.size = p₀.size := hp.size_eq
    refine ⟨hb _, hb _, ?_⟩
    by_cases e : K (p.getD n 0) < K (p.getD (n - 1) 0)
    · rw [decide_eq_true e]
      simp only [if_true]
      by_cases hq0 : q > 0
      · rw [if_pos hq0]
        have ek : ∀ k, kk K (kas_rev p (n - (q + 1)) n) k = kk K p k := kk_rev_eq (by omega) fun a b h1 h2 h3 h4 => (he a (by omega) h2).trans (he b (by omega) h4).symm
        refine ok_desc f _ (n + 1) 0 (hb.rev (by omega)) ((rev_perm _ _ _).trans hp) (by omega) (by omega) (NI_of_kk ek (NI_succ hn (by omega) (Int.le_of_lt e))) (fun a h1 h2 => ?_) fun p' n' q' a1 a2 a3 a4 a5 a6 a7 => h p' n' q' a1 a2 (by omega) (by omega) a5 a6 a7
        obtain rfl : a = n := by omega
        rfl
      · rw [if_neg hq0]
        refine ok_desc f _ (n + 1) 0 hb hp (by omega) (by omega) (NI_succ hn (by omega) (Int.le_of_lt e)) (fun a h1 h2 => ?_) fun p' n' q' a1 a2 a3 a4 a5 a6 a7 => h p' n' q' a1 a2 (by omega) (by omega) a5 a6 a7
        obtain rfl : a = n := by omega
        rfl
    · rw [decide_eq_false e]
      simp only [Bool.false_eq_true, if_false]
      refine ⟨hb _, hb _, ?_⟩
      by_cases e2 : K (p.getD (n - 1) 0) < K (p.getD n 0)
      · rw [decide_eq_true e2]
        simp only [if_true]
        exact h p n q hb hp (Nat.le_refl _) (by omega) hq hn he
      · rw [decide_eq_false e2]
        simp only [Bool.false_eq_true, if_false]
        have ee : kk K p n = kk K p (n - 1) := Int.le_antisymm (Int.not_lt.mp e2) (Int.not_lt.mp e)
        refine ok_desc f p (n + 1) (q + 1) hb hp (by omega) (by omega) (NI_succ hn (by omega) (Int.le_of_eq ee)) (fun a h1 h2 => ?_) fun p' n' q' a1 a2 a3 a4 a5 a6 a7 => h p' n' q' a1 a2 (by omega) (by omega) a5 a6 a7
        show kk K p a = kk K p (n + 1 - 1)
        rw [Nat.add_sub_cancel]
        by_cases e3 : a = n
        · rw [e3]
        · exact (he a (by omega) (by omega)).trans ee.symm

theorem S_rev {p : Array Nat} {n : Nat} (hn : n ≤ p.size) (h : NI K p n) : S K (kas_rev p 0 n) n := by
  intro i j hij hj
  show K _ ≤ K _
  rw [getD_rev hn, getD_rev hn, if_pos ⟨Nat.zero_le _, by omega⟩, if_pos ⟨Nat.zero_le _, hj⟩]
  exact h _ _ (by omega) (by omega)

theorem ok_tail3 {p₀ p : Array Nat} {n nrem : Nat} {Q : Nat × Array Nat → Prop} (hb : PB N p) (hp : p.Perm p₀) (hn : 1 ≤ n) (hr : n ≤ nrem) (hz : nrem ≤ p₀.size) (h : NI K p n)
    (k : ∀ m p', PB N p' → p'.Perm p₀ → 1 ≤ m → m ≤ nrem → S K p' m → Q (m, p')) : ok K N (kas_tail3 n nrem p) Q := by
  have hsz : p.size = p₀.size := hp.size_eq
  refine ok_bind _ (ok_asc (hb.rev (by omega)) _ _ hn (S_rev (by omega) h) fun m a b c _ => ?_)
  exact k m _ (hb.rev (by omega)) ((rev_perm _ _ _).trans hp) (by omega) (by omega) c
theorem ok_descPart {p₀ p : Array Nat} {n nrem : Nat} {Q : Nat × Array Nat → Prop} (hb : PB N p) (hp : p.Perm p₀) (hn : 1 ≤ n) (hr : n + 1 ≤ nrem) (hz : nrem ≤ p₀.size) (h : NI K p (n + 1))
    (k : ∀ m p', PB N p' → p'.Perm p₀ → 1 ≤ m → m ≤ nrem → S K p' m → Q (m, p')) : ok K N (kas_descPart n nrem p) Q := by
  refine ok_bind _ (ok_desc (p₀ := p₀) _ p (n + 1) 0 hb hp (by omega) (by omega) h (fun a h1 h2 => ?_) fun p' n' q' a1 a2 a3 a4 a5 a6 a7 => ?_)
  · obtain rfl : a = n := by omega
    rfl
  · have hsz : p'.size = p₀.size := a2.size_eq
    dsimp only
    by_cases hq : q' > 0
    · rw [if_pos hq]
      have ek : ∀ k, kk K (kas_rev p' (n' - (q' + 1)) n') k = kk K p' k := kk_rev_eq (by omega) fun a b h1 h2 h3 h4 => (a7 a (by omega) h2).trans (a7 b (by omega) h4).symm
      exact ok_tail3 (a1.rev (by omega)) ((rev_perm _ _ _).trans a2) (by omega) (by omega) hz (NI_of_kk ek a6) k
    · rw [if_neg hq]
      exact ok_tail3 a1 a2 (by omega) (by omega) hz a6 k
theorem ok_count {p : Array Nat} {nrem : Nat} {Q : Nat × Array Nat → Prop} (hb : PB N p) (hr : 1 ≤ nrem) (hz : nrem ≤ p.size)
    (k : ∀ m p', PB N p' → p'.Perm p → 1 ≤ m → m ≤ nrem → S K p' m → Q (m, p')) : ok K N (kas_count nrem p) Q := by
  refine ok_bind _ (ok_asc hb _ _ (Nat.le_refl 1) (fun i j a b => by obtain rfl : i = j := by omega
                                                                     exact Int.le_refl _) fun n a b c d => ?_)
  by_cases e1 : (n == nrem) = true
  · rw [if_pos e1]
    exact k n p hb (Array.Perm.refl _) a (by omega) c
  · rw [if_neg e1]
    have hne : n ≠ nrem := fun q => e1 (by rw [q]; exact beq_self_eq_true _)
    have hlt := d (by omega)
    by_cases e2 : n > 1
    · rw [if_pos e2]
      refine ⟨hb _, hb _, ?_⟩
      by_cases e3 : K (p.getD 0 0) < K (p.getD (n - 1) 0)
      · rw [decide_eq_true e3]
        simp only [if_true]
        exact k n p hb (Array.Perm.refl _) a (by omega) c
      · rw [decide_eq_false e3]
        simp only [Bool.false_eq_true, if_false]
        have all : ∀ x, x < n → kk K p x = kk K p 0 := fun x hx => Int.le_antisymm (Int.le_trans (c x (n - 1) (by omega) (by omega)) (Int.not_lt.mp e3)) (c 0 x (Nat.zero_le _) hx)
        have ek : ∀ x, kk K (kas_rev p 0 n) x = kk K p x := kk_rev_eq (by omega) fun x y _ h2 _ h4 => (all x h2).trans (all y h4).symm
        refine ok_descPart (hb.rev (by omega)) (rev_perm _ _ _) a (by omega) (by omega) (NI_of_kk ek (NI_succ ?_ a (Int.le_of_lt hlt))) k
        intro i j hij hj
        rw [all i (by omega), all j hj]
        exact Int.le_refl _
    · rw [if_neg e2]
      obtain rfl : n = 1 := by omega
      refine ok_descPart hb (Array.Perm.refl _) (Nat.le_refl 1) (by omega) (by omega) (NI_succ (fun i j a b => ?_) (Nat.le_refl 1) (Int.le_of_lt hlt)) k
      obtain rfl : i = j := by omega
      exact Int.le_refl _

theorem ok_place {p : Array Nat} {k : Nat} (hb : PB N p) (hs : S K p k) {Q : Nat → Prop} : ∀ (f l r : Nat), l ≤ r → r ≤ k → r - l ≤ f → (∀ i, i < l → kk K p i ≤ kk K p k) → (∀ i, r ≤ i → i < k → kk K p k ≤ kk K p i) →
    (∀ l, l ≤ k → (∀ i, i < l → kk K p i ≤ kk K p k) → (∀ i, l ≤ i → i < k → kk K p k ≤ kk K p i) → Q l) → ok K N (kas_place p k f l r) Q
  | 0, l, r, h1, h2, h3, lo, hi, q => by
    obtain rfl : l = r := by omega
    exact q l h2 lo hi
  | f + 1, l, r, h1, h2, h3, lo, hi, q => by
    unfold kas_place
    by_cases e : l ≥ r
    · rw [if_pos e]
      obtain rfl : l = r := by omega
      exact q l h2 lo hi
    · rw [if_neg e]
      refine ⟨hb _, hb _, ?_⟩
      by_cases e2 : K (p.getD k 0) < K (p.getD ((l + r) / 2) 0)
      · rw [decide_eq_true e2]
        simp only [if_true]
        exact ok_place hb hs f l ((l + r) / 2) (by omega) (by omega) (by omega) lo (fun i a b => Int.le_trans (Int.le_of_lt e2) (hs _ _ a b)) q
      · rw [decide_eq_false e2]
        simp only [Bool.false_eq_true, if_false]
        exact ok_place hb hs f ((l + r) / 2 + 1) r (by omega) h2 (by omega) (fun i a => Int.le_trans (hs i ((l + r) / 2) (by omega) (by omega)) (Int.not_lt.mp e2)) hi q

theorem S_bubble {p : Array Nat} {k l : Nat} (hk : k < p.size) (hl : l ≤ k) (hs : S K p k) (lo : ∀ i, i < l → kk K p i ≤ kk K p k) (hi : ∀ i, l ≤ i → i < k → kk K p k ≤ kk K p i) : S K (bubble p k (k - l)) (k + 1) := by
  have ek : k - (k - l) = l := by omega
  have g : ∀ x, kk K (bubble p k (k - l)) x = if x = l then kk K p k else if l < x ∧ x ≤ k then kk K p (x - 1) else kk K p x := by
    intro x
    show K _ = _
    rw [getD_bubble hk (by omega), ek]
    by_cases h1 : x = l
    · rw [if_pos h1, if_pos h1]
    · rw [if_neg h1, if_neg h1]
      by_cases h2 : l < x ∧ x ≤ k
      · rw [if_pos h2, if_pos h2]
      · rw [if_neg h2, if_neg h2]
  intro i j hij hj
  rw [g, g]
  by_cases hi1 : i = l
  · rw [if_pos hi1]
    by_cases hj1 : j = l
    · rw [if_pos hj1]; exact Int.le_refl _
    · rw [if_neg hj1, if_pos (by omega)]
      exact hi _ (by omega) (by omega)
  · rw [if_neg hi1]
    by_cases hi2 : l < i ∧ i ≤ k
    · rw [if_pos hi2, if_neg (by omega), if_pos (by omega)]
      exact hs _ _ (by omega) (by omega)
    · rw [if_neg hi2]
      by_cases hj1 : j = l
      · rw [if_pos hj1]; exact lo i (by omega)
      · rw [if_neg hj1]
        by_cases hj2 : l < j ∧ j ≤ k
        · rw [if_pos hj2]; exact hs _ _ (by omega) (by omega)
        · rw [if_neg hj2]; exact hs _ _ hij (by omega)

theorem ok_bin {p₀ : Array Nat} {Q : Array Nat → Prop} : ∀ (f : Nat) (p : Array Nat) (k : Nat), PB N p → p.Perm p₀ → k + f ≤ p₀.size → S K p k → (∀ p', p'.Perm p₀ → S K p' (k + f) → Q p') → ok K N (kas_bin f p k) Q
  | 0, p, k, _, hp, _, hs, q => q p hp hs
  | f + 1, p, k, hb, hp, hz, hs, q => by
    have hsz : p.size = p₀.size := hp.size_eq
    refine ok_bind _ (ok_place hb hs k 0 k (Nat.zero_le _) (Nat.le_refl _) (by omega) (fun i hi => absurd hi (Nat.not_lt_zero _)) (fun i a b => absurd b (by omega)) fun l hl lo hi => ?_)
    refine ok_bin f _ (k + 1) (hb.bubble (by omega) (by omega)) ((bubble_perm _ _ _).trans hp) (by omega) (S_bubble (by omega) hl hs lo hi) fun p' a b => q p' a (by rw [show k + (f + 1) = k + 1 + f by omega]; exact b)

/-- the sort: a turned sequence, its keys rising -/
theorem ok_sort {n : Nat} {Q : Array Nat → Prop} (hn : 1 ≤ n) (q : ∀ p : Array Nat, p.Perm (List.toArray (List.range n)) → S K p n → Q p) : ok K n (kas_sort n) Q := by
  have hsz : (List.toArray (List.range n)).size = n := by simp
  have hb : PB n (List.toArray (List.range n)) := by
    intro i
    rw [getD_eq]
    by_cases h : i < n
    · simp [h]
    · simp [h]; omega
  refine ok_bind _ (ok_count hb hn (by omega) fun m p' a1 a2 a3 a4 a5 => ?_)
  dsimp only
  by_cases h : m < n
  · rw [if_pos h]
    have em : max m 1 = m := by omega
    rw [em]
    exact ok_bin _ _ _ a1 a2 (by omega) a5 fun p'' b1 b2 => q p'' b1 (by rw [show n = m + (n - m) by omega]; exact b2)
  · rw [if_neg h]
    obtain rfl : m = n := by omega
    exact q p' a2 a5
end
end Mine
end

section
open PySem PySem.W PyProof.Rows PySem.Calls
set_option maxRecDepth 100000
set_option linter.unusedVariables false
namespace Mine
section
variable {prog : Program} {w : World} {A : Around} {E : Value → Shared → Prop} {s : Shared} {h₀ : Heap} {L l : Addr} {m : Str → Option Value} {news : List (Addr × Obj)} {vs : List Value} {Q : Value → Shared → Prop}

/-- sorted: a new list, then its own sort -/
theorem sorted_wrap {kw : List (Str × Value)} (F : Fr h₀ L s.heap m) (N : News h₀ L s.heap news) (hl : s.heap.IsList l vs.toArray) (h64 : vs.length < 64)
    (ha1 : argsOk "sorted" ⟨[.ref l], kw⟩) (ha2 : ∀ x, argsOk "list.sort" ⟨[.ref x], kw⟩)
    (body : ∀ D h', Fr h₀ L h' m → News h₀ L h' ((D, seqObj "list" vs.toArray 0) :: news) → (∀ q ∈ news, q.1 < D) →
      wpAny (model prog w) A.in1.in1 (Builtin.«list.sort» ⟨[.ref D], kw⟩) (fun r s' => r = .done (.ret .none) ∧ Q (.ref D) s') E { s with heap := h' }) :
    wpAny (model prog w) A (call (.builtin "sorted") [.ref l] kw) Q E s := by
  refine call_function_entry_kw kind_sorted plain_sorted entry_sorted ha1 ?_
  unfold Builtin.«sorted»
  refine wpAny_bind (m := checkCount "sorted" 1 1 _) (wpAny_pure ?_)
  refine wpAny_bind (collect_list hl ?_ (by rw [sizeLine_eq]; omega))
  refine wpAny_bind (wpAny_newList ?_ (by rw [sizeLine_eq]; omega))
  have sz : ((s.heap.push (seqObj "list" #[] 0)).update s.heap.objs.size (Obj.mapSeq (· ++ vs.toArray))).objs.size = s.heap.objs.size + 1 := by
    rw [Heap.size_update, size_push']
  have at1 : (((s.heap.push (seqObj "list" #[] 0)).update s.heap.objs.size (Obj.mapSeq (· ++ vs.toArray))).push (seqObj "list" vs.toArray 0)).get? (s.heap.objs.size + 1) = some (seqObj "list" vs.toArray 0) := by
    rw [← sz]; exact Heap.get?_push_size _ rfl
  have old : ∀ b o, s.heap.get? b = some o → (((s.heap.push (seqObj "list" #[] 0)).update s.heap.objs.size (Obj.mapSeq (· ++ vs.toArray))).push (seqObj "list" vs.toArray 0)).get? b = some o := by
    intro b o e
    have lt : b < s.heap.objs.size := Heap.lt_size e
    refine Heap.get?_push_of_some _ ?_
    rw [Heap.get?_update_ne _ _ _ _ (Nat.ne_of_lt lt)]
    exact Heap.get?_push_of_some _ e
  have lL : L < s.heap.objs.size := F.ns.lt
  have N2 : News h₀ L (((s.heap.push (seqObj "list" #[] 0)).update s.heap.objs.size (Obj.mapSeq (· ++ vs.toArray))).push (seqObj "list" vs.toArray 0)) ((s.heap.objs.size + 1, seqObj "list" vs.toArray 0) :: news) := by
    intro p hp
    rcases List.mem_cons.mp hp with rfl | hp
    · exact ⟨at1, Nat.ne_of_gt (Nat.lt_succ_of_lt lL), Heap.get?_none_of_le (Nat.le_trans F.above (Nat.le_succ_of_le (Nat.le_of_lt lL)))⟩
    · exact N.grown old p hp
  show wpAny _ _ _ _ _ { s with heap := ((s.heap.push (seqObj "list" #[] 0)).update s.heap.objs.size (Obj.mapSeq (· ++ vs.toArray))).push (seqObj "list" vs.toArray 0) }
  rw [sz]
  refine wpAny_bind (wpAny_holding (wpAny_call_entry_kw slot_list_sort ⟨_, at1, rfl⟩ entry_list_sort ?_ (ha2 _)))
  refine wpAny_mono (body _ _ (F.kept old) N2 fun q hq => Nat.lt_succ_of_lt (Heap.lt_size (N q hq).1)) (fun r s' h => ?_) fun _ _ x => x
  obtain ⟨rfl, hq⟩ := h
  exact ⟨_, rfl, wpAny_pure ⟨_, rfl, hq⟩⟩

/-- a list of one item: its sort leaves it -/
theorem sort_one {v : Value} {a : Addr} {P : PySem.Fin → Shared → Prop} (F : Fr h₀ L s.heap m) (N : News h₀ L s.heap ((a, seqObj "list" [v].toArray 0) :: news)) (hna : ∀ p ∈ news, p.1 ≠ a)
    (h : ∀ h' c, Fr h₀ L h' m → News h₀ L h' ((a, seqObj "list" [v].toArray c) :: news) → P (.done (.ret .none)) { s with heap := h' }) :
    wpAny (model prog w) A (Builtin.«list.sort» ⟨[.ref a], []⟩) P E s := by
  have na := N _ (.head _)
  have ho : s.heap.get? a = some (seqObj "list" [v].toArray 0) := na.1
  have s1 := Heap.SameBut.update s.heap a (Obj.mapSeq fun _ => (#[] : Array Value))
  obtain ⟨e1, ho1⟩ : ∃ e1, (s.heap.update a (Obj.mapSeq fun _ => (#[] : Array Value))).get? a = some (seqObj "list" #[] e1) := ⟨_, get?_update_seq ho fun _ => #[]⟩
  have F3 : Fr h₀ L (((s.heap.update a (Obj.mapSeq fun _ => (#[] : Array Value))).push (seqObj "tuple" [v].toArray 0)).push (seqObj "list" #[] 0)) m := ((kas_fr F s1 na.2.1 na.2.2).push _).push _
  have N3 : News h₀ L (((s.heap.update a (Obj.mapSeq fun _ => (#[] : Array Value))).push (seqObj "tuple" [v].toArray 0)).push (seqObj "list" #[] 0)) news :=
    (kas_news (fun p hp => N p (.tail _ hp)) s1 hna).grown fun b x e => Heap.get?_push_of_some _ (Heap.get?_push_of_some _ e)
  have ho3 : (((s.heap.update a (Obj.mapSeq fun _ => (#[] : Array Value))).push (seqObj "tuple" [v].toArray 0)).push (seqObj "list" #[] 0)).get? a = some (seqObj "list" #[] e1) := Heap.get?_push_of_some _ (Heap.get?_push_of_some _ ho1)
  rw [list_sort_plain]
  refine wpAny_bind (listItems_at ho rfl ?_)
  refine wpAny_bind (listUpdate_at ho rfl ?_ (by rw [sizeLine_eq]; simp) (Nat.zero_le _))
  refine wpAny_bind (seqEpoch_at ho1 rfl ?_)
  refine wpAny_bind (wpAny_newTuple ?_ (by rw [sizeLine_eq]; simp))
  refine wpAny_bind (wpAny_newList ?_ (Nat.zero_le _))
  refine wpAny_holding ?_
  show wpAny (model prog w) A _ P E { s with heap := ((s.heap.update a (Obj.mapSeq fun _ => (#[] : Array Value))).push (seqObj "tuple" [v].toArray 0)).push (seqObj "list" #[] 0) }
  have h1 : [v].toArray.size < 2 := by simp
  dsimp only
  rw [if_pos h1, if_pos h1]
  refine wpAny_bind (wpAny_pure ?_)
  rw [StateT.run_pure]
  refine wpAny_bind (wpAny_pure ?_)
  dsimp only
  have eX : Array.map (fun x : Keyed => x.snd) (arrOf (SortSt.mk' general' ([v].toArray.zip [v].toArray) #[] 7 none)) = [v].toArray := by
    show Array.map (fun x : Keyed => x.snd) ([v].toArray.zip [v].toArray) = [v].toArray
    apply Array.toList_inj.mp
    rw [Array.toList_map, ksk_zip]
    rfl
  have s2 := Heap.SameBut.update (((s.heap.update a (Obj.mapSeq fun _ => (#[] : Array Value))).push (seqObj "tuple" [v].toArray 0)).push (seqObj "list" #[] 0)) a (Obj.mapSeq fun _ => Array.map (fun x : Keyed => x.snd) (arrOf (SortSt.mk' general' ([v].toArray.zip [v].toArray) #[] 7 none)))
  obtain ⟨c2, hc2⟩ : ∃ c2, ((((s.heap.update a (Obj.mapSeq fun _ => (#[] : Array Value))).push (seqObj "tuple" [v].toArray 0)).push (seqObj "list" #[] 0)).update a (Obj.mapSeq fun _ => Array.map (fun x : Keyed => x.snd) (arrOf (SortSt.mk' general' ([v].toArray.zip [v].toArray) #[] 7 none)))).get? a = some (seqObj "list" (Array.map (fun x : Keyed => x.snd) (arrOf (SortSt.mk' general' ([v].toArray.zip [v].toArray) #[] 7 none))) c2) := ⟨_, get?_update_seq ho3 fun _ => _⟩
  refine wpAny_bind (seqEpoch_at ho3 rfl ?_)
  refine wpAny_bind (listUpdate_at ho3 rfl ?_ (Nat.zero_le _) (by rw [eX, sizeLine_eq]; simp))
  simp only [bne_self_eq_false, Bool.false_eq_true, if_false]
  refine wpAny_pure (h _ c2 (kas_fr F3 s2 na.2.1 na.2.2) ?_)
  intro p hp
  rcases List.mem_cons.mp hp with rfl | hp
  · exact ⟨hc2.trans (by rw [eX]), na.2⟩
  · exact kas_news N3 s2 hna p hp
end
end Mine
end

section
open PySem PySem.W PyProof.Rows PySem.Calls
set_option maxRecDepth 100000
set_option linter.unusedVariables false
namespace Mine
/-- the order of the stretches: by the begin, of one begin the longer first -/
def kq (q : Int × Int) : Int := 1000 * q.1 - (q.2 - q.1)
def Bd (q : Int × Int) : Prop := 0 ≤ q.1 ∧ q.1 ≤ q.2 ∧ q.2 < 100
theorem kq_inj {a b : Int × Int} (ha : Bd a) (hb : Bd b) (h : kq a = kq b) : a = b := by
  obtain ⟨a1, a2⟩ := a
  obtain ⟨b1, b2⟩ := b
  unfold kq Bd at *
  simp only [Prod.mk.injEq]
  dsimp only at *
  omega
theorem lex_kq {a b : Int × Int} (ha : Bd a) (hb : Bd b) : (a.1 < b.1 ∨ (a.1 = b.1 ∧ -(a.2 - a.1 + 1) < -(b.2 - b.1 + 1))) ↔ kq a < kq b := by
  unfold kq Bd at *; omega
theorem lex3_kq {a b : Int × Int} (ha : Bd a) (hb : Bd b) : (a.1 < b.1 ∨ (a.1 = b.1 ∧ (a.1 - a.2 < b.1 - b.2 ∨ (a.1 - a.2 = b.1 - b.2 ∧ a.2 < b.2)))) ↔ kq a < kq b := by
  unfold kq Bd at *; omega
theorem sorted_uniq {a b : List (Int × Int)} (hp : a.Perm b) (hb : ∀ q ∈ b, Bd q) (h1 : a.Pairwise fun x y => kq x ≤ kq y) (h2 : b.Pairwise fun x y => kq x ≤ kq y) : a = b :=
  List.Perm.eq_of_pairwise (fun x y hx hy l1 l2 => kq_inj (hb x (hp.mem_iff.mp hx)) (hb y hy) (Int.le_antisymm l1 l2)) h1 h2 hp

theorem map_range_getD {α : Type} (d : α) (qs : List α) : (List.range qs.length).map (fun i => qs.getD i d) = qs := by
  apply List.ext_getElem?
  intro i
  by_cases h : i < qs.length
  · simp [h]
  · simp [h]
theorem All2.map_idx {α β : Type} {R : α → β → Prop} {vs : List α} {qs : List β} {dv : α} {dq : β} (h : All2 R vs qs) : ∀ p : List Nat, (∀ i ∈ p, i < qs.length) → All2 R (p.map fun i => vs.getD i dv) (p.map fun i => qs.getD i dq)
  | [], _ => trivial
  | i :: p, hp => by
    have hi := hp i (.head _)
    have hi' : i < vs.length := by rw [h.length]; exact hi
    refine ⟨?_, h.map_idx p fun j hj => hp j (.tail _ hj)⟩
    have := h.get (i := i) (List.getElem?_eq_getElem hi') (List.getElem?_eq_getElem hi)
    simpa [hi, hi'] using this
theorem All2.and_mem {α β : Type} {R : α → β → Prop} {P : β → Prop} : ∀ {vs : List α} {qs : List β}, All2 R vs qs → (∀ q ∈ qs, P q) → All2 (fun v q => R v q ∧ P q) vs qs
  | [], [], _, _ => trivial
  | _ :: _, q :: _, ⟨a, r⟩, hp => ⟨⟨a, hp q (.head _)⟩, r.and_mem fun x hx => hp x (.tail _ hx)⟩
  | [], _ :: _, h, _ => h.elim
  | _ :: _, [], h, _ => h.elim
/-- what the sort's turned sequence makes of the data -/
theorem sort_out {R : Value → Int × Int → Prop} {vs : List Value} {qs : List (Int × Int)} (h : All2 R vs qs) {p : Array Nat} (hp : p.Perm (List.toArray (List.range qs.length))) (hs : S (fun i => kq (qs.getD i (0, 0))) p qs.length) :
    All2 R (p.toList.map fun i => vs.getD i Value.none) (p.toList.map fun i => qs.getD i (0, 0)) ∧ (p.toList.map fun i => qs.getD i (0, 0)).Perm qs ∧ (p.toList.map fun i => qs.getD i (0, 0)).Pairwise fun x y => kq x ≤ kq y := by
  have hl : p.toList.Perm (List.range qs.length) := Array.perm_iff_toList_perm.mp hp
  have hz : p.size = qs.length := by have := hp.size_eq; simpa using this
  refine ⟨h.map_idx _ fun i hi => List.mem_range.mp (hl.mem_iff.mp hi), ?_, ?_⟩
  · have := hl.map fun i => qs.getD i (0, 0)
    rw [map_range_getD] at this
    exact this
  · rw [List.pairwise_iff_getElem]
    intro i j hi hj hij
    rw [List.length_map, Array.length_toList] at hi hj
    have := hs i j (Nat.le_of_lt hij) (by omega)
    unfold kk at this
    have e1 : p.getD i 0 = p[i] := by simp [Array.getD, hi]
    have e2 : p.getD j 0 = p[j] := by simp [Array.getD, hj]
    rw [e1, e2] at this
    simpa using this

section
variable {prog : Program} {w : World} {A : Around} {E : Value → Shared → Prop} {s : Shared} {h₀ : Heap} {L l : Addr} {m : Str → Option Value} {news : List (Addr × Obj)} {x y : Addr} {Q : Bool → Shared → Prop}
abbrev tripObj (a b c : Int) (ta tb tc : Tok) : Obj := { cls := .type "tuple", data := .seq #[.int a ta, .int b tb, .int c tc] }
theorem lt_pair {a b c d : Int} {ta tb tc td : Tok} (N : News h₀ L s.heap news) (hx : (x, pairObj a b ta tb) ∈ news) (hy : (y, pairObj c d tc td) ∈ news) (h : Q (decide (a < c ∨ (a = c ∧ b < d))) s) :
    wpAny (model prog w) A (keyLt' (tuples' true) (.ref x) (.ref y)) Q E s := by
  refine kat_lt (N.get hx) rfl (N.get hy) rfl ?_
  show KatLex prog w A true _ Q [(.int a ta, .int c tc), (.int b tb, .int d td)] 0 s
  refine kat_cons (wpAny_eqBool_int ?_)
  by_cases e : a = c
  · subst e
    rw [beq_self_eq_true]
    refine kat_yes (kat_cons (wpAny_eqBool_int ?_))
    by_cases e2 : b = d
    · subst e2
      rw [beq_self_eq_true]
      refine kat_yes (kat_nil ?_)
      have e3 : decide (a < a ∨ a = a ∧ b < b) = false := by simp
      rw [e3] at h
      simpa using h
    · rw [beq_false_of_ne e2]
      refine kat_no ?_
      show wpAny _ _ (oneLt' false _ _) _ _ _
      refine kat_one _ _ (lt_int ?_)
      show Q _ _
      have e3 : decide (a < a ∨ a = a ∧ b < d) = decide (b < d) := by simp
      rw [e3] at h
      exact h
  · rw [beq_false_of_ne e]
    refine kat_no ?_
    show wpAny _ _ (oneLt' true _ _) _ _ _
    refine oneLt_int ?_
    have e3 : decide (a < c ∨ a = c ∧ b < d) = decide (a < c) := by simp [e]
    rw [e3] at h
    exact h
theorem lt_trip {a b c a' b' c' : Int} {t1 t2 t3 t4 t5 t6 : Tok} (N : News h₀ L s.heap news) (hx : (x, tripObj a b c t1 t2 t3) ∈ news) (hy : (y, tripObj a' b' c' t4 t5 t6) ∈ news) (h : Q (decide (a < a' ∨ (a = a' ∧ (b < b' ∨ (b = b' ∧ c < c'))))) s) :
    wpAny (model prog w) A (keyLt' (tuples' true) (.ref x) (.ref y)) Q E s := by
  refine kat_lt (N.get hx) rfl (N.get hy) rfl ?_
  show KatLex prog w A true _ Q [(.int a t1, .int a' t4), (.int b t2, .int b' t5), (.int c t3, .int c' t6)] 0 s
  refine kat_cons (wpAny_eqBool_int ?_)
  by_cases e : a = a'
  · subst e
    rw [beq_self_eq_true]
    refine kat_yes (kat_cons (wpAny_eqBool_int ?_))
    by_cases e2 : b = b'
    · subst e2
      rw [beq_self_eq_true]
      refine kat_yes (kat_cons (wpAny_eqBool_int ?_))
      by_cases e4 : c = c'
      · subst e4
        rw [beq_self_eq_true]
        refine kat_yes (kat_nil ?_)
        have e3 : decide (a < a ∨ (a = a ∧ (b < b ∨ (b = b ∧ c < c)))) = false := by simp
        rw [e3] at h
        simpa using h
      · rw [beq_false_of_ne e4]
        refine kat_no ?_
        show wpAny _ _ (oneLt' false _ _) _ _ _
        refine kat_one _ _ (lt_int ?_)
        show Q _ _
        have e3 : decide (a < a ∨ (a = a ∧ (b < b ∨ (b = b ∧ c < c')))) = decide (c < c') := by simp
        rw [e3] at h
        exact h
    · rw [beq_false_of_ne e2]
      refine kat_no ?_
      show wpAny _ _ (oneLt' false _ _) _ _ _
      refine kat_one _ _ (lt_int ?_)
      show Q _ _
      have e3 : decide (a < a ∨ (a = a ∧ (b < b' ∨ (b = b' ∧ c < c')))) = decide (b < b') := by simp [e2]
      rw [e3] at h
      exact h
  · rw [beq_false_of_ne e]
    refine kat_no ?_
    show wpAny _ _ (oneLt' true _ _) _ _ _
    refine oneLt_int ?_
    have e3 : decide (a < a' ∨ (a = a' ∧ (b < b' ∨ (b = b' ∧ c < c')))) = decide (a < a') := by simp [e]
    rw [e3] at h
    exact h
end
end Mine
end

section
open PySem PySem.W PyProof.Rows PySem.Calls
set_option maxRecDepth 100000
set_option linter.unusedVariables false
namespace Mine
def TripAt (news : List (Addr × Obj)) (v : Value) (q : Int × Int) : Prop := ∃ a ta tb tc, v = .ref a ∧ (a, tripObj q.1 (q.1 - q.2) q.2 ta tb tc) ∈ news
theorem TripAt.mono {n n' : List (Addr × Obj)} {v : Value} {q : Int × Int} (h : TripAt n v q) (hs : ∀ p ∈ n, p ∈ n') : TripAt n' v q := by
  obtain ⟨a, ta, tb, tc, e, hm⟩ := h; exact ⟨a, ta, tb, tc, e, hs _ hm⟩
theorem All2.mem_get {α β : Type} {R : α → β → Prop} {vs : List α} {qs : List β} (h : All2 R vs qs) {i : Nat} (hi : i < qs.length) (dv : α) (dq : β) : R (vs.getD i dv) (qs.getD i dq) := by
  have hi' : i < vs.length := by rw [h.length]; exact hi
  have := h.get (i := i) (List.getElem?_eq_getElem hi') (List.getElem?_eq_getElem hi)
  simpa [hi, hi'] using this
theorem getD_mem {α : Type} {qs : List α} {i : Nat} (hi : i < qs.length) (d : α) : qs.getD i d ∈ qs := by
  have : qs.getD i d = qs[i] := by simp [hi]
  rw [this]; exact List.getElem_mem hi

section
variable {h₀ h : Heap} {L : Addr} {news : List (Addr × Obj)}
theorem trips_tups (N : News h₀ L h news) : ∀ {vs : List Value} {qs : List (Int × Int)}, All2 (TripAt news) vs qs → ∃ fs, KatTups h vs fs ∧ fs.length = qs.length ∧ ∀ v ∈ fs, ∃ n t, v = Value.int n t
  | [], [], _ => ⟨[], trivial, rfl, fun _ hv => nomatch hv⟩
  | _ :: _, _ :: _, ⟨⟨a, ta, tb, tc, e, hm⟩, r⟩ => by
    obtain ⟨fs, h1, h2, h3⟩ := trips_tups N r
    subst e
    refine ⟨_ :: fs, KatTups.cons (N.get hm) rfl rfl rfl h1, by rw [List.length_cons, List.length_cons, h2], fun v hv => ?_⟩
    rcases List.mem_cons.mp hv with rfl | hv
    · exact ⟨_, _, rfl⟩
    · exact h3 v hv
  | [], _ :: _, r => r.elim
  | _ :: _, [], r => r.elim
theorem pairs_tups (N : News h₀ L h news) {f : Int × Int → Int × Int} : ∀ {vs : List Value} {qs : List (Int × Int)}, All2 (fun v q => PairAt news v (f q)) vs qs → ∃ fs, KatTups h vs fs ∧ fs.length = qs.length ∧ ∀ v ∈ fs, ∃ n t, v = Value.int n t
  | [], [], _ => ⟨[], trivial, rfl, fun _ hv => nomatch hv⟩
  | _ :: _, _ :: _, ⟨⟨a, ta, tb, e, hm⟩, r⟩ => by
    obtain ⟨fs, h1, h2, h3⟩ := pairs_tups N r
    subst e
    refine ⟨_ :: fs, KatTups.cons (N.get hm) rfl rfl rfl h1, by rw [List.length_cons, List.length_cons, h2], fun v hv => ?_⟩
    rcases List.mem_cons.mp hv with rfl | hv
    · exact ⟨_, _, rfl⟩
    · exact h3 v hv
  | [], _ :: _, r => r.elim
  | _ :: _, [], r => r.elim
end
theorem int_looks {M : Model} {h : Heap} {fs : List Value} (hf : ∀ v ∈ fs, ∃ n t, v = Value.int n t) : ∀ v ∈ fs, Looks M h (typeOf v) (.type "int") := fun v hv => by
  obtain ⟨n, t, rfl⟩ := hf v hv
  exact Looks.of_pure rfl
theorem len_one {α : Type} {l : List α} (h1 : 1 ≤ l.length) (h2 : ¬ 2 ≤ l.length) : ∃ a, l = [a] := by
  match l, h1, h2 with
  | [a], _, _ => exact ⟨a, rfl⟩
  | _ :: _ :: _, _, h2 => exact absurd (by simp) h2
theorem sofa (h : (Value.type "int" != Value.type "tuple") = true) : True := trivial

section
variable {prog : Program} {w : World} {A : Around} {E : Value → Shared → Prop} {s : Shared} {h₀ : Heap} {L l : Addr} {m : Str → Option Value} {news : List (Addr × Obj)} {vs : List Value} {qs : List (Int × Int)} {Q : Value → Shared → Prop}
theorem sorted3 (F : Fr h₀ L s.heap m) (N : News h₀ L s.heap news) (hl : s.heap.IsList l vs.toArray) (h1 : 1 ≤ qs.length) (h64 : qs.length < 64) (hv : All2 (TripAt news) vs qs) (hb : ∀ q ∈ qs, Bd q)
    (h : ∀ D c h' out qs', Fr h₀ L h' m → News h₀ L h' ((D, seqObj "list" (List.toArray out) c) :: news) → (∀ q ∈ news, q.1 < D) → All2 (TripAt news) out qs' → qs'.Perm qs → (qs'.Pairwise fun x y => kq x ≤ kq y) → Q (.ref D) { s with heap := h' }) :
    wpAny (model prog w) A (call (.builtin "sorted") [.ref l]) Q E s := by
  have hlen := hv.length
  by_cases h2 : 2 ≤ vs.length
  · refine kat_sorted F N hl h2 (by omega) fun D e1 h' F' N' l1 => ?_
    have Nn : News h₀ L h' news := fun p hp => N' p (.tail _ hp)
    obtain ⟨fs, t1, t2, t3⟩ := trips_tups Nn hv
    refine kat_kind (s := { s with heap := h' }) t1 (by omega) (int_looks t3) (by rfl) ?_
    rw [show (Value.type "int" != Value.type "tuple") = true from rfl, hlen]
    refine kasWp_ok (K := fun i => kq (qs.getD i (0, 0))) (N := qs.length) (fun i j C hi hj hc => ?_) _ (ok_sort h1 fun p hp hs => ?_)
    · unfold kas_ask
      obtain ⟨a, ta, tb, tc, ea, ha⟩ := hv.mem_get hi Value.none (0, 0)
      obtain ⟨b, td, te, tf, eb, hbm⟩ := hv.mem_get hj Value.none (0, 0)
      rw [ea, eb]
      refine lt_trip Nn ha hbm ?_
      have bi : Bd (qs.getD i (0, 0)) := hb _ (getD_mem hi _)
      have bj : Bd (qs.getD j (0, 0)) := hb _ (getD_mem hj _)
      have e0 := lex3_kq bi bj
      rw [decide_eq_decide.mpr e0]; exact hc
    · obtain ⟨o1, o2, o3⟩ := sort_out hv hp hs
      refine KasFin.intro F' N' (UpdF.head fun q hq => Nat.ne_of_lt (l1 q hq)) fun h2 c F2 N2 => ?_
      exact h D c h2 _ _ F2 N2 l1 o1 o2 o3
  · obtain ⟨q, rfl⟩ := len_one h1 (by omega)
    obtain ⟨v, rfl⟩ := len_one (l := vs) (by omega) h2
    refine sorted_wrap F N hl (by simp) (args_sorted1 _) (fun x => args_list_sort _) fun D h' F' N' l1 => ?_
    refine sort_one F' N' (fun p hp => Nat.ne_of_lt (l1 p hp)) fun h2 c F2 N2 => ⟨rfl, ?_⟩
    exact h D c h2 [v] [q] F2 N2 l1 hv (List.Perm.refl _) (by simp)
end
end Mine
end

section
open PySem PySem.W PyProof.Rows PySem.Calls
set_option maxRecDepth 100000
set_option linter.unusedVariables false
namespace Mine
def kf (q : Int × Int) : Int × Int := (q.1, -(q.2 - q.1 + 1))
section
variable {prog : Program} {w : World} {A : Around} {E : Value → Shared → Prop} {s : Shared} {h₀ : Heap} {L : Addr} {m : Str → Option Value} {news : List (Addr × Obj)}

/-- what a call of the key's function gives -/
def KeyEnd (h₀ : Heap) (L : Addr) (m : Str → Option Value) (need : List (Addr × Obj)) (k : Int × Int) (s₁ : Shared) (v : Value) (s₂ : Shared) : Prop :=
  ∃ h' tk a ta tb, s₂ = { s₁ with heap := h', toks := tk } ∧ v = .ref a ∧ Fr h₀ L h' m ∧ News h₀ L h' ((a, pairObj k.1 k.2 ta tb) :: need) ∧ ∀ p ∈ need, p.1 ≠ a

theorem katKeys_of {R : Value → Int × Int → Prop} {f : Value} {kS D : Addr} {oD : Obj} {Fin : List Value → Nat → Shared → Prop}
    (turn : ∀ v q, R v q → ∀ own h tk, Fr h₀ L h m → News h₀ L h (own ++ news) → wpAny (model prog w) A (call f [v]) (KeyEnd h₀ L m (own ++ news) (kf q) { s with heap := h, toks := tk }) (fun _ _ => False) { s with heap := h, toks := tk })
    (hD : D ≠ kS) (hn : ∀ p ∈ news, p.1 ≠ kS ∧ p.1 ≠ D) : ∀ (r : List Value) (rq : List (Int × Int)) (ks : List Value) (kqs : List (Int × Int)) (e : Nat) (nw : List (Addr × Obj)) (h : Heap) (tk : Nat),
      All2 R r rq → All2 (fun v q => PairAt nw v (kf q)) ks kqs → (∀ p ∈ nw, p.1 ≠ kS ∧ p.1 ≠ D) → Fr h₀ L h m → News h₀ L h ((kS, seqObj "list" (List.toArray ks) e) :: (D, oD) :: (nw ++ news)) →
      (∀ ks' e' nw' h' tk', Fr h₀ L h' m → News h₀ L h' ((kS, seqObj "list" (List.toArray ks') e') :: (D, oD) :: (nw' ++ news)) → (∀ p ∈ nw', p.1 ≠ kS ∧ p.1 ≠ D) → All2 (fun v q => PairAt nw' v (kf q)) ks' (kqs ++ rq) → Fin ks' e' { s with heap := h', toks := tk' }) →
      KatKeys prog w A h₀ L m kS f Fin r ks e { s with heap := h, toks := tk }
  | [], [], ks, kqs, e, nw, h, tk, _, hk, hnw, F, N, fin => by
    have := fin ks e nw h tk F N hnw (by rw [List.append_nil]; exact hk)
    exact this
  | v :: r, q :: rq, ks, kqs, e, nw, h, tk, ⟨hv, hr⟩, hk, hnw, F, N, fin => by
    have N1 : News h₀ L h (((kS, seqObj "list" (List.toArray ks) e) :: (D, oD) :: nw) ++ news) := N
    refine KatKeys.cons (wpAny_mono (turn v q hv _ h tk F N1) (fun k s' hk' => ?_) fun _ _ x => x)
    obtain ⟨h', tk', a, ta, tb, rfl, rfl, F', N', ha⟩ := hk'
    have ha1 : kS ≠ a := ha (kS, seqObj "list" (List.toArray ks) e) (by simp)
    have ha2 : D ≠ a := ha (D, oD) (by simp)
    have N2 : News h₀ L h' ((kS, seqObj "list" (List.toArray ks) e) :: (D, oD) :: (((a, pairObj (kf q).1 (kf q).2 ta tb) :: nw) ++ news)) := by
      intro p hp
      refine N' p ?_
      simp only [List.mem_cons, List.mem_append, List.cons_append] at hp ⊢
      grind
    have hnw' : ∀ p ∈ (a, pairObj (kf q).1 (kf q).2 ta tb) :: nw, p.1 ≠ kS ∧ p.1 ≠ D := by
      intro p hp
      rcases List.mem_cons.mp hp with rfl | hp
      · exact ⟨ha1.symm, ha2.symm⟩
      · exact hnw p hp
    refine KatBack.intro F' N2 (UpdF.head fun p hp => ?_) fun h2 c F2 N3 => ?_
    · rcases List.mem_cons.mp hp with rfl | hp
      · exact hD
      · rcases List.mem_append.mp hp with hp | hp
        · exact (hnw' p hp).1
        · exact (hn p hp).1
    · refine katKeys_of turn hD hn r rq (ks ++ [.ref a]) (kqs ++ [q]) c _ h2 tk' hr ?_ hnw' F2 N3 fun ks' e' nw' h3 tk3 F3 N4 h4 h5 => fin ks' e' nw' h3 tk3 F3 N4 h4 (by simpa using h5)
      exact (hk.mono fun _ _ x => x.mono fun _ hq => .tail _ hq).append ⟨⟨a, ta, tb, rfl, .head _⟩, trivial⟩
  | [], _ :: _, _, _, _, _, _, _, hr, _, _, _, _, _ => hr.elim
  | _ :: _, [], _, _, _, _, _, _, hr, _, _, _, _, _ => hr.elim

/-- one item, with a key -/
theorem sort_oneK {v : Value} {a : Addr} {f : Value} {P : PySem.Fin → Shared → Prop} (F : Fr h₀ L s.heap m) (N : News h₀ L s.heap ((a, seqObj "list" [v].toArray 0) :: news)) (hna : ∀ p ∈ news, p.1 ≠ a) {k : Int × Int}
    (turn : ∀ own h tk, Fr h₀ L h m → News h₀ L h (own ++ news) → wpAny (model prog w) A (call f [v]) (KeyEnd h₀ L m (own ++ news) k { s with heap := h, toks := tk }) (fun _ _ => False) { s with heap := h, toks := tk })
    (h : ∀ h' tk' c, Fr h₀ L h' m → News h₀ L h' ((a, seqObj "list" [v].toArray c) :: news) → P (.done (.ret .none)) { s with heap := h', toks := tk' }) :
    wpAny (model prog w) A (ksk_tree a f false) P E s := by
  have na := N _ (.head _)
  have ho : s.heap.get? a = some (seqObj "list" [v].toArray 0) := na.1
  have ha : a < s.heap.objs.size := Heap.lt_size ho
  have s1 := Heap.SameBut.update s.heap a (Obj.mapSeq fun _ => (#[] : Array Value))
  obtain ⟨e1, ho1⟩ : ∃ e1, (s.heap.update a (Obj.mapSeq fun _ => (#[] : Array Value))).get? a = some (seqObj "list" #[] e1) := ⟨_, get?_update_seq ho fun _ => #[]⟩
  have F1 := kas_fr F s1 na.2.1 na.2.2
  have N1 := kas_news (fun p hp => N p (.tail _ hp)) s1 hna
  have hz : ((s.heap.update a (Obj.mapSeq fun _ => (#[] : Array Value))).push (seqObj "tuple" [v].toArray 0)).objs.size = s.heap.objs.size + 1 := by rw [size_push', Heap.size_update]
  have lL : L < s.heap.objs.size := F.ns.lt
  unfold ksk_tree
  refine wpAny_bind (listItems_at ho rfl ?_)
  refine wpAny_bind (listUpdate_at ho rfl ?_ (by rw [sizeLine_eq]; simp) (Nat.zero_le _))
  refine wpAny_bind (seqEpoch_at ho1 rfl ?_)
  refine wpAny_bind (wpAny_newTuple ?_ (by rw [sizeLine_eq]; simp))
  refine wpAny_bind (wpAny_newList ?_ (Nat.zero_le _))
  refine wpAny_holding ?_
  dsimp only
  have hkS : (((s.heap.update a (Obj.mapSeq fun _ => (#[] : Array Value))).push (seqObj "tuple" [v].toArray 0)).push (seqObj "list" #[] 0)).get? (s.heap.objs.size + 1) = some (seqObj "list" #[] 0) := by
    rw [← hz]; exact Heap.get?_push_size _ rfl
  have F2 : Fr h₀ L (((s.heap.update a (Obj.mapSeq fun _ => (#[] : Array Value))).push (seqObj "tuple" [v].toArray 0)).push (seqObj "list" #[] 0)) m := (F1.push _).push _
  have N2 : News h₀ L (((s.heap.update a (Obj.mapSeq fun _ => (#[] : Array Value))).push (seqObj "tuple" [v].toArray 0)).push (seqObj "list" #[] 0)) ([(s.heap.objs.size + 1, seqObj "list" #[] 0), (a, seqObj "list" #[] e1)] ++ news) := by
    intro p hp
    rcases List.mem_cons.mp hp with rfl | hp
    · exact ⟨hkS, Nat.ne_of_gt (Nat.lt_succ_of_lt lL), Heap.get?_none_of_le (Nat.le_trans F.above (Nat.le_succ_of_le (Nat.le_of_lt lL)))⟩
    rcases List.mem_cons.mp hp with rfl | hp
    · exact ⟨Heap.get?_push_of_some _ (Heap.get?_push_of_some _ ho1), na.2⟩
    · exact N1.grown (fun b o e => Heap.get?_push_of_some _ (Heap.get?_push_of_some _ e)) p hp
  have hka : s.heap.objs.size + 1 ≠ a := Nat.ne_of_gt (Nat.lt_succ_of_lt ha)
  have hkn : ∀ p ∈ news, p.1 ≠ s.heap.objs.size + 1 := fun p hp => Nat.ne_of_lt (Nat.lt_succ_of_lt (Heap.lt_size (N p (.tail _ hp)).1))
  rw [hz]
  unfold ksk_rest
  refine wpAny_bind (wpAny_rule ?_)
  rw [List.forIn_toArray, List.forIn_cons]
  refine wpAny_bind (wpAny_bind (wpAny_bind (wpAny_attempt (wpAny_mono (turn _ _ s.toks F2 N2) (fun kv s' hk => ?_) fun _ _ hF => hF.elim))))
  obtain ⟨h3, tk3, b, tb1, tb2, rfl, rfl, F3, N3, hb⟩ := hk
  dsimp only
  have nk := N3 (s.heap.objs.size + 1, seqObj "list" #[] 0) (.tail _ (.head _))
  have na3 := N3 (a, seqObj "list" #[] e1) (.tail _ (.tail _ (.head _)))
  have Nn : News h₀ L h3 news := fun p hp => N3 p (.tail _ (.tail _ (.tail _ hp)))
  have s2 := Heap.SameBut.update h3 (s.heap.objs.size + 1) (Obj.mapSeq (·.push (.ref b)))
  obtain ⟨c2, hc2⟩ : ∃ c2, (h3.update (s.heap.objs.size + 1) (Obj.mapSeq (·.push (.ref b)))).get? (s.heap.objs.size + 1) = some (seqObj "list" #[.ref b] c2) := ⟨_, get?_update_seq nk.1 (·.push (.ref b))⟩
  refine wpAny_bind (listUpdate_at nk.1 rfl ?_ (Nat.zero_le _) (by rw [sizeLine_eq]; simp))
  refine wpAny_pure ?_
  dsimp only
  rw [List.forIn_nil]
  refine wpAny_pure ?_
  refine wpAny_bind (listItems_at hc2 rfl ?_)
  have ha4 : (h3.update (s.heap.objs.size + 1) (Obj.mapSeq (·.push (.ref b)))).get? a = some (seqObj "list" #[] e1) := (s2.2 a hka.symm).trans na3.1
  have F4 := kas_fr F3 s2 nk.2.1 nk.2.2
  have N4 := kas_news Nn s2 hkn
  unfold ksk_end
  dsimp only
  have h1 : [v].toArray.size < 2 := by simp
  rw [if_neg (by simp), if_pos h1, if_pos h1]
  refine wpAny_bind (wpAny_pure ?_)
  rw [StateT.run_pure]
  refine wpAny_bind (wpAny_pure ?_)
  dsimp only
  have eX : Array.map (fun x : Keyed => x.snd) (arrOf (SortSt.mk' general' (if false = true then ((#[.ref b] : Array Value).zip [v].toArray).reverse else (#[.ref b] : Array Value).zip [v].toArray) #[] 7 none)) = [v].toArray := by
    show Array.map (fun x : Keyed => x.snd) ((#[.ref b] : Array Value).zip [v].toArray) = [v].toArray
    apply Array.toList_inj.mp
    rw [Array.toList_map, ksk_zip]
    rfl
  unfold ksk_tail
  dsimp only
  rw [eX]
  have s3 := Heap.SameBut.update (h3.update (s.heap.objs.size + 1) (Obj.mapSeq (·.push (.ref b)))) (s.heap.objs.size + 1) (Obj.mapSeq fun _ => (#[] : Array Value))
  have ha5 := (s3.2 a hka.symm).trans ha4
  have F5 := kas_fr F4 s3 nk.2.1 nk.2.2
  have N5 := kas_news N4 s3 hkn
  have s4 := Heap.SameBut.update ((h3.update (s.heap.objs.size + 1) (Obj.mapSeq (·.push (.ref b)))).update (s.heap.objs.size + 1) (Obj.mapSeq fun _ => (#[] : Array Value))) a (Obj.mapSeq fun _ => [v].toArray)
  obtain ⟨c4, hc4⟩ : ∃ c4, (((h3.update (s.heap.objs.size + 1) (Obj.mapSeq (·.push (.ref b)))).update (s.heap.objs.size + 1) (Obj.mapSeq fun _ => (#[] : Array Value))).update a (Obj.mapSeq fun _ => [v].toArray)).get? a = some (seqObj "list" [v].toArray c4) := ⟨_, get?_update_seq ha5 fun _ => [v].toArray⟩
  refine wpAny_bind (listUpdate_at hc2 rfl ?_ (by rw [sizeLine_eq]; simp) (Nat.zero_le _))
  refine wpAny_bind (wpAny_letGo ?_)
  refine wpAny_bind (seqEpoch_at ha5 rfl ?_)
  refine wpAny_bind (listUpdate_at ha5 rfl ?_ (Nat.zero_le _) (by rw [sizeLine_eq]; simp))
  simp only [bne_self_eq_false, Bool.false_eq_true, if_false]
  refine wpAny_pure (h _ _ c4 (kas_fr F5 s4 na.2.1 na.2.2) ?_)
  intro p hp
  rcases List.mem_cons.mp hp with rfl | hp
  · exact ⟨hc4, na.2⟩
  · exact kas_news N5 s4 hna p hp
end
end Mine
end

section
open PySem PySem.W PyProof.Rows PySem.Calls
set_option maxRecDepth 100000
set_option linter.unusedVariables false
namespace Mine
section
variable {prog : Program} {w : World} {A : Around} {E : Value → Shared → Prop} {s : Shared} {h₀ : Heap} {L l : Addr} {m : Str → Option Value} {news : List (Addr × Obj)} {vs : List Value} {qs : List (Int × Int)} {Q : Value → Shared → Prop}
theorem sortedK {R : Value → Int × Int → Prop} {q : Addr} (F : Fr h₀ L s.heap m) (N : News h₀ L s.heap news) (hl : s.heap.IsList l vs.toArray) (h1 : 1 ≤ qs.length) (h64 : qs.length < 64) (hv : All2 R vs qs) (hb : ∀ q ∈ qs, Bd q)
    (turn : ∀ v k, R v k → ∀ own h tk, Fr h₀ L h m → News h₀ L h (own ++ news) → wpAny (model prog w) A.in1.in1 (call (.ref q) [v]) (KeyEnd h₀ L m (own ++ news) (kf k) { s with heap := h, toks := tk }) (fun _ _ => False) { s with heap := h, toks := tk })
    (h : ∀ D c h' tk' out qs', Fr h₀ L h' m → News h₀ L h' ((D, seqObj "list" (List.toArray out) c) :: news) → (∀ q ∈ news, q.1 < D) → All2 R out qs' → qs'.Perm qs → (qs'.Pairwise fun x y => kq x ≤ kq y) → Q (.ref D) { s with heap := h', toks := tk' }) :
    wpAny (model prog w) A (call (.builtin "sorted") [.ref l] [(Str.ofString "key", .ref q)]) Q E s := by
  have hlen := hv.length
  by_cases h2 : 2 ≤ vs.length
  · refine kat_sortedK (b := false) (f := .ref q) F N hl h2 (by omega) (ksk_s1 _ _) (fun x => ksk_l1 _ _) (fun x => ksk_t1 _ _) fun D kS e1 h' F' N' l0 l1 => ?_
    have hDk : D ≠ kS := Nat.ne_of_lt l0
    have hnn : ∀ p ∈ news, p.1 ≠ kS ∧ p.1 ≠ D := fun p hp => ⟨Nat.ne_of_lt (Nat.lt_trans (l1 p hp) l0), Nat.ne_of_lt (l1 p hp)⟩
    refine katKeys_of (s := s) (R := R) (news := news) turn hDk hnn vs qs [] [] 0 [] h' s.toks hv trivial (fun _ hp => nomatch hp) F' N' fun ks e nw h3 tk3 F3 N3 hnw hk => ?_
    rw [List.nil_append] at hk
    have klen := hk.length
    have Nn : News h₀ L h3 nw := fun p hp => N3 p (.tail _ (.tail _ (List.mem_append_left _ hp)))
    obtain ⟨fs, t1, t2, t3⟩ := pairs_tups Nn hk
    refine kat_kind (s := { s with heap := h3, toks := tk3 }) t1 (by omega) (int_looks t3) (by rfl) ?_
    rw [show (Value.type "int" != Value.type "tuple") = true from rfl, hlen]
    refine kasWp_ok (K := fun i => kq (qs.getD i (0, 0))) (N := qs.length) (fun i j C hi hj hc => ?_) _ (ok_sort h1 fun p hp hs => ?_)
    · unfold kas_ask
      obtain ⟨a, ta, tb, ea, ha⟩ := hk.mem_get hi Value.none (0, 0)
      obtain ⟨b, td, te, eb, hbm⟩ := hk.mem_get hj Value.none (0, 0)
      show wpAny _ _ (keyLt' _ (ks.getD i _) (ks.getD j _)) _ _ _
      rw [ea, eb]
      refine lt_pair Nn ha hbm ?_
      have bi : Bd (qs.getD i (0, 0)) := hb _ (getD_mem hi _)
      have bj : Bd (qs.getD j (0, 0)) := hb _ (getD_mem hj _)
      have e0 := lex_kq bi bj
      show C (decide ((kf _).1 < (kf _).1 ∨ ((kf _).1 = (kf _).1 ∧ (kf _).2 < (kf _).2))) _
      unfold kf
      dsimp only
      rw [decide_eq_decide.mpr e0]; exact hc
    · obtain ⟨o1, o2, o3⟩ := sort_out hv hp hs
      refine KatFin.intro F3 N3 (UpdF.head fun p hp => ?_) fun h4 c F4 N4 => ?_
      · rcases List.mem_cons.mp hp with rfl | hp
        · exact hDk
        · rcases List.mem_append.mp hp with hp | hp
          · exact (hnw p hp).1
          · exact (hnn p hp).1
      · have N5 : News h₀ L h4 ((D, seqObj "list" #[] e1) :: news) := by
          intro p hp
          rcases List.mem_cons.mp hp with rfl | hp
          · exact N4 _ (.tail _ (.head _))
          · exact N4 p (.tail _ (.tail _ (List.mem_append_right _ hp)))
        refine KasFin.intro F4 N5 (UpdF.head fun p hp => (hnn p hp).2) fun h5 c5 F5 N6 => ?_
        exact h D c5 h5 tk3 _ _ F5 N6 l1 o1 o2 o3
  · obtain ⟨k, rfl⟩ := len_one h1 (by omega)
    obtain ⟨v, rfl⟩ := len_one (l := vs) (by omega) h2
    refine sorted_wrap F N hl (by simp) (ksk_s1 _ _) (fun x => ksk_l1 _ _) fun D h' F' N' l1 => ?_
    rw [ksk_t1]
    refine sort_oneK (s := { s with heap := h' }) (k := kf k) F' N' (fun p hp => Nat.ne_of_lt (l1 p hp)) (fun own h3 tk3 F3 N3 => turn v k hv.1 own h3 tk3 F3 N3) fun h2 tk c F2 N2 => ⟨rfl, ?_⟩
    exact h D c h2 tk [v] [k] F2 N2 l1 hv (List.Perm.refl _) (by simp)
end
end Mine
end

section
open PySem PySem.W PyProof.Rows
set_option maxRecDepth 100000
set_option linter.unusedVariables false
set_option linter.unusedSimpArgs false
set_option rowWalk.seconds 0
namespace Mine
local macro_rules | `(tactic| k_room) => `(tactic| ktr_room)
local macro_rules | `(tactic| k_units) => `(tactic| ktr_units)
local macro_rules | `(tactic| k_all) => `(tactic| (first | with_reducible assumption | (refine' ne_all ?nh ?nx; (case nh => assumption); (case nx => omega)) | fail "ne_all"))
local macro_rules | `(tactic| k_updF) => `(tactic| first | (refine' Del.head ?a; (case a => k_all)) | (refine' Del.tail ?a ?b; (case a => k_ne); (case b => k_updF)))
local macro_rules | `(tactic| k_updF) => `(tactic| first | exact Pre.nil | (refine' Pre.cons ?a ?b; (case a => (refine leN ?_; (try dsimp only); omega)); (case b => k_updF)))
local macro_rules | `(tactic| k_mem) => `(tactic| first | with_reducible assumption | exact List.mem_cons_self | (refine' List.mem_cons_of_mem _ ?_; k_mem))
local macro_rules | `(tactic| walk_at "UnrEnd") => `(tactic| (refine' unrEnd_del ?uF ?uN ?uD ?_; (case uF => k_asm); (case uN => k_asm); (case uD => k_updF)))
local macro_rules | `(tactic| tb_rel) => `(tactic| first | (refine List.forall_mem_cons.mpr ⟨?ha, ?hb⟩; (case ha => (first | (refine ltN ?_; (try dsimp only); omega) | (refine leN ?_; (try dsimp only); omega) | (refine And.intro (neN ?_) (neN ?_) <;> ((try dsimp only); omega)))); (case hb => tb_rel)) | assumption | exact List.forall_mem_nil _)
local macro_rules | `(tactic| walk_at "binaryOp Add ref ref") => `(tactic| (k_here; (with_reducible show wpAny _ _ (binaryOp _ (Value.ref _) (Value.ref _)) _ _ _); k_dflt (refine' add_mine ?F ?N ?a ?b ?z ?_; (case F => k_asm); (case N => k_asm); (case a => k_mem); (case b => k_mem); (case z => (simp only [List.size_toArray, List.length_append, List.length_drop, List.length_take]; omega))); intro D' h' F' N' l1; (try k_lt l1); (try k_sweep)))
local macro_rules | `(tactic| walk_at "call builtin:len") => `(tactic| (k_here; (with_reducible show wpAny _ _ (call (Value.builtin _) [Value.ref _]) _ _ _); k_dflt (refine' len_mine ?N ?a ?z ?_; (case N => k_asm); (case a => k_mem); (case z => (simp only [List.size_toArray]; omega)))))
local macro_rules | `(tactic| walk_at "subscriptTail Name Slice ref ref") => `(tactic| (k_here; (with_reducible show wpAny _ _ (subscriptTail _ (PySem.Expr.Slice _ _ none _) (Value.ref _) (Value.ref _)) _ _ _); k_dflt (first
  | (refine' slice_from_mine ?F ?N ?a ?k ?z ?_ ?s ?t; (case F => k_asm); (case N => k_asm); (case a => k_mem); (case k => assumption); (case z => (simp only [List.size_toArray]; omega)); (case s => with_unfolding_all rfl); (case t => (intro r; with_unfolding_all rfl)))
  | (refine' slice_upto_mine ?F ?N ?a ?k ?z ?_ ?s ?t; (case F => k_asm); (case N => k_asm); (case a => k_mem); (case k => assumption); (case z => (simp only [List.size_toArray]; omega)); (case s => with_unfolding_all rfl); (case t => (intro r; with_unfolding_all rfl)))); intro D' h' F' N' l1; (try k_lt l1); (try k_sweep)))

local macro_rules | `(tactic| walk_at "call builtin:sorted") => `(tactic| (k_here; k_dflt (refine hold_of ?_)))
theorem allLt_out {d : Addr} {l : List (Addr × Obj)} (h : AllLt d l) : ∀ p ∈ l, @LT.lt Nat _ p.1 d := by
  induction l with
  | nil => intro p hp; cases hp
  | cons q r ih =>
    have h' : @LT.lt Nat _ q.1 d ∧ AllLt d r := h
    intro p hp
    rcases List.mem_cons.mp hp with rfl | hp
    · exact h'.1
    · exact ih h'.2 p hp
theorem qual_of {h₀ h : Heap} {L f c : Addr} {n q : Str} {params : Arguments} {b : List Stmt} {sc : Scope} {cl : List (Str × Addr)} {doc pm ct : Value} {Z : List (Addr × Obj)} {vs : Array Value} {t : Tok} {k : Str} (N : News h₀ L h ((f, fnMade n q params b sc cl doc pm c ct) :: Z)) (hv : vs[1]? = some (.str k t)) (e : k = q) : vs[1]? = some (.str q t) := e ▸ hv
def keyQual : Str := Str.ofString "Token.sort.<locals>.key"
def TabOk (ps : Array Value) (rs : List (Addr × Obj)) : Prop :=
  ps = #[] ∨ ∃ c' oc vs t, ps = #[rawInt ((60 : Nat) : Int), rawInt ((8 : Nat) : Int), .ref c'] ∧ (c', oc) ∈ rs ∧ oc.data = .fields vs ∧ vs[1]? = some (.str keyQual t)
theorem TabOk.mono {ps : Array Value} {rs rs' : List (Addr × Obj)} (h : TabOk ps rs) (hs : ∀ p ∈ rs, p ∈ rs') : TabOk ps rs' := by
  rcases h with h | ⟨c', oc, vs, t, a, b, c, d⟩
  · exact .inl h
  · exact .inr ⟨c', oc, vs, t, a, hs _ b, c, d⟩
/-- what Token.sort gives back: the sorted ones in a new list; the table of the key's code filled -/
def SortPost (rs : List (Addr × Obj)) (qs : List (Int × Int)) (r : Value) (news' : List (Addr × Obj)) : Prop :=
  ∃ d D c out qs' ps' nw, r = .ref D ∧ news' = (86, tabObj ps') :: (D, listOf (List.toArray out) c) :: (nw ++ rs) ∧ (∀ p ∈ rs, p.1 < d) ∧ @LT.lt Nat _ 86 d ∧ (∀ q ∈ (D, listOf (List.toArray out) c) :: nw, @LE.le Nat _ d q.1) ∧ (∀ q ∈ nw, q.1 ≠ D) ∧ TabOk ps' (nw ++ rs) ∧ All2 (TokAt rs) out qs' ∧ qs'.Perm qs ∧ qs'.Pairwise fun x y => kq x ≤ kq y
theorem sortPost_miss {h₀ h : Heap} {L D c' f' : Addr} {out : List Value} {c : Nat} {Z rs : List (Addr × Obj)} {fo oc' : Obj} {vs : Array Value} {t : Tok} {qs qs' : List (Int × Int)} (kN : News h₀ L h ((D, seqObj "list" (List.toArray out) c) :: Z))
    (q1 : (f', fo) ∈ Z) (q2 : (c', oc') ∈ Z) (q3 : (86, tabObj (#[] ++ #[rawInt ((60 : Nat) : Int), rawInt ((8 : Nat) : Int), .ref c'])) ∈ Z) (q4 : ∀ q ∈ rs, q ∈ Z) (hrc : ∀ p ∈ rs, p.1 < c') (hlf : @LT.lt Nat _ 86 c') (l2 : @LT.lt Nat _ c' f') (dD : @LT.lt Nat _ f' D)
    (hdat : oc'.data = .fields vs) (hvs : vs[1]? = some (.str keyQual t)) (ho : All2 (TokAt rs) out qs') (hp : qs'.Perm qs) (hs : qs'.Pairwise fun x y => kq x ≤ kq y) : ∃ news', News h₀ L h news' ∧ SortPost rs qs (.ref D) news' := by
  refine ⟨(86, tabObj (#[] ++ #[rawInt ((60 : Nat) : Int), rawInt ((8 : Nat) : Int), .ref c'])) :: (D, listOf (List.toArray out) c) :: ([(f', fo), (c', oc')] ++ rs), newsSub kN ?_, c', D, c, out, qs', _, [(f', fo), (c', oc')], rfl, rfl, hrc, hlf, ?_, ?_, .inr ⟨c', oc', vs, t, ?_, .tail _ (.head _), hdat, hvs⟩, ho, hp, hs⟩
  · intro q hq
    rcases List.mem_cons.mp hq with rfl | hq
    · exact .tail _ q3
    rcases List.mem_cons.mp hq with rfl | hq
    · exact .head _
    rcases List.mem_cons.mp hq with rfl | hq
    · exact .tail _ q1
    rcases List.mem_cons.mp hq with rfl | hq
    · exact .tail _ q2
    · exact .tail _ (q4 q hq)
  · intro q hq
    rcases List.mem_cons.mp hq with rfl | hq
    · exact Nat.le_of_lt (Nat.lt_trans l2 dD)
    rcases List.mem_cons.mp hq with rfl | hq
    · exact Nat.le_of_lt l2
    rw [List.mem_singleton.mp hq]
    exact Nat.le_refl _
  · intro q hq
    rcases List.mem_cons.mp hq with rfl | hq
    · exact Nat.ne_of_lt dD
    rw [List.mem_singleton.mp hq]
    exact Nat.ne_of_lt (Nat.lt_trans l2 dD)
  · rfl
theorem sortPost_hit {h₀ h : Heap} {L D f' : Addr} {out : List Value} {c : Nat} {Z rs : List (Addr × Obj)} {fo : Obj} {ps : Array Value} {qs qs' : List (Int × Int)} (kN : News h₀ L h ((D, seqObj "list" (List.toArray out) c) :: Z))
    (q1 : (f', fo) ∈ Z) (q3 : (86, tabObj ps) ∈ Z) (q4 : ∀ q ∈ rs, q ∈ Z) (hrc : ∀ p ∈ rs, p.1 < f') (hlf : @LT.lt Nat _ 86 f') (dD : @LT.lt Nat _ f' D) (hT : TabOk ps rs)
    (ho : All2 (TokAt rs) out qs') (hp : qs'.Perm qs) (hs : qs'.Pairwise fun x y => kq x ≤ kq y) : ∃ news', News h₀ L h news' ∧ SortPost rs qs (.ref D) news' := by
  refine ⟨(86, tabObj ps) :: (D, listOf (List.toArray out) c) :: ([(f', fo)] ++ rs), newsSub kN ?_, f', D, c, out, qs', _, [(f', fo)], rfl, rfl, hrc, hlf, ?_, ?_, hT.mono fun _ h => .tail _ h, ho, hp, hs⟩
  · intro q hq
    rcases List.mem_cons.mp hq with rfl | hq
    · exact .tail _ q3
    rcases List.mem_cons.mp hq with rfl | hq
    · exact .head _
    rcases List.mem_cons.mp hq with rfl | hq
    · exact .tail _ q1
    · exact .tail _ (q4 q hq)
  · intro q hq
    rcases List.mem_cons.mp hq with rfl | hq
    · exact Nat.le_of_lt dD
    rw [List.mem_singleton.mp hq]
    exact Nat.le_refl _
  · intro q hq
    rw [List.mem_singleton.mp hq]
    exact Nat.ne_of_lt dD

set_option maxHeartbeats 4000000 in
theorem sort_c0 (w : World) (p loose mean mg mb) (dp un : Nat) (gd : Option (List Code)) (cn : Str) (cs : Scope) (a : Addr) (ccd : Value) (cl : List (Str × Addr)) (outer : List Env) (A₀ : Around) (base h₀ : Heap) (L : Addr) (m : Str → Option Value) (s : Shared) (R : Result → Shared → Prop)
    (B : Below A₀ base outer h₀) (F : Fr h₀ L s.heap m) (X : (Mine.hd.heap_39 w.params).In h₀) (T : Top p loose mean mg mb h₀) (hk : cs.kind = .function) (hd : dp + 20 < recursionLimit) (hu : un + 200 < cLine) (C : CodeHd base 90 86)
    (ps : Array Value) (rs : List (Addr × Obj)) (N : News h₀ L s.heap ((86, tabObj ps) :: rs)) (hr : ∀ p ∈ rs, p.1 ≠ 86) (l : Addr) (vt : List Value) (nt : Nat) (qs : List (Int × Int)) (hl : (l, listOf vt.toArray nt) ∈ rs) (ht : All2 (TokAt rs) vt qs) (h1 : 1 ≤ qs.length) (h64 : qs.length < 64) (hb : ∀ q ∈ qs, Bd q)
    (hps : ps = #[])
    (hret : ∀ r h' tk' news', Fr h₀ L h' m → News h₀ L h' news' → SortPost rs qs r news' → R (.ok (.ret r)) { s with heap := h', toks := tk' }) :
    codeAny (model PySem.Challenge.rw_ew0012_01.row.prog w) (ktrTop dp un gd cn cs L a ccd cl outer) (.call (.ref 91) ⟨[.ref 126, .ref l], []⟩) R s := by
  k_with_none
  w_top off
  revert X; k_fill; intro X
  subst hps
  k_dflt cell_enter
  k_steps
  refine Hold.out ?_
  with_unfolding_all show wpAny _ _ (call (Value.builtin "sorted") [Value.ref l] [(PySem.Str.ofString "key", Value.ref _)]) _ _ _
  rename_i f' c' oc' vs' t' ct' dc' h8 tk9 hdat hvs9 l1 l2 h9 F9 N9
  replace l2 : @LT.lt Nat _ c' f' := l2
  have hlf : @LT.lt Nat _ 86 c' := l1.1
  have hrc : ∀ q ∈ rs, @LT.lt Nat _ q.1 c' := allLt_out l1.2
  obtain ⟨Z, NZ, hm, hm'⟩ := nameLedger N9
  have q1 := hm _ (.head _)
  have q2 := hm _ (.tail _ (.head _))
  have q3 := hm _ (.tail _ (.tail _ (.head _)))
  have q4 : ∀ q ∈ rs, q ∈ Z := fun q hq => hm q (.tail _ (.tail _ (.tail _ hq)))
  refine sortedK (R := fun v q => TokAt rs v q ∧ Bd q) F9 NZ (NZ.isList (q4 _ hl)) h1 h64 (ht.and_mem hb) hb ?_ ?_
  · clear hm hm' N9 NZ hret F9
    intro v k hv own h tk F8 N8
    obtain ⟨⟨x, dx, ta, tb, tc, rfl, hx, hdx⟩, hk0, hk1, hk2⟩ := hv
    have x1 := List.mem_append_right own q1
    have x2 := List.mem_append_right own q2
    have x3 := List.mem_append_right own (q4 _ hx)
    have x4 := List.mem_append_right own (q4 _ hdx)
    generalize own ++ Z = z at *
    k_steps
    (rename News _ _ _ _ => N6)
    (rename (∀ p : Addr × Obj, p ∈ _ → @LT.lt Nat _ p.1 _) => hlo)
    exact ⟨_, _, _, _, _, rfl, rfl, by assumption, N6, fun q hq => Nat.ne_of_lt (hlo q hq)⟩
  · intro D c h8 tk8 out qs' F8 N8 hD ho hp hs
    k_steps
    (rename News h₀ _ _ _ => kN)
    have hvs8 : vs'[1]? = some (Value.str keyQual t') := by rw [hvs9]; rfl
    have dD : @LT.lt Nat _ f' D := hD _ q1
    obtain ⟨nN, kN2, hpost⟩ := sortPost_miss kN q1 q2 q3 q4 hrc hlf l2 dD hdat hvs8 (ho.mono fun _ _ x => x.1) hp hs
    exact hret _ _ _ _ (by assumption) kN2 hpost
set_option maxHeartbeats 4000000 in
theorem sort_c1 (w : World) (p loose mean mg mb) (dp un : Nat) (gd : Option (List Code)) (cn : Str) (cs : Scope) (a : Addr) (ccd : Value) (cl : List (Str × Addr)) (outer : List Env) (A₀ : Around) (base h₀ : Heap) (L : Addr) (m : Str → Option Value) (s : Shared) (R : Result → Shared → Prop)
    (B : Below A₀ base outer h₀) (F : Fr h₀ L s.heap m) (X : (Mine.hd.heap_39 w.params).In h₀) (T : Top p loose mean mg mb h₀) (hk : cs.kind = .function) (hd : dp + 20 < recursionLimit) (hu : un + 200 < cLine) (C : CodeHd base 90 86)
    (ps : Array Value) (rs : List (Addr × Obj)) (N : News h₀ L s.heap ((86, tabObj ps) :: rs)) (hr : ∀ p ∈ rs, p.1 ≠ 86) (l : Addr) (vt : List Value) (nt : Nat) (qs : List (Int × Int)) (hl : (l, listOf vt.toArray nt) ∈ rs) (ht : All2 (TokAt rs) vt qs) (h1 : 1 ≤ qs.length) (h64 : qs.length < 64) (hb : ∀ q ∈ qs, Bd q)
    (c' : Addr) (oc' : Obj) (vs' : Array Value) (t' : Tok) (hps : ps = #[rawInt ((60 : Nat) : Int), rawInt ((8 : Nat) : Int), .ref c']) (hc : (c', oc') ∈ rs) (hdat : oc'.data = .fields vs') (hvs : vs'[1]? = some (.str keyQual t'))
    (hret : ∀ r h' tk' news', Fr h₀ L h' m → News h₀ L h' news' → SortPost rs qs r news' → R (.ok (.ret r)) { s with heap := h', toks := tk' }) :
    codeAny (model PySem.Challenge.rw_ew0012_01.row.prog w) (ktrTop dp un gd cn cs L a ccd cl outer) (.call (.ref 91) ⟨[.ref 126, .ref l], []⟩) R s := by
  k_with_none
  w_top off
  revert X; k_fill; intro X
  subst hps
  k_dflt cell_enter
  k_steps
  refine Hold.out ?_
  with_unfolding_all show wpAny _ _ (call (Value.builtin "sorted") [Value.ref l] [(PySem.Str.ofString "key", Value.ref _)]) _ _ _
  rename_i f' ct' dc' h8 tk9 l1 h9 F9 N9
  have hlf : @LT.lt Nat _ 86 f' := l1.1
  have hrc : ∀ q ∈ rs, @LT.lt Nat _ q.1 f' := allLt_out l1.2
  obtain ⟨Z, NZ, hm, hm'⟩ := nameLedger N9
  have q1 := hm _ (.head _)
  have q3 := hm _ (.tail _ (.head _))
  have q4 : ∀ q ∈ rs, q ∈ Z := fun q hq => hm q (.tail _ (.tail _ hq))
  have hvs1 := qual_of N9 hvs rfl
  refine sortedK (R := fun v q => TokAt rs v q ∧ Bd q) F9 NZ (NZ.isList (q4 _ hl)) h1 h64 (ht.and_mem hb) hb ?_ ?_
  · clear hm hm' N9 NZ hret F9
    intro v k hv own h tk F8 N8
    obtain ⟨⟨x, dx, ta, tb, tc, rfl, hx, hdx⟩, hk0, hk1, hk2⟩ := hv
    have x1 := List.mem_append_right own q1
    have x2 := List.mem_append_right own (q4 _ hc)
    have x3 := List.mem_append_right own (q4 _ hx)
    have x4 := List.mem_append_right own (q4 _ hdx)
    generalize own ++ Z = z at *
    k_steps
    (rename News _ _ _ _ => N6)
    (rename (∀ p : Addr × Obj, p ∈ _ → @LT.lt Nat _ p.1 _) => hlo)
    exact ⟨_, _, _, _, _, rfl, rfl, by assumption, N6, fun q hq => Nat.ne_of_lt (hlo q hq)⟩
  · intro D c h8 tk8 out qs' F8 N8 hD ho hp hs
    k_steps
    (rename News h₀ _ _ _ => kN)
    have dD : @LT.lt Nat _ f' D := hD _ q1
    obtain ⟨nN, kN2, hpost⟩ := sortPost_hit kN q1 q3 q4 hrc hlf dD (.inr ⟨c', oc', vs', t', rfl, hc, hdat, hvs⟩) (ho.mono fun _ _ x => x.1) hp hs
    exact hret _ _ _ _ (by assumption) kN2 hpost
theorem sort_c (w : World) (p loose mean mg mb) (dp un : Nat) (gd : Option (List Code)) (cn : Str) (cs : Scope) (a : Addr) (ccd : Value) (cl : List (Str × Addr)) (outer : List Env) (A₀ : Around) (base h₀ : Heap) (L : Addr) (m : Str → Option Value) (s : Shared) (R : Result → Shared → Prop)
    (B : Below A₀ base outer h₀) (F : Fr h₀ L s.heap m) (X : (Mine.hd.heap_39 w.params).In h₀) (T : Top p loose mean mg mb h₀) (hk : cs.kind = .function) (hd : dp + 20 < recursionLimit) (hu : un + 200 < cLine) (C : CodeHd base 90 86)
    (ps : Array Value) (rs : List (Addr × Obj)) (N : News h₀ L s.heap ((86, tabObj ps) :: rs)) (hr : ∀ p ∈ rs, p.1 ≠ 86) (l : Addr) (vt : List Value) (nt : Nat) (qs : List (Int × Int)) (hl : (l, listOf vt.toArray nt) ∈ rs) (ht : All2 (TokAt rs) vt qs) (h1 : 1 ≤ qs.length) (h64 : qs.length < 64) (hb : ∀ q ∈ qs, Bd q)
    (hT : TabOk ps rs)
    (hret : ∀ r h' tk' news', Fr h₀ L h' m → News h₀ L h' news' → SortPost rs qs r news' → R (.ok (.ret r)) { s with heap := h', toks := tk' }) :
    codeAny (model PySem.Challenge.rw_ew0012_01.row.prog w) (ktrTop dp un gd cn cs L a ccd cl outer) (.call (.ref 91) ⟨[.ref 126, .ref l], []⟩) R s := by
  rcases hT with hT | ⟨c', oc, vs, t, e1, e2, e3, e4⟩
  · exact sort_c0 w p loose mean mg mb dp un gd cn cs a ccd cl outer A₀ base h₀ L m s R B F X T hk hd hu C ps rs N hr l vt nt qs hl ht h1 h64 hb hT hret
  · exact sort_c1 w p loose mean mg mb dp un gd cn cs a ccd cl outer A₀ base h₀ L m s R B F X T hk hd hu C ps rs N hr l vt nt qs hl ht h1 h64 hb c' oc vs t e1 e2 e3 e4 hret
end Mine
end

section
open PySem PySem.W PyProof.Rows
set_option maxRecDepth 100000
set_option linter.unusedVariables false
set_option linter.unusedSimpArgs false
set_option rowWalk.seconds 0
namespace Mine
local macro_rules | `(tactic| walk_at "none such") => `(tactic| fail "none such")
local macro_rules | `(tactic| walk_at "none such") => `(tactic| fail "none such")
local macro_rules | `(tactic| walk_at "none such") => `(tactic| fail "none such")
local macro_rules | `(tactic| walk_at "none such") => `(tactic| fail "none such")
local macro_rules | `(tactic| walk_at "none such") => `(tactic| fail "none such")
local macro_rules | `(tactic| walk_at "none such") => `(tactic| fail "none such")
local macro_rules | `(tactic| walk_at "none such") => `(tactic| fail "none such")
local macro_rules | `(tactic| walk_at "none such") => `(tactic| fail "none such")
local macro_rules | `(tactic| walk_at "none such") => `(tactic| fail "none such")
local macro_rules | `(tactic| walk_at "none such") => `(tactic| fail "none such")
local macro_rules | `(tactic| walk_at "none such") => `(tactic| fail "none such")
local macro_rules | `(tactic| walk_at "none such") => `(tactic| fail "none such")
local macro_rules | `(tactic| walk_at "none such") => `(tactic| fail "none such")
local macro_rules | `(tactic| walk_at "none such") => `(tactic| fail "none such")
local macro_rules | `(tactic| walk_at "none such") => `(tactic| fail "none such")
local macro_rules | `(tactic| walk_at "none such") => `(tactic| fail "none such")
local macro_rules | `(tactic| walk_at "none such") => `(tactic| fail "none such")
local macro_rules | `(tactic| walk_at "none such") => `(tactic| fail "none such")
local macro_rules | `(tactic| walk_at "none such") => `(tactic| fail "none such")
local macro_rules | `(tactic| walk_at "none such") => `(tactic| fail "none such")
local macro_rules | `(tactic| walk_at "none such") => `(tactic| fail "none such")
local macro_rules | `(tactic| walk_at "none such") => `(tactic| fail "none such")
local macro_rules | `(tactic| walk_at "none such") => `(tactic| fail "none such")
local macro_rules | `(tactic| walk_at "none such") => `(tactic| fail "none such")
local macro_rules | `(tactic| walk_at "none such") => `(tactic| fail "none such")
local macro_rules | `(tactic| k_room) => `(tactic| ktr_room)
local macro_rules | `(tactic| k_units) => `(tactic| ktr_units)
local macro_rules | `(tactic| k_all) => `(tactic| (first | with_reducible assumption | (refine' ne_all ?nh ?nx; (case nh => assumption); (case nx => omega)) | fail "ne_all"))
local macro_rules | `(tactic| k_updF) => `(tactic| first | (refine' Del.head ?a; (case a => k_all)) | (refine' Del.tail ?a ?b; (case a => k_ne); (case b => k_updF)))
local macro_rules | `(tactic| k_updF) => `(tactic| first | exact Pre.nil | (refine' Pre.cons ?a ?b; (case a => (refine leN ?_; (try dsimp only); omega)); (case b => k_updF)))
local macro_rules | `(tactic| k_mem) => `(tactic| first | with_reducible assumption | exact List.mem_cons_self | (refine' List.mem_cons_of_mem _ ?_; k_mem))
local macro_rules | `(tactic| walk_at "UnrEnd") => `(tactic| (refine' unrEnd_del ?uF ?uN ?uD ?_; (case uF => k_asm); (case uN => k_asm); (case uD => k_updF)))
local macro_rules | `(tactic| tb_rel) => `(tactic| first | (refine List.forall_mem_cons.mpr ⟨?ha, ?hb⟩; (case ha => (first | (refine ltN ?_; (try dsimp only); omega) | (refine leN ?_; (try dsimp only); omega) | (refine And.intro (neN ?_) (neN ?_) <;> ((try dsimp only); omega)))); (case hb => tb_rel)) | assumption | exact List.forall_mem_nil _)
local macro_rules | `(tactic| walk_at "binaryOp Add ref ref") => `(tactic| (k_here; (with_reducible show wpAny _ _ (binaryOp _ (Value.ref _) (Value.ref _)) _ _ _); k_dflt (refine' add_mine ?F ?N ?a ?b ?z ?_; (case F => k_asm); (case N => k_asm); (case a => k_mem); (case b => k_mem); (case z => (simp only [List.size_toArray, List.length_append, List.length_drop, List.length_take]; omega))); intro D' h' F' N' l1; (try k_lt l1); (try k_sweep)))
local macro_rules | `(tactic| walk_at "call builtin:len") => `(tactic| (k_here; (with_reducible show wpAny _ _ (call (Value.builtin _) [Value.ref _]) _ _ _); k_dflt (refine' len_mine ?N ?a ?z ?_; (case N => k_asm); (case a => k_mem); (case z => (simp only [List.size_toArray]; omega)))))
local macro_rules | `(tactic| walk_at "subscriptTail Name Slice ref ref") => `(tactic| (k_here; (with_reducible show wpAny _ _ (subscriptTail _ (PySem.Expr.Slice _ _ none _) (Value.ref _) (Value.ref _)) _ _ _); k_dflt (first
  | (refine' slice_from_mine ?F ?N ?a ?k ?z ?_ ?s ?t; (case F => k_asm); (case N => k_asm); (case a => k_mem); (case k => assumption); (case z => (simp only [List.size_toArray]; omega)); (case s => with_unfolding_all rfl); (case t => (intro r; with_unfolding_all rfl)))
  | (refine' slice_upto_mine ?F ?N ?a ?k ?z ?_ ?s ?t; (case F => k_asm); (case N => k_asm); (case a => k_mem); (case k => assumption); (case z => (simp only [List.size_toArray]; omega)); (case s => with_unfolding_all rfl); (case t => (intro r; with_unfolding_all rfl)))); intro D' h' F' N' l1; (try k_lt l1); (try k_sweep)))

def BIf (b : Bool) (T F : Prop) : Prop := if b = true then T else F
theorem BIf.out {b : Bool} {T F : Prop} (h1 : b = true → T) (h2 : b = false → F) : BIf b T F := by
  cases b with
  | true => exact h1 rfl
  | false => unfold BIf; rw [if_neg (by decide)]; exact h2 rfl
def WStep (h₀ : Heap) (L : Addr) (s : Shared) (J : Nat → (Str → Option Value) → List (Addr × Obj) → Prop) (Q : Flow → Shared → Prop) (n : Nat) (f : Flow) (s₃ : Shared) : Prop :=
  match f with
  | .next | .cont => ∃ h' tk m₂ news₂ n', s₃ = { s with heap := h', toks := tk } ∧ Fr h₀ L h' m₂ ∧ News h₀ L h' news₂ ∧ n' < n ∧ J n' m₂ news₂
  | .brk => Q .next s₃
  | .ret v => Q (.ret v) s₃
theorem WStep.next {h₀ h' : Heap} {L : Addr} {s : Shared} {J : Nat → (Str → Option Value) → List (Addr × Obj) → Prop} {Q : Flow → Shared → Prop} {n n' tk : Nat} {m₂ : Str → Option Value} {news₂ : List (Addr × Obj)}
    (F : Fr h₀ L h' m₂) (N : News h₀ L h' news₂) (hn : n' < n) (hJ : J n' m₂ news₂) : WStep h₀ L s J Q n .next { s with heap := h', toks := tk } := ⟨h', tk, m₂, news₂, n', rfl, F, N, hn, hJ⟩
theorem WStep.cont {h₀ h' : Heap} {L : Addr} {s : Shared} {J : Nat → (Str → Option Value) → List (Addr × Obj) → Prop} {Q : Flow → Shared → Prop} {n n' tk : Nat} {m₂ : Str → Option Value} {news₂ : List (Addr × Obj)}
    (F : Fr h₀ L h' m₂) (N : News h₀ L h' news₂) (hn : n' < n) (hJ : J n' m₂ news₂) : WStep h₀ L s J Q n .cont { s with heap := h', toks := tk } := ⟨h', tk, m₂, news₂, n', rfl, F, N, hn, hJ⟩
theorem WStep.brk {h₀ : Heap} {L : Addr} {s s₃ : Shared} {J : Nat → (Str → Option Value) → List (Addr × Obj) → Prop} {Q : Flow → Shared → Prop} {n : Nat} (h : Q .next s₃) : WStep h₀ L s J Q n .brk s₃ := h
section
variable {prog : Program} {w : World} {A : Around} {E : Value → Shared → Prop} {Q : Flow → Shared → Prop} {s : Shared} {env : Env} {h₀ : Heap} {L : Addr}
theorem while_my {test : Expr} {body : List Stmt} {pos : Pos} {m : Str → Option Value} {news : List (Addr × Obj)} (J : Nat → (Str → Option Value) → List (Addr × Obj) → Prop) {n₀ : Nat}
    (F : Fr h₀ L s.heap m) (N : News h₀ L s.heap news) (hJ : J n₀ m news)
    (turn : ∀ n m₁ news₁ h₁ tk₁, Fr h₀ L h₁ m₁ → News h₀ L h₁ news₁ → J n m₁ news₁ →
      wpAny (model prog w) A (isTrue test env (eval test env)) (fun b s₂ => BIf b (wpAny (model prog w) A (execs body env) (WStep h₀ L s J Q n) E s₂) (Q .next s₂)) E { s with heap := h₁, toks := tk₁ })
    (hE : PassesOwn (model prog w) A env E) :
    wpAny (model prog w) A (exec (.While test body [] pos) env) Q E s := by
  refine While_invI (fun n m news _ => J n m news) F N InstsFk.nil hJ (fun n m₁ news₁ _ h₁ tk₁ F₁ N₁ _ J₁ => ?_) hE
  refine wpAny_mono (turn n m₁ news₁ h₁ tk₁ F₁ N₁ J₁) (fun b s₂ h₂ => ?_) fun _ _ e => e
  unfold BIf at h₂
  cases b with
  | false => simpa only [Bool.false_eq_true, if_false] using h₂
  | true =>
    simp only [if_true] at h₂ ⊢
    refine wpAny_mono h₂ (fun f s₃ h₃ => ?_) fun _ _ e => e
    cases f with
    | next =>
      obtain ⟨h', tk, m₂, news₂, n', e, F₂, N₂, hn, J₂⟩ := h₃
      exact ⟨h', tk, m₂, news₂, [], n', e, F₂, N₂, InstsFk.nil, hn, J₂⟩
    | cont =>
      obtain ⟨h', tk, m₂, news₂, n', e, F₂, N₂, hn, J₂⟩ := h₃
      exact ⟨h', tk, m₂, news₂, [], n', e, F₂, N₂, InstsFk.nil, hn, J₂⟩
    | brk => exact h₃
    | ret v => exact h₃
end
section
variable {prog : Program} {w : World} {A : Around} {E : Value → Shared → Prop} {s : Shared} {h₀ : Heap} {L D : Addr} {m : Str → Option Value} {Z : List (Addr × Obj)} {vs : List Value} {n : Nat}
theorem item_mine {value slice : Expr} {i : Int} {u : Tok} {Q : Value → Shared → Prop} {dv : List Value} {c : Value} {rv : List Value} (N : News h₀ L s.heap ((D, listOf (dv ++ c :: rv).toArray n) :: Z)) (hi : i = dv.length) (hz : (dv ++ c :: rv).length ≤ 4096) (h : Q c s)
    (hs : subscripted slice false (.ref D) (.int i u) = operate [.ref D, .int i u] (getItem (.ref D) (.int i u))) (hg : ∀ r, letTemporaryGo value (.ref D) r = pure ()) :
    wpAny (model prog w) A (subscriptTail value slice (.ref D) (.int i u)) Q E s := by
  have z : dv.length ≤ 4096 := by simp only [List.length_append] at hz; omega
  exact item_list (N.isList (.head _)) (by omega) (by omega) (by subst hi; simp) h hs hg
theorem item_mine2 {value slice : Expr} {i : Int} {u : Tok} {Q : Value → Shared → Prop} {dv : List Value} {b c : Value} {rv : List Value} (N : News h₀ L s.heap ((D, listOf (dv ++ b :: c :: rv).toArray n) :: Z)) (hi : i = dv.length + 1) (hz : (dv ++ b :: c :: rv).length ≤ 4096) (h : Q c s)
    (hs : subscripted slice false (.ref D) (.int i u) = operate [.ref D, .int i u] (getItem (.ref D) (.int i u))) (hg : ∀ r, letTemporaryGo value (.ref D) r = pure ()) :
    wpAny (model prog w) A (subscriptTail value slice (.ref D) (.int i u)) Q E s := by
  have e : dv ++ b :: c :: rv = (dv ++ [b]) ++ c :: rv := by simp
  rw [e] at N hz
  exact item_mine N (by rw [hi, List.length_append]; rfl) hz h hs hg
theorem ki_delL_at (dv : List Value) (c : Value) (rv : List Value) : ki_delL (dv ++ c :: rv) dv.length = some (dv ++ rv) := by
  induction dv with
  | nil => rfl
  | cons x r ih => simp only [List.cons_append, List.length_cons, ki_delL, ih]
theorem del_mine {i : Int} {u : Tok} {Q : Unit → Shared → Prop} {dv : List Value} {c : Value} {rv : List Value} (F : Fr h₀ L s.heap m) (N : News h₀ L s.heap ((D, listOf (dv ++ c :: rv).toArray n) :: Z)) (hne : ∀ q ∈ Z, q.1 ≠ D) (hi : i = dv.length) (hz : (dv ++ c :: rv).length ≤ 4096)
    (h : ∀ h', Fr h₀ L h' m → News h₀ L h' ((D, listOf (dv ++ rv).toArray (n + 1)) :: Z) → Q () { s with heap := h' }) : wpAny (model prog w) A (delItem (.ref D) (.int i u)) Q E s := by
  have z : dv.length ≤ 4096 := by simp only [List.length_append] at hz; omega
  have hk : seqIndex? i (dv ++ c :: rv).toArray.size = some dv.length := by
    subst hi
    have := PySem.seqIndex_of (k := (dv.length : Int)) (n := (dv ++ c :: rv).toArray.size) (by omega) (by simp only [List.size_toArray, List.length_append, List.length_cons]; omega)
    simpa using this
  refine ki_del (k := dv.length) (q := dv ++ rv) F N ?_ hk (ki_delL_at _ _ _) (Upd.head hne) (by rw [List.toList_toArray, sizeLine_eq]; omega) h
  subst hi
  unfold Builtin.List.listFitsIndex
  simp only [Bool.and_eq_true, decide_eq_true_eq]
  omega
theorem del_mine2 {i : Int} {u : Tok} {Q : Unit → Shared → Prop} {dv : List Value} {b c : Value} {rv : List Value} (F : Fr h₀ L s.heap m) (N : News h₀ L s.heap ((D, listOf (dv ++ b :: c :: rv).toArray n) :: Z)) (hne : ∀ q ∈ Z, q.1 ≠ D) (hi : i = dv.length + 1) (hz : (dv ++ b :: c :: rv).length ≤ 4096)
    (h : ∀ h', Fr h₀ L h' m → News h₀ L h' ((D, listOf (dv ++ b :: rv).toArray (n + 1)) :: Z) → Q () { s with heap := h' }) : wpAny (model prog w) A (delItem (.ref D) (.int i u)) Q E s := by
  have e : dv ++ b :: c :: rv = (dv ++ [b]) ++ c :: rv := by simp
  rw [e] at N hz
  refine del_mine F N hne (by rw [hi, List.length_append]; rfl) hz fun h' F' N' => h h' F' ?_
  have e2 : (dv ++ [b]) ++ rv = dv ++ b :: rv := by simp
  rw [e2] at N'
  exact N'
end
theorem swap2 {a b : Addr × Obj} {rs : List (Addr × Obj)} : ∀ q ∈ a :: b :: rs, q ∈ b :: a :: rs := by
  intro q hq
  simp only [List.mem_cons] at hq ⊢
  grind
def filt : List (Int × Int) → List (Int × Int)
  | [] => []
  | [c] => [c]
  | c :: n :: r => if c.2 < n.1 then c :: filt (n :: r) else if n.2 ≤ c.2 ∨ n.2 - n.1 ≤ c.2 - c.1 then filt (c :: r) else n :: filt r
termination_by l => l.length
theorem filt_after {c n : Int × Int} {r : List (Int × Int)} (h : c.2 < n.1) : filt (c :: n :: r) = c :: filt (n :: r) := by rw [filt, if_pos h]
theorem filt_in {c n : Int × Int} {r : List (Int × Int)} (h : ¬ c.2 < n.1) (h2 : n.2 ≤ c.2 ∨ n.2 - n.1 ≤ c.2 - c.1) : filt (c :: n :: r) = filt (c :: r) := by rw [filt, if_neg h, if_pos h2]
theorem filt_more {c n : Int × Int} {r : List (Int × Int)} (h : ¬ c.2 < n.1) (h2 : ¬ (n.2 ≤ c.2 ∨ n.2 - n.1 ≤ c.2 - c.1)) : filt (c :: n :: r) = n :: filt r := by rw [filt, if_neg h, if_neg h2]
theorem filt_one (c : Int × Int) : filt [c] = [c] := by rw [filt]
theorem filt_nil : filt [] = [] := by rw [filt]
theorem sorted_fst {qs : List (Int × Int)} (hb : ∀ q ∈ qs, Bd q) (h : qs.Pairwise fun x y => kq x ≤ kq y) : qs.Pairwise fun x y => x.1 ≤ y.1 := by
  refine List.Pairwise.imp_of_mem (fun {x y} hx hy h => ?_) h
  have := hb x hx
  have := hb y hy
  unfold Bd at *
  unfold kq at *
  omega
/-- what filter_overlapping gives back -/
def FiltPost (rs : List (Addr × Obj)) (qs : List (Int × Int)) (r : Value) (news' : List (Addr × Obj)) : Prop :=
  ∃ d D c out qs' ps' nw, r = .ref D ∧ news' = (86, tabObj ps') :: (D, listOf (List.toArray out) c) :: (nw ++ rs) ∧ (∀ p ∈ rs, p.1 < d) ∧ @LT.lt Nat _ 86 d ∧ (∀ q ∈ (D, listOf (List.toArray out) c) :: nw, @LE.le Nat _ d q.1) ∧ TabOk ps' (nw ++ rs) ∧ All2 (TokAt (nw ++ rs)) out (filt qs') ∧ qs'.Perm qs ∧ qs'.Pairwise fun x y => kq x ≤ kq y
theorem all2_nil {α β : Type} {R : α → β → Prop} {qs : List β} (h : All2 R [] qs) : qs = [] := by
  cases qs with
  | nil => rfl
  | cons _ _ => exact h.elim
theorem tokAt_no86 {a : Addr} {ps : Array Value} {Z : List (Addr × Obj)} {v : Value} {q : Int × Int} (h : TokAt ((a, tabObj ps) :: Z) v q) : TokAt Z v q := by
  obtain ⟨x, dx, ta, tb, tc, e, hm, hd⟩ := h
  refine ⟨x, dx, ta, tb, tc, e, ?_, ?_⟩
  · rcases List.mem_cons.mp hm with h | h
    · have := congrArg (fun p => p.2.cls) h
      simp [tokObj, tabObj] at this
    · exact h
  · rcases List.mem_cons.mp hd with h | h
    · have := congrArg (fun p => p.2.cls) h
      simp [dictOf, tabObj] at this
    · exact h
theorem filtPost {h₀ h : Heap} {L D d q' : Addr} {vs out : List Value} {cnt c : Nat} {Z rs nw : List (Addr × Obj)} {mo : Obj} {ps' : Array Value} {qs qs' : List (Int × Int)} (kN : News h₀ L h ((D, listOf vs.toArray cnt) :: Z)) (hlf : @LT.lt Nat _ 86 q') (hrc : ∀ p ∈ rs, p.1 < q')
    (b1 : ∀ p ∈ (q', mo) :: rs, p.1 < d) (b2 : @LT.lt Nat _ 86 d) (b3 : ∀ q ∈ (D, listOf (List.toArray out) c) :: nw, @LE.le Nat _ d q.1) (b5 : TabOk ps' (nw ++ (q', mo) :: rs)) (eZ : (86, tabObj ps') :: (nw ++ (q', mo) :: rs) = Z)
    (ho : All2 (TokAt Z) vs (filt qs')) (hp : qs'.Perm qs) (hs : qs'.Pairwise fun x y => kq x ≤ kq y) : ∃ news', News h₀ L h news' ∧ FiltPost rs qs (.ref D) news' := by
  subst eZ
  have hq : @LT.lt Nat _ q' d := b1 _ (.head _)
  refine ⟨(86, tabObj ps') :: (D, listOf vs.toArray cnt) :: ((nw ++ [(q', mo)]) ++ rs), newsSub kN ?_, q', D, cnt, vs, qs', ps', nw ++ [(q', mo)], rfl, rfl, hrc, hlf, ?_, ?_, ?_, hp, hs⟩
  · intro q hq
    simp only [List.mem_cons, List.mem_append, List.append_assoc, List.singleton_append] at hq ⊢
    grind
  · intro q hq1
    rcases List.mem_cons.mp hq1 with rfl | hq1
    · exact Nat.le_of_lt (Nat.lt_of_lt_of_le hq (b3 (D, listOf (List.toArray out) c) (.head _)))
    rcases List.mem_append.mp hq1 with hq1 | hq1
    · exact Nat.le_of_lt (Nat.lt_of_lt_of_le hq (b3 q (.tail _ hq1)))
    · rw [List.mem_singleton.mp hq1]; exact Nat.le_refl _
  · rw [List.append_assoc]; exact b5
  · refine ho.mono fun _ _ x => ?_
    rw [List.append_assoc]
    exact tokAt_no86 x
def JO (Z : List (Addr × Obj)) (D : Addr) (res : List (Int × Int)) (n : Nat) (m : Str → Option Value) (news : List (Addr × Obj)) : Prop :=
  ∃ dv rv dq rq cnt ti, m (Str.ofString "tokens") = some (.ref D) ∧ m (Str.ofString "i") = some (.int ((dv.length : Nat) : Int) ti) ∧ news = (D, listOf (dv ++ rv).toArray cnt) :: Z ∧ All2 (TokAt Z) dv dq ∧ All2 (TokAt Z) rv rq ∧ (rq.Pairwise (fun x y => x.1 ≤ y.1) ∧ ∀ q ∈ rq, Bd q) ∧ dq ++ filt rq = res ∧ n = rv.length ∧ (dv ++ rv).length ≤ 64
def JI (Z : List (Addr × Obj)) (D : Addr) (res : List (Int × Int)) (n₀ : Nat) (n : Nat) (m : Str → Option Value) (news : List (Addr × Obj)) : Prop :=
  ∃ dv c rv dq cq rq cnt ti tj, m (Str.ofString "tokens") = some (.ref D) ∧ m (Str.ofString "i") = some (.int ((dv.length : Nat) : Int) ti) ∧ m (Str.ofString "j") = some (.int (((dv.length : Nat) : Int) + 1) tj) ∧ news = (D, listOf (dv ++ c :: rv).toArray cnt) :: Z ∧ All2 (TokAt Z) dv dq ∧ TokAt Z c cq ∧ All2 (TokAt Z) rv rq ∧ ((cq :: rq).Pairwise (fun x y => x.1 ≤ y.1) ∧ ∀ q ∈ cq :: rq, Bd q) ∧ dq ++ filt (cq :: rq) = res ∧ n = rv.length ∧ (dv ++ c :: rv).length ≤ 64 ∧ rv.length < n₀
/-- what the inner loop leaves -/
def IE (Z : List (Addr × Obj)) (D : Addr) (res : List (Int × Int)) (n₀ : Nat) (h₀ : Heap) (L : Addr) (s₁ : Shared) (f : Flow) (s : Shared) : Prop :=
  f = .next ∧ ∃ h tk m dv c rv dq cq rq cnt ti, s = { s₁ with heap := h, toks := tk } ∧ Fr h₀ L h m ∧ News h₀ L h ((D, listOf (dv ++ c :: rv).toArray cnt) :: Z) ∧ m (Str.ofString "tokens") = some (.ref D) ∧ m (Str.ofString "i") = some (.int ((dv.length : Nat) : Int) ti) ∧ All2 (TokAt Z) dv dq ∧ TokAt Z c cq ∧ All2 (TokAt Z) rv rq ∧ (rq.Pairwise (fun x y => x.1 ≤ y.1) ∧ ∀ q ∈ rq, Bd q) ∧ dq ++ cq :: filt rq = res ∧ (dv ++ c :: rv).length ≤ 64 ∧ rv.length < n₀
theorem while_in {prog : Program} {w : World} {A : Around} {E : Value → Shared → Prop} {Q : Flow → Shared → Prop} {s : Shared} {env : Env} {h₀ : Heap} {L : Addr} {test : Expr} {body : List Stmt} {pos : Pos} {m : Str → Option Value} {news : List (Addr × Obj)}
    (Z : List (Addr × Obj)) (D : Addr) (res : List (Int × Int)) (k : Nat) {n₀ : Nat} (F : Fr h₀ L s.heap m) (N : News h₀ L s.heap news) (hJ : JI Z D res k n₀ m news)
    (turn : ∀ n m₁ news₁ h₁ tk₁, Fr h₀ L h₁ m₁ → News h₀ L h₁ news₁ → JI Z D res k n m₁ news₁ →
      wpAny (model prog w) A (isTrue test env (eval test env)) (fun b s₂ => BIf b (wpAny (model prog w) A (execs body env) (WStep h₀ L s (JI Z D res k) (IE Z D res k h₀ L s) n) E s₂) (IE Z D res k h₀ L s .next s₂)) E { s with heap := h₁, toks := tk₁ })
    (hE : PassesOwn (model prog w) A env E) (h : ∀ f s', IE Z D res k h₀ L s f s' → Q f s') : wpAny (model prog w) A (exec (.While test body [] pos) env) Q E s :=
  wpAny_mono (while_my (JI Z D res k) F N hJ turn hE) h fun _ _ e => e
theorem iffT {p : Prop} (h : true = true ↔ p) : p := h.mp rfl
theorem iffF {p : Prop} (h : false = true ↔ p) : ¬ p := fun x => Bool.false_ne_true (h.mpr x)
local macro_rules | `(tactic| walk_at "call ref") => `(tactic| (k_here; k_dflt (first
  | (first
    | (refine' Ctr.use (after_c _ _ _ _ _ _ _ _ _ _ _ _ _ _ _ _ _ _ _ _ _ ?c1 ?c2 ?c3 ?c4) ?cB ?cF ?cX ?cN ?cT ?ck ?cd ?cu ?cp ?_)
    | (refine' Ctr.use (contains_c _ _ _ _ _ _ _ _ _ _ _ _ _ _ _ _ _ _ _ _ _ ?c1 ?c2 ?c3 ?c4) ?cB ?cF ?cX ?cN ?cT ?ck ?cd ?cu ?cp ?_)
    | (refine' Ctr.use (overlap_c _ _ _ _ _ _ _ _ _ _ _ _ _ _ _ _ _ _ _ _ _ ?c1 ?c2 ?c3 ?c4) ?cB ?cF ?cX ?cN ?cT ?ck ?cd ?cu ?cp ?_)); (case cN => k_asm); (case c1 => k_mem); (case c2 => k_mem); (case c3 => k_mem); (case c4 => k_mem); (case cB => k_asm); (case cF => k_asm); (case cX => k_asm); (case cT => k_asm); (case ck => exact rfl); (case cd => ktr_room); (case cu => ktr_units); (case cp => trivial); intro r' h' tk' n' F' N' hP'; obtain ⟨e1', z', e2', hz'⟩ := hP'; subst e1'; subst e2'; cases z'; (replace hz' := iffF hz'); rotate_left; (replace hz' := iffT hz'); rotate_left
  | (refine' call_meth ?k1 ?k2 ?_; (case k1 => k_asm); (case k2 => k_mem); refine hold_of ?_))))
local macro_rules | `(tactic| walk_at "subscriptTail Name Name ref int") => `(tactic| (k_here; k_dflt (first
  | (refine' item_mine ?N ?i ?z ?_ ?s ?g; (case N => k_asm); (case i => first | rfl | omega); (case z => omega); (case s => with_unfolding_all rfl); (case g => (intro r; with_unfolding_all rfl)))
  | (refine' item_mine2 ?N ?i ?z ?_ ?s ?g; (case N => k_asm); (case i => first | rfl | omega); (case z => omega); (case s => with_unfolding_all rfl); (case g => (intro r; with_unfolding_all rfl))))))
local macro_rules | `(tactic| walk_at "delItem ref int") => `(tactic| (k_here; k_dflt (first
  | (refine' del_mine ?F ?N ?a ?i ?z ?_; (case F => k_asm); (case N => k_asm); (case a => assumption); (case i => first | rfl | omega); (case z => omega))
  | (refine' del_mine2 ?F ?N ?a ?i ?z ?_; (case F => k_asm); (case N => k_asm); (case a => assumption); (case i => first | rfl | omega); (case z => omega))); intro h' F' N'))
local macro_rules | `(tactic| walk_at "exec While Compare") => `(tactic| (k_here; k_dflt (refine hold_of ?_)))
set_option maxHeartbeats 4000000 in
theorem filter_c (w : World) (p loose mean mg mb) (dp un : Nat) (gd : Option (List Code)) (cn : Str) (cs : Scope) (a : Addr) (ccd : Value) (cl : List (Str × Addr)) (outer : List Env) (A₀ : Around) (base h₀ : Heap) (L : Addr) (m : Str → Option Value) (s : Shared) (R : Result → Shared → Prop)
    (B : Below A₀ base outer h₀) (F : Fr h₀ L s.heap m) (X : (Mine.hd.heap_39 w.params).In h₀) (T : Top p loose mean mg mb h₀) (hk : cs.kind = .function) (hd : dp + 25 < recursionLimit) (hu : un + 260 < cLine) (C : CodeHd base 90 86)
    (ps : Array Value) (rs : List (Addr × Obj)) (N : News h₀ L s.heap ((86, tabObj ps) :: rs)) (hr : ∀ p ∈ rs, p.1 ≠ 86) (l : Addr) (vt : List Value) (nt : Nat) (qs : List (Int × Int)) (hl : (l, listOf vt.toArray nt) ∈ rs) (ht : All2 (TokAt rs) vt qs) (h1 : 1 ≤ qs.length) (h64 : qs.length < 64) (hb : ∀ q ∈ qs, Bd q)
    (hT : TabOk ps rs)
    (hret : ∀ r h' tk' news', Fr h₀ L h' m → News h₀ L h' news' → FiltPost rs qs r news' → R (.ok (.ret r)) { s with heap := h', toks := tk' }) :
    codeAny (model PySem.Challenge.rw_ew0012_01.row.prog w) (ktrTop dp un gd cn cs L a ccd cl outer) (.call (.ref 35) ⟨[.ref l], []⟩) R s := by
  k_with_none
  w_top off
  revert X; k_fill; intro X
  k_dflt cell_enter
  k_steps
  refine Hold.out ?_
  (rename Fr _ _ _ _ => F1)
  (rename News _ _ _ _ => N1)
  (rename (_ ∧ AllLt _ rs) => l1)
  have hlf := l1.1
  have hrc := allLt_out l1.2
  have N1' := newsSub N1 (n' := (86, tabObj ps) :: (_, methodObj (Value.ref 91) (Value.ref 126)) :: rs) swap2
  k_dflt (refine' sort_c _ _ _ _ _ _ _ _ _ _ _ _ _ _ _ _ _ _ _ _ _ _ ?cB F1 ?cX ?cT ?ck ?cd ?cu ?cC ps _ N1' ?cr l vt nt qs ?cl ?ct h1 h64 hb ?ch ?_; (case cB => k_asm); (case cX => k_asm); (case cT => k_asm); (case ck => exact rfl); (case cd => ktr_room); (case cu => ktr_units); (case cC => exact C); (case cl => exact .tail _ hl); (case cr => exact List.forall_mem_cons.mpr ⟨Nat.ne_of_gt hlf, hr⟩); (case ct => exact ht.mono fun _ _ x => x.mono fun _ hq => .tail _ hq); (case ch => exact hT.mono fun _ hq => .tail _ hq))
  intro r h2 tk2 n2 F2 N2 hP
  obtain ⟨d, D, c, out, qs', ps', nw, rfl, rfl, b1, b2, b3, b4, b5, b6, b7, b8⟩ := hP
  k_steps
  refine Hold.out ?_
  (rename Fr _ _ _ _ => F3)
  (rename News _ _ _ _ => N3)
  generalize eZ : (86, tabObj ps') :: (nw ++ (_, methodObj (Value.ref 91) (Value.ref 126)) :: rs) = Z
  have N4 := newsSub N3 (n' := (D, listOf (List.toArray out) c) :: Z) (by rw [← eZ]; exact swap2)
  have hD : @LE.le Nat _ d D := b3 _ (.head _)
  have hne : ∀ q ∈ Z, q.1 ≠ D := by
    rw [← eZ]
    intro q hq
    rcases List.mem_cons.mp hq with rfl | hq
    · exact Nat.ne_of_lt (Nat.lt_of_lt_of_le b2 hD)
    rcases List.mem_append.mp hq with hq | hq
    · exact b4 q hq
    · exact Nat.ne_of_lt (Nat.lt_of_lt_of_le (b1 q hq) hD)
  have hZ : All2 (TokAt Z) out qs' := by
    rw [← eZ]
    exact b6.mono fun _ _ x => x.mono fun _ hq => .tail _ (List.mem_append_right _ hq)
  have hsrt : qs'.Pairwise fun x y => x.1 ≤ y.1 := sorted_fst (fun q hq => hb q (b7.mem_iff.mp hq)) b8
  have hlen : out.length ≤ 64 := by rw [hZ.length, b7.length_eq]; omega
  refine while_my (JO Z D (filt qs')) F3 N4 ⟨[], out, [], qs', c, _, rfl, rfl, rfl, trivial, hZ, ⟨hsrt, fun q hq => hb q (b7.mem_iff.mp hq)⟩, rfl, rfl, hlen⟩ ?_ (by first | passes_own | with_unfolding_all passes_own)
  intro n m₁ news₁ h₁ tk₁ F5 N5 hJ
  clear F3 N3 N4
  obtain ⟨dv, rv, dq, rq, cnt, ti, m1, m2, rfl, a1, a2, a3, a4, rfl, a5⟩ := hJ
  replace F5 := canon [(Str.ofString "tokens", .ref D), (Str.ofString "i", .int ((dv.length : Nat) : Int) ti)] (by simp [m1, m2]) F5
  dsimp only [kstB] at F5
  k_steps
  refine BIf.out (fun hb1 => ?_) (fun hb1 => ?_)
  rotate_left
  · have hb2 : rv.length ≤ 1 := by
      simp only [decide_eq_false_iff_not, List.size_toArray, List.length_append] at hb1
      omega
    k_steps
    (rename News h₀ _ _ _ => kN)
    have hres : filt rq = rq := by
      have := a2.length
      match rq, this with
      | [], _ => exact filt_nil
      | [z], _ => exact filt_one z
      | _ :: _ :: _, h => simp only [List.length_cons] at h; omega
    rw [hres] at a4
    (rename (∀ p ∈ rs, p.1 < _) => hrc2)
    obtain ⟨nN, kN2, hpost⟩ := filtPost (qs := qs) kN hlf hrc2 b1 b2 b3 b5 eZ (a4 ▸ a1.append a2) b7 b8
    exact hret _ _ _ _ (by assumption) kN2 hpost
  have hb2 : 2 ≤ rv.length := by
    simp only [decide_eq_true_eq, List.size_toArray, List.length_append] at hb1
    omega
  clear hret
  k_steps
  refine Hold.out ?_
  (rename Fr _ _ _ _ => F6)
  (rename News _ _ _ _ => N6)
  obtain ⟨v, rv, rfl⟩ : ∃ v r, rv = v :: r := by
    cases rv with
    | nil => simp at hb2
    | cons v r => exact ⟨v, r, rfl⟩
  obtain ⟨q, rq, rfl⟩ : ∃ v r, rq = v :: r := by
    cases rq with
    | nil => exact a2.elim
    | cons v r => exact ⟨v, r, rfl⟩
  refine while_in Z D (filt qs') (v :: rv).length F6 N6 ⟨dv, v, rv, dq, q, rq, cnt, _, _, rfl, rfl, rfl, rfl, a1, a2.1, a2.2, a3, a4, rfl, a5, by simp⟩ ?_ (by first | passes_own | with_unfolding_all passes_own) ?_
  · clear F6 N6 a1 a2 a3 a4 a5 hb1 hb2
    intro n m₁ news₁ h₁ tk₁ F5 N5 hJ
    obtain ⟨dv, c, rv, dq, cq, rq, cnt, ti, tj, m1, m2, m3, rfl, a1, a2, a3, a4, a5, rfl, a6, a7⟩ := hJ
    replace F5 := canon [(Str.ofString "tokens", .ref D), (Str.ofString "i", .int ((dv.length : Nat) : Int) ti), (Str.ofString "j", .int (((dv.length : Nat) : Int) + 1) tj)] (by simp [m1, m2, m3]) F5
    dsimp only [kstB] at F5
    k_steps
    refine BIf.out (fun hb1 => ?_) (fun hb1 => ?_)
    rotate_left
    · have hb2 : rv = [] := by
        simp only [decide_eq_false_iff_not, List.size_toArray, List.length_append, List.length_cons] at hb1
        exact List.length_eq_zero_iff.mp (by omega)
      subst hb2
      obtain rfl := all2_nil a3
      refine ⟨rfl, _, _, _, dv, c, [], dq, cq, [], cnt, ti, rfl, by assumption, by assumption, rfl, rfl, a1, a2, trivial, ⟨.nil, fun _ hq => nomatch hq⟩, ?_, a6, a7⟩
      rw [filt_nil, ← filt_one]; exact a5
    have hb2 : 0 < rv.length := by
      simp only [decide_eq_true_eq, List.size_toArray, List.length_append, List.length_cons] at hb1
      omega
    obtain ⟨v, rv, rfl⟩ : ∃ v r, rv = v :: r := by
      cases rv with
      | nil => simp at hb2
      | cons v r => exact ⟨v, r, rfl⟩
    obtain ⟨q, rq, rfl⟩ : ∃ v r, rq = v :: r := by
      cases rq with
      | nil => exact a3.elim
      | cons v r => exact ⟨v, r, rfl⟩
    have a6' := a6
    obtain ⟨a4, hbd⟩ := a4
    obtain ⟨bc1, bc2, bc3⟩ := hbd cq (.head _)
    obtain ⟨bq1, bq2, bq3⟩ := hbd q (.tail _ (.head _))
    simp only [List.length_append, List.length_cons] at a6'
    obtain ⟨x1, dx1, ta1, tb1, tc1, rfl, hx1, hdx1⟩ := id a2
    obtain ⟨x2, dx2, ta2, tb2, tc2, rfl, hx2, hdx2⟩ := id a3.1
    k_steps
    all_goals (have a4' := (List.pairwise_cons.mp a4).1 q (.head _))
    all_goals (first
      | omega
      | (refine WStep.brk ⟨rfl, _, _, _, dv, _, _, dq, cq, q :: rq, cnt, ti, rfl, by assumption, by assumption, rfl, rfl, a1, a2, a3, ⟨(List.pairwise_cons.mp a4).2, fun z hz => hbd z (.tail _ hz)⟩, ?_, a6, a7⟩
         rw [← filt_after (by omega)]; exact a5)
      | (refine WStep.cont (n' := rv.length) (by assumption) (by assumption) (by simp) ⟨dv, _, rv, dq, cq, rq, _, ti, tj, rfl, rfl, rfl, rfl, a1, a2, a3.2, ?_, ?_, rfl, ?_, ?_⟩
         · refine ⟨?_, fun z hz => by rcases List.mem_cons.mp hz with rfl | hz; exact hbd _ (.head _); exact hbd _ (.tail _ (.tail _ hz))⟩
           exact List.pairwise_cons.mpr ⟨fun z hz => (List.pairwise_cons.mp a4).1 z (.tail _ hz), (List.pairwise_cons.mp (List.pairwise_cons.mp a4).2).2⟩
         · rw [← filt_in (n := q) (by omega) (by omega)]; exact a5
         · simp only [List.length_append, List.length_cons]; omega
         · simp only [List.length_cons] at a7 ⊢; omega)
      | (refine WStep.brk ⟨rfl, _, _, _, dv, _, rv, dq, q, rq, _, ti, rfl, by assumption, by assumption, rfl, rfl, a1, a3.1, a3.2, ⟨(List.pairwise_cons.mp (List.pairwise_cons.mp a4).2).2, fun z hz => hbd z (.tail _ (.tail _ hz))⟩, ?_, ?_, ?_⟩
         · rw [← filt_more (by omega) (by omega)]; exact a5
         · simp only [List.length_append, List.length_cons]; omega
         · simp only [List.length_cons] at a7 ⊢; omega))
  · rintro f s2 ⟨rfl, h3, tk3, m3, dv3, c3, rv3, dq3, cq3, rq3, cnt3, ti3, rfl, F7, N7, m31, m32, c1, c2, c3', c4, c5, c6, c7⟩
    replace F7 := canon [(Str.ofString "tokens", .ref D), (Str.ofString "i", .int ((dv3.length : Nat) : Int) ti3)] (by simp [m31, m32]) F7
    dsimp only [kstB] at F7
    k_steps
    (rename Fr _ _ _ _ => F8)
    (rename News _ _ _ _ => N8)
    have ei : ∀ t₀, some (Value.int (((dv3.length : Nat) : Int) + 1) t₀) = some (Value.int (((dv3 ++ [c3]).length : Nat) : Int) t₀) := fun t₀ => by rw [List.length_append]; rfl
    refine WStep.next (n' := rv3.length) F8 N8 c7 ⟨dv3 ++ [c3], rv3, dq3 ++ [cq3], rq3, cnt3, _, rfl, ei _, ?_, c1.append ⟨c2, trivial⟩, c3', c4, ?_, rfl, ?_⟩
    · rw [List.append_assoc]; rfl
    · rw [List.append_assoc]; exact c5
    · rw [List.append_assoc]; exact c6
end Mine
end

section
open PySem PySem.W PyProof.Rows
set_option maxRecDepth 100000
set_option linter.unusedVariables false
set_option linter.unusedSimpArgs false
set_option rowWalk.seconds 0
namespace Mine
local macro_rules | `(tactic| k_room) => `(tactic| ktr_room)
local macro_rules | `(tactic| k_units) => `(tactic| ktr_units)
local macro_rules | `(tactic| k_all) => `(tactic| (first | with_reducible assumption | (refine' ne_all ?nh ?nx; (case nh => assumption); (case nx => omega)) | fail "ne_all"))
local macro_rules | `(tactic| k_updF) => `(tactic| first | (refine' Del.head ?a; (case a => k_all)) | (refine' Del.tail ?a ?b; (case a => k_ne); (case b => k_updF)))
local macro_rules | `(tactic| k_updF) => `(tactic| first | exact Pre.nil | (refine' Pre.cons ?a ?b; (case a => (refine leN ?_; (try dsimp only); omega)); (case b => k_updF)))
local macro_rules | `(tactic| k_mem) => `(tactic| first | with_reducible assumption | exact List.mem_cons_self | (refine' List.mem_cons_of_mem _ ?_; k_mem))
local macro_rules | `(tactic| walk_at "UnrEnd") => `(tactic| (refine' unrEnd_del ?uF ?uN ?uD ?_; (case uF => k_asm); (case uN => k_asm); (case uD => k_updF)))
local macro_rules | `(tactic| tb_rel) => `(tactic| first | (refine List.forall_mem_cons.mpr ⟨?ha, ?hb⟩; (case ha => (first | (refine ltN ?_; (try dsimp only); omega) | (refine leN ?_; (try dsimp only); omega) | (refine And.intro (neN ?_) (neN ?_) <;> ((try dsimp only); omega)))); (case hb => tb_rel)) | assumption | exact List.forall_mem_nil _)
local macro_rules | `(tactic| walk_at "binaryOp Add ref ref") => `(tactic| (k_here; (with_reducible show wpAny _ _ (binaryOp _ (Value.ref _) (Value.ref _)) _ _ _); k_dflt (refine' add_mine ?F ?N ?a ?b ?z ?_; (case F => k_asm); (case N => k_asm); (case a => k_mem); (case b => k_mem); (case z => (simp only [List.size_toArray, List.length_append, List.length_drop, List.length_take]; omega))); intro D' h' F' N' l1; (try k_lt l1); (try k_sweep)))
local macro_rules | `(tactic| walk_at "call builtin:len") => `(tactic| (k_here; (with_reducible show wpAny _ _ (call (Value.builtin _) [Value.ref _]) _ _ _); k_dflt (refine' len_mine ?N ?a ?z ?_; (case N => k_asm); (case a => k_mem); (case z => (simp only [List.size_toArray]; omega)))))
local macro_rules | `(tactic| walk_at "subscriptTail Name Slice ref ref") => `(tactic| (k_here; (with_reducible show wpAny _ _ (subscriptTail _ (PySem.Expr.Slice _ _ none _) (Value.ref _) (Value.ref _)) _ _ _); k_dflt (first
  | (refine' slice_from_mine ?F ?N ?a ?k ?z ?_ ?s ?t; (case F => k_asm); (case N => k_asm); (case a => k_mem); (case k => assumption); (case z => (simp only [List.size_toArray]; omega)); (case s => with_unfolding_all rfl); (case t => (intro r; with_unfolding_all rfl)))
  | (refine' slice_upto_mine ?F ?N ?a ?k ?z ?_ ?s ?t; (case F => k_asm); (case N => k_asm); (case a => k_mem); (case k => assumption); (case z => (simp only [List.size_toArray]; omega)); (case s => with_unfolding_all rfl); (case t => (intro r; with_unfolding_all rfl)))); intro D' h' F' N' l1; (try k_lt l1); (try k_sweep)))

def forBody : Stmt → List Stmt
  | .For _ _ b _ _ => b
  | _ => []
def outBody : List Stmt := forBody ((lawTail 5).headD (.Pass default))
def inBody : List Stmt := forBody ((outBody.drop 2).headD (.Pass default))

local macro_rules | `(tactic| walk_at "CmpBack") => `(tactic| (k_here; dsimp only [W.CmpBack]))
theorem z_of {z : Bool} {p : Prop} [Decidable p] (h : z = true ↔ p) : z = decide p := by
  by_cases hp : p
  · rw [decide_eq_true hp]; exact h.mpr hp
  · rw [decide_eq_false hp]
    cases z with
    | false => rfl
    | true => exact absurd (h.mp rfl) hp
section
variable {prog : Program} {w : World} {A : Around} {E : Value → Shared → Prop} {s : Shared} {h₀ : Heap} {L D : Addr} {news : List (Addr × Obj)} {vs : List Value} {n : Nat}
theorem first_mine {value slice : Expr} {a : Int} {k : Nat} {u : Tok} {Q : Value → Shared → Prop} (N : News h₀ L s.heap news) (hm : (D, listOf vs.toArray n) ∈ news) (hi : IntsAre vs (rangeKs a k)) (h1 : 0 < k) (h : ∀ t, Q (.int a t) s)
    (hs : subscripted slice false (.ref D) (.int 0 u) = operate [.ref D, .int 0 u] (getItem (.ref D) (.int 0 u))) (hg : ∀ r, letTemporaryGo value (.ref D) r = pure ()) :
    wpAny (model prog w) A (subscriptTail value slice (.ref D) (.int 0 u)) Q E s := by
  obtain ⟨t, e⟩ := hi.get 0 a (by simp [rangeKs, h1])
  exact item_list (N.isList hm) (Int.le_refl _) (by decide) (by simpa using e) (h t) hs hg
theorem last_mine {value slice : Expr} {a b : Int} {k : Nat} {u : Tok} {Q : Value → Shared → Prop} (N : News h₀ L s.heap news) (hm : (D, listOf vs.toArray n) ∈ news) (hi : IntsAre vs (rangeKs a k)) (h1 : 0 < k) (hb : a + ((k - 1 : Nat) : Int) = b) (h : ∀ t, Q (.int b t) s)
    (hs : subscripted slice false (.ref D) (.int (-1) u) = operate [.ref D, .int (-1) u] (getItem (.ref D) (.int (-1) u))) :
    wpAny (model prog w) A (subscriptTail value slice (.ref D) (.int (-1) u)) Q E s := by
  obtain ⟨t, e⟩ := hi.get (k - 1) b (by
    have : k - 1 < k := by omega
    simp [rangeKs, this, hb])
  have hl : vs.length = k := by rw [hi.length, rangeKs_length]
  have hj : seqIndex? (-1) vs.length = some (k - 1) := by
    rw [PySem.seqIndex_neg (by decide) (by omega), hl]
    congr 1
    omega
  exact kde_neg (N.isList hm) (by decide) (by decide) hj e (h t) hs
theorem ints_snoc : ∀ {vs : List Value} {ns : List Int}, IntsAre vs ns → ∀ (k : Int) (t : Tok), IntsAre (vs ++ [.int k t]) (ns ++ [k])
  | _, _, .nil, k, t => .cons k t .nil
  | _, _, .cons a t' r, k, t => .cons a t' (ints_snoc r k t)
theorem last_end {a b : Int} (h : a ≤ b) : a + (((b + 1 - a).toNat - 1 : Nat) : Int) = b := by omega
theorem mem_range {a b x : Int} (h : a ≤ b) : x ∈ rangeKs a (b + 1 - a).toNat ↔ (a ≤ x ∧ x ≤ b) := by
  unfold rangeKs
  simp only [List.mem_map, List.mem_range]
  constructor
  · rintro ⟨i, hi, rfl⟩; omega
  · intro hx; exact ⟨(x - a).toNat, by omega, by omega⟩
theorem any_range {a b x : Int} (h : a ≤ b) : ((rangeKs a (b + 1 - a).toNat).any fun y => y == x) = decide (a ≤ x ∧ x ≤ b) := by
  rw [Bool.eq_iff_iff, List.any_eq_true, decide_eq_true_eq, ← mem_range h]
  simp
theorem in_mine {a b x : Int} {t : Tok} {Q : Value → Shared → Prop} (N : News h₀ L s.heap news) (hm : (D, listOf vs.toArray n) ∈ news) (hi : IntsAre vs (rangeKs a (b + 1 - a).toNat)) (hab : a ≤ b) (h : Q (.bool (decide (a ≤ x ∧ x ≤ b))) s) :
    wpAny (model prog w) A (compareOp .In (.int x t) (.ref D)) Q E s := by
  refine in_list_ints (N.isList hm) hi ?_
  rw [any_range hab]
  exact h
theorem notin_mine {a b x : Int} {t : Tok} {Q : Value → Shared → Prop} (N : News h₀ L s.heap news) (hm : (D, listOf vs.toArray n) ∈ news) (hi : IntsAre vs (rangeKs a (b + 1 - a).toNat)) (hab : a ≤ b) (h : Q (.bool (!decide (a ≤ x ∧ x ≤ b))) s) :
    wpAny (model prog w) A (compareOp .NotIn (.int x t) (.ref D)) Q E s := by
  refine notin_list_ints (N.isList hm) hi ?_
  rw [any_range hab]
  exact h
theorem compRestT_of {m : Str → Option Value} {env : Env} {ct elt : Expr} {x : Str} {scope : Scope} {cl : List (Str × Addr)} {S : List (Addr × Obj) → Prop} {P : Nat → Value → Prop} {Fin : List Value → List (Addr × Obj) → Prop} {n : Nat} (J : Nat → List Value → List (Addr × Obj) → Prop)
    (hend : ∀ ys news, J n ys news → Fin ys news)
    (turn : ∀ i ys news, i < n → J i ys news → ∀ v I oI C oC D m₂ h tk (E' : Value → Shared → Prop), P i v → LCg.NsObj oC m₂ → m₂ x = some v → Fr h₀ L h m → News h₀ L h ((I, oI) :: (C, oC) :: (D, LCg.lst ys) :: news) → LCg.Off3 I C D news → ((@Ne Nat I C) ∧ (@Ne Nat I D) ∧ (@Ne Nat C D)) →
      wpAny (model prog w) A (isTrue ct (compEnvC scope cl C env) (eval ct (compEnvC scope cl C env))) (fun ok s' => BIf ok
        (wpAny (model prog w) A (eval elt (compEnvC scope cl C env)) (LCg.CompEnd h₀ L m { s with heap := h, toks := tk } I oI C oC D (LCg.lst ys) S (fun y news' => J (i + 1) (ys ++ [y]) news')) E' s')
        (LCg.CompEnd h₀ L m { s with heap := h, toks := tk } I oI C oC D (LCg.lst ys) S (fun _ news' => J (i + 1) ys news') Value.none s')) E' { s with heap := h, toks := tk }) :
    ∀ k i ys news, i + k = n → J i ys news → LCt.CompRestT prog w A h₀ L m env ct elt x scope cl s S P Fin k i ys news := by
  intro k
  induction k with
  | zero =>
    intro i ys news e hJ
    have e' : i = n := by omega
    subst e'
    exact hend ys news hJ
  | succ k ih =>
    intro i ys news e hJ v I oI C oC D m₂ h tk E' hv b1 b2 b4 b5 b6 b7
    refine wpAny_mono (turn i ys news (by omega) hJ v I oI C oC D m₂ h tk E' hv b1 b2 b4 b5 b6 b7) (fun ok s₂ p => ?_) fun _ _ e => e
    unfold BIf at p
    cases ok with
    | true =>
      rw [if_pos rfl] at p ⊢
      exact wpAny_mono p (fun y s₂ p => compEnd_mono (fun y' n' hj => ih (i + 1) _ n' (by omega) hj) p) fun _ _ e => e
    | false =>
      rw [if_neg (by decide)] at p ⊢
      exact compEnd_mono (fun y' n' hj => ih (i + 1) _ n' (by omega) hj) p
end
section
variable {prog : Program} {w : World} {A : Around} {E : Value → Shared → Prop} {s : Shared} {h₀ : Heap} {L : Addr} {news : List (Addr × Obj)} {Q : Value → Shared → Prop}
theorem pair_eq_mine {p1 p2 : Addr} {a b c d : Int} {t1 t2 t3 t4 : Tok} (N : News h₀ L s.heap news) (h1 : (p1, pairObj a b t1 t2) ∈ news) (h2 : (p2, pairObj c d t3 t4) ∈ news) (hu : A.units + 64 < cLine) (h : Q (.bool (decide (a = c ∧ b = d))) s) :
    wpAny (model prog w) A (compareOp .Eq (.ref p1) (.ref p2)) Q E s := by
  refine eq_dataH (reads_tuple_at (N.get h1) rfl rfl (.cons (.int _ _) (.cons (.int _ _) .nil))) (reads_tuple_at (N.get h2) rfl rfl (.cons (.int _ _) (.cons (.int _ _) .nil))) rfl rfl hu ?_
  rw [show (PyData.eqv (PyData.tuple [PyData.int a, PyData.int b]) (PyData.tuple [PyData.int c, PyData.int d])) = decide (a = c ∧ b = d) by
    simp only [PyData.eqv, PyData.eqvAll, Bool.and_true]
    by_cases e1 : a = c <;> by_cases e2 : b = d <;> simp [e1, e2]]
  exact h
theorem ints_eq {l1 l2 : Addr} {v1 v2 : List Value} {k1 k2 : List Int} {n1 n2 : Nat} (N : News h₀ L s.heap news) (h1 : (l1, listOf v1.toArray n1) ∈ news) (h2 : (l2, listOf v2.toArray n2) ∈ news) (i1 : IntsAre v1 k1) (i2 : IntsAre v2 k2) (hu : A.units + 64 < cLine) (h : Q (.bool (decide (k1 = k2))) s) :
    wpAny (model prog w) A (compareOp .Eq (.ref l1) (.ref l2)) Q E s := ke_eq_ints (N.isList h1) (N.isList h2) i1 i2 hu h
end
local macro_rules | `(tactic| walk_at "compareOp Eq ref ref") => `(tactic| (k_here; (with_reducible show wpAny _ _ (compareOp CmpOp.Eq (Value.ref _) (Value.ref _)) _ _ _); k_dflt (first
  | (refine' pair_eq_mine ?N ?a ?b ?u ?_; (case N => k_asm); (case a => k_mem); (case b => k_mem); (case u => ktr_units))
  | (refine' ints_eq (v2 := []) ?N ?a ?b ?i ?j ?u ?_; (case N => k_asm); (case a => k_mem); (case b => k_mem); (case i => assumption); (case j => exact IntsAre.nil); (case u => ktr_units)))))
theorem z_dec {z : Bool} {p q : Prop} {i : Decidable q} (h : z = true ↔ p) (e : p ↔ q) : z = @decide q i := by
  by_cases hq : q
  · rw [decide_eq_true hq]; exact h.mpr (e.mpr hq)
  · rw [decide_eq_false hq]
    cases z with
    | false => rfl
    | true => exact absurd (e.mp (h.mp rfl)) hq
local macro_rules | `(tactic| ktr_rel) => `(tactic| (refine' z_dec ?hz ?hp; (case hz => assumption); (case hp => first | omega | (exact Iff.symm (by assumption)) | (rename decide (_ ∧ _) = _ => hq9; simp only [decide_eq_true_eq, decide_eq_false_iff_not] at hq9; omega))))
theorem five_no {z1 z2 z3 z4 z5 y1 y2 y3 y4 y5 : Bool} (h : (z1 == y1 && (z2 == y2 && (z3 == y3 && (z4 == y4 && z5 == y5)))) = false) (e1 : z1 = y1) (e2 : z2 = y2) (e3 : z3 = y3) (e4 : z4 = y4) (e5 : z5 = y5) : False := by
  subst e1 e2 e3 e4 e5
  simp at h
local macro_rules | `(tactic| walk_at "subscriptTail Name Constant ref int") => `(tactic| (k_here; k_dflt (refine' first_mine ?N ?a ?i ?z ?_ ?s ?g; (case N => k_asm); (case a => k_mem); (case i => assumption); (case z => omega); (case s => with_unfolding_all rfl); (case g => (intro r; with_unfolding_all rfl))); intro t9'))
local macro_rules | `(tactic| walk_at "subscriptTail Name UnaryOp ref int") => `(tactic| (k_here; k_dflt (refine' last_mine ?N ?a ?i ?z ?e ?_ ?s; (case N => k_asm); (case a => k_mem); (case i => assumption); (case z => omega); (case e => exact last_end (by omega)); (case s => with_unfolding_all rfl)); intro t9'))
local macro_rules | `(tactic| walk_at "compareOp In int ref") => `(tactic| (k_here; k_dflt (refine' in_mine ?N ?a ?i ?z ?_; (case N => k_asm); (case a => k_mem); (case i => assumption); (case z => omega))))
local macro_rules | `(tactic| walk_at "compareOp NotIn int ref") => `(tactic| (k_here; k_dflt (refine' notin_mine ?N ?a ?i ?z ?_; (case N => k_asm); (case a => k_mem); (case i => assumption); (case z => omega))))
local macro_rules | `(tactic| walk_at "CompSrcT") => `(tactic| (k_here; k_dflt (refine hold_of ?_)))
local macro_rules | `(tactic| walk_at "call ref") => `(tactic| (k_here; k_dflt (first
  | (first
    | (refine' Ctr.use (after_c _ _ _ _ _ _ _ _ _ _ _ _ _ _ _ _ _ _ _ _ _ ?c1 ?c2 ?c3 ?c4) ?cB ?cF ?cX ?cN ?cT ?ck ?cd ?cu ?cp ?_)
    | (refine' Ctr.use (before_c _ _ _ _ _ _ _ _ _ _ _ _ _ _ _ _ _ _ _ _ _ ?c1 ?c2 ?c3 ?c4) ?cB ?cF ?cX ?cN ?cT ?ck ?cd ?cu ?cp ?_)
    | (refine' Ctr.use (contains_c _ _ _ _ _ _ _ _ _ _ _ _ _ _ _ _ _ _ _ _ _ ?c1 ?c2 ?c3 ?c4) ?cB ?cF ?cX ?cN ?cT ?ck ?cd ?cu ?cp ?_)
    | (refine' Ctr.use (overlap_c _ _ _ _ _ _ _ _ _ _ _ _ _ _ _ _ _ _ _ _ _ ?c1 ?c2 ?c3 ?c4) ?cB ?cF ?cX ?cN ?cT ?ck ?cd ?cu ?cp ?_)
    | (refine' Ctr.use (eq_c _ _ _ _ _ _ _ _ _ _ _ _ _ _ _ _ _ _ _ _ _ ?c1 ?c2 ?c3 ?c4) ?cB ?cF ?cX ?cN ?cT ?ck ?cd ?cu ?cp ?_)); (case cN => k_asm); (case c1 => k_mem); (case c2 => k_mem); (case c3 => k_mem); (case c4 => k_mem); (case cB => k_asm); (case cF => k_asm); (case cX => k_asm); (case cT => k_asm); (case ck => exact rfl); (case cd => ktr_room); (case cu => ktr_units); (case cp => trivial); intro r' h' tk' n' F' N' hP'; obtain ⟨e1', z', e2', hz'⟩ := hP'; subst e1'; subst e2'
  | (refine' Ctr.use (places_c _ _ _ _ _ _ _ _ _ _ _ _ ?c1 ?c2 ?c3 ?c4) ?cB ?cF ?cX ?cN ?cT ?ck ?cd ?cu ?cp ?_; (case cN => k_asm); (case c1 => k_mem); (case c2 => omega); (case c3 => omega); (case c4 => omega); (case cB => k_asm); (case cF => k_asm); (case cX => k_asm); (case cT => k_asm); (case ck => exact rfl); (case cd => ktr_room); (case cu => ktr_units); (case cp => trivial); intro r' h' tk' n' F' N' hP'; obtain ⟨D', vs', n2', e1', e2', l1', hI'⟩ := hP'; subst e1'; subst e2'))))

set_option maxHeartbeats 4000000 in
theorem innerTurn (w : World) (p loose mean mg mb) (dp un : Nat) (gd : Option (List Code)) (fa : Addr) (ccd : Value) (outer : List Env) (A₀ : Around) (base h₀ : Heap) (L : Addr) (Q : Flow → Shared → Prop) (s : Shared)
    (B : Below A₀ base outer h₀) (X : (Mine.hd.heap_39 w.params).In h₀) (T : Top p loose mean mg mb h₀) (hd : dp + 30 < recursionLimit) (hu : un + 300 < cLine) (hL : @LT.lt Nat _ 86 L) (oc : Obj) (Dw : Addr) (vw : List Value) (nw : Nat) (Z : List (Addr × Obj)) (m : Str → Option Value)
    (x1 dx1 x2 dx2 p1 p2 : Addr) (a b c d : Int) (ta tb tc td te tf tg th ti tj : Tok) (hx1 : (x1, tokObj dx1 a b ta tb tc) ∈ Z) (hdx1 : (dx1, dictOf [] 0) ∈ Z) (hx2 : (x2, tokObj dx2 c d td te tf) ∈ Z) (hdx2 : (dx2, dictOf [] 0) ∈ Z)
    (hp1 : (p1, pairObj a b tg th) ∈ Z) (hp2 : (p2, pairObj c d ti tj) ∈ Z) (hoc : oc.data = .cell (some (.ref Dw))) (hw : (Dw, listOf vw.toArray nw) ∈ Z) (hwi : IntsAre vw (rangeKs a (b + 1 - a).toNat))
    (ba : 0 ≤ a) (bb : a ≤ b) (bc : b < 100) (bd : 0 ≤ c) (be : c ≤ d) (bf : d < 100)
    (m1 : m (Str.ofString "one") = some (.ref x1)) (m2 : m (Str.ofString "pair") = some (.ref p1)) (m3 : m (Str.ofString "other") = some (.ref x2)) (m4 : m (Str.ofString "second") = some (.ref p2))
    (F : Fr h₀ L s.heap m) (N : News h₀ L s.heap ((L + 1, oc) :: Z))
    (next : ∀ m' h' tk', Fr h₀ L h' m' → News h₀ L h' ((L + 1, oc) :: Z) → (∀ y, y ≠ Str.ofString "far" → y ≠ Str.ofString "told" → y ≠ Str.ofString "due" → m' y = m y) → Q .next { s with heap := h', toks := tk' }) :
    wpAny (model PySem.Challenge.rw_ew0012_01.row.prog w) (lawTop dp un gd L fa ccd outer) (execs inBody (lawEnv L fa ccd)) Q (fun _ _ => False) s := by
  with_unfolding_all show wpAny _ _ (execs (_ :: _ :: _ :: _ :: []) _) _ _ _
  k_with_none
  w_top off
  revert X; k_fill; intro X
  replace F := canon [(Str.ofString "one", .ref x1), (Str.ofString "pair", .ref p1), (Str.ofString "other", .ref x2), (Str.ofString "second", .ref p2)] (by simp [m1, m2, m3, m4]) F
  dsimp only [kstB] at F
  k_steps
  refine Hold.out ?_
  (rename Fr _ _ _ _ => F3)
  (rename News _ _ _ _ => N3)
  (rename IntsAre _ (rangeKs c _) => hfi)
  obtain ⟨Z2, N2, hm2, hm2'⟩ := nameLedger N3
  have w1 : (L + 1, oc) ∈ Z2 := hm2 _ (.tail _ (.tail _ (.head _)))
  have w2 : ∀ q ∈ Z, q ∈ Z2 := fun q hq => hm2 _ (.tail _ (.tail _ (.tail _ hq)))
  have w3 := hm2 _ (.tail _ (.head _))
  have w4 := w2 _ hw
  have w5 := w2 _ hp1
  have w6 := w2 _ hp2
  have w7 := hm2 _ (.head _)
  have hfl := hfi.length
  rw [rangeKs_length] at hfl
  refine LCt.CompSrcT.ledger (by rfl) F3 N2 w3 (by rw [List.size_toArray, sizeLine_eq, hfl]; omega) ?_
  intro g
  refine compRestT_of (fun i ys nx => nx = Z2 ∧ ∃ ks, IntsAre ys ks ∧ ks.length ≤ i ∧ (ks = [] ↔ ∀ k : Nat, k < i → a ≤ c + (k : Int) ∧ c + (k : Int) ≤ b)) ?_ ?_ _ 0 [] _ (Nat.zero_add _) ⟨rfl, [], .nil, Nat.le_refl _, by simp⟩
  · rintro ys nx ⟨rfl, ks, k1, k2, k3⟩ D8 h8 tk8 F8 N8 o8
    rw [List.size_toArray, hfl] at k2 k3
    have k4 : ks = [] ↔ (a ≤ c ∧ d ≤ b) := by
      rw [k3]
      constructor
      · intro h
        have h0 := h 0 (by omega)
        have h1 := h (d - c).toNat (by omega)
        omega
      · intro h k hk; omega
    clear k3
    clear N2 N3 F3
    k_steps
    all_goals (try (exfalso; refine' five_no ?h ?e1 ?e2 ?e3 ?e4 ?e5; (case h => assumption); (case e1 => ktr_rel); (case e2 => ktr_rel); (case e3 => ktr_rel); (case e4 => ktr_rel); (case e5 => ktr_rel); done))
    all_goals (rename News _ _ _ _ => N9)
    all_goals (rename Fr _ _ _ _ => F9)
    all_goals (refine next _ _ _ F9 (newsSub N9 fun q hq => ?_) ?_)
    all_goals (first
      | (rcases List.mem_cons.mp hq with rfl | hq
         · k_mem
         · (have hq8 := w2 q hq); k_mem)
      | (intro y h1 h2 h3
         (try dsimp only)
         simp only [if_neg h1, if_neg h2, if_neg h3]
         (repeat' split) <;> simp_all))
  · rintro i ys nx hin ⟨rfl, ks, k1, k2, k3⟩ v I oI C oC D m2 h tk E' hv b1 b2 b4 b5 b6 b7
    obtain ⟨t, hv'⟩ := hfi.get i (c + (i : Int)) (by
      rw [List.size_toArray, hfl] at hin
      simp [rangeKs, hin])
    have hv2 : v = .int (c + (i : Int)) t := by
      have hv3 := hv
      rw [List.getElem?_toArray, hv'] at hv3; exact (Option.some.inj hv3).symm
    subst hv2
    k_steps
    refine BIf.out (fun hq => ?_) (fun hq => ?_)
    · have hq2 : ¬ (a ≤ c + (i : Int) ∧ c + (i : Int) ≤ b) := by simpa only [Bool.not_eq_true', decide_eq_false_iff_not] using hq
      k_steps
      refine ⟨_, _, _, rfl, by assumption, by assumption, b6, .inr ⟨_, w3, rfl, _, rfl⟩, rfl, ks ++ [c + (i : Int)], ?_, ?_, ?_⟩
      · exact ints_snoc k1 _ _
      · rw [List.length_append]; exact Nat.succ_le_succ k2
      · constructor
        · intro h; exact absurd h (by simp)
        · intro h; exact absurd (h i (Nat.lt_succ_self _)) hq2
    · have hq2 : (a ≤ c + (i : Int) ∧ c + (i : Int) ≤ b) := by simpa only [Bool.not_eq_false', decide_eq_true_eq] using hq
      refine ⟨_, _, _, rfl, by assumption, by assumption, b6, .inr ⟨_, w3, rfl, _, rfl⟩, rfl, ks, k1, Nat.le_succ_of_le k2, ?_⟩
      rw [k3]
      constructor
      · intro h k hk
        rcases Nat.lt_succ_iff_lt_or_eq.mp hk with hk | rfl
        · exact h k hk
        · exact hq2
      · intro h k hk; exact h k (Nat.lt_succ_of_lt hk)
end Mine
end

section
open PySem PySem.W PyProof.Rows
set_option maxRecDepth 100000
set_option linter.unusedVariables false
set_option linter.unusedSimpArgs false
set_option rowWalk.seconds 0
namespace Mine
local macro_rules | `(tactic| walk_at "none such") => `(tactic| fail "none such")
local macro_rules | `(tactic| walk_at "none such") => `(tactic| fail "none such")
local macro_rules | `(tactic| walk_at "none such") => `(tactic| fail "none such")
local macro_rules | `(tactic| walk_at "none such") => `(tactic| fail "none such")
local macro_rules | `(tactic| walk_at "none such") => `(tactic| fail "none such")
local macro_rules | `(tactic| walk_at "none such") => `(tactic| fail "none such")
local macro_rules | `(tactic| walk_at "none such") => `(tactic| fail "none such")
local macro_rules | `(tactic| walk_at "none such") => `(tactic| fail "none such")
local macro_rules | `(tactic| walk_at "none such") => `(tactic| fail "none such")
local macro_rules | `(tactic| walk_at "none such") => `(tactic| fail "none such")
local macro_rules | `(tactic| walk_at "none such") => `(tactic| fail "none such")
local macro_rules | `(tactic| walk_at "none such") => `(tactic| fail "none such")
local macro_rules | `(tactic| walk_at "none such") => `(tactic| fail "none such")
local macro_rules | `(tactic| walk_at "none such") => `(tactic| fail "none such")
local macro_rules | `(tactic| walk_at "none such") => `(tactic| fail "none such")
local macro_rules | `(tactic| walk_at "none such") => `(tactic| fail "none such")
local macro_rules | `(tactic| walk_at "none such") => `(tactic| fail "none such")
local macro_rules | `(tactic| walk_at "none such") => `(tactic| fail "none such")
local macro_rules | `(tactic| walk_at "none such") => `(tactic| fail "none such")
local macro_rules | `(tactic| walk_at "none such") => `(tactic| fail "none such")
local macro_rules | `(tactic| walk_at "none such") => `(tactic| fail "none such")
local macro_rules | `(tactic| walk_at "none such") => `(tactic| fail "none such")
local macro_rules | `(tactic| walk_at "none such") => `(tactic| fail "none such")
local macro_rules | `(tactic| walk_at "none such") => `(tactic| fail "none such")
local macro_rules | `(tactic| walk_at "none such") => `(tactic| fail "none such")
local macro_rules | `(tactic| k_room) => `(tactic| ktr_room)
local macro_rules | `(tactic| k_units) => `(tactic| ktr_units)
local macro_rules | `(tactic| k_all) => `(tactic| (first | with_reducible assumption | (refine' ne_all ?nh ?nx; (case nh => assumption); (case nx => omega)) | fail "ne_all"))
local macro_rules | `(tactic| k_updF) => `(tactic| first | (refine' Del.head ?a; (case a => k_all)) | (refine' Del.tail ?a ?b; (case a => k_ne); (case b => k_updF)))
local macro_rules | `(tactic| k_updF) => `(tactic| first | exact Pre.nil | (refine' Pre.cons ?a ?b; (case a => (refine leN ?_; (try dsimp only); omega)); (case b => k_updF)))
local macro_rules | `(tactic| k_mem) => `(tactic| first | with_reducible assumption | exact List.mem_cons_self | (refine' List.mem_cons_of_mem _ ?_; k_mem))
local macro_rules | `(tactic| walk_at "UnrEnd") => `(tactic| (refine' unrEnd_del ?uF ?uN ?uD ?_; (case uF => k_asm); (case uN => k_asm); (case uD => k_updF)))
local macro_rules | `(tactic| tb_rel) => `(tactic| first | (refine List.forall_mem_cons.mpr ⟨?ha, ?hb⟩; (case ha => (first | (refine ltN ?_; (try dsimp only); omega) | (refine leN ?_; (try dsimp only); omega) | (refine And.intro (neN ?_) (neN ?_) <;> ((try dsimp only); omega)))); (case hb => tb_rel)) | assumption | exact List.forall_mem_nil _)
local macro_rules | `(tactic| walk_at "binaryOp Add ref ref") => `(tactic| (k_here; (with_reducible show wpAny _ _ (binaryOp _ (Value.ref _) (Value.ref _)) _ _ _); k_dflt (refine' add_mine ?F ?N ?a ?b ?z ?_; (case F => k_asm); (case N => k_asm); (case a => k_mem); (case b => k_mem); (case z => (simp only [List.size_toArray, List.length_append, List.length_drop, List.length_take]; omega))); intro D' h' F' N' l1; (try k_lt l1); (try k_sweep)))
local macro_rules | `(tactic| walk_at "call builtin:len") => `(tactic| (k_here; (with_reducible show wpAny _ _ (call (Value.builtin _) [Value.ref _]) _ _ _); k_dflt (refine' len_mine ?N ?a ?z ?_; (case N => k_asm); (case a => k_mem); (case z => (simp only [List.size_toArray]; omega)))))
local macro_rules | `(tactic| walk_at "subscriptTail Name Slice ref ref") => `(tactic| (k_here; (with_reducible show wpAny _ _ (subscriptTail _ (PySem.Expr.Slice _ _ none _) (Value.ref _) (Value.ref _)) _ _ _); k_dflt (first
  | (refine' slice_from_mine ?F ?N ?a ?k ?z ?_ ?s ?t; (case F => k_asm); (case N => k_asm); (case a => k_mem); (case k => assumption); (case z => (simp only [List.size_toArray]; omega)); (case s => with_unfolding_all rfl); (case t => (intro r; with_unfolding_all rfl)))
  | (refine' slice_upto_mine ?F ?N ?a ?k ?z ?_ ?s ?t; (case F => k_asm); (case N => k_asm); (case a => k_mem); (case k => assumption); (case z => (simp only [List.size_toArray]; omega)); (case s => with_unfolding_all rfl); (case t => (intro r; with_unfolding_all rfl)))); intro D' h' F' N' l1; (try k_lt l1); (try k_sweep)))
def inFor : Stmt := (outBody.drop 2).headD (.Pass default)

theorem allObj_of {I : Addr} {k : List (Addr × Obj) → Prop} (h : ∀ its : List (Addr × Obj), (∀ p ∈ its, @LE.le Nat _ I p.1) → k its) :
    AllObj [(I + 4, "zip"), (I + 2, "tuple"), (I + 3, "tuple"), (I, "list_iterator"), (I + 1, "list_iterator")] k := by
  intro o1 _ o2 _ o3 _ o4 _ o5 _
  refine h _ fun p hp => ?_
  simp only [List.mem_cons, List.not_mem_nil, or_false] at hp
  rcases hp with rfl | rfl | rfl | rfl | rfl
  · exact Nat.le_add_right _ _
  · exact Nat.le_add_right _ _
  · exact Nat.le_add_right _ _
  · exact Nat.le_refl _
  · exact Nat.le_add_right _ _
theorem unrPostW_mono {h₀ : Heap} {L : Addr} {s₁ s₂ : Shared} {its : List (Addr × Obj)} {Q : Flow → Shared → Prop} {rest rest' : (Str → Option Value) → List (Addr × Obj) → Prop} {f : Flow} (hr : ∀ m n, rest m n → rest' m n) (h : UnrPostW h₀ L s₁ its rest Q f s₂) : UnrPostW h₀ L s₁ its rest' Q f s₂ := by
  have up : UnrEndW h₀ L s₁ its rest s₂ → UnrEndW h₀ L s₁ its rest' s₂ := fun ⟨h', tk, m', n', e, F, N, o, r⟩ => ⟨h', tk, m', n', e, F, N, o, hr _ _ r⟩
  cases f with
  | ret v => exact h
  | brk => exact h
  | next => exact up h
  | cont => exact up h
section
variable {prog : Program} {w : World} {A : Around} {E : Value → Shared → Prop} {s : Shared} {env : Env} {h₀ : Heap} {target : Expr} {body : List Stmt} {Q : Flow → Shared → Prop}
theorem zipRest_of {I : Addr} {keep : List (Addr × Obj)} {xs ys : List Value} {n : Nat} (hx : xs.length = n) (hy : ys.length = n) (J : Nat → (Str → Option Value) → List (Addr × Obj) → Prop)
    (hend : ∀ m news, J n m news → ∀ h tk, Fr h₀ env.locals h m → News h₀ env.locals h news → Q .next { s with heap := h, toks := tk })
    (turn : ∀ i m news, i < n → J i m news → ∀ x y, xs[i]? = some x → ys[i]? = some y → ∀ T h tk its, IsTup h T #[x, y] → Fr h₀ env.locals h m → (∀ p ∈ its, @LE.le Nat _ I p.1) → News h₀ env.locals h (its ++ news) →
      wpAny (model prog w) A (assign target env (.ref T)) (fun _ s₂ => wpAny (model prog w) A (execs body env) (UnrPostW h₀ env.locals { s with heap := h, toks := tk } its (fun m' n' => SubL keep n' ∧ J (i + 1) m' n') Q) E s₂) E { s with heap := h, toks := tk }) :
    ∀ k i m news, i + k = n → J i m news → ItemsRest prog w A E h₀ env target body Q s [(I + 4, "zip"), (I + 2, "tuple"), (I + 3, "tuple"), (I, "list_iterator"), (I + 1, "list_iterator")] keep (zipItems (xs.drop i) (ys.drop i)) m news := by
  intro k
  induction k with
  | zero =>
    intro i m news e hJ
    have e' : i = n := by omega
    subst e'
    rw [List.drop_of_length_le (by omega)]
    exact hend m news hJ
  | succ k ih =>
    intro i m news e hJ
    have hi1 : i < xs.length := by omega
    have hi2 : i < ys.length := by omega
    rw [List.drop_eq_getElem_cons hi1, List.drop_eq_getElem_cons hi2]
    refine ItemsRest.pair fun T t h tk hT F => allObj_of fun its hits N => ?_
    refine wpAny_mono (turn i m news (by omega) hJ xs[i] ys[i] (List.getElem?_eq_getElem hi1) (List.getElem?_eq_getElem hi2) T h tk its hT F hits N) (fun _ s₂ p => wpAny_mono p (fun f s₃ q => unrPostW_mono (fun m' n' hj => ⟨hj.1, ih (i + 1) m' n' (by omega) hj.2⟩) q) fun _ _ e => e) fun _ _ e => e
end
local macro_rules | `(tactic| walk_at "call type:zip") => `(tactic| (k_here; k_dflt (refine hold_of ?_)))

set_option maxHeartbeats 4000000 in
theorem innerLoop (w : World) (p loose mean mg mb) (dp un : Nat) (gd : Option (List Code)) (fa : Addr) (ccd : Value) (outer : List Env) (A₀ : Around) (base h₀ : Heap) (L : Addr) (Q : Flow → Shared → Prop) (s : Shared)
    (B : Below A₀ base outer h₀) (X : (Mine.hd.heap_39 w.params).In h₀) (T : Top p loose mean mg mb h₀) (hd : dp + 30 < recursionLimit) (hu : un + 300 < cLine) (hL : @LT.lt Nat _ 86 L) (oc : Obj) (Dw : Addr) (vw : List Value) (nw : Nat) (Z : List (Addr × Obj)) (m : Str → Option Value)
    (x1 dx1 p1 : Addr) (a b : Int) (ta tb tc tg th : Tok) (hx1 : (x1, tokObj dx1 a b ta tb tc) ∈ Z) (hdx1 : (dx1, dictOf [] 0) ∈ Z)
    (hp1 : (p1, pairObj a b tg th) ∈ Z) (hoc : oc.data = .cell (some (.ref Dw))) (hw : (Dw, listOf vw.toArray nw) ∈ Z) (hwi : IntsAre vw (rangeKs a (b + 1 - a).toNat))
    (ba : 0 ≤ a) (bb : a ≤ b) (bc : b < 100)
    (lt lp : Addr) (vt vp : List Value) (nt np : Nat) (ps : List (Int × Int)) (hlt : (lt, listOf vt.toArray nt) ∈ Z) (hlp : (lp, listOf vp.toArray np) ∈ Z) (ht : All2 (TokAt Z) vt ps) (hp : All2 (PairAt Z) vp ps) (hbd : ∀ q ∈ ps, 0 ≤ q.1 ∧ q.1 ≤ q.2 ∧ q.2 < 100)
    (m1 : m (Str.ofString "one") = some (.ref x1)) (m2 : m (Str.ofString "pair") = some (.ref p1)) (m3 : m (Str.ofString "tokens") = some (.ref lt)) (m4 : m (Str.ofString "pairs") = some (.ref lp))
    (F : Fr h₀ L s.heap m) (N : News h₀ L s.heap ((L + 1, oc) :: Z))
    (next : ∀ m' h' tk', Fr h₀ L h' m' → News h₀ L h' ((L + 1, oc) :: Z) → (∀ y, y ≠ Str.ofString "far" → y ≠ Str.ofString "told" → y ≠ Str.ofString "due" → y ≠ Str.ofString "other" → y ≠ Str.ofString "second" → m' y = m y) → Q .next { s with heap := h', toks := tk' }) :
    wpAny (model PySem.Challenge.rw_ew0012_01.row.prog w) (lawTop dp un gd L fa ccd outer) (exec inFor (lawEnv L fa ccd)) Q (fun _ _ => False) s := by
  replace F := canon [(Str.ofString "tokens", .ref lt), (Str.ofString "pairs", .ref lp)] (by simp [m3, m4]) F
  dsimp only [kstB] at F
  with_unfolding_all show wpAny _ _ (exec (.For _ _ inBody _ _) _) _ _ _
  generalize eB : inBody = bd
  k_with_none
  w_top off
  revert X; k_fill; intro X
  with_unfolding_all refine For_turns F ?_ ?_ ?_
  rotate_left
  · intro x; with_unfolding_all rfl
  · passes_own
  k_steps
  refine Hold.out ?_
  (rename Fr _ _ _ _ => F2)
  (rename News _ _ _ _ => N2)
  with_unfolding_all refine ktu_zip (lo1 := listOf vt.toArray nt) (lo2 := listOf vp.toArray np) (xs := vt) (ys := vp) (by rfl) F2 N2 (.tail _ hlt) rfl rfl (.tail _ hlp) rfl rfl ?_
  intro I hI
  refine zipRest_of (n := ps.length) ht.length hp.length (fun _ m1 nx => nx = (L + 1, oc) :: Z ∧ ∀ y, y ≠ Str.ofString "far" → y ≠ Str.ofString "told" → y ≠ Str.ofString "due" → y ≠ Str.ofString "other" → y ≠ Str.ofString "second" → m1 y = m y) ?_ ?_ _ 0 _ _ (Nat.zero_add _) ⟨rfl, ?_⟩
  · rintro m' nx ⟨rfl, hm⟩ h tk F' N'
    exact next _ _ _ F' N' hm
  · clear next F2 N2
    rintro i m' nx hin ⟨rfl, hm⟩ v y hv hy T h tk its hT F' hits N'
    have hqi := hbd _ (List.getElem_mem hin)
    obtain ⟨x2, dx2, ta2, tb2, tc2, rfl, hx2, hdx2⟩ := ht.get hv (List.getElem?_eq_getElem hin)
    obtain ⟨p2, tg2, th2, rfl, hp2⟩ := hp.get hy (List.getElem?_eq_getElem hin)
    generalize ps[i] = q at *
    obtain ⟨c, d⟩ := q
    obtain ⟨q0, q1, q2⟩ := hqi
    have N3 := newsSub N' (n' := (L + 1, oc) :: (its ++ Z)) (by intro q hq; simp only [List.mem_cons, List.mem_append] at hq ⊢; grind)
    clear N'
    k_steps
    subst eB
    (rename News _ _ _ _ => N4)
    (rename Fr _ _ _ _ => F4)
    have up : ∀ q ∈ Z, q ∈ its ++ Z := fun q hq => List.mem_append_right _ hq
    refine innerTurn w p loose mean mg mb dp un gd fa ccd outer A₀ base h₀ L _ _ B X (by assumption) hd hu hL oc Dw vw nw (its ++ Z) _ x1 dx1 x2 dx2 p1 p2 a b c d ta tb tc ta2 tb2 tc2 tg th tg2 th2 (up _ hx1) (up _ hdx1) (up _ hx2) (up _ hdx2) (up _ hp1) (up _ hp2) hoc (up _ hw) hwi ba bb bc q0 q1 q2 ?_ ?_ rfl rfl F4 N4 ?_
    · exact (hm _ (by decide) (by decide) (by decide) (by decide) (by decide)).trans m1
    · exact (hm _ (by decide) (by decide) (by decide) (by decide) (by decide)).trans m2
    · intro m5 h5 tk5 F5 N5 hm5
      refine ⟨h5, tk5, m5, (L + 1, oc) :: Z, rfl, F5, newsSub N5 ?_, ?_, ⟨.tail _ hlt, .tail _ hlp, trivial⟩, rfl, ?_⟩
      · intro q hq; simp only [List.mem_cons, List.mem_append] at hq ⊢; grind
      · intro q hq r hr
        exact Nat.ne_of_lt (Nat.lt_of_lt_of_le (hI q hq) (hits r hr))
      · intro y h1 h2 h3 h4 h5
        rw [hm5 y h1 h2 h3]
        show (if y = Str.ofString "second" then _ else if y = Str.ofString "other" then _ else m' y) = _
        rw [if_neg h5, if_neg h4]
        exact hm y h1 h2 h3 h4 h5
  · intro y _ _ _ _ _
    (try dsimp only)
    (repeat' split) <;> simp_all
end Mine
end

section
open PySem PySem.W PyProof.Rows
set_option maxRecDepth 100000
set_option linter.unusedVariables false
set_option linter.unusedSimpArgs false
set_option rowWalk.seconds 0
namespace Mine
local macro_rules | `(tactic| k_room) => `(tactic| ktr_room)
local macro_rules | `(tactic| k_units) => `(tactic| ktr_units)
local macro_rules | `(tactic| k_all) => `(tactic| (first | with_reducible assumption | (refine' ne_all ?nh ?nx; (case nh => assumption); (case nx => omega)) | fail "ne_all"))
local macro_rules | `(tactic| k_updF) => `(tactic| first | (refine' Del.head ?a; (case a => k_all)) | (refine' Del.tail ?a ?b; (case a => k_ne); (case b => k_updF)))
local macro_rules | `(tactic| k_updF) => `(tactic| first | exact Pre.nil | (refine' Pre.cons ?a ?b; (case a => (refine leN ?_; (try dsimp only); omega)); (case b => k_updF)))
local macro_rules | `(tactic| k_mem) => `(tactic| first | with_reducible assumption | exact List.mem_cons_self | (refine' List.mem_cons_of_mem _ ?_; k_mem))
local macro_rules | `(tactic| walk_at "UnrEnd") => `(tactic| (refine' unrEnd_del ?uF ?uN ?uD ?_; (case uF => k_asm); (case uN => k_asm); (case uD => k_updF)))
local macro_rules | `(tactic| tb_rel) => `(tactic| first | (refine List.forall_mem_cons.mpr ⟨?ha, ?hb⟩; (case ha => (first | (refine ltN ?_; (try dsimp only); omega) | (refine leN ?_; (try dsimp only); omega) | (refine And.intro (neN ?_) (neN ?_) <;> ((try dsimp only); omega)))); (case hb => tb_rel)) | assumption | exact List.forall_mem_nil _)
local macro_rules | `(tactic| walk_at "binaryOp Add ref ref") => `(tactic| (k_here; (with_reducible show wpAny _ _ (binaryOp _ (Value.ref _) (Value.ref _)) _ _ _); k_dflt (refine' add_mine ?F ?N ?a ?b ?z ?_; (case F => k_asm); (case N => k_asm); (case a => k_mem); (case b => k_mem); (case z => (simp only [List.size_toArray, List.length_append, List.length_drop, List.length_take]; omega))); intro D' h' F' N' l1; (try k_lt l1); (try k_sweep)))
local macro_rules | `(tactic| walk_at "call builtin:len") => `(tactic| (k_here; (with_reducible show wpAny _ _ (call (Value.builtin _) [Value.ref _]) _ _ _); k_dflt (refine' len_mine ?N ?a ?z ?_; (case N => k_asm); (case a => k_mem); (case z => (simp only [List.size_toArray]; omega)))))
local macro_rules | `(tactic| walk_at "subscriptTail Name Slice ref ref") => `(tactic| (k_here; (with_reducible show wpAny _ _ (subscriptTail _ (PySem.Expr.Slice _ _ none _) (Value.ref _) (Value.ref _)) _ _ _); k_dflt (first
  | (refine' slice_from_mine ?F ?N ?a ?k ?z ?_ ?s ?t; (case F => k_asm); (case N => k_asm); (case a => k_mem); (case k => assumption); (case z => (simp only [List.size_toArray]; omega)); (case s => with_unfolding_all rfl); (case t => (intro r; with_unfolding_all rfl)))
  | (refine' slice_upto_mine ?F ?N ?a ?k ?z ?_ ?s ?t; (case F => k_asm); (case N => k_asm); (case a => k_mem); (case k => assumption); (case z => (simp only [List.size_toArray]; omega)); (case s => with_unfolding_all rfl); (case t => (intro r; with_unfolding_all rfl)))); intro D' h' F' N' l1; (try k_lt l1); (try k_sweep)))
local macro_rules | `(tactic| walk_at "call ref") => `(tactic| (k_here; k_dflt (first
  | (first
    | (refine' Ctr.use (after_c _ _ _ _ _ _ _ _ _ _ _ _ _ _ _ _ _ _ _ _ _ ?c1 ?c2 ?c3 ?c4) ?cB ?cF ?cX ?cN ?cT ?ck ?cd ?cu ?cp ?_)
    | (refine' Ctr.use (before_c _ _ _ _ _ _ _ _ _ _ _ _ _ _ _ _ _ _ _ _ _ ?c1 ?c2 ?c3 ?c4) ?cB ?cF ?cX ?cN ?cT ?ck ?cd ?cu ?cp ?_)
    | (refine' Ctr.use (contains_c _ _ _ _ _ _ _ _ _ _ _ _ _ _ _ _ _ _ _ _ _ ?c1 ?c2 ?c3 ?c4) ?cB ?cF ?cX ?cN ?cT ?ck ?cd ?cu ?cp ?_)
    | (refine' Ctr.use (overlap_c _ _ _ _ _ _ _ _ _ _ _ _ _ _ _ _ _ _ _ _ _ ?c1 ?c2 ?c3 ?c4) ?cB ?cF ?cX ?cN ?cT ?ck ?cd ?cu ?cp ?_)
    | (refine' Ctr.use (eq_c _ _ _ _ _ _ _ _ _ _ _ _ _ _ _ _ _ _ _ _ _ ?c1 ?c2 ?c3 ?c4) ?cB ?cF ?cX ?cN ?cT ?ck ?cd ?cu ?cp ?_)); (case cN => k_asm); (case c1 => k_mem); (case c2 => k_mem); (case c3 => k_mem); (case c4 => k_mem); (case cB => k_asm); (case cF => k_asm); (case cX => k_asm); (case cT => k_asm); (case ck => exact rfl); (case cd => ktr_room); (case cu => ktr_units); (case cp => trivial); intro r' h' tk' n' F' N' hP'; obtain ⟨e1', z', e2', hz'⟩ := hP'; subst e1'; subst e2'
  | (refine' Ctr.use (places_c _ _ _ _ _ _ _ _ _ _ _ _ ?c1 ?c2 ?c3 ?c4) ?cB ?cF ?cX ?cN ?cT ?ck ?cd ?cu ?cp ?_; (case cN => k_asm); (case c1 => k_mem); (case c2 => omega); (case c3 => omega); (case c4 => omega); (case cB => k_asm); (case cF => k_asm); (case cX => k_asm); (case cT => k_asm); (case ck => exact rfl); (case cd => ktr_room); (case cu => ktr_units); (case cp => trivial); intro r' h' tk' n' F' N' hP'; obtain ⟨D', vs', n2', e1', e2', l1', hI'⟩ := hP'; subst e1'; subst e2'; (try k_lt l1')))))
local macro_rules | `(tactic| walk_at "call type:zip") => `(tactic| (k_here; k_dflt (refine hold_of ?_)))

local macro_rules | `(tactic| walk_at "exec For Tuple Call cons nil") => `(tactic| (k_here; k_dflt (refine hold_of ?_)))
local macro_rules | `(tactic| walk_at "last exec For") => `(tactic| (k_here; k_dflt (refine hold_of ?_)))
set_option maxHeartbeats 4000000 in
theorem outerTurn (w : World) (p loose mean mg mb) (dp un : Nat) (gd : Option (List Code)) (fa : Addr) (ccd : Value) (outer : List Env) (A₀ : Around) (base h₀ : Heap) (L : Addr) (Q : Flow → Shared → Prop) (s : Shared)
    (B : Below A₀ base outer h₀) (X : (Mine.hd.heap_39 w.params).In h₀) (T : Top p loose mean mg mb h₀) (hd : dp + 30 < recursionLimit) (hu : un + 300 < cLine) (hL : @LT.lt Nat _ 86 L) (oc : Obj) (v0 : Option Value) (Z : List (Addr × Obj)) (hZ : ∀ p ∈ Z, @Ne Nat p.1 (L + 1)) (m : Str → Option Value)
    (x1 dx1 p1 : Addr) (a b : Int) (ta tb tc tg th : Tok) (hx1 : (x1, tokObj dx1 a b ta tb tc) ∈ Z) (hdx1 : (dx1, dictOf [] 0) ∈ Z)
    (hp1 : (p1, pairObj a b tg th) ∈ Z) (hoc : oc.data = .cell v0)
    (ba : 0 ≤ a) (bb : a ≤ b) (bc : b < 100)
    (lt lp : Addr) (vt vp : List Value) (nt np : Nat) (ps : List (Int × Int)) (hlt : (lt, listOf vt.toArray nt) ∈ Z) (hlp : (lp, listOf vp.toArray np) ∈ Z) (ht : All2 (TokAt Z) vt ps) (hp : All2 (PairAt Z) vp ps) (hbd : ∀ q ∈ ps, 0 ≤ q.1 ∧ q.1 ≤ q.2 ∧ q.2 < 100)
    (m1 : m (Str.ofString "one") = some (.ref x1)) (m2 : m (Str.ofString "pair") = some (.ref p1)) (m3 : m (Str.ofString "tokens") = some (.ref lt)) (m4 : m (Str.ofString "pairs") = some (.ref lp))
    (F : Fr h₀ L s.heap m) (N : News h₀ L s.heap ((L + 1, oc) :: Z))
    (next : ∀ m' h' tk' oc' v', Fr h₀ L h' m' → News h₀ L h' ((L + 1, oc') :: Z) → oc'.data = .cell v' → (∀ y, y ≠ Str.ofString "far" → y ≠ Str.ofString "told" → y ≠ Str.ofString "due" → y ≠ Str.ofString "other" → y ≠ Str.ofString "second" → m' y = m y) → Q .next { s with heap := h', toks := tk' }) :
    wpAny (model PySem.Challenge.rw_ew0012_01.row.prog w) (lawTop dp un gd L fa ccd outer) (execs outBody (lawEnv L fa ccd)) Q (fun _ _ => False) s := by
  with_unfolding_all show wpAny _ _ (execs (_ :: _ :: inFor :: []) _) _ _ _
  generalize eB : inFor = fr
  k_with_none
  w_top off
  revert X; k_fill; intro X
  replace F := canon [(Str.ofString "one", .ref x1), (Str.ofString "pair", .ref p1), (Str.ofString "tokens", .ref lt), (Str.ofString "pairs", .ref lp)] (by simp [m1, m2, m3, m4]) F
  dsimp only [kstB] at F
  k_steps
  · exfalso
    (rename IntsAre _ (rangeKs a _) => hfi)
    have hfl := hfi.length
    rw [rangeKs_length] at hfl
    simp only [rangeKs_length, List.size_toArray, decide_eq_true_eq, decide_eq_false_iff_not, Bool.not_eq_true', Bool.not_eq_false'] at *
    omega
  · subst eB
    (rename IntsAre _ (rangeKs a _) => hfi)
    (rename Obj.data _ = .cell _ => hoc2)
    (rename (_ ∧ AllLt _ Z) => hlt2)
    (rename News _ _ _ _ => N2)
    (rename Fr _ _ _ _ => F2)
    have N3 := newsSub N2 swap2
    refine innerLoop w p loose mean mg mb dp un gd fa ccd outer A₀ base h₀ L _ _ B X (by assumption) hd hu hL _ _ _ _ (_ :: Z) _ x1 dx1 p1 a b ta tb tc tg th (.tail _ hx1) (.tail _ hdx1) (.tail _ hp1) hoc2 (.head _) hfi ba bb bc lt lp vt vp nt np ps (.tail _ hlt) (.tail _ hlp) (ht.mono fun _ _ x => x.mono fun _ hq => .tail _ hq) (hp.mono fun _ _ x => x.mono fun _ hq => .tail _ hq) hbd rfl rfl rfl rfl F2 N3 ?_
    intro m5 h5 tk5 F5 N5 hm5
    refine wpAny_execs_nil ?_
    refine next m5 h5 tk5 _ _ F5 (newsSub N5 ?_) hoc2 ?_
    · intro q hq; simp only [List.mem_cons] at hq ⊢; grind
    · intro y h1 h2 h3 h4 h5
      rw [hm5 y h1 h2 h3 h4 h5]
      (try dsimp only)
      (repeat' split) <;> simp_all

def Six (y : Str) : Prop := y ≠ Str.ofString "far" ∧ y ≠ Str.ofString "told" ∧ y ≠ Str.ofString "due" ∧ y ≠ Str.ofString "other" ∧ y ≠ Str.ofString "second" ∧ y ≠ Str.ofString "one" ∧ y ≠ Str.ofString "pair"
set_option maxHeartbeats 4000000 in
theorem pieceD (w : World) (p loose mean mg mb) (dp un : Nat) (gd : Option (List Code)) (fa : Addr) (ccd : Value) (outer : List Env) (A₀ : Around) (base h₀ : Heap) (L : Addr) (Q : Flow → Shared → Prop) (s : Shared)
    (B : Below A₀ base outer h₀) (X : (Mine.hd.heap_39 w.params).In h₀) (T : Top p loose mean mg mb h₀) (hd : dp + 30 < recursionLimit) (hu : un + 300 < cLine)
    (l : Addr) (hL : @LT.lt Nat _ 86 L)
    (oc ot : Obj) (v0 : Option Value) (hoc : oc.data = .cell v0) (ps ls : List (Int × Int)) (hbd : ∀ q ∈ ps, 0 ≤ q.1 ∧ q.1 ≤ q.2 ∧ q.2 < 100) (m : Str → Option Value) (news) (F : Fr h₀ L s.heap m) (N : News h₀ L s.heap news) (hJ : StT L l oc ot ps ls m news)
    (next : ∀ m' h' tk' news' oc' v', oc'.data = .cell v' → Fr h₀ L h' m' → News h₀ L h' news' → StT L l oc' ot ps ls m' news' → wpAny (model PySem.Challenge.rw_ew0012_01.row.prog w) (lawTop dp un gd L fa ccd outer) (execs (lawTail 6) (lawEnv L fa ccd)) Q (fun _ _ => False) { s with heap := h', toks := tk' }) :
    wpAny (model PySem.Challenge.rw_ew0012_01.row.prog w) (lawTop dp un gd L fa ccd outer) (execs (lawTail 5) (lawEnv L fa ccd)) Q (fun _ _ => False) s := by
  with_unfolding_all show wpAny _ _ (execs (.For _ _ outBody _ _ :: lawTail 6) _) _ _ _
  generalize eB : outBody = bd
  generalize lawTail 6 = rest₉ at next ⊢
  k_with_none
  w_top off
  revert X; k_fill; intro X
  obtain ⟨rest, lp, ll, lt, vp, vl, vt, np, nl, nt, rfl, hr, m1, m2, m3, m4, hp1, hl1, ht1, hp2, hl2, ht2⟩ := hJ
  have hZ : ∀ p ∈ (86, ot) :: rest, @Ne Nat p.1 (L + 1) := List.forall_mem_cons.mpr ⟨Nat.ne_of_lt (Nat.lt_succ_of_lt hL), fun p hp => (hr p hp).1⟩
  have hq1 := ht2.mono (R' := TokAt ((86, ot) :: rest)) fun _ _ x => x.mono fun _ hq => .tail _ hq
  have hq2 := hp2.mono (R' := PairAt ((86, ot) :: rest)) fun _ _ x => x.mono fun _ hq => .tail _ hq
  have F' := F
  replace F := canon [(Str.ofString "tokens", .ref lt), (Str.ofString "pairs", .ref lp)] (by simp [m1, m4]) F
  dsimp only [kstB] at F
  refine wpAny_execs_cons ?_
  with_unfolding_all refine For_turns F ?_ ?_ ?_
  rotate_left
  · intro x; with_unfolding_all rfl
  · passes_own
  k_steps
  refine Hold.out ?_
  (rename Fr _ _ _ _ => F2)
  (rename News _ _ _ _ => N2)
  with_unfolding_all refine ktu_zip (lo1 := listOf vt.toArray nt) (lo2 := listOf vp.toArray np) (xs := vt) (ys := vp) (by rfl) F2 N2 (.tail _ (.tail _ ht1)) rfl rfl (.tail _ (.tail _ hp1)) rfl rfl ?_
  intro I hI
  refine zipRest_of (n := ps.length) ht2.length hp2.length (fun _ m1 nx => (∃ oc' v', oc'.data = .cell v' ∧ nx = (L + 1, oc') :: (86, ot) :: rest) ∧ ∀ y, Six y → m1 y = m y) ?_ ?_ _ 0 _ _ (Nat.zero_add _) ⟨⟨_, _, hoc, rfl⟩, ?_⟩
  · rintro m' nx ⟨⟨oc', v', hoc', rfl⟩, hm⟩ h tk F' N'
    refine next _ _ _ _ oc' v' hoc' F' N' ⟨rest, lp, ll, lt, vp, vl, vt, np, nl, nt, rfl, hr, (hm _ ?_).trans m1, (hm _ ?_).trans m2, (hm _ ?_).trans m3, (hm _ ?_).trans m4, hp1, hl1, ht1, hp2, hl2, ht2⟩ <;> (unfold Six; decide)
  · clear next F2 N2
    rintro i m' nx hin ⟨⟨oc', v', hoc', rfl⟩, hm⟩ v y hv hy T h tk its hT F' hits N'
    have hqi := hbd _ (List.getElem_mem hin)
    obtain ⟨x2, dx2, ta2, tb2, tc2, rfl, hx2, hdx2⟩ := hq1.get hv (List.getElem?_eq_getElem hin)
    obtain ⟨p2, tg2, th2, rfl, hp2'⟩ := hq2.get hy (List.getElem?_eq_getElem hin)
    generalize ps[i] = q at *
    obtain ⟨c, d⟩ := q
    obtain ⟨q0, q1, q2⟩ := hqi
    have hz1 : (lt, listOf vt.toArray nt) ∈ (86, ot) :: rest := .tail _ ht1
    have hz2 : (lp, listOf vp.toArray np) ∈ (86, ot) :: rest := .tail _ hp1
    generalize (86, ot) :: rest = Z at *
    have N3 := newsSub N' (n' := (L + 1, oc') :: (its ++ Z)) (by intro q hq; simp only [List.mem_cons, List.mem_append] at hq ⊢; grind)
    clear N'
    k_steps
    subst eB
    (rename News _ _ _ _ => N4)
    (rename Fr _ _ _ _ => F4)
    have up : ∀ q ∈ Z, q ∈ its ++ Z := fun q hq => List.mem_append_right _ hq
    have hIL : @LT.lt Nat _ (L + 1) I := hI (L + 1, oc) (.head _)
    refine outerTurn w p loose mean mg mb dp un gd fa ccd outer A₀ base h₀ L _ _ B X (by assumption) hd hu hL oc' v' (its ++ Z) ?_ _ x2 dx2 p2 c d ta2 tb2 tc2 tg2 th2 (up _ hx2) (up _ hdx2) (up _ hp2') hoc' q0 q1 q2 lt lp vt vp nt np ps ?_ ?_ (hq1.mono fun _ _ x => x.mono up) (hq2.mono fun _ _ x => x.mono up) hbd rfl rfl ?_ ?_ F4 N4 ?_
    · intro q hq
      rcases List.mem_append.mp hq with hq | hq
      · exact Nat.ne_of_gt (Nat.lt_of_lt_of_le hIL (hits q hq))
      · exact hZ q hq
    · exact up _ hz1
    · exact up _ hz2
    · exact (hm _ (by unfold Six; decide)).trans m4
    · exact (hm _ (by unfold Six; decide)).trans m1
    · intro m5 h5 tk5 oc5 v5 F5 N5 hoc5 hm5
      refine ⟨h5, tk5, m5, (L + 1, oc5) :: Z, rfl, F5, newsSub N5 ?_, ?_, ⟨?_, ?_, trivial⟩, ⟨oc5, v5, hoc5, rfl⟩, ?_⟩
      · intro q hq; simp only [List.mem_cons, List.mem_append] at hq ⊢; grind
      · intro q hq r hr
        rcases List.mem_cons.mp hq with rfl | hq
        · exact Nat.ne_of_lt (Nat.lt_of_lt_of_le hIL (hits r hr))
        · exact Nat.ne_of_lt (Nat.lt_of_lt_of_le (hI q (.tail _ hq)) (hits r hr))
      · exact .tail _ hz1
      · exact .tail _ hz2
      · rintro y ⟨h1, h2, h3, h4, h5, h6, h7⟩
        rw [hm5 y h1 h2 h3 h4 h5]
        show (if y = Str.ofString "pair" then _ else if y = Str.ofString "one" then _ else m' y) = _
        rw [if_neg h7, if_neg h6]
        exact hm y ⟨h1, h2, h3, h4, h5, h6, h7⟩
  · intro y _
    (try dsimp only)
    (repeat' split) <;> simp_all
end Mine
end

section
open PySem PySem.W PyProof.Rows
set_option maxRecDepth 100000
set_option linter.unusedVariables false
set_option linter.unusedSimpArgs false
set_option rowWalk.seconds 0
namespace Mine
local macro_rules | `(tactic| walk_at "none such") => `(tactic| fail "none such")
local macro_rules | `(tactic| walk_at "none such") => `(tactic| fail "none such")
local macro_rules | `(tactic| walk_at "none such") => `(tactic| fail "none such")
local macro_rules | `(tactic| walk_at "none such") => `(tactic| fail "none such")
local macro_rules | `(tactic| walk_at "none such") => `(tactic| fail "none such")
local macro_rules | `(tactic| walk_at "none such") => `(tactic| fail "none such")
local macro_rules | `(tactic| walk_at "none such") => `(tactic| fail "none such")
local macro_rules | `(tactic| walk_at "none such") => `(tactic| fail "none such")
local macro_rules | `(tactic| walk_at "none such") => `(tactic| fail "none such")
local macro_rules | `(tactic| walk_at "none such") => `(tactic| fail "none such")
local macro_rules | `(tactic| walk_at "none such") => `(tactic| fail "none such")
local macro_rules | `(tactic| walk_at "none such") => `(tactic| fail "none such")
local macro_rules | `(tactic| walk_at "none such") => `(tactic| fail "none such")
local macro_rules | `(tactic| walk_at "none such") => `(tactic| fail "none such")
local macro_rules | `(tactic| walk_at "none such") => `(tactic| fail "none such")
local macro_rules | `(tactic| walk_at "none such") => `(tactic| fail "none such")
local macro_rules | `(tactic| walk_at "none such") => `(tactic| fail "none such")
local macro_rules | `(tactic| walk_at "none such") => `(tactic| fail "none such")
local macro_rules | `(tactic| walk_at "none such") => `(tactic| fail "none such")
local macro_rules | `(tactic| walk_at "none such") => `(tactic| fail "none such")
local macro_rules | `(tactic| walk_at "none such") => `(tactic| fail "none such")
local macro_rules | `(tactic| walk_at "none such") => `(tactic| fail "none such")
local macro_rules | `(tactic| walk_at "none such") => `(tactic| fail "none such")
local macro_rules | `(tactic| walk_at "none such") => `(tactic| fail "none such")
local macro_rules | `(tactic| walk_at "none such") => `(tactic| fail "none such")
local macro_rules | `(tactic| k_room) => `(tactic| ktr_room)
local macro_rules | `(tactic| k_units) => `(tactic| ktr_units)
local macro_rules | `(tactic| k_all) => `(tactic| (first | with_reducible assumption | (refine' ne_all ?nh ?nx; (case nh => assumption); (case nx => omega)) | fail "ne_all"))
local macro_rules | `(tactic| k_updF) => `(tactic| first | (refine' Del.head ?a; (case a => k_all)) | (refine' Del.tail ?a ?b; (case a => k_ne); (case b => k_updF)))
local macro_rules | `(tactic| k_updF) => `(tactic| first | exact Pre.nil | (refine' Pre.cons ?a ?b; (case a => (refine leN ?_; (try dsimp only); omega)); (case b => k_updF)))
local macro_rules | `(tactic| k_mem) => `(tactic| first | with_reducible assumption | exact List.mem_cons_self | (refine' List.mem_cons_of_mem _ ?_; k_mem))
local macro_rules | `(tactic| walk_at "UnrEnd") => `(tactic| (refine' unrEnd_del ?uF ?uN ?uD ?_; (case uF => k_asm); (case uN => k_asm); (case uD => k_updF)))
local macro_rules | `(tactic| tb_rel) => `(tactic| first | (refine List.forall_mem_cons.mpr ⟨?ha, ?hb⟩; (case ha => (first | (refine ltN ?_; (try dsimp only); omega) | (refine leN ?_; (try dsimp only); omega) | (refine And.intro (neN ?_) (neN ?_) <;> ((try dsimp only); omega)))); (case hb => tb_rel)) | assumption | exact List.forall_mem_nil _)
local macro_rules | `(tactic| walk_at "binaryOp Add ref ref") => `(tactic| (k_here; (with_reducible show wpAny _ _ (binaryOp _ (Value.ref _) (Value.ref _)) _ _ _); k_dflt (refine' add_mine ?F ?N ?a ?b ?z ?_; (case F => k_asm); (case N => k_asm); (case a => k_mem); (case b => k_mem); (case z => (simp only [List.size_toArray, List.length_append, List.length_drop, List.length_take]; omega))); intro D' h' F' N' l1; (try k_lt l1); (try k_sweep)))
local macro_rules | `(tactic| walk_at "call builtin:len") => `(tactic| (k_here; (with_reducible show wpAny _ _ (call (Value.builtin _) [Value.ref _]) _ _ _); k_dflt (refine' len_mine ?N ?a ?z ?_; (case N => k_asm); (case a => k_mem); (case z => (simp only [List.size_toArray]; omega)))))
local macro_rules | `(tactic| walk_at "subscriptTail Name Slice ref ref") => `(tactic| (k_here; (with_reducible show wpAny _ _ (subscriptTail _ (PySem.Expr.Slice _ _ none _) (Value.ref _) (Value.ref _)) _ _ _); k_dflt (first
  | (refine' slice_from_mine ?F ?N ?a ?k ?z ?_ ?s ?t; (case F => k_asm); (case N => k_asm); (case a => k_mem); (case k => assumption); (case z => (simp only [List.size_toArray]; omega)); (case s => with_unfolding_all rfl); (case t => (intro r; with_unfolding_all rfl)))
  | (refine' slice_upto_mine ?F ?N ?a ?k ?z ?_ ?s ?t; (case F => k_asm); (case N => k_asm); (case a => k_mem); (case k => assumption); (case z => (simp only [List.size_toArray]; omega)); (case s => with_unfolding_all rfl); (case t => (intro r; with_unfolding_all rfl)))); intro D' h' F' N' l1; (try k_lt l1); (try k_sweep)))

local macro_rules | `(tactic| walk_at "call builtin:sorted") => `(tactic| (k_here; k_dflt (refine hold_of ?_)))
local macro_rules | `(tactic| walk_at "SrcLP") => `(tactic| (k_here; k_dflt (refine hold_of ?_)))
local macro_rules | `(tactic| walk_at "CompSrc") => `(tactic| (k_here; k_dflt (refine hold_of ?_)))

def StO (L l : Addr) (oc ot : Obj) (ps ls : List (Int × Int)) (m : Str → Option Value) (news : List (Addr × Obj)) : Prop :=
  ∃ rest lp ll lt lo vp vl vt vo np nl nt no, ∃ os : List (Int × Int), news = (L + 1, oc) :: (86, ot) :: rest ∧ OkR L rest ∧ m (Str.ofString "left") = some (.ref ll) ∧ m (Str.ofString "tokens") = some (.ref lt) ∧ m (Str.ofString "order") = some (.ref lo) ∧
    (lp, listOf (List.toArray vp) np) ∈ rest ∧ (ll, listOf (List.toArray vl) nl) ∈ rest ∧ (lt, listOf (List.toArray vt) nt) ∈ rest ∧ (lo, listOf (List.toArray vo) no) ∈ rest ∧ All2 (PairAt rest) vl ls ∧ All2 (TokAt rest) vt ps ∧ All2 (TripAt ((L + 1, oc) :: (86, ot) :: rest)) vo os ∧ os.Perm ps ∧ os.Pairwise fun x y => kq x ≤ kq y
def JE (L : Addr) (oc ot : Obj) (lp ll lt : Addr) (vp vl vt : List Value) (np nl nt : Nat) (ps ls : List (Int × Int)) (i : Nat) (ys : List Value) (news : List (Addr × Obj)) : Prop :=
  ∃ rest, news = (L + 1, oc) :: (86, ot) :: rest ∧ OkR L rest ∧ (lp, listOf vp.toArray np) ∈ rest ∧ (ll, listOf vl.toArray nl) ∈ rest ∧ (lt, listOf vt.toArray nt) ∈ rest ∧ All2 (PairAt rest) vp ps ∧ All2 (PairAt rest) vl ls ∧ All2 (TokAt rest) vt ps ∧ All2 (TripAt rest) ys (ps.take i)

set_option maxHeartbeats 4000000 in
theorem pieceE (w : World) (p loose mean mg mb) (dp un : Nat) (gd : Option (List Code)) (fa : Addr) (ccd : Value) (outer : List Env) (A₀ : Around) (base h₀ : Heap) (L : Addr) (Q : Flow → Shared → Prop) (s : Shared)
    (B : Below A₀ base outer h₀) (X : (Mine.hd.heap_39 w.params).In h₀) (T : Top p loose mean mg mb h₀) (hd : dp + 30 < recursionLimit) (hu : un + 300 < cLine)
    (l : Addr) (hL : @LT.lt Nat _ 86 L)
    (oc ot : Obj) (ps ls : List (Int × Int)) (hps0 : 0 < ps.length) (hps : ps.length ≤ 16) (hbd : ∀ q ∈ ps, Bd q) (m : Str → Option Value) (news) (F : Fr h₀ L s.heap m) (N : News h₀ L s.heap news) (hJ : StT L l oc ot ps ls m news)
    (next : ∀ m' h' tk' news', Fr h₀ L h' m' → News h₀ L h' news' → StO L l oc ot ps ls m' news' → wpAny (model PySem.Challenge.rw_ew0012_01.row.prog w) (lawTop dp un gd L fa ccd outer) (execs (lawTail 7) (lawEnv L fa ccd)) Q (fun _ _ => False) { s with heap := h', toks := tk' }) :
    wpAny (model PySem.Challenge.rw_ew0012_01.row.prog w) (lawTop dp un gd L fa ccd outer) (execs (lawTail 6) (lawEnv L fa ccd)) Q (fun _ _ => False) s := by
  with_unfolding_all show wpAny _ _ (execs (_ :: lawTail 7) _) _ _ _
  generalize lawTail 7 = rest₉ at next ⊢
  k_with_none
  w_top off
  revert X; k_fill; intro X

  obtain ⟨rest, lp, ll, lt, vp, vl, vt, np, nl, nt, rfl, hr, m1, m2, m3, m4, hp1, hl1, ht1, hp2, hl2, ht2⟩ := hJ
  replace F := canon [(Str.ofString "tokens", .ref lt), (Str.ofString "pairs", .ref lp), (Str.ofString "left", .ref ll)] (by simp [m1, m2, m4]) F
  dsimp only [kstB] at F
  k_steps
  refine Hold.out ?_
  have z3 := hp2.length
  refine LCp.SrcLP.ledger (by rfl) (by assumption) N (.tail _ (.tail _ hp1)) (by rw [List.size_toArray, sizeLine_eq]; omega) ?_
  intro g
  refine compRestP_of (JE L oc ot lp ll lt vp vl vt np nl nt ps ls) (n := vp.toArray.size) ?_ ?_ _ 0 [] _ (Nat.zero_add _) ?_
  · rintro ys news9 ⟨rest', rfl, hr', hp1', hl1', ht1', hp2', hl2', ht2', hy⟩ D' h' tk' F' N' o1'
    rw [List.size_toArray, z3, List.take_length] at hy
    k_steps
    refine Hold.out ?_
    (rename News _ _ _ _ => N5)
    (rename Fr _ _ _ _ => F5)
    have hup : ∀ q ∈ rest', q ∈ (D', LCg.lst ys) :: (L + 1, oc) :: (86, ot) :: rest' := fun q hq => .tail _ (.tail _ (.tail _ hq))
    refine sorted3 F5 N5 (N5.isList (.head _)) hps0 (by omega) (hy.mono fun _ _ x => x.mono hup) hbd ?_
    intro D c h8 out qs' F8 N8 hD ho hpm hsr
    k_steps
    (rename News _ _ _ _ => N9)
    have hD1 : @LT.lt Nat _ (L + 1) D := hD (L + 1, oc) (by simp)
    have hD2 : @LT.lt Nat _ 86 D := hD (86, ot) (by simp)
    have N8 := newsSub N9 (n' := (L + 1, oc) :: (86, ot) :: ([(D, listOf (List.toArray out) c), (D', LCg.lst ys)] ++ rest')) (by intro q hq; simp only [List.mem_cons, List.mem_append, List.not_mem_nil, or_false] at hq ⊢; grind)
    have up : ∀ q ∈ rest', q ∈ [(D, listOf (List.toArray out) c), (D', LCg.lst ys)] ++ rest' := fun q hq => List.mem_append_right _ hq
    refine next _ _ _ _ (by assumption) N8 ⟨_, lp, ll, lt, D, vp, vl, vt, out, np, nl, nt, c, qs', rfl, ?_, rfl, rfl, rfl, up _ hp1', up _ hl1', up _ ht1', List.mem_cons_self, hl2'.mono fun _ _ x => x.mono up, ht2'.mono fun _ _ x => x.mono up, ?_, hpm, hsr⟩
    · refine List.forall_mem_cons.mpr ⟨⟨Nat.ne_of_gt hD1, Nat.ne_of_gt hD2⟩, List.forall_mem_cons.mpr ⟨⟨fun e => o1'.1 e.symm, fun e => o1'.2.1 e.symm⟩, hr'⟩⟩
    · refine ho.mono fun _ _ x => x.mono fun q hq => ?_
      simp only [List.mem_cons, List.mem_append, List.not_mem_nil, or_false] at hq ⊢
      grind
  · rintro i ys news9 hin ⟨rest', rfl, hr', hp1', hl1', ht1', hp2', hl2', ht2', hy⟩ v hv
    have hv' : vp[i]? = some v := by simpa using hv
    have hi' : i < ps.length := by rw [List.size_toArray] at hin; omega
    have hpa := hp2'.get hv' (List.getElem?_eq_getElem hi')
    have eti : ps.take (i + 1) = ps.take i ++ [ps[i]] := by rw [List.take_succ_eq_append_getElem hi']
    generalize ps[i] = q at *
    obtain ⟨a, ta, tb, rfl, ha⟩ := hpa
    refine ⟨a, _, _, _, _, rfl, .tail _ (.tail _ ha), rfl, rfl, ?_⟩
    intro I oI C oC D m₂ h tk E' hC hx1 hx2 F' N' off ne
    k_steps
    (rename News _ _ _ _ => N9)
    (rename (_ ∧ _ ∧ _ ∧ _ ∧ _ ∧ AllLt _ rest') => hl9)
    have hlo := allLt_out (l := (I, oI) :: (C, oC) :: (D, LCg.lst ys) :: (L + 1, oc) :: (86, ot) :: rest') hl9
    have hc1 : @LT.lt Nat _ (L + 1) _ := hlo (L + 1, oc) (by simp)
    have hc2 : @LT.lt Nat _ 86 _ := hlo (86, ot) (by simp)
    refine compEnd_mk (nw := [_]) (by assumption) N9 off hlo (by tb_rel) ?_ ?_
    · exact .inr ⟨_, .tail _ (.tail _ (.tail _ hp1')), rfl, _, rfl⟩
    · refine ⟨_, rfl, ?_, .tail _ hp1', .tail _ hl1', .tail _ ht1', hp2'.mono fun _ _ x => x.mono fun _ hq => .tail _ hq, hl2'.mono fun _ _ x => x.mono fun _ hq => .tail _ hq, ht2'.mono fun _ _ x => x.mono fun _ hq => .tail _ hq, ?_⟩
      · simp only [List.cons_append, List.nil_append]; tb_rel
      · rw [eti]
        refine (hy.mono fun _ _ x => x.mono fun _ hq => .tail _ hq).append ⟨⟨_, _, _, _, rfl, List.mem_cons_self⟩, trivial⟩
  · exact ⟨rest, rfl, hr, hp1, hl1, ht1, hp2, hl2, ht2, by rw [List.take_zero]; trivial⟩
end Mine
end

section
open PySem PySem.W PyProof.Rows PySem.Calls PySem.Spec PyProof.Rows.LCg
set_option maxRecDepth 100000
set_option linter.unusedVariables false
namespace Mine
section
variable {prog : Program} {w : World} {A : Around} {E : Value → Shared → Prop} {s : Shared} {h₀ : Heap} {L : Addr} {m : Str → Option Value} {env : Env}
/-- the source of a comprehension with three targets: a ledger's list of triples, an invariant, a turn, the end -/
def Src3 (prog : Program) (w : World) (A : Around) (h₀ : Heap) (L : Addr) (m : Str → Option Value) (env : Env) (elt : Expr) (x y z : Str) (scope : Scope) (cl : List (Str × Addr)) (Q : Value → Shared → Prop) (xv : Value) (s₁ : Shared) : Prop :=
  ∃ (ax : Addr) (its : Array Value) (k : Nat) (news : List (Addr × Obj)) (J : Nat → List Value → List (Addr × Obj) → Prop), xv = .ref ax ∧ A.handled = none ∧ Fr h₀ L s₁.heap m ∧ News h₀ L s₁.heap news ∧ its.size ≤ sizeLine ∧ J 0 [] news ∧
    (∀ i ys nx, J i ys nx → (ax, listOf its k) ∈ nx) ∧
    (∀ i ys nx v, i < its.size → J i ys nx → its[i]? = some v → ∃ (t : Addr) (ot : Obj) (a b c : Value) (n : Nat), v = .ref t ∧ (t, ot) ∈ nx ∧ ot.cls = .type "tuple" ∧ ot.data = .seq #[a, b, c] n ∧
      ∀ I oI C oC D m₂ h tk (E' : Value → Shared → Prop), NsObj oC m₂ → m₂ x = some a → m₂ y = some b → m₂ z = some c → Fr h₀ L h m → News h₀ L h ((I, oI) :: (C, oC) :: (D, lst ys) :: nx) → Off3 I C D nx → ((@Ne Nat I C) ∧ (@Ne Nat I D) ∧ (@Ne Nat C D)) →
        wpAny (model prog w) A (eval elt (compEnvC scope cl C env)) (CompEnd h₀ L m { s₁ with heap := h, toks := tk } I oI C oC D (lst ys) (fun _ => True) (fun v' n' => J (i + 1) (ys ++ [v']) n')) E' { s₁ with heap := h, toks := tk }) ∧
    (∀ ys nx, J its.size ys nx → ∀ D h tk, Fr h₀ L h m → News h₀ L h ((D, lst ys) :: nx) → Off1 D nx → Q (.ref D) { s₁ with heap := h, toks := tk })

theorem comp3 {elt iter : Expr} {x y z : Str} {px py pz tp : Pos} {tt} {scope : Scope} {cl : List (Str × Addr)} {pos : Pos} {Q : Value → Shared → Prop} (F₀ : Fr h₀ L s.heap m)
    (hclos : closureFor scope env = pure cl) (hcell : ∀ y ∈ scope.names, y.2 ≠ .cell) (hkind : scope.kind = .function)
    (hnames : ∀ y ∈ scope.names, y.2 = .local → scope.names.lookup y.1 = some .local) (hx : scope.names.lookup x = some .local) (hy : scope.names.lookup y = some .local) (hz : scope.names.lookup z = some .local) (hxy : x ≠ y) (hxz : x ≠ z) (hyz : y ≠ z)
    (h : wpAny (model prog w) A (eval iter env) (Src3 prog w A h₀ L m env elt x y z scope cl Q) E s)
    (hs : ∀ x, foldedSetIterable iter env x = pure x) :
    wpAny (model prog w) A (eval (.ListComp elt [⟨.Tuple [.Name x px, .Name y py, .Name z pz] tt tp, iter, [], 0⟩] scope pos) env) Q E s := by
  rw [eval_ListComp]
  refine wpAny_comprehension_free (use := none) rfl hs hclos hkind hnames (wpAny_mono h (fun xv s₁ h₁ => ?_) fun _ _ e => e)
  obtain ⟨ax, its, k, news, J, rfl, hh, F, N, hsz, hJ0, hkeep, turn, hend⟩ := h₁
  have hax := hkeep _ _ _ hJ0
  have hl : s₁.heap.IsList ax its := ⟨_, N.get hax, rfl, _, rfl⟩
  have hlt : ax < s₁.heap.objs.size := Heap.lt_size (N.get hax)
  refine wpAny_pyIter_list hl ?_
  obtain ⟨I, eI⟩ : ∃ I, I = s₁.heap.objs.size := ⟨_, rfl⟩
  have W := Walks.list (prog := prog) (w := w) hh I ax (eI ▸ Nat.ne_of_lt hlt) its
  rw [← eI]
  refine wpAny_newObj_type (wpAny_newFunctionEnv hcell (by intro y hy; simp at hy) (fun H hnH hsH => ?_) hkind)
  dsimp only at hnH hsH ⊢
  generalize eP : (s₁.heap.push { cls := .type "list_iterator", data := .fields #[.ref ax, .int 0 0] }) = P at hnH hsH ⊢
  generalize eR : P.push { cls := .type "list", dict := none, data := .seq ([] : List Value).toArray } = R at hnH hsH ⊢
  have zP : P.objs.size = I + 1 := by rw [← eP, Heap.size_push, eI]
  have zR : R.objs.size = I + 2 := by rw [← eR, Heap.size_push, zP]
  rw [zP]
  rw [zR] at hnH hsH ⊢
  -- what stood, stands; the three new objects
  have big : ∀ {b : Addr} {o : Obj}, s₁.heap.get? b = some o → @LT.lt Nat _ b I := fun e => eI ▸ Heap.lt_size e
  have old : ∀ b o, s₁.heap.get? b = some o → H.get? b = some o := fun b o e =>
    hsH.extBut b o (Nat.ne_of_lt (Nat.lt_of_lt_of_le (big e) (Nat.le_add_right _ _))) (Heap.get?_push_of_some _ (eR ▸ Heap.get?_push_of_some _ (eP ▸ Heap.get?_push_of_some _ e)))
  have atI : H.IsListIter I ax 0 := by
    have e1 : P.get? I = some { cls := .type "list_iterator", data := .fields #[.ref ax, .int 0 0] } := by
      rw [← eP, eI]; exact Heap.get?_push_size _ rfl
    exact ⟨_, hsH.extBut I _ (Nat.ne_of_lt (by omega)) (Heap.get?_push_of_some _ (eR ▸ Heap.get?_push_of_some _ e1)), rfl, rfl⟩
  have atD : H.get? (I + 1) = some (lst []) := by
    refine hsH.extBut (I + 1) _ (Nat.ne_of_lt (by omega)) (Heap.get?_push_of_some _ (eR ▸ ?_))
    rw [← zP]; exact Heap.get?_push_size _ rfl
  have gone : ∀ b : Nat, I ≤ b → h₀.get? b = none := fun b hb => by
    cases e : h₀.get? b with
    | none => rfl
    | some o => exact absurd (big (F.keep b o e)) (Nat.not_lt.mpr hb)
  have lL : @LT.lt Nat _ L I := by rw [eI]; exact F.ns.lt
  have nL : ∀ b : Nat, I ≤ b → b ≠ L := fun b hb => Nat.ne_of_gt (Nat.lt_of_lt_of_le lL hb)
  have off0 : Off3 I (I + 2) (I + 1) news := Off3.of fun p hp => by
    have := big (N p hp).1
    exact ⟨Nat.ne_of_lt this, Nat.ne_of_lt (Nat.lt_of_lt_of_le this (Nat.le_add_right _ _)), Nat.ne_of_lt (Nat.lt_of_lt_of_le this (Nat.le_add_right _ _))⟩
  have n1 : @Ne Nat I (I + 2) := Nat.ne_of_lt (by omega)
  have n2 : @Ne Nat I (I + 1) := Nat.ne_of_lt (by omega)
  have n3 : @Ne Nat (I + 2) (I + 1) := Nat.ne_of_gt (by omega)
  refine (fun loop => codeAny_compStart_list loop (W.self 0 _ _ _ ⟨atI, hl.at fun o e => old _ _ e⟩ loop)) (LCp.codeAny_compLoop_pair
    (fun q s' => ∃ h tk i ys m' nx, s' = { s₁ with heap := h, toks := tk } ∧ i ≤ its.size ∧ q + i = its.size + 1 ∧ ys.length = i ∧ h.IsListIter I ax i ∧ Fr h₀ L h m ∧ h.Ns (I + 2) m' ∧ News h₀ L h ((I + 1, lst ys) :: nx) ∧ Off3 I (I + 2) (I + 1) nx ∧ J i ys nx)
    ?_ (its.size + 1) ⟨H, _, 0, [], _, news, rfl, Nat.zero_le _, rfl, rfl, atI, F.keeps old, hnH, ?_, off0, hJ0⟩)
  · rintro q s' ⟨h, tk, i, ys, m', nx, rfl, hi, hq, hlen, hI, F1, hC, N1, o1, hJ⟩
    have hlh : h.IsList ax its := ⟨_, (N1 _ (.tail _ (hkeep _ _ _ hJ))).1, rfl, _, rfl⟩
    have m1 := o1.mem
    by_cases hin : i < its.size
    · refine W.item i _ _ _ hin ⟨hI, hlh⟩ fun v h2 tk2 hv st2 k2 => ?_
      obtain ⟨t, ot, a, b, c, n, rfl, ht, ct, dt, go⟩ := turn i ys nx v hin hJ hv
      have N2 : News h₀ L h2 ((I + 1, lst ys) :: nx) := news_but N1 k2 (List.forall_mem_cons.mpr ⟨n2.symm, fun p hp => (m1 p hp).1⟩)
      have hT : IsTup h2 t #[a, b, c] := ⟨ot, (N2 _ (.tail _ ht)).1, ct, n, dt⟩
      refine wpAny_letOwnedTupleGo_listiter st2.1 ?_
      refine assign_Tuple_tuple hh hT rfl rfl fun h3 he => ?_
      have k3 : ∀ b o, h2.get? b = some o → h3.get? b = some o := fun b o e => he b o (Nat.ne_of_lt (Heap.lt_size e)) e
      have hC3 : h3.Ns (I + 2) m' := (hC.at' fun o e => k2 _ o (by simpa using n1.symm) e).at' fun o e => k3 _ o e
      refine assignInOrder_cons (wpAny_assign_Name (wpAny_storeName_local (lookup_relabel_local hx) hC3 (fun h4 hC4 s4 => ?_) (by simp [compEnvC, relabel, hkind])))
      refine assignInOrder_cons (wpAny_assign_Name (wpAny_storeName_local (lookup_relabel_local hy) hC4 (fun h5 hC5 s5 => ?_) (by simp [compEnvC, relabel, hkind])))
      refine assignInOrder_cons (wpAny_assign_Name (wpAny_storeName_local (lookup_relabel_local hz) hC5 (fun h6 hC6 s6 => ?_) (by simp [compEnvC, relabel, hkind])))
      refine assignInOrder_nil ?_
      have k6 : ∀ b o, b ≠ I + 2 → h2.get? b = some o → h6.get? b = some o := fun b o hb e => s6.extBut b o hb (s5.extBut b o hb (s4.extBut b o hb (k3 b o e)))
      have F6 : Fr h₀ L h6 m := ((((fr_but F1 k2 (nL I (Nat.le_refl _)).symm (gone I (Nat.le_refl _))).keeps k3).change s4 (nL _ (Nat.le_add_right _ _)) (gone _ (Nat.le_add_right _ _))).change s5 (nL _ (Nat.le_add_right _ _)) (gone _ (Nat.le_add_right _ _))).change s6 (nL _ (Nat.le_add_right _ _)) (gone _ (Nat.le_add_right _ _))
      obtain ⟨oI, g1, g2, g3⟩ := st2.1
      have gI := k6 _ _ n1 g1
      obtain ⟨oC, gC, hoC⟩ := ns_obj hC6
      have N6 : News h₀ L h6 ((I, oI) :: (I + 2, oC) :: (I + 1, lst ys) :: nx) := by
        intro p hp
        rcases List.mem_cons.mp hp with rfl | hp
        · exact ⟨gI, nL _ (Nat.le_refl _), gone _ (Nat.le_refl _)⟩
        rcases List.mem_cons.mp hp with rfl | hp
        · exact ⟨gC, nL _ (Nat.le_add_right _ _), gone _ (Nat.le_add_right _ _)⟩
        refine ⟨k6 _ _ ?_ (N2 p hp).1, (N2 p hp).2⟩
        rcases List.mem_cons.mp hp with rfl | hp
        · exact n3.symm
        · exact (m1 p hp).2.1
      refine wpAny_mono (go I oI (I + 2) oC (I + 1) _ h6 _ _ hoC (by simp [hxy, hxz]) (by simp [hyz]) (by simp) F6 N6 o1 ⟨n1, n2, n3⟩) (fun v s7 h7 => ?_) fun _ _ e => e
      obtain ⟨h7, tk7, n7, rfl, F7, N7, o7, _, J7⟩ := h7
      have N7' : News h₀ L h7 n7 := fun p hp => N7 p (.tail _ (.tail _ (.tail _ hp)))
      have d7 := (N7 (I + 1, lst ys) (.tail _ (.tail _ (.head _)))).1
      have m7 := o7.mem
      refine append_at (hsz := by show ys.toArray.size ≤ sizeLine; rw [List.size_toArray, hlen]; exact Nat.le_trans hi hsz) d7 fun h8 s8 d8 => ?_
      refine ⟨q - 1, by omega, h8, tk7, i + 1, ys ++ [v], _, n7, rfl, hin, by omega, by rw [List.length_append, hlen]; rfl, ?_, F7.change s8 (nL _ (Nat.le_add_right _ _)) (gone _ (Nat.le_add_right _ _)), (hoC.ns (N7 (I + 2, oC) (.tail _ (.head _))).1).sameBut s8 n3, ?_, o7, J7⟩
      · exact ⟨oI, s8.extBut _ _ n2 (N7 (I, oI) (.head _)).1, g2, g3⟩
      · intro p hp
        rcases List.mem_cons.mp hp with rfl | hp
        · exact ⟨d8.trans (congrArg some (lst_snoc ys v)), nL _ (Nat.le_add_right _ _), gone _ (Nat.le_add_right _ _)⟩
        · exact ⟨s8.extBut _ _ (m7 p hp).2.2 (N7' p hp).1, (N7' p hp).2⟩
    · obtain rfl : i = its.size := Nat.le_antisymm hi (Nat.not_lt.mp hin)
      refine W.done _ _ _ ⟨hI, hlh⟩ fun h2 tk2 k2 => ?_
      have N2 : News h₀ L h2 ((I + 1, lst ys) :: nx) := news_but N1 k2 (List.forall_mem_cons.mpr ⟨n2.symm, fun p hp => (m1 p hp).1⟩)
      have F2 := fr_but F1 k2 (nL I (Nat.le_refl _)).symm (gone I (Nat.le_refl _))
      refine ⟨m', hC.at' fun o e => k2 _ o (by simpa using n1.symm) e, fun h3 s3 => hend ys nx hJ (I + 1) h3 tk2 (F2.change s3 (nL _ (Nat.le_add_right _ _)) (gone _ (Nat.le_add_right _ _))) ?_ o1.one⟩
      intro p hp
      refine ⟨s3.extBut _ _ ?_ (N2 p hp).1, (N2 p hp).2⟩
      rcases List.mem_cons.mp hp with rfl | hp
      · exact n3.symm
      · exact (m1 p hp).2.1
  · intro p hp
    rcases List.mem_cons.mp hp with rfl | hp
    · exact ⟨atD, nL _ (Nat.le_add_right _ _), gone _ (Nat.le_add_right _ _)⟩
    · exact ⟨old _ _ (N p hp).1, (N p hp).2⟩
end
end Mine
end

section
open PySem PySem.W PyProof.Rows
set_option maxRecDepth 100000
set_option linter.unusedVariables false
set_option linter.unusedSimpArgs false
set_option rowWalk.seconds 0
namespace Mine
local macro_rules | `(tactic| k_room) => `(tactic| ktr_room)
local macro_rules | `(tactic| k_units) => `(tactic| ktr_units)
local macro_rules | `(tactic| k_all) => `(tactic| (first | with_reducible assumption | (refine' ne_all ?nh ?nx; (case nh => assumption); (case nx => omega)) | fail "ne_all"))
local macro_rules | `(tactic| k_updF) => `(tactic| first | (refine' Del.head ?a; (case a => k_all)) | (refine' Del.tail ?a ?b; (case a => k_ne); (case b => k_updF)))
local macro_rules | `(tactic| k_updF) => `(tactic| first | exact Pre.nil | (refine' Pre.cons ?a ?b; (case a => (refine leN ?_; (try dsimp only); omega)); (case b => k_updF)))
local macro_rules | `(tactic| k_mem) => `(tactic| first | with_reducible assumption | exact List.mem_cons_self | (refine' List.mem_cons_of_mem _ ?_; k_mem))
local macro_rules | `(tactic| walk_at "UnrEnd") => `(tactic| (refine' unrEnd_del ?uF ?uN ?uD ?_; (case uF => k_asm); (case uN => k_asm); (case uD => k_updF)))
local macro_rules | `(tactic| tb_rel) => `(tactic| first | (refine List.forall_mem_cons.mpr ⟨?ha, ?hb⟩; (case ha => (first | (refine ltN ?_; (try dsimp only); omega) | (refine leN ?_; (try dsimp only); omega) | (refine And.intro (neN ?_) (neN ?_) <;> ((try dsimp only); omega)))); (case hb => tb_rel)) | assumption | exact List.forall_mem_nil _)
local macro_rules | `(tactic| walk_at "binaryOp Add ref ref") => `(tactic| (k_here; (with_reducible show wpAny _ _ (binaryOp _ (Value.ref _) (Value.ref _)) _ _ _); k_dflt (refine' add_mine ?F ?N ?a ?b ?z ?_; (case F => k_asm); (case N => k_asm); (case a => k_mem); (case b => k_mem); (case z => (simp only [List.size_toArray, List.length_append, List.length_drop, List.length_take]; omega))); intro D' h' F' N' l1; (try k_lt l1); (try k_sweep)))
local macro_rules | `(tactic| walk_at "call builtin:len") => `(tactic| (k_here; (with_reducible show wpAny _ _ (call (Value.builtin _) [Value.ref _]) _ _ _); k_dflt (refine' len_mine ?N ?a ?z ?_; (case N => k_asm); (case a => k_mem); (case z => (simp only [List.size_toArray]; omega)))))
local macro_rules | `(tactic| walk_at "subscriptTail Name Slice ref ref") => `(tactic| (k_here; (with_reducible show wpAny _ _ (subscriptTail _ (PySem.Expr.Slice _ _ none _) (Value.ref _) (Value.ref _)) _ _ _); k_dflt (first
  | (refine' slice_from_mine ?F ?N ?a ?k ?z ?_ ?s ?t; (case F => k_asm); (case N => k_asm); (case a => k_mem); (case k => assumption); (case z => (simp only [List.size_toArray]; omega)); (case s => with_unfolding_all rfl); (case t => (intro r; with_unfolding_all rfl)))
  | (refine' slice_upto_mine ?F ?N ?a ?k ?z ?_ ?s ?t; (case F => k_asm); (case N => k_asm); (case a => k_mem); (case k => assumption); (case z => (simp only [List.size_toArray]; omega)); (case s => with_unfolding_all rfl); (case t => (intro r; with_unfolding_all rfl)))); intro D' h' F' N' l1; (try k_lt l1); (try k_sweep)))

local macro_rules | `(tactic| walk_at "eval ListComp") => `(tactic| (k_here; k_dflt (first | (refine LCg.ListComp_U (F₀ := by k_asm) (by with_unfolding_all rfl) (by decide) (by rfl) (by decide) (by rfl) ?_))))
local macro_rules | `(tactic| walk_at "CompSrc") => `(tactic| (k_here; k_dflt (refine hold_of ?_)))
local macro_rules | `(tactic| walk_at "Src3") => `(tactic| (k_here; k_dflt (refine hold_of ?_)))
local macro_rules | `(tactic| walk_at "call ref") => `(tactic| (k_here; k_dflt (refine' call_meth ?k1 ?k2 ?_; (case k1 => k_asm); (case k2 => k_mem); refine hold_of ?_)))

/-- what the last pieces carry -/
def StF (L : Addr) (oc : Obj) (pt : Array Value) (ps ls : List (Int × Int)) (m : Str → Option Value) (news : List (Addr × Obj)) : Prop :=
  ∃ rest ll lt vl vt nl nt, news = (L + 1, oc) :: (86, tabObj pt) :: rest ∧ OkR L rest ∧ TabOk pt ((L + 1, oc) :: rest) ∧ m (Str.ofString "left") = some (.ref ll) ∧ m (Str.ofString "tokens") = some (.ref lt) ∧
    (ll, listOf (List.toArray vl) nl) ∈ rest ∧ (lt, listOf (List.toArray vt) nt) ∈ rest ∧ All2 (PairAt rest) vl ls ∧ All2 (TokAt rest) vt ps
def Grow (Z nx : List (Addr × Obj)) (R : List (Addr × Obj) → Value → Int × Int → Prop) (qs : List (Int × Int)) (i : Nat) (ys : List Value) : Prop :=
  ∃ nw, nx = nw ++ Z ∧ (∀ q ∈ nw, ∀ p ∈ Z, @LT.lt Nat _ p.1 q.1) ∧ All2 (R nx) ys (qs.take i)
theorem Grow.step {Z nx : List (Addr × Obj)} {R : List (Addr × Obj) → Value → Int × Int → Prop} {qs : List (Int × Int)} {i : Nat} {ys : List Value} (hR : ∀ {n n' : List (Addr × Obj)} {v q}, R n v q → (∀ p ∈ n, p ∈ n') → R n' v q) (g : Grow Z nx R qs i ys) {p : Addr × Obj} (hp : ∀ r ∈ Z, @LT.lt Nat _ r.1 p.1) {v : Value} (hi : i < qs.length) (hv : R (p :: nx) v qs[i]) :
    Grow Z (p :: nx) R qs (i + 1) (ys ++ [v]) := by
  obtain ⟨nw, rfl, h1, h2⟩ := g
  refine ⟨p :: nw, rfl, List.forall_mem_cons.mpr ⟨hp, h1⟩, ?_⟩
  rw [List.take_succ_eq_append_getElem hi]
  exact (h2.mono fun _ _ x => hR x fun _ hq => .tail _ hq).append ⟨hv, trivial⟩
theorem compEnd_up {h₀ : Heap} {L I C D : Addr} {oI oC oD : Obj} {m : Str → Option Value} {s₁ : Shared} {S : List (Addr × Obj) → Prop} {R : Value → List (Addr × Obj) → Prop} {y : Value} {h : Heap} {tk : Nat} {p : Addr × Obj} {nx : List (Addr × Obj)}
    (F : Fr h₀ L h m) (N : News h₀ L h (p :: (I, oI) :: (C, oC) :: (D, oD) :: nx)) (off : LCg.Off3 I C D nx)
    (hd : ∀ q ∈ (I, oI) :: (C, oC) :: (D, oD) :: nx, q.1 < p.1) (hS : S (p :: nx)) (r : R y (p :: nx)) :
    LCg.CompEnd h₀ L m s₁ I oI C oC D oD S R y { s₁ with heap := h, toks := tk } := by
  refine LCg.CompEnd.intro F N _ ?_ (LCg.Off3.of ?_) hS r
  · intro q hq
    simp only [List.mem_cons] at hq ⊢
    grind
  · have o := off.mem
    refine List.forall_mem_cons.mpr ⟨⟨Nat.ne_of_gt (hd (I, oI) (by simp)), Nat.ne_of_gt (hd (C, oC) (by simp)), Nat.ne_of_gt (hd (D, oD) (by simp))⟩, o⟩
theorem rev3 {a b c : Addr × Obj} {rs : List (Addr × Obj)} : ∀ q ∈ c :: b :: a :: rs, q ∈ a :: b :: c :: rs := by
  intro q hq
  simp only [List.mem_cons] at hq ⊢
  grind
theorem tripAt_noTab {a : Addr} {p : Addr × Obj} {ps : Array Value} {Z : List (Addr × Obj)} {v : Value} {q : Int × Int} (h : TripAt (p :: (a, tabObj ps) :: Z) v q) : TripAt (p :: Z) v q := by
  obtain ⟨x, ta, tb, tc, e, hm⟩ := h
  refine ⟨x, ta, tb, tc, e, ?_⟩
  rcases List.mem_cons.mp hm with h | hm
  · exact h ▸ .head _
  rcases List.mem_cons.mp hm with h | hm
  · have := congrArg (fun p => p.2.cls) h
    simp [tripObj, tabObj] at this
  · exact .tail _ hm
theorem putBack {a b c e : Addr × Obj} {n rs Z : List (Addr × Obj)} (h : b :: c :: (n ++ a :: e :: rs) = Z) : ∀ q ∈ a :: b :: (c :: (n ++ e :: rs)), q ∈ Z := by
  subst h
  intro q hq
  simp only [List.mem_cons, List.mem_append] at hq ⊢
  grind
theorem datPairs {n : List (Addr × Obj)} : ∀ {vs : List Value} {qs : List (Int × Int)}, All2 (PairAt n) vs qs → DatAll n vs (qs.map fun q => .tuple [.int q.1, .int q.2])
  | [], [], _ => .nil
  | _ :: _, _ :: _, ⟨⟨a, ta, tb, e, hm⟩, r⟩ => by subst e; exact .cons (.tuple hm (.cons (.int _ _) (.cons (.int _ _) .nil))) (datPairs r)
  | [], _ :: _, r => r.elim
  | _ :: _, [], r => r.elim
section
variable {prog : Program} {w : World} {A : Around} {E : Value → Shared → Prop} {s : Shared} {h₀ : Heap} {L a b : Addr} {news n₁ n₂ : List (Addr × Obj)} {oa ob : Obj} {xs ys : List Value} {ka kb : Nat} {ds es : List Dat} {Q : Value → Shared → Prop}
theorem ne_same (N : News h₀ L s.heap news) (ma : (a, oa) ∈ news) (ca : oa.cls = .type "list") (da : oa.data = .seq xs.toArray ka) (Da : DatAll n₁ xs ds) (sa : ∀ p ∈ n₁, p ∈ news)
    (mb : (b, ob) ∈ news) (cb : ob.cls = .type "list") (db : ob.data = .seq ys.toArray kb) (Db : DatAll n₂ ys es) (sb : ∀ p ∈ n₂, p ∈ news)
    (ha : ∀ d ∈ ds, kqdOk 8 d = true) (e : ds = es) (hu : A.units + 64 < cLine) (h : Q (.bool false) s) : wpAny (model prog w) A (compareOp .NotEq (.ref a) (.ref b)) Q E s := by
  subst e
  exact kqd_ne N ma ca da Da sa mb cb db Db sb ha ha hu (by simpa using h)
theorem eq_same (N : News h₀ L s.heap news) (ma : (a, oa) ∈ news) (ca : oa.cls = .type "list") (da : oa.data = .seq xs.toArray ka) (Da : DatAll n₁ xs ds) (sa : ∀ p ∈ n₁, p ∈ news)
    (mb : (b, ob) ∈ news) (cb : ob.cls = .type "list") (db : ob.data = .seq ys.toArray kb) (Db : DatAll n₂ ys es) (sb : ∀ p ∈ n₂, p ∈ news)
    (ha : ∀ d ∈ ds, kqdOk 8 d = true) (e : ds = es) (hu : A.units + 64 < cLine) (h : Q (.bool true) s) : wpAny (model prog w) A (compareOp .Eq (.ref a) (.ref b)) Q E s := by
  subst e
  exact kqd_eq N ma ca da Da sa mb cb db Db sb ha ha hu (by simpa using h)
end
theorem kq_uniq {ps qs : List (Int × Int)} (hb : ∀ q ∈ qs, Bd q) (hp : ps.Perm qs) (h1 : ps.Pairwise fun x y => kq x ≤ kq y) (h2 : qs.Pairwise fun x y => kq x ≤ kq y) : ps = qs := by
  refine List.Perm.eq_of_pairwise (le := fun x y => kq x ≤ kq y) (fun a b ha hb' h h' => kq_inj (hb a (hp.mem_iff.mp ha)) (hb b hb') (by omega)) h1 h2 hp

set_option maxHeartbeats 4000000 in
theorem pieceF (w : World) (p loose mean mg mb) (dp un : Nat) (gd : Option (List Code)) (fa : Addr) (ccd : Value) (outer : List Env) (A₀ : Around) (base h₀ : Heap) (L : Addr) (Q : Flow → Shared → Prop) (s : Shared)
    (B : Below A₀ base outer h₀) (X : (Mine.hd.heap_39 w.params).In h₀) (T : Top p loose mean mg mb h₀) (hd : dp + 30 < recursionLimit) (hu : un + 300 < cLine) (C : CodeHd base 90 86)
    (l : Addr) (hL : @LT.lt Nat _ 86 L)
    (oc : Obj) (ps ls : List (Int × Int)) (hps0 : 0 < ps.length) (hps : ps.length ≤ 16) (hbd : ∀ q ∈ ps, Bd q) (m : Str → Option Value) (news) (F : Fr h₀ L s.heap m) (N : News h₀ L s.heap news) (hJ : StO L l oc (tabObj #[]) ps ls m news)
    (next : ∀ m' h' tk' news' pt, Fr h₀ L h' m' → News h₀ L h' news' → StF L oc pt ps ls m' news' → wpAny (model PySem.Challenge.rw_ew0012_01.row.prog w) (lawTop dp un gd L fa ccd outer) (execs (lawTail 8) (lawEnv L fa ccd)) Q (fun _ _ => False) { s with heap := h', toks := tk' }) :
    wpAny (model PySem.Challenge.rw_ew0012_01.row.prog w) (lawTop dp un gd L fa ccd outer) (execs (lawTail 7) (lawEnv L fa ccd)) Q (fun _ _ => False) s := by
  with_unfolding_all show wpAny _ _ (execs (_ :: lawTail 8) _) _ _ _
  generalize lawTail 8 = rest₉ at next ⊢
  k_with_none
  w_top off
  revert X; k_fill; intro X

  obtain ⟨rest, lp, ll, lt, lo, vp, vl, vt, vo, np, nl, nt, no, os, rfl, hr, m2, m1, m3, hp1, hl1, ht1, ho1, hl2, ht2, ho2, hpm, hsr⟩ := hJ
  replace F := canon [(Str.ofString "tokens", .ref lt), (Str.ofString "order", .ref lo), (Str.ofString "left", .ref ll)] (by simp [m1, m2, m3]) F
  dsimp only [kstB] at F
  k_steps
  refine Hold.out ?_
  (rename Fr _ _ _ _ => F1)
  (rename News _ _ _ _ => N1)
  (rename (_ ∧ _ ∧ AllLt _ rest) => l1)
  obtain ⟨lq1, lq2, lq3⟩ := l1
  replace lq3 := allLt_out lq3
  have N1' := newsSub N1 (n' := (86, tabObj #[]) :: (L + 1, oc) :: (_, methodObj (Value.ref 91) (Value.ref 126)) :: rest) rev3
  generalize eMo : methodObj (Value.ref 91) (Value.ref 126) = mo at N1' N1
  have hLne : @Ne Nat (L + 1) 86 := Nat.ne_of_gt (Nat.lt_succ_of_lt hL)
  k_dflt (refine' sort_c _ _ _ _ _ _ _ _ _ _ _ _ _ _ _ _ _ _ _ _ _ _ ?cB F1 ?cX ?cT ?ck ?cd ?cu ?cC #[] _ N1' ?cr lt vt nt ps ?cl ?ct ?c1 ?c64 hbd ?ch ?_; (case cB => k_asm); (case cX => k_asm); (case cT => k_asm); (case ck => exact rfl); (case cd => ktr_room); (case cu => ktr_units); (case cC => exact C); (case cl => exact .tail _ (.tail _ ht1)); (case cr => exact List.forall_mem_cons.mpr ⟨hLne, List.forall_mem_cons.mpr ⟨Nat.ne_of_gt lq2, fun q hq => (hr q hq).2⟩⟩); (case ct => exact ht2.mono fun _ _ x => x.mono fun _ hq => .tail _ (.tail _ hq)); (case ch => exact .inl rfl); (case c1 => omega); (case c64 => omega))
  intro r h2 tk2 n2 F2 N2 hP
  obtain ⟨d, D, c, out, qs', ps', nw, rfl, rfl, b1, b2, b3, b4, b5, b6, b7, b8⟩ := hP
  have hqo : qs' = os := kq_uniq (fun q hq => hbd q (hpm.mem_iff.mp hq)) (b7.trans hpm.symm) b8 hsr
  generalize eZ : (86, tabObj ps') :: (D, listOf (List.toArray out) c) :: (nw ++ (L + 1, oc) :: (_, mo) :: rest) = Z0 at N2
  have zD : (D, listOf (List.toArray out) c) ∈ Z0 := eZ ▸ .tail _ (.head _)
  have zR : ∀ q ∈ rest, q ∈ Z0 := fun q hq => eZ ▸ .tail _ (.tail _ (List.mem_append_right _ (.tail _ (.tail _ hq))))
  have zL : (L + 1, oc) ∈ Z0 := eZ ▸ .tail _ (.tail _ (List.mem_append_right _ (.head _)))
  have zT : All2 (TokAt Z0) out qs' := b6.mono fun _ _ x => x.mono fun _ hq => eZ ▸ .tail _ (.tail _ (List.mem_append_right _ hq))
  have hlq := zT.length
  have hl16 : qs'.length ≤ 16 := by rw [b7.length_eq]; exact hps
  show LCg.CompSrc _ _ _ _ _ _ _ _ _ _ _ _ (Value.ref D) _
  refine LCg.CompSrc.ledger (by rfl) F2 N2 zD (by rw [List.size_toArray, sizeLine_eq]; omega) ?_
  intro g
  refine compRest_of (fun i ys nx => Grow Z0 nx PairAt qs' i ys) ?_ ?_ _ 0 [] _ (Nat.zero_add _) ⟨[], rfl, (fun _ hq => nomatch hq), trivial⟩
  · rintro ys nx ⟨nw1, e1, g1, g2⟩ D1 h3 tk3 F3 N3 o3
    rw [List.size_toArray, hlq, List.take_length] at g2
    clear N2 F2 N1 N1' F1
    have zo : (lo, listOf (List.toArray vo) no) ∈ (D1, LCg.lst ys) :: nx := .tail _ (e1 ▸ List.mem_append_right _ (zR _ ho1))
    have zO : All2 (TripAt ((D1, LCg.lst ys) :: nx)) vo os := ho2.mono fun _ _ x => (tripAt_noTab x).mono fun q hq => by
      rw [e1]
      rcases List.mem_cons.mp hq with rfl | hq
      · exact .tail _ (List.mem_append_right _ zL)
      · exact .tail _ (List.mem_append_right _ (zR _ hq))
    have zZ : ∀ q ∈ Z0, q ∈ (D1, LCg.lst ys) :: nx := fun q hq => .tail _ (e1 ▸ List.mem_append_right _ hq)
    have zN : ∀ q ∈ nx, q ∈ (D1, LCg.lst ys) :: nx := fun q hq => .tail _ hq
    have zD1 : (D1, LCg.lst ys) ∈ (D1, LCg.lst ys) :: nx := .head _
    generalize (D1, LCg.lst ys) :: nx = Z1 at *
    have hlo2 := zO.length
    refine comp3 (by assumption) (by with_unfolding_all rfl) (by decide) (by rfl) (by decide) (by rfl) (by rfl) (by rfl) (by decide) (by decide) (by decide) ?_ ?_
    rotate_left
    · intro _; with_unfolding_all rfl
    k_steps
    refine Hold.out ?_
    (rename Fr _ _ _ _ => F4)
    refine ⟨lo, List.toArray vo, no, Z1, fun i ys nx => Grow Z1 nx PairAt os i ys, rfl, rfl, F4, N3, by rw [List.size_toArray, sizeLine_eq, hlo2, ← hqo]; omega, ⟨[], rfl, (fun _ hq => nomatch hq), trivial⟩, ?_, ?_, ?_⟩
    · rintro i ys nx ⟨nw1, e1, _⟩
      rw [e1]; exact List.mem_append_right _ zo
    · rintro i ys2 nx2 v hin hJ hv
      have hup : ∀ q ∈ Z1, q ∈ nx2 := by
        obtain ⟨nw1, e1, _⟩ := hJ
        rw [e1]
        exact fun q hq => List.mem_append_right _ hq
      have hi' : i < os.length := by rw [List.size_toArray] at hin; omega
      obtain ⟨x, ta, tb, tc, rfl, hx1⟩ := zO.get (i := i) (by simpa using hv) (List.getElem?_eq_getElem hi')
      refine ⟨x, _, _, _, _, _, rfl, hup _ hx1, rfl, rfl, ?_⟩
      intro I oI C1 oC D2 m₂ h3 tk3 E' hC hx hy hz F3 N5 off ne
      k_steps
      (rename News _ _ _ _ => N9)
      (rename (_ ∧ _ ∧ _ ∧ AllLt _ nx2) => hl9)
      have hlo := allLt_out (l := (I, oI) :: (C1, oC) :: (D2, LCg.lst ys2) :: nx2) hl9
      refine compEnd_up (by assumption) N9 off hlo trivial (Grow.step (R := PairAt) (fun h hs => PairAt.mono h hs) hJ (fun q hq => hlo q (.tail _ (.tail _ (.tail _ (hup q hq))))) hi' ⟨_, _, _, rfl, .head _⟩)
    · rintro ys2 nx2 ⟨nw2, e2, k1, k2⟩ D2 h5 tk5 F5 N5 o5
      rw [List.size_toArray, hlo2, List.take_length] at k2
      show wpAny _ _ (compareOp .NotEq (.ref _) (.ref _)) _ _ _
      have up1 : ∀ q ∈ Z1, q ∈ (D2, LCg.lst ys2) :: nx2 := fun q hq => .tail _ (e2 ▸ List.mem_append_right _ hq)
      have up2 : ∀ q ∈ nx2, q ∈ (D2, LCg.lst ys2) :: nx2 := fun q hq => .tail _ hq
      refine ne_same N5 (up1 _ zD1) rfl rfl (datPairs g2) (fun q hq => up1 _ (zN _ hq)) (.head _) rfl rfl (datPairs k2) up2 ?_ (by rw [hqo]) (by ktr_units) ?_
      · intro q hq; obtain ⟨x, _, rfl⟩ := List.mem_map.mp hq; rfl
      k_steps
      have zY := putBack eZ
      refine next _ _ _ _ ps' F5 (newsSub N5 fun q hq => up1 _ (zZ _ (zY q hq))) ⟨_, ll, lt, vl, vt, nl, nt, rfl, ?_, ?_, rfl, rfl, .tail _ (List.mem_append_right _ (.tail _ hl1)), .tail _ (List.mem_append_right _ (.tail _ ht1)), ?_, ?_⟩
      · have hc1 : @LT.lt Nat _ (L + 1) d := b1 _ (.head _)
        have hne : ∀ q : Addr × Obj, @LE.le Nat _ d q.1 → @Ne Nat q.1 (L + 1) ∧ @Ne Nat q.1 86 := fun q hq => ⟨Nat.ne_of_gt (Nat.lt_of_lt_of_le hc1 hq), Nat.ne_of_gt (Nat.lt_of_lt_of_le b2 hq)⟩
        refine List.forall_mem_cons.mpr ⟨hne _ (b3 _ (.head _)), fun q hq => ?_⟩
        rcases List.mem_append.mp hq with hq | hq
        · exact hne _ (b3 _ (.tail _ hq))
        rcases List.mem_cons.mp hq with rfl | hq
        · exact ⟨Nat.ne_of_gt lq1, Nat.ne_of_gt lq2⟩
        · exact hr q hq
      · refine b5.mono fun q hq => ?_
        simp only [List.mem_cons, List.mem_append] at hq ⊢
        grind
      · exact hl2.mono fun _ _ x => x.mono fun _ hq => .tail _ (List.mem_append_right _ (.tail _ hq))
      · exact ht2.mono fun _ _ x => x.mono fun _ hq => .tail _ (List.mem_append_right _ (.tail _ hq))
  · rintro i ys nx hin hJ v I oI C1 oC D1 m₂ h3 tk3 E' hv hC hx F3 N3 off ne
    have hup : ∀ q ∈ Z0, q ∈ nx := by
      obtain ⟨nw1, e1, _⟩ := hJ
      rw [e1]
      exact fun q hq => List.mem_append_right _ hq
    have hi' : i < qs'.length := by rw [List.size_toArray] at hin; omega
    obtain ⟨x, dx, ta, tb, tc, rfl, hx1, hdx⟩ := zT.get (i := i) (by simpa using hv) (List.getElem?_eq_getElem hi')
    replace hx1 := hup _ hx1
    replace hdx := hup _ hdx
    clear N2 F2
    k_steps
    (rename News _ _ _ _ => N9)
    (rename (_ ∧ _ ∧ _ ∧ AllLt _ nx) => hl9)
    have hlo := allLt_out (l := (I, oI) :: (C1, oC) :: (D1, LCg.lst ys) :: nx) hl9
    refine compEnd_up (by assumption) N9 off hlo (.inr ⟨_, .tail _ (hup _ zD), rfl, _, rfl⟩) (Grow.step (R := PairAt) (fun h hs => PairAt.mono h hs) hJ (fun q hq => hlo q (.tail _ (.tail _ (.tail _ (hup q hq))))) hi' ⟨_, _, _, rfl, .head _⟩)
end Mine
end

section
open PySem PySem.W PyProof.Rows
set_option maxRecDepth 100000
set_option linter.unusedVariables false
set_option linter.unusedSimpArgs false
set_option rowWalk.seconds 0
namespace Mine
local macro_rules | `(tactic| walk_at "none such") => `(tactic| fail "none such")
local macro_rules | `(tactic| walk_at "none such") => `(tactic| fail "none such")
local macro_rules | `(tactic| walk_at "none such") => `(tactic| fail "none such")
local macro_rules | `(tactic| walk_at "none such") => `(tactic| fail "none such")
local macro_rules | `(tactic| walk_at "none such") => `(tactic| fail "none such")
local macro_rules | `(tactic| walk_at "none such") => `(tactic| fail "none such")
local macro_rules | `(tactic| walk_at "none such") => `(tactic| fail "none such")
local macro_rules | `(tactic| walk_at "none such") => `(tactic| fail "none such")
local macro_rules | `(tactic| walk_at "none such") => `(tactic| fail "none such")
local macro_rules | `(tactic| walk_at "none such") => `(tactic| fail "none such")
local macro_rules | `(tactic| walk_at "none such") => `(tactic| fail "none such")
local macro_rules | `(tactic| walk_at "none such") => `(tactic| fail "none such")
local macro_rules | `(tactic| walk_at "none such") => `(tactic| fail "none such")
local macro_rules | `(tactic| walk_at "none such") => `(tactic| fail "none such")
local macro_rules | `(tactic| walk_at "none such") => `(tactic| fail "none such")
local macro_rules | `(tactic| walk_at "none such") => `(tactic| fail "none such")
local macro_rules | `(tactic| walk_at "none such") => `(tactic| fail "none such")
local macro_rules | `(tactic| walk_at "none such") => `(tactic| fail "none such")
local macro_rules | `(tactic| walk_at "none such") => `(tactic| fail "none such")
local macro_rules | `(tactic| walk_at "none such") => `(tactic| fail "none such")
local macro_rules | `(tactic| walk_at "none such") => `(tactic| fail "none such")
local macro_rules | `(tactic| walk_at "none such") => `(tactic| fail "none such")
local macro_rules | `(tactic| walk_at "none such") => `(tactic| fail "none such")
local macro_rules | `(tactic| walk_at "none such") => `(tactic| fail "none such")
local macro_rules | `(tactic| walk_at "none such") => `(tactic| fail "none such")
local macro_rules | `(tactic| k_room) => `(tactic| ktr_room)
local macro_rules | `(tactic| k_units) => `(tactic| ktr_units)
local macro_rules | `(tactic| k_all) => `(tactic| (first | with_reducible assumption | (refine' ne_all ?nh ?nx; (case nh => assumption); (case nx => omega)) | fail "ne_all"))
local macro_rules | `(tactic| k_updF) => `(tactic| first | (refine' Del.head ?a; (case a => k_all)) | (refine' Del.tail ?a ?b; (case a => k_ne); (case b => k_updF)))
local macro_rules | `(tactic| k_updF) => `(tactic| first | exact Pre.nil | (refine' Pre.cons ?a ?b; (case a => (refine leN ?_; (try dsimp only); omega)); (case b => k_updF)))
local macro_rules | `(tactic| k_mem) => `(tactic| first | with_reducible assumption | exact List.mem_cons_self | (refine' List.mem_cons_of_mem _ ?_; k_mem))
local macro_rules | `(tactic| walk_at "UnrEnd") => `(tactic| (refine' unrEnd_del ?uF ?uN ?uD ?_; (case uF => k_asm); (case uN => k_asm); (case uD => k_updF)))
local macro_rules | `(tactic| tb_rel) => `(tactic| first | (refine List.forall_mem_cons.mpr ⟨?ha, ?hb⟩; (case ha => (first | (refine ltN ?_; (try dsimp only); omega) | (refine leN ?_; (try dsimp only); omega) | (refine And.intro (neN ?_) (neN ?_) <;> ((try dsimp only); omega)))); (case hb => tb_rel)) | assumption | exact List.forall_mem_nil _)
local macro_rules | `(tactic| walk_at "binaryOp Add ref ref") => `(tactic| (k_here; (with_reducible show wpAny _ _ (binaryOp _ (Value.ref _) (Value.ref _)) _ _ _); k_dflt (refine' add_mine ?F ?N ?a ?b ?z ?_; (case F => k_asm); (case N => k_asm); (case a => k_mem); (case b => k_mem); (case z => (simp only [List.size_toArray, List.length_append, List.length_drop, List.length_take]; omega))); intro D' h' F' N' l1; (try k_lt l1); (try k_sweep)))
local macro_rules | `(tactic| walk_at "call builtin:len") => `(tactic| (k_here; (with_reducible show wpAny _ _ (call (Value.builtin _) [Value.ref _]) _ _ _); k_dflt (refine' len_mine ?N ?a ?z ?_; (case N => k_asm); (case a => k_mem); (case z => (simp only [List.size_toArray]; omega)))))
local macro_rules | `(tactic| walk_at "subscriptTail Name Slice ref ref") => `(tactic| (k_here; (with_reducible show wpAny _ _ (subscriptTail _ (PySem.Expr.Slice _ _ none _) (Value.ref _) (Value.ref _)) _ _ _); k_dflt (first
  | (refine' slice_from_mine ?F ?N ?a ?k ?z ?_ ?s ?t; (case F => k_asm); (case N => k_asm); (case a => k_mem); (case k => assumption); (case z => (simp only [List.size_toArray]; omega)); (case s => with_unfolding_all rfl); (case t => (intro r; with_unfolding_all rfl)))
  | (refine' slice_upto_mine ?F ?N ?a ?k ?z ?_ ?s ?t; (case F => k_asm); (case N => k_asm); (case a => k_mem); (case k => assumption); (case z => (simp only [List.size_toArray]; omega)); (case s => with_unfolding_all rfl); (case t => (intro r; with_unfolding_all rfl)))); intro D' h' F' N' l1; (try k_lt l1); (try k_sweep)))

local macro_rules | `(tactic| walk_at "eval ListComp") => `(tactic| (k_here; k_dflt (first | (refine LCg.ListComp_U (F₀ := by k_asm) (by with_unfolding_all rfl) (by decide) (by rfl) (by decide) (by rfl) ?_))))
local macro_rules | `(tactic| walk_at "CompSrc") => `(tactic| (k_here; k_dflt (refine hold_of ?_)))
local macro_rules | `(tactic| walk_at "Src3") => `(tactic| (k_here; k_dflt (refine hold_of ?_)))
local macro_rules | `(tactic| walk_at "call ref") => `(tactic| (k_here; k_dflt (refine' call_meth ?k1 ?k2 ?_; (case k1 => k_asm); (case k2 => k_mem); refine hold_of ?_)))

local macro_rules | `(tactic| walk_at "exec Assign cons ListComp") => `(tactic| (k_here; k_dflt (refine LCg.Assign_ListComp_U (F₀ := by k_asm) (by rfl) (by with_unfolding_all rfl) (by with_unfolding_all rfl) (by decide) (by rfl) (by decide) (by rfl) (by rfl) (by rfl) ?_)))

def rowObj (a b : Int) (ta tb tc : Tok) : Obj := { cls := .type "tuple", data := .seq #[.int a ta, .int b tb, .str (txt b) tc] }
def RowAt (news : List (Addr × Obj)) (v : Value) (q : Int × Int) : Prop := ∃ a ta tb tc, v = .ref a ∧ (a, rowObj q.1 q.2 ta tb tc) ∈ news
theorem RowAt.mono {n n' : List (Addr × Obj)} {v : Value} {q : Int × Int} (h : RowAt n v q) (hs : ∀ p ∈ n, p ∈ n') : RowAt n' v q := by
  obtain ⟨a, ta, tb, tc, e, hm⟩ := h; exact ⟨a, ta, tb, tc, e, hs _ hm⟩
theorem datRows {n : List (Addr × Obj)} : ∀ {vs : List Value} {qs : List (Int × Int)}, All2 (RowAt n) vs qs → DatAll n vs (qs.map fun q => .tuple [.int q.1, .int q.2, .str (txt q.2)])
  | [], [], _ => .nil
  | _ :: _, _ :: _, ⟨⟨a, ta, tb, tc, e, hm⟩, r⟩ => by subst e; exact .cons (.tuple hm (.cons (.int _ _) (.cons (.int _ _) (.cons (.str _ _) .nil)))) (datRows r)
  | [], _ :: _, r => r.elim
  | _ :: _, [], r => r.elim
theorem skip2 {a b : Addr × Obj} {rs : List (Addr × Obj)} : ∀ q ∈ a :: rs, q ∈ a :: b :: rs := by
  intro q hq
  simp only [List.mem_cons] at hq ⊢
  grind
theorem tup_add {prog : Program} {w : World} {A : Around} {E : Value → Shared → Prop} {s : Shared} {h₀ : Heap} {L x y : Addr} {m : Str → Option Value} {news : List (Addr × Obj)} {a b : Int} {c : Str} {ta tb tc : Tok} {Q : Value → Shared → Prop} (F : Fr h₀ L s.heap m) (N : News h₀ L s.heap news)
    (h1 : (x, pairObj a b ta tb) ∈ news) (h2 : (y, ({ cls := .type "tuple", data := .seq #[.str c tc] } : Obj)) ∈ news)
    (h : ∀ D h', Fr h₀ L h' m → News h₀ L h' ((D, ({ cls := .type "tuple", data := .seq #[.int a ta, .int b tb, .str c tc] } : Obj)) :: news) → (∀ p ∈ news, p.1 < D) → Q (.ref D) { s with heap := h' }) : wpAny (model prog w) A (binaryOp .Add (.ref x) (.ref y)) Q E s :=
  kde_addT (zs := [.int a ta, .int b tb, .str c tc]) F N (News.isTup N h1) (News.isTup N h2) (by simp) (by simp) (by simp) rfl h
theorem off1_mem {D : Addr} {l : List (Addr × Obj)} (h : LCg.Off1 D l) : ∀ p ∈ l, p.1 ≠ D := by
  induction l with
  | nil => intro p hp; cases hp
  | cons a r ih =>
    have h' : (@Ne Nat a.1 D) ∧ LCg.Off1 D r := h
    intro p hp
    rcases List.mem_cons.mp hp with rfl | hp
    · exact h'.1
    · exact ih h'.2 p hp
def StG (L : Addr) (oc : Obj) (pt : Array Value) (ps ls : List (Int × Int)) (m : Str → Option Value) (news : List (Addr × Obj)) : Prop :=
  ∃ rest ld lt vd vt nd nt, news = (L + 1, oc) :: (86, tabObj pt) :: rest ∧ OkR L rest ∧ TabOk pt ((L + 1, oc) :: rest) ∧ m (Str.ofString "due") = some (.ref ld) ∧ m (Str.ofString "tokens") = some (.ref lt) ∧
    (ld, listOf (List.toArray vd) nd) ∈ rest ∧ (lt, listOf (List.toArray vt) nt) ∈ rest ∧ All2 (RowAt ((L + 1, oc) :: (86, tabObj pt) :: rest)) vd ls ∧ All2 (TokAt rest) vt ps

set_option maxHeartbeats 4000000 in
theorem pieceG (w : World) (p loose mean mg mb) (dp un : Nat) (gd : Option (List Code)) (fa : Addr) (ccd : Value) (outer : List Env) (A₀ : Around) (base h₀ : Heap) (L : Addr) (Q : Flow → Shared → Prop) (s : Shared)
    (B : Below A₀ base outer h₀) (X : (Mine.hd.heap_39 w.params).In h₀) (T : Top p loose mean mg mb h₀) (hd : dp + 30 < recursionLimit) (hu : un + 300 < cLine)
    (hL : @LT.lt Nat _ 86 L)
    (oc : Obj) (pt : Array Value) (ps ls : List (Int × Int)) (hls : ls.length ≤ 16) (hbd : ∀ q ∈ ls, Bd q) (m : Str → Option Value) (news) (F : Fr h₀ L s.heap m) (N : News h₀ L s.heap news) (hJ : StF L oc pt ps ls m news)
    (next : ∀ m' h' tk' news', Fr h₀ L h' m' → News h₀ L h' news' → StG L oc pt ps ls m' news' → wpAny (model PySem.Challenge.rw_ew0012_01.row.prog w) (lawTop dp un gd L fa ccd outer) (execs (lawTail 9) (lawEnv L fa ccd)) Q (fun _ _ => False) { s with heap := h', toks := tk' }) :
    wpAny (model PySem.Challenge.rw_ew0012_01.row.prog w) (lawTop dp un gd L fa ccd outer) (execs (lawTail 8) (lawEnv L fa ccd)) Q (fun _ _ => False) s := by
  with_unfolding_all show wpAny _ _ (execs (_ :: lawTail 9) _) _ _ _
  generalize lawTail 9 = rest₉ at next ⊢
  k_with_none
  w_top off
  revert X; k_fill; intro X

  obtain ⟨rest, ll, lt, vl, vt, nl, nt, rfl, hr, hT, m1, m2, hl1, ht1, hl2, ht2⟩ := hJ
  replace F := canon [(Str.ofString "tokens", .ref lt), (Str.ofString "left", .ref ll)] (by simp [m1, m2]) F
  dsimp only [kstB] at F
  obtain ⟨Z0, N0, hz, hz'⟩ := nameLedger N
  have zD : (ll, listOf (List.toArray vl) nl) ∈ Z0 := hz _ (.tail _ (.tail _ hl1))
  have hlq := hl2.length
  have zT : All2 (PairAt Z0) vl ls := hl2.mono fun _ _ x => x.mono fun _ hq => hz _ (.tail _ (.tail _ hq))
  k_steps
  refine Hold.out ?_
  refine LCg.CompSrc.ledger (by rfl) F N0 zD (by rw [List.size_toArray, sizeLine_eq]; omega) ?_
  intro g
  refine compRest_of (fun i ys nx => Grow Z0 nx RowAt ls i ys) ?_ ?_ _ 0 [] _ (Nat.zero_add _) ⟨[], rfl, (fun _ hq => nomatch hq), trivial⟩
  · rintro ys nx ⟨nw1, e1, g1, g2⟩ D1 h3 tk3 F3 N3 o3
    rw [List.size_toArray, hlq, List.take_length] at g2
    show wpAny _ _ (execs rest₉ _) _ _ _
    have hh : ∀ q ∈ nw1, q.1 ≠ L + 1 ∧ q.1 ≠ 86 := fun q hq => ⟨Nat.ne_of_gt (g1 q hq _ (hz (L + 1, oc) (.head _))), Nat.ne_of_gt (g1 q hq _ (hz (86, tabObj pt) (.tail _ (.head _))))⟩
    refine next _ _ _ _ F3 (newsSub N3 (n' := (L + 1, oc) :: (86, tabObj pt) :: ((D1, LCg.lst ys) :: (nw1 ++ rest))) ?_) ⟨_, D1, lt, ys, vt, _, nt, rfl, ?_, ?_, rfl, rfl, .head _, .tail _ (List.mem_append_right _ ht1), ?_, ?_⟩
    · intro q hq
      rw [e1]
      simp only [List.mem_cons, List.mem_append] at hq ⊢
      rcases hq with rfl | rfl | rfl | hq | hq
      · exact .inr (.inr (hz _ (.head _)))
      · exact .inr (.inr (hz _ (.tail _ (.head _))))
      · exact .inl rfl
      · exact .inr (.inl hq)
      · exact .inr (.inr (hz _ (.tail _ (.tail _ hq))))
    · have o1 := off1_mem o3
      refine List.forall_mem_cons.mpr ⟨⟨fun e => o1 (L + 1, oc) (e1 ▸ List.mem_append_right _ (hz _ (.head _))) e.symm, fun e => o1 (86, tabObj pt) (e1 ▸ List.mem_append_right _ (hz _ (.tail _ (.head _)))) e.symm⟩, fun q hq => ?_⟩
      rcases List.mem_append.mp hq with hq | hq
      · exact hh q hq
      · exact hr q hq
    · refine hT.mono fun q hq => ?_
      simp only [List.mem_cons, List.mem_append] at hq ⊢
      grind
    · refine g2.mono fun _ _ x => x.mono fun q hq => ?_
      rw [e1] at hq
      rcases List.mem_append.mp hq with hq | hq
      · exact .tail _ (.tail _ (.tail _ (List.mem_append_left _ hq)))
      rcases List.mem_cons.mp (hz' q hq) with rfl | hq
      · exact .head _
      rcases List.mem_cons.mp hq with rfl | hq
      · exact .tail _ (.head _)
      · exact .tail _ (.tail _ (.tail _ (List.mem_append_right _ hq)))
    · exact ht2.mono fun _ _ x => x.mono fun _ hq => .tail _ (List.mem_append_right _ hq)
  · rintro i ys nx hin hJ v I oI C1 oC D1 m₂ h3 tk3 E' hv hC hx F3 N3 off ne
    have hup : ∀ q ∈ Z0, q ∈ nx := by
      obtain ⟨nw1, e1, _⟩ := hJ
      rw [e1]
      exact fun q hq => List.mem_append_right _ hq
    have hi' : i < ls.length := by rw [List.size_toArray] at hin; omega
    obtain ⟨x, ta, tb, rfl, hx1⟩ := zT.get (i := i) (by simpa using hv) (List.getElem?_eq_getElem hi')
    replace hx1 := hup _ hx1
    have hbq := hbd _ (List.getElem_mem hi')
    generalize eq9 : ls[i] = q9 at *
    obtain ⟨b1, b2, b3⟩ := hbq
    k_steps
    (rename Fr _ _ _ _ => F9)
    (rename News _ _ _ _ => N8)
    refine tup_add F9 N8 (.tail _ (.tail _ (.tail _ (.tail _ hx1)))) (.head _) ?_
    intro D2 h9 F10 N9 hlo
    subst eq9
    have hlo2 : ∀ q ∈ (I, oI) :: (C1, oC) :: (D1, LCg.lst ys) :: nx, @LT.lt Nat _ q.1 D2 := fun q hq => hlo q (.tail _ hq)
    refine compEnd_up F10 (newsSub N9 skip2) off hlo2 (.inr ⟨_, .tail _ (hup _ zD), rfl, _, rfl⟩) (Grow.step (R := RowAt) (fun h hs => RowAt.mono h hs) hJ (fun q hq => hlo2 q (.tail _ (.tail _ (.tail _ (hup q hq))))) hi' ⟨_, _, _, _, rfl, .head _⟩)
end Mine
end

section
open PySem PySem.W PyProof.Rows
set_option maxRecDepth 100000
set_option linter.unusedVariables false
set_option linter.unusedSimpArgs false
set_option rowWalk.seconds 0
namespace Mine
local macro_rules | `(tactic| k_room) => `(tactic| ktr_room)
local macro_rules | `(tactic| k_units) => `(tactic| ktr_units)
local macro_rules | `(tactic| k_all) => `(tactic| (first | with_reducible assumption | (refine' ne_all ?nh ?nx; (case nh => assumption); (case nx => omega)) | fail "ne_all"))
local macro_rules | `(tactic| k_updF) => `(tactic| first | (refine' Del.head ?a; (case a => k_all)) | (refine' Del.tail ?a ?b; (case a => k_ne); (case b => k_updF)))
local macro_rules | `(tactic| k_updF) => `(tactic| first | exact Pre.nil | (refine' Pre.cons ?a ?b; (case a => (refine leN ?_; (try dsimp only); omega)); (case b => k_updF)))
local macro_rules | `(tactic| k_mem) => `(tactic| first | with_reducible assumption | exact List.mem_cons_self | (refine' List.mem_cons_of_mem _ ?_; k_mem))
local macro_rules | `(tactic| walk_at "UnrEnd") => `(tactic| (refine' unrEnd_del ?uF ?uN ?uD ?_; (case uF => k_asm); (case uN => k_asm); (case uD => k_updF)))
local macro_rules | `(tactic| tb_rel) => `(tactic| first | (refine List.forall_mem_cons.mpr ⟨?ha, ?hb⟩; (case ha => (first | (refine ltN ?_; (try dsimp only); omega) | (refine leN ?_; (try dsimp only); omega) | (refine And.intro (neN ?_) (neN ?_) <;> ((try dsimp only); omega)))); (case hb => tb_rel)) | assumption | exact List.forall_mem_nil _)
local macro_rules | `(tactic| walk_at "binaryOp Add ref ref") => `(tactic| (k_here; (with_reducible show wpAny _ _ (binaryOp _ (Value.ref _) (Value.ref _)) _ _ _); k_dflt (refine' add_mine ?F ?N ?a ?b ?z ?_; (case F => k_asm); (case N => k_asm); (case a => k_mem); (case b => k_mem); (case z => (simp only [List.size_toArray, List.length_append, List.length_drop, List.length_take]; omega))); intro D' h' F' N' l1; (try k_lt l1); (try k_sweep)))
local macro_rules | `(tactic| walk_at "call builtin:len") => `(tactic| (k_here; (with_reducible show wpAny _ _ (call (Value.builtin _) [Value.ref _]) _ _ _); k_dflt (refine' len_mine ?N ?a ?z ?_; (case N => k_asm); (case a => k_mem); (case z => (simp only [List.size_toArray]; omega)))))
local macro_rules | `(tactic| walk_at "subscriptTail Name Slice ref ref") => `(tactic| (k_here; (with_reducible show wpAny _ _ (subscriptTail _ (PySem.Expr.Slice _ _ none _) (Value.ref _) (Value.ref _)) _ _ _); k_dflt (first
  | (refine' slice_from_mine ?F ?N ?a ?k ?z ?_ ?s ?t; (case F => k_asm); (case N => k_asm); (case a => k_mem); (case k => assumption); (case z => (simp only [List.size_toArray]; omega)); (case s => with_unfolding_all rfl); (case t => (intro r; with_unfolding_all rfl)))
  | (refine' slice_upto_mine ?F ?N ?a ?k ?z ?_ ?s ?t; (case F => k_asm); (case N => k_asm); (case a => k_mem); (case k => assumption); (case z => (simp only [List.size_toArray]; omega)); (case s => with_unfolding_all rfl); (case t => (intro r; with_unfolding_all rfl)))); intro D' h' F' N' l1; (try k_lt l1); (try k_sweep)))
local macro_rules | `(tactic| walk_at "compareOp Eq ref ref") => `(tactic| (k_here; k_dflt (refine hold_of ?_)))

local macro_rules | `(tactic| walk_at "eval ListComp") => `(tactic| (k_here; k_dflt (first | (refine LCg.ListComp_U (F₀ := by k_asm) (by with_unfolding_all rfl) (by decide) (by rfl) (by decide) (by rfl) ?_))))
local macro_rules | `(tactic| walk_at "CompSrc") => `(tactic| (k_here; k_dflt (refine hold_of ?_)))
local macro_rules | `(tactic| walk_at "Src3") => `(tactic| (k_here; k_dflt (refine hold_of ?_)))

local macro_rules | `(tactic| walk_at "call ref") => `(tactic| (k_here; k_dflt (refine' wpAny_call ?_; refine hold_of ?_)))

theorem strOk_of (s : String) : PyData.strOk (Str.ofString s) = true := by
  rw [Str.ofString_eq_toList]
  unfold PyData.strOk
  simp only [List.all_toArray, List.all_map, List.all_eq_true, Function.comp, decide_eq_true_eq]
  intro c _
  have h := c.valid
  unfold UInt32.isValidChar Nat.isValidChar at h
  show c.val.toNat < 0x110000
  omega
theorem rowOk (x : Int × Int) : kqdOk 8 (.tuple [.int x.1, .int x.2, .str (txt x.2)]) = true := by
  simp [kqdOk, strOk_of]
theorem rowAt_noTab {a : Addr} {p : Addr × Obj} {ps : Array Value} {Z : List (Addr × Obj)} {v : Value} {q : Int × Int} (h : RowAt (p :: (a, tabObj ps) :: Z) v q) : RowAt (p :: Z) v q := by
  obtain ⟨x, ta, tb, tc, e, hm⟩ := h
  refine ⟨x, ta, tb, tc, e, ?_⟩
  rcases List.mem_cons.mp hm with h | hm
  · exact h ▸ .head _
  rcases List.mem_cons.mp hm with h | hm
  · have := congrArg (fun p => p.2.cls) h
    simp [rowObj, tabObj] at this
  · exact .tail _ hm

set_option maxHeartbeats 4000000 in
theorem pieceH (w : World) (p loose mean mg mb) (dp un : Nat) (gd : Option (List Code)) (fa : Addr) (ccd : Value) (outer : List Env) (A₀ : Around) (base h₀ : Heap) (L : Addr) (Q : Flow → Shared → Prop) (s : Shared)
    (B : Below A₀ base outer h₀) (X : (Mine.hd.heap_39 w.params).In h₀) (T : Top p loose mean mg mb h₀) (hd : dp + 30 < recursionLimit) (hu : un + 300 < cLine) (C : CodeHd base 90 86)
    (hL : @LT.lt Nat _ 86 L)
    (oc : Obj) (pt : Array Value) (ps ls : List (Int × Int)) (hps0 : 0 < ps.length) (hps : ps.length ≤ 16) (hbd : ∀ q ∈ ps, Bd q) (hls : ls.length ≤ 16) (hfin : ∀ qs, qs.Perm ps → (qs.Pairwise fun x y => kq x ≤ kq y) → filt qs = ls)
    (m : Str → Option Value) (news) (F : Fr h₀ L s.heap m) (N : News h₀ L s.heap news) (hJ : StG L oc pt ps ls m news)
    (done : ∀ m' h' tk' pt' rest, Fr h₀ L h' m' → News h₀ L h' ((86, tabObj pt') :: rest) → Q (.ret (.bool true)) { s with heap := h', toks := tk' }) :
    wpAny (model PySem.Challenge.rw_ew0012_01.row.prog w) (lawTop dp un gd L fa ccd outer) (execs (lawTail 9) (lawEnv L fa ccd)) Q (fun _ _ => False) s := by
  with_unfolding_all show wpAny _ _ (execs (_ :: []) _) _ _ _
  k_with_none
  w_top off
  revert X; k_fill; intro X
  obtain ⟨rest, ld, lt, vd, vt, nd, nt, rfl, hr, hT, m1, m2, hd1, ht1, hd2, ht2⟩ := hJ
  replace F := canon [(Str.ofString "tokens", .ref lt), (Str.ofString "due", .ref ld)] (by simp [m1, m2]) F
  dsimp only [kstB] at F
  k_steps
  refine Hold.out ?_
  (rename Fr _ _ _ _ => F1)
  have hLne : @Ne Nat (L + 1) 86 := Nat.ne_of_gt (Nat.lt_succ_of_lt hL)
  have N1 := newsSub N swap2
  k_dflt (refine' filter_c _ _ _ _ _ _ _ _ _ _ _ _ _ _ _ _ _ _ _ _ _ _ ?cB F1 ?cX ?cT ?ck ?cd ?cu ?cC pt _ N1 ?cr lt vt nt ps ?cl ?ct ?c1 ?c64 hbd hT ?_; (case cB => k_asm); (case cX => k_asm); (case cT => k_asm); (case ck => exact rfl); (case cd => ktr_room); (case cu => ktr_units); (case cC => exact C); (case cl => exact .tail _ ht1); (case cr => exact List.forall_mem_cons.mpr ⟨hLne, fun q hq => (hr q hq).2⟩); (case ct => exact ht2.mono fun _ _ x => x.mono fun _ hq => .tail _ hq); (case c1 => omega); (case c64 => omega))
  intro r h2 tk2 n2 F2 N2 hP
  obtain ⟨d, D, c, out, qs', ps', nw, rfl, rfl, b1, b2, b3, b5, b6, b7, b8⟩ := hP
  rw [hfin qs' b7 b8] at b6
  generalize eZ : (86, tabObj ps') :: (D, listOf (List.toArray out) c) :: (nw ++ (L + 1, oc) :: rest) = Z0 at N2
  have zD : (D, listOf (List.toArray out) c) ∈ Z0 := eZ ▸ .tail _ (.head _)
  have zP : (86, tabObj ps') ∈ Z0 := eZ ▸ .head _
  have zR : ∀ q ∈ (L + 1, oc) :: rest, q ∈ Z0 := fun q hq => eZ ▸ .tail _ (.tail _ (List.mem_append_right _ hq))
  have zT : All2 (TokAt Z0) out ls := b6.mono fun _ _ x => x.mono fun _ hq => eZ ▸ .tail _ (.tail _ hq)
  have zW : All2 (RowAt Z0) vd ls := hd2.mono fun _ _ x => (rowAt_noTab x).mono zR
  have zd : (ld, listOf (List.toArray vd) nd) ∈ Z0 := zR _ (.tail _ hd1)
  have hlq := zT.length
  show LCg.CompSrc _ _ _ _ _ _ _ _ _ _ _ _ (Value.ref D) _
  refine LCg.CompSrc.ledger (by rfl) F2 N2 zD (by rw [List.size_toArray, sizeLine_eq]; omega) ?_
  intro g
  refine compRest_of (fun i ys nx => Grow Z0 nx RowAt ls i ys) ?_ ?_ _ 0 [] _ (Nat.zero_add _) ⟨[], rfl, (fun _ hq => nomatch hq), trivial⟩
  · rintro ys nx ⟨nw1, e1, g1, g2⟩ D1 h3 tk3 F3 N3 o3
    rw [List.size_toArray, hlq, List.take_length] at g2
    clear N2 F2 N1 F1 N
    have up : ∀ q ∈ Z0, q ∈ (D1, LCg.lst ys) :: nx := fun q hq => .tail _ (e1 ▸ List.mem_append_right _ hq)
    k_steps
    refine Hold.out ?_
    show wpAny _ _ (compareOp .Eq (.ref D1) (.ref ld)) _ _ _
    refine eq_same N3 (.head _) rfl rfl (datRows g2) (fun q hq => .tail _ hq) (up _ zd) rfl rfl (datRows zW) up ?_ rfl (by ktr_units) ?_
    · intro q hq; obtain ⟨x, _, rfl⟩ := List.mem_map.mp hq; exact rowOk x
    k_steps
    exact done _ _ _ ps' Z0 F3 (newsSub N3 (List.forall_mem_cons.mpr ⟨up _ zP, up⟩))
  · rintro i ys nx hin hJ v I oI C1 oC D1 m₂ h3 tk3 E' hv hC hx F3 N3 off ne
    have hup : ∀ q ∈ Z0, q ∈ nx := by
      obtain ⟨nw1, e1, _⟩ := hJ
      rw [e1]
      exact fun q hq => List.mem_append_right _ hq
    have hi' : i < ls.length := by rw [List.size_toArray] at hin; omega
    obtain ⟨x, dx, ta, tb, tc, rfl, hx1, hdx⟩ := zT.get (i := i) (by simpa using hv) (List.getElem?_eq_getElem hi')
    replace hx1 := hup _ hx1
    replace hdx := hup _ hdx
    clear N2 F2
    k_steps
    (rename News _ _ _ _ => N9)
    (rename (_ ∧ _ ∧ _ ∧ AllLt _ nx) => hl9)
    have hlo := allLt_out (l := (I, oI) :: (C1, oC) :: (D1, LCg.lst ys) :: nx) hl9
    refine compEnd_up (by assumption) N9 off hlo (.inr ⟨_, .tail _ (hup _ zD), rfl, _, rfl⟩) (Grow.step (R := RowAt) (fun h hs => RowAt.mono h hs) hJ (fun q hq => hlo q (.tail _ (.tail _ (.tail _ (hup q hq))))) hi' ⟨_, _, _, _, rfl, .head _⟩)
end Mine
end

section
open PySem PySem.W PyProof.Rows
set_option maxRecDepth 100000
set_option linter.unusedVariables false
namespace Mine
theorem filt_far {c : Int × Int} : ∀ {rest : List (Int × Int)}, (∀ q ∈ rest, c.2 < q.1) → filt (c :: rest) = c :: filt rest
  | [], _ => by rw [filt_one, filt_nil]
  | n :: r, h => filt_after (h n (.head _))
theorem filt_eat {c : Int × Int} {rest : List (Int × Int)} : ∀ {l : List (Int × Int)}, (∀ q ∈ l, q.1 ≤ c.2 ∧ q.2 ≤ c.2) → filt (c :: (l ++ rest)) = filt (c :: rest)
  | [], _ => rfl
  | n :: r, h => by
    have hn := h n (.head _)
    rw [List.cons_append, filt_in (by omega) (.inl hn.2)]
    exact filt_eat fun q hq => h q (.tail _ hq)
theorem sort_ex (l : List (Int × Int)) : ∃ S : List (Int × Int), S.Perm l ∧ S.Pairwise fun x y => kq x ≤ kq y := by
  refine ⟨l.mergeSort (fun x y => decide (kq x ≤ kq y)), List.mergeSort_perm _ _, ?_⟩
  have := List.pairwise_mergeSort (le := fun x y => decide (kq x ≤ kq y)) (fun a b c h1 h2 => by simp only [decide_eq_true_eq] at *; omega) (fun a b => by simp only [Bool.or_eq_true, decide_eq_true_eq]; omega) l
  exact this.imp fun h => by simpa using h
/-- a group's stretches, sorted, are sifted to what is left of them -/
theorem grp_law (kind s k : Int) (h0 : 0 ≤ kind) (h4 : kind < 4) (hk : 0 ≤ k) :
    (∀ q ∈ (grp kind s k).1, s ≤ q.1 ∧ q.1 ≤ q.2 ∧ q.2 ≤ s + 6) ∧ ∃ S : List (Int × Int), S.Perm (grp kind s k).1 ∧ (S.Pairwise fun x y => kq x ≤ kq y) ∧ ∀ rest, (∀ q ∈ rest, s + 6 < q.1) → filt (S ++ rest) = (grp kind s k).2 ++ filt rest := by
  have e : kind = 0 ∨ kind = 1 ∨ kind = 2 ∨ kind = 3 := by omega
  rcases e with rfl | rfl | rfl | rfl
  · rw [grp0]
    refine ⟨?_, [(s, s + k % 4)], List.Perm.refl _, by simp, fun rest h => ?_⟩
    · intro q hq
      rw [List.mem_singleton.mp hq]
      dsimp only; omega
    · rw [List.singleton_append, filt_far (fun q hq => by have := h q hq; dsimp only; omega)]
      rfl
  · rw [grp1]
    have hs : ∀ q ∈ subs s k, s ≤ q.1 ∧ q.1 ≤ q.2 ∧ q.2 ≤ s + 4 := by
      intro q hq
      obtain ⟨i, _, rfl⟩ := List.mem_map.mp hq
      unfold sub1
      have a0 : 0 ≤ ext k i := Int.emod_nonneg _ (by decide)
      have a1 : ext k i < 5 := Int.emod_lt_of_pos _ (by decide)
      dsimp only; omega
    refine ⟨?_, ?_⟩
    · intro q hq
      rcases List.mem_cons.mp hq with rfl | hq
      · dsimp only; omega
      · have := hs q hq; omega
    · obtain ⟨S, p1, p2⟩ := sort_ex (subs s k)
      have hS : ∀ q ∈ S, s ≤ q.1 ∧ q.1 ≤ q.2 ∧ q.2 ≤ s + 4 := fun q hq => hs q (p1.mem_iff.mp hq)
      refine ⟨(s, s + 4) :: S, p1.cons _, List.pairwise_cons.mpr ⟨fun q hq => ?_, p2⟩, fun rest h => ?_⟩
      · have := hS q hq
        unfold kq; dsimp only; omega
      · rw [List.cons_append, filt_eat (fun q hq => by have := hS q hq; dsimp only; omega), filt_far (fun q hq => by have := h q hq; dsimp only; omega)]
        rfl
  · rw [grp2]
    refine ⟨?_, [(s, s + 4), (s + 3, s + 5 + k % 2), (s + 5, s + 6)], List.Perm.refl _, ?_, fun rest h => ?_⟩
    · intro q hq
      simp only [List.mem_cons, List.not_mem_nil, or_false] at hq
      rcases hq with rfl | rfl | rfl <;> (dsimp only; omega)
    · simp only [List.pairwise_cons, List.mem_cons, List.not_mem_nil, or_false, kq]
      refine ⟨?_, ?_, ?_, .nil⟩
      · rintro q (rfl | rfl) <;> (dsimp only; omega)
      · rintro q rfl; dsimp only; omega
      · intro q hq; exact hq.elim
    · show filt ((s, s + 4) :: (s + 3, s + 5 + k % 2) :: (s + 5, s + 6) :: rest) = _
      rw [filt_in (by dsimp only; omega) (.inr (by dsimp only; omega)), filt_after (by dsimp only; omega), filt_far (fun q hq => by have := h q hq; dsimp only; omega)]
      rfl
  · rw [grp3]
    refine ⟨?_, [(s, s + 1 + k % 2), (s + 1, s + 4 + k % 3)], List.Perm.refl _, ?_, fun rest h => ?_⟩
    · intro q hq
      simp only [List.mem_cons, List.not_mem_nil, or_false] at hq
      rcases hq with rfl | rfl <;> (dsimp only; omega)
    · simp only [List.pairwise_cons, List.mem_cons, List.not_mem_nil, or_false, kq]
      refine ⟨?_, ?_, .nil⟩
      · rintro q rfl; dsimp only; omega
      · intro q hq; exact hq.elim
    · show filt ((s, s + 1 + k % 2) :: (s + 1, s + 4 + k % 3) :: rest) = _
      rw [filt_more (by dsimp only; omega) (by dsimp only; omega)]
      rfl
theorem all_law (ns : List Int) : ∀ n : Nat, (∀ q ∈ allP ns n, 0 ≤ q.1 ∧ q.1 ≤ q.2 ∧ q.2 + 3 ≤ 9 * n) ∧ ∃ S : List (Int × Int), S.Perm (allP ns n) ∧ (n ≤ 4 → S.Pairwise fun x y => kq x ≤ kq y) ∧ ∀ rest, (∀ q ∈ rest, (9 * n : Int) ≤ q.1) → filt (S ++ rest) = allL ns n ++ filt rest
  | 0 => by
    refine ⟨fun q hq => ?_, [], List.Perm.refl _, fun _ => .nil, fun rest _ => rfl⟩
    exact absurd hq (by simp [allP])
  | n + 1 => by
    obtain ⟨b, S, p1, p2, p3⟩ := all_law ns n
    have hk0 : 0 ≤ cellV ns (2 * n + 1) % 4 := Int.emod_nonneg _ (by decide)
    have hk4 : cellV ns (2 * n + 1) % 4 < 4 := Int.emod_lt_of_pos _ (by decide)
    obtain ⟨c, T, t1, t2, t3⟩ := grp_law (cellV ns (2 * n + 1) % 4) (9 * n) (cellV ns (2 * n + 2)) hk0 hk4 (cellV_nn _ _ (by omega))
    have cT : ∀ q ∈ T, (9 * n : Int) ≤ q.1 ∧ q.1 ≤ q.2 ∧ q.2 ≤ 9 * n + 6 := fun q hq => c q (t1.mem_iff.mp hq)
    have bS : ∀ q ∈ S, 0 ≤ q.1 ∧ q.1 ≤ q.2 ∧ q.2 + 3 ≤ 9 * n := fun q hq => b q (p1.mem_iff.mp hq)
    rw [allP_succ, allL_succ]
    refine ⟨fun q hq => ?_, S ++ T, p1.append t1, fun h4 => ?_, fun rest h => ?_⟩
    · rcases List.mem_append.mp hq with hq | hq
      · have := b q hq; omega
      · have := c q hq; omega
    · refine List.pairwise_append.mpr ⟨p2 (by omega), t2, fun x hx y hy => ?_⟩
      have := bS x hx
      have := cT y hy
      unfold kq; omega
    · rw [List.append_assoc, p3 (T ++ rest) (fun q hq => ?_), t3 rest (fun q hq => by have := h q hq; omega), List.append_assoc]
      · rfl
      · rcases List.mem_append.mp hq with hq | hq
        · exact (cT q hq).1
        · have := h q hq; omega
theorem grp_pos (kind s k : Int) : 0 < (grp kind s k).1.length := by
  unfold grp
  split
  · simp
  split
  · simp
  split <;> simp
theorem allP_pos (ns : List Int) {n : Nat} (h : 0 < n) : 0 < (allP ns n).length := by
  obtain ⟨k, rfl⟩ : ∃ k, n = k + 1 := ⟨n - 1, by omega⟩
  rw [allP_succ, List.length_append]
  have : 0 < (gs ns k).1.length := grp_pos _ _ _
  omega
theorem allP_bd (ns : List Int) {n : Nat} (h : n ≤ 4) : ∀ q ∈ allP ns n, Bd q := fun q hq => by
  have := (all_law ns n).1 q hq
  unfold Bd; omega
theorem filt_sub : ∀ (n : Nat) (l : List (Int × Int)), l.length ≤ n → ∀ q ∈ filt l, q ∈ l
  | _, [], _, q, hq => by rw [filt_nil] at hq; exact hq
  | _, [c], _, q, hq => by rw [filt_one] at hq; exact hq
  | n + 1, c :: d :: r, h, q, hq => by
    simp only [List.length_cons] at h
    by_cases h1 : c.2 < d.1
    · rw [filt_after h1] at hq
      rcases List.mem_cons.mp hq with rfl | hq
      · exact .head _
      · exact .tail _ (filt_sub n (d :: r) (by simp only [List.length_cons]; omega) q hq)
    · by_cases h2 : d.2 ≤ c.2 ∨ d.2 - d.1 ≤ c.2 - c.1
      · rw [filt_in h1 h2] at hq
        have := filt_sub n (c :: r) (by simp only [List.length_cons]; omega) q hq
        simp only [List.mem_cons] at this ⊢
        grind
      · rw [filt_more h1 h2] at hq
        rcases List.mem_cons.mp hq with rfl | hq
        · exact .tail _ (.head _)
        · exact .tail _ (.tail _ (filt_sub n r (by omega) q hq))
  | 0, _ :: _, h, _, _ => by simp at h
theorem allL_bd (ns : List Int) {n : Nat} (h : n ≤ 4) : ∀ q ∈ allL ns n, Bd q := by
  intro q hq
  obtain ⟨_, S, p1, p2, p3⟩ := all_law ns n
  have := p3 [] (fun _ hq => nomatch hq)
  rw [List.append_nil, filt_nil, List.append_nil] at this
  exact allP_bd ns h q (p1.mem_iff.mp (filt_sub _ S (Nat.le_refl _) q (this ▸ hq)))
theorem fin_law (ns : List Int) {n : Nat} (h : n ≤ 4) {ps : List (Int × Int)} (hp : ps.Perm (allP ns n)) : ∀ qs : List (Int × Int), qs.Perm ps → (qs.Pairwise fun x y => kq x ≤ kq y) → filt qs = allL ns n := by
  intro qs h1 h2
  obtain ⟨_, S, p1, p2, p3⟩ := all_law ns n
  have e : qs = S := kq_uniq (fun q hq => allP_bd ns h q (p1.mem_iff.mp hq)) ((h1.trans hp).trans p1.symm) h2 (p2 h)
  rw [e]
  have := p3 [] (fun _ hq => nomatch hq)
  rwa [List.append_nil, filt_nil, List.append_nil] at this
end Mine
end

section
open PySem PySem.W PyProof.Rows
set_option maxRecDepth 100000
set_option linter.unusedVariables false
set_option linter.unusedSimpArgs false
set_option rowWalk.seconds 0
namespace Mine
local macro_rules | `(tactic| walk_at "none such") => `(tactic| fail "none such")
local macro_rules | `(tactic| walk_at "none such") => `(tactic| fail "none such")
local macro_rules | `(tactic| walk_at "none such") => `(tactic| fail "none such")
local macro_rules | `(tactic| walk_at "none such") => `(tactic| fail "none such")
local macro_rules | `(tactic| walk_at "none such") => `(tactic| fail "none such")
local macro_rules | `(tactic| walk_at "none such") => `(tactic| fail "none such")
local macro_rules | `(tactic| walk_at "none such") => `(tactic| fail "none such")
local macro_rules | `(tactic| walk_at "none such") => `(tactic| fail "none such")
local macro_rules | `(tactic| walk_at "none such") => `(tactic| fail "none such")
local macro_rules | `(tactic| walk_at "none such") => `(tactic| fail "none such")
local macro_rules | `(tactic| walk_at "none such") => `(tactic| fail "none such")
local macro_rules | `(tactic| walk_at "none such") => `(tactic| fail "none such")
local macro_rules | `(tactic| walk_at "none such") => `(tactic| fail "none such")
local macro_rules | `(tactic| walk_at "none such") => `(tactic| fail "none such")
local macro_rules | `(tactic| walk_at "none such") => `(tactic| fail "none such")
local macro_rules | `(tactic| walk_at "none such") => `(tactic| fail "none such")
local macro_rules | `(tactic| walk_at "none such") => `(tactic| fail "none such")
local macro_rules | `(tactic| walk_at "none such") => `(tactic| fail "none such")
local macro_rules | `(tactic| walk_at "none such") => `(tactic| fail "none such")
local macro_rules | `(tactic| walk_at "none such") => `(tactic| fail "none such")
local macro_rules | `(tactic| walk_at "none such") => `(tactic| fail "none such")
local macro_rules | `(tactic| walk_at "none such") => `(tactic| fail "none such")
local macro_rules | `(tactic| walk_at "none such") => `(tactic| fail "none such")
local macro_rules | `(tactic| walk_at "none such") => `(tactic| fail "none such")
local macro_rules | `(tactic| walk_at "none such") => `(tactic| fail "none such")
local macro_rules | `(tactic| k_room) => `(tactic| ktr_room)
local macro_rules | `(tactic| k_units) => `(tactic| ktr_units)
local macro_rules | `(tactic| k_all) => `(tactic| (first | with_reducible assumption | (refine' ne_all ?nh ?nx; (case nh => assumption); (case nx => omega)) | fail "ne_all"))
local macro_rules | `(tactic| k_updF) => `(tactic| first | (refine' Del.head ?a; (case a => k_all)) | (refine' Del.tail ?a ?b; (case a => k_ne); (case b => k_updF)))
local macro_rules | `(tactic| k_updF) => `(tactic| first | exact Pre.nil | (refine' Pre.cons ?a ?b; (case a => (refine leN ?_; (try dsimp only); omega)); (case b => k_updF)))
local macro_rules | `(tactic| k_mem) => `(tactic| first | with_reducible assumption | exact List.mem_cons_self | (refine' List.mem_cons_of_mem _ ?_; k_mem))
local macro_rules | `(tactic| walk_at "UnrEnd") => `(tactic| (refine' unrEnd_del ?uF ?uN ?uD ?_; (case uF => k_asm); (case uN => k_asm); (case uD => k_updF)))
local macro_rules | `(tactic| tb_rel) => `(tactic| first | (refine List.forall_mem_cons.mpr ⟨?ha, ?hb⟩; (case ha => (first | (refine ltN ?_; (try dsimp only); omega) | (refine leN ?_; (try dsimp only); omega) | (refine And.intro (neN ?_) (neN ?_) <;> ((try dsimp only); omega)))); (case hb => tb_rel)) | assumption | exact List.forall_mem_nil _)
local macro_rules | `(tactic| walk_at "binaryOp Add ref ref") => `(tactic| (k_here; (with_reducible show wpAny _ _ (binaryOp _ (Value.ref _) (Value.ref _)) _ _ _); k_dflt (refine' add_mine ?F ?N ?a ?b ?z ?_; (case F => k_asm); (case N => k_asm); (case a => k_mem); (case b => k_mem); (case z => (simp only [List.size_toArray, List.length_append, List.length_drop, List.length_take]; omega))); intro D' h' F' N' l1; (try k_lt l1); (try k_sweep)))
local macro_rules | `(tactic| walk_at "call builtin:len") => `(tactic| (k_here; (with_reducible show wpAny _ _ (call (Value.builtin _) [Value.ref _]) _ _ _); k_dflt (refine' len_mine ?N ?a ?z ?_; (case N => k_asm); (case a => k_mem); (case z => (simp only [List.size_toArray]; omega)))))
local macro_rules | `(tactic| walk_at "subscriptTail Name Slice ref ref") => `(tactic| (k_here; (with_reducible show wpAny _ _ (subscriptTail _ (PySem.Expr.Slice _ _ none _) (Value.ref _) (Value.ref _)) _ _ _); k_dflt (first
  | (refine' slice_from_mine ?F ?N ?a ?k ?z ?_ ?s ?t; (case F => k_asm); (case N => k_asm); (case a => k_mem); (case k => assumption); (case z => (simp only [List.size_toArray]; omega)); (case s => with_unfolding_all rfl); (case t => (intro r; with_unfolding_all rfl)))
  | (refine' slice_upto_mine ?F ?N ?a ?k ?z ?_ ?s ?t; (case F => k_asm); (case N => k_asm); (case a => k_mem); (case k => assumption); (case z => (simp only [List.size_toArray]; omega)); (case s => with_unfolding_all rfl); (case t => (intro r; with_unfolding_all rfl)))); intro D' h' F' N' l1; (try k_lt l1); (try k_sweep)))

theorem mono_next {prog : Program} {w : World} {A : Around} {E : Value → Shared → Prop} {s : Shared} {env : Env} {b : List Stmt} {Q : Flow → Shared → Prop} (h : wpAny (model prog w) A (execs b env) Q (fun _ _ => False) s) : wpAny (model prog w) A (execs b env) Q E s := wpAny_mono h (fun _ _ x => x) fun _ _ hF => hF.elim
set_option maxHeartbeats 4000000 in
theorem lawAll (w : World) (p loose mean mg mb) (dp un : Nat) (gd : Option (List Code)) (fa : Addr) (ccd : Value) (outer : List Env) (A₀ : Around) (base h₀ : Heap) (L : Addr) (Q : Flow → Shared → Prop) (s : Shared)
    (B : Below A₀ base outer h₀) (X : (Mine.hd.heap_39 w.params).In h₀) (T : Top p loose mean mg mb h₀) (hd : dp + 30 < recursionLimit) (hu : un + 300 < cLine) (C : CodeHd base 90 86)
    (l : Addr) (vs : List Value) (ns : List Int) (hl : base.IsList l vs.toArray) (hi : IntsAre vs ns) (hlen : ns.length ≤ 63) (hL : @LT.lt Nat _ 86 L)
    (oc : Obj) (v0 : Option Value) (hoc : oc.data = .cell v0) (m : Str → Option Value) (m1 : m (Str.ofString "script") = some (.ref l)) (F : Fr h₀ L s.heap m) (N : News h₀ L s.heap [(L + 1, oc), (86, tabObj #[])])
    (done : ∀ m' h' tk' pt' rest, Fr h₀ L h' m' → News h₀ L h' ((86, tabObj pt') :: rest) → Q (.ret (.bool true)) { s with heap := h', toks := tk' }) :
    wpAny (model PySem.Challenge.rw_ew0012_01.row.prog w) (lawTop dp un gd L fa ccd outer) (execs (lawTail 0) (lawEnv L fa ccd)) Q (fun _ _ => False) s := by
  have hc0 : 0 ≤ cellV ns 0 % 4 := Int.emod_nonneg _ (by decide)
  have hc4 : cellV ns 0 % 4 < 4 := Int.emod_lt_of_pos _ (by decide)
  have next : ∀ m' h' tk' news', Fr h₀ L h' m' → News h₀ L h' news' → JA ns L l oc (tabObj #[]) 0 m' news' → wpAny (model PySem.Challenge.rw_ew0012_01.row.prog w) (lawTop dp un gd L fa ccd outer) (execs (lawTail 1) (lawEnv L fa ccd)) Q (fun _ _ => False) { s with heap := h', toks := tk' } := by
    intro mA hA tkA nA FA NA JA0
    refine pieceA w p loose mean mg mb dp un gd fa ccd outer A₀ base h₀ L Q _ B X T hd hu l vs ns hl hi hlen hL oc _ mA nA FA NA JA0 ?_
    generalize en : (1 + cellV ns 0 % 4).toNat = n
    have hn0 : 0 < n := by omega
    have hn4 : n ≤ 4 := by omega
    intro mB hB tkB nB FB NB JB
    obtain ⟨rest, lp, ll, vp, vl, np, nl, q1, q2, q3, q4, q5, q6, q7, q8, q9⟩ := JB
    have hp0 := allP_pos ns hn0
    have hp16 : (allP ns n).length ≤ 16 := by have := allP_len ns n; omega
    have hl16 : (allL ns n).length ≤ 16 := by have := allL_len ns n; omega
    refine pieceB w p loose mean mg mb dp un gd fa ccd outer A₀ base h₀ L Q _ B X T hd hu l vs ns hl hi hlen hL oc _ (allP ns n) (allL ns n) hp0 hp16 mB nB FB NB ⟨rest, lp, ll, vp, vl, np, nl, q1, q2, q3, q4, q5, q6, q7, q8, q9⟩ ?_
    generalize (cellV ns 9 % ((allP ns n).length : Int)).toNat = r
    have hperm : ((allP ns n).drop r ++ (allP ns n).take r).Perm (allP ns n) := by
      have h1 : ((allP ns n).take r ++ (allP ns n).drop r).Perm (allP ns n) := by rw [List.take_append_drop]
      exact List.perm_append_comm.trans h1
    generalize (allP ns n).drop r ++ (allP ns n).take r = ps at hperm ⊢
    have ps0 : 0 < ps.length := by rw [hperm.length_eq]; exact hp0
    have ps16 : ps.length ≤ 16 := by rw [hperm.length_eq]; exact hp16
    have pbd : ∀ q ∈ ps, Bd q := fun q hq => allP_bd ns hn4 q (hperm.mem_iff.mp hq)
    intro mC hC tkC nC FC NC JC
    refine pieceC w p loose mean mg mb dp un gd fa ccd outer A₀ base h₀ L Q _ B X T hd hu l hL oc _ ps (allL ns n) ps0 ps16 pbd mC nC FC NC JC ?_
    intro mD hD tkD nD FD ND JD
    refine pieceD w p loose mean mg mb dp un gd fa ccd outer A₀ base h₀ L Q _ B X T hd hu l hL oc _ v0 hoc ps (allL ns n) pbd mD nD FD ND JD ?_
    intro mE hE tkE nE oc' v' hoc' FE NE JE
    refine pieceE w p loose mean mg mb dp un gd fa ccd outer A₀ base h₀ L Q _ B X T hd hu l hL oc' _ ps (allL ns n) ps0 ps16 pbd mE nE FE NE JE ?_
    intro mF hF tkF nF FF NF JF
    refine pieceF w p loose mean mg mb dp un gd fa ccd outer A₀ base h₀ L Q _ B X T hd hu C l hL oc' ps (allL ns n) ps0 ps16 pbd mF nF FF NF JF ?_
    intro mG hG tkG nG pt FG NG JG
    refine pieceG w p loose mean mg mb dp un gd fa ccd outer A₀ base h₀ L Q _ B X T hd hu hL oc' pt ps (allL ns n) hl16 (allL_bd ns hn4) mG nG FG NG JG ?_
    intro mH hH tkH nH FH NH JH
    refine pieceH w p loose mean mg mb dp un gd fa ccd outer A₀ base h₀ L Q _ B X T hd hu C hL oc' pt ps (allL ns n) ps0 ps16 pbd hl16 (fin_law ns hn4 hperm) mH nH FH NH JH ?_
    intro m9 h9 tk9 pt9 rest9 F9 N9
    exact done m9 h9 tk9 pt9 rest9 F9 N9
  clear done
  with_unfolding_all show wpAny _ _ (execs (_ :: lawTail 1) _) _ _ _
  generalize lawTail 1 = rest₉ at next ⊢
  k_with_none
  w_top off
  revert X; k_fill; intro X
  replace F := canon [(Str.ofString "script", .ref l)] (by simp [m1]) F
  dsimp only [kstB] at F
  k_steps
  (rename News _ _ _ _ => N9)
  (rename Fr _ _ _ _ => F9)
  have N8 := newsSub N9 (mem_app2 (nw := [_, _, _]) (rest := []))
  refine next _ _ _ _ F9 N8 ⟨_, _, _, [], [], 0, 0, rfl, ?_, rfl, rfl, rfl, .tail _ (.tail _ (.head _)), .tail _ (.head _), trivial, trivial⟩
  simp only [List.cons_append, List.nil_append]; tb_rel
set_option maxHeartbeats 8000000 in
theorem law_holds : PySem.Challenge.rw_ew0012_01.Holds := Mine.hd (by
  k_with_none
  w_top off
  k_go0
  (all_goals try k_fold)
  (rename IntsAre _ _ => hI9)
  (rename Below _ _ _ _ => K9)
  (rename Fr _ _ _ _ => F9)
  (rename News _ _ _ _ => N9)
  (rename @LT.lt Nat _ 86 _ => l9)
  (rename Obj.data _ = Data.cell _ => hoc9)
  (rename Top _ _ _ _ _ _ => T9)
  (rename Frag.In _ _ => X9)
  (rename CodeHd _ _ _ => C9)
  (rename Heap.IsList _ _ _ => hl9)
  (rename ¬ _ < _ => hlen9)
  with_unfolding_all refine mono_next (lawAll _ _ _ _ _ _ _ _ _ _ _ _ _ _ _ _ _ _ K9 X9 T9 (by decide) (by decide) C9 _ _ _ hl9 hI9 (by omega) l9 _ _ hoc9 _ ?_ F9 N9 ?_)
  · with_unfolding_all rfl
  · intro m8 h8 tk8 pt8 rest8 F8 N8
    k_steps)
end Mine
end

set_option maxRecDepth 100000 in
theorem PySem.Challenge.cw_ew0012_01_holds : PySem.Challenge.rw_ew0012_01.Holds := by
  exact Mine.law_holds
