import PyProof.Rows.All
import Wide.All
import OpenK.AllK
import Wide.FinOn
import PySem.Challenge.RW_ty0016_01
open PySem PySem.W PyProof.Rows
set_option Elab.async false
set_option compiler.extract_closed false
namespace Mine
/-- the text's statements, by their number -/
def vst (k : Nat) : Stmt := PySem.Challenge.pw_ty0016_01.main.body.getD k (.Pass default)
/-- the view that the head takes: the text without its four plain names -/
def viewP : Program := { PySem.Challenge.rw_ty0016_01.row.toRowW.1 with main := { PySem.Challenge.rw_ty0016_01.row.toRowW.1.main with body := [vst 0, vst 2, vst 3, vst 5, vst 6, vst 8, vst 10, vst 11, vst 12, vst 13, vst 14, vst 15, vst 16, vst 17] } }

set_option maxRecDepth 100000 in
theorem said : OpenLaw.wellSaid PySem.Challenge.rw_ty0016_01 = true := by
  rw [PySem.W.Fast.te9446332074065402090]
  kernel_rfl
-- the fragment of the heap, written out once
set_option hygiene false in
local macro_rules | `(tactic| o_head $_) => `(tactic| exact h)
set_option maxRecDepth 100000 in
theorem frag (h : PySem.Challenge.rw_ty0016_01.row.Holds) : PySem.Challenge.rw_ty0016_01.row.Holds := by k_head
noncomputable abbrev addrsK : List Addr := [2, 3, 15, 17, 18, 20, 21, 22, 23, 25, 26, 28, 29, 30, 33, 38, 39, 40, 42, 43, 45, 46, 47, 49, 50, 52, 53, 54, 55, 57, 58, 60, 61, 62, 63, 65, 66, 68, 69, 70, 72, 73, 75, 76, 77, 79, 80, 82, 83, 84, 85, 87, 88, 90, 91, 92, 94, 95, 97, 98, 99, 100, 102, 103, 105, 106, 107, 108, 109, 110, 111, 121, 123, 124, 126, 127, 128, 130, 131, 133, 134, 135, 137, 138, 140, 141, 142, 144, 145, 147, 148, 149, 150, 151, 152, 153, 156, 158, 159, 161, 162, 163, 165, 166, 168, 169, 170, 173, 174, 175, 177, 178, 180, 181, 182, 185, 186, 187, 190, 191, 192, 195, 196, 197, 200, 201]
set_option maxRecDepth 100000 in
noncomputable abbrev hk : Hook := kmHook frag.heap_1 addrsK (fun _ => by kernel_rfl) [164]
/-- what the head asks, at one world -/
def LeftAt (w : World) : Prop := (openEnds treeTable PySem.Challenge.rw_ty0016_01.row.prog w 2724).map (fun s => (openSeen viewP [Str.ofString "COMPILER_FLAG_NAMES", Str.ofString "_Accumulator"] (importedModules PySem.Challenge.rw_ty0016_01.row.prog.main.body) (fun s => xlAt viewP [] s && recOk (RowW.records PySem.Challenge.rw_ty0016_01.row.toRowW) s) true s, Hook.obs hk s)) = some (openGood viewP [Str.ofString "COMPILER_FLAG_NAMES", Str.ofString "_Accumulator"], Hook.val hk w)
set_option maxRecDepth 100000 in
theorem leftF (w : World) : LeftAt (w.withFollow "special-get-raises" false) := by
  delta LeftAt openEnds fencedOpening topFrom
  rw [PySem.W.Fast.te10274390034422433532, PySem.W.Fast.te14289696077712309145, PySem.W.Fast.te14082659384304107361, PySem.W.Fast.te14364793385576792824, PySem.W.Fast.te1435165496053646825, PySem.W.Fast.te8920871248978507458, PySem.W.Fast.te4187177175401517315]
  kernel_rfl
set_option maxRecDepth 100000 in
theorem leftT (w : World) : LeftAt (w.withFollow "special-get-raises" true) := by
  delta LeftAt openEnds fencedOpening topFrom
  rw [PySem.W.Fast.te10274390034422433532, PySem.W.Fast.te14289696077712309145, PySem.W.Fast.te14082659384304107361, PySem.W.Fast.te14364793385576792824, PySem.W.Fast.te1435165496053646825, PySem.W.Fast.te8920871248978507458, PySem.W.Fast.te4187177175401517315]
  kernel_rfl
theorem leftAll : LeftO PySem.Challenge.rw_ty0016_01.row.prog viewP [Str.ofString "COMPILER_FLAG_NAMES", Str.ofString "_Accumulator"] (fun s => xlAt viewP [] s && recOk (RowW.records PySem.Challenge.rw_ty0016_01.row.toRowW) s) (Hook.obs hk) (Hook.val hk) 2724 := fun w => byRow2 "special-get-raises" (P := LeftAt) leftF leftT w
local macro_rules | `(tactic| o_law) => `(tactic| refine holds_law said fun _ => ?_)
set_option hygiene false in
local macro_rules | `(tactic| k_head) => `(tactic| (refine holds_open (q := viewP) (loose := [Str.ofString "COMPILER_FLAG_NAMES", Str.ofString "_Accumulator"]) (Xt := (fun s => xlAt viewP [] s && recOk (RowW.records PySem.Challenge.rw_ty0016_01.row.toRowW) s)) (XP := XL viewP []) (Yf := Hook.obs hk) (Ya := Hook.val hk) (YP := Hook.says (kmHook frag.heap_1 addrsK (fun _ => by kernel_rfl) [164])) (N := 2724) leftAll (Hook.of hk) (Hook.keeps hk) (fun s e => xl_of s (Bool.and_eq_true_iff.mp e).1) XL.keeps (by rfl) (by rfl) (by rfl) (fun s e => recFacts_of (Bool.and_eq_true_iff.mp e).2) (by rfl) (by first | assumption | decide +kernel) (by decide +kernel) ⟨rfl, rfl, rfl, rfl, rfl, by decide +kernel⟩ ?hw ?hc))
set_option maxRecDepth 100000 in
set_option maxHeartbeats 8000000 in
open_top hd for PySem.Challenge.rw_ty0016_01
theorem offHD : True := by
  w_top off
  exact True.intro
end Mine
-- MB EY CI LP RG EN CP LT LU LV CQ LX2 LX3 LX4 LX5 LX6 LX7 LA1 LX8 LX9 CR CD C4 PL2 R2 PL0
namespace Mine
theorem offMB : True := by
  w_top off
  exact True.intro
noncomputable abbrev looseL : List Str := (looseW viewP [Str.ofString "COMPILER_FLAG_NAMES", Str.ofString "_Accumulator"] ++ List.map (fun x => x.name) (recsOf viewP) ++ List.map (fun x => x.fst) (litsOf viewP) ++ List.map (fun x => x.name) (clssOf viewP (looseW viewP [Str.ofString "COMPILER_FLAG_NAMES", Str.ofString "_Accumulator"])))

noncomputable abbrev envV (ns : List (Str × NameKind)) (g c : Bool) (mo : List (Str × Const)) (lo gl : Addr) (ce : List (Str × Addr)) (q : Str) (fu : Option Addr) (co : Value) (bu : Addr) (L : Addr) : Env :=
  { scope := { kind := .function, names := ns, isGenerator := g, isCoroutine := c, more := mo }, locals := lo, globals := gl, cells := ce, qual := q, func := fu, code := co, frame := some L, builtins := bu }

/-- a call, from any frame: what it hands back and what the ledger is behind it -/
noncomputable def Does (w : World) (mean : ExcName → Option Value) (mg mb : Str → Option Value) (dp un : Nat) (f : Value) (args : List Value) (news : List (Addr × Obj)) (Post : Value → List (Addr × Obj) → Prop) : Prop :=
  ∀ (env : Env) (outer : List Env) (A₀ : Around) (base h₀ : Heap) (L : Addr) (m : Str → Option Value) (s : Shared) (Q E : Value → Shared → Prop),
    env.frame = some L → env.scope.kind = .function → Below A₀ base outer h₀ → Fr h₀ L s.heap m → (frag.heap_1 w.params).In h₀ → News h₀ L s.heap news → Top topProg looseL mean mg mb h₀ → CodeHd base 168 164 →
    (∀ r news' h' tk', Fr h₀ L h' m → News h₀ L h' news' → Post r news' → Q r { s with heap := h', toks := tk' }) →
    codeAny (model Challenge.rw_ty0016_01.row.prog w) { handled := none, depth := dp, frames := some (env :: outer), guards := some [], units := un } (.call f ⟨args, []⟩) (fun r s' => match r with | .ok (.ret v) => Q v s' | .ok _ => False | .error e => E e s') s

/-- a call, from a frame that is written out -/
theorem does_of {w : World} {mean : ExcName → Option Value} {mg mb : Str → Option Value} {dp un : Nat} {f : Value} {args : List Value} {news : List (Addr × Obj)} {Post : Value → List (Addr × Obj) → Prop}
    (h : ∀ (ns : List (Str × NameKind)) (g c : Bool) (mo : List (Str × Const)) (lo gl : Addr) (ce : List (Str × Addr)) (q : Str) (fu : Option Addr) (co : Value) (bu : Addr)
      (outer : List Env) (A₀ : Around) (base h₀ : Heap) (L : Addr) (m : Str → Option Value) (s : Shared) (Q E : Value → Shared → Prop),
      Below A₀ base outer h₀ → Fr h₀ L s.heap m → (frag.heap_1 w.params).In h₀ → News h₀ L s.heap news → Top topProg looseL mean mg mb h₀ → CodeHd base 168 164 →
      (∀ r news' h' tk', Fr h₀ L h' m → News h₀ L h' news' → Post r news' → Q r { s with heap := h', toks := tk' }) →
      codeAny (model Challenge.rw_ty0016_01.row.prog w) { handled := none, depth := dp, frames := some (envV ns g c mo lo gl ce q fu co bu L :: outer), guards := some [], units := un } (.call f ⟨args, []⟩) (fun r s' => match r with | .ok (.ret v) => Q v s' | .ok _ => False | .error e => E e s') s) :
    Does w mean mg mb dp un f args news Post := by
  intro env outer A₀ base h₀ L m s Q E hf hk B F X N T codeHd hret
  obtain ⟨⟨k, ns, g, c, mo⟩, lo, gl, ce, q, fu, co, fr, bu⟩ := env
  subst hf hk
  exact h ns g c mo lo gl ce q fu co bu outer A₀ base h₀ L m s Q E B F X N T codeHd hret

theorem below_deeper {Γ : Ctx} {f : Option (List Env)} {g : Option (List Code)} {d d' u u' : Nat} (hdp : d ≤ d') (hup : u ≤ u')
    (h : Γ.Below { handled := none, depth := d, frames := f, guards := g, units := u }) : Γ.Below { handled := none, depth := d', frames := f, guards := g, units := u' } :=
  ⟨h.1, Nat.le_trans h.2.1 hdp, h.2.2.1, h.2.2.2.1, Nat.le_trans h.2.2.2.2 hup⟩
theorem code_deeper {M : Model} {c : Code} {R : Result → Shared → Prop} {s : Shared} {f : Option (List Env)} {g : Option (List Code)} {d d' u u' : Nat} (hdp : d ≤ d') (hup : u ≤ u')
    (h : codeAny M { handled := none, depth := d', frames := f, guards := g, units := u' } c R s) : codeAny M { handled := none, depth := d, frames := f, guards := g, units := u } c R s :=
  fun Γ p hc hΓ => h Γ p hc (below_deeper hdp hup hΓ)
theorem Does.less {w : World} {mean : ExcName → Option Value} {mg mb : Str → Option Value} {dp un dp' un' : Nat} {f : Value} {args : List Value} {news : List (Addr × Obj)} {Post : Value → List (Addr × Obj) → Prop}
    (D : Does w mean mg mb dp' un' f args news Post) (hdp : dp ≤ dp') (hup : un ≤ un') : Does w mean mg mb dp un f args news Post :=
  fun env outer A₀ base h₀ L m s Q E hf hk B F X N T codeHd hret => code_deeper hdp hup (D env outer A₀ base h₀ L m s Q E hf hk B F X N T codeHd hret)
theorem cs4_n {i : Nat} (h : i < 4) : i = 0 ∨ i = 1 ∨ i = 2 ∨ i = 3 :=
  match i, h with
  | 0, _ => .inl rfl
  | 1, _ => .inr (.inl rfl)
  | 2, _ => .inr (.inr (.inl rfl))
  | 3, _ => .inr (.inr (.inr (rfl)))
  | n + 4, h => absurd h (Nat.not_lt.mpr (Nat.le_add_left 4 n))
theorem cs8_n {i : Nat} (h : i < 8) : i = 0 ∨ i = 1 ∨ i = 2 ∨ i = 3 ∨ i = 4 ∨ i = 5 ∨ i = 6 ∨ i = 7 :=
  match i, h with
  | 0, _ => .inl rfl
  | 1, _ => .inr (.inl rfl)
  | 2, _ => .inr (.inr (.inl rfl))
  | 3, _ => .inr (.inr (.inr (.inl rfl)))
  | 4, _ => .inr (.inr (.inr (.inr (.inl rfl))))
  | 5, _ => .inr (.inr (.inr (.inr (.inr (.inl rfl)))))
  | 6, _ => .inr (.inr (.inr (.inr (.inr (.inr (.inl rfl))))))
  | 7, _ => .inr (.inr (.inr (.inr (.inr (.inr (.inr (rfl)))))))
  | n + 8, h => absurd h (Nat.not_lt.mpr (Nat.le_add_left 8 n))
theorem cs10_n {i : Nat} (h : i < 10) : i = 0 ∨ i = 1 ∨ i = 2 ∨ i = 3 ∨ i = 4 ∨ i = 5 ∨ i = 6 ∨ i = 7 ∨ i = 8 ∨ i = 9 :=
  match i, h with
  | 0, _ => .inl rfl
  | 1, _ => .inr (.inl rfl)
  | 2, _ => .inr (.inr (.inl rfl))
  | 3, _ => .inr (.inr (.inr (.inl rfl)))
  | 4, _ => .inr (.inr (.inr (.inr (.inl rfl))))
  | 5, _ => .inr (.inr (.inr (.inr (.inr (.inl rfl)))))
  | 6, _ => .inr (.inr (.inr (.inr (.inr (.inr (.inl rfl))))))
  | 7, _ => .inr (.inr (.inr (.inr (.inr (.inr (.inr (.inl rfl)))))))
  | 8, _ => .inr (.inr (.inr (.inr (.inr (.inr (.inr (.inr (.inl rfl))))))))
  | 9, _ => .inr (.inr (.inr (.inr (.inr (.inr (.inr (.inr (.inr (rfl)))))))))
  | n + 10, h => absurd h (Nat.not_lt.mpr (Nat.le_add_left 10 n))
theorem cs15_n {i : Nat} (h : i < 15) : i = 0 ∨ i = 1 ∨ i = 2 ∨ i = 3 ∨ i = 4 ∨ i = 5 ∨ i = 6 ∨ i = 7 ∨ i = 8 ∨ i = 9 ∨ i = 10 ∨ i = 11 ∨ i = 12 ∨ i = 13 ∨ i = 14 :=
  match i, h with
  | 0, _ => .inl rfl
  | 1, _ => .inr (.inl rfl)
  | 2, _ => .inr (.inr (.inl rfl))
  | 3, _ => .inr (.inr (.inr (.inl rfl)))
  | 4, _ => .inr (.inr (.inr (.inr (.inl rfl))))
  | 5, _ => .inr (.inr (.inr (.inr (.inr (.inl rfl)))))
  | 6, _ => .inr (.inr (.inr (.inr (.inr (.inr (.inl rfl))))))
  | 7, _ => .inr (.inr (.inr (.inr (.inr (.inr (.inr (.inl rfl)))))))
  | 8, _ => .inr (.inr (.inr (.inr (.inr (.inr (.inr (.inr (.inl rfl))))))))
  | 9, _ => .inr (.inr (.inr (.inr (.inr (.inr (.inr (.inr (.inr (.inl rfl)))))))))
  | 10, _ => .inr (.inr (.inr (.inr (.inr (.inr (.inr (.inr (.inr (.inr (.inl rfl))))))))))
  | 11, _ => .inr (.inr (.inr (.inr (.inr (.inr (.inr (.inr (.inr (.inr (.inr (.inl rfl)))))))))))
  | 12, _ => .inr (.inr (.inr (.inr (.inr (.inr (.inr (.inr (.inr (.inr (.inr (.inr (.inl rfl))))))))))))
  | 13, _ => .inr (.inr (.inr (.inr (.inr (.inr (.inr (.inr (.inr (.inr (.inr (.inr (.inr (.inl rfl)))))))))))))
  | 14, _ => .inr (.inr (.inr (.inr (.inr (.inr (.inr (.inr (.inr (.inr (.inr (.inr (.inr (.inr (rfl))))))))))))))
  | n + 15, h => absurd h (Nat.not_lt.mpr (Nat.le_add_left 15 n))
theorem cs4_z {i : Int} (h0 : 0 ≤ i) (h : i < 4) : i = 0 ∨ i = 1 ∨ i = 2 ∨ i = 3 := by omega
theorem cs8_z {i : Int} (h0 : 0 ≤ i) (h : i < 8) : i = 0 ∨ i = 1 ∨ i = 2 ∨ i = 3 ∨ i = 4 ∨ i = 5 ∨ i = 6 ∨ i = 7 := by omega
theorem ne_all {b a : Nat} {r : List (Addr × Obj)} (h : ∀ p ∈ r, @LT.lt Nat _ p.1 b) (hb : b ≤ a) : ∀ p ∈ r, p.1 ≠ a :=
  fun p hp => Nat.ne_of_lt (Nat.lt_of_lt_of_le (h p hp) hb)
theorem allLt_iff {b : Nat} : ∀ {r : List (Addr × Obj)}, AllLt b r ↔ ∀ p ∈ r, @LT.lt Nat _ p.1 b
  | [] => ⟨fun _ _ h => (nomatch h), fun _ => trivial⟩
  | p :: r => by
    rw [List.forall_mem_cons]
    exact and_congr Iff.rfl allLt_iff
theorem ne_allLt {b a : Nat} {r : List (Addr × Obj)} (h : AllLt b r) (hb : b ≤ a) : ∀ p ∈ r, p.1 ≠ a := ne_all (allLt_iff.mp h) hb
section
variable {prog : Program} {w : World} {A : Around} {E : Value → Shared → Prop} {s : Shared} {h₀ : Heap} {L D : Addr} {m : Str → Option Value} {news news' : List (Addr × Obj)} {n : Nat}
theorem truthy_L {its : Array Value} {b : Bool} {Q : Bool → Shared → Prop} (N : News h₀ L s.heap news) (hm : (D, listOf its n) ∈ news) (hz : its.size ≤ 1000000000) (hb : (!its.isEmpty) = b)
    (h : Q b { s with toks := s.toks + 1 + 1 }) : wpAny (model prog w) A (truthy (.ref D)) Q E s :=
  wpAny_truthy_list ⟨_, (N _ hm).1, rfl, n, rfl⟩ (by omega) (by rw [hb]; exact h)
theorem pop0_L {u : Tok} {x : Value} {r : List Value} {Q : Value → Shared → Prop} (F : Fr h₀ L s.heap m) (N : News h₀ L s.heap news) (U : Upd D (listOf (x :: r).toArray n) (listOf r.toArray (n + 1)) news news') (hz : r.length ≤ 1000000)
    (h : ∀ h', Fr h₀ L h' m → News h₀ L h' news' → Q x { s with heap := h' }) : wpAny (model prog w) A (call (.builtin "list.pop") [.ref D, .int 0 u]) Q E s :=
  kl_popAt (p := []) (q := r) (k := 0) F N rfl (by simp [seqIndex?]) rfl U (by simp only [List.length_cons, sizeLine_eq]; show r.length + 1 ≤ _; omega) h
end
section
variable {prog : Program} {w : World} {A : Around} {E : Value → Shared → Prop} {s : Shared} {h₀ : Heap} {L D : Addr} {m : Str → Option Value} {news : List (Addr × Obj)}
theorem list_str_L {x : Str} {t : Tok} {Q : Value → Shared → Prop} (hh : A.handled = none) (F : Fr h₀ L s.heap m) (N : News h₀ L s.heap news) (hx : x.length ≤ 1000000)
    (h : ∀ l h' tk n (ys : List Value), Fr h₀ L h' m → News h₀ L h' ((l, listOf ys.toArray n) :: news) → StrsAre ys (signs x) → (∀ p ∈ news, p.1 < l) → Q (.ref l) { s with heap := h', toks := tk }) :
    wpAny (model prog w) A (call (.type "list") [.str x t]) Q E s := by
  refine list_strD (hsz := by rw [sizeLine_eq]; omega) hh F N fun h' tk ys F' N' _ hn _ P hc => ?_
  obtain ⟨n, N''⟩ := made_enters P F' N' hn
  exact h _ h' tk n ys F' N'' (StrsAre.ofCarried hc) fun p hp => Heap.lt_size (N p hp).1
end
/-- the ledger without one address -/
noncomputable def cut (ds : List Addr) (news : List (Addr × Obj)) : List (Addr × Obj) := news.filter fun p => !ds.contains p.1
theorem cut_sub {ds : List Addr} {news : List (Addr × Obj)} : ∀ p ∈ cut ds news, p ∈ news := fun p hp => (List.mem_filter.mp hp).1
theorem mem_cut {ds : List Addr} {news : List (Addr × Obj)} {p : Addr × Obj} (h : p ∈ news) (hn : p.1 ∉ ds) : p ∈ cut ds news := List.mem_filter.mpr ⟨h, by simpa using hn⟩
theorem cut_ne {ds : List Addr} {news : List (Addr × Obj)} {a : Addr} (ha : a ∈ ds) : ∀ p ∈ cut ds news, p.1 ≠ a := fun p hp e => by
  have := (List.mem_filter.mp hp).2
  rw [e] at this
  simp [ha] at this
theorem Does.sub {w : World} {mean : ExcName → Option Value} {mg mb : Str → Option Value} {dp un : Nat} {f : Value} {args : List Value} {news news₁ : List (Addr × Obj)} {Post : Value → List (Addr × Obj) → Prop}
    (D : Does w mean mg mb dp un f args news₁ Post) (hs : ∀ p ∈ news₁, p ∈ news) : Does w mean mg mb dp un f args news Post :=
  fun env outer A₀ base h₀ L m s Q E hf hk B F X N T codeHd hret => D env outer A₀ base h₀ L m s Q E hf hk B F X (fun p hp => N p (hs p hp)) T codeHd hret
theorem Does.post {w : World} {mean : ExcName → Option Value} {mg mb : Str → Option Value} {dp un : Nat} {f : Value} {args : List Value} {news : List (Addr × Obj)} {Post Post' : Value → List (Addr × Obj) → Prop}
    (D : Does w mean mg mb dp un f args news Post) (hp : ∀ r n, Post r n → Post' r n) : Does w mean mg mb dp un f args news Post' :=
  fun env outer A₀ base h₀ L m s Q E hf hk B F X N T codeHd hret => D env outer A₀ base h₀ L m s Q E hf hk B F X N T codeHd fun r n h' tk' F' N' p => hret r n h' tk' F' N' (hp r n p)

theorem Does.use {w : World} {mean : ExcName → Option Value} {mg mb : Str → Option Value} {dp un d u : Nat} {f : Value} {args : List Value} {news : List (Addr × Obj)} {Post : Value → List (Addr × Obj) → Prop}
    {env : Env} {outer : List Env} {A A₀ : Around} {base h₀ : Heap} {L : Addr} {m : Str → Option Value} {s : Shared} {Q E : Value → Shared → Prop}
    (D : Does w mean mg mb dp un f args news Post) (hA : A = { handled := none, depth := d, frames := some (env :: outer), guards := some [], units := u }) (hdp : d ≤ dp) (hup : u ≤ un)
    (hf : env.frame = some L) (hk : env.scope.kind = .function) (B : Below A₀ base outer h₀) (F : Fr h₀ L s.heap m) (X : (frag.heap_1 w.params).In h₀) (N : News h₀ L s.heap news) (T : Top topProg looseL mean mg mb h₀) (codeHd : CodeHd base 168 164)
    (hret : ∀ r news' h' tk', Fr h₀ L h' m → News h₀ L h' news' → Post r news' → Q r { s with heap := h', toks := tk' }) :
    wpAny (model Challenge.rw_ty0016_01.row.prog w) A (call f args []) Q E s := by
  subst hA
  exact wpAny_call (D.less hdp hup env outer A₀ base h₀ L m s Q E hf hk B F X N T codeHd hret)
theorem Does.code {w : World} {mean : ExcName → Option Value} {mg mb : Str → Option Value} {dp un d u : Nat} {f : Value} {args : List Value} {news : List (Addr × Obj)} {Post : Value → List (Addr × Obj) → Prop}
    {env : Env} {outer : List Env} {A A₀ : Around} {base h₀ : Heap} {L : Addr} {m : Str → Option Value} {s : Shared} {Q E : Value → Shared → Prop}
    (D : Does w mean mg mb dp un f args news Post) (hA : A = { handled := none, depth := d, frames := some (env :: outer), guards := some [], units := u }) (hdp : d ≤ dp) (hup : u ≤ un)
    (hf : env.frame = some L) (hk : env.scope.kind = .function) (B : Below A₀ base outer h₀) (F : Fr h₀ L s.heap m) (X : (frag.heap_1 w.params).In h₀) (N : News h₀ L s.heap news) (T : Top topProg looseL mean mg mb h₀) (codeHd : CodeHd base 168 164)
    (hret : ∀ r news' h' tk', Fr h₀ L h' m → News h₀ L h' news' → Post r news' → Q r { s with heap := h', toks := tk' }) :
    codeAny (model Challenge.rw_ty0016_01.row.prog w) A (.call f ⟨args, []⟩) (fun r s' => match r with | .ok (.ret v) => Q v s' | .ok _ => False | .error e => E e s') s := by
  subst hA
  exact D.less hdp hup env outer A₀ base h₀ L m s Q E hf hk B F X N T codeHd hret
theorem ldX {M : Model} {A : Around} {E : Value → Shared → Prop} {s : Shared} {h₀ : Heap} {m : Str → Option Value} {env : Env} {x : Str} {v : Value} {Q : Value → Shared → Prop} (F : Fr h₀ env.locals s.heap m) (hv : m x = some v) (h : Q v s)
    (hk : env.scope.kind = .function := by rfl) (hl : env.kindOf x = some .local := by rfl) : wpAny M A (loadName env x) Q E s := wpAny_loadName_local hk hl F.ns hv h
section
variable {prog : Program} {w : World} {A : Around} {E : Value → Shared → Prop} {s : Shared} {x y : Str} {t u : Tok} {Q : Value → Shared → Prop}
theorem iaddS (hsz : x.length + y.length ≤ 1000000) (h : ∀ t' k, Q (.str (x ++ y) t') { s with toks := k }) : wpAny (model prog w) A (inplaceOp .Add (.str x t) (.str y u)) Q E s :=
  PyProof.Rows.iadd_str h (by rw [sizeLine_eq]; omega)
theorem addS (hsz : x.length + y.length ≤ 1000000) (h : ∀ t' k, Q (.str (x ++ y) t') { s with toks := k }) : wpAny (model prog w) A (binaryOp .Add (.str x t) (.str y u)) Q E s :=
  PyProof.Rows.add_str h (by rw [sizeLine_eq]; omega)
end
noncomputable abbrev tupOf (vs : List Value) : Obj := { cls := .type "tuple", data := .seq vs.toArray }
section
variable {prog : Program} {w : World} {A : Around} {E : Value → Shared → Prop} {s : Shared} {h₀ : Heap} {L l : Addr} {news : List (Addr × Obj)} {k : Int} {u : Tok} {v : Value} {vs : List Value} {n : Nat} {Q : Value → Shared → Prop} {value slice : PySem.Expr}
theorem item_L (N : News h₀ L s.heap news) (hm : (l, listOf vs.toArray n) ∈ news) (h0 : 0 ≤ k) (h9 : k < 1000000) (hx : vs[k.toNat]? = some v) (h : Q v s)
    (hs : subscripted slice false (.ref l) (.int k u) = operate [.ref l, .int k u] (getItem (.ref l) (.int k u)) := by with_unfolding_all rfl) :
    wpAny (model prog w) A (subscriptTail value slice (.ref l) (.int k u)) Q E s := by
  have hl : s.heap.IsList l vs.toArray := ⟨_, (N _ hm).1, rfl, n, rfl⟩
  exact tail_any hl.typeIs slot_list_getitem.lookup (wpAny_getItem_list hl h0 (by omega) (by simpa using hx) h) hs
theorem item_T (N : News h₀ L s.heap news) (hm : (l, ({ cls := .type "tuple", data := .seq vs.toArray n } : Obj)) ∈ news) (h0 : 0 ≤ k) (h9 : k < 1000000) (hx : vs[k.toNat]? = some v) (h : Q v s)
    (hs : subscripted slice false (.ref l) (.int k u) = operate [.ref l, .int k u] (getItem (.ref l) (.int k u)) := by with_unfolding_all rfl) :
    wpAny (model prog w) A (subscriptTail value slice (.ref l) (.int k u)) Q E s := by
  have hlen : k.toNat < vs.length := by
    by_cases q : k.toNat < vs.length
    · exact q
    · rw [List.getElem?_eq_none (by omega)] at hx; cases hx
  refine item_tupleT (j := k.toNat) (l := vs) ⟨_, (N _ hm).1, rfl, n, rfl⟩ (by omega) (by omega) ?_ hx h hs
  unfold seqIndex?
  simp
  omega
end
theorem allLt_ne {b : Nat} {r : List (Addr × Obj)} (h : AllLt b r) : ∀ p ∈ r, p.1 ≠ b := ne_allLt h (Nat.le_refl _)
theorem offEY : True := by
  w_top off
  exact True.intro
noncomputable def one (c : Nat) : Str := ⟨#[c]⟩
noncomputable def txt (l : List Nat) : Str := ⟨l.toArray⟩
theorem one_beq (c d : Nat) : (one c == one d) = decide (c = d) := by
  by_cases h : c = d
  · subst h; simp
  · have : one c ≠ one d := fun e => h (by have := congrArg (fun x : Str => x.cps.toList) e; simpa [one] using this)
    simp [h, this]
theorem offCI : True := by
  w_top off
  exact True.intro
section
theorem slot_ci_next : Slot "callable_iterator" "__next__" "callable_iterator.__next__" :=
  .of (owner := "callable_iterator") (n := "__next__") (by rw [typeLookup_type, builtinLookup_eq_fast]; kernel_rfl) (by decide +kernel) (by decide +kernel) (by decide +kernel)
    (by first | exact .inl (by decide +kernel) | exact .inr (by decide +kernel)) (by rw [isSubtype_type]; kernel_rfl)
theorem entry_ci_next : entryFor table "callable_iterator.__next__" = some Builtin.«callable_iterator.__next__» := entryFor_of_tree (by kernel_rfl)
theorem owner_ci : List.lookup (String.ofList ['r', 'o', 't', 'a', 'r', 'e', 't', 'i', '_', 'e', 'l', 'b', 'a', 'l', 'l', 'a', 'c'].reverse) Manifest.owners = some Manifest.sig_callable_iterator := by kernel_rfl
theorem args_ci_next (a : Value) : argsOk "callable_iterator.__next__" ⟨[a], []⟩ := by
  unfold argsOk; rw [signature?_of (id := "callable_iterator.__next__") (n := ['_', '_', 't', 'x', 'e', 'n', '_', '_']) (o := ['r', 'o', 't', 'a', 'r', 'e', 't', 'i', '_', 'e', 'l', 'b', 'a', 'l', 'l', 'a', 'c']) (by kernel_rfl) owner_ci]; kernel_rfl
end
noncomputable abbrev ciObj (mo : Addr) (x : Str) (t : Tok) : Obj := { cls := .type "callable_iterator", data := .fields #[.ref mo, .str x t, .bool false] }
noncomputable abbrev ciEnd : Obj := { cls := .type "callable_iterator", data := .fields #[.none, .none, .bool true] }
theorem wpAny_callBorrowed {M : Model} {A : Around} {E : Value → Shared → Prop} {s : Shared} {f : Value} {pos : List Value} {Q : Value → Shared → Prop}
    (hc : codeAny M A (.call f ⟨pos, []⟩) (fun r s' => match r with | .ok (.ret v) => Q v s' | .ok _ => False | .error e => E e s') s) : wpAny M A (callBorrowed f pos) Q E s := fun Γ p hΓ => by
  show wpCode M (Γ.enter (.call f ⟨pos, []⟩) none p) _ p s
  refine wpCode_mono (fun r s' h => ?_) (hc _ p rfl (hΓ.enter _ none p (by intro x; cases x)))
  cases r with
  | error e => exact h
  | ok f => cases f <;> exact h
section
variable {prog : Program} {w : World} {A : Around} {E : Value → Shared → Prop} {s : Shared} {it mo f : Addr} {x : Str} {t : Tok} {self : Value} {fo : Obj} {fd : FuncData}
theorem borrows_meth {M : Model} {Q : Bool → Shared → Prop} (hmo : s.heap.get? mo = some (methodObj (.ref f) self)) (hf : s.heap.get? f = some fo) (hfd : fo.data = .func fd) (h : Q true s) :
    wpAny M A (borrowsExactly (.ref mo)) Q E s := by
  unfold borrowsExactly
  refine wpAny_bind (wpAny_load hmo ?_)
  show wpAny _ _ (if (Value.type "method" == Value.type "method") = true then _ else _) _ _ _
  rw [if_pos (by decide)]
  show wpAny _ _ (do match (← load f).data with | .func _ => pure true | _ => pure false) _ _ _
  refine wpAny_bind (wpAny_load hf ?_)
  rw [hfd]
  exact wpAny_pure h
theorem raise_stop {α : Type} {Q : α → Shared → Prop} {E : Value → Shared → Prop} (hh : A.handled = none)
    (h : ∀ h' e, (∀ b o, s.heap.get? b = some o → h'.get? b = some o) → (∃ o, h'.get? e = some o ∧ o.cls = .type "StopIteration") → E (.ref e) { s with heap := h' }) :
    wpAny (model prog w) A (Builtin.SmallTypes.stopIteration : Sem α) Q E s := by
  unfold Builtin.SmallTypes.stopIteration
  refine wpAny_bind ?_
  simp only [newExc, newTuple]
  refine wpAny_bind (wpAny_newObj_type ?_ (by size_fits))
  refine wpAny_bind (m := firstArgMember _ _) (wpAny_of_eq (a := Value.none) (by first | rfl | (simp only [firstArgMember]; rfl)) ?_)
  refine wpAny_newObj_type ?_ (by size_fits)
  simp only [raiseNew]
  refine wpAny_bind (wpAny_handled ?_)
  rw [hh]
  refine wpAny_bind (wpAny_pure (wpAny_throw ?_))
  exact h _ _ (fun b o e => Heap.get?_push_of_some _ (Heap.get?_push_of_some _ e)) ⟨_, Heap.get?_push_size _ rfl, rfl⟩
theorem next_ended {Q : Option Value → Shared → Prop} (hh : A.handled = none) (hit : s.heap.get? it = some ciEnd)
    (hQ : ∀ h', (∀ b o, s.heap.get? b = some o → h'.get? b = some o) → Q none { s with heap := h' }) : wpAny (model prog w) A (pyNext (.ref it)) Q E s := by
  have hT : s.TypeIs (.ref it) "callable_iterator" := ⟨_, hit, rfl⟩
  unfold pyNext
  refine wpAny_bind (wpAny_attempt (wpAny_callSpecial?_slot (name := Str.ofString "__next__") hT slot_ci_next
    (wpAny_call_entry slot_ci_next hT entry_ci_next ?_ (args_ci_next _))))
  show wpAny _ _ (field (.ref it) 2 >>= _) _ _ s
  refine wpAny_bind (wpAny_field hit rfl (x := .bool true) rfl ?_)
  rw [if_pos (by decide)]
  refine wpAny_bind (wpAny_rule ?_)
  refine wpAny_bind (raise_stop hh fun h' e hk he => ?_)
  refine wpAny_bind (wpAny_isInstance (T := "StopIteration") (b := true) he isSubtype_stop ?_)
  exact wpAny_pure (hQ h' hk)
theorem next_ci {Q : Option Value → Shared → Prop} (hh : A.handled = none) (hit : s.heap.get? it = some (ciObj mo x t)) (hmo : s.heap.get? mo = some (methodObj (.ref f) self)) (hf : s.heap.get? f = some fo) (hfd : fo.data = .func fd)
    (hc : codeAny (model prog w) A.in1 (.call (.ref f) ⟨[self], []⟩) (fun r s' => match r with
      | .ok (.ret v) => ∃ y u, v = .str y u ∧ s'.heap.get? it = some (ciObj mo x t) ∧ s'.heap.get? mo = some (methodObj (.ref f) self) ∧ s'.heap.get? f = some fo ∧
          (x = y → ∀ h', (∀ b o, b ≠ it → s'.heap.get? b = some o → h'.get? b = some o) → h'.get? it = some ciEnd → Q none { s' with heap := h' }) ∧ (x ≠ y → Q (some v) s')
      | .ok _ => False
      | .error _ => False) s) : wpAny (model prog w) A (pyNext (.ref it)) Q E s := by
  have hT : s.TypeIs (.ref it) "callable_iterator" := ⟨_, hit, rfl⟩
  unfold pyNext
  refine wpAny_bind (wpAny_attempt (wpAny_callSpecial?_slot (name := Str.ofString "__next__") hT slot_ci_next
    (wpAny_call_entry slot_ci_next hT entry_ci_next ?_ (args_ci_next _))))
  show wpAny _ _ (field (.ref it) 2 >>= _) _ _ s
  refine wpAny_bind (wpAny_field hit rfl (x := .bool false) rfl ?_)
  rw [if_neg (by decide)]
  show wpAny _ _ (field (.ref it) 0 >>= _) _ _ s
  refine wpAny_bind (wpAny_field hit rfl (x := .ref mo) rfl ?_)
  refine wpAny_bind (wpAny_attempt ?_)
  unfold callOutOfASlot
  refine wpAny_bind (borrows_meth hmo hf hfd ?_)
  rw [if_pos rfl]
  refine wpAny_callBorrowed (codeAny_mono (method_call hmo hc) fun r s' h => ?_)
  match r, h with
  | .ok (.ret v), ⟨y, u, e, h1, h2, h3, h4, h5⟩ =>
    subst e
    show wpAny _ _ (field (.ref it) 2 >>= _) _ _ s'
    refine wpAny_bind (wpAny_field h1 rfl (x := .bool false) rfl ?_)
    rw [if_neg (by decide)]
    show wpAny _ _ (field (.ref it) 1 >>= _) _ _ s'
    refine wpAny_bind (wpAny_field h1 rfl (x := .str x t) rfl ?_)
    refine wpAny_bind (wpAny_holding (eqBool_str ?_))
    by_cases hxy : x = y
    · have e1 : (x == y) = true := by rw [hxy]; exact beq_self_eq_true y
      rw [e1, if_neg (by decide)]
      refine wpAny_bind (wpAny_rule ?_)
      refine wpAny_bind ?_
      show wpAny _ _ (field (.ref it) 0 >>= _) _ _ s'
      refine wpAny_bind (wpAny_field h1 rfl (x := .ref mo) rfl ?_)
      refine wpAny_bind ?_
      unfold slotLetsGo
      refine wpAny_bind (borrows_meth h2 h3 hfd ?_)
      rw [if_pos rfl]
      refine wpAny_pure ?_
      refine wpAny_bind (wpAny_setField_rec h1 (by simp) fun g1 q1 k1 => ?_)
      refine wpAny_bind (wpAny_setField_rec (s := { s' with heap := g1 }) q1 (by simp) fun g2 q2 k2 => ?_)
      refine wpAny_setField_rec (s := { s' with heap := g2 }) q2 (by simp) fun g3 q3 k3 => ?_
      refine raise_stop (s := { s' with heap := g3 }) hh fun h' e hk he => ?_
      refine wpAny_bind (wpAny_isInstance (T := "StopIteration") (b := true) he isSubtype_stop ?_)
      refine wpAny_pure (h4 hxy h' (fun b o hb e' => hk b o ?_) (hk _ _ q3))
      exact (k3.2 b hb).trans ((k2.2 b hb).trans ((k1.2 b hb).trans e'))
    · have e1 : (x == y) = false := beq_eq_false_iff_ne.mpr hxy
      rw [e1, if_pos (by decide)]
      exact wpAny_pure ⟨_, rfl, wpAny_pure (h5 hxy)⟩
end
theorem kind_iter : builtinKind "iter" = none := by decide +kernel
theorem plain_iter : plainId "iter" = true := by decide +kernel
theorem entry_iter : entryFor table "iter" = some Builtin.«iter» := entryFor_of_tree (by kernel_rfl)
theorem look_method_call : ∃ r, typeLookup (.type "method") "__call__" = pure (some r) := ⟨.builtin "method.__call__", by rw [PySem.typeLookup_type, PySem.builtinLookup_eq_fast]; kernel_rfl⟩
theorem args_iter2 (a b : Value) : argsOk "iter" ⟨[a, b], []⟩ := by unfold argsOk; kernel_rfl
section
variable {prog : Program} {w : World} {A : Around} {E : Value → Shared → Prop} {s : Shared} {h₀ : Heap} {L : Addr} {m : Str → Option Value} {news : List (Addr × Obj)}
theorem iter2 {mo : Addr} {f self : Value} {x : Str} {t : Tok} {Q : Value → Shared → Prop} (F : Fr h₀ L s.heap m) (N : News h₀ L s.heap news) (hm : (mo, methodObj f self) ∈ news)
    (h : ∀ it h', Fr h₀ L h' m → News h₀ L h' ((it, ciObj mo x t) :: news) → (∀ p ∈ news, p.1 < it) → Q (.ref it) { s with heap := h' }) :
    wpAny (model prog w) A (call (.builtin "iter") [.ref mo, .str x t]) Q E s := by
  obtain ⟨r, hr⟩ := look_method_call
  refine Calls.call_function_entry kind_iter plain_iter entry_iter (args_iter2 _ _) ?_
  show wpAny _ _ (specialOf (.ref mo) "__call__" >>= _) _ _ s
  refine wpAny_bind (wpAny_specialOf (T := "method") ⟨_, N.get hm, rfl⟩ hr ?_)
  rw [if_neg (by simp)]
  refine wpAny_bind (wpAny_rule ?_)
  refine wpAny_bind ?_
  unfold newFields
  refine wpAny_newObj_type (wpAny_pure ⟨_, rfl, ?_⟩) (by size_fits)
  exact h _ _ (F.push _) (N.push F _) fun p hp => Heap.lt_size (N p hp).1
end
theorem offLP : True := by
  w_top off
  exact True.intro
section
variable {prog : Program} {w : World} {A : Around} {E : Value → Shared → Prop} {s : Shared}
theorem for_step {R : Result → Shared → Prop} {target : Expr} {it : Value} {body : List Stmt} {env : Env}
    (turn : ∀ E' : Value → Shared → Prop, wpAny (model prog w) A (pyNext it) (fun r s₁ => match r with
      | none => R (.ok .next) s₁
      | some v => wpAny (model prog w) A (assign target env v) (fun _ s₂ => wpAny (model prog w) A (execs body env) (fun f s₃ => match f with
          | .ret v => R (.ok (.ret v)) s₃
          | .brk => R (.ok .next) s₃
          | _ => codeAny (model prog w) A (.forLoop target it body [] env) R s₃) E' s₂) E' s₁) E' s)
    (ht : ∀ v, letOwnedTupleGo target it v = pure () := by intro _; rfl) : codeAny (model prog w) A (.forLoop target it body [] env) R s := by
  refine codeAny_of_tree ?_
  show wpAny _ A ((forTurn target it body [] env).onRaise (fun x => do noteFrame x env; theTreesLotGoes x)) _ _ s
  refine wpAny_noted ?_
  simp only [forTurn]
  refine wpAny_bind (wpAny_standAt (wpAny_bind (wpAny_onRaise (wpAny_mono (turn _) (fun r s₁ h₁ => ?_) fun _ _ h' => wpAny_standAt h'))))
  cases r with
  | none => exact wpAny_pure ⟨rfl, codeAny_block (wpAny_execs_nil h₁)⟩
  | some v =>
    refine wpAny_bind (wpAny_of_eq (ht v) ?_)
    refine wpAny_bind (wpAny_mono h₁ (fun _ s₂ h₂ => wpAny_bind (wpAny_mono h₂ (fun f s₃ h₃ => ?_) fun _ _ h' => h')) fun _ _ h' => h')
    cases f with
    | next => exact wpAny_pure ⟨rfl, h₃⟩
    | cont => exact wpAny_pure ⟨rfl, h₃⟩
    | brk => exact wpAny_pure h₃
    | ret v => exact wpAny_pure h₃
end
section
theorem slot_ci_iter : Slot "callable_iterator" "__iter__" "callable_iterator.__iter__" :=
  .of (owner := "callable_iterator") (n := "__iter__") (by rw [PySem.typeLookup_type, PySem.builtinLookup_eq_fast]; kernel_rfl) (by decide +kernel) (by decide +kernel) (by decide +kernel)
    (by first | exact .inl (by decide +kernel) | exact .inr (by decide +kernel)) (by rw [isSubtype_type]; kernel_rfl)
end
theorem entry_ci_iter : entryFor table "callable_iterator.__iter__" = some Builtin.«dict_keyiterator.__iter__» :=
  entryFor_alias (id' := "dict_keyiterator.__iter__") (by kernel_rfl) (by first | rfl | decide +kernel | (unfold String.splitOn; simp +decide [String.splitOnAux])) (by decide +kernel) (by kernel_rfl)
theorem args_ci_iter (a : Value) : argsOk "callable_iterator.__iter__" ⟨[a], []⟩ := by
  unfold argsOk; rw [signature?_of (id := "callable_iterator.__iter__") (n := ['_', '_', 'r', 'e', 't', 'i', '_', '_']) (o := ['r', 'o', 't', 'a', 'r', 'e', 't', 'i', '_', 'e', 'l', 'b', 'a', 'l', 'l', 'a', 'c']) (by kernel_rfl) owner_ci]; kernel_rfl
section
variable {prog : Program} {w : World} {A : Around} {E : Value → Shared → Prop} {s : Shared}
theorem pyIter_ci {it : Addr} {o : Obj} {Q : Value → Shared → Prop} (hit : s.heap.get? it = some o) (hc : o.cls = .type "callable_iterator") (h : Q (.ref it) s) : wpAny (model prog w) A (pyIter (.ref it)) Q E s := by
  have hT : s.TypeIs (.ref it) "callable_iterator" := ⟨o, hit, hc⟩
  refine wpAny_pyIter_slot hT slot_ci_iter (wpAny_call_entry slot_ci_iter hT entry_ci_iter ?_ (args_ci_iter _))
  show wpAny _ _ (ret (.ref it)) _ _ s
  exact wpAny_pure ⟨_, rfl, "callable_iterator", _, hT, slot_ci_next.lookup, h⟩
end
theorem ite_of_true {b : Bool} (h : b = true) {P Q : Prop} (p : P) : if b = true then P else Q := by rw [if_pos h]; exact p
theorem ite_of_false {b : Bool} (h : b = false) {P Q : Prop} (q : Q) : if b = true then P else Q := by rw [if_neg (by rw [h]; exact Bool.false_ne_true)]; exact q
/-- roads into the text's tree -/
noncomputable def bodyOf : Stmt → List Stmt
  | .FunctionDef _ _ b _ _ _ _ _ _ _ => b
  | .ClassDef _ _ _ b _ _ _ _ _ _ _ => b
  | .For _ _ b _ _ => b
  | .If _ b _ _ => b
  | _ => []
noncomputable def elseOf : Stmt → List Stmt
  | .If _ _ e _ => e
  | _ => []
noncomputable def scopeOf : Stmt → Scope
  | .FunctionDef _ _ _ _ _ _ sc _ _ _ => sc
  | _ => default
noncomputable def targetOf : Stmt → Expr
  | .For t _ _ _ _ => t
  | _ => default
noncomputable def nth (l : List Stmt) (k : Nat) : Stmt := l.getD k (.Pass default)
noncomputable def topN (k : Nat) : Stmt := nth PySem.Challenge.pw_ty0016_01.main.body k
noncomputable def getTok : Stmt := nth (bodyOf (topN 8)) 2
noncomputable def tokFor : Stmt := nth (bodyOf getTok) 3
noncomputable def tokQ : Stmt := nth (bodyOf (nth (bodyOf tokFor) 1)) 0
noncomputable def tokW : Stmt := nth (elseOf (nth (bodyOf tokFor) 1)) 2
theorem frBut {g h h' : Heap} {L a : Addr} {m : Str → Option Value} (F : Fr g L h m) (ha : a ≠ L) (hg : g.get? a = none) (hk : ∀ b o, b ≠ a → h.get? b = some o → h'.get? b = some o) : Fr g L h' m :=
  ⟨by obtain ⟨o, es, ep, hL, r⟩ := F.ns; exact ⟨o, es, ep, hk _ _ (fun e => ha e.symm) hL, r⟩, fun b o e => hk b o (fun q => by rw [q, hg] at e; cases e) (F.keep b o e), F.above⟩
theorem offRG : True := by
  w_top off
  exact True.intro
/-- what stands behind a turn of a for over a range -/
noncomputable def REnd (g : Heap) (L I : Addr) (ri : Obj) (J : (Str → Option Value) → List (Addr × Obj) → Prop) (s s₃ : Shared) : Prop :=
  ∃ h' tk' m' news', s₃ = { s with heap := h', toks := tk' } ∧ Fr g L h' m' ∧ News g L h' ((I, ri) :: news') ∧ (∀ p ∈ news', p.1 ≠ I) ∧ J m' news'
theorem REnd.of {g : Heap} {L I : Addr} {ri : Obj} {J : (Str → Option Value) → List (Addr × Obj) → Prop} {s : Shared} {h' : Heap} {tk' : Nat} {m' : Str → Option Value} {news' : List (Addr × Obj)} (F : Fr g L h' m') (N : News g L h' ((I, ri) :: news')) (hne : ∀ p ∈ news', p.1 ≠ I) (hJ : J m' news') :
    REnd g L I ri J s { s with heap := h', toks := tk' } := ⟨h', tk', m', news', rfl, F, N, hne, hJ⟩
noncomputable def rangeFlow (g : Heap) (L I : Addr) (ri : Obj) (J : (Str → Option Value) → List (Addr × Obj) → Prop) (s : Shared) (R : Result → Shared → Prop) (f : Flow) (s₃ : Shared) : Prop :=
  match f with
  | .ret v => R (.ok (.ret v)) s₃
  | .brk => R (.ok .next) s₃
  | _ => REnd g L I ri J s s₃
section
variable {prog : Program} {w : World} {A : Around} {E : Value → Shared → Prop} {s : Shared}
theorem assign_local {g : Heap} {env : Env} {m : Str → Option Value} {news : List (Addr × Obj)} {x : Str} {px : Pos} {v : Value} {Q : Unit → Shared → Prop} (F : Fr g env.locals s.heap m) (N : News g env.locals s.heap news) (hk : env.scope.kind = .function) (hx : env.kindOf x = some .local)
    (h : ∀ h', Fr g env.locals h' (fun y => if y = x then some v else m y) → News g env.locals h' news → Q () { s with heap := h', toks := s.toks + 1 }) : wpAny (model prog w) A (assign (.Name x px) env v) Q E s :=
  wpAny_assign_Name (wpAny_storeName_local hx F.ns (fun h' hn hs => h h' (F.set hn hs) (N.set hs)) (by rw [hk]; rfl))
theorem for_range_loop {env : Env} {x : Str} {px : Pos} {body : List Stmt} {g : Heap} {R : Result → Shared → Prop} {I : Addr} {a c : Int} {n : Nat} (J : Nat → (Str → Option Value) → List (Addr × Obj) → Prop)
    (hA : A.handled = none) (hk : env.scope.kind = .function) (hx : env.kindOf x = some .local)
    (turn : ∀ i m news h tk t' ri (E' : Value → Shared → Prop), i < n → J i m news → (∀ p ∈ news, p.1 ≠ I) → Fr g env.locals h (fun y => if y = x then some (.int (a + (i : Int) * c) t') else m y) → News g env.locals h ((I, ri) :: news) →
      wpAny (model prog w) A (execs body env) (rangeFlow g env.locals I ri (J (i + 1)) s R) E' { s with heap := h, toks := tk })
    (done : ∀ m news h tk, J n m news → Fr g env.locals h m → News g env.locals h news → R (.ok .next) { s with heap := h, toks := tk }) :
    ∀ k i m news h tk, i + k = n → J i m news → (∀ p ∈ news, p.1 ≠ I) → Fr g env.locals h m → News g env.locals h ((I, { cls := .type "range_iterator", dict := none, data := .fields #[rawInt (a + (i : Int) * c), rawInt (k : Int), rawInt c], slots := #[] }) :: news) →
      codeAny (model prog w) A (.forLoop (.Name x px) (.ref I) body [] env) R { s with heap := h, toks := tk } := by
  intro k
  induction k with
  | zero =>
    intro i m news h tk hi hJ hne F N
    refine for_step fun E' => ?_
    have hI := N _ (.head _)
    refine wpAny_pyNext_range_end hA hI.1 (by simp) fun h' hk' => ?_
    have hi' : i = n := by omega
    subst hi'
    have hb : ∀ b o, b ≠ I → h.get? b = some o → h'.get? b = some o := fun b o hb e => hk' b o hb e
    exact done m news h' tk hJ (frBut F hI.2.1 hI.2.2 hb) fun p hp => ⟨hb _ _ (hne p hp) (N p (.tail _ hp)).1, (N p (.tail _ hp)).2⟩
  | succ k ih =>
    intro i m news h tk hi hJ hne F N
    refine for_step fun E' => ?_
    have hI := N _ (.head _)
    refine wpAny_pyNext_range_item hI.1 (by omega) fun h' hI' hs' => ?_
    have hb : ∀ b o, b ≠ I → h.get? b = some o → h'.get? b = some o := fun b o hb e => (hs'.2 b hb).trans e
    have F1 := frBut F hI.2.1 hI.2.2 hb
    have N1 : News g env.locals h' ((I, _) :: news) := List.forall_mem_cons.mpr ⟨⟨hI', hI.2⟩, fun p hp => ⟨hb _ _ (hne p hp) (N p (.tail _ hp)).1, (N p (.tail _ hp)).2⟩⟩
    refine assign_local F1 N1 hk hx fun h2 F2 N2 => ?_
    refine wpAny_mono (turn i m news h2 _ _ _ E' (by omega) hJ hne F2 N2) (fun f s₃ hf => ?_) fun _ _ e => e
    cases f with
    | ret v => exact hf
    | brk => exact hf
    | next =>
      obtain ⟨h3, tk3, m3, news3, rfl, F3, N3, hne3, hJ3⟩ := hf
      refine ih (i + 1) m3 news3 h3 tk3 (by omega) hJ3 hne3 F3 ?_
      have e1 : a + ((i + 1 : Nat) : Int) * c = a + (i : Int) * c + c := by rw [Int.natCast_add, Int.add_mul]; simp; omega
      have e2 : ((k + 1 : Nat) : Int) - 1 = (k : Int) := by omega
      rw [e2] at N3
      rw [e1]
      exact N3
    | cont =>
      obtain ⟨h3, tk3, m3, news3, rfl, F3, N3, hne3, hJ3⟩ := hf
      refine ih (i + 1) m3 news3 h3 tk3 (by omega) hJ3 hne3 F3 ?_
      have e1 : a + ((i + 1 : Nat) : Int) * c = a + (i : Int) * c + c := by rw [Int.natCast_add, Int.add_mul]; simp; omega
      have e2 : ((k + 1 : Nat) : Int) - 1 = (k : Int) := by omega
      rw [e2] at N3
      rw [e1]
      exact N3
theorem for_range {env : Env} {x : Str} {px : Pos} {body : List Stmt} {g : Heap} {R : Result → Shared → Prop} {r : Addr} {a b c : Int} {t u v : Tok} {n : Nat} {m₀ : Str → Option Value} {news₀ : List (Addr × Obj)} (J : Nat → (Str → Option Value) → List (Addr × Obj) → Prop)
    (hA : A.handled = none) (hk : env.scope.kind = .function) (hx : env.kindOf x = some .local) (hr : IsRange s.heap r a b c t u v) (hsm : Builtin.Range.small a b c = true) (hn : Builtin.Range.rangeSize a b c = (n : Int))
    (F : Fr g env.locals s.heap m₀) (N : News g env.locals s.heap news₀) (h0 : J 0 m₀ news₀)
    (turn : ∀ I, (∀ p ∈ news₀, p.1 < I) → ∀ i m news h tk t' ri (E' : Value → Shared → Prop), i < n → J i m news → (∀ p ∈ news, p.1 ≠ I) → Fr g env.locals h (fun y => if y = x then some (.int (a + (i : Int) * c) t') else m y) → News g env.locals h ((I, ri) :: news) →
      wpAny (model prog w) A (execs body env) (rangeFlow g env.locals I ri (J (i + 1)) s R) E' { s with heap := h, toks := tk })
    (done : ∀ m news h tk, J n m news → Fr g env.locals h m → News g env.locals h news → R (.ok .next) { s with heap := h, toks := tk }) :
    wpAny (model prog w) A (pyIter (.ref r)) (fun it s₂ => codeAny (model prog w) A (.forLoop (.Name x px) it body [] env) R s₂) E s := by
  refine wpAny_pyIter_range hr hsm ?_
  have hlt : ∀ p ∈ news₀, p.1 < s.heap.objs.size := fun p hp => Heap.lt_size (N p hp).1
  refine for_range_loop (s := s) (I := s.heap.objs.size) (a := a) (c := c) (n := n) J hA hk hx (turn s.heap.objs.size hlt) done n 0 m₀ news₀ _ s.toks (by omega) h0 (fun p hp => Nat.ne_of_lt (hlt p hp)) (F.push _) ?_
  have hh := N.push F { cls := .type "range_iterator", data := .fields #[rawInt a, rawInt (Builtin.Range.rangeSize a b c), rawInt c] }
  have e : a + ((0 : Nat) : Int) * c = a := by simp
  rw [e, ← hn]
  exact hh
end
theorem offEN : True := by
  w_top off
  exact True.intro
section
variable {prog : Program} {w : World} {A : Around} {E : Value → Shared → Prop} {s : Shared}
theorem for_stepT {R : Result → Shared → Prop} {target : Expr} {it : Value} {body : List Stmt} {env : Env}
    (turn : ∀ E' : Value → Shared → Prop, wpAny (model prog w) A (pyNext it) (fun r s₁ => match r with
      | none => R (.ok .next) s₁
      | some v => wpAny (model prog w) A (letOwnedTupleGo target it v) (fun _ s₁' => wpAny (model prog w) A (assign target env v) (fun _ s₂ => wpAny (model prog w) A (execs body env) (fun f s₃ => match f with
          | .ret v => R (.ok (.ret v)) s₃
          | .brk => R (.ok .next) s₃
          | _ => codeAny (model prog w) A (.forLoop target it body [] env) R s₃) E' s₂) E' s₁') E' s₁) E' s) : codeAny (model prog w) A (.forLoop target it body [] env) R s := by
  refine codeAny_of_tree ?_
  show wpAny _ A ((forTurn target it body [] env).onRaise (fun x => do noteFrame x env; theTreesLotGoes x)) _ _ s
  refine wpAny_noted ?_
  simp only [forTurn]
  refine wpAny_bind (wpAny_standAt (wpAny_bind (wpAny_onRaise (wpAny_mono (turn _) (fun r s₁ h₁ => ?_) fun _ _ h' => wpAny_standAt h'))))
  cases r with
  | none => exact wpAny_pure ⟨rfl, codeAny_block (wpAny_execs_nil h₁)⟩
  | some v =>
    refine wpAny_bind (wpAny_mono h₁ (fun _ s₁' h₁' => ?_) fun _ _ h' => h')
    refine wpAny_bind (wpAny_mono h₁' (fun _ s₂ h₂ => wpAny_bind (wpAny_mono h₂ (fun f s₃ h₃ => ?_) fun _ _ h' => h')) fun _ _ h' => h')
    cases f with
    | next => exact wpAny_pure ⟨rfl, h₃⟩
    | cont => exact wpAny_pure ⟨rfl, h₃⟩
    | brk => exact wpAny_pure h₃
    | ret v => exact wpAny_pure h₃
/-- what stands behind a turn of a for over enumerate -/
noncomputable def EEnd (g : Heap) (L e it : Addr) (oe oi : Obj) (side : Addr × Obj) (J : (Str → Option Value) → List (Addr × Obj) → Prop) (s s₃ : Shared) : Prop :=
  ∃ h' tk' m' news', s₃ = { s with heap := h', toks := tk' } ∧ Fr g L h' m' ∧ News g L h' ((e, oe) :: (it, oi) :: news') ∧ (∀ p ∈ news', p.1 ≠ e ∧ p.1 ≠ it) ∧ side ∈ news' ∧ J m' news'
theorem for_enum_loop {env : Env} {xi xv : Str} {pi pv pt : Pos} {x1 : Nat} {body : List Stmt} {g : Heap} {R : Result → Shared → Prop} {e it l : Addr} {its : List Value} {nl : Nat} (J : Nat → (Str → Option Value) → List (Addr × Obj) → Prop)
    (hA : A.handled = none) (hk : env.scope.kind = .function) (hxi : env.kindOf xi = some .local) (hxv : env.kindOf xv = some .local) (hei : e ≠ it)
    (turn : ∀ i m news h tk t oe oi v (E' : Value → Shared → Prop), i < its.length → its[i]? = some v → J i m news → (l, listOf its.toArray nl) ∈ news → (∀ p ∈ news, p.1 ≠ e ∧ p.1 ≠ it) →
      Fr g env.locals h (fun y => if y = xv then some v else if y = xi then some (.int (i : Int) t) else m y) → News g env.locals h ((e, oe) :: (it, oi) :: news) →
      wpAny (model prog w) A (execs body env) (fun f s₃ => match f with
          | .ret v => R (.ok (.ret v)) s₃
          | .brk => R (.ok .next) s₃
          | _ => EEnd g env.locals e it oe oi (l, listOf its.toArray nl) (J (i + 1)) s s₃) E' { s with heap := h, toks := tk })
    (done : ∀ m news h tk, J its.length m news → Fr g env.locals h m → News g env.locals h news → R (.ok .next) { s with heap := h, toks := tk }) :
    ∀ k i m news h tk oe oi old, i + k = its.length → IsEnum h e it ((i : Nat) : Int) old → h.IsListIter it l i → J i m news → (l, listOf its.toArray nl) ∈ news → (∀ p ∈ news, p.1 ≠ e ∧ p.1 ≠ it) → Fr g env.locals h m → News g env.locals h ((e, oe) :: (it, oi) :: news) →
      codeAny (model prog w) A (.forLoop (.Tuple [.Name xi pi, .Name xv pv] x1 pt) (.ref e) body [] env) R { s with heap := h, toks := tk } := by
  intro k
  induction k with
  | zero =>
    intro i m news h tk oe oi old hi he hit hJ hl hne F N
    have hi' : i = its.length := by omega
    subst hi'
    refine for_stepT fun E' => ?_
    have hIt := N _ (.tail _ (.head _))
    refine wpAny_pyNext_enum_end hA he hit ⟨_, (N _ (.tail _ (.tail _ hl))).1, rfl, nl, rfl⟩ (by simp) fun h' hx => ?_
    have hb : ∀ b o, b ≠ it → h.get? b = some o → h'.get? b = some o := fun b o hb e => hx b o hb e
    exact done m news h' tk hJ (frBut F hIt.2.1 hIt.2.2 hb) fun p hp => ⟨hb _ _ (hne p hp).2 (N p (.tail _ (.tail _ hp))).1, (N p (.tail _ (.tail _ hp))).2⟩
  | succ k ih =>
    intro i m news h tk oe oi old hi he hit hJ hl hne F N
    refine for_stepT fun E' => ?_
    have hE := N _ (.head _)
    have hIt := N _ (.tail _ (.head _))
    have hlt : i < its.length := by omega
    have hlist : h.IsList l its.toArray := ⟨_, (N _ (.tail _ (.tail _ hl))).1, rfl, nl, rfl⟩
    have hv : its.toArray[i]? = some its[i] := by simp [hlt]
    have hle := hne _ hl
    refine wpAny_pyNext_enum_item he hit hlist hv hei fun h₁ heo hit₁ ht₁ hz₁ hk₁ => ?_
    refine wpAny_letOwnedTupleGo_enum heo fun h₂ he₂ hs₂ => ?_
    have hsz : ∀ b, b < h.objs.size → b ≠ h.objs.size := fun b hb => Nat.ne_of_lt hb
    have eH : e < h.objs.size := Heap.lt_size hE.1
    have iH : it < h.objs.size := Heap.lt_size hIt.1
    have ht₂ : h₂.IsTuple h.objs.size #[.int i tk, its[i]] := ⟨_, (hs₂.2 _ (Nat.ne_of_gt eH)).trans ht₁, rfl, _, rfl⟩
    have hz₂ : h₂.objs.size = h.objs.size + 1 := hs₂.1.trans hz₁
    refine wpAny_assign_Tuple hA ht₂ rfl rfl fun h₃ hx₃ => ?_
    have old₃ : ∀ b o, b < h.objs.size → h₂.get? b = some o → h₃.get? b = some o := fun b o hb x => hx₃ b o (by show b ≠ h₂.objs.size; rw [hz₂]; exact Nat.ne_of_lt (Nat.lt_succ_of_lt hb)) x
    have up : ∀ b o, b ≠ e → b ≠ it → h.get? b = some o → h₃.get? b = some o := fun b o h1 h2 x => old₃ b o (Heap.lt_size x) ((hs₂.2 b h1).trans (hk₁ b o h1 h2 x))
    have F3 : Fr g env.locals h₃ m := ⟨by obtain ⟨o, es, ep, hL, r⟩ := F.ns; exact ⟨o, es, ep, up _ _ (fun q => hE.2.1 q.symm) (fun q => hIt.2.1 q.symm) hL, r⟩, fun b o x => up b o (fun q => by rw [q, hE.2.2] at x; cases x) (fun q => by rw [q, hIt.2.2] at x; cases x) (F.keep b o x), F.above⟩
    have he₃ := old₃ e _ eH he₂
    obtain ⟨oi', hoi', hci', hdi'⟩ := hit₁.extBut hs₂.extBut hei.symm
    have hit₃ := old₃ it _ iH hoi'
    have N3 : News g env.locals h₃ ((e, _) :: (it, oi') :: news) := List.forall_mem_cons.mpr ⟨⟨he₃, hE.2⟩, List.forall_mem_cons.mpr ⟨⟨hit₃, hIt.2⟩, fun p hp => ⟨up _ _ (hne p hp).1 (hne p hp).2 (N p (.tail _ (.tail _ hp))).1, (N p (.tail _ (.tail _ hp))).2⟩⟩⟩
    show wpAny _ A (assignInOrder [assign (.Name xi pi) env, assign (.Name xv pv) env] [.int i tk, its[i]]) _ _ _
    refine assignInOrder_cons ?_
    refine assign_local F3 N3 hk hxi fun h4 F4 N4 => ?_
    refine assignInOrder_cons ?_
    refine assign_local F4 N4 hk hxv fun h5 F5 N5 => ?_
    refine assignInOrder_nil ?_
    refine wpAny_mono (turn i m news h5 _ tk _ oi' its[i] E' hlt (List.getElem?_eq_getElem hlt) hJ hl hne F5 N5) (fun f s₃ hf => ?_) fun _ _ e => e
    have fin : EEnd g env.locals e it { cls := .type "enumerate", dict := none, data := .fields #[.none, .bool false, .ref it, rawInt ((i : Int) + 1), .none, its[i]], slots := #[] } oi' (l, listOf its.toArray nl) (J (i + 1)) s s₃ → codeAny (model prog w) A (.forLoop (.Tuple [.Name xi pi, .Name xv pv] x1 pt) (.ref e) body [] env) R s₃ := by
      rintro ⟨h6, tk6, m6, news6, rfl, F6, N6, hne6, hl6, hJ6⟩
      refine ih (i + 1) m6 news6 h6 tk6 _ oi' its[i] (by omega) ?_ ⟨oi', (N6 _ (.tail _ (.head _))).1, hci', hdi'⟩ hJ6 hl6 hne6 F6 N6
      have z := (N6 _ (.head _)).1
      rw [show (((i + 1 : Nat)) : Int) = (i : Int) + 1 by omega]
      exact z
    cases f with
    | ret v => exact hf
    | brk => exact hf
    | next => exact fin hf
    | cont => exact fin hf
end
theorem offCP : True := by
  w_top off
  exact True.intro
noncomputable def NsObj (o : Obj) (m : Str → Option Value) : Prop := ∀ (h : Heap) (a : Addr), h.get? a = some o → h.Ns a m
theorem nsObj_of {h : Heap} {a : Addr} {m : Str → Option Value} (n : h.Ns a m) : ∃ o, h.get? a = some o ∧ NsObj o m := by
  obtain ⟨o, es, ep, e, r⟩ := n
  exact ⟨o, e, fun h' a' e' => ⟨o, es, ep, e', r⟩⟩
section
variable {prog : Program} {w : World} {A : Around} {E : Value → Shared → Prop} {s : Shared}
theorem comp_step {R : Result → Shared → Prop} {elt target iter : Expr} {scope : Scope} {pos : Pos} {it acc : Value} {env : Env}
    (turn : ∀ E' : Value → Shared → Prop, wpAny (model prog w) A (pyNext it) (fun r s₁ => match r with
      | none => R (.ok .next) s₁
      | some v => wpAny (model prog w) A (letOwnedTupleGo target it v) (fun _ s₁' => wpAny (model prog w) A (assign target env v) (fun _ s₂ => wpAny (model prog w) A (eval elt env) (fun x s₃ =>
          wpAny (model prog w) A (call (.builtin "list.append") [acc, x]) (fun _ s₄ => codeAny (model prog w) A (.compLoop (.ListComp elt [⟨target, iter, [], 0⟩] scope pos) 0 it acc env) R s₄) E' s₃) E' s₂) E' s₁') E' s₁) E' s) :
    codeAny (model prog w) A (.compLoop (.ListComp elt [⟨target, iter, [], 0⟩] scope pos) 0 it acc env) R s := by
  refine codeAny_of_tree ?_
  show wpAny _ A ((compTurn (.ListComp elt [⟨target, iter, [], 0⟩] scope pos) 0 it acc env).onRaise (fun x => do noteFrame x env; theTreesLotGoes x)) _ _ s
  refine wpAny_noted ?_
  rw [compTurn_list1]
  refine wpAny_bind (wpAny_standAt (wpAny_bind (wpAny_mono (turn _) (fun r s₁ h₁ => ?_) fun _ _ h' => h')))
  cases r with
  | none => exact wpAny_pure h₁
  | some v =>
    refine wpAny_bind (wpAny_mono h₁ (fun _ s₁' h₁' => ?_) fun _ _ h' => h')
    refine wpAny_bind (wpAny_mono h₁' (fun _ s₂ h₂ => ?_) fun _ _ h' => h')
    exact wpAny_bind (wpAny_bind (wpAny_mono h₂ (fun x s₃ h₃ => wpAny_bind (wpAny_mono h₃ (fun _ s₄ h₄ => wpAny_pure (wpAny_pure ⟨rfl, h₄⟩)) fun _ _ h' => h')) fun _ _ h' => h'))
/-- what stands behind a turn of a comprehension -/
noncomputable def CEnd (g : Heap) (L C I D : Addr) (oI : Obj) (vals : List Value) (nn : Nat) (m : Str → Option Value) (side : List (Addr × Obj)) (J : List Value → List (Addr × Obj) → Prop) (s : Shared) (y : Value) (s₃ : Shared) : Prop :=
  ∃ h' tk' nws' oC' mC', s₃ = { s with heap := h', toks := tk' } ∧ Fr g L h' m ∧ News g L h' ((C, oC') :: (I, oI) :: (D, listOf vals.toArray nn) :: nws') ∧ NsObj oC' mC' ∧ (∀ p ∈ nws', p.1 ≠ C ∧ p.1 ≠ I ∧ p.1 ≠ D) ∧ (∀ p ∈ side, p ∈ nws') ∧ J (vals ++ [y]) nws'
theorem comp_core {R : Result → Shared → Prop} {elt target iter : Expr} {scope : Scope} {pos : Pos} {I D C L : Addr} {cenv : Env} {g : Heap} {m : Str → Option Value} {fp : List Addr} {n : Nat} {P : Nat → Value → Prop} {St : Nat → Heap → Prop} {side : List (Addr × Obj)}
    (W : Walks prog w A I fp [I] n P St) (hfp : ∀ b ∈ fp, b = I ∨ (∃ o, (b, o) ∈ side) ∨ ∃ o, g.get? b = some o) (hn : n ≤ 1000000) (hCI : C ≠ I) (hCD : C ≠ D) (hID : I ≠ D) (J : Nat → List Value → List (Addr × Obj) → Prop)
    (hSt : ∀ i h, St i h → ∃ o, h.get? I = some o)
    (turn : ∀ i vals nws h tk oC oI mC nn v E', i < n → P i v → J i vals nws → Fr g L h m → News g L h ((C, oC) :: (I, oI) :: (D, listOf vals.toArray nn) :: nws) → NsObj oC mC → (∀ p ∈ nws, p.1 ≠ C ∧ p.1 ≠ I ∧ p.1 ≠ D) → (∀ p ∈ side, p ∈ nws) →
      wpAny (model prog w) A (letOwnedTupleGo target (.ref I) v) (fun _ s₁ => wpAny (model prog w) A (assign target cenv v) (fun _ s₂ => wpAny (model prog w) A (eval elt cenv) (CEnd g L C I D oI vals nn m side (J (i + 1)) s) E' s₂) E' s₁) E' { s with heap := h, toks := tk })
    (done : ∀ vals nws h tk oC mC nn, J n vals nws → vals.length = n → Fr g L h m → News g L h ((C, oC) :: (D, listOf vals.toArray nn) :: nws) → NsObj oC mC → (∀ p ∈ nws, p.1 ≠ C ∧ p.1 ≠ I ∧ p.1 ≠ D) → R (.ok .next) { s with heap := h, toks := tk }) :
    ∀ k i vals nws h tk oC oI mC nn, i + k = n → vals.length = i → St i h → J i vals nws → Fr g L h m → News g L h ((C, oC) :: (I, oI) :: (D, listOf vals.toArray nn) :: nws) → NsObj oC mC → (∀ p ∈ nws, p.1 ≠ C ∧ p.1 ≠ I ∧ p.1 ≠ D) → (∀ p ∈ side, p ∈ nws) →
      codeAny (model prog w) A (.compLoop (.ListComp elt [⟨target, iter, [], 0⟩] scope pos) 0 (.ref I) (.ref D) cenv) R { s with heap := h, toks := tk } := by
  intro k
  induction k with
  | zero =>
    intro i vals nws h tk oC oI mC nn hi hl st hJ F N hO hne hsd
    have hi' : i = n := by omega
    subst hi'
    refine comp_step fun E' => ?_
    refine W.done _ _ _ st fun h' tk' hk => ?_
    have hb : ∀ b o, b ≠ I → h.get? b = some o → h'.get? b = some o := fun b o hb e => hk b o (by simpa using hb) e
    have hI := N (I, oI) (.tail _ (.head _))
    refine done vals nws h' tk' oC mC nn hJ hl (frBut F hI.2.1 hI.2.2 hb) (List.forall_mem_cons.mpr ⟨⟨hb _ _ hCI (N _ (.head _)).1, (N _ (.head _)).2⟩, List.forall_mem_cons.mpr ⟨⟨hb _ _ (fun e => hID e.symm) (N _ (.tail _ (.tail _ (.head _)))).1, (N _ (.tail _ (.tail _ (.head _)))).2⟩, fun p hp => ?_⟩⟩) hO hne
    have := N p (.tail _ (.tail _ (.tail _ hp)))
    exact ⟨hb _ _ (hne p hp).2.1 this.1, this.2⟩
  | succ k ih =>
    intro i vals nws h tk oC oI mC nn hi hl st hJ F N hO hne hsd
    refine comp_step fun E' => ?_
    refine W.item i _ _ _ (by omega) st fun v h' tk' hP st' hk => ?_
    have hb : ∀ b o, b ≠ I → h.get? b = some o → h'.get? b = some o := fun b o hb e => hk b o (by simpa using hb) e
    have hI := N (I, oI) (.tail _ (.head _))
    obtain ⟨oI', hoI'⟩ := hSt _ _ st'
    have F' := frBut F hI.2.1 hI.2.2 hb
    have N' : News g L h' ((C, oC) :: (I, oI') :: (D, listOf vals.toArray nn) :: nws) := List.forall_mem_cons.mpr ⟨⟨hb _ _ hCI (N _ (.head _)).1, (N _ (.head _)).2⟩, List.forall_mem_cons.mpr ⟨⟨hoI', hI.2⟩, List.forall_mem_cons.mpr ⟨⟨hb _ _ (fun e => hID e.symm) (N _ (.tail _ (.tail _ (.head _)))).1, (N _ (.tail _ (.tail _ (.head _)))).2⟩, fun p hp => by
      have := N p (.tail _ (.tail _ (.tail _ hp)))
      exact ⟨hb _ _ (hne p hp).2.1 this.1, this.2⟩⟩⟩⟩
    refine wpAny_mono (turn i vals nws h' tk' oC oI' mC nn v E' (by omega) hP hJ F' N' hO hne hsd) (fun _ s₁ h₁ => wpAny_mono h₁ (fun _ s₂ h₂ => wpAny_mono h₂ (fun y s₃ h₃ => ?_) fun _ _ e => e) fun _ _ e => e) fun _ _ e => e
    obtain ⟨h3, tk3, nws3, oC3, mC3, rfl, F3, N3, hO3, hne3, hsd3, hJ3⟩ := h₃
    have hU : Upd D (listOf vals.toArray nn) (listOf (vals.toArray.push y) (nn + 1)) ((C, oC3) :: (I, oI') :: (D, listOf vals.toArray nn) :: nws3) ((C, oC3) :: (I, oI') :: (D, listOf (vals.toArray.push y) (nn + 1)) :: nws3) :=
      .tail hCD (.tail hID (.head fun p hp => (hne3 p hp).2.2))
    refine append_K (its := vals.toArray) F3 N3 hU (fun h4 F4 N4 => ?_) (by rw [sizeLine_eq, List.size_toArray]; omega)
    rw [List.push_toArray] at N4
    refine ih (i + 1) (vals ++ [y]) nws3 h4 tk3 oC3 oI' mC3 (nn + 1) (by omega) (by simp [hl]) ?_ hJ3 F4 N4 hO3 hne3 hsd3
    refine W.frame _ _ _ st' fun b hb' o e => ?_
    rcases hfp b hb' with rfl | ⟨o', ho'⟩ | ⟨o', ho'⟩
    · rw [hoI'] at e
      cases e
      exact (N4 _ (.tail _ (.head _))).1
    · have e1 := (N' (b, o') (.tail _ (.tail _ (.tail _ (hsd _ ho'))))).1
      rw [e1] at e
      cases e
      exact (N4 _ (.tail _ (.tail _ (.tail _ (hsd3 _ ho'))))).1
    · have e1 := F'.keep _ _ ho'
      rw [e1] at e
      cases e
      exact F4.keep _ _ ho'
theorem comp_block {E : Value → Shared → Prop} {use : Option (Value → Sem Unit)} {Q : Value → Shared → Prop} {elt target iter : Expr} {scope : Scope} {pos : Pos} {cl : List (Str × Addr)} {env : Env} {I L : Addr} {g : Heap} {m : Str → Option Value} {fp : List Addr} {n : Nat} {P : Nat → Value → Prop} {St : Nat → Heap → Prop} {side news : List (Addr × Obj)} {oI : Obj}
    (hcell : ∀ y ∈ scope.names, y.2 ≠ .cell) (hkind : scope.kind = .function) (F : Fr g L s.heap m) (N : News g L s.heap ((I, oI) :: news)) (hneI : ∀ p ∈ news, p.1 ≠ I)
    (W : Walks prog w A I fp [I] n P St) (hst : St 0 s.heap) (hSt : ∀ i h, St i h → ∃ o, h.get? I = some o) (hfp : ∀ b ∈ fp, b = I ∨ (∃ o, (b, o) ∈ side) ∨ ∃ o, g.get? b = some o) (hsd : ∀ p ∈ side, p ∈ news) (hn : n ≤ 1000000) (J : Nat → List Value → List (Addr × Obj) → Prop) (h0 : J 0 [] news)
    (turn : ∀ C D, (∀ p ∈ (I, oI) :: news, p.1 < D) → @LT.lt Nat _ D C → ∀ i vals nws h tk oC oI mC nn v E', i < n → P i v → J i vals nws → Fr g L h m → News g L h ((C, oC) :: (I, oI) :: (D, listOf vals.toArray nn) :: nws) → NsObj oC mC → (∀ p ∈ nws, p.1 ≠ C ∧ p.1 ≠ I ∧ p.1 ≠ D) → (∀ p ∈ side, p ∈ nws) →
      wpAny (model prog w) A (letOwnedTupleGo target (.ref I) v) (fun _ s₁ => wpAny (model prog w) A (assign target (compEnvC scope cl C env) v) (fun _ s₂ => wpAny (model prog w) A (eval elt (compEnvC scope cl C env)) (CEnd g L C I D oI vals nn m side (J (i + 1)) s) E' s₂) E' s₁) E' { s with heap := h, toks := tk })
    (done : ∀ C D, (∀ p ∈ (I, oI) :: news, p.1 < D) → @LT.lt Nat _ D C → ∀ vals nws h tk oC mC nn, J n vals nws → vals.length = n → Fr g L h m → News g L h ((C, oC) :: (D, listOf vals.toArray nn) :: nws) → NsObj oC mC → (∀ p ∈ nws, p.1 ≠ C ∧ p.1 ≠ I ∧ p.1 ≠ D) →
      compPost (model prog w) A E use Q (.ref D) C (.ok .next) { s with heap := h, toks := tk }) :
    wpAny (model prog w) A (newList []) (fun acc s₃ => wpAny (model prog w) A (newFunctionEnv scope env.globals cl [] env.qual none .none (some env)) (fun cenv s₄ =>
      codeAny (model prog w) A (.compStart (.ListComp elt [⟨target, iter, [], 0⟩] scope pos) 0 (.ref I) acc { cenv with scope := relabel scope env }) (compPost (model prog w) A E use Q acc cenv.locals) s₄) E s₃) E s := by
  have hI := N _ (.head _)
  have hlt : ∀ p ∈ (I, oI) :: news, p.1 < s.heap.objs.size := fun p hp => Heap.lt_size (N p hp).1
  refine wpAny_newObj_type (wpAny_newFunctionEnv hcell (by intro y hy; simp at hy) (fun h₁ hns₁ hsb₁ => ?_) hkind)
  dsimp only at hns₁ hsb₁ ⊢
  have F2 := F.push (listOf (([] : List Value).toArray) 0)
  have N2 := N.push F (listOf (([] : List Value).toArray) 0)
  generalize hH2 : s.heap.push { cls := .type "list", dict := none, data := .seq ([] : List Value).toArray } = H2 at hns₁ hsb₁ ⊢
  have eH2 : s.heap.push (listOf (([] : List Value).toArray) 0) = H2 := hH2
  rw [eH2] at F2 N2
  have hC : H2.objs.size = s.heap.objs.size + 1 := by rw [← hH2, Heap.size_push]
  have hDC : @LT.lt Nat _ s.heap.objs.size H2.objs.size := by rw [hC]; exact Nat.lt_succ_self _
  have hk : ∀ b o, H2.get? b = some o → h₁.get? b = some o := fun b o e => hsb₁.extBut b o (Nat.ne_of_lt (Heap.lt_size e)) (Heap.get?_push_of_some _ e)
  obtain ⟨oC, hoC, hOC⟩ := nsObj_of hns₁
  have F3 := F2.keeps hk
  have N3 : News g L h₁ ((H2.objs.size, oC) :: (s.heap.objs.size, listOf (([] : List Value).toArray) 0) :: (I, oI) :: news) := by
    refine List.forall_mem_cons.mpr ⟨⟨hoC, fun e => ?_, ?_⟩, N2.grown hk⟩
    · exact absurd F2.ns.lt (by rw [← e]; exact Nat.lt_irrefl _)
    · exact next_is_new F2
  have hne : ∀ p ∈ news, p.1 ≠ H2.objs.size ∧ p.1 ≠ I ∧ p.1 ≠ s.heap.objs.size := fun p hp => ⟨Nat.ne_of_lt (Nat.lt_trans (hlt p (.tail _ hp)) hDC), hneI p hp, Nat.ne_of_lt (hlt p (.tail _ hp))⟩
  have hID : @LT.lt Nat _ I s.heap.objs.size := hlt _ (.head _)
  have hst₁ : St 0 h₁ := W.frame _ _ _ hst fun b hb o e => hk b o (by rw [← hH2]; exact Heap.get?_push_of_some _ e)
  have loop : ∀ tk, codeAny (model prog w) A (.compLoop (.ListComp elt [⟨target, iter, [], 0⟩] scope pos) 0 (.ref I) (.ref s.heap.objs.size) (compEnvC scope cl H2.objs.size env)) (compPost (model prog w) A E use Q (.ref s.heap.objs.size) H2.objs.size) { s with heap := h₁, toks := tk } := by
    intro tk
    refine comp_core (s := s) W hfp hn (Nat.ne_of_gt (Nat.lt_trans hID hDC)) (Nat.ne_of_gt hDC) (Nat.ne_of_lt hID) J hSt (turn _ _ hlt hDC) (done _ _ hlt hDC) n 0 [] news h₁ tk oC oI _ 0 (by omega) rfl hst₁ h0 F3 ?_ hOC hne hsd
    intro p hp
    rcases List.mem_cons.mp hp with rfl | hp
    · exact N3 _ (.head _)
    · rcases List.mem_cons.mp hp with rfl | hp
      · exact N3 _ (.tail _ (.tail _ (.head _)))
      · rcases List.mem_cons.mp hp with rfl | hp
        · exact N3 _ (.tail _ (.head _))
        · exact N3 _ (.tail _ (.tail _ (.tail _ hp)))
  exact codeAny_compStart_list (loop _) (W.self 0 _ _ _ hst₁ (loop _))
theorem sameBut_fr {g h h' : Heap} {L C : Addr} {m : Str → Option Value} {oC : Obj} {news : List (Addr × Obj)} (F : Fr g L h m) (N : News g L h ((C, oC) :: news)) (hne : ∀ p ∈ news, p.1 ≠ C) (hs : Heap.SameBut C h h') : Fr g L h' m ∧ News g L h' news := by
  have hC := N _ (.head _)
  have hb : ∀ b o, b ≠ C → h.get? b = some o → h'.get? b = some o := fun b o hb e => (hs.2 b hb).trans e
  exact ⟨frBut F hC.2.1 hC.2.2 hb, fun p hp => ⟨hb _ _ (hne p hp) (N p (.tail _ hp)).1, (N p (.tail _ hp)).2⟩⟩
theorem compPost_none {Q : Value → Shared → Prop} {g h : Heap} {L C D : Addr} {m mC : Str → Option Value} {oC oD : Obj} {news : List (Addr × Obj)} {tk : Nat} (F : Fr g L h m) (N : News g L h ((C, oC) :: (D, oD) :: news)) (hO : NsObj oC mC) (hDC : @LT.lt Nat _ D C) (hne : ∀ p ∈ news, p.1 ≠ C)
    (hQ : ∀ h', Fr g L h' m → News g L h' ((D, oD) :: news) → Q (.ref D) { s with heap := h', toks := tk }) : compPost (model prog w) A E none Q (.ref D) C (.ok .next) { s with heap := h, toks := tk } := by
  refine ⟨mC, hO _ _ (N _ (.head _)).1, fun h' hs => ?_⟩
  obtain ⟨F', N'⟩ := sameBut_fr F N (List.forall_mem_cons.mpr ⟨Nat.ne_of_lt hDC, hne⟩) hs
  exact hQ h' F' N'
theorem eval_listcomp {Q : Value → Shared → Prop} {elt target iter : Expr} {scope : Scope} {pos : Pos} {env : Env} {cl : List (Str × Addr)}
    (hclos : closureFor scope env = pure cl) (hkind : scope.kind = .function) (hnames : ∀ x ∈ scope.names, x.2 = .local → scope.names.lookup x.1 = some .local)
    (h : wpAny (model prog w) A (eval iter env) (fun x s₁ => wpAny (model prog w) A (pyIter x) (fun it s₂ => wpAny (model prog w) A (newList []) (fun acc s₃ => wpAny (model prog w) A (newFunctionEnv scope env.globals cl [] env.qual none .none (some env)) (fun cenv s₄ =>
      codeAny (model prog w) A (.compStart (.ListComp elt [⟨target, iter, [], 0⟩] scope pos) 0 it acc { cenv with scope := relabel scope env }) (compPost (model prog w) A E none Q acc cenv.locals) s₄) E s₃) E s₂) E s₁) E s)
    (hs : ∀ x, foldedSetIterable iter env x = pure x := by intro _; rfl) :
    wpAny (model prog w) A (eval (.ListComp elt [⟨target, iter, [], 0⟩] scope pos) env) Q E s := by
  rw [eval_ListComp]
  exact wpAny_comprehension_free (use := none) rfl hs hclos hkind hnames h
theorem comp_assign {cenv : Env} {C L : Addr} {g : Heap} {m mC : Str → Option Value} {oC : Obj} {rest : List (Addr × Obj)} {x : Str} {px : Pos} {v : Value} {Q : Unit → Shared → Prop} (F : Fr g L s.heap m) (N : News g L s.heap ((C, oC) :: rest)) (hne : ∀ p ∈ rest, p.1 ≠ C) (hO : NsObj oC mC)
    (hl : cenv.locals = C) (hk : cenv.scope.kind = .function) (hx : cenv.kindOf x = some .local)
    (h : ∀ oC' h', Fr g L h' m → News g L h' ((C, oC') :: rest) → NsObj oC' (fun y => if y = x then some v else mC y) → Q () { s with heap := h', toks := s.toks + 1 }) : wpAny (model prog w) A (assign (.Name x px) cenv v) Q E s := by
  subst hl
  refine wpAny_assign_Name (wpAny_storeName_local hx (hO _ _ (N _ (.head _)).1) (fun h' hn hs => ?_) (by rw [hk]; rfl))
  obtain ⟨F', N'⟩ := sameBut_fr F N hne hs
  obtain ⟨oC', hoC', hO'⟩ := nsObj_of hn
  exact h oC' h' F' (List.forall_mem_cons.mpr ⟨⟨hoC', (N _ (.head _)).2⟩, N'⟩) hO'
theorem nameC_L {cenv : Env} {C L : Addr} {g : Heap} {mC : Str → Option Value} {oC : Obj} {news : List (Addr × Obj)} {x : Str} {pos : Pos} {v : Value} {Q : Value → Shared → Prop} (N : News g L s.heap news) (hm : (cenv.locals, oC) ∈ news) (hO : NsObj oC mC) (hv : mC x = some v) (h : Q v s)
    (hk : cenv.scope.kind = .function := by rfl) (hx : cenv.kindOf x = some .local := by rfl) (hd : (x == ("__debug__" : Str)) = false := by decide) : wpAny (model prog w) A (eval (.Name x pos) cenv) Q E s :=
  wpAny_Name (wpAny_loadName_local hk hx (hO _ _ (N.get hm)) hv h) hd
theorem nameC_C {cenv : Env} {L c : Addr} {g : Heap} {o : Obj} {news : List (Addr × Obj)} {x : Str} {pos : Pos} {v : Value} {Q : Value → Shared → Prop} (N : News g L s.heap news) (hc : cenv.cells.lookup x = some c) (hm : (c, o) ∈ news) (hd : o.data = .cell (some v)) (h : Q v s)
    (hk : cenv.scope.kind = .function := by rfl) (hx : cenv.kindOf x = some .cell := by rfl) (hb : (x == ("__debug__" : Str)) = false := by decide) : wpAny (model prog w) A (eval (.Name x pos) cenv) Q E s :=
  wpAny_Name (wpAny_loadName_cell hk hx hc ⟨o, N.get hm, hd⟩ h) hb
/-- over a range, with one name for the turn's number -/
theorem comp_range {E : Value → Shared → Prop} {use : Option (Value → Sem Unit)} {Q : Value → Shared → Prop} {elt iter : Expr} {x : Str} {px : Pos} {scope : Scope} {pos : Pos} {cl : List (Str × Addr)} {env : Env} {r L : Addr} {g : Heap} {m : Str → Option Value} {a b c : Int} {t u v : Tok} {n : Nat} {news : List (Addr × Obj)}
    (hA : A.handled = none) (hcell : ∀ y ∈ scope.names, y.2 ≠ .cell) (hkind : scope.kind = .function) (hx : scope.names.lookup x = some .local) (hr : IsRange s.heap r a b c t u v) (hsm : Builtin.Range.small a b c = true) (hrs : Builtin.Range.rangeSize a b c = (n : Int)) (hn : n ≤ 1000000)
    (F : Fr g L s.heap m) (N : News g L s.heap news) (J : Nat → List Value → List (Addr × Obj) → Prop) (h0 : J 0 [] news)
    (turn : ∀ C D I, (∀ p ∈ news, p.1 < I) → @LT.lt Nat _ I D → @LT.lt Nat _ D C → ∀ i vals nws h tk oC oI (mC : Str → Option Value) nn t' E', i < n → J i vals nws → Fr g L h m → News g L h ((C, oC) :: (I, oI) :: (D, listOf vals.toArray nn) :: nws) → NsObj oC (fun y => if y = x then some (.int (a + (i : Int) * c) t') else mC y) → (∀ p ∈ nws, p.1 ≠ C ∧ p.1 ≠ I ∧ p.1 ≠ D) →
      wpAny (model prog w) A (eval elt (compEnvC scope cl C env)) (CEnd g L C I D oI vals nn m [] (J (i + 1)) s) E' { s with heap := h, toks := tk })
    (done : ∀ C D, (∀ p ∈ news, p.1 < D) → @LT.lt Nat _ D C → ∀ vals nws h tk oC mC nn, J n vals nws → vals.length = n → Fr g L h m → News g L h ((C, oC) :: (D, listOf vals.toArray nn) :: nws) → NsObj oC mC → (∀ p ∈ nws, p.1 ≠ C ∧ p.1 ≠ D) →
      compPost (model prog w) A E use Q (.ref D) C (.ok .next) { s with heap := h, toks := tk }) :
    wpAny (model prog w) A (pyIter (.ref r)) (fun it s₂ => wpAny (model prog w) A (newList []) (fun acc s₃ => wpAny (model prog w) A (newFunctionEnv scope env.globals cl [] env.qual none .none (some env)) (fun cenv s₄ =>
      codeAny (model prog w) A (.compStart (.ListComp elt [⟨.Name x px, iter, [], 0⟩] scope pos) 0 it acc { cenv with scope := relabel scope env }) (compPost (model prog w) A E use Q acc cenv.locals) s₄) E s₃) E s₂) E s := by
  refine wpAny_pyIter_range hr hsm ?_
  have hlt : ∀ p ∈ news, p.1 < s.heap.objs.size := fun p hp => Heap.lt_size (N p hp).1
  have hkC : ∀ C, (compEnvC scope cl C env).scope.kind = .function := fun C => by simp [compEnvC, relabel, hkind]
  refine comp_block (s := { s with heap := s.heap.push _ }) (target := .Name x px) (P := fun i v => ∃ t, v = .int (a + (i : Int) * c) t) (side := []) hcell hkind (F.push _) (N.push F _) (fun p hp => Nat.ne_of_lt (hlt p hp)) (Walks.range hA _ a c n) ?_ (fun i h st => ⟨_, st⟩) (fun b hb => .inl (by simpa using hb)) (fun _ h => (nomatch h)) hn J h0 ?_ ?_
  · have e : a + ((0 : Nat) : Int) * c = a := by simp
    show IsRangeIter _ _ _ _ _
    rw [e, ← hrs]
    have := Heap.get?_push_size s.heap (o := { cls := .type "range_iterator", data := .fields #[rawInt a, rawInt (Builtin.Range.rangeSize a b c), rawInt c] }) rfl
    simpa using this
  · rintro C D hD hDC i vals nws h tk oC oI mC nn v E' hi ⟨t', rfl⟩ hJ F1 N1 hO hne hsd
    refine wpAny_of_eq rfl (comp_assign F1 N1 ?_ hO rfl (hkC C) (lookup_relabel_local hx) fun oC' h' F2 N2 hO2 => ?_)
    · have hI := hD _ (.head _)
      exact List.forall_mem_cons.mpr ⟨Nat.ne_of_lt (Nat.lt_trans hI hDC), List.forall_mem_cons.mpr ⟨Nat.ne_of_lt hDC, fun p hp => (hne p hp).1⟩⟩
    · exact turn C D _ hlt (hD _ (.head _)) hDC i vals nws h' _ oC' oI mC nn t' E' hi hJ F2 N2 hO2 hne
  · intro C D hD hDC vals nws h tk oC mC nn hJ hl F1 N1 hO hne
    exact done C D (fun p hp => hD p (.tail _ hp)) hDC vals nws h tk oC mC nn hJ hl F1 N1 hO fun p hp => ⟨(hne p hp).1, (hne p hp).2.2⟩
end
theorem offLT : True := by
  w_top off
  exact True.intro
noncomputable abbrev lobj (C dx : Addr) (its : Array Value) (n : Nat) : Obj := { cls := .ref C, dict := some dx, data := .seq its n }
noncomputable def makesInL (K : Frag) (C : Addr) : Bool := match K.lookup C with
  | some ⟨_, _, .cls cd, sl⟩ => !cd.hasDel && (sl.toList[4]?).join == some (.builtin "list.__new__") && !cd.mro.isEmpty && cd.mro.contains (.ref C) && cd.mro.contains (.type "list") &&
      specialIn K (.ref C) "__call__" == some (some (.builtin "type.__call__")) && instIn K (.ref C) (.type "type") == some true
  | _ => false
structure MakesL (M : Model) (h : Heap) (C : Addr) : Prop where
  obj : ∃ oc od cd sl, h.get? C = some ⟨oc, od, .cls cd, sl⟩ ∧ cd.hasDel = false ∧ cd.mro.isEmpty = false
  made : Looks M h (Bind.madeBy (.ref C)) (some "list.__new__")
  base : Looks M h (Bind.staticBase (.ref C)) (.ref C)
  self : Looks M h (isSubtype (.ref C) (.ref C)) true
  top : Looks M h (isSubtype (.ref C) (.type "list")) true
  call : Looks M h (specialOf (.ref C) "__call__") (some (.builtin "type.__call__"))
  typ : Looks M h (isInstance (.ref C) (.type "type")) true
theorem makesL_of {K : Frag} {M : Model} {h : Heap} (X : K.In h) {C : Addr} (e : makesInL K C = true) : MakesL M h C := by
  unfold makesInL at e
  split at e
  · rename_i oc od cd sl ho
    simp only [Bool.and_eq_true, Bool.not_eq_true', beq_iff_eq] at e
    obtain ⟨⟨⟨⟨⟨⟨e2, e3⟩, e4⟩, e5⟩, e6⟩, e7⟩, e8⟩ := e
    have hc : clsIn K C = some cd := by unfold clsIn; rw [ho]
    have hm : Looks M h (mroOf (.ref C)) cd.mro := (looks_clsIn X hc).andThen .now
    obtain ⟨c, l, hl⟩ : ∃ c l, cd.mro = c :: l := by cases q : cd.mro with | nil => rw [q] at e4; cases e4 | cons c l => exact ⟨c, l, rfl⟩
    have made : Looks M h (Bind.madeBy (.ref C)) (some "list.__new__") := by
      intro A Q E s k q
      unfold Bind.madeBy
      refine wpAny_bind (hm A _ E s k ?_)
      rw [hl, List.forIn_cons]
      refine wpAny_bind (wpAny_bind (wpAny_bind (wpAny_bind (wpAny_loadPart (k _ _ (X _ _ ho)) (wpAny_pure ?_)))))
      dsimp only
      rw [← Array.getElem?_toList, e3]
      exact wpAny_pure (wpAny_pure (wpAny_pure q))
    refine ⟨⟨oc, od, cd, sl, X _ _ ho, e2, e4⟩, made, ?_, looks_mroIn X ?_, looks_mroIn X ?_, looks_specialIn X e7, looks_instIn X e8⟩
    · intro A Q E s k q
      unfold Bind.staticBase
      refine wpAny_bind (hm A _ E s k ?_)
      rw [hl, List.forIn_cons]
      exact wpAny_bind (wpAny_bind (wpAny_bind (made A _ E s k (wpAny_pure (wpAny_pure (wpAny_pure q))))))
    · unfold mroIn; rw [hc, Option.bind_some, if_neg (by rw [e4]; decide), e5]
    · unfold mroIn; rw [hc, Option.bind_some, if_neg (by rw [e4]; decide), e6]
  · cases e
theorem ln_kind : builtinKind "list.__new__" = some .builtinFn := by decide +kernel
theorem ln_split : splitId "list.__new__" = some ("list", "__new__") := by decide +kernel
theorem ln_args (a : Value) : argsOk "list.__new__" ⟨[a], []⟩ := by unfold argsOk; kernel_rfl
section
variable {prog : Program} {w : World} {A : Around} {K : Frag} {C : Addr} {R : Result → Shared → Prop} {h : Heap} {g : Array GenState} {d : Drawn} {t : Nat} {os : OsState}
theorem new_L (Y : MakesL (model prog w) h C)
    (hq : R (.ok (.ret (.ref (h.objs.size + 1)))) ⟨(h.push emptyDict).push (lobj C h.objs.size #[] 0), g, d, t, os⟩) :
    codeAny (model prog w) A (.call (.builtin "list.__new__") ⟨.ref C :: [], []⟩) R ⟨h, g, d, t, os⟩ := by
  obtain ⟨⟨oc, od, cd, sl, hC, e2, e4⟩, made, base, self, top, call, typ⟩ := Y
  refine codeAny_call_builtin_code (plainId_quiet F.plain_list_new _) ?_
  simp only [checkBuiltinCall, ln_kind, ln_split]
  repeat (first | simp only [bne_self_eq_false, Bool.false_eq_true, if_false, Bool.not_true] | lk)
  refine codeAny_builtin_stack F.entry_list_new rfl fun p st => ?_
  rw [Around.under_plainId F.plain_list_new _]
  have hown := owner_list_new
  simp only [hown]
  repeat (first | simp only [Bool.false_eq_true, if_false, Bool.not_true] | lk)
  refine wpAny_load (Heap.get?_push_of_some _ (Heap.get?_push_of_some _ hC)) (wpAny_pure ?_)
  rw [e2]
  refine wpAny_pure (wpAny_pure ?_)
  show R _ _
  rw [Heap.size_push]
  exact hq
theorem make_coreL {init : Value} (Y : MakesL (model prog w) h C) (hi : Looks (model prog w) h (typeLookup (.ref C) "__init__") (some init))
    (hb : ∀ self, Looks (model prog w) h (bindSpecial init self) (init, [self]))
    (hq : codeAny (model prog w) (A.under (.builtin "type.__call__" ⟨.ref C :: [], []⟩)) (.call init ⟨.ref (h.objs.size + 1) :: [], []⟩) (InitBack (h.objs.size + 1) R) ⟨(h.push emptyDict).push (lobj C h.objs.size #[] 0), g, d, t, os⟩) :
    codeAny (model prog w) A (.call (.ref C) ⟨[], []⟩) R ⟨h, g, d, t, os⟩ := by
  have Y' := Y
  obtain ⟨⟨oc, od, cd, sl, hC, e2, e4⟩, made, base, self, top, call, typ⟩ := Y
  refine codeAny_of_tree ?_
  show wpAny _ _ (callAny (.ref C) _) _ _ _
  refine nd_load hC ?_
  show wpAny _ _ (callAny.viaDunder (.ref C) _) _ _ _
  unfold callAny.viaDunder
  refine wpAny_bind (call.at ?_)
  dsimp only
  rw [tc_bind]
  refine wpAny_bind (wpAny_pure (wpAny_bind (wpAny_pure ?_)))
  refine wpAny_pure (a := Fin.again (.call (.builtin "type.__call__") ⟨.ref C :: [], []⟩)) (And.intro rfl ?_)
  refine codeAny_call_builtin_at (Code.quiet_builtin _ (by decide +kernel)) entry_typeCall (check_slot tc_kind tc_split typ (tc_args _ _ _) ?_)
  unfold Builtin.«type.__call__»
  have hm : Looks (model prog w) h (mroOf (.ref C)) cd.mro := ((Looks.ld (part := none) hC).andThen .now).andThen .now
  repeat (first | simp only [e4, Bool.false_eq_true, if_false] | with_reducible refine wpAny_call ?_ | lk)
  refine new_L Y' ?_
  have k : ∀ b o, h.get? b = some o → ((h.push emptyDict).push (lobj C h.objs.size #[] 0)).get? b = some o := fun b o e => Heap.get?_push_of_some _ (Heap.get?_push_of_some _ e)
  have hx : ((h.push emptyDict).push (lobj C h.objs.size #[] 0)).get? (h.objs.size + 1) = some (lobj C h.objs.size #[] 0) := by heap_get
  have t1 : Looks (model prog w) ((h.push emptyDict).push (lobj C h.objs.size #[] 0)) (typeOf (.ref (h.objs.size + 1))) (.ref C) := (Looks.ld hx).andThen .now
  have s1 := self.keeps k
  have i1 := hi.keeps k
  have b1 := (hb (.ref (h.objs.size + 1))).keeps k
  unfold isInstance callSpecial? specialOf
  repeat (first | with_reducible refine wpAny_call ?_ | lk)
  refine codeAny_mono hq fun r s' z => ?_
  rcases r with e | (v | _ | _ | _) <;> first | exact z | exact z.elim | skip
  obtain ⟨rfl, z⟩ := z
  exact wpAny_pure (wpAny_pure z)
end
section
variable {prog : Program} {w : World} {A : Around} {K : Frag} {C : Addr} {s : Shared} {h₀ : Heap} {L : Addr} {m : Str → Option Value} {news : List (Addr × Obj)} {R : Result → Shared → Prop}
theorem make_L {fI : Addr} (F : Fr h₀ L s.heap m) (N : News h₀ L s.heap news) (X : K.In s.heap) (hm : makesInL K C = true)
    (hi : findIn K (.ref C) "__init__" = some (some (.ref fI))) (hf : typeIn K (.ref fI) = some (.type "function"))
    (h : ∀ x dx h', Fr h₀ L h' m → News h₀ L h' ((x, lobj C dx #[] 0) :: (dx, emptyDict) :: news) → (∀ p ∈ news, p.1 < dx) → dx < x →
      codeAny (model prog w) (A.under (.builtin "type.__call__" ⟨.ref C :: [], []⟩)) (.call (.ref fI) ⟨.ref x :: [], []⟩) (InitBack x R) { s with heap := h' }) :
    codeAny (model prog w) A (.call (.ref C) ⟨[], []⟩) R s := by
  obtain ⟨hh, g, d, t, os⟩ := s
  refine make_coreL (makesL_of X hm) (looks_findIn X hi) (fun self => bind_fn X self hf) (h _ hh.objs.size _ ((F.push _).push _) ?_ (fun p hp => Heap.lt_size (N p hp).1) (Nat.lt_succ_self _))
  have := (N.push F emptyDict).push (F.push _) (lobj C hh.objs.size #[] 0)
  rwa [Heap.size_push] at this
end
theorem offLU : True := by
  w_top off
  exact True.intro
noncomputable abbrev bndObj (T : String) (id : String) (x : Addr) : Obj := { cls := .type T, dict := none, data := .fields #[.builtin id, .ref x], slots := #[] }
theorem own_init : ".".intercalate ("list.__init__".cutAt '.').dropLast = "list" := by first | decide +kernel | kernel_rfl
theorem own_len : ".".intercalate ("list.__len__".cutAt '.').dropLast = "list" := by first | decide +kernel | kernel_rfl
theorem own_pop : ".".intercalate ("list.pop".cutAt '.').dropLast = "list" := by first | decide +kernel | kernel_rfl
theorem wd_slot : Slot "wrapper_descriptor" "__get__" "wrapper_descriptor.__get__" :=
  .of (owner := "wrapper_descriptor") (n := "__get__") (by rw [typeLookup_type, builtinLookup_eq_fast]; kernel_rfl) (by decide +kernel) (by decide +kernel) (by decide +kernel)
    (by first | exact .inl (by decide +kernel) | exact .inr (by decide +kernel)) (by rw [isSubtype_type]; kernel_rfl)
theorem wd_entry : entryFor table "wrapper_descriptor.__get__" = some Builtin.«wrapper_descriptor.__get__» := entryFor_of_tree (by kernel_rfl)
theorem wd_args (a b c : Value) : argsOk "wrapper_descriptor.__get__" ⟨[a, b, c], []⟩ := by unfold argsOk; kernel_rfl
theorem md_slot : Slot "method_descriptor" "__get__" "method_descriptor.__get__" :=
  .of (owner := "method_descriptor") (n := "__get__") (by rw [typeLookup_type, builtinLookup_eq_fast]; kernel_rfl) (by decide +kernel) (by decide +kernel) (by decide +kernel)
    (by first | exact .inl (by decide +kernel) | exact .inr (by decide +kernel)) (by rw [isSubtype_type]; kernel_rfl)
theorem md_entry : entryFor table "method_descriptor.__get__" = some Builtin.«method_descriptor.__get__» := entryFor_of_tree (by kernel_rfl)
theorem md_args (a b c : Value) : argsOk "method_descriptor.__get__" ⟨[a, b, c], []⟩ := by unfold argsOk; kernel_rfl
theorem ty_init : typeOf (.builtin "list.__init__") = pure (.type "wrapper_descriptor") := by show builtinType _ = _; rw [builtinType_eq_fast]; kernel_rfl
theorem ty_len : typeOf (.builtin "list.__len__") = pure (.type "wrapper_descriptor") := by show builtinType _ = _; rw [builtinType_eq_fast]; kernel_rfl
theorem told_pop : Manifest.toldItsClass.contains "list.pop" = false := by decide +kernel
theorem if_false_ {α : Type} {M : Model} {A : Around} {E : Value → Shared → Prop} {s : Shared} {c : Bool} {a b : Sem α} {Q : α → Shared → Prop} (hc : c = false) (h : wpAny M A b Q E s) : wpAny M A (if c = true then a else b) Q E s := by
  subst hc
  exact h
section
variable {M : Model} {A : Around} {E : Value → Shared → Prop} {s : Shared} {x C : Addr}
theorem run_init {P : Fin → Shared → Prop} (hi : Looks M s.heap (isInstance (.ref x) (.type "list")) true) (h : P (.done (.ret (.ref s.heap.objs.size))) { s with heap := s.heap.push (bndObj "method-wrapper" "list.__init__" x) }) :
    wpAny M A (Builtin.«wrapper_descriptor.__get__» ⟨[.builtin "list.__init__", .ref x, .ref C], []⟩) P E s := by
  unfold Builtin.«wrapper_descriptor.__get__»
  refine wpAny_bind (wpAny_of_eq (a := (.builtin "list.__init__", some (.ref x), some (.ref C))) (by first | rfl | kernel_rfl) ?_)
  show wpAny _ _ ((kfb_private% "checkInstance") (.builtin "list.__init__") (.ref x) >>= fun _ => newFields "method-wrapper" [.builtin "list.__init__", .ref x] >>= ret) _ _ _
  refine wpAny_bind ?_
  wp_delta
  refine wpAny_bind ?_
  wp_delta
  dsimp only
  rw [own_init]
  refine wpAny_pure (wpAny_bind (hi.here ?_))
  refine wpAny_pure (wpAny_bind (wpAny_newObj_type (wpAny_pure h)))
theorem run_len {P : Fin → Shared → Prop} (hi : Looks M s.heap (isInstance (.ref x) (.type "list")) true) (h : P (.done (.ret (.ref s.heap.objs.size))) { s with heap := s.heap.push (bndObj "method-wrapper" "list.__len__" x) }) :
    wpAny M A (Builtin.«wrapper_descriptor.__get__» ⟨[.builtin "list.__len__", .ref x, .ref C], []⟩) P E s := by
  unfold Builtin.«wrapper_descriptor.__get__»
  refine wpAny_bind (wpAny_of_eq (a := (.builtin "list.__len__", some (.ref x), some (.ref C))) (by first | rfl | kernel_rfl) ?_)
  show wpAny _ _ ((kfb_private% "checkInstance") (.builtin "list.__len__") (.ref x) >>= fun _ => newFields "method-wrapper" [.builtin "list.__len__", .ref x] >>= ret) _ _ _
  refine wpAny_bind ?_
  wp_delta
  refine wpAny_bind ?_
  wp_delta
  dsimp only
  rw [own_len]
  refine wpAny_pure (wpAny_bind (hi.here ?_))
  refine wpAny_pure (wpAny_bind (wpAny_newObj_type (wpAny_pure h)))
theorem run_pop {P : Fin → Shared → Prop} (hi : Looks M s.heap (isInstance (.ref x) (.type "list")) true) (h : P (.done (.ret (.ref s.heap.objs.size))) { s with heap := s.heap.push (bndObj "builtin_function_or_method" "list.pop" x) }) :
    wpAny M A (Builtin.«method_descriptor.__get__» ⟨[.builtin "list.pop", .ref x, .ref C], []⟩) P E s := by
  unfold Builtin.«method_descriptor.__get__»
  refine wpAny_bind (wpAny_of_eq (a := (.builtin "list.pop", some (.ref x), some (.ref C))) (by first | rfl | kernel_rfl) ?_)
  refine if_false_ told_pop ?_
  show wpAny _ _ ((kfb_private% "checkInstance") (.builtin "list.pop") (.ref x) >>= fun _ => newFields "builtin_function_or_method" [.builtin "list.pop", .ref x] >>= ret) _ _ _
  refine wpAny_bind ?_
  wp_delta
  refine wpAny_bind ?_
  wp_delta
  dsimp only
  rw [own_pop]
  refine wpAny_pure (wpAny_bind (hi.here ?_))
  refine wpAny_pure (wpAny_bind (wpAny_newObj_type (wpAny_pure h)))
end
theorem offLV : True := by
  w_top off
  exact True.intro
section
variable {prog : Program} {w : World} {A : Around} {E : Value → Shared → Prop} {h : Heap} {g : Array GenState} {d : Drawn} {t : Nat} {os : OsState}
theorem super_gaB {so D x C : Addr} {T0 gid T id : String} {l₀ l : List Value} {K : Frag} {name : Str} {tk : Tok} {Q : Fin → Shared → Prop}
    (hso : h.get? so = some { cls := .type "super", dict := none, data := .fields #[.ref D, .ref x, .ref C], slots := #[] }) (hno : Looks (model prog w) h (opaqueClassAbove (.ref C)) none)
    (hC : Looks (model prog w) h (mroOf (.ref C)) l₀) (hl : (l₀.dropWhile (· != .ref D)).drop 1 = l) (X : K.In h)
    (hf : alongIn K name l = some (some (.builtin id))) (hty : typeOf (.builtin id) = pure (.type T0)) (hlk : typeLookup (.type T0) "__get__" = pure (some (.builtin gid)))
    (hget : ∀ (A' : Around) (Q' E' : Value → Shared → Prop), Q' (.ref h.objs.size) ⟨h.push (bndObj T id x), g, d, t, os⟩ → wpAny (model prog w) A' (call (.builtin gid) [.builtin id, .ref x, .ref C]) Q' E' ⟨h, g, d, t, os⟩) (hxC : x ≠ C) (hn : (name == ("__class__" : Str)) = false)
    (hq : Q (.done (.ret (.ref h.objs.size))) ⟨h.push (bndObj T id x), g, d, t, os⟩) :
    wpAny (model prog w) A (Builtin.«super.__getattribute__» ⟨[.ref so, .str name tk], []⟩) Q E ⟨h, g, d, t, os⟩ := by
  have hne : (Value.ref x == Value.ref C) = false := by simp [hxC]
  have hdt : ({ cls := .type "super", dict := none, data := .fields #[.ref D, .ref x, .ref C], slots := #[] } : Obj).data = .fields #[.ref D, .ref x, .ref C] := rfl
  have f0 : (#[.ref D, .ref x, .ref C] : Array Value)[0]? = some (.ref D) := rfl
  have f1 : (#[.ref D, .ref x, .ref C] : Array Value)[1]? = some (.ref x) := rfl
  have f2 : (#[.ref D, .ref x, .ref C] : Array Value)[2]? = some (.ref C) := rfl
  unfold Builtin.«super.__getattribute__»
  repeat (first
    | (with_reducible refine wpAny_field hso hdt f0 ?_) | (with_reducible refine wpAny_field hso hdt f1 ?_) | (with_reducible refine wpAny_field hso hdt f2 ?_)
    | (with_reducible refine ks_wpAny_notOpaque hno ?_)
    | (with_reducible refine Looks.at hC ?_; rw [hl])
    | (refine ks_forIn_along X (fun _ _ => rfl) rfl ?_ hf)
    | (with_reducible refine wpAny_bind (wpAny_of_eq hty ?_))
    | (with_reducible refine wpAny_bind (wpAny_of_eq hlk ?_))
    | (with_reducible refine hget _ _ _ ?_)
    | (with_reducible refine ⟨_, rfl, ?_⟩)
    | (simp only [hn, hne, Bool.or_false, Bool.false_eq_true, if_false])
    | wp_step
    | dsimp only)
  all_goals exact hq
theorem getMethod_superB {so D x C : Addr} {T0 gid T id : String} {l₀ l : List Value} {K : Frag} {name : Str} {pl : Sem Bool} {Q : Value × List Value → Shared → Prop}
    (hso : h.get? so = some { cls := .type "super", dict := none, data := .fields #[.ref D, .ref x, .ref C], slots := #[] }) (hno : Looks (model prog w) h (opaqueClassAbove (.ref C)) none)
    (hC : Looks (model prog w) h (mroOf (.ref C)) l₀) (hl : (l₀.dropWhile (· != .ref D)).drop 1 = l) (X : K.In h)
    (hf : alongIn K name l = some (some (.builtin id))) (hty : typeOf (.builtin id) = pure (.type T0)) (hlk₀ : typeLookup (.type T0) "__get__" = pure (some (.builtin gid)))
    (hget : ∀ (t' : Nat) (A' : Around) (Q' E' : Value → Shared → Prop), Q' (.ref h.objs.size) ⟨h.push (bndObj T id x), g, d, t', os⟩ → wpAny (model prog w) A' (call (.builtin gid) [.builtin id, .ref x, .ref C]) Q' E' ⟨h, g, d, t', os⟩) (hxC : x ≠ C) (hn : (name == ("__class__" : Str)) = false)
    (hq : Q (.ref h.objs.size, []) ⟨h.push (bndObj T id x), g, d, t + 1, os⟩) :
    wpAny (model prog w) A (getMethod (.ref so) name pl) Q E ⟨h, g, d, t, os⟩ := by
  have hlk := F.ks_slot_super_ga.lookup
  have hcan := F.ks_canon_super_ga
  have hT : ∀ t', (⟨h, g, d, t', os⟩ : Shared).TypeIs (.ref so) "super" := fun _ => ⟨_, hso, rfl⟩
  unfold getMethod
  refine wpAny_bind (wpAny_specialOf (hT _) hlk ?_)
  show wpAny _ _ (if (Manifest.canonical "super.__getattribute__" != "object.__getattribute__") = true then _ else _) _ _ _
  rw [if_pos hcan]
  unfold getAttr getAttrBy
  refine wpAny_bind (wpAny_bind (wpAny_mkText (wpAny_holding (wpAny_bind (wpAny_typeOf (hT _) (wpAny_bind (wpAny_of_eq hlk ?_)))))))
  show wpAny _ _ (getAttrByItsOwn (.ref so) (.str name t) (.type "super") (.builtin "super.__getattribute__") true false) _ _ _
  unfold getAttrByItsOwn hookBefore callGetattribute boundAndCalled
  refine wpAny_bind (wpAny_of_eq (show (if onTheHeap (.type "super") then typeLookup (.type "super") "__getattr__" else pure none) = pure none from rfl) ?_)
  refine wpAny_bind (wpAny_attempt (wpAny_holding ?_))
  show wpAny _ _ (bindSpecial (.builtin "super.__getattribute__") (.ref so) >>= _) _ _ _
  refine wpAny_bind (wpAny_of_eq (F.ks_slot_super_ga.bind _) ?_)
  refine wpAny_mono (Q := fun v s' => v = .ref h.objs.size ∧ s' = ⟨h.push (bndObj T id x), g, d, t + 1, os⟩) (E := fun _ _ => False)
    (wpAny_call_entry F.ks_slot_super_ga (hT _) F.ks_entry_super_ga (super_gaB hso hno hC hl X hf hty hlk₀ (hget _) hxC hn ⟨_, rfl, rfl, rfl⟩) (F.ks_gaArgs_super _ _)) (fun v s' hv => ?_) fun _ _ z => z.elim
  obtain ⟨rfl, rfl⟩ := hv
  exact wpAny_pure (wpAny_pure hq)
end
theorem offCQ : True := by
  w_top off
  exact True.intro
section
variable {prog : Program} {w : World} {A : Around} {E : Value → Shared → Prop} {s : Shared}
/-- behind a comprehension that is assigned to a local -/
theorem compPost_some {env : Env} {y : Str} {py : Pos} {Q : Value → Shared → Prop} {g h : Heap} {C D : Addr} {m mC : Str → Option Value} {oC oD : Obj} {news : List (Addr × Obj)} {tk : Nat} (F : Fr g env.locals h m) (N : News g env.locals h ((C, oC) :: (D, oD) :: news)) (hO : NsObj oC mC) (hDC : @LT.lt Nat _ D C) (hne : ∀ p ∈ news, p.1 ≠ C)
    (hk : env.scope.kind = .function) (hy : env.kindOf y = some .local)
    (hQ : ∀ h' tk', Fr g env.locals h' (fun z => if z = y then some (.ref D) else m z) → News g env.locals h' ((D, oD) :: news) → Q .none { s with heap := h', toks := tk' }) : compPost (model prog w) A E (some (assign (.Name y py) env)) Q (.ref D) C (.ok .next) { s with heap := h, toks := tk } := by
  show wpAny _ A (assign (.Name y py) env (.ref D)) _ _ _
  refine assign_local F N hk hy fun h2 F2 N2 => ?_
  refine ⟨mC, hO _ _ (N2 _ (.head _)).1, fun h' hs => ?_⟩
  obtain ⟨F', N'⟩ := sameBut_fr F2 N2 (List.forall_mem_cons.mpr ⟨Nat.ne_of_lt hDC, hne⟩) hs
  exact hQ h' _ F' N'
theorem exec_assign_comp {Q : Flow → Shared → Prop} {elt target iter : Expr} {y : Str} {py spos : Pos} {scope : Scope} {pos : Pos} {env : Env} {cl : List (Str × Addr)}
    (hsw : swapsWith (.ListComp elt [⟨target, iter, [], 0⟩] scope pos) (some (.Name y py)) spos.line env = pure true)
    (hclos : closureFor scope env = pure cl) (hkind : scope.kind = .function) (hnames : ∀ x ∈ scope.names, x.2 = .local → scope.names.lookup x.1 = some .local)
    (h : wpAny (model prog w) A (eval iter env) (fun x s₁ => wpAny (model prog w) A (pyIter x) (fun it s₂ => wpAny (model prog w) A (newList []) (fun acc s₃ => wpAny (model prog w) A (newFunctionEnv scope env.globals cl [] env.qual none .none (some env)) (fun cenv s₄ =>
      codeAny (model prog w) A (.compStart (.ListComp elt [⟨target, iter, [], 0⟩] scope pos) 0 it acc { cenv with scope := relabel scope env }) (compPost (model prog w) A E (some (assign (.Name y py) env)) (fun _ s' => Q .next s') acc cenv.locals) s₄) E s₃) E s₂) E s₁) E s)
    (hs : ∀ x, foldedSetIterable iter env x = pure x := by intro _; rfl) :
    wpAny (model prog w) A (exec (.Assign [.Name y py] (.ListComp elt [⟨target, iter, [], 0⟩] scope pos) spos) env) Q E s := by
  rw [exec_Assign_Name_used _ _ _ _ hsw]
  refine wpAny_bind (wpAny_standAt (wpAny_bind ?_))
  show wpAny _ A (do let _ ← comprehension (.ListComp elt [⟨target, iter, [], 0⟩] scope pos) scope env _ (newList []) false (eval iter env) (some (assign (.Name y py) env))) _ _ s
  exact wpAny_bind (wpAny_mono (wpAny_comprehension_free (use := some (assign (.Name y py) env)) (Q := fun _ s' => Q .next s') rfl hs hclos hkind hnames h) (fun _ s' hq => wpAny_pure (wpAny_pure hq)) fun _ _ e => e)
/-- over what an iterator of its own hands on, with one name for the item -/
theorem comp_walk {use : Option (Value → Sem Unit)} {Q : Value → Shared → Prop} {elt iter : Expr} {x : Str} {px : Pos} {scope : Scope} {pos : Pos} {cl : List (Str × Addr)} {env : Env} {I L : Addr} {g : Heap} {m : Str → Option Value} {fp : List Addr} {n : Nat} {P : Nat → Value → Prop} {St : Nat → Heap → Prop} {side news : List (Addr × Obj)} {oI : Obj}
    (hcell : ∀ y ∈ scope.names, y.2 ≠ .cell) (hkind : scope.kind = .function) (hx : scope.names.lookup x = some .local) (F : Fr g L s.heap m) (N : News g L s.heap ((I, oI) :: news)) (hneI : ∀ p ∈ news, p.1 ≠ I)
    (W : Walks prog w A I fp [I] n P St) (hst : St 0 s.heap) (hSt : ∀ i h, St i h → ∃ o, h.get? I = some o) (hfp : ∀ b ∈ fp, b = I ∨ (∃ o, (b, o) ∈ side) ∨ ∃ o, g.get? b = some o) (hsd : ∀ p ∈ side, p ∈ news) (hn : n ≤ 1000000) (J : Nat → List Value → List (Addr × Obj) → Prop) (h0 : J 0 [] news)
    (turn : ∀ C D, (∀ p ∈ (I, oI) :: news, p.1 < D) → @LT.lt Nat _ D C → ∀ i vals nws h tk oC oI (mC : Str → Option Value) nn v E', i < n → P i v → J i vals nws → Fr g L h m → News g L h ((C, oC) :: (I, oI) :: (D, listOf vals.toArray nn) :: nws) → NsObj oC (fun y => if y = x then some v else mC y) → (∀ p ∈ nws, p.1 ≠ C ∧ p.1 ≠ I ∧ p.1 ≠ D) → (∀ p ∈ side, p ∈ nws) →
      wpAny (model prog w) A (eval elt (compEnvC scope cl C env)) (CEnd g L C I D oI vals nn m side (J (i + 1)) s) E' { s with heap := h, toks := tk })
    (done : ∀ C D, (∀ p ∈ (I, oI) :: news, p.1 < D) → @LT.lt Nat _ D C → ∀ vals nws h tk oC mC nn, J n vals nws → vals.length = n → Fr g L h m → News g L h ((C, oC) :: (D, listOf vals.toArray nn) :: nws) → NsObj oC mC → (∀ p ∈ nws, p.1 ≠ C ∧ p.1 ≠ I ∧ p.1 ≠ D) →
      compPost (model prog w) A E use Q (.ref D) C (.ok .next) { s with heap := h, toks := tk }) :
    wpAny (model prog w) A (newList []) (fun acc s₃ => wpAny (model prog w) A (newFunctionEnv scope env.globals cl [] env.qual none .none (some env)) (fun cenv s₄ =>
      codeAny (model prog w) A (.compStart (.ListComp elt [⟨.Name x px, iter, [], 0⟩] scope pos) 0 (.ref I) acc { cenv with scope := relabel scope env }) (compPost (model prog w) A E use Q acc cenv.locals) s₄) E s₃) E s := by
  have hkC : ∀ C, (compEnvC scope cl C env).scope.kind = .function := fun C => by simp [compEnvC, relabel, hkind]
  refine comp_block (s := s) (target := .Name x px) hcell hkind F N hneI W hst hSt hfp hsd hn J h0 ?_ done
  intro C D hD hDC i vals nws h tk oC oI' mC nn v E' hi hP hJ F1 N1 hO hne hsd'
  refine wpAny_of_eq rfl (comp_assign F1 N1 ?_ hO rfl (hkC C) (lookup_relabel_local hx) fun oC' h' F2 N2 hO2 => ?_)
  · have hI := hD _ (.head _)
    exact List.forall_mem_cons.mpr ⟨Nat.ne_of_lt (Nat.lt_trans hI hDC), List.forall_mem_cons.mpr ⟨Nat.ne_of_lt hDC, fun p hp => (hne p hp).1⟩⟩
  · exact turn C D hD hDC i vals nws h' _ oC' oI' mC nn v E' hi hP hJ F2 N2 hO2 hne hsd'
theorem list_st {I l : Addr} {its : Array Value} {i : Nat} {h : Heap} (st : h.IsListIter I l i ∧ h.IsList l its) : ∃ o, h.get? I = some o := by obtain ⟨o, e, _⟩ := st.1; exact ⟨o, e⟩
/-- over a list -/
theorem comp_list {use : Option (Value → Sem Unit)} {Q : Value → Shared → Prop} {elt iter : Expr} {x : Str} {px : Pos} {scope : Scope} {pos : Pos} {cl : List (Str × Addr)} {env : Env} {l L : Addr} {g : Heap} {m : Str → Option Value} {its : List Value} {nl : Nat} {news : List (Addr × Obj)}
    (hA : A.handled = none) (hcell : ∀ y ∈ scope.names, y.2 ≠ .cell) (hkind : scope.kind = .function) (hx : scope.names.lookup x = some .local) (hm : (l, listOf its.toArray nl) ∈ news) (hn : its.length ≤ 1000000)
    (F : Fr g L s.heap m) (N : News g L s.heap news) (J : Nat → List Value → List (Addr × Obj) → Prop) (h0 : J 0 [] news)
    (turn : ∀ C D I, (∀ p ∈ news, p.1 < I) → @LT.lt Nat _ I D → @LT.lt Nat _ D C → ∀ i vals nws h tk oC oI (mC : Str → Option Value) nn v E', i < its.length → its[i]? = some v → J i vals nws → Fr g L h m → News g L h ((C, oC) :: (I, oI) :: (D, listOf vals.toArray nn) :: nws) → NsObj oC (fun y => if y = x then some v else mC y) → (∀ p ∈ nws, p.1 ≠ C ∧ p.1 ≠ I ∧ p.1 ≠ D) → (l, listOf its.toArray nl) ∈ nws →
      wpAny (model prog w) A (eval elt (compEnvC scope cl C env)) (CEnd g L C I D oI vals nn m [(l, listOf its.toArray nl)] (J (i + 1)) s) E' { s with heap := h, toks := tk })
    (done : ∀ C D, (∀ p ∈ news, p.1 < D) → @LT.lt Nat _ D C → ∀ vals nws h tk oC mC nn, J its.length vals nws → vals.length = its.length → Fr g L h m → News g L h ((C, oC) :: (D, listOf vals.toArray nn) :: nws) → NsObj oC mC → (∀ p ∈ nws, p.1 ≠ C ∧ p.1 ≠ D) →
      compPost (model prog w) A E use Q (.ref D) C (.ok .next) { s with heap := h, toks := tk }) :
    wpAny (model prog w) A (pyIter (.ref l)) (fun it s₂ => wpAny (model prog w) A (newList []) (fun acc s₃ => wpAny (model prog w) A (newFunctionEnv scope env.globals cl [] env.qual none .none (some env)) (fun cenv s₄ =>
      codeAny (model prog w) A (.compStart (.ListComp elt [⟨.Name x px, iter, [], 0⟩] scope pos) 0 it acc { cenv with scope := relabel scope env }) (compPost (model prog w) A E use Q acc cenv.locals) s₄) E s₃) E s₂) E s := by
  have hl : s.heap.IsList l its.toArray := ⟨_, (N _ hm).1, rfl, nl, rfl⟩
  have hlt : ∀ p ∈ news, p.1 < s.heap.objs.size := fun p hp => Heap.lt_size (N p hp).1
  refine wpAny_pyIter_list hl ?_
  refine comp_walk (s := { s with heap := s.heap.push _ }) (n := its.length) (side := [(l, listOf its.toArray nl)]) hcell hkind hx (F.push _) (N.push F _) (fun p hp => Nat.ne_of_lt (hlt p hp)) (fp := [s.heap.objs.size, l]) (P := fun i v => its.toArray[i]? = some v) (St := fun i h => h.IsListIter s.heap.objs.size l i ∧ h.IsList l its.toArray) (Walks.list hA s.heap.objs.size l (Nat.ne_of_lt (hlt _ hm)) its.toArray)
    ⟨⟨_, Heap.get?_push_size _ rfl, rfl, rfl⟩, hl.push _⟩ (fun i h st => list_st st) (fun b hb => ?_) (fun p hp => by simp at hp; subst hp; exact hm) hn J h0 ?_ ?_
  · simp only [List.mem_cons, List.not_mem_nil, or_false] at hb
    rcases hb with rfl | rfl
    · exact .inl rfl
    · exact .inr (.inl ⟨_, .head _⟩)
  · intro C D hD hDC i vals nws h tk oC oI' mC nn v E' hi hP hJ F1 N1 hO hne hsd'
    exact turn C D _ hlt (hD _ (.head _)) hDC i vals nws h tk oC oI' mC nn v E' hi (by simpa using hP) hJ F1 N1 hO hne (hsd' _ (.head _))
  · intro C D hD hDC vals nws h tk oC mC nn hJ hl' F1 N1 hO hne
    exact done C D (fun p hp => hD p (.tail _ hp)) hDC vals nws h tk oC mC nn hJ hl' F1 N1 hO fun p hp => ⟨(hne p hp).1, (hne p hp).2.2⟩
end
theorem offLX2 : True := by
  w_top off
  exact True.intro
section
variable {prog : Program} {w : World} {A : Around} {E : Value → Shared → Prop} {s : Shared}
theorem call_bnd {q x : Addr} {T id : String} {args : List Value} {B : Builtin} {Q : Value → Shared → Prop} (hq : s.heap.get? q = some (bndObj T id x)) (hT : (Value.type T == .type "method" || Value.type T == .type "builtin_function_or_method" || Value.type T == .type "method-wrapper") = true) (hm : (Value.type T != .type "method") = true)
    (hck : Looks (model prog w) s.heap (checkBoundCall id ⟨.ref x :: args, []⟩) ()) (hp : plainId id = true) (he : entryFor table id = some B)
    (h : wpAny (model prog w) A.in1 (B ⟨.ref x :: args, []⟩) (fun fin s' => match fin with | .done f => (match (.ok f : Result) with | .ok (.ret v) => Q v s' | .ok _ => False | .error e => E e s') | .again c' => c'.quiet = true ∧ codeAny (model prog w) A c' (fun r s' => match r with | .ok (.ret v) => Q v s' | .ok _ => False | .error e => E e s') s') (fun e s' => E e s') s) :
    wpAny (model prog w) A (call (.ref q) args) Q E s := by
  refine wpAny_call (codeAny_of_tree ?_)
  show wpAny _ A.in1 (callAny (.ref q) ⟨args, []⟩) _ _ s
  simp only [callAny]
  refine wpAny_bind (wpAny_load hq ?_)
  simp only [hT, hm, if_true]
  refine wpAny_bind (hck.here ?_)
  refine wpAny_bind (wpAny_pure (wpAny_pure ?_))
  refine ⟨plainId_quiet hp _, codeAny_builtin he ?_⟩
  rw [Around.under_plainId hp _]
  exact h
theorem bc_slot {M : Model} {h : Heap} {id : String} {args : Args} (hk : builtinKind id = some .slot) (ha : argsOk id args) : Looks M h (checkBoundCall id args) () := by
  refine Looks.of_pure ?_
  unfold checkBoundCall
  unfold argsOk at ha
  cases z : Manifest.signature? id with
  | none => rfl
  | some sig =>
    rw [z] at ha
    have ha' : Bind.checkArgs id sig args = pure () := ha
    cases y : args.pos with
    | nil => simp only [hk, y]; exact ha'
    | cons a r => simp only [hk, y]; exact ha'
end
theorem offLX3 : True := by
  w_top off
  exact True.intro
section
variable {prog : Program} {w : World} {A : Around} {E : Value → Shared → Prop} {s : Shared} {h₀ : Heap} {L : Addr} {m : Str → Option Value} {news news' : List (Addr × Obj)} {x dx C : Addr} {its : Array Value} {n : Nat}
theorem seq_upd {f : Array Value → Array Value} {n2 : Nat} {Q : Unit → Shared → Prop} (F : Fr h₀ L s.heap m) (N : News h₀ L s.heap news) (U : Upd x (lobj C dx its n) (lobj C dx (f its) n2) news news')
    (h : ∀ h', Fr h₀ L h' m → News h₀ L h' news' → h'.get? x = some (lobj C dx (f its) n2) → Q () { s with heap := h' }) (hz : its.size ≤ 1000000) (hz' : (f its).size ≤ 1000000) (he : Obj.mapSeq f (lobj C dx its n) = lobj C dx (f its) n2) : wpAny (model prog w) A (updateSeq x f) Q E s := by
  obtain ⟨pre, post, rfl, rfl, a, b⟩ := U.split
  have z := N (x, lobj C dx its n) (List.mem_append.mpr (.inr (.head _)))
  have e : (s.heap.update x (Obj.mapSeq f)).get? x = some (lobj C dx (f its) n2) := by
    rw [Heap.get?_update_self _ z.1 (by rw [he]; rfl)]
    exact congrArg some he
  exact wpAny_updateSeq z.1 rfl (h _ (F.change (Heap.SameBut.update ..) z.2.1 z.2.2) (news_set N a b (Heap.SameBut.update ..) e) e) (by rw [sizeLine_eq]; omega) (by rw [sizeLine_eq]; omega)
end
theorem offLX4 : True := by
  w_top off
  exact True.intro
section
variable {prog : Program} {w : World} {A : Around} {E : Value → Shared → Prop} {s : Shared} {h₀ : Heap} {L : Addr} {m : Str → Option Value} {news news' : List (Addr × Obj)} {x q dx C : Addr} {n : Nat}
set_option maxRecDepth 100000 in
set_option maxHeartbeats 4000000 in
theorem call_init {Q : Value → Shared → Prop} (F : Fr h₀ L s.heap m) (N : News h₀ L s.heap news) (hq : (q, bndObj "method-wrapper" "list.__init__" x) ∈ news) (hx : (x, lobj C dx #[] n) ∈ news) (U : Upd x (lobj C dx #[] n) (lobj C dx #[] n) news news')
    (h : ∀ h', Fr h₀ L h' m → News h₀ L h' news' → Q .none { s with heap := h' }) : wpAny (model prog w) A (call (.ref q) []) Q E s := by
  refine call_bnd (N.get hq) (by decide) (by decide) (bc_slot (by decide +kernel) (PySem.F.args_list_init_1 _)) (by decide +kernel) PySem.F.entry_list_init ?_
  show wpAny _ A.in1 (do let old ← Builtin.List.listItems (.ref x); Builtin.List.listUpdate (.ref x) (fun _ => #[]); letGo old.toList.reverse; ret .none) _ _ s
  refine wpAny_bind ?_
  unfold Builtin.List.listItems
  refine wpAny_bind (wpAny_seqItems (N.get hx) rfl (wpAny_pure ?_))
  show wpAny _ A.in1 (updateSeq x (fun _ => #[]) >>= fun _ => letGo (#[] : Array Value).toList.reverse >>= fun _ => ret .none) _ _ s
  refine wpAny_bind (seq_upd (f := fun _ => #[]) F N U (fun h' F' N' _ => ?_) (by decide) (by decide) (by simp [Obj.mapSeq]))
  exact wpAny_bind (wpAny_letGo (wpAny_pure (h h' F' N')))
set_option maxRecDepth 100000 in
set_option maxHeartbeats 4000000 in
theorem call_len {its : Array Value} {Q : Value → Shared → Prop} (N : News h₀ L s.heap news) (hq : (q, bndObj "method-wrapper" "list.__len__" x) ∈ news) (hx : (x, lobj C dx its n) ∈ news)
    (h : Q (.int (its.size : Int) s.toks) { s with toks := s.toks + 1 }) : wpAny (model prog w) A (call (.ref q) []) Q E s := by
  refine call_bnd (N.get hq) (by decide) (by decide) (bc_slot (by decide +kernel) (PySem.F.args_list_len_1 _)) (by decide +kernel) PySem.F.entry_list_len ?_
  show wpAny _ A.in1 (do retInt (← seqSize x)) _ _ s
  unfold seqSize
  refine wpAny_bind (wpAny_bind (wpAny_loadPart (N.get hx) (wpAny_pure ?_)))
  show wpAny _ _ (mkInt _ >>= ret) _ _ _
  exact wpAny_bind (wpAny_mkInt (wpAny_pure h))
end
theorem offLX5 : True := by
  w_top off
  exact True.intro
theorem sg_pop : Manifest.signature? "list.pop" = some ⟨.positional, "list.pop", "pop", .self, [⟨"index", .posOnly, false⟩]⟩ := by
  rw [signature?_of (id := "list.pop") (n := ['p', 'o', 'p']) (o := ['t', 's', 'i', 'l']) (by kernel_rfl) PySem.F.owner_list]; kernel_rfl
section
variable {x C : Addr} {K : Frag}
theorem bc_pop {M : Model} {h : Heap} {cd : ClassData} {ox : Obj} {od : Option Obj} (X : K.In h) (I : InstAt h x ox C od) (hc : clsIn K C = some cd) (hq : cd.qualname = "_Accumulator") (ht : typeIn K (.ref C) = some (.type "type")) (hmo : subIn K (.ref C) (.type "module") = some false) :
    Looks M h (checkBoundCall "list.pop" ⟨[.ref x], []⟩) () := by
  have kd : builtinKind "list.pop" = some .method := by decide +kernel
  have va : Manifest.varargsMethods.contains "list.pop" = false := by decide +kernel
  have t1 : Looks M h (typeOf (.ref x)) (.ref C) := I.type
  have t2 : Looks M h (typeOf (.ref C)) (.type "type") := looks_typeIn X ht
  have t3 : Looks M h (classData C) cd := looks_clsIn X hc
  unfold checkBoundCall
  rw [sg_pop]
  simp only [kd, va]
  have t4 : Looks M h (isInstance (.ref x) (.type "module")) false := t1.andThen (looks_subIn X hmo)
  have t5 : Looks M h (isType (.ref x)) false := fun A Q E s k q => by
    obtain ⟨hh, g, d, t, os⟩ := s
    refine ks_wpAny_isType_inst (k _ _ I.at_) (fun c e => ?_) q
    have := I.no
    unfold notCls at this
    rw [e] at this
    exact Bool.noConfusion this
  have ca : Bind.checkArgs "list.pop" ⟨.positional, "_Accumulator.pop", "pop", .self, [⟨"index", .posOnly, false⟩]⟩ ⟨[.ref x], []⟩ = pure () := by kernel_rfl
  refine Looks.andThen t4 ?_
  refine Looks.andThen t5 ?_
  refine Looks.andThen t1 ?_
  refine Looks.andThen t3 ?_
  refine Looks.andThen t2 ?_
  have e : (toString cd.qualname.toString ++ toString "." ++ toString (Bind.lastOf "list.pop") : String) = "_Accumulator.pop" := by rw [hq]; decide +kernel
  rw [e]
  exact Looks.of_pure ca
end
theorem offLX6 : True := by
  w_top off
  exact True.intro
section
variable {prog : Program} {w : World} {A : Around} {E : Value → Shared → Prop} {s : Shared} {h₀ : Heap} {L : Addr} {m : Str → Option Value} {news news' : List (Addr × Obj)} {x q dx C : Addr} {n : Nat}
set_option maxRecDepth 100000 in
set_option maxHeartbeats 4000000 in
theorem call_pop {p : List Value} {y : Value} {Q : Value → Shared → Prop} (F : Fr h₀ L s.heap m) (N : News h₀ L s.heap news) (hq : (q, bndObj "builtin_function_or_method" "list.pop" x) ∈ news) (hx : (x, lobj C dx (p ++ [y]).toArray n) ∈ news)
    (hck : Looks (model prog w) s.heap (checkBoundCall "list.pop" ⟨[.ref x], []⟩) ()) (U : Upd x (lobj C dx (p ++ [y]).toArray n) (lobj C dx p.toArray (n + 1)) news news') (hz : p.length ≤ 100000)
    (h : ∀ h', Fr h₀ L h' m → News h₀ L h' news' → Q y { s with heap := h' }) : wpAny (model prog w) A (call (.ref q) []) Q E s := by
  refine call_bnd (N.get hq) (by decide) (by decide) hck (by decide +kernel) PySem.F.entry_list_pop ?_
  unfold Builtin.«list.pop»
  refine wpAny_bind (wpAny_of_eq (a := (.ref x, [])) (by first | rfl | kernel_rfl) ?_)
  have hk : (seqIndex? (-1) (p ++ [y]).toArray.size).bind (fun k => (p ++ [y]).toArray[k]?.map fun z => (k, z)) = some (p.length, y) := by
    have e1 : (p ++ [y]).toArray.size = p.length + 1 := by simp
    have e2 : seqIndex? (-1) (p.length + 1) = some p.length := by unfold seqIndex?; simp; omega
    rw [e1, e2]
    simp
  have hem : ((p ++ [y]).toArray.isEmpty) = false := by simp
  have her : (p ++ [y]).toArray.eraseIdxIfInBounds p.length = p.toArray := kl_erase p [] y |>.trans (by simp)
  dsimp only
  refine wpAny_bind (wpAny_pure ?_)
  refine if_false_ (by decide +kernel) ?_
  refine wpAny_bind (wpAny_bind (wpAny_seqItems (N.get hx) rfl (wpAny_pure ?_)))
  refine if_false_ hem ?_
  rw [hk]
  show wpAny _ _ (updateSeq x (fun z => z.eraseIdxIfInBounds p.length) >>= fun _ => ret y) _ _ _
  refine wpAny_bind (seq_upd (f := fun z => z.eraseIdxIfInBounds p.length) (n2 := n + 1) F N (by rw [her]; exact U) (fun h' F' N' _ => ?_) (by simp; omega) (by rw [her]; simp; omega) ?_)
  · exact wpAny_pure (h h' F' N')
  · simp [Obj.mapSeq, her]
end
theorem offLX7 : True := by
  w_top off
  exact True.intro
noncomputable def listOver (K : Frag) (C : Addr) : Bool := (clsIn K C).any fun cd => cd.mro == [.ref C, .type "list", .type "object"]
theorem refuse_L (self : Value) (C : Addr) : refuseLoop self "__setattr__" [.ref C, .type "list", .type "object"] = pure () := by
  rw [refuseLoop_ref]
  first | kernel_rfl | rfl
section
variable {prog : Program} {w : World} {A : Around} {K : Frag} {C x dx : Addr} {s : Shared} {h₀ : Heap} {L : Addr} {m : Str → Option Value} {news : List (Addr × Obj)} {news' : Tok → List (Addr × Obj)}
set_option maxRecDepth 100000 in
set_option maxHeartbeats 4000000 in
/-- the first store of a field into an object of a class over list -/
theorem set_firstL {E : Value → Shared → Prop} {name : Str} {v : Value} {its : Array Value} {n : Nat} {Q : Unit → Shared → Prop} (F : Fr h₀ L s.heap m) (N : News h₀ L s.heap news) (X : K.In s.heap) (hx : (x, lobj C dx its n) ∈ news) (hdx : (dx, emptyDict) ∈ news)
    (hs : findIn K (.ref C) "__setattr__" = some (some (.builtin "object.__setattr__"))) (hp : listOver K C = true) (ht : takerIn K C name = some none) (hdct : (clsIn K C).any (·.hasDict) = true)
    (U : ∀ t : Tok, Upd dx emptyDict (dictOf [⟨PyData.keyHash w.params name, .str name t, v⟩] 1) news (news' t))
    (h : ∀ (t : Tok) h' k, Fr h₀ L h' m → News h₀ L h' (news' t) → Q () { s with heap := h', toks := k }) :
    wpAny (model prog w) A (setAttr (.ref x) name v) Q E s := by
  obtain ⟨hh, g, d, tk, os⟩ := s
  dsimp only at *
  have I : InstAt hh x (lobj C dx its n) C (some emptyDict) := ⟨N.get hx, rfl, rfl, N.get hdx⟩
  refine set_plain X I hs ?_
  have SF := PySem.F.store_object
  obtain ⟨cd, hc, ho⟩ := any_some hp
  have ho : cd.mro = [.ref C, .type "list", .type "object"] := eq_of_beq ho
  have sub : Looks (model prog w) hh (isInstance (.ref x) (.type "object")) true := I.type.andThen (looks_mroIn X (by unfold mroIn; rw [hc, Option.bind_some, ho]; simp))
  refine codeAny_call_builtin SF.slot.plain SF.entry (@check_slot (model prog w) _ _ _ "object.__setattr__" "object" "__setattr__" (.ref x) [.str name tk, v] [] _ SF.kind SF.split sub (SF.args (.ref x) (.str name tk) v) ?_)
  obtain ⟨attr, ha, hr⟩ := Option.bind_eq_some_iff.mp ht
  have hm : Looks (model prog w) hh (mroOf (.ref C)) cd.mro := (looks_clsIn X hc).andThen .now
  have L3 : Looks (model prog w) hh (Builtin.ObjectAttr.storeTaker? attr) none := by
    cases attr with
    | none => exact .now
    | some a =>
      obtain ⟨b, hb, hb2⟩ := Option.map_eq_some_iff.mp hr
      refine (looks_takesIn X hb).andThen ?_
      cases b
      · exact .now
      · cases hb2
  rw [osa_eq, refuse_eq]
  refine wpAny_bind (wpAny_bind (I.type.here (wpAny_bind (hm.here ?_))))
  rw [ho, refuse_L]
  refine wpAny_pure (wpAny_bind (I.type.here (wpAny_bind ((looks_findIn X ha).here (wpAny_bind (L3.here ?_))))))
  obtain ⟨pre, post, e1, e2, h1, h2⟩ := (U (tk + 1)).split
  subst e1
  have Nn := N
  have eo : Obj.putName name (PyData.keyHash w.params name) (.str name (tk + 1)) v emptyDict = dictOf [⟨PyData.keyHash w.params name, .str name (tk + 1), v⟩] 1 := by first | rfl | (with_unfolding_all rfl) | kernel_rfl
  obtain ⟨U1, U2⟩ := news_upd (f := Obj.putName name (PyData.keyHash w.params name) (.str name (tk + 1)) v) F N h1 h2 eo rfl
  have D := (N (dx, emptyDict) (by simp)).1
  have D' := (U2 (dx, _) (List.mem_append.mpr (.inr (.head _)))).1
  obtain ⟨cd2, hc2, hd2⟩ := any_some hdct
  have hxx := (N _ hx).1
  refine wpAny_bind (wpAny_pure (wpAny_bind (wpAny_bind (wpAny_loadPart hxx (wpAny_bind ((looks_clsIn X hc2).here ?_))))))
  rw [hd2]
  refine wpAny_pure (a := some dx) (wpAny_bind (wpAny_pure (wpAny_bind ?_)))
  unfold nsSet
  refine wpAny_bind (wpAny_bind (wpAny_askSetting (wpAny_pure (wpAny_bind (wpAny_mkText (wpAny_bind (wpAny_loadPart D ?_)))))))
  refine if_false_ (by first | rfl | kernel_rfl | (rw [aRefKeyMayBeTheName_at]; rfl)) ?_
  refine wpAny_updatePart D ?_
  refine wpAny_bind (wpAny_lookBehind D' (by exact pastItsLine_dict (by simp [sizeLine_eq])) ?_)
  exact wpAny_pure (h (tk + 1) _ _ U1 (by rw [e2]; exact U2))
end
theorem offLA1 : True := by
  w_top off
  exact True.intro
theorem acc_makes (P : Params) : makesInL (frag.heap_1 P) 109 = true := by kernel_rfl
theorem acc_init (P : Params) : findIn (frag.heap_1 P) (.ref 109) "__init__" = some (some (.ref 46)) := by kernel_rfl
theorem acc_initT (P : Params) : typeIn (frag.heap_1 P) (.ref 46) = some (.type "function") := by kernel_rfl
theorem acc_setattr (P : Params) : findIn (frag.heap_1 P) (.ref 109) "__setattr__" = some (some (.builtin "object.__setattr__")) := by kernel_rfl
theorem acc_over (P : Params) : listOver (frag.heap_1 P) 109 = true := by kernel_rfl
theorem acc_taker (P : Params) : takerIn (frag.heap_1 P) 109 "_initial_size" = some none := by kernel_rfl
theorem acc_dict (P : Params) : (clsIn (frag.heap_1 P) 109).any (·.hasDict) = true := by kernel_rfl
theorem acc_sup_init (P : Params) : ks_superIn (frag.heap_1 P) 109 109 "__init__" = some (some (.builtin "list.__init__")) := by kernel_rfl
theorem acc_sup_len (P : Params) : ks_superIn (frag.heap_1 P) 109 109 "__len__" = some (some (.builtin "list.__len__")) := by kernel_rfl
theorem acc_sup_pop (P : Params) : ks_superIn (frag.heap_1 P) 109 109 "pop" = some (some (.builtin "list.pop")) := by kernel_rfl
theorem offLX8 : True := by
  w_top off
  exact True.intro
section
variable {prog : Program} {w : World} {A : Around} {E : Value → Shared → Prop} {s : Shared} {h₀ : Heap} {L : Addr} {m mg mb : Str → Option Value} {news : List (Addr × Obj)} {K : Frag} {x C D so : Addr} {ox : Obj} {odx : Option Obj}
theorem superL {T0 gid T id : String} {name : Str} {pl : Sem Bool} {Q : Value × List Value → Shared → Prop} (F : Fr h₀ L s.heap m) (X₀ : K.In h₀) (N : News h₀ L s.heap news) (hso : (so, ks_superObj D x C) ∈ news) (I : InstAt s.heap x ox C odx) (ho : nsIn K cStatics "thirdparty.any" = some none)
    (hm : ks_superIn K C D name = some (some (.builtin id))) (hty : typeOf (.builtin id) = pure (.type T0)) (hlk : typeLookup (.type T0) "__get__" = pure (some (.builtin gid))) (hn : (name == ("__class__" : Str)) = false)
    (hli : subIn K (.ref C) (.type "list") = some true)
    (hget : ∀ (s' : Shared) (A' : Around) (Q' E' : Value → Shared → Prop), Looks (model prog w) s'.heap (isInstance (.ref x) (.type "list")) true → Q' (.ref s'.heap.objs.size) { s' with heap := s'.heap.push (bndObj T id x) } → wpAny (model prog w) A' (call (.builtin gid) [.builtin id, .ref x, .ref C]) Q' E' s')
    (h : ∀ q h', Fr h₀ L h' m → News h₀ L h' ((q, bndObj T id x) :: news) → (∀ p ∈ news, p.1 < q) → Q (.ref q, []) { s with heap := h', toks := s.toks + 1 }) : wpAny (model prog w) A (getMethod (.ref so) name pl) Q E s := by
  have X : K.In s.heap := X₀.keeps F.keep
  have hinst : Looks (model prog w) s.heap (isInstance (.ref x) (.type "list")) true := I.type.andThen (looks_subIn X hli)
  obtain ⟨hh, g, d, t, os⟩ := s
  cases hc : clsIn K C with
  | none => unfold ks_superIn at hm; rw [hc] at hm; cases hm
  | some cd =>
    unfold ks_superIn at hm
    rw [hc] at hm
    refine getMethod_superB (N _ hso).1 (looks_opaque X ho) (l₀ := cd.mro) (fun A Q E s k q => wpAny_bind ((looks_clsIn X hc) A _ E s k (wpAny_pure q))) rfl X hm hty hlk (fun t' A' Q' E' hq => hget ⟨hh, g, d, t', os⟩ A' Q' E' hinst hq) (ks_ne X I hc) hn ?_
    obtain ⟨F', N', l'⟩ := ks_newsPush (s := ⟨hh, g, d, t, os⟩) (o := bndObj T id x) F N rfl (Heap.get?_push_at rfl rfl) (fun b o e => Heap.get?_push_of_some _ e)
    exact h _ _ F' N' l'
theorem get_init (s' : Shared) (A' : Around) (Q' E' : Value → Shared → Prop) (hi : Looks (model prog w) s'.heap (isInstance (.ref x) (.type "list")) true) (h : Q' (.ref s'.heap.objs.size) { s' with heap := s'.heap.push (bndObj "method-wrapper" "list.__init__" x) }) : wpAny (model prog w) A' (call (.builtin "wrapper_descriptor.__get__") [.builtin "list.__init__", .ref x, .ref C]) Q' E' s' :=
  wpAny_call_entry wd_slot ty_init wd_entry (run_init hi ⟨_, rfl, h⟩) (wd_args _ _ _)
theorem get_len (s' : Shared) (A' : Around) (Q' E' : Value → Shared → Prop) (hi : Looks (model prog w) s'.heap (isInstance (.ref x) (.type "list")) true) (h : Q' (.ref s'.heap.objs.size) { s' with heap := s'.heap.push (bndObj "method-wrapper" "list.__len__" x) }) : wpAny (model prog w) A' (call (.builtin "wrapper_descriptor.__get__") [.builtin "list.__len__", .ref x, .ref C]) Q' E' s' :=
  wpAny_call_entry wd_slot ty_len wd_entry (run_len hi ⟨_, rfl, h⟩) (wd_args _ _ _)
theorem get_pop (s' : Shared) (A' : Around) (Q' E' : Value → Shared → Prop) (hi : Looks (model prog w) s'.heap (isInstance (.ref x) (.type "list")) true) (h : Q' (.ref s'.heap.objs.size) { s' with heap := s'.heap.push (bndObj "builtin_function_or_method" "list.pop" x) }) : wpAny (model prog w) A' (call (.builtin "method_descriptor.__get__") [.builtin "list.pop", .ref x, .ref C]) Q' E' s' :=
  wpAny_call_entry md_slot PySem.F.type_list_pop md_entry (run_pop hi ⟨_, rfl, h⟩) (md_args _ _ _)
end
theorem instL {g h : Heap} {L x dx C : Addr} {its : Array Value} {n : Nat} {o : Obj} {news : List (Addr × Obj)} (N : News g L h news) (h1 : (x, lobj C dx its n) ∈ news) (h2 : (dx, o) ∈ news) : InstAt h x (lobj C dx its n) C (some o) := ⟨N.get h1, rfl, rfl, N.get h2⟩
section
variable {prog : Program} {w : World} {A : Around} {E : Value → Shared → Prop} {s : Shared} {h₀ : Heap} {L : Addr} {news : List (Addr × Obj)}
theorem callWith_bnd0 {env : Env} {pos : Pos} {q x : Addr} {T id : String} {Q : Value → Shared → Prop} (N : News h₀ L s.heap news) (hq : (q, bndObj T id x) ∈ news)
    (hT : (Value.type T == .type "builtin_function_or_method" || Value.type T == .type "method-wrapper") = true) (hm : (Value.type T != .type "method") = true) (hm2 : (Value.type T == .type "method") = false)
    (h : wpAny (model prog w) A (call (.ref q) []) Q E s) : wpAny (model prog w) A (callWith pos (.ref q) [] (backTo pos (starEach [] env)) []) Q E s := by
  show wpAny _ A (callWith pos (.ref q) [] [] []) Q E s
  unfold callWith
  refine wpAny_bind (wpAny_holding (wpAny_mono (PyProof.Rows.evalArgs_none (Q := fun x s₁ => s₁ = s ∧ x.pos = [] ∧ x.kw = []) ⟨rfl, rfl, rfl⟩) (fun x s₁ h₁ => wpAny_bind (wpAny_standAt ?_)) fun _ _ x => x))
  obtain ⟨rfl, e1, e2⟩ := h₁
  simp only [List.any_nil, Bool.or_false]
  refine wpAny_bind (m := keeperOf (.ref q)) ?_
  unfold keeperOf
  refine wpAny_bind (wpAny_load (N.get hq) ?_)
  simp only [hm, hT, hm2, if_true]
  refine wpAny_pure ?_
  rw [e1, e2]
  exact wpAny_bind (wpAny_mono h (fun r s₂ hr => wpAny_bind (wpAny_holding (wpAny_point (wpAny_pure hr)))) fun _ _ x => x)
end
theorem offLX9 : True := by
  w_top off
  exact True.intro
section
variable {prog : Program} {w : World} {A : Around} {E : Value → Shared → Prop} {s : Shared} {K : Frag} {x C : Addr} {ox : Obj} {od : Option Obj} {name : Str} {pl : Sem Bool}
theorem canon_lga : (Manifest.canonical "list.__getattribute__" != "object.__getattribute__") = false := by decide +kernel
theorem methodL {f : Value} {T : String} {Q : Value × List Value → Shared → Prop} (X : K.In s.heap) (I : InstAt s.heap x ox C od) (hga : findIn K (.ref C) "__getattribute__" = some (some (.builtin "list.__getattribute__"))) (hk : findIn K (.ref C) "__getattr__" = some none)
    (hf : findIn K (.ref C) name = some (some f)) (ht : Looks (model prog w) s.heap (typeOf f) (.type T)) (hT : ((Value.type T != .type "function") && (Value.type T != .type "method_descriptor") && (Value.type T != .type "wrapper_descriptor")) = false) (hs : shadowIn od name = some false) (h : Q (f, [.ref x]) s) :
    wpAny (model prog w) A (getMethod (.ref x) name pl) Q E s := by
  unfold getMethod specialOf
  refine wpAny_bind (wpAny_bind (I.type.here ((looks_findIn X hga).here ?_)))
  dsimp only
  rw [canon_lga, if_neg (by decide)]
  refine wpAny_bind (wpAny_bind (I.type.here ((looks_findIn X hk).here ?_)))
  refine wpAny_bind (wpAny_bind (I.type.here ((looks_findIn X hf).here (wpAny_bind (ht.here ?_)))))
  rw [hT, if_neg (by decide)]
  refine wpAny_bind (wpAny_loadPart I.at_ ?_)
  have hd := I.dict
  cases e : ox.dict with
  | none => exact wpAny_bind (wpAny_rule (wpAny_pure h))
  | some dx =>
    cases od with
    | none => rw [e] at hd; exact hd.elim
    | some o =>
      rw [e] at hd
      obtain ⟨r, a, b⟩ := Option.map_eq_some_iff.mp hs
      refine wpAny_bind (wpAny_bind (wpAny_loadPart hd ?_))
      rw [nsLook_of a]
      refine wpAny_pure ?_
      rw [b]
      exact wpAny_bind (wpAny_rule (wpAny_pure h))
theorem check_meth {i owner n : String} {self : Value} {rest : List Value} {kw : List (Str × Value)} {Q : Unit → Shared → Prop}
    (hk : builtinKind i = some .method) (hs : splitId i = some (owner, n)) (hi : Looks (model prog w) s.heap (isInstance self (.type owner)) true) (ha : argsOk i ⟨self :: rest, kw⟩) (q : Q () s) :
    wpAny (model prog w) A (checkBuiltinCall i ⟨self :: rest, kw⟩) Q E s := by
  simp only [checkBuiltinCall, hk, hs]
  refine wpAny_bind (hi.here ?_)
  simp only [Bool.not_true, Bool.false_eq_true, if_false]
  cases hsig : Manifest.signature? i with
  | none => exact wpAny_pure q
  | some sig =>
    simp only [argsOk, hsig] at ha
    have h2 : Bind.checkArgs i sig ⟨self :: rest, kw⟩ = pure () := ha
    show wpAny _ A (Bind.checkArgs i sig ⟨self :: rest, kw⟩) Q E s
    rw [h2]; exact wpAny_pure q
end
section
variable {prog : Program} {w : World} {A : Around} {E : Value → Shared → Prop} {s : Shared} {K : Frag} {x dx C L : Addr} {h₀ : Heap} {m : Str → Option Value} {news news' : List (Addr × Obj)}
theorem call_append {its : List Value} {n : Nat} {v : Value} {o : Obj} {Q : Value → Shared → Prop} (F : Fr h₀ L s.heap m) (N : News h₀ L s.heap news) (X : K.In s.heap) (hx : (x, lobj C dx its.toArray n) ∈ news) (hdx : (dx, o) ∈ news) (hli : subIn K (.ref C) (.type "list") = some true)
    (U : Upd x (lobj C dx its.toArray n) (lobj C dx (its ++ [v]).toArray (n + 1)) news news') (hz : its.length ≤ 100000) (h : ∀ h', Fr h₀ L h' m → News h₀ L h' news' → Q .none { s with heap := h' }) :
    wpAny (model prog w) A (call (.builtin "list.append") [.ref x, v]) Q E s := by
  have I := instL N hx hdx
  refine wpAny_call (codeAny_call_builtin (by decide +kernel) PySem.F.entry_list_append (check_meth (owner := "list") (n := "append") (by decide +kernel) (by decide +kernel) (I.type.andThen (looks_subIn X hli)) (PySem.F.args_list_append_2 _ _) ?_))
  show wpAny _ _ (updateSeq x (·.push v) >>= fun _ => ret .none) _ _ s
  have ep : its.toArray.push v = (its ++ [v]).toArray := by simp
  refine wpAny_bind (seq_upd (f := (·.push v)) (n2 := n + 1) F N (by rw [ep]; exact U) (fun h' F' N' _ => wpAny_pure (h h' F' N')) (by simp; omega) (by simp; omega) ?_)
  simp [Obj.mapSeq]
end
theorem acc_ga (P : Params) : findIn (frag.heap_1 P) (.ref 109) "__getattribute__" = some (some (.builtin "list.__getattribute__")) := by kernel_rfl
theorem acc_nga (P : Params) : findIn (frag.heap_1 P) (.ref 109) "__getattr__" = some none := by kernel_rfl
theorem acc_sub (P : Params) : subIn (frag.heap_1 P) (.ref 109) (.type "list") = some true := by kernel_rfl
theorem acc_fpush (P : Params) : findIn (frag.heap_1 P) (.ref 109) "push" = some (some (.ref 53)) := by kernel_rfl
theorem acc_fpop (P : Params) : findIn (frag.heap_1 P) (.ref 109) "pop" = some (some (.ref 69)) := by kernel_rfl
theorem acc_fcount (P : Params) : findIn (frag.heap_1 P) (.ref 109) "part_count" = some (some (.ref 106)) := by kernel_rfl
theorem acc_fapp (P : Params) : findIn (frag.heap_1 P) (.ref 109) "append" = some (some (.builtin "list.append")) := by kernel_rfl
theorem acc_t53 (P : Params) : typeIn (frag.heap_1 P) (.ref 53) = some (.type "function") := by kernel_rfl
theorem acc_t69 (P : Params) : typeIn (frag.heap_1 P) (.ref 69) = some (.type "function") := by kernel_rfl
theorem acc_t106 (P : Params) : typeIn (frag.heap_1 P) (.ref 106) = some (.type "function") := by kernel_rfl
theorem offCR : True := by
  w_top off
  exact True.intro
section
variable {prog : Program} {w : World} {A : Around} {E : Value → Shared → Prop} {s : Shared}
/-- over a text of signs below 128 -/
theorem comp_str {use : Option (Value → Sem Unit)} {Q : Value → Shared → Prop} {elt iter : Expr} {x : Str} {px : Pos} {scope : Scope} {pos : Pos} {cl : List (Str × Addr)} {env : Env} {L : Addr} {g : Heap} {m : Str → Option Value} {cs : List Nat} {t : Tok} {news : List (Addr × Obj)}
    (hA : A.handled = none) (hcell : ∀ y ∈ scope.names, y.2 ≠ .cell) (hkind : scope.kind = .function) (hx : scope.names.lookup x = some .local) (hasc : (txt cs).cps.all (· < 128) = true) (hn : cs.length ≤ 1000000)
    (F : Fr g L s.heap m) (N : News g L s.heap news) (J : Nat → List Value → List (Addr × Obj) → Prop) (h0 : J 0 [] news)
    (turn : ∀ C D I, (∀ p ∈ news, p.1 < I) → @LT.lt Nat _ I D → @LT.lt Nat _ D C → ∀ i vals nws h tk oC oI (mC : Str → Option Value) nn c u E', i < cs.length → cs[i]? = some c → J i vals nws → Fr g L h m → News g L h ((C, oC) :: (I, oI) :: (D, listOf vals.toArray nn) :: nws) → NsObj oC (fun y => if y = x then some (.str (one c) u) else mC y) → (∀ p ∈ nws, p.1 ≠ C ∧ p.1 ≠ I ∧ p.1 ≠ D) →
      wpAny (model prog w) A (eval elt (compEnvC scope cl C env)) (CEnd g L C I D oI vals nn m [] (J (i + 1)) s) E' { s with heap := h, toks := tk })
    (done : ∀ C D, (∀ p ∈ news, p.1 < D) → @LT.lt Nat _ D C → ∀ vals nws h tk oC mC nn, J cs.length vals nws → vals.length = cs.length → Fr g L h m → News g L h ((C, oC) :: (D, listOf vals.toArray nn) :: nws) → NsObj oC mC → (∀ p ∈ nws, p.1 ≠ C ∧ p.1 ≠ D) →
      compPost (model prog w) A E use Q (.ref D) C (.ok .next) { s with heap := h, toks := tk }) :
    wpAny (model prog w) A (pyIter (.str (txt cs) t)) (fun it s₂ => wpAny (model prog w) A (newList []) (fun acc s₃ => wpAny (model prog w) A (newFunctionEnv scope env.globals cl [] env.qual none .none (some env)) (fun cenv s₄ =>
      codeAny (model prog w) A (.compStart (.ListComp elt [⟨.Name x px, iter, [], 0⟩] scope pos) 0 it acc { cenv with scope := relabel scope env }) (compPost (model prog w) A E use Q acc cenv.locals) s₄) E s₃) E s₂) E s := by
  have hlt : ∀ p ∈ news, p.1 < s.heap.objs.size := fun p hp => Heap.lt_size (N p hp).1
  refine wpAny_pyIter_ascii hasc ?_
  refine comp_walk (s := { s with heap := s.heap.push _ }) (n := cs.length) (side := []) hcell hkind hx (F.push _) (N.push F _) (fun p hp => Nat.ne_of_lt (hlt p hp)) (fp := [s.heap.objs.size]) (P := SignAt (txt cs)) (St := fun i h => h.IsStrIter s.heap.objs.size "str_ascii_iterator" (txt cs) t i) (by simpa [txt] using Walks.strAscii (prog := prog) (w := w) hA s.heap.objs.size (txt cs) t)
    ⟨_, Heap.get?_push_size _ rfl, rfl, rfl⟩ (fun i h st => by obtain ⟨o, e, _⟩ := st; exact ⟨o, e⟩) (fun b hb => .inl (by simpa using hb)) (fun _ h => nomatch h) hn J h0 ?_ ?_
  · rintro C D hD hDC i vals nws h tk oC oI' mC nn v E' hi ⟨c, u, hcu, rfl⟩ hJ F1 N1 hO hne hsd'
    exact turn C D _ hlt (hD _ (.head _)) hDC i vals nws h tk oC oI' mC nn c u E' hi (by simpa [txt] using hcu) hJ F1 N1 hO hne
  · intro C D hD hDC vals nws h tk oC mC nn hJ hl' F1 N1 hO hne
    exact done C D (fun p hp => hD p (.tail _ hp)) hDC vals nws h tk oC mC nn hJ hl' F1 N1 hO fun p hp => ⟨(hne p hp).1, (hne p hp).2.2⟩
end
section
variable {prog : Program} {w : World} {A : Around} {E : Value → Shared → Prop} {s : Shared}
theorem replaceT {x y z : Str} {t u v : Tok} {Q : Value → Shared → Prop} (hu : u ≠ 0) (hv : v ≠ 0) (huv : u ≠ v) (hyz : (y == z) = false) (hx : x.length ≤ 1048576) (hz : z.length ≤ 14)
    (hq : ∀ t' k, s.toks ≤ k → Q (.str (Txt.replace x y z) t') { s with toks := k }) : wpAny (model prog w) A (call (.builtin "str.replace") [.str x t, .str y u, .str z v]) Q E s :=
  wpAny_with_toks (Nat.le_refl _) (SC.replaceW hu hv huv hyz hx hz fun t' k hk => hq t' k hk)
end
theorem offCD : True := by
  w_top off
  exact True.intro
section
variable {prog : Program} {w : World} {A : Around} {E : Value → Shared → Prop} {s : Shared}
theorem compd_step {R : Result → Shared → Prop} {kx vx target iter : Expr} {scope : Scope} {pos : Pos} {it : Value} {D : Addr} {env : Env}
    (turn : ∀ E' : Value → Shared → Prop, wpAny (model prog w) A (pyNext it) (fun r s₁ => match r with
      | none => R (.ok .next) s₁
      | some v => wpAny (model prog w) A (letOwnedTupleGo target it v) (fun _ s₁' => wpAny (model prog w) A (assign target env v) (fun _ s₂ => wpAny (model prog w) A (eval kx env) (fun x s₃ => wpAny (model prog w) A (eval vx env) (fun y s₄ =>
          wpAny (model prog w) A (dictSet D x y) (fun _ s₅ => codeAny (model prog w) A (.compLoop (.DictComp kx vx [⟨target, iter, [], 0⟩] scope pos) 0 it (.ref D) env) R s₅) E' s₄) E' s₃) E' s₂) E' s₁') E' s₁) E' s) :
    codeAny (model prog w) A (.compLoop (.DictComp kx vx [⟨target, iter, [], 0⟩] scope pos) 0 it (.ref D) env) R s := by
  refine codeAny_of_tree ?_
  show wpAny _ A ((compTurn (.DictComp kx vx [⟨target, iter, [], 0⟩] scope pos) 0 it (.ref D) env).onRaise (fun x => do noteFrame x env; theTreesLotGoes x)) _ _ s
  refine wpAny_noted ?_
  rw [compTurn_dict]
  refine wpAny_bind (wpAny_standAt (wpAny_bind (wpAny_mono (turn _) (fun r s₁ h₁ => ?_) fun _ _ h' => h')))
  cases r with
  | none => exact wpAny_pure h₁
  | some v =>
    refine wpAny_bind (wpAny_mono h₁ (fun _ s₁' h₁' => ?_) fun _ _ h' => h')
    refine wpAny_bind (wpAny_mono h₁' (fun _ s₂ h₂ => ?_) fun _ _ h' => h')
    refine wpAny_bind (wpAny_pure ?_)
    exact wpAny_bind (wpAny_bind (wpAny_mono h₂ (fun kv s₄ h₄ => wpAny_bind (wpAny_holding (wpAny_mono h₄ (fun vv s₅ h₅ => wpAny_bind (wpAny_standAt (wpAny_holding (wpAny_mono h₅ (fun _ s₆ h₆ => wpAny_pure ⟨rfl, h₆⟩) fun _ _ h' => h')))) fun _ _ h' => h'))) fun _ _ h' => h'))
/-- what stands behind a turn of a dict's comprehension, ahead of the store -/
noncomputable def DEnd (prog : Program) (w : World) (g : Heap) (L C I D : Addr) (oI oD : Obj) (kvs : List (Str × Value)) (m : Str → Option Value) (side : List (Addr × Obj)) (J : List (Str × Value) → List (Addr × Obj) → Prop) (s : Shared) (x y : Value) (s₃ : Shared) : Prop :=
  ∃ h' tk' nws' oC' mC' k t, x = .str k t ∧ s₃ = { s with heap := h', toks := tk' } ∧ Fr g L h' m ∧ News g L h' ((C, oC') :: (I, oI) :: (D, oD) :: nws') ∧ NsObj oC' mC' ∧ (∀ p ∈ nws', p.1 ≠ C ∧ p.1 ≠ I ∧ p.1 ≠ D) ∧ (∀ p ∈ side, p ∈ nws') ∧ J (stored kvs k y) nws'
theorem compd_core {R : Result → Shared → Prop} {kx vx target iter : Expr} {scope : Scope} {pos : Pos} {I D C L : Addr} {cenv : Env} {g : Heap} {m : Str → Option Value} {fp : List Addr} {n : Nat} {P : Nat → Value → Prop} {St : Nat → Heap → Prop} {side : List (Addr × Obj)}
    (W : Walks prog w A I fp [I] n P St) (hfp : ∀ b ∈ fp, b = I ∨ (∃ o, (b, o) ∈ side) ∨ ∃ o, g.get? b = some o) (hn : n ≤ 1000000) (hCI : C ≠ I) (hCD : C ≠ D) (hID : I ≠ D) (J : Nat → List (Str × Value) → List (Addr × Obj) → Prop)
    (hJl : ∀ i kvs nws, J i kvs nws → kvs.length ≤ n)
    (hSt : ∀ i h, St i h → ∃ o, h.get? I = some o)
    (turn : ∀ i kvs nws h tk oC oI oD mC v E', i < n → P i v → J i kvs nws → Fr g L h m → News g L h ((C, oC) :: (I, oI) :: (D, oD) :: nws) → NsObj oC mC → oD.IsDictOf (PySem.strKind prog w) kvs → (∀ p ∈ nws, p.1 ≠ C ∧ p.1 ≠ I ∧ p.1 ≠ D) → (∀ p ∈ side, p ∈ nws) →
      wpAny (model prog w) A (letOwnedTupleGo target (.ref I) v) (fun _ s₁ => wpAny (model prog w) A (assign target cenv v) (fun _ s₂ => wpAny (model prog w) A (eval kx cenv) (fun x s₃ => wpAny (model prog w) A (eval vx cenv) (fun y s₄ => DEnd prog w g L C I D oI oD kvs m side (J (i + 1)) s x y s₄) E' s₃) E' s₂) E' s₁) E' { s with heap := h, toks := tk })
    (done : ∀ kvs nws h tk oC oD mC, J n kvs nws → Fr g L h m → News g L h ((C, oC) :: (D, oD) :: nws) → NsObj oC mC → oD.IsDictOf (PySem.strKind prog w) kvs → (∀ p ∈ nws, p.1 ≠ C ∧ p.1 ≠ I ∧ p.1 ≠ D) → R (.ok .next) { s with heap := h, toks := tk }) :
    ∀ k i kvs nws h tk oC oI oD mC, i + k = n → St i h → J i kvs nws → Fr g L h m → News g L h ((C, oC) :: (I, oI) :: (D, oD) :: nws) → NsObj oC mC → oD.IsDictOf (PySem.strKind prog w) kvs → (∀ p ∈ nws, p.1 ≠ C ∧ p.1 ≠ I ∧ p.1 ≠ D) → (∀ p ∈ side, p ∈ nws) →
      codeAny (model prog w) A (.compLoop (.DictComp kx vx [⟨target, iter, [], 0⟩] scope pos) 0 (.ref I) (.ref D) cenv) R { s with heap := h, toks := tk } := by
  intro k
  induction k with
  | zero =>
    intro i kvs nws h tk oC oI oD mC hi st hJ F N hO hDi hne hsd
    have hi' : i = n := by omega
    subst hi'
    refine compd_step fun E' => ?_
    refine W.done _ _ _ st fun h' tk' hk => ?_
    have hb : ∀ b o, b ≠ I → h.get? b = some o → h'.get? b = some o := fun b o hb e => hk b o (by simpa using hb) e
    have hI := N (I, oI) (.tail _ (.head _))
    refine done kvs nws h' tk' oC oD mC hJ (frBut F hI.2.1 hI.2.2 hb) (List.forall_mem_cons.mpr ⟨⟨hb _ _ hCI (N _ (.head _)).1, (N _ (.head _)).2⟩, List.forall_mem_cons.mpr ⟨⟨hb _ _ (fun e => hID e.symm) (N _ (.tail _ (.tail _ (.head _)))).1, (N _ (.tail _ (.tail _ (.head _)))).2⟩, fun p hp => ?_⟩⟩) hO hDi hne
    have := N p (.tail _ (.tail _ (.tail _ hp)))
    exact ⟨hb _ _ (hne p hp).2.1 this.1, this.2⟩
  | succ k ih =>
    intro i kvs nws h tk oC oI oD mC hi st hJ F N hO hDi hne hsd
    refine compd_step fun E' => ?_
    refine W.item i _ _ _ (by omega) st fun v h' tk' hP st' hk => ?_
    have hb : ∀ b o, b ≠ I → h.get? b = some o → h'.get? b = some o := fun b o hb e => hk b o (by simpa using hb) e
    have hI := N (I, oI) (.tail _ (.head _))
    obtain ⟨oI', hoI'⟩ := hSt _ _ st'
    have F' := frBut F hI.2.1 hI.2.2 hb
    have N' : News g L h' ((C, oC) :: (I, oI') :: (D, oD) :: nws) := List.forall_mem_cons.mpr ⟨⟨hb _ _ hCI (N _ (.head _)).1, (N _ (.head _)).2⟩, List.forall_mem_cons.mpr ⟨⟨hoI', hI.2⟩, List.forall_mem_cons.mpr ⟨⟨hb _ _ (fun e => hID e.symm) (N _ (.tail _ (.tail _ (.head _)))).1, (N _ (.tail _ (.tail _ (.head _)))).2⟩, fun p hp => by
      have := N p (.tail _ (.tail _ (.tail _ hp)))
      exact ⟨hb _ _ (hne p hp).2.1 this.1, this.2⟩⟩⟩⟩
    refine wpAny_mono (turn i kvs nws h' tk' oC oI' oD mC v E' (by omega) hP hJ F' N' hO hDi hne hsd) (fun _ s₁ h₁ => wpAny_mono h₁ (fun _ s₂ h₂ => wpAny_mono h₂ (fun x s₃ h₃ => wpAny_mono h₃ (fun y s₄ h₄ => ?_) fun _ _ e => e) fun _ _ e => e) fun _ _ e => e) fun _ _ e => e
    obtain ⟨h3, tk3, nws3, oC3, mC3, kk, kt, rfl, rfl, F3, N3, hO3, hne3, hsd3, hJ3⟩ := h₄
    have hD3 := N3 (D, oD) (.tail _ (.tail _ (.head _)))
    have hlen := hJl _ _ _ hJ
    refine wpAny_dictSet_pairs (knd := PySem.strKind prog w) (strKind_is prog w kk kt) (Heap.dictOf_iff.mpr ⟨oD, hD3.1, hDi⟩) (fun h4 hm4 hs4 => ?_) (by rw [sizeLine_eq]; omega)
    obtain ⟨oD', hoD', hD'⟩ := Heap.dictOf_iff.mp hm4
    have hb4 : ∀ b o, b ≠ D → h3.get? b = some o → h4.get? b = some o := fun b o hb e => (hs4.2 b hb).trans e
    have F4 := frBut F3 hD3.2.1 hD3.2.2 hb4
    have N4 : News g L h4 ((C, oC3) :: (I, oI') :: (D, oD') :: nws3) := List.forall_mem_cons.mpr ⟨⟨hb4 _ _ hCD (N3 _ (.head _)).1, (N3 _ (.head _)).2⟩, List.forall_mem_cons.mpr ⟨⟨hb4 _ _ hID (N3 _ (.tail _ (.head _))).1, (N3 _ (.tail _ (.head _))).2⟩, List.forall_mem_cons.mpr ⟨⟨hoD', hD3.2⟩, fun p hp => by
      have := N3 p (.tail _ (.tail _ (.tail _ hp)))
      exact ⟨hb4 _ _ (hne3 p hp).2.2 this.1, this.2⟩⟩⟩⟩
    refine ih (i + 1) _ nws3 h4 (tk3 + 1) oC3 oI' oD' mC3 (by omega) ?_ hJ3 F4 N4 hO3 hD' hne3 hsd3
    refine W.frame _ _ _ st' fun b hb' o e => ?_
    rcases hfp b hb' with rfl | ⟨o', ho'⟩ | ⟨o', ho'⟩
    · rw [hoI'] at e
      cases e
      exact (N4 _ (.tail _ (.head _))).1
    · have e1 := (N' (b, o') (.tail _ (.tail _ (.tail _ (hsd _ ho'))))).1
      rw [e1] at e
      cases e
      exact (N4 _ (.tail _ (.tail _ (.tail _ (hsd3 _ ho'))))).1
    · have e1 := F'.keep _ _ ho'
      rw [e1] at e
      cases e
      exact F4.keep _ _ ho'
theorem compd_block {E : Value → Shared → Prop} {use : Option (Value → Sem Unit)} {Q : Value → Shared → Prop} {kx vx target iter : Expr} {scope : Scope} {pos : Pos} {cl : List (Str × Addr)} {env : Env} {I L : Addr} {g : Heap} {m : Str → Option Value} {fp : List Addr} {n : Nat} {P : Nat → Value → Prop} {St : Nat → Heap → Prop} {side news : List (Addr × Obj)} {oI : Obj}
    (hcell : ∀ y ∈ scope.names, y.2 ≠ .cell) (hkind : scope.kind = .function) (F : Fr g L s.heap m) (N : News g L s.heap ((I, oI) :: news)) (hneI : ∀ p ∈ news, p.1 ≠ I)
    (W : Walks prog w A I fp [I] n P St) (hst : St 0 s.heap) (hSt : ∀ i h, St i h → ∃ o, h.get? I = some o) (hfp : ∀ b ∈ fp, b = I ∨ (∃ o, (b, o) ∈ side) ∨ ∃ o, g.get? b = some o) (hsd : ∀ p ∈ side, p ∈ news) (hn : n ≤ 1000000) (J : Nat → List (Str × Value) → List (Addr × Obj) → Prop)
    (hJl : ∀ i kvs nws, J i kvs nws → kvs.length ≤ n) (h0 : J 0 [] news)
    (turn : ∀ C D, (∀ p ∈ (I, oI) :: news, p.1 < D) → @LT.lt Nat _ D C → ∀ i kvs nws h tk oC oI oD mC v E', i < n → P i v → J i kvs nws → Fr g L h m → News g L h ((C, oC) :: (I, oI) :: (D, oD) :: nws) → NsObj oC mC → oD.IsDictOf (PySem.strKind prog w) kvs → (∀ p ∈ nws, p.1 ≠ C ∧ p.1 ≠ I ∧ p.1 ≠ D) → (∀ p ∈ side, p ∈ nws) →
      wpAny (model prog w) A (letOwnedTupleGo target (.ref I) v) (fun _ s₁ => wpAny (model prog w) A (assign target (compEnvC scope cl C env) v) (fun _ s₂ => wpAny (model prog w) A (eval kx (compEnvC scope cl C env)) (fun x s₃ => wpAny (model prog w) A (eval vx (compEnvC scope cl C env)) (fun y s₄ => DEnd prog w g L C I D oI oD kvs m side (J (i + 1)) s x y s₄) E' s₃) E' s₂) E' s₁) E' { s with heap := h, toks := tk })
    (done : ∀ C D, (∀ p ∈ (I, oI) :: news, p.1 < D) → @LT.lt Nat _ D C → ∀ kvs nws h tk oC oD mC, J n kvs nws → Fr g L h m → News g L h ((C, oC) :: (D, oD) :: nws) → NsObj oC mC → oD.IsDictOf (PySem.strKind prog w) kvs → (∀ p ∈ nws, p.1 ≠ C ∧ p.1 ≠ I ∧ p.1 ≠ D) →
      compPost (model prog w) A E use Q (.ref D) C (.ok .next) { s with heap := h, toks := tk }) :
    wpAny (model prog w) A newDict (fun acc s₃ => wpAny (model prog w) A (newFunctionEnv scope env.globals cl [] env.qual none .none (some env)) (fun cenv s₄ =>
      codeAny (model prog w) A (.compStart (.DictComp kx vx [⟨target, iter, [], 0⟩] scope pos) 0 (.ref I) acc { cenv with scope := relabel scope env }) (compPost (model prog w) A E use Q acc cenv.locals) s₄) E s₃) E s := by
  have hI := N _ (.head _)
  have hlt : ∀ p ∈ (I, oI) :: news, p.1 < s.heap.objs.size := fun p hp => Heap.lt_size (N p hp).1
  refine wpAny_newObj_type (wpAny_newFunctionEnv hcell (by intro y hy; simp at hy) (fun h₁ hns₁ hsb₁ => ?_) hkind)
  dsimp only at hns₁ hsb₁ ⊢
  have F2 := F.push ({ cls := .type "dict", dict := none, data := .dict #[] } : Obj)
  have N2 := N.push F ({ cls := .type "dict", dict := none, data := .dict #[] } : Obj)
  have hnew : (s.heap.push { cls := .type "dict", dict := none, data := .dict #[] }).DictOf (PySem.strKind prog w) s.heap.objs.size [] := Heap.DictOf.new s.heap
  generalize hH2 : s.heap.push { cls := .type "dict", dict := none, data := .dict #[] } = H2 at hns₁ hsb₁ F2 N2 hnew ⊢
  obtain ⟨oD0, hoD0, hD0⟩ := Heap.dictOf_iff.mp hnew
  have hC : H2.objs.size = s.heap.objs.size + 1 := by rw [← hH2, Heap.size_push]
  have hDC : @LT.lt Nat _ s.heap.objs.size H2.objs.size := by rw [hC]; exact Nat.lt_succ_self _
  have hk : ∀ b o, H2.get? b = some o → h₁.get? b = some o := fun b o e => hsb₁.extBut b o (Nat.ne_of_lt (Heap.lt_size e)) (Heap.get?_push_of_some _ e)
  obtain ⟨oC, hoC, hOC⟩ := nsObj_of hns₁
  have F3 := F2.keeps hk
  have eD : oD0 = { cls := .type "dict", dict := none, data := .dict #[] } := by
    have := (N2 _ (.head _)).1
    rw [hoD0] at this
    exact Option.some.inj this
  have N3 : News g L h₁ ((H2.objs.size, oC) :: (s.heap.objs.size, oD0) :: (I, oI) :: news) := by
    refine List.forall_mem_cons.mpr ⟨⟨hoC, fun e => ?_, ?_⟩, ?_⟩
    · exact absurd F2.ns.lt (by rw [← e]; exact Nat.lt_irrefl _)
    · exact next_is_new F2
    · rw [eD]; exact N2.grown hk
  have hne : ∀ p ∈ news, p.1 ≠ H2.objs.size ∧ p.1 ≠ I ∧ p.1 ≠ s.heap.objs.size := fun p hp => ⟨Nat.ne_of_lt (Nat.lt_trans (hlt p (.tail _ hp)) hDC), hneI p hp, Nat.ne_of_lt (hlt p (.tail _ hp))⟩
  have hID : @LT.lt Nat _ I s.heap.objs.size := hlt _ (.head _)
  have hst₁ : St 0 h₁ := W.frame _ _ _ hst fun b hb o e => hk b o (by rw [← hH2]; exact Heap.get?_push_of_some _ e)
  have loop : ∀ tk, codeAny (model prog w) A (.compLoop (.DictComp kx vx [⟨target, iter, [], 0⟩] scope pos) 0 (.ref I) (.ref s.heap.objs.size) (compEnvC scope cl H2.objs.size env)) (compPost (model prog w) A E use Q (.ref s.heap.objs.size) H2.objs.size) { s with heap := h₁, toks := tk } := by
    intro tk
    refine compd_core (s := s) W hfp hn (Nat.ne_of_gt (Nat.lt_trans hID hDC)) (Nat.ne_of_gt hDC) (Nat.ne_of_lt hID) J hJl hSt (turn _ _ hlt hDC) (done _ _ hlt hDC) n 0 [] news h₁ tk oC oI oD0 _ (by omega) hst₁ h0 F3 ?_ hOC hD0 hne hsd
    intro p hp
    rcases List.mem_cons.mp hp with rfl | hp
    · exact N3 _ (.head _)
    · rcases List.mem_cons.mp hp with rfl | hp
      · exact N3 _ (.tail _ (.tail _ (.head _)))
      · rcases List.mem_cons.mp hp with rfl | hp
        · exact N3 _ (.tail _ (.head _))
        · exact N3 _ (.tail _ (.tail _ (.tail _ hp)))
  exact codeAny_compStart_dict (loop _) (W.self 0 _ _ _ hst₁ (loop _))
/-- a dict's comprehension over a range -/
theorem compd_range {E : Value → Shared → Prop} {use : Option (Value → Sem Unit)} {Q : Value → Shared → Prop} {kx vx iter : Expr} {x : Str} {px : Pos} {scope : Scope} {pos : Pos} {cl : List (Str × Addr)} {env : Env} {r L : Addr} {g : Heap} {m : Str → Option Value} {a b c : Int} {t u v : Tok} {n : Nat} {news : List (Addr × Obj)}
    (hA : A.handled = none) (hcell : ∀ y ∈ scope.names, y.2 ≠ .cell) (hkind : scope.kind = .function) (hx : scope.names.lookup x = some .local) (hr : IsRange s.heap r a b c t u v) (hsm : Builtin.Range.small a b c = true) (hrs : Builtin.Range.rangeSize a b c = (n : Int)) (hn : n ≤ 1000000)
    (F : Fr g L s.heap m) (N : News g L s.heap news) (J : Nat → List (Str × Value) → List (Addr × Obj) → Prop) (hJl : ∀ i kvs nws, J i kvs nws → kvs.length ≤ n) (h0 : J 0 [] news)
    (turn : ∀ C D I, (∀ p ∈ news, p.1 < I) → @LT.lt Nat _ I D → @LT.lt Nat _ D C → ∀ i kvs nws h tk oC oI oD (mC : Str → Option Value) t' E', i < n → J i kvs nws → Fr g L h m → News g L h ((C, oC) :: (I, oI) :: (D, oD) :: nws) → NsObj oC (fun y => if y = x then some (.int (a + (i : Int) * c) t') else mC y) → oD.IsDictOf (PySem.strKind prog w) kvs → (∀ p ∈ nws, p.1 ≠ C ∧ p.1 ≠ I ∧ p.1 ≠ D) →
      wpAny (model prog w) A (eval kx (compEnvC scope cl C env)) (fun x s₃ => wpAny (model prog w) A (eval vx (compEnvC scope cl C env)) (fun y s₄ => DEnd prog w g L C I D oI oD kvs m [] (J (i + 1)) s x y s₄) E' s₃) E' { s with heap := h, toks := tk })
    (done : ∀ C D, (∀ p ∈ news, p.1 < D) → @LT.lt Nat _ D C → ∀ kvs nws h tk oC oD mC, J n kvs nws → Fr g L h m → News g L h ((C, oC) :: (D, oD) :: nws) → NsObj oC mC → oD.IsDictOf (PySem.strKind prog w) kvs → (∀ p ∈ nws, p.1 ≠ C ∧ p.1 ≠ D) →
      compPost (model prog w) A E use Q (.ref D) C (.ok .next) { s with heap := h, toks := tk }) :
    wpAny (model prog w) A (pyIter (.ref r)) (fun it s₂ => wpAny (model prog w) A newDict (fun acc s₃ => wpAny (model prog w) A (newFunctionEnv scope env.globals cl [] env.qual none .none (some env)) (fun cenv s₄ =>
      codeAny (model prog w) A (.compStart (.DictComp kx vx [⟨.Name x px, iter, [], 0⟩] scope pos) 0 it acc { cenv with scope := relabel scope env }) (compPost (model prog w) A E use Q acc cenv.locals) s₄) E s₃) E s₂) E s := by
  refine wpAny_pyIter_range hr hsm ?_
  have hlt : ∀ p ∈ news, p.1 < s.heap.objs.size := fun p hp => Heap.lt_size (N p hp).1
  have hkC : ∀ C, (compEnvC scope cl C env).scope.kind = .function := fun C => by simp [compEnvC, relabel, hkind]
  refine compd_block (s := { s with heap := s.heap.push _ }) (target := .Name x px) (P := fun i v => ∃ t, v = .int (a + (i : Int) * c) t) (side := []) hcell hkind (F.push _) (N.push F _) (fun p hp => Nat.ne_of_lt (hlt p hp)) (Walks.range hA _ a c n) ?_ (fun i h st => ⟨_, st⟩) (fun b hb => .inl (by simpa using hb)) (fun _ h => (nomatch h)) hn J hJl h0 ?_ ?_
  · have e : a + ((0 : Nat) : Int) * c = a := by simp
    show IsRangeIter _ _ _ _ _
    rw [e, ← hrs]
    have := Heap.get?_push_size s.heap (o := { cls := .type "range_iterator", data := .fields #[rawInt a, rawInt (Builtin.Range.rangeSize a b c), rawInt c] }) rfl
    simpa using this
  · rintro C D hD hDC i kvs nws h tk oC oI oD mC v E' hi ⟨t', rfl⟩ hJ F1 N1 hO hDi hne hsd
    refine wpAny_of_eq rfl (comp_assign F1 N1 ?_ hO rfl (hkC C) (lookup_relabel_local hx) fun oC' h' F2 N2 hO2 => ?_)
    · have hI := hD _ (.head _)
      exact List.forall_mem_cons.mpr ⟨Nat.ne_of_lt (Nat.lt_trans hI hDC), List.forall_mem_cons.mpr ⟨Nat.ne_of_lt hDC, fun p hp => (hne p hp).1⟩⟩
    · exact turn C D _ hlt (hD _ (.head _)) hDC i kvs nws h' _ oC' oI oD mC t' E' hi hJ F2 N2 hO2 hDi hne
  · intro C D hD hDC kvs nws h tk oC oD mC hJ F1 N1 hO hDi hne
    exact done C D (fun p hp => hD p (.tail _ hp)) hDC kvs nws h tk oC oD mC hJ F1 N1 hO hDi fun p hp => ⟨(hne p hp).1, (hne p hp).2.2⟩
/-- a dict's comprehension over a text of signs below 128 -/
theorem compd_str {use : Option (Value → Sem Unit)} {Q : Value → Shared → Prop} {kx vx iter : Expr} {x : Str} {px : Pos} {scope : Scope} {pos : Pos} {cl : List (Str × Addr)} {env : Env} {L : Addr} {g : Heap} {m : Str → Option Value} {cs : List Nat} {t : Tok} {news : List (Addr × Obj)}
    (hA : A.handled = none) (hcell : ∀ y ∈ scope.names, y.2 ≠ .cell) (hkind : scope.kind = .function) (hx : scope.names.lookup x = some .local) (hasc : (txt cs).cps.all (· < 128) = true) (hn : cs.length ≤ 1000000)
    (F : Fr g L s.heap m) (N : News g L s.heap news) (J : Nat → List (Str × Value) → List (Addr × Obj) → Prop) (hJl : ∀ i kvs nws, J i kvs nws → kvs.length ≤ cs.length) (h0 : J 0 [] news)
    (turn : ∀ C D I, (∀ p ∈ news, p.1 < I) → @LT.lt Nat _ I D → @LT.lt Nat _ D C → ∀ i kvs nws h tk oC oI oD (mC : Str → Option Value) c u E', i < cs.length → cs[i]? = some c → J i kvs nws → Fr g L h m → News g L h ((C, oC) :: (I, oI) :: (D, oD) :: nws) → NsObj oC (fun y => if y = x then some (.str (one c) u) else mC y) → oD.IsDictOf (PySem.strKind prog w) kvs → (∀ p ∈ nws, p.1 ≠ C ∧ p.1 ≠ I ∧ p.1 ≠ D) →
      wpAny (model prog w) A (eval kx (compEnvC scope cl C env)) (fun x s₃ => wpAny (model prog w) A (eval vx (compEnvC scope cl C env)) (fun y s₄ => DEnd prog w g L C I D oI oD kvs m [] (J (i + 1)) s x y s₄) E' s₃) E' { s with heap := h, toks := tk })
    (done : ∀ C D, (∀ p ∈ news, p.1 < D) → @LT.lt Nat _ D C → ∀ kvs nws h tk oC oD mC, J cs.length kvs nws → Fr g L h m → News g L h ((C, oC) :: (D, oD) :: nws) → NsObj oC mC → oD.IsDictOf (PySem.strKind prog w) kvs → (∀ p ∈ nws, p.1 ≠ C ∧ p.1 ≠ D) →
      compPost (model prog w) A E use Q (.ref D) C (.ok .next) { s with heap := h, toks := tk }) :
    wpAny (model prog w) A (pyIter (.str (txt cs) t)) (fun it s₂ => wpAny (model prog w) A newDict (fun acc s₃ => wpAny (model prog w) A (newFunctionEnv scope env.globals cl [] env.qual none .none (some env)) (fun cenv s₄ =>
      codeAny (model prog w) A (.compStart (.DictComp kx vx [⟨.Name x px, iter, [], 0⟩] scope pos) 0 it acc { cenv with scope := relabel scope env }) (compPost (model prog w) A E use Q acc cenv.locals) s₄) E s₃) E s₂) E s := by
  have hlt : ∀ p ∈ news, p.1 < s.heap.objs.size := fun p hp => Heap.lt_size (N p hp).1
  have hkC : ∀ C, (compEnvC scope cl C env).scope.kind = .function := fun C => by simp [compEnvC, relabel, hkind]
  refine wpAny_pyIter_ascii hasc ?_
  refine compd_block (s := { s with heap := s.heap.push _ }) (target := .Name x px) (n := cs.length) (side := []) hcell hkind (F.push _) (N.push F _) (fun p hp => Nat.ne_of_lt (hlt p hp)) (fp := [s.heap.objs.size]) (P := SignAt (txt cs)) (St := fun i h => h.IsStrIter s.heap.objs.size "str_ascii_iterator" (txt cs) t i) (by simpa [txt] using Walks.strAscii (prog := prog) (w := w) hA s.heap.objs.size (txt cs) t)
    ⟨_, Heap.get?_push_size _ rfl, rfl, rfl⟩ (fun i h st => by obtain ⟨o, e, _⟩ := st; exact ⟨o, e⟩) (fun b hb => .inl (by simpa using hb)) (fun _ h => nomatch h) hn J hJl h0 ?_ ?_
  · rintro C D hD hDC i kvs nws h tk oC oI oD mC v E' hi ⟨c, u, hcu, rfl⟩ hJ F1 N1 hO hDi hne hsd'
    refine wpAny_of_eq rfl (comp_assign F1 N1 ?_ hO rfl (hkC C) (lookup_relabel_local hx) fun oC' h' F2 N2 hO2 => ?_)
    · have hI := hD _ (.head _)
      exact List.forall_mem_cons.mpr ⟨Nat.ne_of_lt (Nat.lt_trans hI hDC), List.forall_mem_cons.mpr ⟨Nat.ne_of_lt hDC, fun p hp => (hne p hp).1⟩⟩
    · exact turn C D _ hlt (hD _ (.head _)) hDC i kvs nws h' _ oC' oI oD mC c u E' hi (by simpa [txt] using hcu) hJ F2 N2 hO2 hDi hne
  · intro C D hD hDC kvs nws h tk oC oD mC hJ F1 N1 hO hDi hne
    exact done C D (fun p hp => hD p (.tail _ hp)) hDC kvs nws h tk oC oD mC hJ F1 N1 hO hDi fun p hp => ⟨(hne p hp).1, (hne p hp).2.2⟩
theorem eval_dictcomp {Q : Value → Shared → Prop} {kx vx target iter : Expr} {scope : Scope} {pos : Pos} {env : Env} {cl : List (Str × Addr)}
    (hclos : closureFor scope env = pure cl) (hkind : scope.kind = .function) (hnames : ∀ x ∈ scope.names, x.2 = .local → scope.names.lookup x.1 = some .local)
    (h : wpAny (model prog w) A (eval iter env) (fun x s₁ => wpAny (model prog w) A (pyIter x) (fun it s₂ => wpAny (model prog w) A newDict (fun acc s₃ => wpAny (model prog w) A (newFunctionEnv scope env.globals cl [] env.qual none .none (some env)) (fun cenv s₄ =>
      codeAny (model prog w) A (.compStart (.DictComp kx vx [⟨target, iter, [], 0⟩] scope pos) 0 it acc { cenv with scope := relabel scope env }) (compPost (model prog w) A E none Q acc cenv.locals) s₄) E s₃) E s₂) E s₁) E s)
    (hs : ∀ x, foldedSetIterable iter env x = pure x := by intro _; rfl) :
    wpAny (model prog w) A (eval (.DictComp kx vx [⟨target, iter, [], 0⟩] scope pos) env) Q E s := by
  rw [arm_eval_DictComp]
  exact wpAny_comprehension_free (use := none) rfl hs hclos hkind hnames h
theorem exec_assign_dictcomp {Q : Flow → Shared → Prop} {kx vx target iter : Expr} {y : Str} {py spos : Pos} {scope : Scope} {pos : Pos} {env : Env} {cl : List (Str × Addr)}
    (hsw : swapsWith (.DictComp kx vx [⟨target, iter, [], 0⟩] scope pos) (some (.Name y py)) spos.line env = pure true)
    (hclos : closureFor scope env = pure cl) (hkind : scope.kind = .function) (hnames : ∀ x ∈ scope.names, x.2 = .local → scope.names.lookup x.1 = some .local)
    (h : wpAny (model prog w) A (eval iter env) (fun x s₁ => wpAny (model prog w) A (pyIter x) (fun it s₂ => wpAny (model prog w) A newDict (fun acc s₃ => wpAny (model prog w) A (newFunctionEnv scope env.globals cl [] env.qual none .none (some env)) (fun cenv s₄ =>
      codeAny (model prog w) A (.compStart (.DictComp kx vx [⟨target, iter, [], 0⟩] scope pos) 0 it acc { cenv with scope := relabel scope env }) (compPost (model prog w) A E (some (assign (.Name y py) env)) (fun _ s' => Q .next s') acc cenv.locals) s₄) E s₃) E s₂) E s₁) E s)
    (hs : ∀ x, foldedSetIterable iter env x = pure x := by intro _; rfl) :
    wpAny (model prog w) A (exec (.Assign [.Name y py] (.DictComp kx vx [⟨target, iter, [], 0⟩] scope pos) spos) env) Q E s := by
  rw [exec_Assign_Name_used _ _ _ _ hsw]
  refine wpAny_bind (wpAny_standAt (wpAny_bind ?_))
  show wpAny _ A (do let _ ← comprehension (.DictComp kx vx [⟨target, iter, [], 0⟩] scope pos) scope env _ newDict false (eval iter env) (some (assign (.Name y py) env))) _ _ s
  exact wpAny_bind (wpAny_mono (wpAny_comprehension_free (use := some (assign (.Name y py) env)) (Q := fun _ s' => Q .next s') rfl hs hclos hkind hnames h) (fun _ s' hq => wpAny_pure (wpAny_pure hq)) fun _ _ e => e)
/-- what a str-keyed dict's object is -/
theorem dict_shape {o : Obj} {kvs : List (Str × Value)} (h : o.IsDictOf (PySem.strKind prog w) kvs) : ∃ (es : List DictEntry) (n : Nat), o = dictOf es n ∧ es.map (fun e => (e.hash, e.val)) = kvs.map (fun p => (PyData.keyHash w.params p.1, p.2)) ∧ ∀ (i : Nat) (p : Str × Value), kvs[i]? = some p → ∃ t, es[i]? = some ⟨PyData.keyHash w.params p.1, .str p.1 t, p.2⟩ := by
  obtain ⟨es, ep, ⟨e1, e2, e3⟩, e4, hk, hp, _⟩ := h
  have key : ∀ (l : List DictEntry) (kvs : List (Str × Value)), (∀ e ∈ l, ∃ k, (PySem.strKind prog w).is k e.key = true ∧ e.hash = (PySem.strKind prog w).hash k) → Pairs (PySem.strKind prog w) l kvs →
      l.map (fun e => (e.hash, e.val)) = kvs.map (fun p => (PyData.keyHash w.params p.1, p.2)) ∧ ∀ (i : Nat) (p : Str × Value), kvs[i]? = some p → ∃ t, l[i]? = some ⟨PyData.keyHash w.params p.1, .str p.1 t, p.2⟩ := by
    intro l kvs hk hp
    induction hp with
    | nil => exact ⟨rfl, fun i p h => by simp at h⟩
    | @cons e kv es kvs h1 h2 _ ih =>
      obtain ⟨i1, i2⟩ := ih fun e he => hk e (.tail _ he)
      obtain ⟨k, hk1, hk2⟩ := hk e (.head _)
      have ek : k = kv.1 := (PySem.strKind prog w).inj _ _ _ hk1 h1
      subst ek
      obtain ⟨t, ht⟩ := Value.isStrOf_shape h1
      obtain ⟨eh, ekey, ev⟩ := e
      simp only at ht hk2 h2
      subst ht h2
      have hh : eh = PyData.keyHash w.params kv.1 := hk2
      subst hh
      refine ⟨by simp only [List.map_cons, i1], fun i p hi => ?_⟩
      cases i with
      | zero => simp at hi; subst hi; exact ⟨t, rfl⟩
      | succ i => simp at hi; obtain ⟨t', h'⟩ := i2 i p hi; exact ⟨t', by simpa using h'⟩
  obtain ⟨k1, k2⟩ := key es.toList kvs (fun e he => hk e (by simpa using he)) hp
  refine ⟨es.toList, ep, ?_, k1, k2⟩
  obtain ⟨c, d, dt, sl⟩ := o
  simp only at e1 e2 e3 e4
  subst e1 e2 e3 e4
  simp
end
theorem offC4 : True := by
  w_top off
  exact True.intro
section
variable {prog : Program} {w : World} {A : Around} {E : Value → Shared → Prop} {s : Shared}
theorem comp_coreT {R : Result → Shared → Prop} {elt target iter : Expr} {scope : Scope} {pos : Pos} {I D C L : Addr} {cenv : Env} {g : Heap} {m : Str → Option Value} {fp : List Addr} {n : Nat} {P : Nat → Value → Prop} {St : Nat → Heap → Prop} {side : List (Addr × Obj)}
    (W : Walks prog w A I fp [I] n P St) (hfp : ∀ b ∈ fp, b = I ∨ (∃ o, (b, o) ∈ side) ∨ ∃ o, g.get? b = some o) (hn : n ≤ 1000000) (hCI : C ≠ I) (hCD : C ≠ D) (hID : I ≠ D) (J : Nat → List Value → List (Addr × Obj) → Prop)
    {cI : Value} (hSt : ∀ i h, St i h → ∃ o, h.get? I = some o ∧ o.cls = cI)
    (turn : ∀ i vals nws h tk oC oI mC nn v E', i < n → P i v → oI.cls = cI → J i vals nws → Fr g L h m → News g L h ((C, oC) :: (I, oI) :: (D, listOf vals.toArray nn) :: nws) → NsObj oC mC → (∀ p ∈ nws, p.1 ≠ C ∧ p.1 ≠ I ∧ p.1 ≠ D) → (∀ p ∈ side, p ∈ nws) →
      wpAny (model prog w) A (letOwnedTupleGo target (.ref I) v) (fun _ s₁ => wpAny (model prog w) A (assign target cenv v) (fun _ s₂ => wpAny (model prog w) A (eval elt cenv) (CEnd g L C I D oI vals nn m side (J (i + 1)) s) E' s₂) E' s₁) E' { s with heap := h, toks := tk })
    (done : ∀ vals nws h tk oC mC nn, J n vals nws → vals.length = n → Fr g L h m → News g L h ((C, oC) :: (D, listOf vals.toArray nn) :: nws) → NsObj oC mC → (∀ p ∈ nws, p.1 ≠ C ∧ p.1 ≠ I ∧ p.1 ≠ D) → R (.ok .next) { s with heap := h, toks := tk }) :
    ∀ k i vals nws h tk oC oI mC nn, i + k = n → vals.length = i → St i h → J i vals nws → Fr g L h m → News g L h ((C, oC) :: (I, oI) :: (D, listOf vals.toArray nn) :: nws) → NsObj oC mC → (∀ p ∈ nws, p.1 ≠ C ∧ p.1 ≠ I ∧ p.1 ≠ D) → (∀ p ∈ side, p ∈ nws) →
      codeAny (model prog w) A (.compLoop (.ListComp elt [⟨target, iter, [], 0⟩] scope pos) 0 (.ref I) (.ref D) cenv) R { s with heap := h, toks := tk } := by
  intro k
  induction k with
  | zero =>
    intro i vals nws h tk oC oI mC nn hi hl st hJ F N hO hne hsd
    have hi' : i = n := by omega
    subst hi'
    refine comp_step fun E' => ?_
    refine W.done _ _ _ st fun h' tk' hk => ?_
    have hb : ∀ b o, b ≠ I → h.get? b = some o → h'.get? b = some o := fun b o hb e => hk b o (by simpa using hb) e
    have hI := N (I, oI) (.tail _ (.head _))
    refine done vals nws h' tk' oC mC nn hJ hl (frBut F hI.2.1 hI.2.2 hb) (List.forall_mem_cons.mpr ⟨⟨hb _ _ hCI (N _ (.head _)).1, (N _ (.head _)).2⟩, List.forall_mem_cons.mpr ⟨⟨hb _ _ (fun e => hID e.symm) (N _ (.tail _ (.tail _ (.head _)))).1, (N _ (.tail _ (.tail _ (.head _)))).2⟩, fun p hp => ?_⟩⟩) hO hne
    have := N p (.tail _ (.tail _ (.tail _ hp)))
    exact ⟨hb _ _ (hne p hp).2.1 this.1, this.2⟩
  | succ k ih =>
    intro i vals nws h tk oC oI mC nn hi hl st hJ F N hO hne hsd
    refine comp_step fun E' => ?_
    refine W.item i _ _ _ (by omega) st fun v h' tk' hP st' hk => ?_
    have hb : ∀ b o, b ≠ I → h.get? b = some o → h'.get? b = some o := fun b o hb e => hk b o (by simpa using hb) e
    have hI := N (I, oI) (.tail _ (.head _))
    obtain ⟨oI', hoI', hcI⟩ := hSt _ _ st'
    have F' := frBut F hI.2.1 hI.2.2 hb
    have N' : News g L h' ((C, oC) :: (I, oI') :: (D, listOf vals.toArray nn) :: nws) := List.forall_mem_cons.mpr ⟨⟨hb _ _ hCI (N _ (.head _)).1, (N _ (.head _)).2⟩, List.forall_mem_cons.mpr ⟨⟨hoI', hI.2⟩, List.forall_mem_cons.mpr ⟨⟨hb _ _ (fun e => hID e.symm) (N _ (.tail _ (.tail _ (.head _)))).1, (N _ (.tail _ (.tail _ (.head _)))).2⟩, fun p hp => by
      have := N p (.tail _ (.tail _ (.tail _ hp)))
      exact ⟨hb _ _ (hne p hp).2.1 this.1, this.2⟩⟩⟩⟩
    refine wpAny_mono (turn i vals nws h' tk' oC oI' mC nn v E' (by omega) hP hcI hJ F' N' hO hne hsd) (fun _ s₁ h₁ => wpAny_mono h₁ (fun _ s₂ h₂ => wpAny_mono h₂ (fun y s₃ h₃ => ?_) fun _ _ e => e) fun _ _ e => e) fun _ _ e => e
    obtain ⟨h3, tk3, nws3, oC3, mC3, rfl, F3, N3, hO3, hne3, hsd3, hJ3⟩ := h₃
    have hU : Upd D (listOf vals.toArray nn) (listOf (vals.toArray.push y) (nn + 1)) ((C, oC3) :: (I, oI') :: (D, listOf vals.toArray nn) :: nws3) ((C, oC3) :: (I, oI') :: (D, listOf (vals.toArray.push y) (nn + 1)) :: nws3) :=
      .tail hCD (.tail hID (.head fun p hp => (hne3 p hp).2.2))
    refine append_K (its := vals.toArray) F3 N3 hU (fun h4 F4 N4 => ?_) (by rw [sizeLine_eq, List.size_toArray]; omega)
    rw [List.push_toArray] at N4
    refine ih (i + 1) (vals ++ [y]) nws3 h4 tk3 oC3 oI' mC3 (nn + 1) (by omega) (by simp [hl]) ?_ hJ3 F4 N4 hO3 hne3 hsd3
    refine W.frame _ _ _ st' fun b hb' o e => ?_
    rcases hfp b hb' with rfl | ⟨o', ho'⟩ | ⟨o', ho'⟩
    · rw [hoI'] at e
      cases e
      exact (N4 _ (.tail _ (.head _))).1
    · have e1 := (N' (b, o') (.tail _ (.tail _ (.tail _ (hsd _ ho'))))).1
      rw [e1] at e
      cases e
      exact (N4 _ (.tail _ (.tail _ (.tail _ (hsd3 _ ho'))))).1
    · have e1 := F'.keep _ _ ho'
      rw [e1] at e
      cases e
      exact F4.keep _ _ ho'
theorem comp_blockT {E : Value → Shared → Prop} {use : Option (Value → Sem Unit)} {Q : Value → Shared → Prop} {elt target iter : Expr} {scope : Scope} {pos : Pos} {cl : List (Str × Addr)} {env : Env} {I L : Addr} {g : Heap} {m : Str → Option Value} {fp : List Addr} {n : Nat} {P : Nat → Value → Prop} {St : Nat → Heap → Prop} {side news : List (Addr × Obj)} {oI : Obj}
    (hcell : ∀ y ∈ scope.names, y.2 ≠ .cell) (hkind : scope.kind = .function) (F : Fr g L s.heap m) (N : News g L s.heap ((I, oI) :: news)) (hneI : ∀ p ∈ news, p.1 ≠ I)
    (W : Walks prog w A I fp [I] n P St) (hst : St 0 s.heap) {cI : Value} (hSt : ∀ i h, St i h → ∃ o, h.get? I = some o ∧ o.cls = cI) (hfp : ∀ b ∈ fp, b = I ∨ (∃ o, (b, o) ∈ side) ∨ ∃ o, g.get? b = some o) (hsd : ∀ p ∈ side, p ∈ news) (hn : n ≤ 1000000) (J : Nat → List Value → List (Addr × Obj) → Prop) (h0 : J 0 [] news)
    (turn : ∀ C D, (∀ p ∈ (I, oI) :: news, p.1 < D) → @LT.lt Nat _ D C → ∀ i vals nws h tk oC oI mC nn v E', i < n → P i v → oI.cls = cI → J i vals nws → Fr g L h m → News g L h ((C, oC) :: (I, oI) :: (D, listOf vals.toArray nn) :: nws) → NsObj oC mC → (∀ p ∈ nws, p.1 ≠ C ∧ p.1 ≠ I ∧ p.1 ≠ D) → (∀ p ∈ side, p ∈ nws) →
      wpAny (model prog w) A (letOwnedTupleGo target (.ref I) v) (fun _ s₁ => wpAny (model prog w) A (assign target (compEnvC scope cl C env) v) (fun _ s₂ => wpAny (model prog w) A (eval elt (compEnvC scope cl C env)) (CEnd g L C I D oI vals nn m side (J (i + 1)) s) E' s₂) E' s₁) E' { s with heap := h, toks := tk })
    (done : ∀ C D, (∀ p ∈ (I, oI) :: news, p.1 < D) → @LT.lt Nat _ D C → ∀ vals nws h tk oC mC nn, J n vals nws → vals.length = n → Fr g L h m → News g L h ((C, oC) :: (D, listOf vals.toArray nn) :: nws) → NsObj oC mC → (∀ p ∈ nws, p.1 ≠ C ∧ p.1 ≠ I ∧ p.1 ≠ D) →
      compPost (model prog w) A E use Q (.ref D) C (.ok .next) { s with heap := h, toks := tk }) :
    wpAny (model prog w) A (newList []) (fun acc s₃ => wpAny (model prog w) A (newFunctionEnv scope env.globals cl [] env.qual none .none (some env)) (fun cenv s₄ =>
      codeAny (model prog w) A (.compStart (.ListComp elt [⟨target, iter, [], 0⟩] scope pos) 0 (.ref I) acc { cenv with scope := relabel scope env }) (compPost (model prog w) A E use Q acc cenv.locals) s₄) E s₃) E s := by
  have hI := N _ (.head _)
  have hlt : ∀ p ∈ (I, oI) :: news, p.1 < s.heap.objs.size := fun p hp => Heap.lt_size (N p hp).1
  refine wpAny_newObj_type (wpAny_newFunctionEnv hcell (by intro y hy; simp at hy) (fun h₁ hns₁ hsb₁ => ?_) hkind)
  dsimp only at hns₁ hsb₁ ⊢
  have F2 := F.push (listOf (([] : List Value).toArray) 0)
  have N2 := N.push F (listOf (([] : List Value).toArray) 0)
  generalize hH2 : s.heap.push { cls := .type "list", dict := none, data := .seq ([] : List Value).toArray } = H2 at hns₁ hsb₁ ⊢
  have eH2 : s.heap.push (listOf (([] : List Value).toArray) 0) = H2 := hH2
  rw [eH2] at F2 N2
  have hC : H2.objs.size = s.heap.objs.size + 1 := by rw [← hH2, Heap.size_push]
  have hDC : @LT.lt Nat _ s.heap.objs.size H2.objs.size := by rw [hC]; exact Nat.lt_succ_self _
  have hk : ∀ b o, H2.get? b = some o → h₁.get? b = some o := fun b o e => hsb₁.extBut b o (Nat.ne_of_lt (Heap.lt_size e)) (Heap.get?_push_of_some _ e)
  obtain ⟨oC, hoC, hOC⟩ := nsObj_of hns₁
  have F3 := F2.keeps hk
  have N3 : News g L h₁ ((H2.objs.size, oC) :: (s.heap.objs.size, listOf (([] : List Value).toArray) 0) :: (I, oI) :: news) := by
    refine List.forall_mem_cons.mpr ⟨⟨hoC, fun e => ?_, ?_⟩, N2.grown hk⟩
    · exact absurd F2.ns.lt (by rw [← e]; exact Nat.lt_irrefl _)
    · exact next_is_new F2
  have hne : ∀ p ∈ news, p.1 ≠ H2.objs.size ∧ p.1 ≠ I ∧ p.1 ≠ s.heap.objs.size := fun p hp => ⟨Nat.ne_of_lt (Nat.lt_trans (hlt p (.tail _ hp)) hDC), hneI p hp, Nat.ne_of_lt (hlt p (.tail _ hp))⟩
  have hID : @LT.lt Nat _ I s.heap.objs.size := hlt _ (.head _)
  have hst₁ : St 0 h₁ := W.frame _ _ _ hst fun b hb o e => hk b o (by rw [← hH2]; exact Heap.get?_push_of_some _ e)
  have loop : ∀ tk, codeAny (model prog w) A (.compLoop (.ListComp elt [⟨target, iter, [], 0⟩] scope pos) 0 (.ref I) (.ref s.heap.objs.size) (compEnvC scope cl H2.objs.size env)) (compPost (model prog w) A E use Q (.ref s.heap.objs.size) H2.objs.size) { s with heap := h₁, toks := tk } := by
    intro tk
    refine comp_coreT (s := s) W hfp hn (Nat.ne_of_gt (Nat.lt_trans hID hDC)) (Nat.ne_of_gt hDC) (Nat.ne_of_lt hID) J hSt (turn _ _ hlt hDC) (done _ _ hlt hDC) n 0 [] news h₁ tk oC oI _ 0 (by omega) rfl hst₁ h0 F3 ?_ hOC hne hsd
    intro p hp
    rcases List.mem_cons.mp hp with rfl | hp
    · exact N3 _ (.head _)
    · rcases List.mem_cons.mp hp with rfl | hp
      · exact N3 _ (.tail _ (.tail _ (.head _)))
      · rcases List.mem_cons.mp hp with rfl | hp
        · exact N3 _ (.tail _ (.head _))
        · exact N3 _ (.tail _ (.tail _ (.tail _ hp)))
  exact codeAny_compStart_list (loop _) (W.self 0 _ _ _ hst₁ (loop _))
theorem go_list {elts : List Expr} {kk : Nat} {tp : Pos} {I T : Addr} {oI : Obj} {Q : Unit → Shared → Prop} (hI : s.heap.get? I = some oI) (hc : oI.cls = .type "list_iterator") (h : Q () s) : wpAny (model prog w) A (letOwnedTupleGo (.Tuple elts kk tp) (.ref I) (.ref T)) Q E s := by
  unfold letOwnedTupleGo
  refine wpAny_bind (wpAny_load hI ?_)
  obtain ⟨c, d, dat, sl⟩ := oI
  simp only at hc
  subst hc
  cases dat with
  | fields vs =>
    show wpAny _ A (if (["enumerate", "zip", "dict_itemiterator", "dict_reverseitemiterator", "odict_iterator", "itertools.zip_longest", "itertools.pairwise"].contains "list_iterator" && vs[0]? == some (rawInt T)) = true then _ else _) Q E s
    rw [if_neg (by simp)]
    exact wpAny_pure h
  | _ => exact wpAny_pure h
noncomputable abbrev tupK (vs : List Value) (k : Nat) : Obj := { cls := .type "tuple", data := .seq vs.toArray k }
/-- over a list of pairs, with a name for each side -/
theorem comp_pairs {use : Option (Value → Sem Unit)} {Q : Value → Shared → Prop} {elt iter : Expr} {xa xb : Str} {pa pb tp : Pos} {kk : Nat} {scope : Scope} {pos : Pos} {cl : List (Str × Addr)} {env : Env} {l L : Addr} {g : Heap} {m : Str → Option Value} {its : List Value} {nl : Nat} {news : List (Addr × Obj)}
    (hA : A.handled = none) (hcell : ∀ y ∈ scope.names, y.2 ≠ .cell) (hkind : scope.kind = .function) (hxa : scope.names.lookup xa = some .local) (hxb : scope.names.lookup xb = some .local) (hm : (l, listOf its.toArray nl) ∈ news) (hn : its.length ≤ 1000000)
    (F : Fr g L s.heap m) (N : News g L s.heap news) (J : Nat → List Value → List (Addr × Obj) → Prop) (h0 : J 0 [] news)
    (tup : ∀ i vals nws, i < its.length → J i vals nws → ∃ T x y k, its[i]? = some (.ref T) ∧ (T, tupK [x, y] k) ∈ nws)
    (turn : ∀ C D I, (∀ p ∈ news, p.1 < I) → @LT.lt Nat _ I D → @LT.lt Nat _ D C → ∀ i vals nws h tk oC oI (mC : Str → Option Value) nn T x y k E', i < its.length → its[i]? = some (.ref T) → (T, tupK [x, y] k) ∈ nws → J i vals nws → Fr g L h m → News g L h ((C, oC) :: (I, oI) :: (D, listOf vals.toArray nn) :: nws) → NsObj oC (fun z => if z = xb then some y else if z = xa then some x else mC z) → (∀ p ∈ nws, p.1 ≠ C ∧ p.1 ≠ I ∧ p.1 ≠ D) → (l, listOf its.toArray nl) ∈ nws →
      wpAny (model prog w) A (eval elt (compEnvC scope cl C env)) (CEnd g L C I D oI vals nn m [(l, listOf its.toArray nl)] (J (i + 1)) s) E' { s with heap := h, toks := tk })
    (done : ∀ C D, (∀ p ∈ news, p.1 < D) → @LT.lt Nat _ D C → ∀ vals nws h tk oC mC nn, J its.length vals nws → vals.length = its.length → Fr g L h m → News g L h ((C, oC) :: (D, listOf vals.toArray nn) :: nws) → NsObj oC mC → (∀ p ∈ nws, p.1 ≠ C ∧ p.1 ≠ D) →
      compPost (model prog w) A E use Q (.ref D) C (.ok .next) { s with heap := h, toks := tk }) :
    wpAny (model prog w) A (pyIter (.ref l)) (fun it s₂ => wpAny (model prog w) A (newList []) (fun acc s₃ => wpAny (model prog w) A (newFunctionEnv scope env.globals cl [] env.qual none .none (some env)) (fun cenv s₄ =>
      codeAny (model prog w) A (.compStart (.ListComp elt [⟨.Tuple [.Name xa pa, .Name xb pb] kk tp, iter, [], 0⟩] scope pos) 0 it acc { cenv with scope := relabel scope env }) (compPost (model prog w) A E use Q acc cenv.locals) s₄) E s₃) E s₂) E s := by
  have hl : s.heap.IsList l its.toArray := ⟨_, (N _ hm).1, rfl, nl, rfl⟩
  have hlt : ∀ p ∈ news, p.1 < s.heap.objs.size := fun p hp => Heap.lt_size (N p hp).1
  have hkC : ∀ C, (compEnvC scope cl C env).scope.kind = .function := fun C => by simp [compEnvC, relabel, hkind]
  refine wpAny_pyIter_list hl ?_
  refine comp_blockT (s := { s with heap := s.heap.push _ }) (n := its.length) (cI := .type "list_iterator") (side := [(l, listOf its.toArray nl)]) (target := .Tuple [.Name xa pa, .Name xb pb] kk tp) hcell hkind (F.push _) (N.push F _) (fun p hp => Nat.ne_of_lt (hlt p hp)) (fp := [s.heap.objs.size, l]) (P := fun i v => its.toArray[i]? = some v) (St := fun i h => h.IsListIter s.heap.objs.size l i ∧ h.IsList l its.toArray) (Walks.list hA s.heap.objs.size l (Nat.ne_of_lt (hlt _ hm)) its.toArray)
    ⟨⟨_, Heap.get?_push_size _ rfl, rfl, rfl⟩, hl.push _⟩ (fun i h st => by obtain ⟨o, e, c, _⟩ := st.1; exact ⟨o, e, c⟩) (fun b hb => ?_) (fun p hp => by simp at hp; subst hp; exact hm) hn J h0 ?_ ?_
  · simp only [List.mem_cons, List.not_mem_nil, or_false] at hb
    rcases hb with rfl | rfl
    · exact .inl rfl
    · exact .inr (.inl ⟨_, .head _⟩)
  · intro C D hD hDC i vals nws h tk oC oI' mC nn v E' hi hP hcI hJ F1 N1 hO hne hsd'
    obtain ⟨T, x, y, k, hT1, hT2⟩ := tup i vals nws hi hJ
    have hv : v = .ref T := by
      have : its[i]? = some v := by simpa using hP
      rw [hT1] at this
      exact (Option.some.inj this).symm
    subst hv
    refine go_list (N1 _ (.tail _ (.head _))).1 hcI ?_
    have hC := N1 _ (.head _)
    refine kcp_assign (env := compEnvC scope cl C env) hA (x := x) (y := y) ⟨_, (N1 _ (.tail _ (.tail _ (.tail _ hT2)))).1, rfl, k, rfl⟩ (lookup_relabel_local hxa) (lookup_relabel_local hxb) (by rw [hkC]; rfl) (hO _ _ hC.1) fun h' tk' hn' hk' => ?_
    have hIC := hD _ (.head _)
    have hneC : ∀ p ∈ (s.heap.objs.size, oI') :: (D, listOf vals.toArray nn) :: nws, p.1 ≠ C := List.forall_mem_cons.mpr ⟨Nat.ne_of_lt (Nat.lt_trans hIC hDC), List.forall_mem_cons.mpr ⟨Nat.ne_of_lt hDC, fun p hp => (hne p hp).1⟩⟩
    obtain ⟨oC', hoC', hO'⟩ := nsObj_of hn'
    exact turn C D _ hlt hIC hDC i vals nws h' tk' oC' oI' _ nn T x y k E' hi hT1 hT2 hJ (frBut F1 hC.2.1 hC.2.2 hk') (List.forall_mem_cons.mpr ⟨⟨hoC', hC.2⟩, fun p hp => ⟨hk' _ _ (hneC p hp) (N1 p (.tail _ hp)).1, (N1 p (.tail _ hp)).2⟩⟩) hO' hne (hsd' _ (.head _))
  · intro C D hD hDC vals nws h tk oC mC nn hJ hl' F1 N1 hO hne
    exact done C D (fun p hp => hD p (.tail _ hp)) hDC vals nws h tk oC mC nn hJ hl' F1 N1 hO fun p hp => ⟨(hne p hp).1, (hne p hp).2.2⟩
end
theorem offPL2 : True := by
  w_top off
  exact True.intro
noncomputable def IsSeqL (h : Heap) (l : Addr) (items : Array Value) : Prop := ∃ o n, h.get? l = some o ∧ o.data = .seq items n
section
variable {prog : Program} {w : World} {A : Around} {E : Value → Shared → Prop} {s : Shared} {K : Frag} {x C : Addr} {ox : Obj} {od : Option Obj}
theorem pyIter_L {Q : Value → Shared → Prop} (X : K.In s.heap) (I : InstAt s.heap x ox C od) (hs : findIn K (.ref C) "__iter__" = some (some (.builtin "list.__iter__"))) (hli : subIn K (.ref C) (.type "list") = some true)
    (hQ : Q (.ref s.heap.objs.size) { s with heap := s.heap.push { cls := .type "list_iterator", data := .fields #[.ref x, .int 0 0] } }) : wpAny (model prog w) A (pyIter (.ref x)) Q E s := by
  have hc : wpAny (model prog w) A (call (.builtin "list.__iter__") [.ref x]) (fun it s' => it = .ref s.heap.objs.size ∧ s' = { s with heap := s.heap.push { cls := .type "list_iterator", data := .fields #[.ref x, .int 0 0] } }) E s := by
    refine wpAny_call (codeAny_call_builtin (by decide +kernel) entry_list_iter (check_slot (owner := "list") (n := "__iter__") (by decide +kernel) (by decide +kernel) (I.type.andThen (looks_subIn X hli)) (args_list_iter _) ?_))
    show wpAny _ _ (do ret (← newFields "list_iterator" [.ref x, rawInt 0])) _ _ s
    exact wpAny_bind (wpAny_newObj_type (wpAny_pure ⟨rfl, rfl⟩))
  have one : ∀ refuse : Sem Value, wpAny (model prog w) A (callSpecialIfBoundUnlessNone? (.ref x) "__iter__" refuse) (fun r s' => r = some (.ref s.heap.objs.size) ∧ s' = { s with heap := s.heap.push { cls := .type "list_iterator", data := .fields #[.ref x, .int 0 0] } }) E s := by
    intro refuse
    simp only [callSpecialIfBoundUnlessNone?, bindSpecialIfBound?]
    refine wpAny_holding (wpAny_bind (wpAny_bind (wpAny_bind (I.type.here ((looks_findIn X hs).here ?_)))))
    simp only [slot_list_iter.bind]
    refine wpAny_bind (wpAny_askSetting (wpAny_ite ?_))
    have fin : wpAny (model prog w) A (if (Value.builtin "list.__iter__" == Value.none) = true then (refuse >>= fun v => pure (some v)) else (call (.builtin "list.__iter__") [.ref x] >>= fun v => pure (some v))) (fun r s' => r = some (.ref s.heap.objs.size) ∧ s' = { s with heap := s.heap.push { cls := .type "list_iterator", data := .fields #[.ref x, .int 0 0] } }) E s := by
      rw [if_neg (show ¬ ((Value.builtin "list.__iter__" == Value.none) = true) by decide)]
      exact wpAny_bind (wpAny_mono hc (fun v s' h' => wpAny_pure ⟨by rw [h'.1], h'.2⟩) fun _ _ h' => h')
    split
    · exact wpAny_bind (wpAny_pure (wpAny_pure fin))
    · exact wpAny_tryCatch (wpAny_bind (wpAny_pure (wpAny_pure fin)))
  unfold pyIter
  refine wpAny_bind (wpAny_bind (I.type.here ((looks_findIn X hs).here ?_)))
  show wpAny _ A (callSpecialIfBoundUnlessNone? (.ref x) "__iter__" _ >>= _) Q E s
  refine wpAny_bind (wpAny_mono (one _) (fun r s' hr => ?_) fun _ _ z => z)
  obtain ⟨rfl, rfl⟩ := hr
  have hT : ({ s with heap := s.heap.push { cls := .type "list_iterator", data := .fields #[.ref x, .int 0 0] } } : Shared).TypeIs (.ref s.heap.objs.size) "list_iterator" := ⟨_, Heap.get?_push_size _ rfl, rfl⟩
  exact wpAny_bind (wpAny_specialOf hT slot_listiter_next.lookup (wpAny_pure hQ))
theorem pyNext_L_item {it l : Addr} {i : Nat} {items : Array Value} {v : Value} {Q : Option Value → Shared → Prop} (hit : s.heap.IsListIter it l i) (hl : IsSeqL s.heap l items) (hx : items[i]? = some v)
    (hQ : ∀ h', h'.IsListIter it l (i + 1) → Heap.SameBut it s.heap h' → Q (some v) { s with heap := h' }) : wpAny (model prog w) A (pyNext (.ref it)) Q E s := by
  obtain ⟨o, ho, hc, hd⟩ := id hit
  obtain ⟨ol, nl, hol, hdl⟩ := hl
  unfold pyNext
  refine wpAny_bind (wpAny_attempt (wpAny_callSpecial?_slot (name := Str.ofString "__next__") hit.typeIs slot_listiter_next (wpAny_call_entry slot_listiter_next hit.typeIs entry_listiter_next ?_ (args_listiter_next _))))
  show wpAny _ _ (field (.ref it) 0 >>= _) _ _ s
  refine wpAny_bind (wpAny_field ho hd (x := .ref l) rfl ?_)
  show wpAny _ _ (if (Value.ref l == Value.none) = true then _ else _) _ _ s
  rw [if_neg (show ¬ ((Value.ref l == Value.none) = true) from Bool.false_ne_true)]
  show wpAny _ _ (field (.ref it) 1 >>= _) _ _ s
  refine wpAny_bind (wpAny_field ho hd (x := .int i 0) rfl ?_)
  show wpAny _ _ (seqItems? (.ref l) >>= _) _ _ s
  refine wpAny_bind (wpAny_seqItems hol hdl ?_)
  simp only [Int.toNat_natCast, hx]
  refine wpAny_bind (wpAny_setField ho hd (by simp) (wpAny_pure ⟨v, rfl, wpAny_pure (hQ _ ?_ (Heap.SameBut.update ..))⟩))
  exact ⟨_, Heap.get?_update_self _ ho (Obj.isFreed_of_fields (Obj.data_mapFields hd _)), (Obj.cls_mapFields ..).trans hc, by rw [Obj.data_mapFields hd]; simp [rawInt]⟩
theorem pyNext_L_end {it l : Addr} {i : Nat} {items : Array Value} {Q : Option Value → Shared → Prop} (hh : A.handled = none) (hit : s.heap.IsListIter it l i) (hl : IsSeqL s.heap l items) (hx : items[i]? = none)
    (hQ : ∀ h', Heap.ExtBut it s.heap h' → Q none { s with heap := h' }) : wpAny (model prog w) A (pyNext (.ref it)) Q E s := by
  obtain ⟨o, ho, hc, hd⟩ := id hit
  obtain ⟨ol, nl, hol, hdl⟩ := hl
  unfold pyNext
  refine wpAny_bind (wpAny_attempt (wpAny_callSpecial?_slot (name := Str.ofString "__next__") hit.typeIs slot_listiter_next (wpAny_call_entry slot_listiter_next hit.typeIs entry_listiter_next ?_ (args_listiter_next _))))
  show wpAny _ _ (field (.ref it) 0 >>= _) _ _ s
  refine wpAny_bind (wpAny_field ho hd (x := .ref l) rfl ?_)
  show wpAny _ _ (if (Value.ref l == Value.none) = true then _ else _) _ _ s
  rw [if_neg (show ¬ ((Value.ref l == Value.none) = true) from Bool.false_ne_true)]
  show wpAny _ _ (field (.ref it) 1 >>= _) _ _ s
  refine wpAny_bind (wpAny_field ho hd (x := .int i 0) rfl ?_)
  show wpAny _ _ (seqItems? (.ref l) >>= _) _ _ s
  refine wpAny_bind (wpAny_seqItems hol hdl ?_)
  simp only [Int.toNat_natCast, hx]
  refine wpAny_bind (wpAny_rule (wpAny_bind (wpAny_setField ho hd (by simp) ?_)))
  show wpAny _ _ (newExc (.type "StopIteration") [] >>= _) _ _ _
  refine wpAny_bind ?_
  simp only [newExc, newTuple]
  refine wpAny_bind (wpAny_newObj_type ?_ (by size_fits))
  refine wpAny_bind (m := firstArgMember _ _) (wpAny_of_eq (a := Value.none) (by first | rfl | (simp only [firstArgMember]; rfl)) ?_)
  refine wpAny_newObj_type ?_ (by size_fits)
  simp only [raiseNew]
  refine wpAny_bind (wpAny_handled ?_)
  rw [show A.in1.handled = none from hh]
  refine wpAny_bind (wpAny_pure (wpAny_throw ?_))
  refine wpAny_bind (wpAny_isInstance (T := "StopIteration") (b := true) ⟨_, Heap.get?_push_size _ rfl, rfl⟩ isSubtype_stop ?_)
  exact wpAny_pure (hQ _ (((Heap.SameBut.update ..).extBut.push _).push _))
end
theorem walks_L {prog : Program} {w : World} {A : Around} (hh : A.handled = none) (I ax : Addr) (hne : ax ≠ I) (items : Array Value) :
    Walks prog w A I [I, ax] [I] items.size (fun i v => items[i]? = some v) (fun i h => h.IsListIter I ax i ∧ IsSeqL h ax items) where
  sub := fun b hb => by simp at hb; simp [hb]
  frame := fun _ _ _ st hk => ⟨st.1.at fun o e => hk I (by simp) o e, let ⟨o, n, e, r⟩ := st.2; ⟨o, n, hk ax (by simp) o e, r⟩⟩
  item := fun i s Q E hi st hQ => by
    refine pyNext_L_item st.1 st.2 (v := items[i]) (by simp [hi]) fun h' hit' hs' => ?_
    exact hQ _ h' s.toks (by simp [hi]) ⟨hit', let ⟨o, n, e, r⟩ := st.2; ⟨o, n, hs'.extBut _ _ hne e, r⟩⟩ fun b o hb e => hs'.extBut b o (fun h => hb (by simp [h])) e
  done := fun s Q E st hQ => pyNext_L_end hh st.1 st.2 (by simp) fun h' he' => hQ h' s.toks fun b o hb e => he' b o (fun h => hb (by simp [h])) e
  self := fun _ _ _ _ st hQ => wpAny_pyIter_listiter st.1 hQ
theorem acc_iter (P : Params) : findIn (frag.heap_1 P) (.ref 109) "__iter__" = some (some (.builtin "list.__iter__")) := by kernel_rfl
section
variable {prog : Program} {w : World} {A : Around} {E : Value → Shared → Prop} {s : Shared}
/-- over an object of a class over list -/
theorem comp_L {use : Option (Value → Sem Unit)} {Q : Value → Shared → Prop} {elt iter : Expr} {x : Str} {px : Pos} {scope : Scope} {pos : Pos} {cl : List (Str × Addr)} {env : Env} {l dx C₁ L : Addr} {g : Heap} {m : Str → Option Value} {its : List Value} {nl : Nat} {news : List (Addr × Obj)} {K : Frag} {o : Obj}
    (hA : A.handled = none) (hcell : ∀ y ∈ scope.names, y.2 ≠ .cell) (hkind : scope.kind = .function) (hx : scope.names.lookup x = some .local) (X : K.In s.heap) (hit : findIn K (.ref C₁) "__iter__" = some (some (.builtin "list.__iter__"))) (hli : subIn K (.ref C₁) (.type "list") = some true)
    (hm : (l, lobj C₁ dx its.toArray nl) ∈ news) (hdx : (dx, o) ∈ news) (hn : its.length ≤ 1000000)
    (F : Fr g L s.heap m) (N : News g L s.heap news) (J : Nat → List Value → List (Addr × Obj) → Prop) (h0 : J 0 [] news)
    (turn : ∀ C D I, (∀ p ∈ news, p.1 < I) → @LT.lt Nat _ I D → @LT.lt Nat _ D C → ∀ i vals nws h tk oC oI (mC : Str → Option Value) nn v E', i < its.length → its[i]? = some v → J i vals nws → Fr g L h m → News g L h ((C, oC) :: (I, oI) :: (D, listOf vals.toArray nn) :: nws) → NsObj oC (fun y => if y = x then some v else mC y) → (∀ p ∈ nws, p.1 ≠ C ∧ p.1 ≠ I ∧ p.1 ≠ D) → (l, lobj C₁ dx its.toArray nl) ∈ nws →
      wpAny (model prog w) A (eval elt (compEnvC scope cl C env)) (CEnd g L C I D oI vals nn m [(l, lobj C₁ dx its.toArray nl)] (J (i + 1)) s) E' { s with heap := h, toks := tk })
    (done : ∀ C D, (∀ p ∈ news, p.1 < D) → @LT.lt Nat _ D C → ∀ vals nws h tk oC mC nn, J its.length vals nws → vals.length = its.length → Fr g L h m → News g L h ((C, oC) :: (D, listOf vals.toArray nn) :: nws) → NsObj oC mC → (∀ p ∈ nws, p.1 ≠ C ∧ p.1 ≠ D) →
      compPost (model prog w) A E use Q (.ref D) C (.ok .next) { s with heap := h, toks := tk }) :
    wpAny (model prog w) A (pyIter (.ref l)) (fun it s₂ => wpAny (model prog w) A (newList []) (fun acc s₃ => wpAny (model prog w) A (newFunctionEnv scope env.globals cl [] env.qual none .none (some env)) (fun cenv s₄ =>
      codeAny (model prog w) A (.compStart (.ListComp elt [⟨.Name x px, iter, [], 0⟩] scope pos) 0 it acc { cenv with scope := relabel scope env }) (compPost (model prog w) A E use Q acc cenv.locals) s₄) E s₃) E s₂) E s := by
  have hl : IsSeqL s.heap l its.toArray := ⟨_, nl, (N _ hm).1, rfl⟩
  have hlt : ∀ p ∈ news, p.1 < s.heap.objs.size := fun p hp => Heap.lt_size (N p hp).1
  refine pyIter_L X (instL N hm hdx) hit hli ?_
  refine comp_walk (s := { s with heap := s.heap.push _ }) (n := its.length) (side := [(l, lobj C₁ dx its.toArray nl)]) hcell hkind hx (F.push _) (N.push F _) (fun p hp => Nat.ne_of_lt (hlt p hp)) (fp := [s.heap.objs.size, l]) (P := fun i v => its.toArray[i]? = some v) (St := fun i h => h.IsListIter s.heap.objs.size l i ∧ IsSeqL h l its.toArray) (walks_L hA s.heap.objs.size l (Nat.ne_of_lt (hlt _ hm)) its.toArray)
    ⟨⟨_, Heap.get?_push_size _ rfl, rfl, rfl⟩, ⟨_, nl, Heap.get?_push_of_some _ (N _ hm).1, rfl⟩⟩ (fun i h st => by obtain ⟨o, e, _⟩ := st.1; exact ⟨o, e⟩) (fun b hb => ?_) (fun p hp => by simp at hp; subst hp; exact hm) hn J h0 ?_ ?_
  · simp only [List.mem_cons, List.not_mem_nil, or_false] at hb
    rcases hb with rfl | rfl
    · exact .inl rfl
    · exact .inr (.inl ⟨_, .head _⟩)
  · intro C D hD hDC i vals nws h tk oC oI' mC nn v E' hi hP hJ F1 N1 hO hne hsd'
    exact turn C D _ hlt (hD _ (.head _)) hDC i vals nws h tk oC oI' mC nn v E' hi (by simpa using hP) hJ F1 N1 hO hne (hsd' _ (.head _))
  · intro C D hD hDC vals nws h tk oC mC nn hJ hl' F1 N1 hO hne
    exact done C D (fun p hp => hD p (.tail _ hp)) hDC vals nws h tk oC mC nn hJ hl' F1 N1 hO fun p hp => ⟨(hne p hp).1, (hne p hp).2.2⟩
end
theorem offR2 : True := by
  w_top off
  exact True.intro
section
variable {prog : Program} {w : World} {A : Around} {E : Value → Shared → Prop} {s : Shared}
/-- a for over what one iterator of its own hands on -/
theorem for_walks {env : Env} {x : Str} {px : Pos} {body : List Stmt} {g : Heap} {R : Result → Shared → Prop} {I : Addr} {n : Nat} {P : Nat → Value → Prop} {St : Nat → Heap → Prop} (J : Nat → (Str → Option Value) → List (Addr × Obj) → Prop)
    (W : Walks prog w A I [I] [I] n P St) (hSt : ∀ i h, St i h → ∃ o, h.get? I = some o) (hk : env.scope.kind = .function) (hx : env.kindOf x = some .local)
    (turn : ∀ i m news h tk oI v (E' : Value → Shared → Prop), i < n → P i v → J i m news → (∀ p ∈ news, p.1 ≠ I) → Fr g env.locals h (fun y => if y = x then some v else m y) → News g env.locals h ((I, oI) :: news) →
      wpAny (model prog w) A (execs body env) (rangeFlow g env.locals I oI (J (i + 1)) s R) E' { s with heap := h, toks := tk })
    (done : ∀ m news h tk, J n m news → (∀ p ∈ news, p.1 ≠ I) → Fr g env.locals h m → News g env.locals h news → R (.ok .next) { s with heap := h, toks := tk }) :
    ∀ k i m news h tk oI, i + k = n → St i h → J i m news → (∀ p ∈ news, p.1 ≠ I) → Fr g env.locals h m → News g env.locals h ((I, oI) :: news) →
      codeAny (model prog w) A (.forLoop (.Name x px) (.ref I) body [] env) R { s with heap := h, toks := tk } := by
  intro k
  induction k with
  | zero =>
    intro i m news h tk oI hi st hJ hne F N
    have hi' : i = n := by omega
    subst hi'
    refine for_step fun E' => ?_
    have hI := N _ (.head _)
    refine W.done _ _ _ st fun h' tk' hk' => ?_
    have hb : ∀ b o, b ≠ I → h.get? b = some o → h'.get? b = some o := fun b o hb e => hk' b o (by simpa using hb) e
    exact done m news h' tk' hJ hne (frBut F hI.2.1 hI.2.2 hb) fun p hp => ⟨hb _ _ (hne p hp) (N p (.tail _ hp)).1, (N p (.tail _ hp)).2⟩
  | succ k ih =>
    intro i m news h tk oI hi st hJ hne F N
    refine for_step fun E' => ?_
    have hI := N _ (.head _)
    refine W.item i _ _ _ (by omega) st fun v h' tk' hP st' hk' => ?_
    have hb : ∀ b o, b ≠ I → h.get? b = some o → h'.get? b = some o := fun b o hb e => hk' b o (by simpa using hb) e
    obtain ⟨oI', hoI'⟩ := hSt _ _ st'
    have F1 := frBut F hI.2.1 hI.2.2 hb
    have N1 : News g env.locals h' ((I, oI') :: news) := List.forall_mem_cons.mpr ⟨⟨hoI', hI.2⟩, fun p hp => ⟨hb _ _ (hne p hp) (N p (.tail _ hp)).1, (N p (.tail _ hp)).2⟩⟩
    refine assign_local F1 N1 hk hx fun h2 F2 N2 => ?_
    have fin : ∀ s₃, REnd g env.locals I oI' (J (i + 1)) s s₃ → codeAny (model prog w) A (.forLoop (.Name x px) (.ref I) body [] env) R s₃ := by
      rintro s₃ ⟨h3, tk3, m3, news3, rfl, F3, N3, hne3, hJ3⟩
      refine ih (i + 1) m3 news3 h3 tk3 oI' (by omega) (W.frame _ _ _ st' fun b hb' o e => ?_) hJ3 hne3 F3 N3
      have hbI : b = I := by simpa using hb'
      subst hbI
      rw [hoI'] at e
      cases e
      exact (N3 _ (.head _)).1
    refine wpAny_mono (turn i m news h2 _ oI' v E' (by omega) hP hJ hne F2 N2) (fun f s₃ hf => ?_) fun _ _ e => e
    cases f with
    | ret v => exact hf
    | brk => exact hf
    | next => exact fin s₃ hf
    | cont => exact fin s₃ hf
/-- an item of a dict by a str -/
theorem dict_getS {g : Heap} {L d : Addr} {news : List (Addr × Obj)} {es : List DictEntry} {n : Nat} {x : Str} {t : Tok} {v : Value} {Q : Value → Shared → Prop} {value slice : PySem.Expr} (N : News g L s.heap news) (hm : (d, dictOf es n) ∈ news) (hk : KeysLit w.params es)
    (hf : findBy Value.isStrOf es.toArray x = some v) (h : Q v { s with toks := s.toks + 1 })
    (hs : subscripted slice false (.ref d) (.str x t) = operate [.ref d, .str x t] (getItem (.ref d) (.str x t)) := by with_unfolding_all rfl) :
    wpAny (model prog w) A (subscriptTail value slice (.ref d) (.str x t)) Q E s := by
  have hM : s.heap.MapOf (strKind prog w) d (fun k => findBy Value.isStrOf es.toArray k) :=
    ⟨_, es.toArray, n, N.get hm, ⟨rfl, rfl, rfl⟩, rfl, fun e he => by
      obtain ⟨x, t, e1, e2⟩ := hk.all e (by simpa using he)
      exact ⟨x, by rw [e1]; exact strKind_is prog w x t, e2⟩, fun _ => rfl⟩
  exact tail_any hM.typeIs slot_dict_getitem.lookup (wpAny_getItem_of (strKind_is prog w x t) hM hf h) hs
end
noncomputable def cd (x : Int) : Nat := if x = 0 then 34 else if x = 1 then 92 else if x = 2 then 32 else 35
noncomputable def ltr (x : Int) : Str := one (cd x)
noncomputable def wd (nx : Int → Int → Int) (x : Int) : Str := txt [cd (nx 0 x), cd (nx 1 x)]
noncomputable abbrev standsEs (P : Params) (nx : Int → Int → Int) (kt vt : Int → Tok) : List DictEntry :=
  [⟨PyData.keyHash P (ltr 0), .str (ltr 0) (kt 0), .str (wd nx 0) (vt 0)⟩, ⟨PyData.keyHash P (ltr 1), .str (ltr 1) (kt 1), .str (wd nx 1) (vt 1)⟩, ⟨PyData.keyHash P (ltr 2), .str (ltr 2) (kt 2), .str (wd nx 2) (vt 2)⟩, ⟨PyData.keyHash P (ltr 3), .str (ltr 3) (kt 3), .str (wd nx 3) (vt 3)⟩]
noncomputable def StandsIn (P : Params) (nx : Int → Int → Int) (sd : Addr) (news : List (Addr × Obj)) : Prop := ∃ (kt vt : Int → Tok) (n : Nat), (sd, dictOf (standsEs P nx kt vt) n) ∈ news
theorem stands_keys (P : Params) (nx : Int → Int → Int) (kt vt : Int → Tok) : KeysLit P (standsEs P nx kt vt) :=
  ⟨⟨_, _, rfl, rfl⟩, ⟨_, _, rfl, rfl⟩, ⟨_, _, rfl, rfl⟩, ⟨_, _, rfl, rfl⟩, trivial⟩
theorem ltr_beq {a b : Int} (h : cd a ≠ cd b) : (ltr a == ltr b) = false := by rw [ltr, ltr, one_beq]; exact decide_eq_false h
theorem stands_find (P : Params) (nx : Int → Int → Int) (kt vt : Int → Tok) {y : Int} (h0 : 0 ≤ y) (h4 : y < 4) : findBy Value.isStrOf (standsEs P nx kt vt).toArray (ltr y) = some (.str (wd nx y) (vt y)) := by
  have : y = 0 ∨ y = 1 ∨ y = 2 ∨ y = 3 := by first | exact cs4_n (by first | assumption | omega) | exact cs4_z (by first | assumption | omega) (by first | assumption | omega)
  rcases this with rfl | rfl | rfl | rfl <;> (unfold findBy standsEs; rw [List.find?_toArray]; simp [Value.isStrOf, ltr, one_beq, cd])
theorem offPL0 : True := by
  w_top off
  exact True.intro
section
variable {prog : Program} {w : World} {A : Around} {E : Value → Shared → Prop} {s : Shared}
theorem item_S {x : Str} {t u : Tok} {i : Int} {c : Nat} {Q : Value → Shared → Prop} {value slice : PySem.Expr} (h0 : 0 ≤ i) (h9 : i < 1000000) (hc : x.cps[i.toNat]? = some c) (h : Q (.str (one c) s.toks) { s with toks := s.toks + 1 })
    (hs : subscripted slice false (.str x t) (.int i u) = operate [.str x t, .int i u] (getItem (.str x t) (.int i u)) := by with_unfolding_all rfl) :
    wpAny (model prog w) A (subscriptTail value slice (.str x t) (.int i u)) Q E s := by
  have hlen : i.toNat < x.cps.size := by
    by_cases q : i.toNat < x.cps.size
    · exact q
    · rw [Array.getElem?_eq_none (by omega)] at hc; cases hc
  refine tail_any (typeIs_str s x t) PySem.F.slot_str_getitem.lookup (PyProof.Rows.getItem_str (c := c) ?_ ?_ h) hs
  · simp; omega
  · have e : seqIndex? i x.length = some i.toNat := by
      have hl : x.length = x.cps.size := rfl
      unfold seqIndex?
      simp
      omega
    rw [e]
    exact hc
end

end Mine
-- LX RR LQ LW LE LY LZ TA TB GT GW GE G2 WK WM LN LN2 LN3 LA2 LA3 LA4 LA5 PL1 PL3 PL4 PF1 PF2 PF3 FL1 FL2 FL4 FL5 FL3 FL6 FL8 FL7 WR1 WR2 CE0 CE1 CE2 LB0 LB1 LB3 LB4 LB5 LBE LB6 LB7 LB8 LB9 LB10 LB14 LB15 LB16 LB17 LBA LBB LBC LBD LBF LBG LBH LBI LBJ LBK
namespace Mine
local macro_rules | `(tactic| k_all) => `(tactic| first | with_reducible assumption | exact ne_allLt (by with_reducible assumption) (Nat.le_refl _) | exact ne_allLt (And.right (by with_reducible assumption)) (Nat.le_refl _) | exact ne_allLt (And.right (And.right (by with_reducible assumption))) (Nat.le_refl _) | exact ne_allLt (And.right (And.right (And.right (by with_reducible assumption)))) (Nat.le_refl _) | exact ne_allLt (And.right (And.right (And.right (And.right (by with_reducible assumption))))) (Nat.le_refl _) | exact ne_allLt (And.right (And.right (And.right (And.right (And.right (by with_reducible assumption)))))) (Nat.le_refl _) | exact ne_allLt (And.right (And.right (And.right (And.right (And.right (And.right (by with_reducible assumption))))))) (Nat.le_refl _) | exact ne_allLt (And.right (And.right (And.right (And.right (And.right (And.right (And.right (by with_reducible assumption)))))))) (Nat.le_refl _) | exact ne_allLt (And.right (And.right (And.right (And.right (And.right (And.right (And.right (And.right (by with_reducible assumption))))))))) (Nat.le_refl _) | exact ne_allLt (And.right (And.right (And.right (And.right (And.right (And.right (And.right (And.right (And.right (by with_reducible assumption)))))))))) (Nat.le_refl _) | exact ne_allLt (And.right (And.right (And.right (And.right (And.right (And.right (And.right (And.right (And.right (And.right (by with_reducible assumption))))))))))) (Nat.le_refl _) | exact ne_all (by assumption) (Nat.le_refl _) | exact ne_allLt (by with_reducible assumption) (by omega) | exact ne_allLt (And.right (by with_reducible assumption)) (by omega) | exact ne_allLt (And.right (And.right (by with_reducible assumption))) (by omega) | exact ne_allLt (And.right (And.right (And.right (by with_reducible assumption)))) (by omega) | exact ne_allLt (And.right (And.right (And.right (And.right (by with_reducible assumption))))) (by omega) | exact ne_allLt (And.right (And.right (And.right (And.right (And.right (by with_reducible assumption)))))) (by omega) | exact ne_allLt (And.right (And.right (And.right (And.right (And.right (And.right (by with_reducible assumption))))))) (by omega) | exact ne_allLt (And.right (And.right (And.right (And.right (And.right (And.right (And.right (by with_reducible assumption)))))))) (by omega) | exact ne_allLt (And.right (And.right (And.right (And.right (And.right (And.right (And.right (And.right (by with_reducible assumption))))))))) (by omega) | exact ne_allLt (And.right (And.right (And.right (And.right (And.right (And.right (And.right (And.right (And.right (by with_reducible assumption)))))))))) (by omega) | exact ne_allLt (And.right (And.right (And.right (And.right (And.right (And.right (And.right (And.right (And.right (And.right (by with_reducible assumption))))))))))) (by omega) | exact ne_all (by assumption) (by omega))
local macro_rules | `(tactic| walk_at "truthy ref") => `(tactic| (k_here; k_dflt (refine' truthy_L ?N ?m ?z ?b ?_; (case N => k_asm); (case m => k_mem); (case z => first | omega | (simp only [List.size_toArray, List.length_cons, List.length_nil]; omega)); (case b => first | exact (rfl : _ = true) | exact (rfl : _ = false) | rfl); k_whole)))
local macro_rules | `(tactic| walk_at "call builtin:list.pop") => `(tactic| (k_here; k_dflt ((with_reducible show wpAny _ _ (call (Value.builtin _) [Value.ref _, Value.int _ _]) _ _ _); refine' pop0_L ?F ?N ?U ?z ?_; (case F => k_asm); (case N => k_asm); (case U => k_upd); (case z => omega)); intro h' F' N'))
local macro_rules | `(tactic| walk_at "call type:list") => `(tactic| (k_here; k_dflt ((with_reducible show wpAny _ _ (call (Value.type _) [Value.str _ _]) _ _ _); refine' list_str_L ?h ?F ?N ?x ?_; (case h => rfl); (case F => k_asm); (case N => k_asm); (case x => omega)); intro l' h' tk' n' ys' F' N' hS' l1; (try k_lt l1)))
local macro_rules | `(tactic| k_upd) => `(tactic| with_reducible assumption)
local macro_rules | `(tactic| walk_at "my.tail") => `(tactic| first | with_reducible assumption | (refine List.mem_cons_of_mem _ ?_; walk_at "my.tail"))
local macro_rules | `(tactic| k_mem) => `(tactic| first | with_reducible assumption | ktr_member | (with_reducible exact List.mem_cons_self) | exact List.mem_cons_self | (refine' List.mem_cons_of_mem _ ?_; k_mem))
local macro_rules | `(tactic| walk_at "ite") => `(tactic| first | refine ite_of_true (by with_reducible assumption) ?_ | refine ite_of_false (by with_reducible assumption) ?_)
local macro_rules | `(tactic| walk_at "my.look") => `(tactic| first | exact rfl | with_reducible assumption | (refine Eq.trans (if_neg (by decide)) ?_; walk_at "my.look"))
local macro_rules | `(tactic| walk_at "eval Name") => `(tactic| (k_here; k_dflt (refine' nameX_L ?F ?v ?_; (case F => k_asm); (case v => walk_at "my.look"); k_whole)))
local macro_rules | `(tactic| walk_at "loadName") => `(tactic| (k_here; k_dflt (refine' ldX ?F ?v ?_; (case F => k_asm); (case v => walk_at "my.look"); k_whole)))
local macro_rules | `(tactic| walk_at "inplaceOp Add") => `(tactic| (k_here; k_dflt (refine' iaddS ?z ?_; (case z => omega)); intro t' k'))
local macro_rules | `(tactic| walk_at "call builtin:iter") => `(tactic| (k_here; k_dflt (refine' iter2 ?F ?N ?m ?_; (case F => k_asm); (case N => k_asm); (case m => k_mem)); intro it' h' F' N' l1; (try k_lt l1)))
local macro_rules | `(tactic| walk_at "my.sub") => `(tactic| first | exact List.forall_mem_nil _ | (refine List.forall_mem_cons.mpr (And.intro (by k_mem) ?_); walk_at "my.sub") | (intro p9 hp9; walk_at "my.tail"))
local macro_rules | `(tactic| walk_at "subscriptTail") => `(tactic| (k_here; (with_reducible show wpAny _ _ (subscriptTail _ _ (Value.ref _) (Value.int _ _)) _ _ _); k_dflt (first
  | (refine' item_L ?N ?m ?a ?b ?x ?_ ?h; (case N => k_asm); (case m => k_mem); (case x => first | with_reducible assumption | rfl); (case a => omega); (case b => omega); (case h => with_unfolding_all rfl); k_whole)
  | (refine' item_T ?N ?m ?a ?b ?x ?_ ?h; (case N => k_asm); (case m => k_mem); (case x => first | with_reducible assumption | rfl); (case a => omega); (case b => omega); (case h => with_unfolding_all rfl); k_whole))))
local macro_rules | `(tactic| walk_at "subscriptTail") => `(tactic| (k_here; (with_reducible show wpAny _ _ (subscriptTail _ _ (Value.ref _) (Value.str _ _)) _ _ _); k_dflt (refine' dict_getS ?N ?m ?k ?f ?_ ?h; (case N => k_asm); (case m => k_mem); (case f => assumption); (case k => first | assumption | exact stands_keys _ _ _ _); (case h => with_unfolding_all rfl); k_whole)))
local macro_rules | `(tactic| walk_at "eval Name") => `(tactic| (k_here; k_dflt (first
  | (refine' nameC_C ?N ?c ?m ?d ?_; (case N => k_asm); (case c => exact rfl); (case m => k_mem); (case d => assumption); k_whole)
  | ((with_reducible show wpAny _ _ (eval _ (compEnvC _ _ _ _)) _ _ _); refine' nameC_L (C := (0 : Nat)) ?N ?m ?o ?v ?_; (case N => k_asm); (case m => k_mem); (case o => assumption); (case v => walk_at "my.look"); k_whole))))
local macro_rules | `(tactic| walk_at "subscriptTail") => `(tactic| (k_here; (with_reducible show wpAny _ _ (subscriptTail _ _ (Value.str _ _) (Value.int _ _)) _ _ _); k_dflt (refine' item_S ?a ?b ?c ?_ ?h; (case a => omega); (case b => omega); (case c => first | with_reducible assumption | exact rfl); (case h => with_unfolding_all rfl); k_whole)))
theorem offLX : True := by
  w_top off
  exact True.intro
/-- the text's one lambda -/
noncomputable def lamIn : List Stmt → Option (Arguments × Expr × Scope)
  | [] => none
  | .Assign _ (.Lambda a b sc _) _ :: _ => some (a, b, sc)
  | _ :: r => lamIn r
noncomputable def lamTop : List Stmt → Option (Arguments × Expr × Scope)
  | [] => none
  | .FunctionDef _ _ body _ _ _ _ _ _ _ :: r => (lamIn body).or (lamTop r)
  | _ :: r => lamTop r
noncomputable def lamT : Option (Arguments × Expr × Scope) := lamTop PySem.Challenge.pw_ty0016_01.main.body
/-- what the reading lambda does: it takes the first of the list, or hands back the empty text -/
noncomputable def LamOk (w : World) (mean : ExcName → Option Value) (mg mb : Str → Option Value) (fn lf : Addr) (keep : List (Addr × Obj)) : Prop :=
  (∀ (news news' : List (Addr × Obj)) (x : Value) (r : List Value) (n : Nat) (t : Tok), (∀ p ∈ keep, p ∈ news) → Upd lf (listOf (x :: r).toArray n) (listOf r.toArray (n + 1)) news news' → r.length ≤ 1000000 →
    Does w mean mg mb 690 1900 (.ref fn) [.int 1 t] news (fun v n' => v = x ∧ n' = news')) ∧
  (∀ (news : List (Addr × Obj)) (n : Nat) (t : Tok), (∀ p ∈ keep, p ∈ news) → (lf, listOf (([] : List Value).toArray) n) ∈ news →
    Does w mean mg mb 690 1900 (.ref fn) [.int 1 t] news (fun v n' => (∃ u, v = .str (Str.ofString "") u) ∧ n' = news))
theorem Upd.mem {d : Addr} {o o' : Obj} {l l' : List (Addr × Obj)} (U : Upd d o o' l l') : (d, o) ∈ l := by
  obtain ⟨pre, post, rfl, _, _, _⟩ := U.split
  exact List.mem_append.mpr (.inr (.head _))
set_option maxRecDepth 100000 in
set_option maxHeartbeats 8000000 in
theorem lam_aux {w : World} {mean : ExcName → Option Value} {mg mb : Str → Option Value} {name qual : Str} {a : Arguments} {b : Expr} {sc : Scope} (h : some (a, b, sc) = lamT) {fn lf cl cd : Addr} {pm ctv : Value} {clo cdo : Obj} {vs : Array Value} {tq : Tok}
    (hcl : clo.data = .cell (some (.ref lf))) (hcd : cdo.data = .fields vs) (hv : vs[1]? = some (.str qual tq)) :
    LamOk w mean mg mb fn lf [(fn, kla_obj name qual a b sc [(Str.ofString "left", cl)] pm cd ctv), (cl, clo), (cd, cdo)] := by
  have e : lamT = some (_, _, _) := rfl
  rw [e] at h
  cases h
  constructor
  · intro news news' x r n t hkeep U hr
    have h1 := hkeep _ (.head _)
    have h2 := hkeep _ (.tail _ (.head _))
    have h3 := hkeep _ (.tail _ (.tail _ (.head _)))
    have h4 := Upd.mem U
    clear hkeep
    refine does_of ?_
    w_strict (
     k_fill
     intro ns g c mo lo gl ce qq fu co bu outer A₀ base h₀ L m s Q E B F X N T codeHd hret
     k_dflt kla_enter
     repeat' (first | (fail_if_success (with_reducible show wpAny _ _ (pyIter _) _ _ _)
                       fail_if_success (with_reducible show wpAny _ _ (exec (Stmt.For _ _ _ _ _) _) _ _ _)
                       fail_if_success (with_reducible show wpAny _ _ (eval (Expr.ListComp _ _ _ _) _) _ _ _)
                       first | (k_unfold; (try dsimp only)) | (k_end; wrow_close) | walk1 | (dsimp only; walk1) | (leave1; walk_say "STEP leave1"; try dsimp only) | fail "no step")))
    all_goals exact hret _ _ _ _ (by assumption) (by assumption) ⟨rfl, rfl⟩
  · intro news n t hkeep h4
    have h1 := hkeep _ (.head _)
    have h2 := hkeep _ (.tail _ (.head _))
    have h3 := hkeep _ (.tail _ (.tail _ (.head _)))
    clear hkeep
    refine does_of ?_
    w_strict (
     k_fill
     intro ns g c mo lo gl ce qq fu co bu outer A₀ base h₀ L m s Q E B F X N T codeHd hret
     k_dflt kla_enter
     repeat' (first | (fail_if_success (with_reducible show wpAny _ _ (pyIter _) _ _ _)
                       fail_if_success (with_reducible show wpAny _ _ (exec (Stmt.For _ _ _ _ _) _) _ _ _)
                       fail_if_success (with_reducible show wpAny _ _ (eval (Expr.ListComp _ _ _ _) _) _ _ _)
                       first | (k_unfold; (try dsimp only)) | (k_end; wrow_close) | walk1 | (dsimp only; walk1) | (leave1; walk_say "STEP leave1"; try dsimp only) | fail "no step")))
    all_goals exact hret _ _ _ _ (by assumption) (by assumption) ⟨⟨_, rfl⟩, rfl⟩

/-- the addresses and names' tokens of a lexer and its stream -/
structure LexC where
  (pb lx dx sx ds lf pb2 fn : Addr)
  (k1 k2 k3 k4 wt s1 s2 s3 s4 s5 v1 v3 : Tok)
noncomputable abbrev LexC.dict (w : World) (C : LexC) (nl : Int) (t : Tok) : Obj := dictOf [⟨PyData.keyHash w.params (Str.ofString "lineno"), .str (Str.ofString "lineno") C.k1, .int nl t⟩, ⟨PyData.keyHash w.params (Str.ofString "instream"), .str (Str.ofString "instream") C.k2, .ref C.sx⟩,
  ⟨PyData.keyHash w.params (Str.ofString "whitespace"), .str (Str.ofString "whitespace") C.k3, .str (Str.ofString "\n\t\r ") C.wt⟩, ⟨PyData.keyHash w.params (Str.ofString "pushback"), .str (Str.ofString "pushback") C.k4, .ref C.pb⟩] 4
noncomputable abbrev LexC.sdict (w : World) (C : LexC) : Obj := dictOf [⟨PyData.keyHash w.params (Str.ofString "lineno"), .str (Str.ofString "lineno") C.s1, .int 1 C.v1⟩, ⟨PyData.keyHash w.params (Str.ofString "instream"), .str (Str.ofString "instream") C.s2, .none⟩,
  ⟨PyData.keyHash w.params (Str.ofString "whitespace"), .str (Str.ofString "whitespace") C.s3, .str (Str.ofString "\n\t\r ") C.v3⟩, ⟨PyData.keyHash w.params (Str.ofString "pushback"), .str (Str.ofString "pushback") C.s4, .ref C.pb2⟩,
  ⟨PyData.keyHash w.params (Str.ofString "read"), .str (Str.ofString "read") C.s5, .ref C.fn⟩] 5
structure LexC.Ord (C : LexC) : Prop where
  a : @LT.lt Nat _ C.lf C.ds
  b : @LT.lt Nat _ C.ds C.sx
  c : @LT.lt Nat _ C.sx C.dx
  d : @LT.lt Nat _ C.dx C.lx
  e : @LT.lt Nat _ C.lx C.pb
/-- the lexer's own part of the ledger -/
noncomputable abbrev lexE (w : World) (C : LexC) (nl : Int) (t : Tok) (qs ys : List Value) (n1 n2 : Nat) (rest : List (Addr × Obj)) : List (Addr × Obj) :=
  (C.pb, listOf qs.toArray n1) :: (C.lx, instObj 151 C.dx) :: (C.dx, C.dict w nl t) :: (C.sx, instObj 151 C.ds) :: (C.ds, C.sdict w) :: (C.lf, listOf ys.toArray n2) :: rest
noncomputable def LexC.mut (C : LexC) : List Addr := [C.pb, C.dx, C.lf]
noncomputable def Fnd (keep : List (Addr × Obj)) (fn : Addr) : Prop := ∃ fd, (fn, ({ cls := .type "function", data := .func fd } : Obj)) ∈ keep
/-- a lexer stands in the ledger: its line, what is pushed back, what is left to read -/
noncomputable def LexIn (w : World) (mean : ExcName → Option Value) (mg mb : Str → Option Value) (C : LexC) (nl : Int) (q : List Str) (cs : List Nat) (news : List (Addr × Obj)) : Prop :=
  ∃ t qs ys n1 n2 keep, StrsAre qs q ∧ StrsAre ys (cs.map one) ∧ C.Ord ∧ (∀ p ∈ lexE w C nl t qs ys n1 n2 [], p ∈ news) ∧ (∀ p ∈ keep, p ∈ news ∧ p.1 ∉ C.mut ∧ @LT.lt Nat _ p.1 C.pb ∧ ∀ v, p.2.data = .cell v → v = some (.ref C.lf)) ∧ Fnd keep C.fn ∧ LamOk w mean mg mb C.fn C.lf keep
noncomputable abbrev lamQ : Str := (Str.ofString "_law_lexer" ++ Str.ofString ".<locals>.") ++ Str.ofString "<lambda>"
/-- the lambda's code object stands in the table -/
noncomputable def TabIn (news : List (Addr × Obj)) : Prop := ∃ c' oc vs t, (164, tabObj #[rawInt 104, rawInt 18, .ref c']) ∈ news ∧ (c', oc) ∈ news ∧ oc.data = .fields vs ∧ vs[1]? = some (.str lamQ t)

theorem lex_made {w : World} {mean : ExcName → Option Value} {mg mb : Str → Option Value} {n' : List (Addr × Obj)} {pb lx dx sx ds lf pb2 fn cl cd : Addr} {k1 k2 k3 k4 wt s1 s2 s3 s4 s5 v1 v3 t : Tok} {n1 n2 : Nat} {nl : Int} {qs ys : List Value} {q : List Str} {cs : List Nat} {fd : FuncData} {clo cdo : Obj}
    (h2 : (lx, instObj 151 dx) ∈ n')
    (h3 : (dx, dictOf [⟨PyData.keyHash w.params (Str.ofString "lineno"), .str (Str.ofString "lineno") k1, .int nl t⟩, ⟨PyData.keyHash w.params (Str.ofString "instream"), .str (Str.ofString "instream") k2, .ref sx⟩, ⟨PyData.keyHash w.params (Str.ofString "whitespace"), .str (Str.ofString "whitespace") k3, .str (Str.ofString "\n\t\r ") wt⟩, ⟨PyData.keyHash w.params (Str.ofString "pushback"), .str (Str.ofString "pushback") k4, .ref pb⟩] 4) ∈ n')
    (h1 : (pb, listOf qs.toArray n1) ∈ n') (h4 : (sx, instObj 151 ds) ∈ n')
    (h5 : (ds, dictOf [⟨PyData.keyHash w.params (Str.ofString "lineno"), .str (Str.ofString "lineno") s1, .int 1 v1⟩, ⟨PyData.keyHash w.params (Str.ofString "instream"), .str (Str.ofString "instream") s2, .none⟩, ⟨PyData.keyHash w.params (Str.ofString "whitespace"), .str (Str.ofString "whitespace") s3, .str (Str.ofString "\n\t\r ") v3⟩, ⟨PyData.keyHash w.params (Str.ofString "pushback"), .str (Str.ofString "pushback") s4, .ref pb2⟩, ⟨PyData.keyHash w.params (Str.ofString "read"), .str (Str.ofString "read") s5, .ref fn⟩] 5) ∈ n')
    (h7 : (fn, ({ cls := .type "function", data := .func fd } : Obj)) ∈ n')
    (hlam : LamOk w mean mg mb fn lf [(fn, { cls := .type "function", data := .func fd }), (cl, clo), (cd, cdo)])
    (h8 : (cl, clo) ∈ n') (h9 : (cd, cdo) ∈ n') (h6 : (lf, listOf ys.toArray n2) ∈ n') (hq : StrsAre qs q) (hS : StrsAre ys (cs.map one))
    (o1 : @LT.lt Nat _ lf ds) (o2 : @LT.lt Nat _ ds sx) (o3 : @LT.lt Nat _ sx dx) (o4 : @LT.lt Nat _ dx lx) (o5 : @LT.lt Nat _ lx pb)
    (n1' : @LT.lt Nat _ fn dx) (n2' : @LT.lt Nat _ lf fn) (n3' : @LT.lt Nat _ cl lf) (n4' : @LT.lt Nat _ cd dx) (n5' : cd ≠ lf) (hcl : clo.data = .cell (some (.ref lf))) (hcd : ∃ vs, cdo.data = .fields vs) :
    ∃ C : LexC, Value.ref lx = Value.ref C.lx ∧ C.lf = lf ∧ LexIn w mean mg mb C nl q cs n' := by
  refine ⟨⟨pb, lx, dx, sx, ds, lf, pb2, fn, k1, k2, k3, k4, wt, s1, s2, s3, s4, s5, v1, v3⟩, rfl, rfl, t, qs, ys, n1, n2, _, hq, hS, ⟨o1, o2, o3, o4, o5⟩, ?_, ?_, ⟨fd, .head _⟩, hlam⟩
  · simp only [List.forall_mem_cons]
    exact ⟨h1, h2, h3, h4, h5, h6, fun _ h => (nomatch h)⟩
  · have z1 : @Ne Nat fn pb ∧ @Ne Nat fn dx ∧ @Ne Nat fn lf := by omega
    have z2 : @Ne Nat cl pb ∧ @Ne Nat cl dx ∧ @Ne Nat cl lf := by omega
    have z3 : @Ne Nat cd pb ∧ @Ne Nat cd dx ∧ @Ne Nat cd lf := by refine ⟨?_, ?_, n5'⟩ <;> omega
    have out : ∀ a : Addr, (@Ne Nat a pb ∧ @Ne Nat a dx ∧ @Ne Nat a lf) → a ∉ [pb, dx, lf] := by
      intro a h
      simp only [List.mem_cons, List.not_mem_nil, or_false, not_or]
      exact h
    simp only [List.forall_mem_cons]
    exact ⟨⟨h7, out _ z1, by show @LT.lt Nat _ fn pb; omega, fun v e => nomatch e⟩, ⟨h8, out _ z2, by show @LT.lt Nat _ cl pb; omega, fun v e => by rw [hcl] at e; cases e; rfl⟩, ⟨h9, out _ z3, by show @LT.lt Nat _ cd pb; omega, fun v e => by obtain ⟨vs, h⟩ := hcd; rw [h] at e; cases e⟩, fun _ h => (nomatch h)⟩
theorem tab_made {n' : List (Addr × Obj)} {c' : Addr} {oc : Obj} {vs : Array Value} {t : Tok} (h1 : (164, tabObj #[rawInt 104, rawInt 18, .ref c']) ∈ n') (h2 : (c', oc) ∈ n') (h3 : oc.data = .fields vs) (h4 : vs[1]? = some (.str lamQ t)) : TabIn n' := ⟨c', oc, vs, t, h1, h2, h3, h4⟩
theorem lex_done {w : World} {mean : ExcName → Option Value} {mg mb : Str → Option Value} {news n' : List (Addr × Obj)} {pb lx dx sx ds lf pb2 fn cl cd : Addr} {k1 k2 k3 k4 wt s1 s2 s3 s4 s5 v1 v3 t : Tok} {n1 n2 : Nat} {nl : Int} {qs ys : List Value} {q : List Str} {cs : List Nat} {fd : FuncData} {clo cdo : Obj}
    (h2 : (lx, instObj 151 dx) ∈ n')
    (h3 : (dx, dictOf [⟨PyData.keyHash w.params (Str.ofString "lineno"), .str (Str.ofString "lineno") k1, .int nl t⟩, ⟨PyData.keyHash w.params (Str.ofString "instream"), .str (Str.ofString "instream") k2, .ref sx⟩, ⟨PyData.keyHash w.params (Str.ofString "whitespace"), .str (Str.ofString "whitespace") k3, .str (Str.ofString "\n\t\r ") wt⟩, ⟨PyData.keyHash w.params (Str.ofString "pushback"), .str (Str.ofString "pushback") k4, .ref pb⟩] 4) ∈ n')
    (h1 : (pb, listOf qs.toArray n1) ∈ n') (h4 : (sx, instObj 151 ds) ∈ n')
    (h5 : (ds, dictOf [⟨PyData.keyHash w.params (Str.ofString "lineno"), .str (Str.ofString "lineno") s1, .int 1 v1⟩, ⟨PyData.keyHash w.params (Str.ofString "instream"), .str (Str.ofString "instream") s2, .none⟩, ⟨PyData.keyHash w.params (Str.ofString "whitespace"), .str (Str.ofString "whitespace") s3, .str (Str.ofString "\n\t\r ") v3⟩, ⟨PyData.keyHash w.params (Str.ofString "pushback"), .str (Str.ofString "pushback") s4, .ref pb2⟩, ⟨PyData.keyHash w.params (Str.ofString "read"), .str (Str.ofString "read") s5, .ref fn⟩] 5) ∈ n')
    (h7 : (fn, ({ cls := .type "function", data := .func fd } : Obj)) ∈ n')
    (hlam : LamOk w mean mg mb fn lf [(fn, { cls := .type "function", data := .func fd }), (cl, clo), (cd, cdo)])
    (h8 : (cl, clo) ∈ n') (h9 : (cd, cdo) ∈ n') (h6 : (lf, listOf ys.toArray n2) ∈ n') (hq : StrsAre qs q) (hS : StrsAre ys (cs.map one))
    (o1 : @LT.lt Nat _ lf ds) (o2 : @LT.lt Nat _ ds sx) (o3 : @LT.lt Nat _ sx dx) (o4 : @LT.lt Nat _ dx lx) (o5 : @LT.lt Nat _ lx pb)
    (n1' : @LT.lt Nat _ fn dx) (n2' : @LT.lt Nat _ lf fn) (n3' : @LT.lt Nat _ cl lf) (n4' : @LT.lt Nat _ cd dx) (n5' : cd ≠ lf) (hcl : clo.data = .cell (some (.ref lf))) (hcd : ∃ vs, cdo.data = .fields vs) (hT : TabIn n') (hk : ∀ p ∈ news, p.1 ≠ 164 → p ∈ n') (hfr : ∀ p ∈ news, @LT.lt Nat _ p.1 lf) :
    ∃ C : LexC, Value.ref lx = Value.ref C.lx ∧ LexIn w mean mg mb C nl q cs n' ∧ TabIn n' ∧ (∀ p ∈ news, p.1 ≠ 164 → p ∈ n') ∧ ∀ p ∈ news, p.1 < C.lf := by
  obtain ⟨C, e1, e2, hL⟩ := lex_made h2 h3 h1 h4 h5 h7 hlam h8 h9 h6 hq hS o1 o2 o3 o4 o5 n1' n2' n3' n4' n5' hcl hcd
  exact ⟨C, e1, hL, hT, hk, fun p hp => by rw [e2]; exact hfr p hp⟩
theorem offRR : True := by
  w_top off
  exact True.intro

noncomputable def Keep (C : LexC) (news news' : List (Addr × Obj)) : Prop := ∀ p ∈ news, p.1 ∉ C.mut → p ∈ news'
theorem Keep.trans {C : LexC} {a b c : List (Addr × Obj)} (h : Keep C a b) (k : Keep C b c) : Keep C a c := fun p hp hn => k p (h p hp hn) hn
theorem lexE_upd {w : World} {C : LexC} {nl : Int} {t : Tok} {qs ys : List Value} {x : Value} {n1 n2 : Nat} {rest : List (Addr × Obj)} (ho : C.Ord) (hr : ∀ p ∈ rest, p.1 ≠ C.lf) :
    Upd C.lf (listOf (x :: ys).toArray n2) (listOf ys.toArray (n2 + 1)) (lexE w C nl t qs (x :: ys) n1 n2 rest) (lexE w C nl t qs ys n1 (n2 + 1) rest) := by
  obtain ⟨a, b, c, d, e⟩ := ho
  refine .tail ?_ (.tail ?_ (.tail ?_ (.tail ?_ (.tail ?_ (.head hr))))) <;> exact Nat.ne_of_gt (by omega)
theorem lexIn_of {w : World} {mean : ExcName → Option Value} {mg mb : Str → Option Value} {C : LexC} {nl : Int} {t : Tok} {qs ys : List Value} {n1 n2 : Nat} {q : List Str} {cs : List Nat} {news keep : List (Addr × Obj)} (hq : StrsAre qs q) (hS : StrsAre ys (cs.map one)) (ho : C.Ord)
    (hk : ∀ p ∈ keep, p ∈ news ∧ p.1 ∉ C.mut ∧ @LT.lt Nat _ p.1 C.pb ∧ ∀ v, p.2.data = .cell v → v = some (.ref C.lf)) (hf : Fnd keep C.fn) (hl : LamOk w mean mg mb C.fn C.lf keep) : LexIn w mean mg mb C nl q cs (lexE w C nl t qs ys n1 n2 (cut C.mut news)) ∧ Keep C news (lexE w C nl t qs ys n1 n2 (cut C.mut news)) := by
  have hc : ∀ p ∈ cut C.mut news, p ∈ lexE w C nl t qs ys n1 n2 (cut C.mut news) := fun p hp => .tail _ (.tail _ (.tail _ (.tail _ (.tail _ (.tail _ hp)))))
  refine ⟨⟨t, qs, ys, n1, n2, keep, hq, hS, ho, ?_, fun p hp => ⟨hc p (mem_cut (hk p hp).1 (hk p hp).2.1), (hk p hp).2⟩, hf, hl⟩, fun p hp hn => hc p (mem_cut hp hn)⟩
  simp only [List.forall_mem_cons]
  exact ⟨.head _, .tail _ (.head _), .tail _ (.tail _ (.head _)), .tail _ (.tail _ (.tail _ (.head _))), .tail _ (.tail _ (.tail _ (.tail _ (.head _)))), .tail _ (.tail _ (.tail _ (.tail _ (.tail _ (.head _))))), fun _ h => (nomatch h)⟩
theorem strs_cons {ys : List Value} {x : Str} {xs : List Str} (h : StrsAre ys (x :: xs)) : ∃ t ys', ys = .str x t :: ys' ∧ StrsAre ys' xs := by
  cases h with
  | cons _ _ h => exact ⟨_, _, rfl, h⟩
theorem strs_nil {ys : List Value} (h : StrsAre ys []) : ys = [] := by
  cases h; rfl
theorem nl_one : Str.ofString "\n" = one 10 := by decide +kernel
theorem dq_one : Str.ofString "\"" = one 34 := by decide +kernel
theorem bs_one : Str.ofString "\\" = one 92 := by decide +kernel
theorem strs_append {ys zs : List Value} {xs us : List Str} (h : StrsAre ys xs) (k : StrsAre zs us) : StrsAre (ys ++ zs) (xs ++ us) := by
  induction h with
  | nil => exact k
  | cons y t _ ih => exact .cons y t ih
theorem LexIn.inst {w : World} {mean : ExcName → Option Value} {mg mb : Str → Option Value} {C : LexC} {nl : Int} {q : List Str} {cs : List Nat} {news : List (Addr × Obj)} (h : LexIn w mean mg mb C nl q cs news) :
    ∃ t, (C.lx, instObj 151 C.dx) ∈ news ∧ (C.dx, C.dict w nl t) ∈ news := by
  obtain ⟨t, qs, ys, n1, n2, keep, _, _, _, hE, _⟩ := h
  simp only [List.forall_mem_cons] at hE
  exact ⟨t, hE.2.1, hE.2.2.1⟩
/-- an object behind the lexer's own may turn -/
theorem LexIn.but {w : World} {mean : ExcName → Option Value} {mg mb : Str → Option Value} {C : LexC} {nl : Int} {q : List Str} {cs : List Nat} {news : List (Addr × Obj)} {a : Addr} {o : Obj} (h : LexIn w mean mg mb C nl q cs news) (ha : @LT.lt Nat _ C.pb a) :
    LexIn w mean mg mb C nl q cs ((a, o) :: cut [a] news) := by
  obtain ⟨t, qs, ys, n1, n2, keep, hq, hS, ho, hE, hk, hf, hl⟩ := h
  have hc : ∀ p ∈ news, @LE.le Nat _ p.1 C.pb → p ∈ (a, o) :: cut [a] news := fun p hp hle => .tail _ (mem_cut hp (by
    intro e
    have e' := List.mem_singleton.mp e
    rw [e'] at hle
    exact absurd (Nat.lt_of_lt_of_le ha hle) (Nat.lt_irrefl _)))
  refine ⟨t, qs, ys, n1, n2, keep, hq, hS, ho, fun p hp => hc p (hE p hp) ?_, fun p hp => ⟨hc p (hk p hp).1 (Nat.le_of_lt (hk p hp).2.2.1), (hk p hp).2⟩, hf, hl⟩
  obtain ⟨a1, a2, a3, a4, a5⟩ := ho
  simp only [List.mem_cons, List.not_mem_nil, or_false] at hp
  rcases hp with rfl | rfl | rfl | rfl | rfl | rfl
  · exact Nat.le_refl _
  · exact Nat.le_of_lt a5
  · show @LE.le Nat _ C.dx C.pb; omega
  · show @LE.le Nat _ C.sx C.pb; omega
  · show @LE.le Nat _ C.ds C.pb; omega
  · show @LE.le Nat _ C.lf C.pb; omega
theorem LexIn.pbIn {w : World} {mean : ExcName → Option Value} {mg mb : Str → Option Value} {C : LexC} {nl : Int} {q : List Str} {cs : List Nat} {news : List (Addr × Obj)} (h : LexIn w mean mg mb C nl q cs news) : ∃ o, (C.pb, o) ∈ news := by
  obtain ⟨t, qs, ys, n1, n2, keep, hq, hS, ho, hE, hk, hf, hl⟩ := h
  exact ⟨_, hE _ (.head _)⟩
theorem LexIn.mutLe {w : World} {mean : ExcName → Option Value} {mg mb : Str → Option Value} {C : LexC} {nl : Int} {q : List Str} {cs : List Nat} {news : List (Addr × Obj)} (h : LexIn w mean mg mb C nl q cs news) {a : Addr} (ha : @LT.lt Nat _ C.pb a) : a ∉ C.mut := by
  obtain ⟨t, qs, ys, n1, n2, keep, hq, hS, ho, hE, hk, hf, hl⟩ := h
  obtain ⟨a1, a2, a3, a4, a5⟩ := ho
  have z : @Ne Nat a C.pb ∧ @Ne Nat a C.dx ∧ @Ne Nat a C.lf := by omega
  simp only [LexC.mut, List.mem_cons, List.not_mem_nil, or_false, not_or]
  exact z
theorem newsBut {g h h' : Heap} {L a : Addr} {o o' : Obj} {news : List (Addr × Obj)} (N : News g L h news) (hm : (a, o) ∈ news) (hk : ∀ b o, b ≠ a → h.get? b = some o → h'.get? b = some o) (ho : h'.get? a = some o') : News g L h' ((a, o') :: cut [a] news) := by
  refine List.forall_mem_cons.mpr ⟨⟨ho, (N _ hm).2⟩, fun p hp => ?_⟩
  have hn : p.1 ≠ a := cut_ne (by simp) p hp
  have := N p (cut_sub p hp)
  exact ⟨hk _ _ hn this.1, this.2⟩

set_option maxRecDepth 100000 in
set_option maxHeartbeats 8000000 in
theorem read_cons {w : World} {mean : ExcName → Option Value} {mg mb : Str → Option Value} {C : LexC} {nl : Int} {q : List Str} {ch : Nat} {cs : List Nat} {news : List (Addr × Obj)} (hL : LexIn w mean mg mb C nl q (ch :: cs) news) (hcs : cs.length ≤ 1000) :
    Does w mean mg mb 680 1800 (.ref 134) [.ref C.lx] news (fun r n' => (∃ t, r = .str (one ch) t) ∧ LexIn w mean mg mb C (if ch = 10 then nl + 1 else nl) q cs n' ∧ Keep C news n') := by
  obtain ⟨t, qs, ys, n1, n2, keep, hq, hS, ho, hE, hkeep, ⟨fd, hfd⟩, hlam⟩ := hL
  have hlen := hS.length
  obtain ⟨tc, ys', rfl, hS'⟩ := strs_cons hS
  simp only [List.length_cons, List.length_map] at hlen
  have hkc : ∀ p ∈ keep, p ∈ cut C.mut news := fun p hp => mem_cut (hkeep p hp).1 (hkeep p hp).2.1
  have hfin := fun (nl' : Int) (t' : Tok) => lexIn_of (w := w) (nl := nl') (t := t') (n1 := n1) (n2 := n2 + 1) hq hS' ho hkeep ⟨fd, hfd⟩ hlam
  have hU := lexE_upd (w := w) (nl := nl) (t := t) (qs := qs) (n1 := n1) (n2 := n2) (x := .str (one ch) tc) (ys := ys') ho (cut_ne (ds := C.mut) (news := news) (a := C.lf) (by simp [LexC.mut]))
  have hD := fun u => hlam.1 _ _ _ ys' n2 u (fun p hp => List.mem_cons_of_mem _ (List.mem_cons_of_mem _ (List.mem_cons_of_mem _ (List.mem_cons_of_mem _ (List.mem_cons_of_mem _ (List.mem_cons_of_mem _ (hkc p hp))))))) hU (by omega)
  have hfn : (C.fn, ({ cls := .type "function", data := .func fd } : Obj)) ∈ cut C.mut news := hkc _ hfd
  have hr1 : ∀ p ∈ cut C.mut news, p.1 ≠ C.dx := cut_ne (by simp [LexC.mut])
  refine Does.sub (news₁ := lexE w C nl t qs (.str (one ch) tc :: ys') n1 n2 (cut C.mut news)) ?_ ?_
  rotate_left
  · simp only [List.forall_mem_cons] at hE ⊢
    exact ⟨hE.1, hE.2.1, hE.2.2.1, hE.2.2.2.1, hE.2.2.2.2.1, hE.2.2.2.2.2.1, cut_sub⟩
  clear hE hkeep hlam hkc hU hS hS'
  obtain ⟨pb, lx, dx, sx, ds, lf, pb2, fn, k1, k2, k3, k4, wt, s1, s2, s3, s4, s5, v1, v3⟩ := C
  obtain ⟨o1, o2, o3, o4, o5⟩ := ho
  simp only at o1 o2 o3 o4 o5 hfn hr1 hD
  generalize hcut : cut _ news = rest at hfin hD hfn hr1 ⊢
  dsimp only [lexE, LexC.dict, LexC.sdict] at hD ⊢
  refine does_of ?_
  w_strict (
   k_fill
   intro ns g c mo lo gl ce qq fu co bu outer A₀ base h₀ L m s Q E B F X N T codeHd hret
   k_dflt k_enter
   repeat' (first | (fail_if_success (with_reducible show wpAny _ _ (pyIter _) _ _ _)
                     fail_if_success (with_reducible show wpAny _ _ (exec (Stmt.For _ _ _ _ _) _) _ _ _)
                     fail_if_success (with_reducible show wpAny _ _ (eval (Expr.ListComp _ _ _ _) _) _ _ _)
                     first | ((with_reducible show wpAny _ _ (call (Value.ref _) _ _) _ _ _); refine' Does.use (hD _) ?uA ?uD ?uU ?uF ?uK ?uB ?uR ?uX ?uN ?uT ?uC ?_; (case uA => exact rfl); (case uD => exact Nat.le_of_ble_eq_true rfl); (case uU => exact Nat.le_of_ble_eq_true rfl); (case uF => exact rfl); (case uK => exact rfl); (case uB => k_asm); (case uR => k_asm); (case uX => k_in); (case uN => k_asm); (case uT => k_asm); (case uC => k_asm); k_whole; intro r' n' h' tk' F' N' P'; (obtain ⟨e1, e2⟩ := P'; subst e1 e2)) | (k_unfold; (try dsimp only)) | (k_end; wrow_close) | walk1 | (dsimp only; walk1) | (leave1; walk_say "STEP leave1"; try dsimp only) | fail "no step")))
  · have hc : ch = 10 := by
      have h9 := (by assumption : (one ch == Str.ofString "\n") = true)
      rw [nl_one, one_beq] at h9
      exact of_decide_eq_true h9
    refine hret _ _ _ _ (by assumption) (by assumption) ⟨⟨_, rfl⟩, ?_, ?_⟩
    · rw [if_pos hc]; exact (hfin (nl + 1) _).1
    · exact (hfin (nl + 1) _).2
  · have hc : ¬ ch = 10 := by
      have h9 := (by assumption : (one ch == Str.ofString "\n") = false)
      rw [nl_one, one_beq] at h9
      exact of_decide_eq_false h9
    refine hret _ _ _ _ (by assumption) (by assumption) ⟨⟨_, rfl⟩, ?_, ?_⟩
    · rw [if_neg hc]; exact (hfin nl _).1
    · exact (hfin nl _).2
set_option maxRecDepth 100000 in
set_option maxHeartbeats 8000000 in
theorem read_nil {w : World} {mean : ExcName → Option Value} {mg mb : Str → Option Value} {C : LexC} {nl : Int} {q : List Str} {news : List (Addr × Obj)} (hL : LexIn w mean mg mb C nl q [] news) :
    Does w mean mg mb 680 1800 (.ref 134) [.ref C.lx] news (fun r n' => (∃ t, r = .str (Str.ofString "") t) ∧ LexIn w mean mg mb C nl q [] n' ∧ Keep C news n') := by
  obtain ⟨t, qs, ys, n1, n2, keep, hq, hS, ho, hE, hkeep, ⟨fd, hfd⟩, hlam⟩ := hL
  obtain rfl := strs_nil hS
  have hkc : ∀ p ∈ keep, p ∈ cut C.mut news := fun p hp => mem_cut (hkeep p hp).1 (hkeep p hp).2.1
  have hfin := lexIn_of (w := w) (nl := nl) (t := t) (n1 := n1) (n2 := n2) hq hS ho hkeep ⟨fd, hfd⟩ hlam
  have hD := fun u => hlam.2 (lexE w C nl t qs [] n1 n2 (cut C.mut news)) n2 u (fun p hp => List.mem_cons_of_mem _ (List.mem_cons_of_mem _ (List.mem_cons_of_mem _ (List.mem_cons_of_mem _ (List.mem_cons_of_mem _ (List.mem_cons_of_mem _ (hkc p hp))))))) (List.mem_cons_of_mem _ (List.mem_cons_of_mem _ (List.mem_cons_of_mem _ (List.mem_cons_of_mem _ (List.mem_cons_of_mem _ List.mem_cons_self)))))
  have hfn : (C.fn, ({ cls := .type "function", data := .func fd } : Obj)) ∈ cut C.mut news := hkc _ hfd
  have hr1 : ∀ p ∈ cut C.mut news, p.1 ≠ C.dx := cut_ne (by simp [LexC.mut])
  refine Does.sub (news₁ := lexE w C nl t qs [] n1 n2 (cut C.mut news)) ?_ ?_
  rotate_left
  · simp only [List.forall_mem_cons] at hE ⊢
    exact ⟨hE.1, hE.2.1, hE.2.2.1, hE.2.2.2.1, hE.2.2.2.2.1, hE.2.2.2.2.2.1, cut_sub⟩
  clear hE hkeep hlam hkc hS
  obtain ⟨pb, lx, dx, sx, ds, lf, pb2, fn, k1, k2, k3, k4, wt, s1, s2, s3, s4, s5, v1, v3⟩ := C
  obtain ⟨o1, o2, o3, o4, o5⟩ := ho
  simp only at o1 o2 o3 o4 o5 hfn hr1 hD
  generalize hcut : cut _ news = rest at hfin hD hfn hr1 ⊢
  dsimp only [lexE, LexC.dict, LexC.sdict] at hD ⊢
  refine does_of ?_
  w_strict (
   k_fill
   intro ns g c mo lo gl ce qq fu co bu outer A₀ base h₀ L m s Q E B F X N T codeHd hret
   k_dflt k_enter
   repeat' (first | (fail_if_success (with_reducible show wpAny _ _ (pyIter _) _ _ _)
                     fail_if_success (with_reducible show wpAny _ _ (exec (Stmt.For _ _ _ _ _) _) _ _ _)
                     fail_if_success (with_reducible show wpAny _ _ (eval (Expr.ListComp _ _ _ _) _) _ _ _)
                     first | ((with_reducible show wpAny _ _ (call (Value.ref _) _ _) _ _ _); refine' Does.use (hD _) ?uA ?uD ?uU ?uF ?uK ?uB ?uR ?uX ?uN ?uT ?uC ?_; (case uA => exact rfl); (case uD => exact Nat.le_of_ble_eq_true rfl); (case uU => exact Nat.le_of_ble_eq_true rfl); (case uF => exact rfl); (case uK => exact rfl); (case uB => k_asm); (case uR => k_asm); (case uX => k_in); (case uN => k_asm); (case uT => k_asm); (case uC => k_asm); k_whole; intro r' n' h' tk' F' N' P'; (obtain ⟨⟨u', e1⟩, e2⟩ := P'; subst e1 e2)) | (k_unfold; (try dsimp only)) | (k_end; wrow_close) | walk1 | (dsimp only; walk1) | (leave1; walk_say "STEP leave1"; try dsimp only) | fail "no step")))
  all_goals exact hret _ _ _ _ (by assumption) (by assumption) ⟨⟨_, rfl⟩, hfin⟩
theorem offLQ : True := by
  w_top off
  exact True.intro

/-- the signs of a word as they are written: each with a backslash ahead, or bare -/
noncomputable def enc : List (Bool × Nat) → List Nat
  | [] => []
  | (true, d) :: r => 92 :: d :: enc r
  | (false, d) :: r => d :: enc r
noncomputable def dec (l : List (Bool × Nat)) : List Nat := l.map (·.2)
theorem txt_add (a : List Nat) (c : Nat) : txt a ++ one c = txt (a ++ [c]) := by
  apply Str.ext'
  rw [Str.cps_append]
  simp [txt, one]
theorem txt_nil : txt [] = Str.ofString "" := by decide +kernel
theorem enc_len : ∀ l, (enc l).length ≤ 2 * l.length
  | [] => Nat.le_refl _
  | (true, d) :: r => by have := enc_len r; simp only [enc, List.length_cons]; omega
  | (false, d) :: r => by have := enc_len r; simp only [enc, List.length_cons]; omega
theorem txt_len (l : List Nat) : (txt l).length = l.length := by simp [txt, Str.length]
theorem one_len (d : Nat) : (one d).length = 1 := rfl
theorem fn134 (P : Params) : ∃ fo fd, (frag.heap_1 P).lookup 134 = some fo ∧ fo.data = .func fd := ⟨_, _, by with_unfolding_all rfl, rfl⟩

set_option maxRecDepth 100000 in
set_option maxHeartbeats 8000000 in
/-- reading on behind a quotation mark -/
theorem loopQ {w : World} {mean : ExcName → Option Value} {mg mb : Str → Option Value} {C : LexC} {nl : Int} {q : List Str} {rest : List Nat} {it mo L : Addr} {t0 : Tok} {s : Shared}
    {outer : List Env} {A₀ : Around} {base g : Heap} {R : Result → Shared → Prop} (hrest : rest.length ≤ 500) (hit : it ∉ C.mut) (hmo : mo ∉ C.mut)
    (B : Below A₀ base outer g) (X : (frag.heap_1 w.params).In g) (T : Top topProg looseL mean mg mb g) (codeHd : CodeHd base 168 164) :
    ∀ (items : List (Bool × Nat)) (acc : List Nat) (h : Heap) (tk : Nat) (m : Str → Option Value) (news : List (Addr × Obj)) (ta : Tok), (∀ p ∈ items, p.2 ≠ 10 ∧ (p.1 = false → p.2 ≠ 34 ∧ p.2 ≠ 92)) → items.length + acc.length ≤ 100 →
      Fr g L h m → News g L h news → (it, ciObj mo (Str.ofString "") t0) ∈ news → (mo, methodObj (.ref 134) (.ref C.lx)) ∈ news → LexIn w mean mg mb C nl q (enc items ++ 34 :: rest) news →
      m (Str.ofString "self") = some (.ref C.lx) → m (Str.ofString "token") = some (.str (txt acc) ta) →
      (∀ h' tk' m' news' t', Fr g L h' m' → News g L h' news' → LexIn w mean mg mb C nl q rest news' → Keep C news news' → R (.ok (.ret (.str (txt (acc ++ dec items)) t'))) { s with heap := h', toks := tk' }) →
      codeAny (model Challenge.rw_ty0016_01.row.prog w) { handled := none, depth := 671, frames := some (envOf (Str.ofString "_netrclex.get_token") (scopeOf getTok) L 141 (.ref 140) :: outer), guards := some [], units := 1703 }
        (.forLoop (targetOf tokQ) (.ref it) (bodyOf tokQ) [] (envOf (Str.ofString "_netrclex.get_token") (scopeOf getTok) L 141 (.ref 140))) R { s with heap := h, toks := tk } := by
  have e1 : bodyOf tokQ = [Stmt.If _ _ _ _, Stmt.AugAssign _ _ _ _] := rfl
  have e2 : targetOf tokQ = Expr.Name _ _ := rfl
  have e3 : scopeOf getTok = Scope.mk _ _ _ _ _ := rfl
  rw [e1, e2, e3]
  clear e1 e2 e3
  obtain ⟨fo, fd, hfo, hfd⟩ := fn134 w.params
  intro items
  induction items with
  | nil =>
    intro acc h tk m news ta hok hlen F N hm1 hm2 hL hself htok hR
    refine for_step fun E' => ?_
    refine next_ci rfl (N.get hm1) (N.get hm2) (F.keep _ _ (X _ _ hfo)) hfd ?_
    refine Does.code (s := { s with heap := h, toks := tk }) (E := fun _ _ => False) (read_cons hL (by omega)) rfl (Nat.le_of_ble_eq_true rfl) (Nat.le_of_ble_eq_true rfl) rfl rfl B F X N T codeHd fun r n' h' tk' F' N' P' => ?_
    obtain ⟨⟨tr, rfl⟩, hL', hK⟩ := P'
    refine ⟨_, _, rfl, N'.get (hK _ hm1 hit), N'.get (hK _ hm2 hmo), F'.keep _ _ (X _ _ hfo), ?_, ?_⟩
    · intro e; exact absurd e (by rw [← show txt [] = Str.ofString "" from by decide +kernel]; simp [txt, one])
    · intro _
      rw [← dq_one]
      refine wpAny_assign_Name (stN F' N' fun h2 F2 N2 => ?_)
      have hd2 : (Str.ofString "\"" == Str.ofString "\"") = true := beq_self_eq_true _
      revert X
      k_fill
      intro X
      w_strict (
       repeat' (first | (fail_if_success (with_reducible show wpAny _ _ (pyIter _) _ _ _)
                         fail_if_success (with_reducible show wpAny _ _ (exec (Stmt.For _ _ _ _ _) _) _ _ _)
                         fail_if_success (with_reducible show wpAny _ _ (eval (Expr.ListComp _ _ _ _) _) _ _ _)
                         first | (k_unfold; (try dsimp only)) | (k_end; wrow_close) | walk1 | (dsimp only; walk1) | (leave1; walk_say "STEP leave1"; try dsimp only) | fail "no step")))
      all_goals (dsimp only; exact (by simpa [dec] using hR _ _ _ n' ta F2 N2 (by simpa using hL') hK))
  | cons p items ih =>
    intro acc h tk m news ta hok hlen F N hm1 hm2 hL hself htok hR
    obtain ⟨e, d⟩ := p
    obtain ⟨hd10, hdf⟩ := hok _ (.head _)
    simp only at hd10 hdf
    have hok' : ∀ p ∈ items, p.2 ≠ 10 ∧ (p.1 = false → p.2 ≠ 34 ∧ p.2 ≠ 92) := fun p hp => hok p (.tail _ hp)
    simp only [List.length_cons] at hlen
    have hel := enc_len items
    refine for_step fun E' => ?_
    refine next_ci rfl (N.get hm1) (N.get hm2) (F.keep _ _ (X _ _ hfo)) hfd ?_
    cases e with
    | false =>
      obtain ⟨hd34, hd92⟩ := hdf rfl
      have hL2 : LexIn w mean mg mb C nl q (d :: (enc items ++ 34 :: rest)) news := hL
      refine Does.code (s := { s with heap := h, toks := tk }) (E := fun _ _ => False) (read_cons hL2 (by simp; omega)) rfl (Nat.le_of_ble_eq_true rfl) (Nat.le_of_ble_eq_true rfl) rfl rfl B F X N T codeHd fun r n' h' tk' F' N' P' => ?_
      obtain ⟨⟨tr, rfl⟩, hL', hK⟩ := P'
      rw [if_neg hd10] at hL'
      refine ⟨_, _, rfl, N'.get (hK _ hm1 hit), N'.get (hK _ hm2 hmo), F'.keep _ _ (X _ _ hfo), fun e => absurd e (by rw [← txt_nil]; simp [txt, one]), fun _ => ?_⟩
      refine wpAny_assign_Name (stN F' N' fun h2 F2 N2 => ?_)
      have hd2 : (one d == Str.ofString "\"") = false := by rw [dq_one, one_beq]; exact decide_eq_false hd34
      have hl1 := txt_len acc
      have hl2 := one_len d
      have hd3 : (one d == Str.ofString "\\") = false := by rw [bs_one, one_beq]; exact decide_eq_false hd92
      revert X
      k_fill
      intro X
      w_strict (
       repeat' (first | (fail_if_success (with_reducible show wpAny _ _ (pyIter _) _ _ _)
                         fail_if_success (with_reducible show wpAny _ _ (exec (Stmt.For _ _ _ _ _) _) _ _ _)
                         fail_if_success (with_reducible show wpAny _ _ (eval (Expr.ListComp _ _ _ _) _) _ _ _)
                         first | (k_unfold; (try dsimp only)) | (k_end; wrow_close) | walk1 | (dsimp only; walk1) | (leave1; walk_say "STEP leave1"; try dsimp only) | fail "no step")))
      all_goals (
        dsimp only
        refine ih (acc ++ [d]) _ _ _ _ _ hok' (by simp; omega) (by assumption) (by assumption) (hK _ hm1 hit) (hK _ hm2 hmo) hL' (by walk_at "my.look") (congrArg (fun z => some (Value.str z _)) (txt_add acc d)) ?_
        · intro h9 tk9 m9 n9 t9 F9 N9 L9 K9
          have := hR h9 tk9 m9 n9 t9 F9 N9 L9 (hK.trans K9)
          rw [List.append_assoc]
          exact this)
    | true =>
      have hL2 : LexIn w mean mg mb C nl q (92 :: d :: (enc items ++ 34 :: rest)) news := hL
      refine Does.code (s := { s with heap := h, toks := tk }) (E := fun _ _ => False) (read_cons hL2 (by simp; omega)) rfl (Nat.le_of_ble_eq_true rfl) (Nat.le_of_ble_eq_true rfl) rfl rfl B F X N T codeHd fun r n' h' tk' F' N' P' => ?_
      obtain ⟨⟨tr, rfl⟩, hL', hK⟩ := P'
      refine ⟨_, _, rfl, N'.get (hK _ hm1 hit), N'.get (hK _ hm2 hmo), F'.keep _ _ (X _ _ hfo), fun e => absurd e (by rw [← txt_nil]; simp [txt, one]), fun _ => ?_⟩
      refine wpAny_assign_Name (stN F' N' fun h2 F2 N2 => ?_)
      have hd2 : (one 92 == Str.ofString "\"") = false := by rw [dq_one, one_beq]; decide
      have hl1 := txt_len acc
      have hl2 := one_len d
      have hd3 : (one 92 == Str.ofString "\\") = true := by rw [bs_one, one_beq]; decide
      have hD := read_cons hL' (by simp; omega)
      obtain ⟨ti, hi1, hi2⟩ := hL'.inst
      have hm1' := hK _ hm1 hit
      have hm2' := hK _ hm2 hmo
      clear N hm1 hm2
      revert X
      k_fill
      intro X
      w_strict (
       repeat' (first | (fail_if_success (with_reducible show wpAny _ _ (pyIter _) _ _ _)
                         fail_if_success (with_reducible show wpAny _ _ (exec (Stmt.For _ _ _ _ _) _) _ _ _)
                         fail_if_success (with_reducible show wpAny _ _ (eval (Expr.ListComp _ _ _ _) _) _ _ _)
                         first | ((with_reducible show wpAny _ _ (call (Value.ref _) _ _) _ _ _); refine' Does.use (hD) ?uA ?uD ?uU ?uF ?uK ?uB ?uR ?uX ?uN ?uT ?uC ?_; (case uA => exact rfl); (case uD => exact Nat.le_of_ble_eq_true rfl); (case uU => exact Nat.le_of_ble_eq_true rfl); (case uF => exact rfl); (case uK => exact rfl); (case uB => k_asm); (case uR => k_asm); (case uX => k_in); (case uN => k_asm); (case uT => k_asm); (case uC => k_asm); k_whole; intro r' n' h' tk' F' N' P'; (obtain ⟨⟨tr2, e2⟩, hL3, hK3⟩ := P'; subst e2)) | (k_unfold; (try dsimp only)) | (k_end; wrow_close) | walk1 | (dsimp only; walk1) | (leave1; walk_say "STEP leave1"; try dsimp only) | fail "no step")))
      all_goals (
        dsimp only
        rw [if_neg hd10, if_neg (by decide)] at hL3
        refine ih (acc ++ [d]) _ _ _ _ _ hok' (by simp; omega) (by assumption) (by assumption) (hK3 _ hm1' hit) (hK3 _ hm2' hmo) hL3 (by walk_at "my.look") (congrArg (fun z => some (Value.str z _)) (txt_add acc d)) ?_
        · intro h9 tk9 m9 n9 t9 F9 N9 L9 K9
          have := hR h9 tk9 m9 n9 t9 F9 N9 L9 ((hK.trans hK3).trans K9)
          rw [List.append_assoc]
          exact this)
theorem offLW : True := by
  w_top off
  exact True.intro
noncomputable def white (c : Nat) : Bool := c == 10 || c == 9 || c == 13 || c == 32
theorem in_ws (c : Nat) : (!(Builtin.Str.occurrences (Str.ofString "\n\t\r ") (one c) 0 (Str.ofString "\n\t\r ").length 1).isEmpty) = white c := by
  have e : (Str.ofString "\n\t\r ").cps.toList = [10, 9, 13, 32] := by decide +kernel
  rw [show one c = ⟨#[c]⟩ from rfl, StrLaws.found_one, e]
  simp only [white, List.mem_cons, List.not_mem_nil, or_false]
  by_cases h1 : c = 10 <;> by_cases h2 : c = 9 <;> by_cases h3 : c = 13 <;> by_cases h4 : c = 32 <;> simp_all
set_option maxRecDepth 100000 in
set_option maxHeartbeats 8000000 in
/-- reading on in a bare word, to a white sign -/
theorem loopW {w : World} {mean : ExcName → Option Value} {mg mb : Str → Option Value} {C : LexC} {nl : Int} {q : List Str} {rest : List Nat} {it mo L : Addr} {t0 : Tok} {s : Shared}
    {outer : List Env} {A₀ : Around} {base g : Heap} {R : Result → Shared → Prop} (hrest : rest.length ≤ 500) {e0 : Nat} (he0 : white e0 = true) (hit : it ∉ C.mut) (hmo : mo ∉ C.mut)
    (B : Below A₀ base outer g) (X : (frag.heap_1 w.params).In g) (T : Top topProg looseL mean mg mb g) (codeHd : CodeHd base 168 164) :
    ∀ (items : List (Bool × Nat)) (acc : List Nat) (h : Heap) (tk : Nat) (m : Str → Option Value) (news : List (Addr × Obj)) (ta : Tok), (∀ p ∈ items, p.2 ≠ 10 ∧ (p.1 = false → white p.2 = false ∧ p.2 ≠ 92)) → items.length + acc.length ≤ 100 →
      Fr g L h m → News g L h news → (it, ciObj mo (Str.ofString "") t0) ∈ news → (mo, methodObj (.ref 134) (.ref C.lx)) ∈ news → LexIn w mean mg mb C nl q (enc items ++ e0 :: rest) news →
      m (Str.ofString "self") = some (.ref C.lx) → m (Str.ofString "token") = some (.str (txt acc) ta) →
      (∀ h' tk' m' news' t', Fr g L h' m' → News g L h' news' → LexIn w mean mg mb C (if e0 = 10 then nl + 1 else nl) q rest news' → Keep C news news' → R (.ok (.ret (.str (txt (acc ++ dec items)) t'))) { s with heap := h', toks := tk' }) →
      codeAny (model Challenge.rw_ty0016_01.row.prog w) { handled := none, depth := 671, frames := some (envOf (Str.ofString "_netrclex.get_token") (scopeOf getTok) L 141 (.ref 140) :: outer), guards := some [], units := 1703 }
        (.forLoop (targetOf tokW) (.ref it) (bodyOf tokW) [] (envOf (Str.ofString "_netrclex.get_token") (scopeOf getTok) L 141 (.ref 140))) R { s with heap := h, toks := tk } := by
  have e1 : bodyOf tokW = [Stmt.If _ _ _ _, Stmt.AugAssign _ _ _ _] := rfl
  have e2 : targetOf tokW = Expr.Name _ _ := rfl
  have e3 : scopeOf getTok = Scope.mk _ _ _ _ _ := rfl
  rw [e1, e2, e3]
  clear e1 e2 e3
  obtain ⟨fo, fd, hfo, hfd⟩ := fn134 w.params
  intro items
  induction items with
  | nil =>
    intro acc h tk m news ta hok hlen F N hm1 hm2 hL hself htok hR
    refine for_step fun E' => ?_
    refine next_ci rfl (N.get hm1) (N.get hm2) (F.keep _ _ (X _ _ hfo)) hfd ?_
    refine Does.code (s := { s with heap := h, toks := tk }) (E := fun _ _ => False) (read_cons hL (by omega)) rfl (Nat.le_of_ble_eq_true rfl) (Nat.le_of_ble_eq_true rfl) rfl rfl B F X N T codeHd fun r n' h' tk' F' N' P' => ?_
    obtain ⟨⟨tr, rfl⟩, hL', hK⟩ := P'
    refine ⟨_, _, rfl, N'.get (hK _ hm1 hit), N'.get (hK _ hm2 hmo), F'.keep _ _ (X _ _ hfo), ?_, ?_⟩
    · intro e; exact absurd e (by rw [← show txt [] = Str.ofString "" from by decide +kernel]; simp [txt, one])
    · intro _
      obtain ⟨ti, hi1, hi2⟩ := hL'.inst
      refine wpAny_assign_Name (stN F' N' fun h2 F2 N2 => ?_)
      have hw := in_ws e0
      rw [he0] at hw
      revert X
      k_fill
      intro X
      w_strict (
       repeat' (first | (fail_if_success (with_reducible show wpAny _ _ (pyIter _) _ _ _)
                         fail_if_success (with_reducible show wpAny _ _ (exec (Stmt.For _ _ _ _ _) _) _ _ _)
                         fail_if_success (with_reducible show wpAny _ _ (eval (Expr.ListComp _ _ _ _) _) _ _ _)
                         first | (k_unfold; (try dsimp only)) | (k_end; wrow_close) | walk1 | (dsimp only; walk1) | (leave1; walk_say "STEP leave1"; try dsimp only) | fail "no step")))
      all_goals (dsimp only; exact (by simpa [dec] using hR _ _ _ n' ta F2 N2 hL' hK))
  | cons p items ih =>
    intro acc h tk m news ta hok hlen F N hm1 hm2 hL hself htok hR
    obtain ⟨e, d⟩ := p
    obtain ⟨hd10, hdf⟩ := hok _ (.head _)
    simp only at hd10 hdf
    have hok' : ∀ p ∈ items, p.2 ≠ 10 ∧ (p.1 = false → white p.2 = false ∧ p.2 ≠ 92) := fun p hp => hok p (.tail _ hp)
    simp only [List.length_cons] at hlen
    have hel := enc_len items
    refine for_step fun E' => ?_
    refine next_ci rfl (N.get hm1) (N.get hm2) (F.keep _ _ (X _ _ hfo)) hfd ?_
    cases e with
    | false =>
      obtain ⟨hdw, hd92⟩ := hdf rfl
      have hL2 : LexIn w mean mg mb C nl q (d :: (enc items ++ e0 :: rest)) news := hL
      refine Does.code (s := { s with heap := h, toks := tk }) (E := fun _ _ => False) (read_cons hL2 (by simp; omega)) rfl (Nat.le_of_ble_eq_true rfl) (Nat.le_of_ble_eq_true rfl) rfl rfl B F X N T codeHd fun r n' h' tk' F' N' P' => ?_
      obtain ⟨⟨tr, rfl⟩, hL', hK⟩ := P'
      rw [if_neg hd10] at hL'
      refine ⟨_, _, rfl, N'.get (hK _ hm1 hit), N'.get (hK _ hm2 hmo), F'.keep _ _ (X _ _ hfo), fun e => absurd e (by rw [← txt_nil]; simp [txt, one]), fun _ => ?_⟩
      obtain ⟨ti, hi1, hi2⟩ := hL'.inst
      refine wpAny_assign_Name (stN F' N' fun h2 F2 N2 => ?_)
      have hw := in_ws d
      rw [hdw] at hw
      have hl1 := txt_len acc
      have hl2 := one_len d
      have hd3 : (one d == Str.ofString "\\") = false := by rw [bs_one, one_beq]; exact decide_eq_false hd92
      revert X
      k_fill
      intro X
      w_strict (
       repeat' (first | (fail_if_success (with_reducible show wpAny _ _ (pyIter _) _ _ _)
                         fail_if_success (with_reducible show wpAny _ _ (exec (Stmt.For _ _ _ _ _) _) _ _ _)
                         fail_if_success (with_reducible show wpAny _ _ (eval (Expr.ListComp _ _ _ _) _) _ _ _)
                         first | (k_unfold; (try dsimp only)) | (k_end; wrow_close) | walk1 | (dsimp only; walk1) | (leave1; walk_say "STEP leave1"; try dsimp only) | fail "no step")))
      all_goals (
        dsimp only
        refine ih (acc ++ [d]) _ _ _ _ _ hok' (by simp; omega) (by assumption) (by assumption) (hK _ hm1 hit) (hK _ hm2 hmo) hL' (by walk_at "my.look") (congrArg (fun z => some (Value.str z _)) (txt_add acc d)) ?_
        · intro h9 tk9 m9 n9 t9 F9 N9 L9 K9
          have := hR h9 tk9 m9 n9 t9 F9 N9 L9 (hK.trans K9)
          rw [List.append_assoc]
          exact this)
    | true =>
      have hL2 : LexIn w mean mg mb C nl q (92 :: d :: (enc items ++ e0 :: rest)) news := hL
      refine Does.code (s := { s with heap := h, toks := tk }) (E := fun _ _ => False) (read_cons hL2 (by simp; omega)) rfl (Nat.le_of_ble_eq_true rfl) (Nat.le_of_ble_eq_true rfl) rfl rfl B F X N T codeHd fun r n' h' tk' F' N' P' => ?_
      obtain ⟨⟨tr, rfl⟩, hL', hK⟩ := P'
      refine ⟨_, _, rfl, N'.get (hK _ hm1 hit), N'.get (hK _ hm2 hmo), F'.keep _ _ (X _ _ hfo), fun e => absurd e (by rw [← txt_nil]; simp [txt, one]), fun _ => ?_⟩
      refine wpAny_assign_Name (stN F' N' fun h2 F2 N2 => ?_)
      have hw := in_ws 92
      rw [show white 92 = false from rfl] at hw
      have hl1 := txt_len acc
      have hl2 := one_len d
      have hd3 : (one 92 == Str.ofString "\\") = true := by rw [bs_one, one_beq]; decide
      have hD := read_cons hL' (by simp; omega)
      obtain ⟨ti, hi1, hi2⟩ := hL'.inst
      have hm1' := hK _ hm1 hit
      have hm2' := hK _ hm2 hmo
      clear N hm1 hm2
      revert X
      k_fill
      intro X
      w_strict (
       repeat' (first | (fail_if_success (with_reducible show wpAny _ _ (pyIter _) _ _ _)
                         fail_if_success (with_reducible show wpAny _ _ (exec (Stmt.For _ _ _ _ _) _) _ _ _)
                         fail_if_success (with_reducible show wpAny _ _ (eval (Expr.ListComp _ _ _ _) _) _ _ _)
                         first | ((with_reducible show wpAny _ _ (call (Value.ref _) _ _) _ _ _); refine' Does.use (hD) ?uA ?uD ?uU ?uF ?uK ?uB ?uR ?uX ?uN ?uT ?uC ?_; (case uA => exact rfl); (case uD => exact Nat.le_of_ble_eq_true rfl); (case uU => exact Nat.le_of_ble_eq_true rfl); (case uF => exact rfl); (case uK => exact rfl); (case uB => k_asm); (case uR => k_asm); (case uX => k_in); (case uN => k_asm); (case uT => k_asm); (case uC => k_asm); k_whole; intro r' n' h' tk' F' N' P'; (obtain ⟨⟨tr2, e2⟩, hL3, hK3⟩ := P'; subst e2)) | (k_unfold; (try dsimp only)) | (k_end; wrow_close) | walk1 | (dsimp only; walk1) | (leave1; walk_say "STEP leave1"; try dsimp only) | fail "no step")))
      all_goals (
        dsimp only
        rw [if_neg hd10, if_neg (by decide)] at hL3
        refine ih (acc ++ [d]) _ _ _ _ _ hok' (by simp; omega) (by assumption) (by assumption) (hK3 _ hm1' hit) (hK3 _ hm2' hmo) hL3 (by walk_at "my.look") (congrArg (fun z => some (Value.str z _)) (txt_add acc d)) ?_
        · intro h9 tk9 m9 n9 t9 F9 N9 L9 K9
          have := hR h9 tk9 m9 n9 t9 F9 N9 L9 ((hK.trans hK3).trans K9)
          rw [List.append_assoc]
          exact this)
theorem offLE : True := by
  w_top off
  exact True.intro
set_option maxRecDepth 100000 in
set_option maxHeartbeats 8000000 in
/-- reading on in a bare word, to the end of what is left -/
theorem loopE {w : World} {mean : ExcName → Option Value} {mg mb : Str → Option Value} {C : LexC} {nl : Int} {q : List Str} {it mo L : Addr} {t0 : Tok} {s : Shared}
    {outer : List Env} {A₀ : Around} {base g : Heap} {R : Result → Shared → Prop} (hpb : @LT.lt Nat _ C.pb it) (hit : it ∉ C.mut) (hmo : mo ∉ C.mut)
    (B : Below A₀ base outer g) (X : (frag.heap_1 w.params).In g) (T : Top topProg looseL mean mg mb g) (codeHd : CodeHd base 168 164) :
    ∀ (items : List (Bool × Nat)) (acc : List Nat) (h : Heap) (tk : Nat) (m : Str → Option Value) (news : List (Addr × Obj)) (ta : Tok), (∀ p ∈ items, p.2 ≠ 10 ∧ (p.1 = false → white p.2 = false ∧ p.2 ≠ 92)) → items.length + acc.length ≤ 100 →
      Fr g L h m → News g L h news → (it, ciObj mo (Str.ofString "") t0) ∈ news → (mo, methodObj (.ref 134) (.ref C.lx)) ∈ news → LexIn w mean mg mb C nl q (enc items) news →
      m (Str.ofString "self") = some (.ref C.lx) → m (Str.ofString "token") = some (.str (txt acc) ta) → m (Str.ofString "fiter") = some (.ref it) →
      (∀ h' tk' m' news' t', Fr g L h' m' → News g L h' news' → LexIn w mean mg mb C nl q [] news' → (∀ p ∈ news, p.1 ∉ C.mut → p.1 ≠ it → p ∈ news') → (it, ciEnd) ∈ news' → m' (Str.ofString "token") = some (.str (txt (acc ++ dec items)) t') → m' (Str.ofString "fiter") = some (.ref it) → R (.ok .next) { s with heap := h', toks := tk' }) →
      codeAny (model Challenge.rw_ty0016_01.row.prog w) { handled := none, depth := 671, frames := some (envOf (Str.ofString "_netrclex.get_token") (scopeOf getTok) L 141 (.ref 140) :: outer), guards := some [], units := 1703 }
        (.forLoop (targetOf tokW) (.ref it) (bodyOf tokW) [] (envOf (Str.ofString "_netrclex.get_token") (scopeOf getTok) L 141 (.ref 140))) R { s with heap := h, toks := tk } := by
  have e1 : bodyOf tokW = [Stmt.If _ _ _ _, Stmt.AugAssign _ _ _ _] := rfl
  have e2 : targetOf tokW = Expr.Name _ _ := rfl
  have e3 : scopeOf getTok = Scope.mk _ _ _ _ _ := rfl
  rw [e1, e2, e3]
  clear e1 e2 e3
  obtain ⟨fo, fd, hfo, hfd⟩ := fn134 w.params
  intro items
  induction items with
  | nil =>
    intro acc h tk m news ta hok hlen F N hm1 hm2 hL hself htok hfi hR
    refine for_step fun E' => ?_
    refine next_ci rfl (N.get hm1) (N.get hm2) (F.keep _ _ (X _ _ hfo)) hfd ?_
    refine Does.code (s := { s with heap := h, toks := tk }) (E := fun _ _ => False) (read_nil hL) rfl (Nat.le_of_ble_eq_true rfl) (Nat.le_of_ble_eq_true rfl) rfl rfl B F X N T codeHd fun r n' h' tk' F' N' P' => ?_
    obtain ⟨⟨tr, rfl⟩, hL', hK⟩ := P'
    have hm3 := hK _ hm1 hit
    refine ⟨_, _, rfl, N'.get hm3, N'.get (hK _ hm2 hmo), F'.keep _ _ (X _ _ hfo), fun _ h2 hk2 he2 => ?_, fun e => absurd rfl e⟩
    refine hR h2 tk' m ((it, ciEnd) :: cut [it] n') ta (frBut F' (N' _ hm3).2.1 (N' _ hm3).2.2 hk2) (newsBut N' hm3 hk2 he2) (hL'.but hpb) (fun p hp h1 h2 => .tail _ (mem_cut (hK p hp h1) (by simpa using h2))) (.head _) ?_ hfi
    simpa [dec] using htok
  | cons p items ih =>
    intro acc h tk m news ta hok hlen F N hm1 hm2 hL hself htok hfi hR
    obtain ⟨e, d⟩ := p
    obtain ⟨hd10, hdf⟩ := hok _ (.head _)
    simp only at hd10 hdf
    have hok' : ∀ p ∈ items, p.2 ≠ 10 ∧ (p.1 = false → white p.2 = false ∧ p.2 ≠ 92) := fun p hp => hok p (.tail _ hp)
    simp only [List.length_cons] at hlen
    have hel := enc_len items
    refine for_step fun E' => ?_
    refine next_ci rfl (N.get hm1) (N.get hm2) (F.keep _ _ (X _ _ hfo)) hfd ?_
    cases e with
    | false =>
      obtain ⟨hdw, hd92⟩ := hdf rfl
      have hL2 : LexIn w mean mg mb C nl q (d :: enc items) news := hL
      refine Does.code (s := { s with heap := h, toks := tk }) (E := fun _ _ => False) (read_cons hL2 (by first | omega | (simp; omega))) rfl (Nat.le_of_ble_eq_true rfl) (Nat.le_of_ble_eq_true rfl) rfl rfl B F X N T codeHd fun r n' h' tk' F' N' P' => ?_
      obtain ⟨⟨tr, rfl⟩, hL', hK⟩ := P'
      rw [if_neg hd10] at hL'
      refine ⟨_, _, rfl, N'.get (hK _ hm1 hit), N'.get (hK _ hm2 hmo), F'.keep _ _ (X _ _ hfo), fun e => absurd e (by rw [← txt_nil]; simp [txt, one]), fun _ => ?_⟩
      obtain ⟨ti, hi1, hi2⟩ := hL'.inst
      refine wpAny_assign_Name (stN F' N' fun h2 F2 N2 => ?_)
      have hw := in_ws d
      rw [hdw] at hw
      have hl1 := txt_len acc
      have hl2 := one_len d
      have hd3 : (one d == Str.ofString "\\") = false := by rw [bs_one, one_beq]; exact decide_eq_false hd92
      revert X
      k_fill
      intro X
      w_strict (
       repeat' (first | (fail_if_success (with_reducible show wpAny _ _ (pyIter _) _ _ _)
                         fail_if_success (with_reducible show wpAny _ _ (exec (Stmt.For _ _ _ _ _) _) _ _ _)
                         fail_if_success (with_reducible show wpAny _ _ (eval (Expr.ListComp _ _ _ _) _) _ _ _)
                         first | (k_unfold; (try dsimp only)) | (k_end; wrow_close) | walk1 | (dsimp only; walk1) | (leave1; walk_say "STEP leave1"; try dsimp only) | fail "no step")))
      all_goals (
        dsimp only
        refine ih (acc ++ [d]) _ _ _ _ _ hok' (by simp; omega) (by assumption) (by assumption) (hK _ hm1 hit) (hK _ hm2 hmo) hL' (by walk_at "my.look") (congrArg (fun z => some (Value.str z _)) (txt_add acc d)) (by walk_at "my.look") ?_
        · intro h9 tk9 m9 n9 t9 F9 N9 L9 K9 K8 K7 K6
          refine hR h9 tk9 m9 n9 t9 F9 N9 L9 (fun p hp h1 h2 => K9 p (hK p hp h1) h1 h2) K8 ?_ K6
          rw [List.append_assoc] at K7
          exact K7)
    | true =>
      have hL2 : LexIn w mean mg mb C nl q (92 :: d :: enc items) news := hL
      refine Does.code (s := { s with heap := h, toks := tk }) (E := fun _ _ => False) (read_cons hL2 (by first | omega | (simp; omega))) rfl (Nat.le_of_ble_eq_true rfl) (Nat.le_of_ble_eq_true rfl) rfl rfl B F X N T codeHd fun r n' h' tk' F' N' P' => ?_
      obtain ⟨⟨tr, rfl⟩, hL', hK⟩ := P'
      refine ⟨_, _, rfl, N'.get (hK _ hm1 hit), N'.get (hK _ hm2 hmo), F'.keep _ _ (X _ _ hfo), fun e => absurd e (by rw [← txt_nil]; simp [txt, one]), fun _ => ?_⟩
      refine wpAny_assign_Name (stN F' N' fun h2 F2 N2 => ?_)
      have hw := in_ws 92
      rw [show white 92 = false from rfl] at hw
      have hl1 := txt_len acc
      have hl2 := one_len d
      have hd3 : (one 92 == Str.ofString "\\") = true := by rw [bs_one, one_beq]; decide
      have hD := read_cons hL' (by first | omega | (simp; omega))
      obtain ⟨ti, hi1, hi2⟩ := hL'.inst
      have hm1' := hK _ hm1 hit
      have hm2' := hK _ hm2 hmo
      clear N hm1 hm2
      revert X
      k_fill
      intro X
      w_strict (
       repeat' (first | (fail_if_success (with_reducible show wpAny _ _ (pyIter _) _ _ _)
                         fail_if_success (with_reducible show wpAny _ _ (exec (Stmt.For _ _ _ _ _) _) _ _ _)
                         fail_if_success (with_reducible show wpAny _ _ (eval (Expr.ListComp _ _ _ _) _) _ _ _)
                         first | ((with_reducible show wpAny _ _ (call (Value.ref _) _ _) _ _ _); refine' Does.use (hD) ?uA ?uD ?uU ?uF ?uK ?uB ?uR ?uX ?uN ?uT ?uC ?_; (case uA => exact rfl); (case uD => exact Nat.le_of_ble_eq_true rfl); (case uU => exact Nat.le_of_ble_eq_true rfl); (case uF => exact rfl); (case uK => exact rfl); (case uB => k_asm); (case uR => k_asm); (case uX => k_in); (case uN => k_asm); (case uT => k_asm); (case uC => k_asm); k_whole; intro r' n' h' tk' F' N' P'; (obtain ⟨⟨tr2, e2⟩, hL3, hK3⟩ := P'; subst e2)) | (k_unfold; (try dsimp only)) | (k_end; wrow_close) | walk1 | (dsimp only; walk1) | (leave1; walk_say "STEP leave1"; try dsimp only) | fail "no step")))
      all_goals (
        dsimp only
        rw [if_neg hd10, if_neg (by decide)] at hL3
        refine ih (acc ++ [d]) _ _ _ _ _ hok' (by simp; omega) (by assumption) (by assumption) (hK3 _ hm1' hit) (hK3 _ hm2' hmo) hL3 (by walk_at "my.look") (congrArg (fun z => some (Value.str z _)) (txt_add acc d)) (by walk_at "my.look") ?_
        · intro h9 tk9 m9 n9 t9 F9 N9 L9 K9 K8 K7 K6
          refine hR h9 tk9 m9 n9 t9 F9 N9 L9 (fun p hp h1 h2 => K9 p ((hK.trans hK3) p hp h1) h1 h2) K8 ?_ K6
          rw [List.append_assoc] at K7
          exact K7)
theorem offLY : True := by
  w_top off
  exact True.intro

set_option maxRecDepth 100000 in
set_option maxHeartbeats 8000000 in
theorem lexer_first {w : World} {mean : ExcName → Option Value} {mg mb : Str → Option Value} {x : Str} {tx : Tok} {news : List (Addr × Obj)} (h164 : (164, tabObj #[]) ∈ news) (hx : x.length ≤ 1000) :
    Does w mean mg mb 700 2000 (.ref 169) [.str x tx] news (fun r n' => ∃ C, r = .ref C.lx ∧ LexIn w mean mg mb C 1 [] x.cps.toList n' ∧ TabIn n' ∧ (∀ p ∈ news, p.1 ≠ 164 → p ∈ n') ∧ ∀ p ∈ news, p.1 < C.lf) := by
  have hr : ∀ p ∈ cut [164] news, p.1 ≠ 164 := cut_ne (by simp)
  refine Does.sub (news₁ := (164, tabObj #[]) :: cut [164] news) ?_ (List.forall_mem_cons.mpr ⟨h164, cut_sub⟩)
  have hk : ∀ p ∈ news, p.1 ≠ 164 → p ∈ cut [164] news := fun p hp hn => mem_cut hp (by simpa using hn)
  have hall : ∀ b : Nat, 164 < b → AllLt b (cut [164] news) → ∀ p ∈ news, @LT.lt Nat _ p.1 b := by
    intro b h1 h2 p hp
    by_cases e : p.1 = 164
    · rw [e]; exact h1
    · exact allLt_iff.mp h2 p (hk p hp e)
  generalize cut [164] news = rest at hr hk hall ⊢
  refine does_of ?_
  w_strict (
   k_fill
   intro ns g c mo lo gl ce qq fu co bu outer A₀ base h₀ L m s Q E B F X N T codeHd hret
   k_dflt k_enter
   repeat' (first | (fail_if_success (with_reducible show wpAny _ _ (pyIter _) _ _ _)
                     fail_if_success (with_reducible show wpAny _ _ (exec (Stmt.For _ _ _ _ _) _) _ _ _)
                     fail_if_success (with_reducible show wpAny _ _ (eval (Expr.ListComp _ _ _ _) _) _ _ _)
                     first | (k_unfold; (try dsimp only)) | (k_end; wrow_close) | walk1 | (dsimp only; walk1) | (leave1; walk_say "STEP leave1"; try dsimp only) | fail "no step")))
  refine hret _ _ _ _ (by assumption) (by assumption) ?_
  refine' lex_done (q := []) (qs := []) (cs := x.cps.toList) ?h2 ?h3 ?h1 ?h4 ?h5 ?h7 ?hlam ?h8 ?h9 ?h6 ?hq ?hS ?o1 ?o2 ?o3 ?o4 ?o5 ?n1 ?n2 ?n3 ?n4 ?n5 ?hcl ?hcd ?hT ?hk ?hfr
  case h2 => k_mem
  case h3 => k_mem
  case h1 => k_mem
  case h4 => k_mem
  case h5 => k_mem
  case h7 => k_mem
  case hlam => exact lam_aux rfl (by assumption) (by assumption) (by assumption)
  case hcl => assumption
  case hcd => exact ⟨_, by assumption⟩
  case h8 => k_mem
  case h9 => k_mem
  case h6 => k_mem
  case hq => exact .nil
  case hS => exact (by assumption : StrsAre _ (signs x))
  case n5 => k_ne
  case hT => exact tab_made (by k_mem) (by k_mem) (by assumption) (by assumption)
  case hk => (intro p hp hn; have h9 := hk p hp hn; walk_at "my.tail")
  case hfr => exact hall _ (by omega) (by (first | exact (by with_reducible assumption) | exact (And.right (by with_reducible assumption)) | exact (And.right (And.right (by with_reducible assumption))) | exact (And.right (And.right (And.right (by with_reducible assumption)))) | exact (And.right (And.right (And.right (And.right (by with_reducible assumption))))) | exact (And.right (And.right (And.right (And.right (And.right (by with_reducible assumption)))))) | exact (And.right (And.right (And.right (And.right (And.right (And.right (by with_reducible assumption))))))) | exact (And.right (And.right (And.right (And.right (And.right (And.right (And.right (by with_reducible assumption)))))))) | exact (And.right (And.right (And.right (And.right (And.right (And.right (And.right (And.right (by with_reducible assumption))))))))) | exact (And.right (And.right (And.right (And.right (And.right (And.right (And.right (And.right (And.right (by with_reducible assumption)))))))))) | exact (And.right (And.right (And.right (And.right (And.right (And.right (And.right (And.right (And.right (And.right (by with_reducible assumption))))))))))) | exact (And.right (And.right (And.right (And.right (And.right (And.right (And.right (And.right (And.right (And.right (And.right (by with_reducible assumption)))))))))))) | exact (And.right (And.right (And.right (And.right (And.right (And.right (And.right (And.right (And.right (And.right (And.right (And.right (by with_reducible assumption))))))))))))) | exact (And.right (And.right (And.right (And.right (And.right (And.right (And.right (And.right (And.right (And.right (And.right (And.right (And.right (by with_reducible assumption))))))))))))))))
  all_goals omega
theorem offLZ : True := by
  w_top off
  exact True.intro

set_option maxRecDepth 100000 in
set_option maxHeartbeats 8000000 in
theorem lexer_again {w : World} {mean : ExcName → Option Value} {mg mb : Str → Option Value} {x : Str} {tx : Tok} {news : List (Addr × Obj)} (h164 : TabIn news) (hx : x.length ≤ 1000) :
    Does w mean mg mb 700 2000 (.ref 169) [.str x tx] news (fun r n' => ∃ C, r = .ref C.lx ∧ LexIn w mean mg mb C 1 [] x.cps.toList n' ∧ TabIn n' ∧ (∀ p ∈ news, p.1 ≠ 164 → p ∈ n') ∧ ∀ p ∈ news, p.1 < C.lf) := by
  obtain ⟨c0, oc0, vs0, tq0, hm1, hm2, hm3, hm4⟩ := h164
  have hc : ∀ b : Nat, AllLt b news → @LT.lt Nat _ c0 b := fun b h => allLt_iff.mp h _ hm2
  refine does_of ?_
  w_strict (
   k_fill
   intro ns g c mo lo gl ce qq fu co bu outer A₀ base h₀ L m s Q E B F X N T codeHd hret
   k_dflt k_enter
   repeat' (first | (fail_if_success (with_reducible show wpAny _ _ (pyIter _) _ _ _)
                     fail_if_success (with_reducible show wpAny _ _ (exec (Stmt.For _ _ _ _ _) _) _ _ _)
                     fail_if_success (with_reducible show wpAny _ _ (eval (Expr.ListComp _ _ _ _) _) _ _ _)
                     first | (k_unfold; (try dsimp only)) | (k_end; wrow_close) | walk1 | (dsimp only; walk1) | (leave1; walk_say "STEP leave1"; try dsimp only) | fail "no step")))
  refine hret _ _ _ _ (by assumption) (by assumption) ?_
  refine' lex_done (q := []) (qs := []) (cs := x.cps.toList) ?h2 ?h3 ?h1 ?h4 ?h5 ?h7 ?hlam ?h8 ?h9 ?h6 ?hq ?hS ?o1 ?o2 ?o3 ?o4 ?o5 ?n1 ?n2 ?n3 ?n4 ?n5 ?hcl ?hcd ?hT ?hk ?hfr
  case h2 => k_mem
  case h3 => k_mem
  case h1 => k_mem
  case h4 => k_mem
  case h5 => k_mem
  case h7 => k_mem
  case hlam => exact lam_aux rfl (by assumption) (by assumption) (by assumption)
  case hcl => assumption
  case hcd => exact ⟨_, by assumption⟩
  case h8 => k_mem
  case h9 => k_mem
  case h6 => k_mem
  case hq => exact .nil
  case hS => exact (by assumption : StrsAre _ (signs x))
  case n5 => exact Nat.ne_of_lt (hc _ (by (first | exact (by with_reducible assumption) | exact (And.right (by with_reducible assumption)) | exact (And.right (And.right (by with_reducible assumption))) | exact (And.right (And.right (And.right (by with_reducible assumption)))) | exact (And.right (And.right (And.right (And.right (by with_reducible assumption))))) | exact (And.right (And.right (And.right (And.right (And.right (by with_reducible assumption)))))) | exact (And.right (And.right (And.right (And.right (And.right (And.right (by with_reducible assumption))))))) | exact (And.right (And.right (And.right (And.right (And.right (And.right (And.right (by with_reducible assumption)))))))) | exact (And.right (And.right (And.right (And.right (And.right (And.right (And.right (And.right (by with_reducible assumption))))))))) | exact (And.right (And.right (And.right (And.right (And.right (And.right (And.right (And.right (And.right (by with_reducible assumption)))))))))) | exact (And.right (And.right (And.right (And.right (And.right (And.right (And.right (And.right (And.right (And.right (by with_reducible assumption))))))))))) | exact (And.right (And.right (And.right (And.right (And.right (And.right (And.right (And.right (And.right (And.right (And.right (by with_reducible assumption)))))))))))) | exact (And.right (And.right (And.right (And.right (And.right (And.right (And.right (And.right (And.right (And.right (And.right (And.right (by with_reducible assumption))))))))))))) | exact (And.right (And.right (And.right (And.right (And.right (And.right (And.right (And.right (And.right (And.right (And.right (And.right (And.right (by with_reducible assumption)))))))))))))))))
  case n4 => exact hc _ (by (first | exact (by with_reducible assumption) | exact (And.right (by with_reducible assumption)) | exact (And.right (And.right (by with_reducible assumption))) | exact (And.right (And.right (And.right (by with_reducible assumption)))) | exact (And.right (And.right (And.right (And.right (by with_reducible assumption))))) | exact (And.right (And.right (And.right (And.right (And.right (by with_reducible assumption)))))) | exact (And.right (And.right (And.right (And.right (And.right (And.right (by with_reducible assumption))))))) | exact (And.right (And.right (And.right (And.right (And.right (And.right (And.right (by with_reducible assumption)))))))) | exact (And.right (And.right (And.right (And.right (And.right (And.right (And.right (And.right (by with_reducible assumption))))))))) | exact (And.right (And.right (And.right (And.right (And.right (And.right (And.right (And.right (And.right (by with_reducible assumption)))))))))) | exact (And.right (And.right (And.right (And.right (And.right (And.right (And.right (And.right (And.right (And.right (by with_reducible assumption))))))))))) | exact (And.right (And.right (And.right (And.right (And.right (And.right (And.right (And.right (And.right (And.right (And.right (by with_reducible assumption)))))))))))) | exact (And.right (And.right (And.right (And.right (And.right (And.right (And.right (And.right (And.right (And.right (And.right (And.right (by with_reducible assumption))))))))))))) | exact (And.right (And.right (And.right (And.right (And.right (And.right (And.right (And.right (And.right (And.right (And.right (And.right (And.right (by with_reducible assumption))))))))))))))))
  case hfr => exact allLt_iff.mp (by (first | exact (by with_reducible assumption) | exact (And.right (by with_reducible assumption)) | exact (And.right (And.right (by with_reducible assumption))) | exact (And.right (And.right (And.right (by with_reducible assumption)))) | exact (And.right (And.right (And.right (And.right (by with_reducible assumption))))) | exact (And.right (And.right (And.right (And.right (And.right (by with_reducible assumption)))))) | exact (And.right (And.right (And.right (And.right (And.right (And.right (by with_reducible assumption))))))) | exact (And.right (And.right (And.right (And.right (And.right (And.right (And.right (by with_reducible assumption)))))))) | exact (And.right (And.right (And.right (And.right (And.right (And.right (And.right (And.right (by with_reducible assumption))))))))) | exact (And.right (And.right (And.right (And.right (And.right (And.right (And.right (And.right (And.right (by with_reducible assumption)))))))))) | exact (And.right (And.right (And.right (And.right (And.right (And.right (And.right (And.right (And.right (And.right (by with_reducible assumption))))))))))) | exact (And.right (And.right (And.right (And.right (And.right (And.right (And.right (And.right (And.right (And.right (And.right (by with_reducible assumption)))))))))))) | exact (And.right (And.right (And.right (And.right (And.right (And.right (And.right (And.right (And.right (And.right (And.right (And.right (by with_reducible assumption))))))))))))) | exact (And.right (And.right (And.right (And.right (And.right (And.right (And.right (And.right (And.right (And.right (And.right (And.right (And.right (by with_reducible assumption))))))))))))))))
  case hT => exact tab_made (by k_mem) (by k_mem) hm3 hm4
  case hk => (intro p hp _; walk_at "my.tail")
  all_goals omega
theorem offTA : True := by
  w_top off
  exact True.intro
set_option maxRecDepth 100000 in
set_option maxHeartbeats 8000000 in
theorem tok_pushed {w : World} {mean : ExcName → Option Value} {mg mb : Str → Option Value} {C : LexC} {nl : Int} {a : Str} {q : List Str} {cs : List Nat} {news : List (Addr × Obj)} (hL : LexIn w mean mg mb C nl (a :: q) cs news) (hlq : q.length ≤ 1000) :
    Does w mean mg mb 670 1700 (.ref 141) [.ref C.lx] news (fun r n' => (∃ t, r = .str a t) ∧ LexIn w mean mg mb C nl q cs n' ∧ Keep C news n') := by
  obtain ⟨t, qs, ys, n1, n2, keep, hq, hS, ho, hE, hkeep, ⟨fd, hfd⟩, hlam⟩ := hL
  obtain ⟨ta, qs', rfl, hq'⟩ := strs_cons hq
  have hlen := hq'.length
  have hfin := lexIn_of (w := w) (nl := nl) (t := t) (n1 := n1 + 1) (n2 := n2) hq' hS ho hkeep ⟨fd, hfd⟩ hlam
  have hr2 : ∀ p ∈ cut C.mut news, p.1 ≠ C.pb := cut_ne (by simp [LexC.mut])
  have hr1 : ∀ p ∈ cut C.mut news, p.1 ≠ C.dx := cut_ne (by simp [LexC.mut])
  refine Does.sub (news₁ := lexE w C nl t (.str a ta :: qs') ys n1 n2 (cut C.mut news)) ?_ ?_
  rotate_left
  · simp only [List.forall_mem_cons] at hE ⊢
    exact ⟨hE.1, hE.2.1, hE.2.2.1, hE.2.2.2.1, hE.2.2.2.2.1, hE.2.2.2.2.2.1, cut_sub⟩
  clear hE hkeep hlam hS hq hq'
  obtain ⟨pb, lx, dx, sx, ds, lf, pb2, fn, k1, k2, k3, k4, wt, s1, s2, s3, s4, s5, v1, v3⟩ := C
  obtain ⟨o1, o2, o3, o4, o5⟩ := ho
  simp only at o1 o2 o3 o4 o5 hr1 hr2
  generalize hcut : cut _ news = rest at hfin hr1 hr2 ⊢
  dsimp only [lexE, LexC.dict, LexC.sdict]
  refine does_of ?_
  w_strict (
   k_fill
   intro ns g c mo lo gl ce qq fu co bu outer A₀ base h₀ L m s Q E B F X N T codeHd hret
   k_dflt k_enter
   repeat' (first | (fail_if_success (with_reducible show wpAny _ _ (pyIter _) _ _ _)
                     fail_if_success (with_reducible show wpAny _ _ (exec (Stmt.For _ _ _ _ _) _) _ _ _)
                     fail_if_success (with_reducible show wpAny _ _ (eval (Expr.ListComp _ _ _ _) _) _ _ _)
                     first | (k_unfold; (try dsimp only)) | (k_end; wrow_close) | walk1 | (dsimp only; walk1) | (leave1; walk_say "STEP leave1"; try dsimp only) | fail "no step")))
  all_goals exact hret _ _ _ _ (by assumption) (by assumption) ⟨⟨_, rfl⟩, hfin⟩
theorem offTB : True := by
  w_top off
  exact True.intro
set_option maxRecDepth 100000 in
set_option maxHeartbeats 8000000 in
theorem push_tok {w : World} {mean : ExcName → Option Value} {mg mb : Str → Option Value} {C : LexC} {nl : Int} {x : Str} {tx : Tok} {q : List Str} {cs : List Nat} {news : List (Addr × Obj)} (hL : LexIn w mean mg mb C nl q cs news) (hlq : q.length ≤ 1000) :
    Does w mean mg mb 670 1700 (.ref 148) [.ref C.lx, .str x tx] news (fun r n' => r = .none ∧ LexIn w mean mg mb C nl (q ++ [x]) cs n' ∧ Keep C news n') := by
  obtain ⟨t, qs, ys, n1, n2, keep, hq, hS, ho, hE, hkeep, ⟨fd, hfd⟩, hlam⟩ := hL
  have hlen := hq.length
  have hfin := lexIn_of (w := w) (nl := nl) (t := t) (n1 := n1 + 1) (n2 := n2) (strs_append hq (.cons x tx .nil)) hS ho hkeep ⟨fd, hfd⟩ hlam
  have hr2 : ∀ p ∈ cut C.mut news, p.1 ≠ C.pb := cut_ne (by simp [LexC.mut])
  have hr1 : ∀ p ∈ cut C.mut news, p.1 ≠ C.dx := cut_ne (by simp [LexC.mut])
  refine Does.sub (news₁ := lexE w C nl t qs ys n1 n2 (cut C.mut news)) ?_ ?_
  rotate_left
  · simp only [List.forall_mem_cons] at hE ⊢
    exact ⟨hE.1, hE.2.1, hE.2.2.1, hE.2.2.2.1, hE.2.2.2.2.1, hE.2.2.2.2.2.1, cut_sub⟩
  clear hE hkeep hlam hS hq
  obtain ⟨pb, lx, dx, sx, ds, lf, pb2, fn, k1, k2, k3, k4, wt, s1, s2, s3, s4, s5, v1, v3⟩ := C
  obtain ⟨o1, o2, o3, o4, o5⟩ := ho
  simp only at o1 o2 o3 o4 o5 hr1 hr2
  generalize hcut : cut _ news = rest at hfin hr1 hr2 ⊢
  dsimp only [lexE, LexC.dict, LexC.sdict]
  refine does_of ?_
  w_strict (
   k_fill
   intro ns g c mo lo gl ce qq fu co bu outer A₀ base h₀ L m s Q E B F X N T codeHd hret
   k_dflt k_enter
   repeat' (first | (fail_if_success (with_reducible show wpAny _ _ (pyIter _) _ _ _)
                     fail_if_success (with_reducible show wpAny _ _ (exec (Stmt.For _ _ _ _ _) _) _ _ _)
                     fail_if_success (with_reducible show wpAny _ _ (eval (Expr.ListComp _ _ _ _) _) _ _ _)
                     first | (k_unfold; (try dsimp only)) | (k_end; wrow_close) | walk1 | (dsimp only; walk1) | (leave1; walk_say "STEP leave1"; try dsimp only) | fail "no step")))
  all_goals exact hret _ _ _ _ (by assumption) (by assumption) ⟨rfl, by simpa using hfin⟩
theorem offGT : True := by
  w_top off
  exact True.intro
theorem LexIn.open0 {w : World} {mean : ExcName → Option Value} {mg mb : Str → Option Value} {C : LexC} {nl : Int} {cs : List Nat} {news : List (Addr × Obj)} (h : LexIn w mean mg mb C nl [] cs news) :
    ∃ t n1, (C.lx, instObj 151 C.dx) ∈ news ∧ (C.dx, C.dict w nl t) ∈ news ∧ (C.pb, listOf (([] : List Value).toArray) n1) ∈ news := by
  obtain ⟨t, qs, ys, n1, n2, keep, hq, _, _, hE, _⟩ := h
  obtain rfl := strs_nil hq
  simp only [List.forall_mem_cons] at hE
  exact ⟨t, n1, hE.2.1, hE.2.2.1, hE.1⟩
theorem LexIn.mono {w : World} {mean : ExcName → Option Value} {mg mb : Str → Option Value} {C : LexC} {nl : Int} {q : List Str} {cs : List Nat} {news news' : List (Addr × Obj)} (h : LexIn w mean mg mb C nl q cs news) (hs : ∀ p ∈ news, p ∈ news') : LexIn w mean mg mb C nl q cs news' := by
  obtain ⟨t, qs, ys, n1, n2, keep, hq, hS, ho, hE, hk, hf, hl⟩ := h
  exact ⟨t, qs, ys, n1, n2, keep, hq, hS, ho, fun p hp => hs p (hE p hp), fun p hp => ⟨hs p (hk p hp).1, (hk p hp).2⟩, hf, hl⟩
set_option maxRecDepth 100000 in
set_option maxHeartbeats 8000000 in
theorem outerQ {w : World} {mean : ExcName → Option Value} {mg mb : Str → Option Value} {C : LexC} {nl : Int} {rest : List Nat} {it mo L : Addr} {t0 ta : Tok} {s : Shared}
    {outer : List Env} {A₀ : Around} {base g h : Heap} {R : Result → Shared → Prop} {items : List (Bool × Nat)} {tk : Nat} {m : Str → Option Value} {news : List (Addr × Obj)} (hrest : rest.length ≤ 500) (hit : it ∉ C.mut) (hmo : mo ∉ C.mut)
    (B : Below A₀ base outer g) (X : (frag.heap_1 w.params).In g) (T : Top topProg looseL mean mg mb g) (codeHd : CodeHd base 168 164)
    (hok : ∀ p ∈ items, p.2 ≠ 10 ∧ (p.1 = false → p.2 ≠ 34 ∧ p.2 ≠ 92)) (hlen : items.length ≤ 100)
    (F : Fr g L h m) (N : News g L h news) (hm1 : (it, ciObj mo (Str.ofString "") t0) ∈ news) (hm2 : (mo, methodObj (.ref 134) (.ref C.lx)) ∈ news) (hL : LexIn w mean mg mb C nl [] (34 :: (enc items ++ 34 :: rest)) news)
    (hself : m (Str.ofString "self") = some (.ref C.lx)) (htok : m (Str.ofString "token") = some (.str (Str.ofString "") ta)) (hfi : m (Str.ofString "fiter") = some (.ref it))
    (hR : ∀ h' tk' m' news' t', Fr g L h' m' → News g L h' news' → LexIn w mean mg mb C nl [] rest news' → Keep C news news' → R (.ok (.ret (.str (txt (dec items)) t'))) { s with heap := h', toks := tk' }) :
      codeAny (model Challenge.rw_ty0016_01.row.prog w) { handled := none, depth := 671, frames := some (envOf (Str.ofString "_netrclex.get_token") (scopeOf getTok) L 141 (.ref 140) :: outer), guards := some [], units := 1703 }
        (.forLoop (targetOf tokFor) (.ref it) (bodyOf tokFor) [] (envOf (Str.ofString "_netrclex.get_token") (scopeOf getTok) L 141 (.ref 140))) R { s with heap := h, toks := tk } := by
  have e1 : bodyOf tokFor = [Stmt.If _ _ _ _, Stmt.If _ _ _ _] := rfl
  have e2 : targetOf tokFor = Expr.Name _ _ := rfl
  have e3 : scopeOf getTok = Scope.mk _ _ _ _ _ := rfl
  rw [e1, e2, e3]
  clear e1 e2
  obtain ⟨fo, fd, hfo, hfd⟩ := fn134 w.params
  have hel := enc_len items
  refine for_step fun E' => ?_
  refine next_ci rfl (N.get hm1) (N.get hm2) (F.keep _ _ (X _ _ hfo)) hfd ?_
  refine Does.code (s := { s with heap := h, toks := tk }) (E := fun _ _ => False) (read_cons hL (by simp; omega)) rfl (Nat.le_of_ble_eq_true rfl) (Nat.le_of_ble_eq_true rfl) rfl rfl B F X N T codeHd fun r n' h' tk' F' N' P' => ?_
  obtain ⟨⟨tr, rfl⟩, hL', hK⟩ := P'
  rw [if_neg (by decide)] at hL'
  have hm1' := hK _ hm1 hit
  have hm2' := hK _ hm2 hmo
  refine ⟨_, _, rfl, N'.get hm1', N'.get hm2', F'.keep _ _ (X _ _ hfo), fun e => absurd e (by rw [← txt_nil]; simp [txt, one]), fun _ => ?_⟩
  obtain ⟨ti, hi1, hi2⟩ := hL'.inst
  refine wpAny_assign_Name (stN F' N' fun h2 F2 N2 => ?_)
  have hw := in_ws 34
  rw [show white 34 = false from rfl] at hw
  have hd2 : (one 34 == Str.ofString "\"") = true := by rw [dq_one]; exact beq_self_eq_true _
  clear N hm1 hm2 F
  revert X
  k_fill
  intro X
  w_strict (
   repeat' (first | (fail_if_success (with_reducible show wpAny _ _ (pyIter _) _ _ _)
                     fail_if_success (with_reducible show wpAny _ _ (exec (Stmt.For _ _ _ _ _) _) _ _ _)
                     fail_if_success (with_reducible show wpAny _ _ (eval (Expr.ListComp _ _ _ _) _) _ _ _)
                     first | (k_unfold; (try dsimp only)) | (k_end; wrow_close) | walk1 | (dsimp only; walk1) | (leave1; walk_say "STEP leave1"; try dsimp only) | fail "no step")))
  refine wpAny_For ?_
  refine' nameX_L F2 ?v ?_
  case v => walk_at "my.look"
  refine pyIter_ci (N2.get hm1') rfl ?_
  refine loopQ hrest hit hmo B X T codeHd items [] _ _ _ _ ta hok (by simpa using hlen) F2 N2 hm1' hm2' hL' (by walk_at "my.look") (by rw [txt_nil]; walk_at "my.look") ?_
  intro h9 tk9 m9 n9 t9 F9 N9 L9 K9
  exact hR h9 tk9 m9 n9 t9 F9 N9 L9 (hK.trans K9)
theorem offGW : True := by
  w_top off
  exact True.intro
set_option maxRecDepth 100000 in
set_option maxHeartbeats 8000000 in
theorem outerW {w : World} {mean : ExcName → Option Value} {mg mb : Str → Option Value} {C : LexC} {nl : Int} {rest : List Nat} {it mo L : Addr} {t0 ta : Tok} {s : Shared}
    {outer : List Env} {A₀ : Around} {base g h : Heap} {R : Result → Shared → Prop} {items : List (Bool × Nat)} {e : Bool} {d : Nat} {e0 : Nat} (he0 : white e0 = true) {tk : Nat} {m : Str → Option Value} {news : List (Addr × Obj)} (hrest : rest.length ≤ 500) (hit : it ∉ C.mut) (hmo : mo ∉ C.mut)
    (B : Below A₀ base outer g) (X : (frag.heap_1 w.params).In g) (T : Top topProg looseL mean mg mb g) (codeHd : CodeHd base 168 164)
    (hok : ∀ p ∈ items, p.2 ≠ 10 ∧ (p.1 = false → white p.2 = false ∧ p.2 ≠ 92)) (hok0 : d ≠ 10 ∧ (e = false → white d = false ∧ d ≠ 92 ∧ d ≠ 34)) (hlen : items.length ≤ 90)
    (F : Fr g L h m) (N : News g L h news) (hm1 : (it, ciObj mo (Str.ofString "") t0) ∈ news) (hm2 : (mo, methodObj (.ref 134) (.ref C.lx)) ∈ news) (hL : LexIn w mean mg mb C nl [] (enc ((e, d) :: items) ++ e0 :: rest) news)
    (hself : m (Str.ofString "self") = some (.ref C.lx)) (htok : m (Str.ofString "token") = some (.str (Str.ofString "") ta)) (hfi : m (Str.ofString "fiter") = some (.ref it))
    (hR : ∀ h' tk' m' news' t', Fr g L h' m' → News g L h' news' → LexIn w mean mg mb C (if e0 = 10 then nl + 1 else nl) [] rest news' → Keep C news news' → R (.ok (.ret (.str (txt (d :: dec items)) t'))) { s with heap := h', toks := tk' }) :
      codeAny (model Challenge.rw_ty0016_01.row.prog w) { handled := none, depth := 671, frames := some (envOf (Str.ofString "_netrclex.get_token") (scopeOf getTok) L 141 (.ref 140) :: outer), guards := some [], units := 1703 }
        (.forLoop (targetOf tokFor) (.ref it) (bodyOf tokFor) [] (envOf (Str.ofString "_netrclex.get_token") (scopeOf getTok) L 141 (.ref 140))) R { s with heap := h, toks := tk } := by
  have e1 : bodyOf tokFor = [Stmt.If _ _ _ _, Stmt.If _ _ _ _] := rfl
  have e2 : targetOf tokFor = Expr.Name _ _ := rfl
  have e3 : scopeOf getTok = Scope.mk _ _ _ _ _ := rfl
  rw [e1, e2, e3]
  clear e1 e2
  obtain ⟨fo, fd, hfo, hfd⟩ := fn134 w.params
  have hel := enc_len items
  obtain ⟨hd10, hdf⟩ := hok0
  refine for_step fun E' => ?_
  refine next_ci rfl (N.get hm1) (N.get hm2) (F.keep _ _ (X _ _ hfo)) hfd ?_
  cases e with
  | false =>
    obtain ⟨hdw, hd92, hd34⟩ := hdf rfl
    have hL2 : LexIn w mean mg mb C nl [] (d :: (enc items ++ e0 :: rest)) news := hL
    refine Does.code (s := { s with heap := h, toks := tk }) (E := fun _ _ => False) (read_cons hL2 (by simp; omega)) rfl (Nat.le_of_ble_eq_true rfl) (Nat.le_of_ble_eq_true rfl) rfl rfl B F X N T codeHd fun r n' h' tk' F' N' P' => ?_
    obtain ⟨⟨tr, rfl⟩, hL', hK⟩ := P'
    rw [if_neg hd10] at hL'
    have hm1' := hK _ hm1 hit
    have hm2' := hK _ hm2 hmo
    refine ⟨_, _, rfl, N'.get hm1', N'.get hm2', F'.keep _ _ (X _ _ hfo), fun e => absurd e (by rw [← txt_nil]; simp [txt, one]), fun _ => ?_⟩
    obtain ⟨ti, hi1, hi2⟩ := hL'.inst
    refine wpAny_assign_Name (stN F' N' fun h2 F2 N2 => ?_)
    have hw := in_ws d
    rw [hdw] at hw
    have hl1 : (Str.ofString "").length = 0 := by rw [← txt_nil]; rfl
    have hl2 := one_len d
    have hd2 : (one d == Str.ofString "\"") = false := by rw [dq_one, one_beq]; exact decide_eq_false hd34
    have hd3 : (one d == Str.ofString "\\") = false := by rw [bs_one, one_beq]; exact decide_eq_false hd92
    clear N hm1 hm2 F
    revert X
    k_fill
    intro X
    w_strict (
     repeat' (first | (fail_if_success (with_reducible show wpAny _ _ (pyIter _) _ _ _)
                       fail_if_success (with_reducible show wpAny _ _ (exec (Stmt.For _ _ _ _ _) _) _ _ _)
                       fail_if_success (with_reducible show wpAny _ _ (eval (Expr.ListComp _ _ _ _) _) _ _ _)
                       first | (k_unfold; (try dsimp only)) | (k_end; wrow_close) | walk1 | (dsimp only; walk1) | (leave1; walk_say "STEP leave1"; try dsimp only) | fail "no step")))
    rename Fr _ _ _ _ => F3
    rename News _ _ _ _ => N3
    have htx : Str.ofString "" ++ one d = txt [d] := by rw [← txt_nil, txt_add]; rfl
    rw [htx] at F3
    refine wpAny_For ?_
    refine' nameX_L F3 ?v ?_
    case v => walk_at "my.look"
    refine pyIter_ci (N3.get hm1') rfl ?_
    refine loopW hrest he0 hit hmo B X T codeHd items [d] _ _ _ _ _ hok (by simp; omega) F3 N3 hm1' hm2' hL' (by walk_at "my.look") (by exact rfl) ?_
    intro h9 tk9 m9 n9 t9 F9 N9 L9 K9
    exact hR h9 tk9 m9 n9 t9 F9 N9 L9 (hK.trans K9)
  | true =>
    have hL2 : LexIn w mean mg mb C nl [] (92 :: d :: (enc items ++ e0 :: rest)) news := hL
    refine Does.code (s := { s with heap := h, toks := tk }) (E := fun _ _ => False) (read_cons hL2 (by simp; omega)) rfl (Nat.le_of_ble_eq_true rfl) (Nat.le_of_ble_eq_true rfl) rfl rfl B F X N T codeHd fun r n' h' tk' F' N' P' => ?_
    obtain ⟨⟨tr, rfl⟩, hL', hK⟩ := P'
    rw [if_neg (by decide)] at hL'
    have hm1' := hK _ hm1 hit
    have hm2' := hK _ hm2 hmo
    refine ⟨_, _, rfl, N'.get hm1', N'.get hm2', F'.keep _ _ (X _ _ hfo), fun e => absurd e (by rw [← txt_nil]; simp [txt, one]), fun _ => ?_⟩
    obtain ⟨ti, hi1, hi2⟩ := hL'.inst
    refine wpAny_assign_Name (stN F' N' fun h2 F2 N2 => ?_)
    have hw := in_ws 92
    rw [show white 92 = false from rfl] at hw
    have hl1 : (Str.ofString "").length = 0 := by rw [← txt_nil]; rfl
    have hl2 := one_len d
    have hd2 : (one 92 == Str.ofString "\"") = false := by rw [dq_one, one_beq]; decide
    have hd3 : (one 92 == Str.ofString "\\") = true := by rw [bs_one, one_beq]; decide
    have hD := read_cons hL' (by simp; omega)
    clear N hm1 hm2 F
    revert X
    k_fill
    intro X
    w_strict (
     repeat' (first | (fail_if_success (with_reducible show wpAny _ _ (pyIter _) _ _ _)
                       fail_if_success (with_reducible show wpAny _ _ (exec (Stmt.For _ _ _ _ _) _) _ _ _)
                       fail_if_success (with_reducible show wpAny _ _ (eval (Expr.ListComp _ _ _ _) _) _ _ _)
                       first | ((with_reducible show wpAny _ _ (call (Value.ref _) _ _) _ _ _); refine' Does.use (hD) ?uA ?uD ?uU ?uF ?uK ?uB ?uR ?uX ?uN ?uT ?uC ?_; (case uA => exact rfl); (case uD => exact Nat.le_of_ble_eq_true rfl); (case uU => exact Nat.le_of_ble_eq_true rfl); (case uF => exact rfl); (case uK => exact rfl); (case uB => k_asm); (case uR => k_asm); (case uX => k_in); (case uN => k_asm); (case uT => k_asm); (case uC => k_asm); k_whole; intro r' n' h' tk' F' N' P'; (obtain ⟨⟨tr2, e2⟩, hL3, hK3⟩ := P'; subst e2)) | (k_unfold; (try dsimp only)) | (k_end; wrow_close) | walk1 | (dsimp only; walk1) | (leave1; walk_say "STEP leave1"; try dsimp only) | fail "no step")))
    rename Fr _ _ _ _ => F3
    rename News _ _ _ _ => N3
    have htx : Str.ofString "" ++ one d = txt [d] := by rw [← txt_nil, txt_add]; rfl
    rw [htx] at F3
    rw [if_neg hd10] at hL3
    refine wpAny_For ?_
    refine' nameX_L F3 ?v ?_
    case v => walk_at "my.look"
    have hm1'' := hK3 _ hm1' hit
    have hm2'' := hK3 _ hm2' hmo
    refine pyIter_ci (N3.get hm1'') rfl ?_
    refine loopW hrest he0 hit hmo B X T codeHd items [d] _ _ _ _ _ hok (by simp; omega) F3 N3 hm1'' hm2'' hL3 (by walk_at "my.look") (by exact rfl) ?_
    intro h9 tk9 m9 n9 t9 F9 N9 L9 K9
    exact hR h9 tk9 m9 n9 t9 F9 N9 L9 ((hK.trans hK3).trans K9)
theorem offGE : True := by
  w_top off
  exact True.intro
set_option maxRecDepth 100000 in
set_option maxHeartbeats 8000000 in
theorem outerE {w : World} {mean : ExcName → Option Value} {mg mb : Str → Option Value} {C : LexC} {nl : Int} {it mo L : Addr} {t0 ta : Tok} {s : Shared}
    {outer : List Env} {A₀ : Around} {base g h : Heap} {R : Result → Shared → Prop} {items : List (Bool × Nat)} {e : Bool} {d : Nat} {tk : Nat} {m : Str → Option Value} {news : List (Addr × Obj)} (hpb : @LT.lt Nat _ C.pb it) (hit : it ∉ C.mut) (hmo : mo ∉ C.mut)
    (B : Below A₀ base outer g) (X : (frag.heap_1 w.params).In g) (T : Top topProg looseL mean mg mb g) (codeHd : CodeHd base 168 164)
    (hok : ∀ p ∈ items, p.2 ≠ 10 ∧ (p.1 = false → white p.2 = false ∧ p.2 ≠ 92)) (hok0 : d ≠ 10 ∧ (e = false → white d = false ∧ d ≠ 92 ∧ d ≠ 34)) (hlen : items.length ≤ 90)
    (F : Fr g L h m) (N : News g L h news) (hm1 : (it, ciObj mo (Str.ofString "") t0) ∈ news) (hm2 : (mo, methodObj (.ref 134) (.ref C.lx)) ∈ news) (hL : LexIn w mean mg mb C nl [] (enc ((e, d) :: items)) news)
    (hself : m (Str.ofString "self") = some (.ref C.lx)) (htok : m (Str.ofString "token") = some (.str (Str.ofString "") ta)) (hfi : m (Str.ofString "fiter") = some (.ref it))
    (hR : ∀ h' tk' m' news' t', Fr g L h' m' → News g L h' news' → LexIn w mean mg mb C nl [] [] news' → (∀ p ∈ news, p.1 ∉ C.mut → p.1 ≠ it → p ∈ news') → m' (Str.ofString "token") = some (.str (txt (d :: dec items)) t') → R (.ok .next) { s with heap := h', toks := tk' }) :
      codeAny (model Challenge.rw_ty0016_01.row.prog w) { handled := none, depth := 671, frames := some (envOf (Str.ofString "_netrclex.get_token") (scopeOf getTok) L 141 (.ref 140) :: outer), guards := some [], units := 1703 }
        (.forLoop (targetOf tokFor) (.ref it) (bodyOf tokFor) [] (envOf (Str.ofString "_netrclex.get_token") (scopeOf getTok) L 141 (.ref 140))) R { s with heap := h, toks := tk } := by
  have e1 : bodyOf tokFor = [Stmt.If _ _ _ _, Stmt.If _ _ _ _] := rfl
  have e2 : targetOf tokFor = Expr.Name _ _ := rfl
  have e3 : scopeOf getTok = Scope.mk _ _ _ _ _ := rfl
  rw [e1, e2, e3]
  clear e1 e2
  obtain ⟨fo, fd, hfo, hfd⟩ := fn134 w.params
  have hel := enc_len items
  obtain ⟨hd10, hdf⟩ := hok0
  refine for_step fun E' => ?_
  refine next_ci rfl (N.get hm1) (N.get hm2) (F.keep _ _ (X _ _ hfo)) hfd ?_
  cases e with
  | false =>
    obtain ⟨hdw, hd92, hd34⟩ := hdf rfl
    have hL2 : LexIn w mean mg mb C nl [] (d :: enc items) news := hL
    refine Does.code (s := { s with heap := h, toks := tk }) (E := fun _ _ => False) (read_cons hL2 (by first | omega | (simp; omega))) rfl (Nat.le_of_ble_eq_true rfl) (Nat.le_of_ble_eq_true rfl) rfl rfl B F X N T codeHd fun r n' h' tk' F' N' P' => ?_
    obtain ⟨⟨tr, rfl⟩, hL', hK⟩ := P'
    rw [if_neg hd10] at hL'
    have hm1' := hK _ hm1 hit
    have hm2' := hK _ hm2 hmo
    refine ⟨_, _, rfl, N'.get hm1', N'.get hm2', F'.keep _ _ (X _ _ hfo), fun e => absurd e (by rw [← txt_nil]; simp [txt, one]), fun _ => ?_⟩
    obtain ⟨ti, hi1, hi2⟩ := hL'.inst
    refine wpAny_assign_Name (stN F' N' fun h2 F2 N2 => ?_)
    have hw := in_ws d
    rw [hdw] at hw
    have hl1 : (Str.ofString "").length = 0 := by rw [← txt_nil]; rfl
    have hl2 := one_len d
    have hd2 : (one d == Str.ofString "\"") = false := by rw [dq_one, one_beq]; exact decide_eq_false hd34
    have hd3 : (one d == Str.ofString "\\") = false := by rw [bs_one, one_beq]; exact decide_eq_false hd92
    clear N hm1 hm2 F
    revert X
    k_fill
    intro X
    w_strict (
     repeat' (first | (fail_if_success (with_reducible show wpAny _ _ (pyIter _) _ _ _)
                       fail_if_success (with_reducible show wpAny _ _ (exec (Stmt.For _ _ _ _ _) _) _ _ _)
                       fail_if_success (with_reducible show wpAny _ _ (eval (Expr.ListComp _ _ _ _) _) _ _ _)
                       first | (k_unfold; (try dsimp only)) | (k_end; wrow_close) | walk1 | (dsimp only; walk1) | (leave1; walk_say "STEP leave1"; try dsimp only) | fail "no step")))
    rename Fr _ _ _ _ => F3
    rename News _ _ _ _ => N3
    have htx : Str.ofString "" ++ one d = txt [d] := by rw [← txt_nil, txt_add]; rfl
    rw [htx] at F3
    refine wpAny_For ?_
    refine' nameX_L F3 ?v ?_
    case v => walk_at "my.look"
    refine pyIter_ci (N3.get hm1') rfl ?_
    refine loopE hpb hit hmo B X T codeHd items [d] _ _ _ _ _ hok (by first | omega | (simp; omega)) F3 N3 hm1' hm2' hL' (by walk_at "my.look") (by exact rfl) (by walk_at "my.look") ?_
    intro h9 tk9 m9 n9 t9 F9 N9 L9 K9 K8 K7 K6
    dsimp only
    w_strict (
     repeat' (first | (fail_if_success (with_reducible show wpAny _ _ (pyIter _) _ _ _)
                       fail_if_success (with_reducible show wpAny _ _ (exec (Stmt.For _ _ _ _ _) _) _ _ _)
                       fail_if_success (with_reducible show wpAny _ _ (eval (Expr.ListComp _ _ _ _) _) _ _ _)
                       first | (k_unfold; (try dsimp only)) | (k_end; wrow_close) | walk1 | (dsimp only; walk1) | (leave1; walk_say "STEP leave1"; try dsimp only) | fail "no step")))
    refine for_step fun E'' => ?_
    refine next_ended rfl (N9.get K8) fun h8 hk8 => ?_
    dsimp only
    exact hR h8 tk9 m9 n9 t9 (F9.keeps hk8) (N9.grown hk8) L9 (fun p hp h1 h2 => K9 p (hK p hp h1) h1 h2) K7
  | true =>
    have hL2 : LexIn w mean mg mb C nl [] (92 :: d :: enc items) news := hL
    refine Does.code (s := { s with heap := h, toks := tk }) (E := fun _ _ => False) (read_cons hL2 (by first | omega | (simp; omega))) rfl (Nat.le_of_ble_eq_true rfl) (Nat.le_of_ble_eq_true rfl) rfl rfl B F X N T codeHd fun r n' h' tk' F' N' P' => ?_
    obtain ⟨⟨tr, rfl⟩, hL', hK⟩ := P'
    rw [if_neg (by decide)] at hL'
    have hm1' := hK _ hm1 hit
    have hm2' := hK _ hm2 hmo
    refine ⟨_, _, rfl, N'.get hm1', N'.get hm2', F'.keep _ _ (X _ _ hfo), fun e => absurd e (by rw [← txt_nil]; simp [txt, one]), fun _ => ?_⟩
    obtain ⟨ti, hi1, hi2⟩ := hL'.inst
    refine wpAny_assign_Name (stN F' N' fun h2 F2 N2 => ?_)
    have hw := in_ws 92
    rw [show white 92 = false from rfl] at hw
    have hl1 : (Str.ofString "").length = 0 := by rw [← txt_nil]; rfl
    have hl2 := one_len d
    have hd2 : (one 92 == Str.ofString "\"") = false := by rw [dq_one, one_beq]; decide
    have hd3 : (one 92 == Str.ofString "\\") = true := by rw [bs_one, one_beq]; decide
    have hD := read_cons hL' (by first | omega | (simp; omega))
    clear N hm1 hm2 F
    revert X
    k_fill
    intro X
    w_strict (
     repeat' (first | (fail_if_success (with_reducible show wpAny _ _ (pyIter _) _ _ _)
                       fail_if_success (with_reducible show wpAny _ _ (exec (Stmt.For _ _ _ _ _) _) _ _ _)
                       fail_if_success (with_reducible show wpAny _ _ (eval (Expr.ListComp _ _ _ _) _) _ _ _)
                       first | ((with_reducible show wpAny _ _ (call (Value.ref _) _ _) _ _ _); refine' Does.use (hD) ?uA ?uD ?uU ?uF ?uK ?uB ?uR ?uX ?uN ?uT ?uC ?_; (case uA => exact rfl); (case uD => exact Nat.le_of_ble_eq_true rfl); (case uU => exact Nat.le_of_ble_eq_true rfl); (case uF => exact rfl); (case uK => exact rfl); (case uB => k_asm); (case uR => k_asm); (case uX => k_in); (case uN => k_asm); (case uT => k_asm); (case uC => k_asm); k_whole; intro r' n' h' tk' F' N' P'; (obtain ⟨⟨tr2, e2⟩, hL3, hK3⟩ := P'; subst e2)) | (k_unfold; (try dsimp only)) | (k_end; wrow_close) | walk1 | (dsimp only; walk1) | (leave1; walk_say "STEP leave1"; try dsimp only) | fail "no step")))
    rename Fr _ _ _ _ => F3
    rename News _ _ _ _ => N3
    have htx : Str.ofString "" ++ one d = txt [d] := by rw [← txt_nil, txt_add]; rfl
    rw [htx] at F3
    rw [if_neg hd10] at hL3
    refine wpAny_For ?_
    refine' nameX_L F3 ?v ?_
    case v => walk_at "my.look"
    have hm1'' := hK3 _ hm1' hit
    have hm2'' := hK3 _ hm2' hmo
    refine pyIter_ci (N3.get hm1'') rfl ?_
    refine loopE hpb hit hmo B X T codeHd items [d] _ _ _ _ _ hok (by first | omega | (simp; omega)) F3 N3 hm1'' hm2'' hL3 (by walk_at "my.look") (by exact rfl) (by walk_at "my.look") ?_
    intro h9 tk9 m9 n9 t9 F9 N9 L9 K9 K8 K7 K6
    dsimp only
    w_strict (
     repeat' (first | (fail_if_success (with_reducible show wpAny _ _ (pyIter _) _ _ _)
                       fail_if_success (with_reducible show wpAny _ _ (exec (Stmt.For _ _ _ _ _) _) _ _ _)
                       fail_if_success (with_reducible show wpAny _ _ (eval (Expr.ListComp _ _ _ _) _) _ _ _)
                       first | (k_unfold; (try dsimp only)) | (k_end; wrow_close) | walk1 | (dsimp only; walk1) | (leave1; walk_say "STEP leave1"; try dsimp only) | fail "no step")))
    refine for_step fun E'' => ?_
    refine next_ended rfl (N9.get K8) fun h8 hk8 => ?_
    dsimp only
    exact hR h8 tk9 m9 n9 t9 (F9.keeps hk8) (N9.grown hk8) L9 (fun p hp h1 h2 => K9 p ((hK.trans hK3) p hp h1) h1 h2) K7
theorem offG2 : True := by
  w_top off
  exact True.intro
set_option maxRecDepth 100000 in
set_option maxHeartbeats 8000000 in
theorem tok_quoted {w : World} {mean : ExcName → Option Value} {mg mb : Str → Option Value} {C : LexC} {nl : Int} {items : List (Bool × Nat)} {rest : List Nat} {news : List (Addr × Obj)} (hL : LexIn w mean mg mb C nl [] (34 :: (enc items ++ 34 :: rest)) news)
    (hok : ∀ p ∈ items, p.2 ≠ 10 ∧ (p.1 = false → p.2 ≠ 34 ∧ p.2 ≠ 92)) (hlen : items.length ≤ 90) (hrest : rest.length ≤ 500) :
    Does w mean mg mb 670 1700 (.ref 141) [.ref C.lx] news (fun r n' => (∃ t, r = .str (txt (dec items)) t) ∧ LexIn w mean mg mb C (nl) [] rest n' ∧ Keep C news n') := by
  have hA : ∀ b, AllLt b news → @LT.lt Nat _ C.pb b := fun b hb => by
    obtain ⟨o9, ho9⟩ := hL.pbIn
    exact allLt_iff.mp hb _ ho9
  have hmut : ∀ b, AllLt b news → b ∉ C.mut := fun b hb => hL.mutLe (hA b hb)
  obtain ⟨ti, n1, hi1, hi2, hi3⟩ := hL.open0
  refine does_of ?_
  w_strict (
   k_fill
   intro ns g c mo lo gl ce qq fu co bu outer A₀ base h₀ L m s Q E B F X N T codeHd hret
   k_dflt k_enter
   repeat' (first | (fail_if_success (with_reducible show wpAny _ _ (pyIter _) _ _ _)
                     fail_if_success (with_reducible show wpAny _ _ (exec (Stmt.For _ _ _ _ _) _) _ _ _)
                     fail_if_success (with_reducible show wpAny _ _ (eval (Expr.ListComp _ _ _ _) _) _ _ _)
                     first | (k_unfold; (try dsimp only)) | (k_end; wrow_close) | walk1 | (dsimp only; walk1) | (leave1; walk_say "STEP leave1"; try dsimp only) | fail "no step")))
  rename Fr _ _ _ _ => F1
  rename News _ _ _ _ => N1
  rename Below _ _ _ _ => B1
  rename Top _ _ _ _ _ _ => T1
  rename Frag.In _ _ => X1
  refine wpAny_For ?_
  refine' nameX_L F1 ?v ?_
  case v => walk_at "my.look"
  refine pyIter_ci (N1.get (.head _)) rfl ?_
  refine outerQ hrest (hmut _ ?uI) (hmut _ ?uJ) B1 X1 T1 (by assumption) hok (by omega) F1 N1 (.head _) (.tail _ (.head _)) (hL.mono fun p hp => .tail _ (.tail _ hp)) (by walk_at "my.look") (by walk_at "my.look") (by walk_at "my.look") ?_
  case uI => (first | exact (by with_reducible assumption) | exact (And.right (by with_reducible assumption)) | exact (And.right (And.right (by with_reducible assumption))) | exact (And.right (And.right (And.right (by with_reducible assumption)))) | exact (And.right (And.right (And.right (And.right (by with_reducible assumption))))) | exact (And.right (And.right (And.right (And.right (And.right (by with_reducible assumption)))))) | exact (And.right (And.right (And.right (And.right (And.right (And.right (by with_reducible assumption))))))) | exact (And.right (And.right (And.right (And.right (And.right (And.right (And.right (by with_reducible assumption)))))))) | exact (And.right (And.right (And.right (And.right (And.right (And.right (And.right (And.right (by with_reducible assumption))))))))) | exact (And.right (And.right (And.right (And.right (And.right (And.right (And.right (And.right (And.right (by with_reducible assumption)))))))))) | exact (And.right (And.right (And.right (And.right (And.right (And.right (And.right (And.right (And.right (And.right (by with_reducible assumption))))))))))) | exact (And.right (And.right (And.right (And.right (And.right (And.right (And.right (And.right (And.right (And.right (And.right (by with_reducible assumption)))))))))))) | exact (And.right (And.right (And.right (And.right (And.right (And.right (And.right (And.right (And.right (And.right (And.right (And.right (by with_reducible assumption))))))))))))) | exact (And.right (And.right (And.right (And.right (And.right (And.right (And.right (And.right (And.right (And.right (And.right (And.right (And.right (by with_reducible assumption)))))))))))))))
  case uJ => exact allLt_iff.mpr (by assumption)
  intro h9 tk9 m9 n9 t9 F9 N9 L9 K9
  dsimp only
  w_strict (
   repeat' (first | (fail_if_success (with_reducible show wpAny _ _ (pyIter _) _ _ _)
                     fail_if_success (with_reducible show wpAny _ _ (exec (Stmt.For _ _ _ _ _) _) _ _ _)
                     fail_if_success (with_reducible show wpAny _ _ (eval (Expr.ListComp _ _ _ _) _) _ _ _)
                     first | (k_unfold; (try dsimp only)) | (k_end; wrow_close) | walk1 | (dsimp only; walk1) | (leave1; walk_say "STEP leave1"; try dsimp only) | fail "no step")))
  all_goals exact hret _ _ _ _ (by assumption) (by assumption) ⟨⟨_, rfl⟩, L9, fun p hp hn => K9 p (.tail _ (.tail _ hp)) hn⟩
set_option maxRecDepth 100000 in
set_option maxHeartbeats 8000000 in
theorem tok_bare {w : World} {mean : ExcName → Option Value} {mg mb : Str → Option Value} {C : LexC} {nl : Int} {items : List (Bool × Nat)} {e : Bool} {d e0 : Nat} {rest : List Nat} {news : List (Addr × Obj)} (hL : LexIn w mean mg mb C nl [] (enc ((e, d) :: items) ++ e0 :: rest) news)
    (he0 : white e0 = true) (hok0 : d ≠ 10 ∧ (e = false → white d = false ∧ d ≠ 92 ∧ d ≠ 34)) (hok : ∀ p ∈ items, p.2 ≠ 10 ∧ (p.1 = false → white p.2 = false ∧ p.2 ≠ 92)) (hlen : items.length ≤ 90) (hrest : rest.length ≤ 500) :
    Does w mean mg mb 670 1700 (.ref 141) [.ref C.lx] news (fun r n' => (∃ t, r = .str (txt (d :: dec items)) t) ∧ LexIn w mean mg mb C (if e0 = 10 then nl + 1 else nl) [] rest n' ∧ Keep C news n') := by
  have hA : ∀ b, AllLt b news → @LT.lt Nat _ C.pb b := fun b hb => by
    obtain ⟨o9, ho9⟩ := hL.pbIn
    exact allLt_iff.mp hb _ ho9
  have hmut : ∀ b, AllLt b news → b ∉ C.mut := fun b hb => hL.mutLe (hA b hb)
  obtain ⟨ti, n1, hi1, hi2, hi3⟩ := hL.open0
  refine does_of ?_
  w_strict (
   k_fill
   intro ns g c mo lo gl ce qq fu co bu outer A₀ base h₀ L m s Q E B F X N T codeHd hret
   k_dflt k_enter
   repeat' (first | (fail_if_success (with_reducible show wpAny _ _ (pyIter _) _ _ _)
                     fail_if_success (with_reducible show wpAny _ _ (exec (Stmt.For _ _ _ _ _) _) _ _ _)
                     fail_if_success (with_reducible show wpAny _ _ (eval (Expr.ListComp _ _ _ _) _) _ _ _)
                     first | (k_unfold; (try dsimp only)) | (k_end; wrow_close) | walk1 | (dsimp only; walk1) | (leave1; walk_say "STEP leave1"; try dsimp only) | fail "no step")))
  rename Fr _ _ _ _ => F1
  rename News _ _ _ _ => N1
  rename Below _ _ _ _ => B1
  rename Top _ _ _ _ _ _ => T1
  rename Frag.In _ _ => X1
  refine wpAny_For ?_
  refine' nameX_L F1 ?v ?_
  case v => walk_at "my.look"
  refine pyIter_ci (N1.get (.head _)) rfl ?_
  refine outerW he0 hrest (hmut _ ?uI) (hmut _ ?uJ) B1 X1 T1 (by assumption) hok hok0 (by omega) F1 N1 (.head _) (.tail _ (.head _)) (hL.mono fun p hp => .tail _ (.tail _ hp)) (by walk_at "my.look") (by walk_at "my.look") (by walk_at "my.look") ?_
  case uI => (first | exact (by with_reducible assumption) | exact (And.right (by with_reducible assumption)) | exact (And.right (And.right (by with_reducible assumption))) | exact (And.right (And.right (And.right (by with_reducible assumption)))) | exact (And.right (And.right (And.right (And.right (by with_reducible assumption))))) | exact (And.right (And.right (And.right (And.right (And.right (by with_reducible assumption)))))) | exact (And.right (And.right (And.right (And.right (And.right (And.right (by with_reducible assumption))))))) | exact (And.right (And.right (And.right (And.right (And.right (And.right (And.right (by with_reducible assumption)))))))) | exact (And.right (And.right (And.right (And.right (And.right (And.right (And.right (And.right (by with_reducible assumption))))))))) | exact (And.right (And.right (And.right (And.right (And.right (And.right (And.right (And.right (And.right (by with_reducible assumption)))))))))) | exact (And.right (And.right (And.right (And.right (And.right (And.right (And.right (And.right (And.right (And.right (by with_reducible assumption))))))))))) | exact (And.right (And.right (And.right (And.right (And.right (And.right (And.right (And.right (And.right (And.right (And.right (by with_reducible assumption)))))))))))) | exact (And.right (And.right (And.right (And.right (And.right (And.right (And.right (And.right (And.right (And.right (And.right (And.right (by with_reducible assumption))))))))))))) | exact (And.right (And.right (And.right (And.right (And.right (And.right (And.right (And.right (And.right (And.right (And.right (And.right (And.right (by with_reducible assumption)))))))))))))))
  case uJ => exact allLt_iff.mpr (by assumption)
  intro h9 tk9 m9 n9 t9 F9 N9 L9 K9
  dsimp only
  w_strict (
   repeat' (first | (fail_if_success (with_reducible show wpAny _ _ (pyIter _) _ _ _)
                     fail_if_success (with_reducible show wpAny _ _ (exec (Stmt.For _ _ _ _ _) _) _ _ _)
                     fail_if_success (with_reducible show wpAny _ _ (eval (Expr.ListComp _ _ _ _) _) _ _ _)
                     first | (k_unfold; (try dsimp only)) | (k_end; wrow_close) | walk1 | (dsimp only; walk1) | (leave1; walk_say "STEP leave1"; try dsimp only) | fail "no step")))
  all_goals exact hret _ _ _ _ (by assumption) (by assumption) ⟨⟨_, rfl⟩, L9, fun p hp hn => K9 p (.tail _ (.tail _ hp)) hn⟩
set_option maxRecDepth 100000 in
set_option maxHeartbeats 8000000 in
theorem tok_last {w : World} {mean : ExcName → Option Value} {mg mb : Str → Option Value} {C : LexC} {nl : Int} {items : List (Bool × Nat)} {e : Bool} {d : Nat} {news : List (Addr × Obj)} (hL : LexIn w mean mg mb C nl [] (enc ((e, d) :: items)) news)
    (hok0 : d ≠ 10 ∧ (e = false → white d = false ∧ d ≠ 92 ∧ d ≠ 34)) (hok : ∀ p ∈ items, p.2 ≠ 10 ∧ (p.1 = false → white p.2 = false ∧ p.2 ≠ 92)) (hlen : items.length ≤ 90) :
    Does w mean mg mb 670 1700 (.ref 141) [.ref C.lx] news (fun r n' => (∃ t, r = .str (txt (d :: dec items)) t) ∧ LexIn w mean mg mb C (nl) [] [] n' ∧ Keep C news n') := by
  have hA : ∀ b, AllLt b news → @LT.lt Nat _ C.pb b := fun b hb => by
    obtain ⟨o9, ho9⟩ := hL.pbIn
    exact allLt_iff.mp hb _ ho9
  have hmut : ∀ b, AllLt b news → b ∉ C.mut := fun b hb => hL.mutLe (hA b hb)
  obtain ⟨ti, n1, hi1, hi2, hi3⟩ := hL.open0
  refine does_of ?_
  w_strict (
   k_fill
   intro ns g c mo lo gl ce qq fu co bu outer A₀ base h₀ L m s Q E B F X N T codeHd hret
   k_dflt k_enter
   repeat' (first | (fail_if_success (with_reducible show wpAny _ _ (pyIter _) _ _ _)
                     fail_if_success (with_reducible show wpAny _ _ (exec (Stmt.For _ _ _ _ _) _) _ _ _)
                     fail_if_success (with_reducible show wpAny _ _ (eval (Expr.ListComp _ _ _ _) _) _ _ _)
                     first | (k_unfold; (try dsimp only)) | (k_end; wrow_close) | walk1 | (dsimp only; walk1) | (leave1; walk_say "STEP leave1"; try dsimp only) | fail "no step")))
  rename Fr _ _ _ _ => F1
  rename News _ _ _ _ => N1
  rename Below _ _ _ _ => B1
  rename Top _ _ _ _ _ _ => T1
  rename Frag.In _ _ => X1
  refine wpAny_For ?_
  refine' nameX_L F1 ?v ?_
  case v => walk_at "my.look"
  refine pyIter_ci (N1.get (.head _)) rfl ?_
  have hne := ne_allLt (a := _) (by (first | exact (by with_reducible assumption) | exact (And.right (by with_reducible assumption)) | exact (And.right (And.right (by with_reducible assumption))) | exact (And.right (And.right (And.right (by with_reducible assumption)))) | exact (And.right (And.right (And.right (And.right (by with_reducible assumption))))) | exact (And.right (And.right (And.right (And.right (And.right (by with_reducible assumption)))))) | exact (And.right (And.right (And.right (And.right (And.right (And.right (by with_reducible assumption))))))) | exact (And.right (And.right (And.right (And.right (And.right (And.right (And.right (by with_reducible assumption)))))))) | exact (And.right (And.right (And.right (And.right (And.right (And.right (And.right (And.right (by with_reducible assumption))))))))) | exact (And.right (And.right (And.right (And.right (And.right (And.right (And.right (And.right (And.right (by with_reducible assumption)))))))))) | exact (And.right (And.right (And.right (And.right (And.right (And.right (And.right (And.right (And.right (And.right (by with_reducible assumption))))))))))) | exact (And.right (And.right (And.right (And.right (And.right (And.right (And.right (And.right (And.right (And.right (And.right (by with_reducible assumption)))))))))))) | exact (And.right (And.right (And.right (And.right (And.right (And.right (And.right (And.right (And.right (And.right (And.right (And.right (by with_reducible assumption))))))))))))) | exact (And.right (And.right (And.right (And.right (And.right (And.right (And.right (And.right (And.right (And.right (And.right (And.right (And.right (by with_reducible assumption)))))))))))))))) (Nat.le_refl _)
  refine outerE (hA _ ?uH) (hmut _ ?uI) (hmut _ ?uJ) B1 X1 T1 (by assumption) hok hok0 (by omega) F1 N1 (.head _) (.tail _ (.head _)) (hL.mono fun p hp => .tail _ (.tail _ hp)) (by walk_at "my.look") (by walk_at "my.look") (by walk_at "my.look") ?_
  case uH => (first | exact (by with_reducible assumption) | exact (And.right (by with_reducible assumption)) | exact (And.right (And.right (by with_reducible assumption))) | exact (And.right (And.right (And.right (by with_reducible assumption)))) | exact (And.right (And.right (And.right (And.right (by with_reducible assumption))))) | exact (And.right (And.right (And.right (And.right (And.right (by with_reducible assumption)))))) | exact (And.right (And.right (And.right (And.right (And.right (And.right (by with_reducible assumption))))))) | exact (And.right (And.right (And.right (And.right (And.right (And.right (And.right (by with_reducible assumption)))))))) | exact (And.right (And.right (And.right (And.right (And.right (And.right (And.right (And.right (by with_reducible assumption))))))))) | exact (And.right (And.right (And.right (And.right (And.right (And.right (And.right (And.right (And.right (by with_reducible assumption)))))))))) | exact (And.right (And.right (And.right (And.right (And.right (And.right (And.right (And.right (And.right (And.right (by with_reducible assumption))))))))))) | exact (And.right (And.right (And.right (And.right (And.right (And.right (And.right (And.right (And.right (And.right (And.right (by with_reducible assumption)))))))))))) | exact (And.right (And.right (And.right (And.right (And.right (And.right (And.right (And.right (And.right (And.right (And.right (And.right (by with_reducible assumption))))))))))))) | exact (And.right (And.right (And.right (And.right (And.right (And.right (And.right (And.right (And.right (And.right (And.right (And.right (And.right (by with_reducible assumption)))))))))))))))
  case uI => (first | exact (by with_reducible assumption) | exact (And.right (by with_reducible assumption)) | exact (And.right (And.right (by with_reducible assumption))) | exact (And.right (And.right (And.right (by with_reducible assumption)))) | exact (And.right (And.right (And.right (And.right (by with_reducible assumption))))) | exact (And.right (And.right (And.right (And.right (And.right (by with_reducible assumption)))))) | exact (And.right (And.right (And.right (And.right (And.right (And.right (by with_reducible assumption))))))) | exact (And.right (And.right (And.right (And.right (And.right (And.right (And.right (by with_reducible assumption)))))))) | exact (And.right (And.right (And.right (And.right (And.right (And.right (And.right (And.right (by with_reducible assumption))))))))) | exact (And.right (And.right (And.right (And.right (And.right (And.right (And.right (And.right (And.right (by with_reducible assumption)))))))))) | exact (And.right (And.right (And.right (And.right (And.right (And.right (And.right (And.right (And.right (And.right (by with_reducible assumption))))))))))) | exact (And.right (And.right (And.right (And.right (And.right (And.right (And.right (And.right (And.right (And.right (And.right (by with_reducible assumption)))))))))))) | exact (And.right (And.right (And.right (And.right (And.right (And.right (And.right (And.right (And.right (And.right (And.right (And.right (by with_reducible assumption))))))))))))) | exact (And.right (And.right (And.right (And.right (And.right (And.right (And.right (And.right (And.right (And.right (And.right (And.right (And.right (by with_reducible assumption)))))))))))))))
  case uJ => exact allLt_iff.mpr (by assumption)
  intro h9 tk9 m9 n9 t9 F9 N9 L9 K9 K8
  dsimp only
  w_strict (
   repeat' (first | (fail_if_success (with_reducible show wpAny _ _ (pyIter _) _ _ _)
                     fail_if_success (with_reducible show wpAny _ _ (exec (Stmt.For _ _ _ _ _) _) _ _ _)
                     fail_if_success (with_reducible show wpAny _ _ (eval (Expr.ListComp _ _ _ _) _) _ _ _)
                     first | (k_unfold; (try dsimp only)) | (k_end; wrow_close) | walk1 | (dsimp only; walk1) | (leave1; walk_say "STEP leave1"; try dsimp only) | fail "no step")))
  all_goals exact hret _ _ _ _ (by assumption) (by assumption) ⟨⟨_, rfl⟩, L9, fun p hp hn => K9 p (.tail _ (.tail _ hp)) hn (hne p hp)⟩
set_option maxRecDepth 100000 in
set_option maxHeartbeats 8000000 in
theorem tok_eof {w : World} {mean : ExcName → Option Value} {mg mb : Str → Option Value} {C : LexC} {nl : Int} {news : List (Addr × Obj)} (hL : LexIn w mean mg mb C nl [] [] news) :
    Does w mean mg mb 670 1700 (.ref 141) [.ref C.lx] news (fun r n' => (∃ t, r = .str (Str.ofString "") t) ∧ LexIn w mean mg mb C (nl) [] [] n' ∧ Keep C news n') := by
  have hA : ∀ b, AllLt b news → @LT.lt Nat _ C.pb b := fun b hb => by
    obtain ⟨o9, ho9⟩ := hL.pbIn
    exact allLt_iff.mp hb _ ho9
  have hmut : ∀ b, AllLt b news → b ∉ C.mut := fun b hb => hL.mutLe (hA b hb)
  obtain ⟨ti, n1, hi1, hi2, hi3⟩ := hL.open0
  refine does_of ?_
  w_strict (
   k_fill
   intro ns g c mo lo gl ce qq fu co bu outer A₀ base h₀ L m s Q E B F X N T codeHd hret
   k_dflt k_enter
   repeat' (first | (fail_if_success (with_reducible show wpAny _ _ (pyIter _) _ _ _)
                     fail_if_success (with_reducible show wpAny _ _ (exec (Stmt.For _ _ _ _ _) _) _ _ _)
                     fail_if_success (with_reducible show wpAny _ _ (eval (Expr.ListComp _ _ _ _) _) _ _ _)
                     first | (k_unfold; (try dsimp only)) | (k_end; wrow_close) | walk1 | (dsimp only; walk1) | (leave1; walk_say "STEP leave1"; try dsimp only) | fail "no step")))
  rename Fr _ _ _ _ => F1
  rename News _ _ _ _ => N1
  rename Below _ _ _ _ => B1
  rename Top _ _ _ _ _ _ => T1
  rename Frag.In _ _ => X1
  refine wpAny_For ?_
  refine' nameX_L F1 ?v ?_
  case v => walk_at "my.look"
  refine pyIter_ci (N1.get (.head _)) rfl ?_
  have hne := ne_allLt (a := _) (by (first | exact (by with_reducible assumption) | exact (And.right (by with_reducible assumption)) | exact (And.right (And.right (by with_reducible assumption))) | exact (And.right (And.right (And.right (by with_reducible assumption)))) | exact (And.right (And.right (And.right (And.right (by with_reducible assumption))))) | exact (And.right (And.right (And.right (And.right (And.right (by with_reducible assumption)))))) | exact (And.right (And.right (And.right (And.right (And.right (And.right (by with_reducible assumption))))))) | exact (And.right (And.right (And.right (And.right (And.right (And.right (And.right (by with_reducible assumption)))))))) | exact (And.right (And.right (And.right (And.right (And.right (And.right (And.right (And.right (by with_reducible assumption))))))))) | exact (And.right (And.right (And.right (And.right (And.right (And.right (And.right (And.right (And.right (by with_reducible assumption)))))))))) | exact (And.right (And.right (And.right (And.right (And.right (And.right (And.right (And.right (And.right (And.right (by with_reducible assumption))))))))))) | exact (And.right (And.right (And.right (And.right (And.right (And.right (And.right (And.right (And.right (And.right (And.right (by with_reducible assumption)))))))))))) | exact (And.right (And.right (And.right (And.right (And.right (And.right (And.right (And.right (And.right (And.right (And.right (And.right (by with_reducible assumption))))))))))))) | exact (And.right (And.right (And.right (And.right (And.right (And.right (And.right (And.right (And.right (And.right (And.right (And.right (And.right (by with_reducible assumption)))))))))))))))) (Nat.le_refl _)
  have hpb := hA _ (by (first | exact (by with_reducible assumption) | exact (And.right (by with_reducible assumption)) | exact (And.right (And.right (by with_reducible assumption))) | exact (And.right (And.right (And.right (by with_reducible assumption)))) | exact (And.right (And.right (And.right (And.right (by with_reducible assumption))))) | exact (And.right (And.right (And.right (And.right (And.right (by with_reducible assumption)))))) | exact (And.right (And.right (And.right (And.right (And.right (And.right (by with_reducible assumption))))))) | exact (And.right (And.right (And.right (And.right (And.right (And.right (And.right (by with_reducible assumption)))))))) | exact (And.right (And.right (And.right (And.right (And.right (And.right (And.right (And.right (by with_reducible assumption))))))))) | exact (And.right (And.right (And.right (And.right (And.right (And.right (And.right (And.right (And.right (by with_reducible assumption)))))))))) | exact (And.right (And.right (And.right (And.right (And.right (And.right (And.right (And.right (And.right (And.right (by with_reducible assumption))))))))))) | exact (And.right (And.right (And.right (And.right (And.right (And.right (And.right (And.right (And.right (And.right (And.right (by with_reducible assumption)))))))))))) | exact (And.right (And.right (And.right (And.right (And.right (And.right (And.right (And.right (And.right (And.right (And.right (And.right (by with_reducible assumption))))))))))))) | exact (And.right (And.right (And.right (And.right (And.right (And.right (And.right (And.right (And.right (And.right (And.right (And.right (And.right (by with_reducible assumption))))))))))))))))
  obtain ⟨fo, fd, hfo, hfd⟩ := fn134 w.params
  refine for_step fun E' => ?_
  have hm1 := N1 _ (.head _)
  refine next_ci rfl hm1.1 (N1.get (.tail _ (.head _))) (F1.keep _ _ (X1 _ _ hfo)) hfd ?_
  refine Does.code (E := fun _ _ => False) (read_nil (hL.mono fun p hp => .tail _ (.tail _ hp))) rfl (Nat.le_of_ble_eq_true rfl) (Nat.le_of_ble_eq_true rfl) rfl rfl B1 F1 X1 N1 T1 (by assumption) fun r n' h' tk' F' N' P' => ?_
  obtain ⟨⟨tr, rfl⟩, hL', hK⟩ := P'
  have hm3 := hK _ (.head _) (hL.mutLe hpb)
  refine ⟨_, _, rfl, N'.get hm3, N'.get (hK _ (.tail _ (.head _)) (hmut _ (allLt_iff.mpr (by assumption)))), F'.keep _ _ (X1 _ _ hfo), fun _ h2 hk2 he2 => ?_, fun e => absurd rfl e⟩
  have F5 := frBut F' (N' _ hm3).2.1 (N' _ hm3).2.2 hk2
  have N5 := newsBut N' hm3 hk2 he2
  have L5 := hL'.but (o := ciEnd) hpb
  clear F' N' F1 N1
  dsimp only
  w_strict (
   repeat' (first | (fail_if_success (with_reducible show wpAny _ _ (pyIter _) _ _ _)
                     fail_if_success (with_reducible show wpAny _ _ (exec (Stmt.For _ _ _ _ _) _) _ _ _)
                     fail_if_success (with_reducible show wpAny _ _ (eval (Expr.ListComp _ _ _ _) _) _ _ _)
                     first | (k_unfold; (try dsimp only)) | (k_end; wrow_close) | walk1 | (dsimp only; walk1) | (leave1; walk_say "STEP leave1"; try dsimp only) | fail "no step")))
  all_goals exact hret _ _ _ _ (by assumption) (by assumption) ⟨⟨_, rfl⟩, L5, fun p hp hn => .tail _ (mem_cut (hK p (.tail _ (.tail _ hp)) hn) (by simpa using hne p hp))⟩
theorem offWK : True := by
  w_top off
  exact True.intro


/-- the four pairs: what each letter stands for, left (0) and right (1) -/
noncomputable def PairsIn (nx : Int → Int → Int) (pl : Addr) (news : List (Addr × Obj)) : Prop :=
  ∃ (pa : Int → Addr) (ta tb : Int → Tok) (n : Nat), (pl, listOf ([.ref (pa 0), .ref (pa 1), .ref (pa 2), .ref (pa 3)] : List Value).toArray n) ∈ news ∧ ∀ x, 0 ≤ x → x < 4 → (pa x, tupOf [.int (nx 0 x) (ta x), .int (nx 1 x) (tb x)]) ∈ news
theorem PairsIn.mono {nx : Int → Int → Int} {pl : Addr} {news news' : List (Addr × Obj)} (h : PairsIn nx pl news) (hs : ∀ p ∈ news, p ∈ news') : PairsIn nx pl news' := by
  obtain ⟨pa, ta, tb, n, h1, h2⟩ := h
  exact ⟨pa, ta, tb, n, hs _ h1, fun x h0 h4 => hs _ (h2 x h0 h4)⟩
/-- the bits of a place, the highest first -/
noncomputable def bitsOf (pc : Int) : Nat → List Int
  | 0 => []
  | k + 1 => pc / 2 ^ k % 2 :: bitsOf pc k
noncomputable def wend (nx : Int → Int → Int) : Int → List Int → Int
  | x, [] => x
  | x, b :: r => wend nx (nx b x) r
noncomputable def wbes (nx : Int → Int → Int) : Nat → Int → List Int → List (Nat × Int)
  | _, _, [] => []
  | k, x, b :: r => (if b = 0 then [(k, nx 1 x)] else []) ++ wbes nx (k + 1) (nx b x) r
noncomputable def blanks (k : Nat) : Str := Txt.mul (Str.ofString " ") (k : Int)
noncomputable def besDat (l : List (Nat × Int)) : List Dat := l.map fun p => Dat.tuple [Dat.str (blanks p.1), Dat.int p.2]
noncomputable def lwFor : Stmt := nth (bodyOf (topN 13)) 1
theorem PairsIn.at {nx : Int → Int → Int} {pl : Addr} {news : List (Addr × Obj)} (h : PairsIn nx pl news) {y : Int} (h0 : 0 ≤ y) (h4 : y < 4) :
    ∃ (vs : List Value) (n : Nat) (pa : Addr) (ta tb : Tok), (pl, listOf vs.toArray n) ∈ news ∧ vs.length = 4 ∧ vs[y.toNat]? = some (.ref pa) ∧ (pa, tupOf [.int (nx 0 y) ta, .int (nx 1 y) tb]) ∈ news := by
  obtain ⟨pa, ta, tb, n, h1, h2⟩ := h
  refine ⟨_, n, pa y, ta y, tb y, h1, rfl, ?_, h2 y h0 h4⟩
  have : y = 0 ∨ y = 1 ∨ y = 2 ∨ y = 3 := by first | exact cs4_n (by first | assumption | omega) | exact cs4_z (by first | assumption | omega) (by first | assumption | omega)
  rcases this with rfl | rfl | rfl | rfl <;> rfl
theorem fbit (pc : Int) (kk : Nat) (h : 0 ≤ pc) : (pc.fdiv (2 ^ ((kk : Int)).toNat)).fmod 2 = pc / 2 ^ kk % 2 := by
  have h2 : (0 : Int) ≤ 2 ^ kk := Int.pow_nonneg (by decide)
  rw [Int.toNat_natCast, Int.fdiv_eq_ediv_of_nonneg _ h2, Int.fmod_eq_emod_of_nonneg _ (by decide)]
theorem pick2 {a b : Int} {ta tb : Tok} {f : Int → Int} {k : Int} (h0 : 0 ≤ k) (h2 : k < 2) (ha : f 0 = a) (hb : f 1 = b) : ([.int a ta, .int b tb] : List Value)[k.toNat]? = some (.int (f k) (if k = 0 then ta else tb)) := by
  have : k = 0 ∨ k = 1 := by omega
  rcases this with rfl | rfl
  · simp [ha]
  · simp [hb]
theorem wend_append (nx : Int → Int → Int) : ∀ (x : Int) (l : List Int) (b : Int), wend nx x (l ++ [b]) = nx b (wend nx x l)
  | _, [], _ => rfl
  | x, c :: r, b => wend_append nx (nx c x) r b
theorem wbes_append (nx : Int → Int → Int) : ∀ (k : Nat) (x : Int) (l : List Int) (b : Int), wbes nx k x (l ++ [b]) = wbes nx k x l ++ (if b = 0 then [(k + l.length, nx 1 (wend nx x l))] else [])
  | k, x, [], b => by simp [wbes, wend]
  | k, x, c :: r, b => by
    have := wbes_append nx (k + 1) (nx c x) r b
    simp only [List.cons_append, wbes, wend, this, List.append_assoc, List.length_cons]
    rw [show k + (r.length + 1) = k + 1 + r.length by omega]
theorem wend_in {nx : Int → Int → Int} (hnx : ∀ b y, 0 ≤ y → y < 4 → 0 ≤ nx b y ∧ nx b y < 4) : ∀ (x : Int) (l : List Int), 0 ≤ x ∧ x < 4 → 0 ≤ wend nx x l ∧ wend nx x l < 4
  | _, [], h => h
  | x, b :: r, h => wend_in hnx (nx b x) r (hnx b x h.1 h.2)
theorem bits_len (pc : Int) : ∀ st, (bitsOf pc st).length = st
  | 0 => rfl
  | k + 1 => by simp [bitsOf, bits_len pc k]
theorem bits_take (pc : Int) : ∀ (st i : Nat), i < st → (bitsOf pc st).take (i + 1) = (bitsOf pc st).take i ++ [pc / 2 ^ (st - 1 - i) % 2]
  | 0, _, h => absurd h (Nat.not_lt_zero _)
  | k + 1, 0, _ => by simp [bitsOf]
  | k + 1, i + 1, h => by
    have := bits_take pc k i (by omega)
    simp only [bitsOf, List.take_succ_cons, List.cons_append]
    rw [this, show k + 1 - 1 - (i + 1) = k - 1 - i by omega]
theorem besDat_append (a b : List (Nat × Int)) : besDat (a ++ b) = besDat a ++ besDat b := by simp [besDat]
theorem wbes_len (nx : Int → Int → Int) : ∀ (k : Nat) (x : Int) (l : List Int), (wbes nx k x l).length ≤ l.length
  | _, _, [] => Nat.le_refl _
  | k, x, b :: r => by
    have := wbes_len nx (k + 1) (nx b x) r
    simp only [wbes, List.length_append, List.length_cons]
    split <;> simp <;> omega
theorem range_down (st : Nat) : Builtin.Range.rangeSize ((st : Int) - 1) (-1) (-1) = (st : Int) := by
  unfold Builtin.Range.rangeSize
  rw [if_neg (by decide)]
  split
  · first | omega | (simp; done) | (simp; omega)
  · omega
theorem small_all : ∀ st : Nat, st < 16 → Builtin.Range.small ((st : Int) - 1) (-1) (-1) = true := by decide +kernel
theorem small_down (st : Nat) (h : st ≤ 15) : Builtin.Range.small ((st : Int) - 1) (-1) (-1) = true := small_all st (Nat.lt_succ_of_le h)
set_option maxRecDepth 100000 in
set_option maxHeartbeats 8000000 in
theorem walk_turn {w : World} {mean : ExcName → Option Value} {mg mb : Str → Option Value} {nx : Int → Int → Int} {pl bl L I : Addr} {y pc : Int} {st kk : Nat} {t1 t2 t3 t4 : Tok} {s : Shared} {ri : Obj} {vs : List Value} {nb : Nat}
    {outer : List Env} {A₀ : Around} {base g h : Heap} {tk : Nat} {m : Str → Option Value} {tl : List (Addr × Obj)} {Q : Flow → Shared → Prop} {E : Value → Shared → Prop}
    (hP : PairsIn nx pl tl) (hy : 0 ≤ y ∧ y < 4) (hst : st ≤ 15) (hkk : kk < st) (hpc : 0 ≤ pc ∧ pc < 32768) (hvs : vs.length ≤ 15) (hne : ∀ p ∈ tl, p.1 ≠ bl) (hI : @LT.lt Nat _ bl I)
    (B : Below A₀ base outer g) (T : Top topProg looseL mean mg mb g) (codeHd : CodeHd base 168 164)
    (F : Fr g L h (fun z => if z = Str.ofString "k" then some (.int (kk : Int) t4) else m z)) (N : News g L h ((I, ri) :: (bl, listOf vs.toArray nb) :: tl))
    (h1 : m (Str.ofString "letter") = some (.int y t1)) (h2 : m (Str.ofString "pairs") = some (.ref pl)) (h3 : m (Str.ofString "steps") = some (.int (st : Int) t2)) (h4 : m (Str.ofString "place") = some (.int pc t3)) (h5 : m (Str.ofString "beside") = some (.ref bl))
    (hQ1 : pc / 2 ^ kk % 2 = 0 → ∀ (D : Addr) (h' : Heap) (tk' : Nat) (t' u t9 : Tok), Fr g L h' (fun z => if z = Str.ofString "letter" then some (.int (nx (pc / 2 ^ kk % 2) y) t9) else if z = Str.ofString "k" then some (.int (kk : Int) t4) else m z) →
      News g L h' ((D, tupOf [.str (blanks (st - kk)) t', .int (nx 1 y) u]) :: (I, ri) :: (bl, listOf (vs ++ [Value.ref D]).toArray (nb + 1)) :: tl) → (∀ p ∈ (I, ri) :: (bl, listOf vs.toArray nb) :: tl, p.1 ≠ D) → Q .next { s with heap := h', toks := tk' })
    (hQ2 : pc / 2 ^ kk % 2 ≠ 0 → ∀ (h' : Heap) (tk' : Nat) (t9 : Tok), Fr g L h' (fun z => if z = Str.ofString "letter" then some (.int (nx (pc / 2 ^ kk % 2) y) t9) else if z = Str.ofString "k" then some (.int (kk : Int) t4) else m z) →
      News g L h' ((I, ri) :: (bl, listOf vs.toArray nb) :: tl) → Q .next { s with heap := h', toks := tk' }) :
    (frag.heap_1 w.params).In g → wpAny (model Challenge.rw_ty0016_01.row.prog w) { handled := none, depth := 671, frames := some (envOf (Str.ofString "_law_walk") (scopeOf (topN 13)) L 181 (.ref 180) :: outer), guards := some [], units := 1703 }
      (execs (bodyOf lwFor) (envOf (Str.ofString "_law_walk") (scopeOf (topN 13)) L 181 (.ref 180))) Q E { s with heap := h, toks := tk } := by
  have e1 : bodyOf lwFor = [Stmt.If _ _ _ _, Stmt.Assign _ _ _] := rfl
  have e3 : scopeOf (topN 13) = Scope.mk _ _ _ _ _ := rfl
  rw [e1, e3]
  clear e1 e3
  obtain ⟨ps, np, pa, ta, tb, hp1, hp2, hp3, hp4⟩ := hP.at hy.1 hy.2
  have hb0 : 0 ≤ (pc.fdiv (2 ^ ((kk : Int)).toNat)).fmod 2 ∧ (pc.fdiv (2 ^ ((kk : Int)).toNat)).fmod 2 < 2 := by rw [fbit _ _ hpc.1]; omega
  have hb1 := pick2 (ta := ta) (tb := tb) (f := fun b => nx b y) hb0.1 hb0.2 rfl rfl
  k_fill
  intro X
  w_strict (
   repeat' (first | (fail_if_success (with_reducible show wpAny _ _ (pyIter _) _ _ _)
                     fail_if_success (with_reducible show wpAny _ _ (exec (Stmt.For _ _ _ _ _) _) _ _ _)
                     fail_if_success (with_reducible show wpAny _ _ (eval (Expr.ListComp _ _ _ _) _) _ _ _)
                     first | (k_unfold; (try dsimp only)) | (k_end; wrow_close) | walk1 | (dsimp only; walk1) | (leave1; walk_say "STEP leave1"; try dsimp only) | fail "no step")))
  · have hz := (by assumption : (pc.fdiv (2 ^ ((kk : Int)).toNat)).fmod 2 = 0)
    rw [fbit _ _ hpc.1] at hz
    rename Fr _ _ _ _ => F9
    rename News _ _ _ _ => N9
    rw [fbit _ _ hpc.1] at F9
    have es : ((st : Int) - (kk : Int)) = ((st - kk : Nat) : Int) := by omega
    rw [es, List.push_toArray] at N9
    refine hQ1 hz _ _ _ _ _ _ F9 N9 ?_
    exact List.forall_mem_cons.mpr ⟨by k_ne, List.forall_mem_cons.mpr ⟨by k_ne, ne_allLt (by (first | exact (by with_reducible assumption) | exact (And.right (by with_reducible assumption)) | exact (And.right (And.right (by with_reducible assumption))) | exact (And.right (And.right (And.right (by with_reducible assumption)))) | exact (And.right (And.right (And.right (And.right (by with_reducible assumption))))) | exact (And.right (And.right (And.right (And.right (And.right (by with_reducible assumption)))))) | exact (And.right (And.right (And.right (And.right (And.right (And.right (by with_reducible assumption))))))) | exact (And.right (And.right (And.right (And.right (And.right (And.right (And.right (by with_reducible assumption)))))))) | exact (And.right (And.right (And.right (And.right (And.right (And.right (And.right (And.right (by with_reducible assumption))))))))) | exact (And.right (And.right (And.right (And.right (And.right (And.right (And.right (And.right (And.right (by with_reducible assumption)))))))))) | exact (And.right (And.right (And.right (And.right (And.right (And.right (And.right (And.right (And.right (And.right (by with_reducible assumption))))))))))) | exact (And.right (And.right (And.right (And.right (And.right (And.right (And.right (And.right (And.right (And.right (And.right (by with_reducible assumption)))))))))))) | exact (And.right (And.right (And.right (And.right (And.right (And.right (And.right (And.right (And.right (And.right (And.right (And.right (by with_reducible assumption))))))))))))) | exact (And.right (And.right (And.right (And.right (And.right (And.right (And.right (And.right (And.right (And.right (And.right (And.right (And.right (by with_reducible assumption)))))))))))))))) (Nat.le_refl _)⟩⟩
  · have hz := (by assumption : (pc.fdiv (2 ^ ((kk : Int)).toNat)).fmod 2 ≠ 0)
    rw [fbit _ _ hpc.1] at hz
    rename Fr _ _ _ _ => F9
    rename News _ _ _ _ => N9
    rw [fbit _ _ hpc.1] at F9
    exact hQ2 hz _ _ _ F9 N9
theorem offWM : True := by
  w_top off
  exact True.intro
set_option maxRecDepth 100000 in
set_option maxHeartbeats 8000000 in
theorem law_walk {w : World} {mean : ExcName → Option Value} {mg mb : Str → Option Value} {nx : Int → Int → Int} {pl : Addr} {x pc : Int} {st : Nat} {t1 t2 t3 : Tok} {news : List (Addr × Obj)} (hP : PairsIn nx pl news)
    (hnx : ∀ b y, 0 ≤ y → y < 4 → 0 ≤ nx b y ∧ nx b y < 4) (hx : 0 ≤ x ∧ x < 4) (hst : st ≤ 15) (hpc : 0 ≤ pc ∧ pc < 32768) :
    Does w mean mg mb 670 1700 (.ref 181) [.ref pl, .int x t1, .int (st : Int) t2, .int pc t3] news (fun r n' => DatIn n' r (Dat.tuple [Dat.int (wend nx x (bitsOf pc st)), Dat.list (besDat (wbes nx 1 x (bitsOf pc st)))]) ∧ ∀ p ∈ news, p ∈ n') := by
  refine does_of ?_
  w_strict (
   k_fill
   intro ns g c mo lo gl ce qq fu co bu outer A₀ base h₀ L m s Q E B F X N T codeHd hret
   k_dflt k_enter
   repeat' (first | (fail_if_success (with_reducible show wpAny _ _ (pyIter _) _ _ _)
                     fail_if_success (with_reducible show wpAny _ _ (exec (Stmt.For _ _ _ _ _) _) _ _ _)
                     fail_if_success (with_reducible show wpAny _ _ (eval (Expr.ListComp _ _ _ _) _) _ _ _)
                     first | (k_unfold; (try dsimp only)) | (k_end; wrow_close) | walk1 | (dsimp only; walk1) | (leave1; walk_say "STEP leave1"; try dsimp only) | fail "no step")))
  refine wpAny_For ?_
  w_strict (
   repeat' (first | (fail_if_success (with_reducible show wpAny _ _ (pyIter _) _ _ _)
                     fail_if_success (with_reducible show wpAny _ _ (exec (Stmt.For _ _ _ _ _) _) _ _ _)
                     fail_if_success (with_reducible show wpAny _ _ (eval (Expr.ListComp _ _ _ _) _) _ _ _)
                     first | (k_unfold; (try dsimp only)) | (k_end; wrow_close) | walk1 | (dsimp only; walk1) | (leave1; walk_say "STEP leave1"; try dsimp only) | fail "no step")))
  rename_i bl x1 hlt x2 x3 x4 x5 x6 x7 x8 x9 hR1 F1 N1 x10
  rename Below _ _ _ _ => B1
  rename Top _ _ _ _ _ _ => T1
  rename Frag.In _ _ => X1
  refine for_range (n := st) (fun i m nws => ∃ (vs : List Value) (nb : Nat) (t : Tok) (tl : List (Addr × Obj)), nws = (bl, listOf vs.toArray nb) :: tl ∧ (∀ p ∈ tl, p.1 ≠ bl) ∧ (∀ p ∈ news, p ∈ tl) ∧
      DatAll tl vs (besDat (wbes nx 1 x ((bitsOf pc st).take i))) ∧ m (Str.ofString "letter") = some (.int (wend nx x ((bitsOf pc st).take i)) t) ∧ m (Str.ofString "pairs") = some (.ref pl) ∧ m (Str.ofString "steps") = some (.int (st : Int) t2) ∧
      m (Str.ofString "place") = some (.int pc t3) ∧ m (Str.ofString "beside") = some (.ref bl)) rfl rfl rfl hR1 (small_down st hst) (range_down st) F1 N1 ?_ ?_ ?_
  · exact ⟨[], 0, _, news, rfl, ne_all hlt (Nat.le_refl _), fun _ h => h, .nil, (by walk_at "my.look"), (by walk_at "my.look"), (by walk_at "my.look"), (by walk_at "my.look"), (by walk_at "my.look")⟩
  · rintro I hI i m₁ nws h tk t' ri E' hi ⟨vs, nb, t, tl, rfl, hne, hsub, hD, e1, e2, e3, e4, e5⟩ hneI F2 N2
    have hkk : ((st : Int) - 1 + (i : Int) * -1) = ((st - 1 - i : Nat) : Int) := by omega
    rw [hkk] at F2
    have hlv : vs.length ≤ i := by
      rw [hD.length]
      have h1 := wbes_len nx 1 x ((bitsOf pc st).take i)
      simp only [besDat, List.length_map]
      rw [List.length_take] at h1
      omega
    have hti := bits_take pc st i hi
    have hil : ((bitsOf pc st).take i).length = i := by rw [List.length_take, bits_len]; omega
    refine walk_turn (hP.mono hsub) (wend_in hnx x _ hx) hst (by omega) hpc (by omega) hne (hI _ (.head _)) B1 T1 codeHd F2 N2 e1 e2 e3 e4 e5 ?_ ?_ X1
    · intro hz D h' tk' t8 u t9 F3 N3 hD3
      refine REnd.of F3 (news' := (_, listOf (vs ++ [Value.ref D]).toArray (nb + 1)) :: (D, tupOf [.str (blanks (st - (st - 1 - i))) t8, .int (nx 1 (wend nx x ((bitsOf pc st).take i))) u]) :: tl) (fun p hp => N3 p ((by walk_at "my.sub" : ∀ p ∈ _, p ∈ _) p hp)) ?_ ?_
      · intro p hp
        rcases List.mem_cons.mp hp with rfl | hp
        · exact hneI (bl, listOf vs.toArray nb) (.head _)
        · rcases List.mem_cons.mp hp with rfl | hp
          · exact fun e => hD3 _ (.head _) e.symm
          · exact hneI p (.tail _ hp)
      · refine ⟨_, _, t9, _, rfl, ?_, fun p hp => .tail _ (hsub p hp), ?_, ?_, (by walk_at "my.look"), (by walk_at "my.look"), (by walk_at "my.look"), (by walk_at "my.look")⟩
        · intro p hp
          rcases List.mem_cons.mp hp with rfl | hp
          · exact fun e => hD3 _ (.tail _ (.head _)) e.symm
          · exact hne p hp
        · rw [hti, wbes_append, if_pos hz, besDat_append]
          refine DatAll.append (hD.mono fun p hp => .tail _ hp) (.one ?_)
          rw [hil, show st - (st - 1 - i) = 1 + i by omega]
          exact .tuple (n := 0) (.head _) (.cons (.str _ _) (.cons (.int _ _) .nil))
        · rw [hti, wend_append]; exact rfl
    · intro hz h' tk' t9 F3 N3
      refine REnd.of F3 N3 hneI ⟨_, _, t9, _, rfl, hne, hsub, ?_, ?_, (by walk_at "my.look"), (by walk_at "my.look"), (by walk_at "my.look"), (by walk_at "my.look")⟩
      · rw [hti, wbes_append, if_neg hz, List.append_nil]; exact hD
      · rw [hti, wend_append]; exact rfl
  · rintro m₁ nws h tk ⟨vs, nb, t, tl, rfl, hne, hsub, hD, e1, e2, e3, e4, e5⟩ F2 N2
    have hta : (bitsOf pc st).take st = bitsOf pc st := List.take_of_length_le (by rw [bits_len]; exact Nat.le_refl _)
    rw [hta] at hD e1
    dsimp only
    clear F1 N1 F N
    w_strict (
     repeat' (first | (fail_if_success (with_reducible show wpAny _ _ (pyIter _) _ _ _)
                       fail_if_success (with_reducible show wpAny _ _ (exec (Stmt.For _ _ _ _ _) _) _ _ _)
                       fail_if_success (with_reducible show wpAny _ _ (eval (Expr.ListComp _ _ _ _) _) _ _ _)
                       first | (k_unfold; (try dsimp only)) | (k_end; wrow_close) | walk1 | (dsimp only; walk1) | (leave1; walk_say "STEP leave1"; try dsimp only) | fail "no step")))
    refine hret _ _ _ _ (by assumption) (by assumption) ⟨?_, fun p hp => .tail _ (.tail _ (hsub p hp))⟩
    exact .tuple (n := 0) (.head _) (.cons (.int _ _) (.cons (.list (.tail _ (.head _)) (hD.mono fun p hp => .tail _ (.tail _ hp))) .nil))
theorem offLN : True := by
  w_top off
  exact True.intro
theorem LexIn.cons {w : World} {mean : ExcName → Option Value} {mg mb : Str → Option Value} {C : LexC} {nl : Int} {q : List Str} {cs : List Nat} {news : List (Addr × Obj)} {p : Addr × Obj} (h : LexIn w mean mg mb C nl q cs news) : LexIn w mean mg mb C nl q cs (p :: news) := h.mono fun _ hp => .tail _ hp
theorem LexIn.cut {w : World} {mean : ExcName → Option Value} {mg mb : Str → Option Value} {C : LexC} {nl : Int} {q : List Str} {cs : List Nat} {news : List (Addr × Obj)} {a : Addr} (h : LexIn w mean mg mb C nl q cs news) (ha : @LT.lt Nat _ C.pb a) : LexIn w mean mg mb C nl q cs (cut [a] news) := by
  obtain ⟨t, qs, ys, n1, n2, keep, hq, hS, ho, hE, hk, hf, hl⟩ := h
  have hc : ∀ p ∈ news, @LE.le Nat _ p.1 C.pb → p ∈ Mine.cut [a] news := fun p hp hle => mem_cut hp (by
    intro e
    have e' := List.mem_singleton.mp e
    rw [e'] at hle
    exact absurd (Nat.lt_of_lt_of_le ha hle) (Nat.lt_irrefl _))
  refine ⟨t, qs, ys, n1, n2, keep, hq, hS, ho, fun p hp => hc p (hE p hp) ?_, fun p hp => ⟨hc p (hk p hp).1 (Nat.le_of_lt (hk p hp).2.2.1), (hk p hp).2⟩, hf, hl⟩
  obtain ⟨a1, a2, a3, a4, a5⟩ := ho
  simp only [List.mem_cons, List.not_mem_nil, or_false] at hp
  rcases hp with rfl | rfl | rfl | rfl | rfl | rfl
  · exact Nat.le_refl _
  · exact Nat.le_of_lt a5
  · show @LE.le Nat _ C.dx C.pb; omega
  · show @LE.le Nat _ C.sx C.pb; omega
  · show @LE.le Nat _ C.ds C.pb; omega
  · show @LE.le Nat _ C.lf C.pb; omega
noncomputable def lnFor : Stmt := nth (bodyOf (topN 14)) 1
noncomputable def lnIn : Stmt := nth (bodyOf lnFor) 0
noncomputable abbrev lnEnv (L : Addr) : Env := envOfC (Str.ofString "_law_line") (scopeOf (topN 14)) L 186 (.ref 185)
set_option maxRecDepth 100000 in
set_option maxHeartbeats 8000000 in
theorem push_turn {w : World} {mean : ExcName → Option Value} {mg mb : Str → Option Value} {C : LexC} {nl : Int} {q : List Str} {cs : List Nat} {L : Addr} {oc : Obj} {y : Str} {ty : Tok} {s : Shared}
    {outer : List Env} {A₀ : Around} {base g h : Heap} {tk : Nat} {m : Str → Option Value} {nws : List (Addr × Obj)} {Q : Flow → Shared → Prop} {E : Value → Shared → Prop}
    (hL : LexIn w mean mg mb C nl q cs nws) (hq : q.length ≤ 1000) (hc1 : (L + 1, oc) ∈ nws) (hc2 : oc.data = .cell (some (.ref C.lx)))
    (B : Below A₀ base outer g) (T : Top topProg looseL mean mg mb g) (codeHd : CodeHd base 168 164)
    (F : Fr g L h m) (N : News g L h nws) (hy : m (Str.ofString "sign") = some (.str y ty))
    (hQ : ∀ h' tk' n', Fr g L h' m → News g L h' n' → LexIn w mean mg mb C nl (q ++ [y]) cs n' → Keep C nws n' → Q .next { s with heap := h', toks := tk' }) :
    (frag.heap_1 w.params).In g → wpAny (model Challenge.rw_ty0016_01.row.prog w) { handled := none, depth := 661, frames := some (lnEnv L :: outer), guards := some [], units := 1603 } (execs (bodyOf lnIn) (lnEnv L)) Q E { s with heap := h, toks := tk } := by
  have e1 : bodyOf lnIn = [Stmt.Expr _ _] := rfl
  have e3 : scopeOf (topN 14) = Scope.mk _ _ _ _ _ := rfl
  unfold lnEnv
  rw [e1, e3]
  clear e1 e3
  obtain ⟨ti, hi1, hi2⟩ := hL.inst
  k_fill
  intro X
  w_strict (
   repeat' (first | (fail_if_success (with_reducible show wpAny _ _ (pyIter _) _ _ _)
                     fail_if_success (with_reducible show wpAny _ _ (exec (Stmt.For _ _ _ _ _) _) _ _ _)
                     fail_if_success (with_reducible show wpAny _ _ (eval (Expr.ListComp _ _ _ _) _) _ _ _)
                     first | ((with_reducible show wpAny _ _ (call (Value.ref _) _ _) _ _ _); refine' Does.use (push_tok hL hq) ?uA ?uD ?uU ?uF ?uK ?uB ?uR ?uX ?uN ?uT ?uC ?_; (case uA => exact rfl); (case uD => exact Nat.le_of_ble_eq_true rfl); (case uU => exact Nat.le_of_ble_eq_true rfl); (case uF => exact rfl); (case uK => exact rfl); (case uB => k_asm); (case uR => k_asm); (case uX => k_in); (case uN => k_asm); (case uT => k_asm); (case uC => k_asm); k_whole; intro r' n' h' tk' F' N' P'; (obtain ⟨e1, hL1, hK1⟩ := P'; subst e1)) | (k_unfold; (try dsimp only)) | (k_end; wrow_close) | walk1 | (dsimp only; walk1) | (leave1; walk_say "STEP leave1"; try dsimp only) | fail "no step")))
  exact hQ _ _ _ (by assumption) (by assumption) hL1 hK1
theorem offLN2 : True := by
  w_top off
  exact True.intro

theorem wd_cps (nx : Int → Int → Int) (y : Int) : (wd nx y).cps = #[cd (nx 0 y), cd (nx 1 y)] := rfl
theorem cd_lt (x : Int) : cd x < 128 := by unfold cd; split <;> (try split) <;> (try split) <;> decide
theorem wd_ascii (nx : Int → Int → Int) (y : Int) : (wd nx y).cps.all (· < 128) = true := by
  rw [wd_cps]; simp [cd_lt]
theorem wd_walks {prog : Program} {w : World} {A : Around} (hA : A.handled = none) (I : Addr) (nx : Int → Int → Int) (y : Int) (t : Tok) : Walks prog w A I [I] [I] 2 (SignAt (wd nx y)) (fun i h => h.IsStrIter I "str_ascii_iterator" (wd nx y) t i) := Walks.strAscii hA I (wd nx y) t
theorem wd_iter_obj (I : Addr) (nx : Int → Int → Int) (y : Int) (t : Tok) (T : String) : ∀ i (h : Heap), h.IsStrIter I T (wd nx y) t i → ∃ o, h.get? I = some o := fun _ _ st => st.imp fun _ ho => ho.1
set_option maxRecDepth 100000 in
set_option maxHeartbeats 8000000 in
theorem line_turn {w : World} {mean : ExcName → Option Value} {mg mb : Str → Option Value} {C : LexC} {nl : Int} {q : List Str} {cs : List Nat} {L sd : Addr} {oc : Obj} {nx : Int → Int → Int} {y : Int} {s : Shared}
    {outer : List Env} {A₀ : Around} {base g h : Heap} {tk : Nat} {m : Str → Option Value} {nws : List (Addr × Obj)} {Q : Flow → Shared → Prop} {E : Value → Shared → Prop}
    (hL : LexIn w mean mg mb C nl (ltr y :: q) cs nws) (hq : q.length ≤ 900) (hc1 : (L + 1, oc) ∈ nws) (hc2 : oc.data = .cell (some (.ref C.lx))) (hcm : L + 1 ∉ C.mut) (hS : StandsIn w.params nx sd nws) (hsd : sd ∉ C.mut) (hy : 0 ≤ y ∧ y < 4)
    (B : Below A₀ base outer g) (T : Top topProg looseL mean mg mb g) (codeHd : CodeHd base 168 164)
    (F : Fr g L h m) (N : News g L h nws) (hm : m (Str.ofString "stands") = some (.ref sd))
    (hQ : ∀ h' tk' m' n', Fr g L h' m' → m' (Str.ofString "stands") = some (.ref sd) → News g L h' n' → LexIn w mean mg mb C nl (q ++ [ltr (nx 0 y), ltr (nx 1 y)]) cs n' → (∀ p ∈ nws, p.1 ∉ C.mut → p ∈ n') → Q .next { s with heap := h', toks := tk' }) :
    (frag.heap_1 w.params).In g → wpAny (model Challenge.rw_ty0016_01.row.prog w) { handled := none, depth := 661, frames := some (lnEnv L :: outer), guards := some [], units := 1603 } (execs (bodyOf lnFor) (lnEnv L)) Q E { s with heap := h, toks := tk } := by
  have e1 : bodyOf lnFor = [Stmt.For _ _ _ _ _] := rfl
  have e3 : scopeOf (topN 14) = Scope.mk _ _ _ _ _ := rfl
  have e4 := e3
  unfold lnEnv
  rw [e1, e3]
  clear e1 e3
  obtain ⟨ti, hi1, hi2⟩ := hL.inst
  obtain ⟨kt, vt, nd, hsm⟩ := hS
  have hf := stands_find w.params nx kt vt hy.1 hy.2
  k_fill
  intro X
  w_strict (
   repeat' (first | (fail_if_success (with_reducible show wpAny _ _ (pyIter _) _ _ _)
                     fail_if_success (with_reducible show wpAny _ _ (exec (Stmt.For _ _ _ _ _) _) _ _ _)
                     fail_if_success (with_reducible show wpAny _ _ (eval (Expr.ListComp _ _ _ _) _) _ _ _)
                     first | (k_unfold; (try dsimp only)) | (k_end; wrow_close) | walk1 | (dsimp only; walk1) | (leave1; walk_say "STEP leave1"; try dsimp only) | fail "no step")))
  refine wpAny_For ?_
  clear hi1 hi2
  have hX := hL.inst
  obtain ⟨ti', hi1, hi2⟩ := hX
  w_strict (
   repeat' (first | (fail_if_success (with_reducible show wpAny _ _ (pyIter _) _ _ _)
                     fail_if_success (with_reducible show wpAny _ _ (exec (Stmt.For _ _ _ _ _) _) _ _ _)
                     fail_if_success (with_reducible show wpAny _ _ (eval (Expr.ListComp _ _ _ _) _) _ _ _)
                     first | ((with_reducible show wpAny _ _ (call (Value.ref _) _ _) _ _ _); refine' Does.use (tok_pushed hL (by omega)) ?uA ?uD ?uU ?uF ?uK ?uB ?uR ?uX ?uN ?uT ?uC ?_; (case uA => exact rfl); (case uD => exact Nat.le_of_ble_eq_true rfl); (case uU => exact Nat.le_of_ble_eq_true rfl); (case uF => exact rfl); (case uK => exact rfl); (case uB => k_asm); (case uR => k_asm); (case uX => k_in); (case uN => k_asm); (case uT => k_asm); (case uC => k_asm); k_whole; intro r' n' h' tk' F' N' P'; (obtain ⟨⟨tr, e1⟩, hL1, hK1⟩ := P'; subst e1; have hsm' := hK1 _ hsm hsd; clear hi1 hi2)) | (k_unfold; (try dsimp only)) | (k_end; wrow_close) | walk1 | (dsimp only; walk1) | (leave1; walk_say "STEP leave1"; try dsimp only) | fail "no step")))
  rename Fr _ _ _ _ => F1
  rename News _ _ _ _ => N1
  rename Below _ _ _ _ => B1
  rename Top _ _ _ _ _ _ => T1
  refine wpAny_pyIter_ascii (wd_ascii nx y) ?_
  have hlt := fun p hp => Heap.lt_size (N1 p hp).1
  obtain ⟨po, hpo⟩ := hL1.pbIn
  have hIpb := hlt _ hpo
  have hN := N1.push F1 { cls := .type "str_ascii_iterator", data := .fields #[.str (wd nx y) (vt y), .int 0 0] }
  refine for_walks (n := 2) (P := SignAt (wd nx y)) (fun i m' n' => m' (Str.ofString "stands") = some (.ref sd) ∧ LexIn w mean mg mb C nl (q ++ [ltr (nx 0 y), ltr (nx 1 y)].take i) cs n' ∧ Keep C nws n') (wd_walks rfl _ nx y (vt y)) (wd_iter_obj _ nx y (vt y) _) rfl rfl ?_ ?_ 2 0 _ _ _ _ _ rfl ?_ ?_ (fun p hp => Nat.ne_of_lt (hlt p hp)) (F1.push _) hN
  · rintro i m1 n1 h1 tk1 oI v E' hi ⟨c, u, hcu, rfl⟩ ⟨j1, j2, j3⟩ hne F2 N2
    have hcut : ∀ n', Keep C ((h'.objs.size, oI) :: n1) n' → Keep C nws (cut [h'.objs.size] n') := fun n' hk p hp hn => mem_cut (hk p (.tail _ (j3 p hp hn)) hn) (fun e => hne p (j3 p hp hn) (List.mem_singleton.mp e))
    refine push_turn (y := one c) (j2.cons) ?_ (.tail _ (j3 _ hc1 hcm)) hc2 B1 T1 codeHd F2 N2 (by walk_at "my.look") ?_ X
    · simp; omega
    · intro h' tk' n' F3 N3 hL3 hK3
      refine REnd.of F3 (news' := cut [_] n') (List.forall_mem_cons.mpr ⟨N3 _ (hK3 _ (.head _) (hL1.mutLe hIpb)), fun p hp => N3 p (cut_sub p hp)⟩) (cut_ne (.head _)) ⟨?_, ?_, hcut _ hK3⟩
      · exact (if_neg (by decide)).trans j1
      · have := hL3.cut hIpb
        have e : q ++ [ltr (nx 0 y), ltr (nx 1 y)].take i ++ [one c] = q ++ [ltr (nx 0 y), ltr (nx 1 y)].take (i + 1) := by
          rw [List.append_assoc]
          congr 1
          have : i = 0 ∨ i = 1 := by omega
          rcases this with rfl | rfl
          · have : c = cd (nx 0 y) := by simpa [wd_cps] using hcu.symm
            subst this; rfl
          · have : c = cd (nx 1 y) := by simpa [wd_cps] using hcu.symm
            subst this; rfl
        rw [e] at this
        exact this
  · rintro m1 n1 h1 tk1 ⟨j1, j2, j3⟩ hne F2 N2
    dsimp only
    clear F1 N1 F N hN
    w_strict (
     repeat' (first | (fail_if_success (with_reducible show wpAny _ _ (pyIter _) _ _ _)
                       fail_if_success (with_reducible show wpAny _ _ (exec (Stmt.For _ _ _ _ _) _) _ _ _)
                       fail_if_success (with_reducible show wpAny _ _ (eval (Expr.ListComp _ _ _ _) _) _ _ _)
                       first | (k_unfold; (try dsimp only)) | (k_end; wrow_close) | walk1 | (dsimp only; walk1) | (leave1; walk_say "STEP leave1"; try dsimp only) | fail "no step")))
    exact hQ _ _ _ _ F2 j1 N2 j2 j3
  · exact ⟨_, (hN _ (.head _)).1, rfl, rfl⟩
  · exact ⟨by walk_at "my.look", by simpa using hL1, hK1⟩
theorem offLN3 : True := by
  w_top off
  exact True.intro
noncomputable def qstep (nx : Int → Int → Int) : List Int → List Int
  | [] => []
  | y :: q => q ++ [nx 0 y, nx 1 y]
noncomputable def qs (nx : Int → Int → Int) (x : Int) : Nat → List Int
  | 0 => [x]
  | i + 1 => qstep nx (qs nx x i)
theorem qs_len (nx : Int → Int → Int) (x : Int) : ∀ i, (qs nx x i).length = i + 1
  | 0 => rfl
  | i + 1 => by
    have h := qs_len nx x i
    simp only [qs]
    cases e : qs nx x i with
    | nil => rw [e] at h; simp at h
    | cons y q => rw [e] at h; simp only [qstep, List.length_append, List.length_cons, List.length_nil] at h ⊢; omega
theorem qs_in {nx : Int → Int → Int} (hnx : ∀ b y, 0 ≤ y → y < 4 → 0 ≤ nx b y ∧ nx b y < 4) {x : Int} (hx : 0 ≤ x ∧ x < 4) : ∀ i, ∀ y ∈ qs nx x i, 0 ≤ y ∧ y < 4
  | 0 => fun y hy => by simp only [qs, List.mem_singleton] at hy; subst hy; exact hx
  | i + 1 => fun y hy => by
    have h := qs_in hnx hx i
    simp only [qs] at hy
    cases e : qs nx x i with
    | nil => rw [e] at hy; simp [qstep] at hy
    | cons z q =>
      rw [e] at hy h
      simp only [qstep, List.mem_append, List.mem_cons, List.not_mem_nil, or_false] at hy
      have hz := h z (.head _)
      rcases hy with hy | rfl | rfl
      · exact h y (.tail _ hy)
      · exact hnx _ _ hz.1 hz.2
      · exact hnx _ _ hz.1 hz.2
theorem LexIn.pbLt {w : World} {mean : ExcName → Option Value} {mg mb : Str → Option Value} {C : LexC} {nl : Int} {q : List Str} {cs : List Nat} {news : List (Addr × Obj)} {a : Addr} (h : LexIn w mean mg mb C nl q cs news) (ha : ∀ p ∈ news, @LT.lt Nat _ p.1 a) : @LT.lt Nat _ C.pb a := by
  obtain ⟨o, ho⟩ := h.pbIn
  exact ha _ ho
theorem LexIn.cutL {w : World} {mean : ExcName → Option Value} {mg mb : Str → Option Value} {C : LexC} {nl : Int} {q : List Str} {cs : List Nat} {news : List (Addr × Obj)} {ds : List Addr} (h : LexIn w mean mg mb C nl q cs news) (ha : ∀ a ∈ ds, @LT.lt Nat _ C.pb a) : LexIn w mean mg mb C nl q cs (Mine.cut ds news) := by
  obtain ⟨t, qs, ys, n1, n2, keep, hq, hS, ho, hE, hk, hf, hl⟩ := h
  have hc : ∀ p ∈ news, @LE.le Nat _ p.1 C.pb → p ∈ Mine.cut ds news := fun p hp hle => mem_cut hp (fun e => absurd (Nat.lt_of_lt_of_le (ha _ e) hle) (Nat.lt_irrefl _))
  refine ⟨t, qs, ys, n1, n2, keep, hq, hS, ho, fun p hp => hc p (hE p hp) ?_, fun p hp => ⟨hc p (hk p hp).1 (Nat.le_of_lt (hk p hp).2.2.1), (hk p hp).2⟩, hf, hl⟩
  obtain ⟨a1, a2, a3, a4, a5⟩ := ho
  simp only [List.mem_cons, List.not_mem_nil, or_false] at hp
  rcases hp with rfl | rfl | rfl | rfl | rfl | rfl
  · exact Nat.le_refl _
  · exact Nat.le_of_lt a5
  · show @LE.le Nat _ C.dx C.pb; omega
  · show @LE.le Nat _ C.sx C.pb; omega
  · show @LE.le Nat _ C.ds C.pb; omega
  · show @LE.le Nat _ C.lf C.pb; omega
theorem glue_txt : ∀ (l : List Nat) (a : Array Nat), (l.map one).foldl (fun acc p => acc ++ (Str.ofString "").cps ++ p.cps) a = a ++ l.toArray
  | [], a => by simp
  | c :: l, a => by
    have := glue_txt l (a ++ (Str.ofString "").cps ++ (one c).cps)
    simp only [List.map_cons, List.foldl_cons]
    rw [this]
    have e0 : (Str.ofString "").cps = #[] := rfl
    simp [e0, one]
theorem join_ones (l : List Nat) : Txt.join (Str.ofString "") (l.map one) = txt l := by
  cases l with
  | nil => rfl
  | cons c l =>
    show (⟨(l.map one).foldl (fun acc p => acc ++ (Str.ofString "").cps ++ p.cps) (one c).cps⟩ : Str) = _
    rw [glue_txt]
    simp [txt, one]
theorem join_ltr (l : List Int) : Txt.join (Str.ofString "") (l.map ltr) = txt (l.map cd) := by
  rw [← join_ones (l.map cd), List.map_map]; rfl
set_option maxRecDepth 100000 in
set_option maxHeartbeats 8000000 in
theorem law_line {w : World} {mean : ExcName → Option Value} {mg mb : Str → Option Value} {C : LexC} {nl : Int} {cs : List Nat} {nx : Int → Int → Int} {sd : Addr} {x : Int} {tx : Tok} {news : List (Addr × Obj)} (hL : LexIn w mean mg mb C nl [] cs news) (hS : StandsIn w.params nx sd news) (hsd : sd ∉ C.mut)
    (hnx : ∀ b y, 0 ≤ y → y < 4 → 0 ≤ nx b y ∧ nx b y < 4) (hx : 0 ≤ x ∧ x < 4) :
    Does w mean mg mb 660 1600 (.ref 186) [.ref C.lx, .ref sd, .str (ltr x) tx] news (fun r n' => (∃ t, r = .str (txt ((qs nx x 7).map cd)) t) ∧ LexIn w mean mg mb C nl [] cs n' ∧ Keep C news n') := by
  obtain ⟨ti, hi1, hi2⟩ := hL.inst
  refine does_of ?_
  w_strict (
   k_fill
   intro ns g c mo lo gl ce qq fu co bu outer A₀ base h₀ L m s Q E B F X N T codeHd hret
   k_dflt k_enter
   repeat' (first | (fail_if_success (with_reducible show wpAny _ _ (pyIter _) _ _ _)
                     fail_if_success (with_reducible show wpAny _ _ (exec (Stmt.For _ _ _ _ _) _) _ _ _)
                     fail_if_success (with_reducible show wpAny _ _ (eval (Expr.ListComp _ _ _ _) _) _ _ _)
                     first | ((with_reducible show wpAny _ _ (call (Value.ref _) _ _) _ _ _); refine' Does.use (push_tok hL.cons (Nat.zero_le _)) ?uA ?uD ?uU ?uF ?uK ?uB ?uR ?uX ?uN ?uT ?uC ?_; (case uA => exact rfl); (case uD => exact Nat.le_of_ble_eq_true rfl); (case uU => exact Nat.le_of_ble_eq_true rfl); (case uF => exact rfl); (case uK => exact rfl); (case uB => k_asm); (case uR => k_asm); (case uX => k_in); (case uN => k_asm); (case uT => k_asm); (case uC => k_asm); k_whole; intro r' n' h' tk' F' N' P'; (obtain ⟨e1, hL1, hK1⟩ := P'; subst e1)) | (k_unfold; (try dsimp only)) | (k_end; wrow_close) | walk1 | (dsimp only; walk1) | (leave1; walk_say "STEP leave1"; try dsimp only) | fail "no step")))
  refine wpAny_For ?_
  w_strict (
   repeat' (first | (fail_if_success (with_reducible show wpAny _ _ (pyIter _) _ _ _)
                     fail_if_success (with_reducible show wpAny _ _ (exec (Stmt.For _ _ _ _ _) _) _ _ _)
                     fail_if_success (with_reducible show wpAny _ _ (eval (Expr.ListComp _ _ _ _) _) _ _ _)
                     first | (k_unfold; (try dsimp only)) | (k_end; wrow_close) | walk1 | (dsimp only; walk1) | (leave1; walk_say "STEP leave1"; try dsimp only) | fail "no step")))
  rename_i _ L2 _ _ _ _ B1 X1 T1 l1 o1 d1 _ F2 N2 _ _ _ _ _ hR1 F3 N3 _
  have hpb := hL.pbLt l1
  have hLm : L2 + 1 ∉ C.mut := hL.mutLe (Nat.lt_succ_of_lt hpb)
  refine for_range (n := 7) (fun i m' n' => m' (Str.ofString "stands") = some (.ref sd) ∧ LexIn w mean mg mb C nl ((qs nx x i).map ltr) cs n' ∧ Keep C ((L2 + 1, o1) :: news) n') rfl rfl rfl hR1 (by decide +kernel) (by decide +kernel) F3 N3 ⟨by walk_at "my.look", hL1, hK1⟩ ?_ ?_
  · rintro I hI i m1 n1 h1 tk t' ri E' hi ⟨j1, j2, j3⟩ hne F4 N4
    have hIpb := hL1.pbLt hI
    have hlen := qs_len nx x i
    have hin := qs_in hnx hx i
    cases eq : qs nx x i with
    | nil => rw [eq] at hlen; simp at hlen
    | cons y q =>
      rw [eq] at hlen hin j2
      have hS1 : StandsIn w.params nx sd n1 := by
        obtain ⟨kt, vt, nd, hm⟩ := hS
        exact ⟨kt, vt, nd, j3 _ (.tail _ hm) hsd⟩
      refine line_turn (nx := nx) (oc := o1) (LexIn.cons j2) (by simp at hlen ⊢; omega) (.tail _ (j3 _ (.head _) hLm)) d1 hLm ?_ hsd (hin y (.head _)) B1 T1 codeHd F4 N4 (by walk_at "my.look") ?_ X1
      · obtain ⟨kt, vt, nd, hm⟩ := hS1
        exact ⟨kt, vt, nd, .tail _ hm⟩
      · intro h' tk' m' n' F5 e5 N5 hL5 hK5
        refine REnd.of F5 (news' := cut [I] n') (List.forall_mem_cons.mpr ⟨N5 _ (hK5 _ (.head _) (hL1.mutLe hIpb)), fun p hp => N5 p (cut_sub p hp)⟩) (cut_ne (.head _)) ⟨e5, ?_, fun p hp hn => mem_cut (hK5 p (.tail _ (j3 p hp hn)) hn) (fun e => hne p (j3 p hp hn) (List.mem_singleton.mp e))⟩
        have := hL5.cut hIpb
        simp only [qs, eq, qstep, List.map_append, List.map_cons, List.map_nil]
        exact this
  · rintro m1 n1 h1 tk ⟨j1, j2, j3⟩ F4 N4
    dsimp only
    clear F2 N2 F3 N3 F N
    w_strict (
     repeat' (first | (fail_if_success (with_reducible show wpAny _ _ (pyIter _) _ _ _)
                       fail_if_success (with_reducible show wpAny _ _ (exec (Stmt.For _ _ _ _ _) _) _ _ _)
                       fail_if_success (with_reducible show wpAny _ _ (eval (Expr.ListComp _ _ _ _) _) _ _ _)
                       first | (k_unfold; (try dsimp only)) | (k_end; wrow_close) | walk1 | (dsimp only; walk1) | (leave1; walk_say "STEP leave1"; try dsimp only) | fail "no step")))
    refine eval_listcomp (cl := [(Str.ofString "lexer", L2 + 1)]) rfl rfl (by decide) ?_
    w_strict (
     repeat' (first | (fail_if_success (with_reducible show wpAny _ _ (pyIter _) _ _ _)
                       fail_if_success (with_reducible show wpAny _ _ (exec (Stmt.For _ _ _ _ _) _) _ _ _)
                       fail_if_success (with_reducible show wpAny _ _ (eval (Expr.ListComp _ _ _ _) _) _ _ _)
                       first | (k_unfold; (try dsimp only)) | (k_end; wrow_close) | walk1 | (dsimp only; walk1) | (leave1; walk_say "STEP leave1"; try dsimp only) | fail "no step")))
    rename_i _ _ _ _ _ hR2 F5 N5 _
    have hql : ((qs nx x 7).map ltr).length = 8 := by rw [List.length_map, qs_len]
    refine comp_range (n := 8) (J := fun i vals n' => StrsAre vals (((qs nx x 7).map ltr).take i) ∧ LexIn w mean mg mb C nl (((qs nx x 7).map ltr).drop i) cs n' ∧ Keep C ((L2 + 1, o1) :: news) n') rfl (by decide) rfl rfl hR2 (by decide +kernel) (by decide +kernel) (by decide) F5 N5 ⟨.nil, j2, j3⟩ ?_ ?_
    · rintro Cc D I hI hID hDC i vals nws h2 tk2 oC oI mC nn t' E' hi ⟨k1, k2, k3⟩ F6 N6 hO hne
      have hIpb := j2.pbLt hI
      generalize (qs nx x 7).map ltr = ql at hql k1 k2
      have hil : i < ql.length := by omega
      have ed : ql.drop i = ql[i] :: ql.drop (i + 1) := List.drop_eq_getElem_cons hil
      rw [ed] at k2
      obtain ⟨ti2, hi3, hi4⟩ := k2.inst
      have hcl := k3 _ (.head _) hLm
      have hne2 : ∀ p ∈ ((Cc, oC) :: (I, oI) :: (D, listOf vals.toArray nn) :: nws), p ∈ ((Cc, oC) :: (I, oI) :: (D, listOf vals.toArray nn) :: nws) := fun _ h => h
      dsimp only
      clear F5 N5
      w_strict (
       repeat' (first | (fail_if_success (with_reducible show wpAny _ _ (pyIter _) _ _ _)
                         fail_if_success (with_reducible show wpAny _ _ (exec (Stmt.For _ _ _ _ _) _) _ _ _)
                         fail_if_success (with_reducible show wpAny _ _ (eval (Expr.ListComp _ _ _ _) _) _ _ _)
                         first | ((with_reducible show wpAny _ _ (call (Value.ref _) _ _) _ _ _); refine' Does.use (tok_pushed (k2.cons.cons.cons) (by rw [List.length_drop]; omega)) ?uA ?uD ?uU ?uF ?uK ?uB ?uR ?uX ?uN ?uT ?uC ?_; (case uA => exact rfl); (case uD => exact Nat.le_of_ble_eq_true rfl); (case uU => exact Nat.le_of_ble_eq_true rfl); (case uF => exact rfl); (case uK => exact rfl); (case uB => k_asm); (case uR => k_asm); (case uX => k_in); (case uN => k_asm); (case uT => k_asm); (case uC => k_asm); k_whole; intro r' n' h' tk' F' N' P'; (obtain ⟨⟨tr, e1⟩, hL1, hK1⟩ := P'; subst e1)) | (k_unfold; (try dsimp only)) | (k_end; wrow_close) | walk1 | (dsimp only; walk1) | (leave1; walk_say "STEP leave1"; try dsimp only) | fail "no step")))
      have hCpb : ∀ a ∈ [Cc, I, D], @LT.lt Nat _ C.pb a := by
        intro a ha
        simp only [List.mem_cons, List.not_mem_nil, or_false] at ha
        rcases ha with rfl | rfl | rfl
        · exact Nat.lt_trans hIpb (Nat.lt_trans hID hDC)
        · exact hIpb
        · exact Nat.lt_trans hIpb hID
      refine ⟨_, _, cut [Cc, I, D] n', oC, _, rfl, F', ?_, hO, ?_, fun _ h => (nomatch h), ?_, hL1.cutL hCpb, ?_⟩
      · refine List.forall_mem_cons.mpr ⟨N' _ (hK1 _ (.head _) (hL1.mutLe (hCpb _ (.head _)))), List.forall_mem_cons.mpr ⟨N' _ (hK1 _ (.tail _ (.head _)) (hL1.mutLe (hCpb _ (.tail _ (.head _))))), List.forall_mem_cons.mpr ⟨N' _ (hK1 _ (.tail _ (.tail _ (.head _))) (hL1.mutLe (hCpb _ (.tail _ (.tail _ (.head _)))))), fun p hp => N' p (cut_sub p hp)⟩⟩⟩
      · exact fun p hp => ⟨cut_ne (.head _) p hp, cut_ne (.tail _ (.head _)) p hp, cut_ne (.tail _ (.tail _ (.head _))) p hp⟩
      · rw [List.take_add_one, List.getElem?_eq_getElem hil]
        exact strs_append k1 (.cons _ _ .nil)
      · intro p hp hn
        have hp' := k3 p hp hn
        refine mem_cut (hK1 p (.tail _ (.tail _ (.tail _ hp'))) hn) fun e => ?_
        simp only [List.mem_cons, List.not_mem_nil, or_false] at e
        have hh := hne p hp'
        rcases e with e | e | e
        · exact hh.1 e
        · exact hh.2.1 e
        · exact hh.2.2 e
    · rintro Cc D hD hDC vals nws h2 tk2 oC mC nn ⟨k1, k2, k3⟩ hl F6 N6 hO hne
      refine compPost_none F6 N6 hO hDC (fun p hp => (hne p hp).1) fun h3 F7 N7 => ?_
      rw [List.take_of_length_le (Nat.le_of_eq hql)] at k1
      rw [List.drop_of_length_le (Nat.le_of_eq hql)] at k2
      have hjw : (((qs nx x 7).map ltr).map (·.length)).sum + ((qs nx x 7).map ltr).length ≤ 1048576 := Nat.le_of_ble_eq_true rfl
      have hje : Txt.join (Str.ofString "") ((qs nx x 7).map ltr) = txt ((qs nx x 7).map cd) := join_ltr _
      clear F5 N5
      w_strict (
       repeat' (first | (fail_if_success (with_reducible show wpAny _ _ (pyIter _) _ _ _)
                         fail_if_success (with_reducible show wpAny _ _ (exec (Stmt.For _ _ _ _ _) _) _ _ _)
                         fail_if_success (with_reducible show wpAny _ _ (eval (Expr.ListComp _ _ _ _) _) _ _ _)
                         first | (refine' join_listW (News.isList N7 (.head _)) ?uS ?uL ?uW ?_; (case uS => exact k1); (case uL => decide); (case uW => exact hjw); intro t' k'; rw [hje]) | (k_unfold; (try dsimp only)) | (k_end; wrow_close) | walk1 | (dsimp only; walk1) | (leave1; walk_say "STEP leave1"; try dsimp only) | fail "no step")))
      refine hret _ _ _ _ (by assumption) (by assumption) ⟨⟨_, rfl⟩, k2.cons, fun p hp hn => .tail _ (k3 p (.tail _ hp) hn)⟩
theorem offLA2 : True := by
  w_top off
  exact True.intro
noncomputable abbrev accD (w : World) (k t : Tok) : Obj := dictOf [⟨PyData.keyHash w.params (Str.ofString "_initial_size"), .str (Str.ofString "_initial_size") k, .int 0 t⟩] 1
/-- the pile's items, each a tuple of two texts -/
inductive PairsAre (x : Addr) (news : List (Addr × Obj)) : List Value → List (Str × Str) → Prop
  | nil : PairsAre x news [] []
  | cons {D : Addr} {a b : Str} {t u : Tok} {vs : List Value} {l : List (Str × Str)} : (D, tupOf [.str a t, .str b u]) ∈ news → D ≠ x → PairsAre x news vs l → PairsAre x news (.ref D :: vs) ((a, b) :: l)
/-- a pile stands in the ledger -/
noncomputable def PileIn (w : World) (x dx : Addr) (l : List (Str × Str)) (news : List (Addr × Obj)) : Prop :=
  ∃ vs n k t, @LT.lt Nat _ dx x ∧ (x, lobj 109 dx vs.toArray n) ∈ news ∧ (dx, accD w k t) ∈ news ∧ PairsAre x news vs l
theorem acc_c46 (P : Params) : codeIn (frag.heap_1 P) (.ref 45) "_Accumulator.__init__" = true := by kernel_rfl
set_option maxRecDepth 100000 in
set_option maxHeartbeats 8000000 in
theorem acc_new {w : World} {mean : ExcName → Option Value} {mg mb : Str → Option Value} {news : List (Addr × Obj)} :
    Does w mean mg mb 650 1500 (.ref 109) [] news (fun r n' => ∃ x dx, r = .ref x ∧ PileIn w x dx [] n' ∧ (∀ p ∈ news, p ∈ n') ∧ (∀ p ∈ news, @LT.lt Nat _ p.1 dx)) := by
  refine does_of ?_
  k_fill
  intro ns g c mo lo gl ce qq fu co bu outer A₀ base h₀ L m s Q E B F X N T codeHd hret
  refine make_L (K := frag.heap_1 w.params) F N (X.keeps F.keep) (acc_makes _) (acc_init _) (acc_initT _) ?_
  intro x dx h1 F1 N1 l1 l2
  refine' ks_code_super (cc := 33) B F1 X N1 T ?kA ?kF ?kK ?k6 ?k7 ?k8 ?k9 ?kB ?_ ?c1 ?c2 ?c3 ?c4
  case kA => exact rfl
  case kF => exact rfl
  case kK => exact rfl
  case k6 => with_unfolding_all rfl
  case k7 => exact acc_c46 _
  case k8 => k_room
  case k9 => exact BindsTo.of_defaults (T := 38) rfl ((X.keeps F1.keep) 38 _ (by with_unfolding_all rfl)) rfl rfl rfl
  case kB => exact locs rfl
  case c1 => decide
  case c2 => exact rfl
  case c3 => exact rfl
  case c4 => exact rfl
  intro g2 L2 h2 FG2 F2 N2 B2 X2 T2 l3
  have hnx : ∀ p ∈ news, p.1 ≠ x := fun p hp => Nat.ne_of_lt (Nat.lt_trans (l1 p hp) l2)
  have hnd : ∀ p ∈ news, p.1 ≠ dx := fun p hp => Nat.ne_of_lt (l1 p hp)
  w_strict (
   repeat' (first | (fail_if_success (with_reducible show wpAny _ _ (pyIter _) _ _ _)
                     fail_if_success (with_reducible show wpAny _ _ (exec (Stmt.For _ _ _ _ _) _) _ _ _)
                     fail_if_success (with_reducible show wpAny _ _ (eval (Expr.ListComp _ _ _ _) _) _ _ _)
                     first | (k_unfold; (try dsimp only)) | (k_end; wrow_close) | walk1 | (dsimp only; walk1) | (leave1; walk_say "STEP leave1"; try dsimp only) | fail "no step")))
  refine set_firstL (K := frag.heap_1 w.params) (C := 109) (dx := dx) (its := #[]) (n := 0) (news' := fun t => (x, lobj 109 dx #[] 0) :: (dx, accD w t 253) :: news) F2 N2 (X2.keeps F2.keep) (.head _) (.tail _ (.head _)) (acc_setattr _) (acc_over _) (acc_taker _) (acc_dict _) (fun t => .tail (Nat.ne_of_gt l2) (.head hnd)) ?_
  intro t' h' k' F' N'
  dsimp only
  refine ks_wpAt_execs_cons ?_
  refine ks_wpAt_Expr_any ?_
  refine ks_wpAt_MethodCall ?_
  ((refine' ks_node (cc := 33) (D := 109) (C := 109) ?F ?X ?N ?T ?hf ?hp ?hv ?I ?hcode ?hvs ?hfile ?hcell ?hD ?hsub ?hsuper ?hat ?hks ?hkc ?hka ?hk ?htop ?hboot ?_; (case F => k_asm); (case X => k_asm); (case N => k_asm); (case T => k_asm); (case hf => with_unfolding_all rfl); (case hp => rfl); (case hv => rfl); (case I => exact instL (by k_asm) (by k_mem) (by k_mem)); (case hcode => with_unfolding_all rfl); (case hvs => rfl); (case hfile => first | rfl | decide +kernel); (case hcell => with_unfolding_all rfl); (case hD => with_unfolding_all rfl); (case hsub => with_unfolding_all rfl); (case hsuper => with_unfolding_all rfl); (case hat => decide); (case hks => rfl); (case hkc => rfl); (case hka => rfl); (case hk => rfl); (case htop => decide +kernel); (case hboot => first | boot_by_name | rfl | kernel_rfl)))
  intro so h3 F3 N3 l4
  refine superL (K := frag.heap_1 w.params) F3 X2 N3 (.head _) (instL N3 (by k_mem) (by k_mem)) (by with_unfolding_all rfl) (acc_sup_init _) ty_init wd_slot.lookup (by decide) (by with_unfolding_all rfl) (fun s' A' Q' E' hi hq => get_init s' A' Q' E' hi hq) ?_
  intro q h4 F4 N4 l5
  dsimp only
  refine callWith_bnd0 N4 (.head _) (by decide) (by decide) (by decide) ?_
  have hs1 : so ≠ x := Nat.ne_of_gt (l4 _ (.head _))
  have hs2 : q ≠ x := Nat.ne_of_gt (l5 _ (.tail _ (.head _)))
  have hs3 : dx ≠ x := Nat.ne_of_lt l2
  refine call_init (C := 109) (dx := dx) (n := 0) F4 N4 (.head _) (.tail _ (.tail _ (.head _))) (.tail hs2 (.tail hs1 (.head (List.forall_mem_cons.mpr ⟨hs3, hnx⟩)))) ?_
  intro h5 F5 N5
  dsimp only
  w_strict (
   repeat' (first | (fail_if_success (with_reducible show wpAny _ _ (pyIter _) _ _ _)
                     fail_if_success (with_reducible show wpAny _ _ (exec (Stmt.For _ _ _ _ _) _) _ _ _)
                     fail_if_success (with_reducible show wpAny _ _ (eval (Expr.ListComp _ _ _ _) _) _ _ _)
                     first | (k_unfold; (try dsimp only)) | (k_end; wrow_close) | walk1 | (dsimp only; walk1) | (leave1; walk_say "STEP leave1"; try dsimp only) | fail "no step")))
  exact hret _ _ _ _ (by assumption) (by assumption) ⟨x, dx, rfl, ⟨[], 0, t', 253, l2, .tail _ (.tail _ (.head _)), .tail _ (.tail _ (.tail _ (.head _))), .nil⟩, fun p hp => .tail _ (.tail _ (.tail _ (.tail _ hp))), l1⟩
theorem offLA3 : True := by
  w_top off
  exact True.intro
theorem PairsAre.mono {x : Addr} {news news' : List (Addr × Obj)} (hs : ∀ p ∈ news, p.1 ≠ x → p ∈ news') : ∀ {vs : List Value} {l : List (Str × Str)}, PairsAre x news vs l → PairsAre x news' vs l := by
  intro vs l h
  induction h with
  | nil => exact .nil
  | cons h1 h2 _ ih => exact .cons (hs _ h1 h2) h2 ih
theorem PairsAre.snoc {x : Addr} {news : List (Addr × Obj)} {D : Addr} {a b : Str} {t u : Tok} (hD : (D, tupOf [.str a t, .str b u]) ∈ news) (hn : D ≠ x) : ∀ {vs : List Value} {l : List (Str × Str)}, PairsAre x news vs l → PairsAre x news (vs ++ [.ref D]) (l ++ [(a, b)]) := by
  intro vs l h
  induction h with
  | nil => exact .cons hD hn .nil
  | cons h1 h2 _ ih => exact .cons h1 h2 ih
theorem PairsAre.length {x : Addr} {news : List (Addr × Obj)} : ∀ {vs : List Value} {l : List (Str × Str)}, PairsAre x news vs l → vs.length = l.length := by
  intro vs l h
  induction h with
  | nil => rfl
  | cons _ _ _ ih => simp [ih]
theorem PairsAre.unsnoc {x : Addr} {news : List (Addr × Obj)} {a b : Str} : ∀ {l : List (Str × Str)} {vs : List Value}, PairsAre x news vs (l ++ [(a, b)]) → ∃ vs' D t u, vs = vs' ++ [.ref D] ∧ (D, tupOf [.str a t, .str b u]) ∈ news ∧ D ≠ x ∧ PairsAre x news vs' l
  | [], vs, h => by
    cases h with
    | cons h1 h2 h3 => cases h3; exact ⟨[], _, _, _, rfl, h1, h2, .nil⟩
  | p :: l, vs, h => by
    cases h with
    | cons h1 h2 h3 =>
      obtain ⟨vs', D, t, u, rfl, e1, e2, e3⟩ := PairsAre.unsnoc h3
      exact ⟨_ :: vs', D, t, u, rfl, e1, e2, .cons h1 h2 e3⟩
theorem PileIn.mono {w : World} {x dx : Addr} {l : List (Str × Str)} {news news' : List (Addr × Obj)} (h : PileIn w x dx l news) (hs : ∀ p ∈ news, p ∈ news') : PileIn w x dx l news' := by
  obtain ⟨vs, n, k, t, h1, h2, h3, h4⟩ := h
  exact ⟨vs, n, k, t, h1, hs _ h2, hs _ h3, h4.mono fun p hp _ => hs p hp⟩
theorem acc_c105 (P : Params) : codeIn (frag.heap_1 P) (.ref 105) "_Accumulator.part_count" = true := by kernel_rfl
set_option maxRecDepth 100000 in
set_option maxHeartbeats 8000000 in
theorem acc_count {w : World} {mean : ExcName → Option Value} {mg mb : Str → Option Value} {x dx : Addr} {l : List (Str × Str)} {news : List (Addr × Obj)} (hP : PileIn w x dx l news) :
    Does w mean mg mb 660 1600 (.ref 106) [.ref x] news (fun r n' => (∃ t, r = .int (l.length : Int) t) ∧ ∀ p ∈ news, p ∈ n') := by
  obtain ⟨vs, n, k, t, h1, h2, h3, h4⟩ := hP
  have hlen := h4.length
  refine does_of ?_
  k_fill
  intro ns g c mo lo gl ce qq fu co bu outer A₀ base h₀ L m s Q E B F X N T codeHd hret
  refine' ks_code_super (cc := 33) B F X N T ?kA ?kF ?kK ?k6 ?k7 ?k8 ?k9 ?kB ?_ ?c1 ?c2 ?c3 ?c4
  case kA => exact rfl
  case kF => exact rfl
  case kK => exact rfl
  case k6 => with_unfolding_all rfl
  case k7 => exact acc_c105 _
  case k8 => k_room
  case k9 => exact BindsTo.of_eq rfl
  case kB => exact locs rfl
  case c1 => decide
  case c2 => exact rfl
  case c3 => exact rfl
  case c4 => exact rfl
  intro g2 L2 h2 FG2 F2 N2 B2 X2 T2 l3
  w_strict (
   repeat' (first | (fail_if_success (with_reducible show wpAny _ _ (pyIter _) _ _ _)
                     fail_if_success (with_reducible show wpAny _ _ (exec (Stmt.For _ _ _ _ _) _) _ _ _)
                     fail_if_success (with_reducible show wpAny _ _ (eval (Expr.ListComp _ _ _ _) _) _ _ _)
                     first | (k_unfold; (try dsimp only)) | (k_end; wrow_close) | walk1 | (dsimp only; walk1) | (leave1; walk_say "STEP leave1"; try dsimp only) | fail "no step")))
  ((refine' ks_node (cc := 33) (D := 109) (C := 109) ?F ?X ?N ?T ?hf ?hp ?hv ?I ?hcode ?hvs ?hfile ?hcell ?hD ?hsub ?hsuper ?hat ?hks ?hkc ?hka ?hk ?htop ?hboot ?_; (case F => k_asm); (case X => k_asm); (case N => k_asm); (case T => k_asm); (case hf => with_unfolding_all rfl); (case hp => rfl); (case hv => rfl); (case I => exact instL (by k_asm) (by k_mem) (by k_mem)); (case hcode => with_unfolding_all rfl); (case hvs => rfl); (case hfile => first | rfl | decide +kernel); (case hcell => with_unfolding_all rfl); (case hD => with_unfolding_all rfl); (case hsub => with_unfolding_all rfl); (case hsuper => with_unfolding_all rfl); (case hat => decide); (case hks => rfl); (case hkc => rfl); (case hka => rfl); (case hk => rfl); (case htop => decide +kernel); (case hboot => first | boot_by_name | rfl | kernel_rfl)))
  intro so h3 F3 N3 l4
  refine superL (K := frag.heap_1 w.params) F3 X2 N3 (.head _) (instL N3 (.tail _ ‹_ ∈ news›) (.tail _ ‹(dx, _) ∈ news›)) (by with_unfolding_all rfl) (acc_sup_len _) ty_len wd_slot.lookup (by decide) (by with_unfolding_all rfl) (fun s' A' Q' E' hi hq => get_len s' A' Q' E' hi hq) ?_
  intro q h4 F4 N4 l5
  refine callWith_bnd0 N4 (.head _) (by decide) (by decide) (by decide) ?_
  refine call_len (its := vs.toArray) N4 (.head _) (.tail _ (.tail _ ‹_ ∈ news›)) ?_
  have e : ((vs.toArray.size : Nat) : Int) = (l.length : Int) := by rw [List.size_toArray, hlen]
  rw [e]
  dsimp only
  w_strict (
   repeat' (first | (fail_if_success (with_reducible show wpAny _ _ (pyIter _) _ _ _)
                     fail_if_success (with_reducible show wpAny _ _ (exec (Stmt.For _ _ _ _ _) _) _ _ _)
                     fail_if_success (with_reducible show wpAny _ _ (eval (Expr.ListComp _ _ _ _) _) _ _ _)
                     first | (k_unfold; (try dsimp only)) | (k_end; wrow_close) | walk1 | (dsimp only; walk1) | (leave1; walk_say "STEP leave1"; try dsimp only) | fail "no step")))
  exact hret _ _ _ _ (by assumption) (by assumption) ⟨⟨_, rfl⟩, fun p hp => .tail _ (.tail _ hp)⟩
theorem offLA4 : True := by
  w_top off
  exact True.intro
theorem acc_c68 (P : Params) : codeIn (frag.heap_1 P) (.ref 68) "_Accumulator.pop" = true := by kernel_rfl
theorem acc_qual (P : Params) : (clsIn (frag.heap_1 P) 109).any (·.qualname == Str.ofString "_Accumulator") = true := by kernel_rfl
theorem acc_ty (P : Params) : typeIn (frag.heap_1 P) (.ref 109) = some (.type "type") := by kernel_rfl
theorem acc_nomod (P : Params) : subIn (frag.heap_1 P) (.ref 109) (.type "module") = some false := by kernel_rfl
set_option maxRecDepth 100000 in
set_option maxHeartbeats 8000000 in
theorem acc_pop {w : World} {mean : ExcName → Option Value} {mg mb : Str → Option Value} {x dx : Addr} {l : List (Str × Str)} {a b : Str} {news : List (Addr × Obj)} (hP : PileIn w x dx (l ++ [(a, b)]) news) (hl : l.length ≤ 1000) :
    Does w mean mg mb 650 1500 (.ref 69) [.ref x] news (fun r n' => (∃ D t u, r = .ref D ∧ (D, tupOf [.str a t, .str b u]) ∈ n') ∧ PileIn w x dx l n' ∧ ∀ p ∈ news, p.1 ≠ x → p ∈ n') := by
  have hP0 := hP
  obtain ⟨vs, n, k, t, o1, o2, o3, o4⟩ := hP
  obtain ⟨vs', D, ta, tb, rfl, o5, o6, o7⟩ := o4.unsnoc
  have hlen := o7.length
  refine does_of ?_
  k_fill
  intro ns g c mo lo gl ce qq fu co bu outer A₀ base h₀ L m s Q E B F X N T codeHd hret
  refine' ks_code_super (cc := 33) B F X N T ?kA ?kF ?kK ?k6 ?k7 ?k8 ?k9 ?kB ?_ ?c1 ?c2 ?c3 ?c4
  case kA => exact rfl
  case kF => exact rfl
  case kK => exact rfl
  case k6 => with_unfolding_all rfl
  case k7 => exact acc_c68 _
  case k8 => k_room
  case k9 => exact BindsTo.of_eq rfl
  case kB => exact locs rfl
  case c1 => decide
  case c2 => exact rfl
  case c3 => exact rfl
  case c4 => exact rfl
  intro g2 L2 h2 FG2 F2 N2 B2 X2 T2 l3
  w_strict (
   repeat' (first | (fail_if_success (with_reducible show wpAny _ _ (pyIter _) _ _ _)
                     fail_if_success (with_reducible show wpAny _ _ (exec (Stmt.For _ _ _ _ _) _) _ _ _)
                     fail_if_success (with_reducible show wpAny _ _ (eval (Expr.ListComp _ _ _ _) _) _ _ _)
                     first | ((first | with_reducible refine ks_wpAt_execs_cons ?_ | with_reducible refine ks_wpAt_Return_some ?_ | ((with_reducible show PySem.wpAt _ _ _ (eval (Expr.Call (Expr.Attribute (Expr.Call _ _ _ _) _ _) _ _ _) _) _ _ _); refine ks_wpAt_MethodCall ?_) | (dsimp only; with_reducible refine ks_wpAt_execs_cons ?_))) | ((((with_reducible show wpAny _ _ (getMethod (Value.ref _) _ _) _ _ _); refine' methodL (C := 109) ?X ?I (acc_ga _) (acc_nga _) (acc_fcount _) (looks_typeIn ?Y (acc_t106 _)) rfl ?hs ?_; (case X => exact Frag.In.keeps (by k_asm) (Fr.keep (by k_asm))); (case I => exact instL (by k_asm) (by k_mem) (by k_mem)); (case Y => exact Frag.In.keeps (by k_asm) (Fr.keep (by k_asm))); (case hs => rfl); try dsimp only))) | ((with_reducible show wpAny _ _ (call (Value.ref _) _ _) _ _ _); refine' Does.use (acc_count hP0) ?uA ?uD ?uU ?uF ?uK ?uB ?uR ?uX ?uN ?uT ?uC ?_; (case uA => exact rfl); (case uD => exact Nat.le_of_ble_eq_true rfl); (case uU => exact Nat.le_of_ble_eq_true rfl); (case uF => exact rfl); (case uK => exact rfl); (case uB => k_asm); (case uR => k_asm); (case uX => k_in); (case uN => k_asm); (case uT => k_asm); (case uC => k_asm); k_whole; intro r' n' h' tk' F' N' P'; (obtain ⟨⟨tr, e1⟩, hK1⟩ := P'; subst e1)) | (k_unfold; (try dsimp only)) | (k_end; wrow_close) | walk1 | (dsimp only; walk1) | (leave1; walk_say "STEP leave1"; try dsimp only) | fail "no step")))
  · exfalso
    have hz := (by assumption : ((l ++ [(a, b)]).length : Int) = 0)
    simp at hz
    omega
  · have m1 := hK1 _ o2
    have m2 := hK1 _ o3
    have m3 := hK1 _ o5
    have m7 := o7.mono (fun p hp _ => hK1 p hp)
    ((refine' ks_node (cc := 33) (D := 109) (C := 109) ?F ?X ?N ?T ?hf ?hp ?hv ?I ?hcode ?hvs ?hfile ?hcell ?hD ?hsub ?hsuper ?hat ?hks ?hkc ?hka ?hk ?htop ?hboot ?_; (case F => k_asm); (case X => k_asm); (case N => k_asm); (case T => k_asm); (case hf => with_unfolding_all rfl); (case hp => rfl); (case hv => rfl); (case I => exact instL (by k_asm) (by k_mem) (by k_mem)); (case hcode => with_unfolding_all rfl); (case hvs => rfl); (case hfile => first | rfl | decide +kernel); (case hcell => with_unfolding_all rfl); (case hD => with_unfolding_all rfl); (case hsub => with_unfolding_all rfl); (case hsuper => with_unfolding_all rfl); (case hat => decide); (case hks => rfl); (case hkc => rfl); (case hka => rfl); (case hk => rfl); (case htop => decide +kernel); (case hboot => first | boot_by_name | rfl | kernel_rfl)))
    intro so h3 F3 N3 l4
    refine superL (K := frag.heap_1 w.params) F3 X2 N3 (.head _) (instL N3 (.tail _ (hK1 _ o2)) (.tail _ (hK1 _ o3))) (by with_unfolding_all rfl) (acc_sup_pop _) PySem.F.type_list_pop md_slot.lookup (by decide) (by with_unfolding_all rfl) (fun s' A' Q' E' hi hq => get_pop s' A' Q' E' hi hq) ?_
    intro q h4 F4 N4 l5
    refine callWith_bnd0 N4 (.head _) (by decide) (by decide) (by decide) ?_
    have hso : so ≠ x := Nat.ne_of_gt (l4 _ m1)
    have hqx : q ≠ x := Nat.ne_of_gt (l5 _ (.tail _ m1))
    have hcx : ∀ p ∈ cut [x] n', p.1 ≠ x := cut_ne (.head _)
    refine call_pop (C := 109) (dx := dx) (news := (q, bndObj "builtin_function_or_method" "list.pop" x) :: (so, ks_superObj 109 x 109) :: (x, lobj 109 dx (vs' ++ [Value.ref D]).toArray n) :: cut [x] n') F4 (List.forall_mem_cons.mpr ⟨N4 _ (.head _), List.forall_mem_cons.mpr ⟨N4 _ (.tail _ (.head _)), List.forall_mem_cons.mpr ⟨N4 _ (.tail _ (.tail _ m1)), fun p hp => N4 _ (.tail _ (.tail _ (cut_sub p hp)))⟩⟩⟩) (.head _) (.tail _ (.tail _ (.head _))) ?hck (.tail hqx (.tail hso (.head hcx))) (by omega) ?_
    case hck =>
      obtain ⟨cd, hc1, hc2⟩ := any_some (acc_qual w.params)
      exact bc_pop (X2.keeps F4.keep) (instL N4 (.tail _ (.tail _ m1)) (.tail _ (.tail _ m2))) hc1 (eq_of_beq hc2) (acc_ty w.params) (acc_nomod w.params)
    intro h5 F5 N5
    dsimp only
    w_strict (
     repeat' (first | (fail_if_success (with_reducible show wpAny _ _ (pyIter _) _ _ _)
                       fail_if_success (with_reducible show wpAny _ _ (exec (Stmt.For _ _ _ _ _) _) _ _ _)
                       fail_if_success (with_reducible show wpAny _ _ (eval (Expr.ListComp _ _ _ _) _) _ _ _)
                       first | (k_unfold; (try dsimp only)) | (k_end; wrow_close) | walk1 | (dsimp only; walk1) | (leave1; walk_say "STEP leave1"; try dsimp only) | fail "no step")))
    have out : ∀ p ∈ n', p.1 ≠ x → p ∈ (q, bndObj "builtin_function_or_method" "list.pop" x) :: (so, ks_superObj 109 x 109) :: (x, lobj 109 dx vs'.toArray (n + 1)) :: cut [x] n' := fun p hp hn => .tail _ (.tail _ (.tail _ (mem_cut hp (by simpa using hn))))
    exact hret _ _ _ _ (by assumption) (by assumption) ⟨⟨D, ta, tb, rfl, out _ m3 o6⟩, ⟨vs', n + 1, k, t, o1, .tail _ (.tail _ (.head _)), out _ m2 (Nat.ne_of_lt o1), m7.mono out⟩, fun p hp hn => out p (hK1 p hp) hn⟩
theorem offLA5 : True := by
  w_top off
  exact True.intro
theorem acc_c52 (P : Params) : codeIn (frag.heap_1 P) (.ref 52) "_Accumulator.push" = true := by kernel_rfl
set_option maxRecDepth 100000 in
set_option maxHeartbeats 8000000 in
theorem acc_push {w : World} {mean : ExcName → Option Value} {mg mb : Str → Option Value} {x dx : Addr} {l : List (Str × Str)} {a b : Str} {t1 t2 : Tok} {news : List (Addr × Obj)} (hP : PileIn w x dx l news) (hl : l.length ≤ 1000) :
    Does w mean mg mb 650 1500 (.ref 53) [.ref x, .str a t1, .str b t2] news (fun r n' => r = .none ∧ PileIn w x dx (l ++ [(a, b)]) n' ∧ ∀ p ∈ news, p.1 ≠ x → p ∈ n') := by
  obtain ⟨vs, n, k, t, o1, o2, o3, o4⟩ := hP
  have hlen := o4.length
  refine does_of ?_
  w_strict (
   k_fill
   intro ns g c mo lo gl ce qq fu co bu outer A₀ base h₀ L m s Q E B F X N T codeHd hret
   k_dflt k_enter
   repeat' (first | (fail_if_success (with_reducible show wpAny _ _ (pyIter _) _ _ _)
                     fail_if_success (with_reducible show wpAny _ _ (exec (Stmt.For _ _ _ _ _) _) _ _ _)
                     fail_if_success (with_reducible show wpAny _ _ (eval (Expr.ListComp _ _ _ _) _) _ _ _)
                     first | ((((with_reducible show wpAny _ _ (getMethod (Value.ref _) _ _) _ _ _); refine' methodL (C := 109) ?X ?I (acc_ga _) (acc_nga _) (acc_fapp _) (Looks.of_pure PySem.F.type_list_append) rfl ?hs ?_; (case X => exact Frag.In.keeps (by k_asm) (Fr.keep (by k_asm))); (case I => exact instL (by k_asm) (by k_mem) (by k_mem)); (case hs => rfl); try dsimp only))) | (k_unfold; (try dsimp only)) | (k_end; wrow_close) | walk1 | (dsimp only; walk1) | (leave1; walk_say "STEP leave1"; try dsimp only) | fail "no step")))
  rename_i g2 L2 _ FG2 B2 X2 T2 D h3 F3 N3 l1
  have hDx : D ≠ x := Nat.ne_of_gt (l1 _ o2)
  have hcx : ∀ p ∈ cut [x] news, p.1 ≠ x := cut_ne (.head _)
  refine call_append (C := 109) (dx := dx) (its := vs) (n := n) (o := accD w k t) (news := (D, tupOf [.str a t1, .str b t2]) :: (x, lobj 109 dx vs.toArray n) :: cut [x] news) F3 (List.forall_mem_cons.mpr ⟨N3 _ (.head _), List.forall_mem_cons.mpr ⟨N3 _ (.tail _ o2), fun p hp => N3 _ (.tail _ (cut_sub p hp))⟩⟩) (X2.keeps F3.keep) (.tail _ (.head _)) (.tail _ (.tail _ (mem_cut o3 (by simpa using (Nat.ne_of_lt o1 : @Ne Nat dx x))))) (acc_sub _) (.tail hDx (.head hcx)) (by omega) ?_
  intro h5 F5 N5
  clear F3 N3
  dsimp only
  w_strict (
   repeat' (first | (fail_if_success (with_reducible show wpAny _ _ (pyIter _) _ _ _)
                     fail_if_success (with_reducible show wpAny _ _ (exec (Stmt.For _ _ _ _ _) _) _ _ _)
                     fail_if_success (with_reducible show wpAny _ _ (eval (Expr.ListComp _ _ _ _) _) _ _ _)
                     first | (k_unfold; (try dsimp only)) | (k_end; wrow_close) | walk1 | (dsimp only; walk1) | (leave1; walk_say "STEP leave1"; try dsimp only) | fail "no step")))
  have out : ∀ p ∈ news, p.1 ≠ x → p ∈ (D, tupOf [.str a t1, .str b t2]) :: (x, lobj 109 dx (vs ++ [Value.ref D]).toArray (n + 1)) :: cut [x] news := fun p hp hn => .tail _ (.tail _ (mem_cut hp (by simpa using hn)))
  exact hret _ _ _ _ (by assumption) (by assumption) ⟨rfl, ⟨_, n + 1, k, t, o1, .tail _ (.head _), out _ o3 (Nat.ne_of_lt o1), .snoc (.head _) hDx (o4.mono out)⟩, out⟩
theorem offPL1 : True := by
  w_top off
  exact True.intro
noncomputable def plFor : Stmt := nth (bodyOf (topN 15)) 2
theorem blanks_len : ∀ d, d ≤ 16 → (blanks d).length = d := by decide +kernel
theorem blanks_add : ∀ d, d ≤ 16 → blanks d ++ Str.ofString " " = blanks (d + 1) := by decide +kernel
set_option maxRecDepth 100000 in
set_option maxHeartbeats 8000000 in
theorem pile_turn {w : World} {mean : ExcName → Option Value} {mg mb : Str → Option Value} {nx : Int → Int → Int} {x dx sd L : Addr} {y p : Int} {d : Nat} {tv : Value} {l : List (Str × Str)} {t2 t3 : Tok} {s : Shared}
    {outer : List Env} {A₀ : Around} {base g h : Heap} {tk : Nat} {m : Str → Option Value} {tl : List (Addr × Obj)} {Q : Flow → Shared → Prop} {E : Value → Shared → Prop}
    (hP : PileIn w x dx (l ++ [(blanks d, ltr y)]) tl) (hS : StandsIn w.params nx sd tl) (hsd : sd ≠ x) (hy : 0 ≤ y ∧ y < 4) (hd15 : d ≤ 15) (hl : l.length ≤ 40) (hp : 0 ≤ p ∧ p < 32768)
    (B : Below A₀ base outer g) (T : Top topProg looseL mean mg mb g) (codeHd : CodeHd base 168 164)
    (F : Fr g L h (fun z => if z = Str.ofString "turn" then some tv else m z)) (N : News g L h tl)
    (h1 : m (Str.ofString "pile") = some (.ref x)) (h2 : m (Str.ofString "stands") = some (.ref sd)) (h3 : m (Str.ofString "steps") = some (.int 15 t2)) (h4 : m (Str.ofString "place") = some (.int p t3))
    (hQ1 : (2 : Int) ^ (15 - d) ≤ p → ∀ h' tk' m' n' t', Fr g L h' m' → m' (Str.ofString "pile") = some (.ref x) → m' (Str.ofString "stands") = some (.ref sd) → m' (Str.ofString "steps") = some (.int 15 t2) → m' (Str.ofString "place") = some (.int (p - 2 ^ (15 - d)) t') →
      News g L h' n' → PileIn w x dx l n' → (∀ q ∈ tl, q.1 ≠ x → q ∈ n') → Q .next { s with heap := h', toks := tk' })
    (hQ2 : p < (2 : Int) ^ (15 - d) → d = 15 → ∀ h' tk' m' n' D lp vs nn tt, Fr g L h' m' → News g L h' n' → (D, tupOf [.str (ltr y) tt, .ref lp]) ∈ n' → (lp, listOf vs.toArray nn) ∈ n' → PairsAre x n' vs l → (∀ q ∈ tl, q.1 ≠ x → q ∈ n') → Q (.ret (.ref D)) { s with heap := h', toks := tk' })
    (hQ3 : p < (2 : Int) ^ (15 - d) → d < 15 → ∀ h' tk' m' n', Fr g L h' m' → m' (Str.ofString "pile") = some (.ref x) → m' (Str.ofString "stands") = some (.ref sd) → m' (Str.ofString "steps") = some (.int 15 t2) → m' (Str.ofString "place") = some (.int p t3) →
      News g L h' n' → PileIn w x dx (l ++ [(blanks (d + 1), ltr (nx 1 y))] ++ [(blanks (d + 1), ltr (nx 0 y))]) n' → (∀ q ∈ tl, q.1 ≠ x → q ∈ n') → Q .next { s with heap := h', toks := tk' }) :
    (frag.heap_1 w.params).In g → wpAny (model Challenge.rw_ty0016_01.row.prog w) { handled := none, depth := 641, frames := some (envOf (Str.ofString "_law_pile") (scopeOf (topN 15)) L 191 (.ref 190) :: outer), guards := some [], units := 1403 }
      (execs (bodyOf plFor) (envOf (Str.ofString "_law_pile") (scopeOf (topN 15)) L 191 (.ref 190))) Q E { s with heap := h, toks := tk } := by
  have e1 : bodyOf plFor = [Stmt.Assign _ _ _, Stmt.Assign _ _ _, Stmt.If _ _ _ _] := rfl
  have e3 : scopeOf (topN 15) = Scope.mk _ _ _ _ _ := rfl
  rw [e1, e3]
  clear e1 e3
  have hbl := blanks_len d (by omega)
  have hba := blanks_add d (by omega)
  have e15 : (15 - ((blanks d).length : Int)).toNat = 15 - d := by rw [hbl]; omega
  have hP0 := hP
  obtain ⟨kt, vt, nd, hsm⟩ := hS
  have hf := stands_find w.params nx kt vt hy.1 hy.2
  obtain ⟨vs, n, k, t, o1, o2, o3, o4⟩ := hP
  k_fill
  intro X
  w_strict (
   repeat' (first | (fail_if_success (with_reducible show wpAny _ _ (pyIter _) _ _ _)
                     fail_if_success (with_reducible show wpAny _ _ (exec (Stmt.For _ _ _ _ _) _) _ _ _)
                     fail_if_success (with_reducible show wpAny _ _ (eval (Expr.ListComp _ _ _ _) _) _ _ _)
                     first | ((((with_reducible show wpAny _ _ (getMethod (Value.ref _) _ _) _ _ _); refine' methodL (C := 109) ?X ?I (acc_ga _) (acc_nga _) (acc_fpop _) (looks_typeIn ?Y (acc_t69 _)) rfl ?hs ?_; (case X => exact Frag.In.keeps (by k_asm) (Fr.keep (by k_asm))); (case I => exact instL (by k_asm) (by k_mem) (by k_mem)); (case Y => exact Frag.In.keeps (by k_asm) (Fr.keep (by k_asm))); (case hs => rfl); try dsimp only))) | ((with_reducible show wpAny _ _ (call (Value.ref _) _ _) _ _ _); refine' Does.use (acc_pop hP0 (by omega)) ?uA ?uD ?uU ?uF ?uK ?uB ?uR ?uX ?uN ?uT ?uC ?_; (case uA => exact rfl); (case uD => exact Nat.le_of_ble_eq_true rfl); (case uU => exact Nat.le_of_ble_eq_true rfl); (case uF => exact rfl); (case uK => exact rfl); (case uB => k_asm); (case uR => k_asm); (case uX => k_in); (case uN => k_asm); (case uT => k_asm); (case uC => k_asm); k_whole; intro r' n' h' tk' F' N' P'; (obtain ⟨⟨D, td, tu, e1, hD⟩, hP1, hK1⟩ := P'; subst e1; have hsm1 := hK1 _ hsm hsd; obtain ⟨vs1, n1, k1, t1, q1, q2, q3, q4⟩ := id hP1)) | ((((with_reducible show wpAny _ _ (getMethod (Value.ref _) _ _) _ _ _); refine' methodL (C := 109) ?X ?I (acc_ga _) (acc_nga _) (acc_fpush _) (looks_typeIn ?Y (acc_t53 _)) rfl ?hs ?_; (case X => exact Frag.In.keeps (by k_asm) (Fr.keep (by k_asm))); (case I => exact instL (by k_asm) (by k_mem) (by k_mem)); (case Y => exact Frag.In.keeps (by k_asm) (Fr.keep (by k_asm))); (case hs => rfl); try dsimp only))) | ((with_reducible show wpAny _ _ (call (Value.ref _) _ _) _ _ _); refine' Does.use (acc_push hP2 (by simp; omega)) ?uA ?uD ?uU ?uF ?uK ?uB ?uR ?uX ?uN ?uT ?uC ?_; (case uA => exact rfl); (case uD => exact Nat.le_of_ble_eq_true rfl); (case uU => exact Nat.le_of_ble_eq_true rfl); (case uF => exact rfl); (case uK => exact rfl); (case uB => k_asm); (case uR => k_asm); (case uX => k_in); (case uN => k_asm); (case uT => k_asm); (case uC => k_asm); k_whole; intro r' n' h' tk' F' N' P'; (obtain ⟨e1, hP3, hK3⟩ := P'; subst e1)) | ((with_reducible show wpAny _ _ (call (Value.ref _) _ _) _ _ _); refine' Does.use (acc_push hP1 (by omega)) ?uA ?uD ?uU ?uF ?uK ?uB ?uR ?uX ?uN ?uT ?uC ?_; (case uA => exact rfl); (case uD => exact Nat.le_of_ble_eq_true rfl); (case uU => exact Nat.le_of_ble_eq_true rfl); (case uF => exact rfl); (case uK => exact rfl); (case uB => k_asm); (case uR => k_asm); (case uX => k_in); (case uN => k_asm); (case uT => k_asm); (case uC => k_asm); k_whole; intro r' n' h' tk' F' N' P'; (obtain ⟨e1, hP2, hK2⟩ := P'; subst e1; have hsm2 := hK2 _ hsm1 hsd; obtain ⟨vs2, n2, k2, t2, r1, r2, r3, r4⟩ := id hP2)) | (k_unfold; (try dsimp only)) | (k_end; wrow_close) | walk1 | (dsimp only; walk1) | (leave1; walk_say "STEP leave1"; try dsimp only) | fail "no step")))
  · have hz := (by assumption : (2 : Int) ^ (15 - ((blanks d).length : Int)).toNat ≤ p)
    rename Fr _ _ _ _ => F9
    rename News _ _ _ _ => N9
    rw [e15] at hz F9
    refine hQ1 hz _ _ _ _ ?kt F9 ?ka ?kb ?kc ?kd N9 hP1 hK1
    case kd => walk_at "my.look"
    case ka => walk_at "my.look"
    case kb => walk_at "my.look"
    case kc => walk_at "my.look"
  · have hz := (by assumption : ¬ (2 : Int) ^ (15 - ((blanks d).length : Int)).toNat ≤ p)
    have hz1 := (by assumption : (2 : Int) ^ (15 - ((blanks d).length : Int)).toNat = 1)
    rename Fr _ _ _ _ => F9
    rename News _ _ _ _ => N9
    rw [e15] at hz hz1 F9
    have hd5 : d = 15 := by
      by_cases q : d = 15
      · exact q
      · exfalso
        have : d = 0 ∨ d = 1 ∨ d = 2 ∨ d = 3 ∨ d = 4 ∨ d = 5 ∨ d = 6 ∨ d = 7 ∨ d = 8 ∨ d = 9 ∨ d = 10 ∨ d = 11 ∨ d = 12 ∨ d = 13 ∨ d = 14 := cs15_n (by first | assumption | omega)
        rcases this with rfl | rfl | rfl | rfl | rfl | rfl | rfl | rfl | rfl | rfl | rfl | rfl | rfl | rfl | rfl <;> simp at hz1
    have hlv := q4.length
    refine eval_listcomp (cl := []) rfl rfl (by decide) ?_
    w_strict (
     repeat' (first | (fail_if_success (with_reducible show wpAny _ _ (pyIter _) _ _ _)
                       fail_if_success (with_reducible show wpAny _ _ (exec (Stmt.For _ _ _ _ _) _) _ _ _)
                       fail_if_success (with_reducible show wpAny _ _ (eval (Expr.ListComp _ _ _ _) _) _ _ _)
                       first | (k_unfold; (try dsimp only)) | (k_end; wrow_close) | walk1 | (dsimp only; walk1) | (leave1; walk_say "STEP leave1"; try dsimp only) | fail "no step")))
    refine comp_L (C₁ := 109) (dx := dx) (its := vs1) (nl := n1) (J := fun i vals nws => vals = vs1.take i ∧ ∀ q ∈ n', q ∈ nws) rfl (by decide) rfl rfl (X.keeps F9.keep) (acc_iter _) (acc_sub _) q2 q3 (by omega) F9 N9 ⟨rfl, fun _ h => h⟩ ?_ ?_
    · rintro C5 D5 I5 hI hID hDC i5 vals nws h5 tk5 oC oI mC nn v E5 hi5 hv5 ⟨j1, j2⟩ F6 N6 hO hne hm5
      clear F9 N9
      w_strict (
       repeat' (first | (fail_if_success (with_reducible show wpAny _ _ (pyIter _) _ _ _)
                         fail_if_success (with_reducible show wpAny _ _ (exec (Stmt.For _ _ _ _ _) _) _ _ _)
                         fail_if_success (with_reducible show wpAny _ _ (eval (Expr.ListComp _ _ _ _) _) _ _ _)
                         first | (k_unfold; (try dsimp only)) | (k_end; wrow_close) | walk1 | (dsimp only; walk1) | (leave1; walk_say "STEP leave1"; try dsimp only) | fail "no step")))
      refine ⟨_, _, nws, oC, _, rfl, F6, N6, hO, hne, fun p hp => by simp at hp; subst hp; exact hm5, ?_, j2⟩
      rw [List.take_add_one, hv5, j1]; rfl
    · rintro C5 D5 hD hDC vals nws h5 tk5 oC mC nn ⟨j1, j2⟩ hl5 F6 N6 hO hne
      clear F9 N9
      refine compPost_none F6 N6 hO hDC (fun p hp => (hne p hp).1) fun h3 F7 N7 => ?_
      w_strict (
       repeat' (first | (fail_if_success (with_reducible show wpAny _ _ (pyIter _) _ _ _)
                         fail_if_success (with_reducible show wpAny _ _ (exec (Stmt.For _ _ _ _ _) _) _ _ _)
                         fail_if_success (with_reducible show wpAny _ _ (eval (Expr.ListComp _ _ _ _) _) _ _ _)
                         first | (k_unfold; (try dsimp only)) | (k_end; wrow_close) | walk1 | (dsimp only; walk1) | (leave1; walk_say "STEP leave1"; try dsimp only) | fail "no step")))
      rename_i Dn h8 F8 N8 l8
      have hvv : vals = vs1 := by rw [j1, List.take_length]
      subst hvv
      exact hQ2 (by omega) hd5 _ _ _ _ Dn D5 vals nn tu F8 N8 (.head _) (.tail _ (.head _)) (q4.mono fun q hq _ => .tail _ (.tail _ (j2 q hq))) (fun q hq hn => .tail _ (.tail _ (j2 q (hK1 q hq hn))))
  · have hz := (by assumption : ¬ (2 : Int) ^ (15 - ((blanks d).length : Int)).toNat ≤ p)
    have hz1 := (by assumption : (2 : Int) ^ (15 - ((blanks d).length : Int)).toNat ≠ 1)
    rw [e15] at hz hz1
    rw [e15] at F'
    rw [hba] at hP3
    refine hQ3 (by omega) ?ka0 _ _ _ _ F' ?ka ?kb ?kc ?kd N' hP3 (fun q hq hn => hK3 _ (hK2 _ (hK1 q hq hn) hn) hn)
    case kd => walk_at "my.look"
    case ka => walk_at "my.look"
    case kb => walk_at "my.look"
    case kc => walk_at "my.look"
    case ka0 =>
      have : d ≠ 15 := fun e => hz1 (by rw [e]; rfl)
      omega
theorem offPL3 : True := by
  w_top off
  exact True.intro
noncomputable def prun (nx : Int → Int → Int) : Nat → List (Nat × Int) → Int → Option (Int × List (Nat × Int))
  | 0, _, _ => none
  | _ + 1, [], _ => none
  | f + 1, (d, y) :: S, p => if (2 : Int) ^ (15 - d) ≤ p then prun nx f S (p - 2 ^ (15 - d)) else if d = 15 then some (y, S) else prun nx f ((d + 1, nx 0 y) :: (d + 1, nx 1 y) :: S) p
theorem bits_sub : ∀ (k : Nat) (p e : Int), bitsOf (p - 2 ^ (k + e.toNat)) k = bitsOf p k
  | 0, _, _ => rfl
  | k + 1, p, e => by
    have ih := bits_sub k p (e.toNat + 1 : Nat)
    have e1 : k + (((e.toNat + 1 : Nat) : Int)).toNat = k + 1 + e.toNat := by omega
    rw [e1] at ih
    simp only [bitsOf, ih]
    congr 1
    have h2 : (2 : Int) ^ (k + 1 + e.toNat) = 2 ^ k * (2 * 2 ^ e.toNat) := by rw [Int.pow_add, Int.pow_add, Int.pow_succ, Int.pow_zero, Int.one_mul, Int.mul_assoc]
    have hk : (0 : Int) < 2 ^ k := Int.pow_pos (by decide)
    rw [h2, Int.sub_eq_add_neg, ← Int.mul_neg, Int.add_mul_ediv_left _ _ (Int.ne_of_gt hk)]
    omega
theorem prun_ok (nx : Int → Int → Int) : ∀ (k f d : Nat) (y : Int) (S : List (Nat × Int)) (p : Int), d + k = 15 → 2 * k + 1 ≤ f → 0 ≤ p → p < 2 ^ k →
    prun nx f ((d, y) :: S) p = some (wend nx y (bitsOf p k), (wbes nx (d + 1) y (bitsOf p k)).reverse ++ S)
  | 0, f + 1, d, y, S, p, hd, hf, h0, hp => by
    have hd5 : d = 15 := by omega
    subst hd5
    have hp0 : ¬ ((2 : Int) ^ (15 - 15) ≤ p) := by simp at hp ⊢; omega
    simp only [prun, if_neg hp0, if_true]
    rfl
  | k + 1, f + 1, d, y, S, p, hd, hf, h0, hp => by
    have e1 : 15 - d = k + 1 := by omega
    have hd5 : d ≠ 15 := by omega
    have hp0 : ¬ ((2 : Int) ^ (15 - d) ≤ p) := by rw [e1]; omega
    have hk : (0 : Int) < 2 ^ k := Int.pow_pos (by decide)
    have hk1 : (2 : Int) ^ (k + 1) = 2 * 2 ^ k := by rw [Int.pow_succ]; omega
    simp only [prun, if_neg hp0, if_neg hd5]
    by_cases hlo : p < 2 ^ k
    · have e2 : p / 2 ^ k = 0 := Int.ediv_eq_zero_of_lt h0 hlo
      rw [prun_ok nx k f (d + 1) (nx 0 y) _ p (by omega) (by omega) h0 hlo]
      simp [bitsOf, wend, wbes, e2]
    · obtain ⟨f', rfl⟩ : ∃ f', f = f' + 1 := ⟨f - 1, by omega⟩
      have e3 : 15 - (d + 1) = k := by omega
      have hp1 : (2 : Int) ^ (15 - (d + 1)) ≤ p := by rw [e3]; omega
      have e2 : p / 2 ^ k = 1 := by
        have : p = (p - 2 ^ k) + 2 ^ k * 1 := by omega
        rw [this, Int.add_mul_ediv_left _ _ (Int.ne_of_gt hk), Int.ediv_eq_zero_of_lt (by omega) (by omega)]; rfl
      have hb : bitsOf (p - 2 ^ k) k = bitsOf p k := by simpa using bits_sub k p 0
      simp only [prun]
      rw [if_pos hp1, e3, prun_ok nx k f' (d + 1) (nx 1 y) S (p - 2 ^ k) (by omega) (by omega) (by omega) (by omega), hb]
      simp [bitsOf, wend, wbes, e2]
  termination_by k => k
noncomputable def pl (S : List (Nat × Int)) : List (Str × Str) := (S.map fun q => (blanks q.1, ltr q.2)).reverse
theorem pl_cons (d : Nat) (y : Int) (S : List (Nat × Int)) : pl ((d, y) :: S) = pl S ++ [(blanks d, ltr y)] := by simp [pl]
theorem pl_len (S : List (Nat × Int)) : (pl S).length = S.length := by simp [pl]
theorem neI {g h : Heap} {L a I : Addr} {o ri : Obj} {n : List (Addr × Obj)} (N : News g L h n) (h1 : (a, o) ∈ n) (h2 : (I, ri) ∈ n) (hc : o.cls ≠ ri.cls) : a ≠ I := by
  rintro rfl
  have e := (N _ h1).1
  rw [(N _ h2).1] at e
  cases e
  exact hc rfl
theorem PairsAre.cutI {x I : Addr} {news : List (Addr × Obj)} (hs : ∀ D vs, (D, tupOf vs) ∈ news → D ≠ I) : ∀ {vs : List Value} {l : List (Str × Str)}, PairsAre x news vs l → PairsAre x (cut [I] news) vs l := by
  intro vs l h
  induction h with
  | nil => exact .nil
  | cons h1 h2 _ ih => exact .cons (mem_cut h1 (by simpa using hs _ _ h1)) h2 ih
theorem PileIn.cutI {w : World} {g h : Heap} {L x dx I : Addr} {l : List (Str × Str)} {n : List (Addr × Obj)} {ri : Obj} (N : News g L h n) (hI : (I, ri) ∈ n) (hc : ri.cls = .type "range_iterator") (hP : PileIn w x dx l n) : PileIn w x dx l (cut [I] n) := by
  obtain ⟨vs, k, t1, t2, h1, h2, h3, h4⟩ := hP
  exact ⟨vs, k, t1, t2, h1, mem_cut h2 (by simpa using neI N h2 hI (by rw [hc]; exact fun e => nomatch e)), mem_cut h3 (by simpa using neI N h3 hI (by rw [hc]; show Value.type "dict" ≠ _; decide)), h4.cutI fun D vs hD => neI N hD hI (by rw [hc]; show Value.type "tuple" ≠ _; decide)⟩
section
variable {prog : Program} {w : World} {A : Around} {E : Value → Shared → Prop} {s : Shared}
theorem for_range_loopC {env : Env} {x : Str} {px : Pos} {body : List Stmt} {g : Heap} {R : Result → Shared → Prop} {I : Addr} {a c : Int} {n : Nat} (J : Nat → (Str → Option Value) → List (Addr × Obj) → Prop)
    (hA : A.handled = none) (hk : env.scope.kind = .function) (hx : env.kindOf x = some .local)
    (turn : ∀ i m news h tk t' ri (E' : Value → Shared → Prop), i < n → J i m news → (∀ p ∈ news, p.1 ≠ I) → ri.cls = .type "range_iterator" → Fr g env.locals h (fun y => if y = x then some (.int (a + (i : Int) * c) t') else m y) → News g env.locals h ((I, ri) :: news) →
      wpAny (model prog w) A (execs body env) (rangeFlow g env.locals I ri (J (i + 1)) s R) E' { s with heap := h, toks := tk })
    (done : ∀ m news h tk, J n m news → Fr g env.locals h m → News g env.locals h news → R (.ok .next) { s with heap := h, toks := tk }) :
    ∀ k i m news h tk, i + k = n → J i m news → (∀ p ∈ news, p.1 ≠ I) → Fr g env.locals h m → News g env.locals h ((I, { cls := .type "range_iterator", dict := none, data := .fields #[rawInt (a + (i : Int) * c), rawInt (k : Int), rawInt c], slots := #[] }) :: news) →
      codeAny (model prog w) A (.forLoop (.Name x px) (.ref I) body [] env) R { s with heap := h, toks := tk } := by
  intro k
  induction k with
  | zero =>
    intro i m news h tk hi hJ hne F N
    refine for_step fun E' => ?_
    have hI := N _ (.head _)
    refine wpAny_pyNext_range_end hA hI.1 (by simp) fun h' hk' => ?_
    have hi' : i = n := by omega
    subst hi'
    have hb : ∀ b o, b ≠ I → h.get? b = some o → h'.get? b = some o := fun b o hb e => hk' b o hb e
    exact done m news h' tk hJ (frBut F hI.2.1 hI.2.2 hb) fun p hp => ⟨hb _ _ (hne p hp) (N p (.tail _ hp)).1, (N p (.tail _ hp)).2⟩
  | succ k ih =>
    intro i m news h tk hi hJ hne F N
    refine for_step fun E' => ?_
    have hI := N _ (.head _)
    refine wpAny_pyNext_range_item hI.1 (by omega) fun h' hI' hs' => ?_
    have hb : ∀ b o, b ≠ I → h.get? b = some o → h'.get? b = some o := fun b o hb e => (hs'.2 b hb).trans e
    have F1 := frBut F hI.2.1 hI.2.2 hb
    have N1 : News g env.locals h' ((I, _) :: news) := List.forall_mem_cons.mpr ⟨⟨hI', hI.2⟩, fun p hp => ⟨hb _ _ (hne p hp) (N p (.tail _ hp)).1, (N p (.tail _ hp)).2⟩⟩
    refine assign_local F1 N1 hk hx fun h2 F2 N2 => ?_
    refine wpAny_mono (turn i m news h2 _ _ _ E' (by omega) hJ hne rfl F2 N2) (fun f s₃ hf => ?_) fun _ _ e => e
    cases f with
    | ret v => exact hf
    | brk => exact hf
    | next =>
      obtain ⟨h3, tk3, m3, news3, rfl, F3, N3, hne3, hJ3⟩ := hf
      refine ih (i + 1) m3 news3 h3 tk3 (by omega) hJ3 hne3 F3 ?_
      have e1 : a + ((i + 1 : Nat) : Int) * c = a + (i : Int) * c + c := by rw [Int.natCast_add, Int.add_mul]; simp; omega
      have e2 : ((k + 1 : Nat) : Int) - 1 = (k : Int) := by omega
      rw [e2] at N3
      rw [e1]
      exact N3
    | cont =>
      obtain ⟨h3, tk3, m3, news3, rfl, F3, N3, hne3, hJ3⟩ := hf
      refine ih (i + 1) m3 news3 h3 tk3 (by omega) hJ3 hne3 F3 ?_
      have e1 : a + ((i + 1 : Nat) : Int) * c = a + (i : Int) * c + c := by rw [Int.natCast_add, Int.add_mul]; simp; omega
      have e2 : ((k + 1 : Nat) : Int) - 1 = (k : Int) := by omega
      rw [e2] at N3
      rw [e1]
      exact N3
theorem for_rangeC {env : Env} {x : Str} {px : Pos} {body : List Stmt} {g : Heap} {R : Result → Shared → Prop} {r : Addr} {a b c : Int} {t u v : Tok} {n : Nat} {m₀ : Str → Option Value} {news₀ : List (Addr × Obj)} (J : Nat → (Str → Option Value) → List (Addr × Obj) → Prop)
    (hA : A.handled = none) (hk : env.scope.kind = .function) (hx : env.kindOf x = some .local) (hr : IsRange s.heap r a b c t u v) (hsm : Builtin.Range.small a b c = true) (hn : Builtin.Range.rangeSize a b c = (n : Int))
    (F : Fr g env.locals s.heap m₀) (N : News g env.locals s.heap news₀) (h0 : J 0 m₀ news₀)
    (turn : ∀ I, (∀ p ∈ news₀, p.1 < I) → ∀ i m news h tk t' ri (E' : Value → Shared → Prop), i < n → J i m news → (∀ p ∈ news, p.1 ≠ I) → ri.cls = .type "range_iterator" → Fr g env.locals h (fun y => if y = x then some (.int (a + (i : Int) * c) t') else m y) → News g env.locals h ((I, ri) :: news) →
      wpAny (model prog w) A (execs body env) (rangeFlow g env.locals I ri (J (i + 1)) s R) E' { s with heap := h, toks := tk })
    (done : ∀ m news h tk, J n m news → Fr g env.locals h m → News g env.locals h news → R (.ok .next) { s with heap := h, toks := tk }) :
    wpAny (model prog w) A (pyIter (.ref r)) (fun it s₂ => codeAny (model prog w) A (.forLoop (.Name x px) it body [] env) R s₂) E s := by
  refine wpAny_pyIter_range hr hsm ?_
  have hlt : ∀ p ∈ news₀, p.1 < s.heap.objs.size := fun p hp => Heap.lt_size (N p hp).1
  refine for_range_loopC (s := s) (I := s.heap.objs.size) (a := a) (c := c) (n := n) J hA hk hx (turn s.heap.objs.size hlt) done n 0 m₀ news₀ _ s.toks (by omega) h0 (fun p hp => Nat.ne_of_lt (hlt p hp)) (F.push _) ?_
  have hh := N.push F { cls := .type "range_iterator", data := .fields #[rawInt a, rawInt (Builtin.Range.rangeSize a b c), rawInt c] }
  have e : a + ((0 : Nat) : Int) * c = a := by simp
  rw [e, ← hn]
  exact hh
end
theorem offPL4 : True := by
  w_top off
  exact True.intro
set_option maxRecDepth 100000 in
set_option maxHeartbeats 8000000 in
theorem law_pile {w : World} {mean : ExcName → Option Value} {mg mb : Str → Option Value} {nx : Int → Int → Int} {sd : Addr} {x0 pc : Int} {tx t15 tp : Tok} {news : List (Addr × Obj)} (hS : StandsIn w.params nx sd news)
    (hnx : ∀ b y, 0 ≤ y → y < 4 → 0 ≤ nx b y ∧ nx b y < 4) (hx0 : 0 ≤ x0 ∧ x0 < 4) (hpc : 0 ≤ pc ∧ pc < 32768) :
    Does w mean mg mb 640 1400 (.ref 191) [.ref sd, .str (ltr x0) tx, .int 15 t15, .int pc tp] news (fun r n' => (∃ D lp vs nn tt x, r = .ref D ∧ (D, tupOf [.str (ltr (wend nx x0 (bitsOf pc 15))) tt, .ref lp]) ∈ n' ∧ (lp, listOf vs.toArray nn) ∈ n' ∧ PairsAre x n' vs ((wbes nx 1 x0 (bitsOf pc 15)).map fun q => (blanks q.1, ltr q.2))) ∧ ∀ q ∈ news, q ∈ n') := by
  refine does_of ?_
  w_strict (
   k_fill
   intro ns g c mo lo gl ce qq fu co bu outer A₀ base h₀ L m s Q E B F X N T codeHd hret
   k_dflt k_enter
   repeat' (first | (fail_if_success (with_reducible show wpAny _ _ (pyIter _) _ _ _)
                     fail_if_success (with_reducible show wpAny _ _ (exec (Stmt.For _ _ _ _ _) _) _ _ _)
                     fail_if_success (with_reducible show wpAny _ _ (eval (Expr.ListComp _ _ _ _) _) _ _ _)
                     first | ((with_reducible show wpAny _ _ (call (Value.ref _) _ _) _ _ _); refine' Does.use (acc_new) ?uA ?uD ?uU ?uF ?uK ?uB ?uR ?uX ?uN ?uT ?uC ?_; (case uA => exact rfl); (case uD => exact Nat.le_of_ble_eq_true rfl); (case uU => exact Nat.le_of_ble_eq_true rfl); (case uF => exact rfl); (case uK => exact rfl); (case uB => k_asm); (case uR => k_asm); (case uX => k_in); (case uN => k_asm); (case uT => k_asm); (case uC => k_asm); k_whole; intro r' n' h' tk' F' N' P'; (obtain ⟨x, dx, e1, hP1, hK1, hlt1⟩ := P'; subst e1; obtain ⟨vs1, n1, k1, t1, q1, q2, q3, q4⟩ := id hP1)) | ((((with_reducible show wpAny _ _ (getMethod (Value.ref _) _ _) _ _ _); refine' methodL (C := 109) ?X ?I (acc_ga _) (acc_nga _) (acc_fpush _) (looks_typeIn ?Y (acc_t53 _)) rfl ?hs ?_; (case X => exact Frag.In.keeps (by k_asm) (Fr.keep (by k_asm))); (case I => exact instL (by k_asm) (by k_mem) (by k_mem)); (case Y => exact Frag.In.keeps (by k_asm) (Fr.keep (by k_asm))); (case hs => rfl); try dsimp only))) | ((with_reducible show wpAny _ _ (call (Value.ref _) _ _) _ _ _); refine' Does.use (acc_push hP1 (Nat.zero_le _)) ?uA ?uD ?uU ?uF ?uK ?uB ?uR ?uX ?uN ?uT ?uC ?_; (case uA => exact rfl); (case uD => exact Nat.le_of_ble_eq_true rfl); (case uU => exact Nat.le_of_ble_eq_true rfl); (case uF => exact rfl); (case uK => exact rfl); (case uB => k_asm); (case uR => k_asm); (case uX => k_in); (case uN => k_asm); (case uT => k_asm); (case uC => k_asm); k_whole; intro r' n' h' tk' F' N' P'; (obtain ⟨e1, hP2, hK2⟩ := P'; subst e1)) | (k_unfold; (try dsimp only)) | (k_end; wrow_close) | walk1 | (dsimp only; walk1) | (leave1; walk_say "STEP leave1"; try dsimp only) | fail "no step")))
  refine wpAny_For ?_
  w_strict (
   repeat' (first | (fail_if_success (with_reducible show wpAny _ _ (pyIter _) _ _ _)
                     fail_if_success (with_reducible show wpAny _ _ (exec (Stmt.For _ _ _ _ _) _) _ _ _)
                     fail_if_success (with_reducible show wpAny _ _ (eval (Expr.ListComp _ _ _ _) _) _ _ _)
                     first | (k_unfold; (try dsimp only)) | (k_end; wrow_close) | walk1 | (dsimp only; walk1) | (leave1; walk_say "STEP leave1"; try dsimp only) | fail "no step")))
  rename_i g2 L2 h7 FG2 B1 X1 T1 n7 h8 tk7 h9 F9 N9 F10 N10 h10 tk10 ta tb tc hR1 F3 N3 hk3
  have hxn : ∀ q ∈ news, q.1 ≠ x := fun q hq => Nat.ne_of_lt (Nat.lt_trans (hlt1 q hq) q1)
  obtain ⟨kt, vt, nd, hsm⟩ := hS
  have hsx : sd ≠ x := hxn _ hsm
  have hgoal := prun_ok nx 15 31 0 x0 [] pc rfl (by decide) hpc.1 (by simpa using hpc.2)
  refine for_rangeC (n := 31) (fun i m' n' => ∃ S p tp', m' (Str.ofString "pile") = some (.ref x) ∧ m' (Str.ofString "stands") = some (.ref sd) ∧ m' (Str.ofString "steps") = some (.int 15 t15) ∧ m' (Str.ofString "place") = some (.int p tp') ∧
    PileIn w x dx (pl S) n' ∧ (∀ q ∈ news, q ∈ n') ∧ (0 ≤ p ∧ p < 32768) ∧ (∀ q ∈ S, q.1 ≤ 15 ∧ 0 ≤ q.2 ∧ q.2 < 4) ∧ S.length ≤ i + 1 ∧ prun nx (31 - i) S p = prun nx 31 [(0, x0)] pc) rfl rfl rfl hR1 (by decide +kernel) (by decide +kernel) F3 N3 ?_ ?_ ?_
  · refine ⟨[(0, x0)], pc, tp, by walk_at "my.look", by walk_at "my.look", by walk_at "my.look", by walk_at "my.look", hP2, fun q hq => hK2 _ (hK1 q hq) (hxn q hq), hpc, ?_, Nat.le_refl _, rfl⟩
    intro q hq
    simp at hq
    subst hq
    exact ⟨Nat.zero_le _, hx0⟩
  · rintro I hI i m1 n1 h1 tk t' ri E' hi ⟨S, p, tp', j1, j2, j3, j4, j5, j6, j7, j8, j9, j10⟩ hne hri F4 N4
    obtain ⟨f, hf⟩ : ∃ f, 31 - i = f + 1 := ⟨30 - i, by omega⟩
    have hf' : 31 - (i + 1) = f := by omega
    cases S with
    | nil => rw [hf, hgoal] at j10; cases j10
    | cons q S =>
      obtain ⟨d, y⟩ := q
      have b1 := j8 _ (.head _)
      have b2 : ∀ q ∈ S, q.1 ≤ 15 ∧ 0 ≤ q.2 ∧ q.2 < 4 := fun q hq => j8 q (.tail _ hq)
      rw [pl_cons] at j5
      simp only at b1
      have hl9 : S.length + 1 ≤ i + 1 := j9
      have hII : I ≠ x := fun e => by
        obtain ⟨vs, n, k, t, o1, o2, _⟩ := j5
        exact hne _ o2 e.symm
      have hkeep : ∀ n' : List (Addr × Obj), (∀ q ∈ (I, ri) :: n1, q.1 ≠ x → q ∈ n') → ∀ q ∈ news, q ∈ cut [I] n' := fun n' hk q hq => mem_cut (hk q (.tail _ (j6 q hq)) (hxn q hq)) (by simpa using hne q (j6 q hq))
      refine pile_turn (nx := nx) (j5.mono fun _ h => .tail _ h) ⟨kt, vt, nd, .tail _ (j6 _ hsm)⟩ hsx b1.2 b1.1 (by rw [pl_len]; omega) j7 B1 T1 codeHd F4 N4 j1 j2 j3 j4 ?_ ?_ ?_ X1
      · intro hz h' tk' m' n' t' F5 e1 e2 e3 e4 N5 hP5 hK5
        have hIn := hK5 _ (.head _) hII
        refine REnd.of F5 (news' := cut [I] n') (List.forall_mem_cons.mpr ⟨N5 _ hIn, fun p hp => N5 p (cut_sub p hp)⟩) (cut_ne (.head _)) ⟨S, p - 2 ^ (15 - d), t', e1, e2, e3, e4, hP5.cutI N5 hIn hri, hkeep n' hK5, ?_, b2, by omega, ?_⟩
        · have : (0 : Int) < 2 ^ (15 - d) := Int.pow_pos (by decide)
          omega
        · rw [hf', ← j10, hf]
          simp only [prun, if_pos hz]
      · intro hz hd h' tk' m' n' D lp vs nn tt F5 N5 hD hl hpa hK5
        have hr : prun nx (31 - i) ((d, y) :: S) p = some (y, S) := by
          rw [hf]; simp only [prun]; rw [if_neg (by omega), if_pos hd]
        rw [hr, hgoal] at j10
        injection j10 with j10
        injection j10 with ey eS
        subst ey eS
        unfold rangeFlow
        dsimp only
        clear F3 N3 F4 N4 F9 N9 F10 N10
        w_strict (
         repeat' (first | (fail_if_success (with_reducible show wpAny _ _ (pyIter _) _ _ _)
                           fail_if_success (with_reducible show wpAny _ _ (exec (Stmt.For _ _ _ _ _) _) _ _ _)
                           fail_if_success (with_reducible show wpAny _ _ (eval (Expr.ListComp _ _ _ _) _) _ _ _)
                           first | (k_unfold; (try dsimp only)) | (k_end; wrow_close) | walk1 | (dsimp only; walk1) | (leave1; walk_say "STEP leave1"; try dsimp only) | fail "no step")))
        have epl : pl ((wbes nx (0 + 1) x0 (bitsOf pc 15)).reverse ++ []) = (wbes nx 1 x0 (bitsOf pc 15)).map fun q => (blanks q.1, ltr q.2) := by simp [pl]
        rw [epl] at hpa
        exact hret _ _ _ _ (by assumption) (by assumption) ⟨⟨D, lp, vs, nn, tt, x, rfl, hD, hl, hpa⟩, fun q hq => hK5 _ (.tail _ (j6 q hq)) (hxn q hq)⟩
      · intro hz hd h' tk' m' n' F5 e1 e2 e3 e4 N5 hP5 hK5
        have hIn := hK5 _ (.head _) hII
        refine REnd.of F5 (news' := cut [I] n') (List.forall_mem_cons.mpr ⟨N5 _ hIn, fun p hp => N5 p (cut_sub p hp)⟩) (cut_ne (.head _)) ⟨(d + 1, nx 0 y) :: (d + 1, nx 1 y) :: S, p, tp', e1, e2, e3, e4, ?_, hkeep n' hK5, j7, ?_, by simp only [List.length_cons]; omega, ?_⟩
        · rw [pl_cons, pl_cons]
          exact hP5.cutI N5 hIn hri
        · exact List.forall_mem_cons.mpr ⟨⟨by show d + 1 ≤ 15; omega, hnx 0 y b1.2.1 b1.2.2⟩, List.forall_mem_cons.mpr ⟨⟨by show d + 1 ≤ 15; omega, hnx 1 y b1.2.1 b1.2.2⟩, b2⟩⟩
        · rw [hf', ← j10, hf]
          simp only [prun]
          rw [if_neg (by omega : ¬ (2 : Int) ^ (15 - d) ≤ p), if_neg (by omega : d ≠ 15)]
  · rintro m1 n1 h1 tk ⟨S, p, tp', j1, j2, j3, j4, j5, j6, j7, j8, j9, j10⟩ F4 N4
    rw [hgoal] at j10
    cases j10
theorem offPF1 : True := by
  w_top off
  exact True.intro
noncomputable def pfFor : Stmt := nth (bodyOf (topN 3)) 1
noncomputable abbrev fg (i : Nat) : Int := 1 * 2 ^ ((i : Int)).toNat
/-- the name of a flag -/
noncomputable def nmS (i : Nat) : Str := if fg i = 1 then Str.ofString "OPTIMIZED" else if fg i = 2 then Str.ofString "NEWLOCALS" else if fg i = 4 then Str.ofString "VARARGS" else if fg i = 8 then Str.ofString "VARKEYWORDS" else if fg i = 16 then Str.ofString "NESTED" else if fg i = 32 then Str.ofString "GENERATOR" else if fg i = 64 then Str.ofString "NOFREE" else if fg i = 128 then Str.ofString "COROUTINE" else if fg i = 256 then Str.ofString "ITERABLE_COROUTINE" else if fg i = 512 then Str.ofString "ASYNC_GENERATOR" else  baseText "0x" 16 (fg i)
set_option maxRecDepth 100000 in
set_option maxHeartbeats 8000000 in
theorem pf_turn {w : World} {mean : ExcName → Option Value} {mg mb : Str → Option Value} {nl L I : Addr} {fl : Int} {i : Nat} {t1 t2 : Tok} {s : Shared} {vs : List Value} {nn : Nat} {ri : Obj}
    {outer : List Env} {A₀ : Around} {base g h : Heap} {tk : Nat} {m : Str → Option Value} {tl : List (Addr × Obj)} {Q : Flow → Shared → Prop} {E : Value → Shared → Prop}
    (hi : i < 16) (hfl : 0 ≤ fl ∧ fl < 65536) (hvs : vs.length ≤ 32) (hne : ∀ p ∈ tl, p.1 ≠ nl) (hI : @LT.lt Nat _ nl I)
    (B : Below A₀ base outer g) (T : Top topProg looseL mean mg mb g) (codeHd : CodeHd base 168 164)
    (F : Fr g L h (fun z => if z = Str.ofString "i" then some (.int (i : Int) t1) else m z)) (N : News g L h ((I, ri) :: (nl, listOf vs.toArray nn) :: tl))
    (h1 : m (Str.ofString "names") = some (.ref nl)) (h2 : m (Str.ofString "flags") = some (.int fl t2))
    (hQ1 : Builtin.bitAnd fl (fg i) = 0 → ∀ h' tk' m', Fr g L h' m' → m' (Str.ofString "names") = some (.ref nl) → m' (Str.ofString "flags") = some (.int fl t2) → News g L h' ((I, ri) :: (nl, listOf vs.toArray nn) :: tl) → Q .next { s with heap := h', toks := tk' })
    (hQ2 : Builtin.bitAnd fl (fg i) ≠ 0 → Builtin.bitXor fl (fg i) ≠ 0 → ∀ h' tk' m', Fr g L h' m' → m' (Str.ofString "names") = some (.ref nl) → (∃ t9, m' (Str.ofString "flags") = some (.int (Builtin.bitXor fl (fg i)) t9)) → (∃ t, News g L h' ((I, ri) :: (nl, listOf (vs ++ [Value.str (nmS i) t]).toArray (nn + 1)) :: tl)) → Q .next { s with heap := h', toks := tk' })
    (hQ3 : Builtin.bitAnd fl (fg i) ≠ 0 → Builtin.bitXor fl (fg i) = 0 → ∀ h' tk' m', Fr g L h' m' → m' (Str.ofString "names") = some (.ref nl) → (∃ t9, m' (Str.ofString "flags") = some (.int (Builtin.bitXor fl (fg i)) t9)) → (∃ t, News g L h' ((I, ri) :: (nl, listOf (vs ++ [Value.str (nmS i) t]).toArray (nn + 1)) :: tl)) → Q .brk { s with heap := h', toks := tk' }) :
    (frag.heap_1 w.params).In g → wpAny (model Challenge.rw_ty0016_01.row.prog w) { handled := none, depth := 641, frames := some (envOf (Str.ofString "pretty_flags") (scopeOf (topN 3)) L 29 (.ref 28) :: outer), guards := some [], units := 1403 }
      (execs (bodyOf pfFor) (envOf (Str.ofString "pretty_flags") (scopeOf (topN 3)) L 29 (.ref 28))) Q E { s with heap := h, toks := tk } := by
  have e1 : bodyOf pfFor = [Stmt.Assign _ _ _, Stmt.If _ _ _ _] := rfl
  have e3 : scopeOf (topN 3) = Scope.mk _ _ _ _ _ := rfl
  rw [e1, e3]
  clear e1 e3
  have hxs : (baseText "0x" 16 (1 * 2 ^ ((i : Int)).toNat)).length ≤ sizeLine := by
    have : ∀ j : Nat, j < 16 → (baseText "0x" 16 (1 * 2 ^ ((j : Int)).toNat)).length ≤ 100 := by decide +kernel
    have := this i hi
    rw [sizeLine_eq]; omega
  k_fill
  intro X
  w_strict (
   repeat' (first | (fail_if_success (with_reducible show wpAny _ _ (pyIter _) _ _ _)
                     fail_if_success (with_reducible show wpAny _ _ (exec (Stmt.For _ _ _ _ _) _) _ _ _)
                     fail_if_success (with_reducible show wpAny _ _ (eval (Expr.ListComp _ _ _ _) _) _ _ _)
                     first | ((with_reducible show wpAny _ _ (call (Value.builtin _) [Value.int _ _]) _ _ _); refine PySem.P.hex_of_int ?_ hxs) | (k_unfold; (try dsimp only)) | (k_end; wrow_close) | walk1 | (dsimp only; walk1) | (leave1; walk_say "STEP leave1"; try dsimp only) | fail "no step")))
  all_goals rename Fr _ _ _ _ => F9
  all_goals rename News _ _ _ _ => N9
  all_goals first
    | exact hQ1 (by assumption) _ _ _ F9 (by walk_at "my.look") (by walk_at "my.look") N9
    | (rw [List.push_toArray] at N9
       refine hQ2 (by assumption) (by assumption) _ _ _ F9 (by walk_at "my.look") (by exact ⟨_, by walk_at "my.look"⟩) (by exact ⟨_, by (unfold nmS; (repeat (first | rw [if_pos (by assumption)] | rw [if_neg (by assumption)])); exact N9)⟩))
    | (show Q Flow.brk _
       rw [List.push_toArray] at N9
       refine hQ3 (by assumption) (by assumption) _ _ _ F9 (by walk_at "my.look") (by exact ⟨_, by walk_at "my.look"⟩) (by exact ⟨_, by (unfold nmS; (repeat (first | rw [if_pos (by assumption)] | rw [if_neg (by assumption)])); exact N9)⟩))
theorem offPF2 : True := by
  w_top off
  exact True.intro
section
variable {prog : Program} {w : World} {A : Around} {E : Value → Shared → Prop} {s : Shared}
theorem for_stepB {R : Result → Shared → Prop} {target : Expr} {it : Value} {body orelse : List Stmt} {env : Env}
    (turn : ∀ E' : Value → Shared → Prop, wpAny (model prog w) A (pyNext it) (fun r s₁ => match r with
      | none => False
      | some v => wpAny (model prog w) A (assign target env v) (fun _ s₂ => wpAny (model prog w) A (execs body env) (fun f s₃ => match f with
          | .ret v => R (.ok (.ret v)) s₃
          | .brk => R (.ok .next) s₃
          | _ => codeAny (model prog w) A (.forLoop target it body orelse env) R s₃) E' s₂) E' s₁) E' s)
    (ht : ∀ v, letOwnedTupleGo target it v = pure () := by intro _; rfl) : codeAny (model prog w) A (.forLoop target it body orelse env) R s := by
  refine codeAny_of_tree ?_
  show wpAny _ A ((forTurn target it body orelse env).onRaise (fun x => do noteFrame x env; theTreesLotGoes x)) _ _ s
  refine wpAny_noted ?_
  simp only [forTurn]
  refine wpAny_bind (wpAny_standAt (wpAny_bind (wpAny_onRaise (wpAny_mono (turn _) (fun r s₁ h₁ => ?_) fun _ _ h' => wpAny_standAt h'))))
  cases r with
  | none => exact h₁.elim
  | some v =>
    refine wpAny_bind (wpAny_of_eq (ht v) ?_)
    refine wpAny_bind (wpAny_mono h₁ (fun _ s₂ h₂ => wpAny_bind (wpAny_mono h₂ (fun f s₃ h₃ => ?_) fun _ _ h' => h')) fun _ _ h' => h')
    cases f with
    | next => exact wpAny_pure ⟨rfl, h₃⟩
    | cont => exact wpAny_pure ⟨rfl, h₃⟩
    | brk => exact wpAny_pure h₃
    | ret v => exact wpAny_pure h₃
theorem for_range_loopB {env : Env} {x : Str} {px : Pos} {body orelse : List Stmt} {g : Heap} {R : Result → Shared → Prop} {I : Addr} {a c : Int} {n : Nat} (J : Nat → (Str → Option Value) → List (Addr × Obj) → Prop)
    (hA : A.handled = none) (hk : env.scope.kind = .function) (hx : env.kindOf x = some .local)
    (turn : ∀ i m news h tk t' ri (E' : Value → Shared → Prop), i < n → J i m news → (∀ p ∈ news, p.1 ≠ I) → Fr g env.locals h (fun y => if y = x then some (.int (a + (i : Int) * c) t') else m y) → News g env.locals h ((I, ri) :: news) →
      wpAny (model prog w) A (execs body env) (rangeFlow g env.locals I ri (J (i + 1)) s R) E' { s with heap := h, toks := tk })
    (done : ∀ m news, ¬ J n m news) :
    ∀ k i m news h tk, i + k = n → J i m news → (∀ p ∈ news, p.1 ≠ I) → Fr g env.locals h m → News g env.locals h ((I, { cls := .type "range_iterator", dict := none, data := .fields #[rawInt (a + (i : Int) * c), rawInt (k : Int), rawInt c], slots := #[] }) :: news) →
      codeAny (model prog w) A (.forLoop (.Name x px) (.ref I) body orelse env) R { s with heap := h, toks := tk } := by
  intro k
  induction k with
  | zero =>
    intro i m news h tk hi hJ hne F N
    refine for_stepB fun E' => ?_
    have hI := N _ (.head _)
    refine wpAny_pyNext_range_end hA hI.1 (by simp) fun h' hk' => ?_
    have hi' : i = n := by omega
    subst hi'
    exact done _ _ hJ
  | succ k ih =>
    intro i m news h tk hi hJ hne F N
    refine for_stepB fun E' => ?_
    have hI := N _ (.head _)
    refine wpAny_pyNext_range_item hI.1 (by omega) fun h' hI' hs' => ?_
    have hb : ∀ b o, b ≠ I → h.get? b = some o → h'.get? b = some o := fun b o hb e => (hs'.2 b hb).trans e
    have F1 := frBut F hI.2.1 hI.2.2 hb
    have N1 : News g env.locals h' ((I, _) :: news) := List.forall_mem_cons.mpr ⟨⟨hI', hI.2⟩, fun p hp => ⟨hb _ _ (hne p hp) (N p (.tail _ hp)).1, (N p (.tail _ hp)).2⟩⟩
    refine assign_local F1 N1 hk hx fun h2 F2 N2 => ?_
    refine wpAny_mono (turn i m news h2 _ _ _ E' (by omega) hJ hne F2 N2) (fun f s₃ hf => ?_) fun _ _ e => e
    cases f with
    | ret v => exact hf
    | brk => exact hf
    | next =>
      obtain ⟨h3, tk3, m3, news3, rfl, F3, N3, hne3, hJ3⟩ := hf
      refine ih (i + 1) m3 news3 h3 tk3 (by omega) hJ3 hne3 F3 ?_
      have e1 : a + ((i + 1 : Nat) : Int) * c = a + (i : Int) * c + c := by rw [Int.natCast_add, Int.add_mul]; simp; omega
      have e2 : ((k + 1 : Nat) : Int) - 1 = (k : Int) := by omega
      rw [e2] at N3
      rw [e1]
      exact N3
    | cont =>
      obtain ⟨h3, tk3, m3, news3, rfl, F3, N3, hne3, hJ3⟩ := hf
      refine ih (i + 1) m3 news3 h3 tk3 (by omega) hJ3 hne3 F3 ?_
      have e1 : a + ((i + 1 : Nat) : Int) * c = a + (i : Int) * c + c := by rw [Int.natCast_add, Int.add_mul]; simp; omega
      have e2 : ((k + 1 : Nat) : Int) - 1 = (k : Int) := by omega
      rw [e2] at N3
      rw [e1]
      exact N3
theorem for_rangeB {env : Env} {x : Str} {px : Pos} {body orelse : List Stmt} {g : Heap} {R : Result → Shared → Prop} {r : Addr} {a b c : Int} {t u v : Tok} {n : Nat} {m₀ : Str → Option Value} {news₀ : List (Addr × Obj)} (J : Nat → (Str → Option Value) → List (Addr × Obj) → Prop)
    (hA : A.handled = none) (hk : env.scope.kind = .function) (hx : env.kindOf x = some .local) (hr : IsRange s.heap r a b c t u v) (hsm : Builtin.Range.small a b c = true) (hn : Builtin.Range.rangeSize a b c = (n : Int))
    (F : Fr g env.locals s.heap m₀) (N : News g env.locals s.heap news₀) (h0 : J 0 m₀ news₀)
    (turn : ∀ I, (∀ p ∈ news₀, p.1 < I) → ∀ i m news h tk t' ri (E' : Value → Shared → Prop), i < n → J i m news → (∀ p ∈ news, p.1 ≠ I) → Fr g env.locals h (fun y => if y = x then some (.int (a + (i : Int) * c) t') else m y) → News g env.locals h ((I, ri) :: news) →
      wpAny (model prog w) A (execs body env) (rangeFlow g env.locals I ri (J (i + 1)) s R) E' { s with heap := h, toks := tk })
    (done : ∀ m news, ¬ J n m news) :
    wpAny (model prog w) A (pyIter (.ref r)) (fun it s₂ => codeAny (model prog w) A (.forLoop (.Name x px) it body orelse env) R s₂) E s := by
  refine wpAny_pyIter_range hr hsm ?_
  have hlt : ∀ p ∈ news₀, p.1 < s.heap.objs.size := fun p hp => Heap.lt_size (N p hp).1
  refine for_range_loopB (s := s) (I := s.heap.objs.size) (a := a) (c := c) (n := n) J hA hk hx (turn s.heap.objs.size hlt) done n 0 m₀ news₀ _ s.toks (by omega) h0 (fun p hp => Nat.ne_of_lt (hlt p hp)) (F.push _) ?_
  have hh := N.push F { cls := .type "range_iterator", data := .fields #[rawInt a, rawInt (Builtin.Range.rangeSize a b c), rawInt c] }
  have e : a + ((0 : Nat) : Int) * c = a := by simp
  rw [e, ← hn]
  exact hh
end
/-- the names of the flags below the bit k -/
noncomputable def pfN (num : Int) : Nat → List Str
  | 0 => []
  | k + 1 => pfN num k ++ (if num / 2 ^ k % 2 = 1 then [nmS k] else [])
theorem pfN_len (num : Int) : ∀ k, (pfN num k).length ≤ k
  | 0 => Nat.le_refl _
  | k + 1 => by
    have := pfN_len num k
    simp only [pfN, List.length_append]
    split <;> simp <;> omega
theorem fg_eq (i : Nat) : fg i = 2 ^ i := by show 1 * (2 : Int) ^ ((i : Int)).toNat = 2 ^ i; rw [Int.one_mul, Int.toNat_natCast]
theorem band_fg {x : Int} (i : Nat) (hx : 0 ≤ x) : Builtin.bitAnd x (fg i) = x / 2 ^ i % 2 * 2 ^ i := by
  rw [fg_eq]
  obtain ⟨n, rfl⟩ := Int.eq_ofNat_of_zero_le hx
  have h2 : (0 : Int) ≤ 2 ^ i := Int.pow_nonneg (by decide)
  unfold Builtin.bitAnd
  rw [decide_eq_true hx, decide_eq_true h2]
  have e2 : ((2 : Int) ^ i).toNat = 2 ^ i := by
    have : ((2 : Int) ^ i) = ((2 ^ i : Nat) : Int) := by simp
    rw [this, Int.toNat_natCast]
  show ((((n : Int)).toNat &&& ((2 : Int) ^ i).toNat : Nat) : Int) = _
  rw [Int.toNat_natCast, e2, PySem.W.kbt_nat]
  simp
theorem fl_next (num : Int) (i : Nat) : num / 2 ^ i * 2 ^ i - num / 2 ^ i % 2 * 2 ^ i = num / 2 ^ (i + 1) * 2 ^ (i + 1) := by
  have e : num / 2 ^ (i + 1) = num / 2 ^ i / 2 := by rw [Int.pow_succ, Int.ediv_ediv_of_nonneg (Int.pow_nonneg (by decide))]
  rw [e, Int.pow_succ, ← Int.sub_mul]
  have : num / 2 ^ i - num / 2 ^ i % 2 = num / 2 ^ i / 2 * 2 := by omega
  rw [this, Int.mul_assoc, Int.mul_comm 2]
theorem offPF3 : True := by
  w_top off
  exact True.intro
noncomputable abbrev pfTxt (num : Int) : Str := Txt.join (Str.ofString ", ") (pfN num 16)
theorem nmS_len : ∀ j : Nat, j < 16 → (nmS j).length ≤ 40 := by decide +kernel
theorem pfN_wt (num : Int) : ∀ k, k ≤ 16 → ((pfN num k).map (·.length)).sum + (pfN num k).length ≤ k * 41
  | 0, _ => Nat.le_refl _
  | k + 1, h => by
    have h1 := pfN_wt num k (by omega)
    have h2 := nmS_len k (by omega)
    simp only [pfN]
    split
    · simp only [List.map_append, List.sum_append, List.length_append, List.map_cons, List.map_nil, List.sum_cons, List.sum_nil, List.length_cons, List.length_nil]
      omega
    · simp only [List.append_nil]
      omega
theorem bit_of {num : Int} {i : Nat} (hn : 0 ≤ num) : (Builtin.bitAnd (num / 2 ^ i * 2 ^ i) (fg i) = 0 ↔ num / 2 ^ i % 2 ≠ 1) ∧ (num / 2 ^ i % 2 = 1 → Builtin.bitXor (num / 2 ^ i * 2 ^ i) (fg i) = num / 2 ^ (i + 1) * 2 ^ (i + 1)) := by
  have h2 : (0 : Int) < 2 ^ i := Int.pow_pos (by decide)
  have h0 : (0 : Int) ≤ num / 2 ^ i * 2 ^ i := Int.mul_nonneg (Int.ediv_nonneg hn (Int.le_of_lt h2)) (Int.le_of_lt h2)
  have hb := band_fg i h0
  rw [Int.mul_ediv_cancel _ (Int.ne_of_gt h2)] at hb
  have hx := bitXor_and (num / 2 ^ i * 2 ^ i) (fg i)
  have hf := fl_next num i
  have hm : num / 2 ^ i % 2 = 0 ∨ num / 2 ^ i % 2 = 1 := by omega
  rw [hb, fg_eq] at hx
  rw [hb, fg_eq]
  rcases hm with h | h
  · rw [h]; simp
  · rw [h] at hx hf ⊢
    refine ⟨by simp; omega, fun _ => ?_⟩
    rw [hx, ← hf]
    omega
set_option maxRecDepth 100000 in
set_option maxHeartbeats 8000000 in
theorem pretty {w : World} {mean : ExcName → Option Value} {mg mb : Str → Option Value} {num : Int} {t0 : Tok} {news : List (Addr × Obj)} (hn : 32768 ≤ num ∧ num < 65536) :
    Does w mean mg mb 640 1400 (.ref 29) [.int num t0] news (fun r n' => (∃ t, r = .str (pfTxt num) t) ∧ ∀ q ∈ news, q ∈ n') := by
  refine does_of ?_
  w_strict (
   k_fill
   intro ns g c mo lo gl ce qq fu co bu outer A₀ base h₀ L m s Q E B F X N T codeHd hret
   k_dflt k_enter
   repeat' (first | (fail_if_success (with_reducible show wpAny _ _ (pyIter _) _ _ _)
                     fail_if_success (with_reducible show wpAny _ _ (exec (Stmt.For _ _ _ _ _) _) _ _ _)
                     fail_if_success (with_reducible show wpAny _ _ (eval (Expr.ListComp _ _ _ _) _) _ _ _)
                     first | (k_unfold; (try dsimp only)) | (k_end; wrow_close) | walk1 | (dsimp only; walk1) | (leave1; walk_say "STEP leave1"; try dsimp only) | fail "no step")))
  refine wpAny_For ?_
  w_strict (
   repeat' (first | (fail_if_success (with_reducible show wpAny _ _ (pyIter _) _ _ _)
                     fail_if_success (with_reducible show wpAny _ _ (exec (Stmt.For _ _ _ _ _) _) _ _ _)
                     fail_if_success (with_reducible show wpAny _ _ (eval (Expr.ListComp _ _ _ _) _) _ _ _)
                     first | (k_unfold; (try dsimp only)) | (k_end; wrow_close) | walk1 | (dsimp only; walk1) | (leave1; walk_say "STEP leave1"; try dsimp only) | fail "no step")))
  rename_i g2 L2 h7 FG2 B1 X1 T1 tk7 nl h8 l1 h9 F9 N9 h10 tk10 ta tb tc hR1 F3 N3 hk3
  have hnl : ∀ q ∈ news, q.1 ≠ nl := fun q hq => Nat.ne_of_lt (l1 q hq)
  refine for_rangeB (n := 32) (fun i m' n' => i < 16 ∧ m' (Str.ofString "names") = some (.ref nl) ∧ (∃ t, m' (Str.ofString "flags") = some (.int (num / 2 ^ i * 2 ^ i) t)) ∧ ∃ vs nn, StrsAre vs (pfN num i) ∧ n' = (nl, listOf vs.toArray nn) :: news) rfl rfl rfl hR1 (by decide +kernel) (by decide +kernel) F3 N3 ?_ ?_ ?_
  · exact ⟨by decide, by walk_at "my.look", ⟨t0, by rw [show num / 2 ^ 0 * 2 ^ 0 = num by simp]; walk_at "my.look"⟩, [], 0, .nil, rfl⟩
  · rintro I hI i m1 n1 h1 tk t' ri E' hi ⟨j0, j1, ⟨t2, j2⟩, vs, nn, j3, rfl⟩ hne F4 N4
    have hln := j3.length
    have ei : (0 : Int) + (i : Int) * 1 = (i : Int) := by omega
    rw [ei] at F4
    have hpl := pfN_len num i
    obtain ⟨k1, k2⟩ := bit_of (i := i) (by omega : 0 ≤ num)
    have hd : num / 2 ^ i * 2 ^ i ≤ num := Int.ediv_mul_le _ (Int.ne_of_gt (Int.pow_pos (by decide)))
    have hd0 : 0 ≤ num / 2 ^ i * 2 ^ i := Int.mul_nonneg (Int.ediv_nonneg (by omega) (Int.pow_nonneg (by decide))) (Int.pow_nonneg (by decide))
    have hneI : ∀ p ∈ (nl, listOf vs.toArray nn) :: news, p.1 ≠ I := hne
    have hneI2 := List.forall_mem_cons.mp hne
    have hodd : i = 15 → num / 2 ^ i % 2 = 1 := by rintro rfl; omega
    refine pf_turn j0 ⟨hd0, by omega⟩ (by omega) hnl (hI _ (.head _)) B1 T1 codeHd F4 N4 j1 j2 ?_ ?_ ?_ X1
    · intro hz h' tk' m' F5 e1 e2 N5
      have hb := k1.mp hz
      have hi15 : i ≠ 15 := fun e => hb (hodd e)
      have hfl := fl_next num i
      have hb0 : num / 2 ^ i % 2 = 0 := by omega
      rw [hb0] at hfl
      refine REnd.of F5 N5 hneI ⟨by omega, e1, ⟨t2, ?_⟩, vs, nn, ?_, rfl⟩
      · rw [e2, ← hfl]; simp
      · simp only [pfN, if_neg hb, List.append_nil]; exact j3
    · intro hz hx h' tk' m' F5 e1 ⟨t9, e2⟩ ⟨t8, N5⟩
      have hb : num / 2 ^ i % 2 = 1 := by
        by_cases q : num / 2 ^ i % 2 = 1
        · exact q
        · exact absurd (k1.mpr q) hz
      rw [k2 hb] at hx e2
      have hi15 : i ≠ 15 := by rintro rfl; apply hx; omega
      refine REnd.of F5 N5 (List.forall_mem_cons.mpr ⟨hneI2.1, hneI2.2⟩) ⟨by omega, e1, ⟨t9, e2⟩, _, _, ?_, rfl⟩
      simp only [pfN, if_pos hb]
      exact strs_append j3 (.cons _ _ .nil)
    · intro hz hx h' tk' m' F5 e1 ⟨t9, e2⟩ ⟨t8, N5⟩
      have hb : num / 2 ^ i % 2 = 1 := by
        by_cases q : num / 2 ^ i % 2 = 1
        · exact q
        · exact absurd (k1.mpr q) hz
      rw [k2 hb] at hx e2
      have hi15 : i = 15 := by
        by_cases q : i = 15
        · exact q
        · exfalso
          have : i = 0 ∨ i = 1 ∨ i = 2 ∨ i = 3 ∨ i = 4 ∨ i = 5 ∨ i = 6 ∨ i = 7 ∨ i = 8 ∨ i = 9 ∨ i = 10 ∨ i = 11 ∨ i = 12 ∨ i = 13 ∨ i = 14 := cs15_n (by first | assumption | omega)
          rcases this with rfl | rfl | rfl | rfl | rfl | rfl | rfl | rfl | rfl | rfl | rfl | rfl | rfl | rfl | rfl <;> simp at hx <;> omega
      subst hi15
      have hS : StrsAre (vs ++ [Value.str (nmS 15) t8]) (pfN num 16) := by
        simp only [pfN, if_pos hb]
        exact strs_append j3 (.cons _ _ .nil)
      clear F4 N4 F3 N3 N9 F9
      have hw := pfN_wt num 16 (by decide)
      unfold rangeFlow
      dsimp only
      w_strict (
       repeat' (first | (fail_if_success (with_reducible show wpAny _ _ (pyIter _) _ _ _)
                         fail_if_success (with_reducible show wpAny _ _ (exec (Stmt.For _ _ _ _ _) _) _ _ _)
                         fail_if_success (with_reducible show wpAny _ _ (eval (Expr.ListComp _ _ _ _) _) _ _ _)
                         first | ((with_reducible show wpAny _ _ (call (Value.builtin _) _ _) _ _ _); refine' join_listW (News.isList N5 (.tail _ (.head _))) ?uS ?uL ?uW ?_; (case uS => exact hS); (case uL => decide); (case uW => omega); intro t' k') | (k_unfold; (try dsimp only)) | (k_end; wrow_close) | walk1 | (dsimp only; walk1) | (leave1; walk_say "STEP leave1"; try dsimp only) | fail "no step")))
      exact hret _ _ _ _ (by assumption) (by assumption) ⟨⟨_, rfl⟩, fun q hq => .tail _ (.tail _ hq)⟩
  · rintro m1 n1 ⟨j0, _⟩
    omega
theorem offFL1 : True := by
  w_top off
  exact True.intro
noncomputable def tlW : List Str → List Nat
  | [] => []
  | r :: R => 44 :: 32 :: (r.cps.toList ++ tlW R)
noncomputable def jt : List Str → List Nat
  | [] => []
  | r :: R => r.cps.toList ++ tlW R
noncomputable def wordOf : List Str → Str
  | [] => Str.ofString ""
  | [r] => r
  | r :: _ :: _ => r ++ Str.ofString ","
theorem join_fold : ∀ (l : List Str) (a : Array Nat), (l.foldl (fun acc p => acc ++ (Str.ofString ", ").cps ++ p.cps) a).toList = a.toList ++ tlW l
  | [], a => by simp [tlW]
  | r :: l, a => by
    rw [List.foldl_cons, join_fold l]
    have e : (Str.ofString ", ").cps = #[44, 32] := rfl
    simp [tlW, e]
theorem jt_eq : ∀ R : List Str, (Txt.join (Str.ofString ", ") R).cps.toList = jt R
  | [] => rfl
  | r :: R => join_fold R r.cps
noncomputable def plainW (r : Str) : Bool := match r.cps.toList with
  | [] => false
  | d :: ds => d != 10 && !white d && d != 92 && d != 34 && ds.all (fun c => c != 10 && !white c && c != 92) && decide (ds.length ≤ 20)
theorem plainW_of {r : Str} (h : plainW r = true) : ∃ d ds, r.cps.toList = d :: ds ∧ (d ≠ 10 ∧ white d = false ∧ d ≠ 92 ∧ d ≠ 34) ∧ (∀ c ∈ ds, c ≠ 10 ∧ white c = false ∧ c ≠ 92) ∧ ds.length ≤ 20 := by
  unfold plainW at h
  cases e : r.cps.toList with
  | nil => rw [e] at h; cases h
  | cons d ds =>
    rw [e] at h
    simp at h
    exact ⟨d, ds, rfl, ⟨h.1.1.1.1.1, h.1.1.1.1.2, h.1.1.1.2, h.1.1.2⟩, fun c hc => ⟨(h.1.2 c hc).1.1, (h.1.2 c hc).1.2, (h.1.2 c hc).2⟩, h.2⟩
theorem nmS_plain : ∀ j : Nat, j < 16 → plainW (nmS j) = true := by decide +kernel
theorem tlW_len : ∀ R : List Str, (∀ r ∈ R, plainW r = true) → (tlW R).length ≤ R.length * 23
  | [], _ => Nat.le_refl _
  | r :: R, h => by
    have ih := tlW_len R fun q hq => h q (.tail _ hq)
    obtain ⟨d, ds, e, _, _, hl⟩ := plainW_of (h r (.head _))
    simp only [tlW, List.length_cons, List.length_append, e]
    omega
theorem enc_f : ∀ l : List Nat, enc (l.map fun c => (false, c)) = l
  | [] => rfl
  | c :: l => by simp only [List.map_cons, enc, enc_f l]
theorem dec_f : ∀ l : List Nat, dec (l.map fun c => (false, c)) = l
  | [] => rfl
  | c :: l => congrArg (c :: ·) (dec_f l)
theorem tok_word {w : World} {mean : ExcName → Option Value} {mg mb : Str → Option Value} {C : LexC} {nl : Int} {R : List Str} {news : List (Addr × Obj)} (hL : LexIn w mean mg mb C nl [] (jt R) news) (hR : R ≠ []) (hp : ∀ r ∈ R, plainW r = true) (hn : R.length ≤ 16) :
    Does w mean mg mb 670 1700 (.ref 141) [.ref C.lx] news (fun r n' => (∃ t, r = .str (wordOf R) t) ∧ LexIn w mean mg mb C nl [] (jt R.tail) n' ∧ Keep C news n') := by
  cases R with
  | nil => exact absurd rfl hR
  | cons r R =>
    obtain ⟨d, ds, e, ⟨h1, h2, h3, h4⟩, hds, hl⟩ := plainW_of (hp r (.head _))
    cases R with
    | nil =>
      have ec : jt [r] = enc ((false, d) :: ds.map fun c => (false, c)) := by
        simp only [jt, tlW, List.append_nil, e, enc, enc_f]
      rw [ec] at hL
      have D := tok_last hL ⟨h1, fun _ => ⟨h2, h3, h4⟩⟩ (by
        intro p hp
        obtain ⟨c, hc, rfl⟩ := List.mem_map.mp hp
        exact ⟨(hds c hc).1, fun _ => (hds c hc).2⟩) (by rw [List.length_map]; omega)
      have et : txt (d :: dec (ds.map fun c => (false, c))) = r := by
        rw [dec_f]
        apply Str.ext'
        show (d :: ds).toArray = r.cps
        rw [← e]
      rw [et] at D
      exact D
    | cons r2 R =>
      have ec : jt (r :: r2 :: R) = enc ((false, d) :: (ds ++ [44]).map fun c => (false, c)) ++ 32 :: jt (r2 :: R) := by
        simp only [jt, tlW, e, enc, enc_f, List.cons_append, List.append_assoc, List.nil_append]
      rw [ec] at hL
      have hrl : (jt (r2 :: R)).length ≤ 500 := by
        have := tlW_len (r2 :: R) fun q hq => hp q (.tail _ hq)
        simp only [tlW, List.length_cons, List.length_append] at this
        simp only [jt, List.length_append]
        simp only [List.length_cons] at hn
        omega
      have D := tok_bare hL (by decide) ⟨h1, fun _ => ⟨h2, h3, h4⟩⟩ (by
        intro p hp
        obtain ⟨c, hc, rfl⟩ := List.mem_map.mp hp
        rcases List.mem_append.mp hc with hc | hc
        · exact ⟨(hds c hc).1, fun _ => (hds c hc).2⟩
        · simp at hc; subst hc; exact ⟨by decide, fun _ => ⟨by decide, by decide⟩⟩) (by simp; omega) hrl
      have et : txt (d :: dec ((ds ++ [44]).map fun c => (false, c))) = wordOf (r :: r2 :: R) := by
        rw [dec_f]
        apply Str.ext'
        show (d :: (ds ++ [44])).toArray = (r ++ Str.ofString ",").cps
        rw [Str.cps_append]
        apply Array.ext'
        have e2 : (Str.ofString ",").cps = #[44] := rfl
        simp [e, e2]
      rw [et, if_neg (by decide)] at D
      exact D
/-- the names of the flags from the bit k on -/
noncomputable def pfR (num : Int) : Nat → Nat → List Str
  | _, 0 => []
  | k, n + 1 => (if num / 2 ^ k % 2 = 1 then [nmS k] else []) ++ pfR num (k + 1) n
theorem pfN_R (num : Int) : ∀ n k, pfN num k ++ pfR num k n = pfN num (k + n)
  | 0, k => by simp [pfR]
  | n + 1, k => by
    have := pfN_R num n (k + 1)
    rw [show k + (n + 1) = k + 1 + n by omega, ← this]
    simp only [pfR, pfN, List.append_assoc]
theorem pfR_plain (num : Int) : ∀ n k, k + n ≤ 16 → ∀ r ∈ pfR num k n, plainW r = true
  | 0, _, _ => fun _ h => nomatch h
  | n + 1, k, h => by
    intro r hr
    simp only [pfR] at hr
    rcases List.mem_append.mp hr with hr | hr
    · split at hr
      · simp at hr; subst hr; exact nmS_plain k (by omega)
      · cases hr
    · exact pfR_plain num n (k + 1) (by omega) r hr
theorem pfR_len (num : Int) : ∀ n k, (pfR num k n).length ≤ n
  | 0, _ => Nat.le_refl _
  | n + 1, k => by
    have := pfR_len num n (k + 1)
    simp only [pfR, List.length_append]
    split <;> simp <;> omega
theorem pfR_head {num : Int} (h15 : num / 2 ^ 15 % 2 = 1) : ∀ n k, k + n = 16 → 0 < n → pfR num k n = [nmS 15] ∨ ∃ j r2 R, k ≤ j ∧ j < 15 ∧ pfR num k n = nmS j :: r2 :: R
  | 0, _, _, h => absurd h (Nat.lt_irrefl _)
  | n + 1, k, hk, _ => by
    by_cases hn : n = 0
    · subst hn
      have : k = 15 := by omega
      subst this
      exact .inl (by simp only [pfR, if_pos h15]; rfl)
    · have ih := pfR_head h15 n (k + 1) (by omega) (by omega)
      by_cases hb : num / 2 ^ k % 2 = 1
      · refine .inr ⟨k, ?_⟩
        simp only [pfR, if_pos hb]
        rcases ih with e | ⟨j, r2, R, _, _, e⟩
        · exact ⟨nmS 15, [], Nat.le_refl _, by omega, by rw [e]; rfl⟩
        · exact ⟨nmS j, r2 :: R, Nat.le_refl _, by omega, by rw [e]; rfl⟩
      · simp only [pfR, if_neg hb, List.nil_append]
        rcases ih with e | ⟨j, r2, R, h1, h2, e⟩
        · exact .inl e
        · exact .inr ⟨j, r2, R, by omega, h2, e⟩
theorem nmS_apart : ∀ j : Nat, j < 16 → ∀ k : Nat, k < 16 → j ≠ k → nmS j ++ Str.ofString "," ≠ nmS k ++ Str.ofString "," := by decide +kernel
theorem nmS_last : ∀ k : Nat, k < 15 → nmS 15 ≠ nmS k ++ Str.ofString "," := by decide +kernel
theorem word_on {num : Int} (h15 : num / 2 ^ 15 % 2 = 1) {k : Nat} (hk : k < 15) (hb : num / 2 ^ k % 2 = 1) : wordOf (pfR num k (16 - k)) = nmS k ++ Str.ofString "," ∧ (pfR num k (16 - k)).tail = pfR num (k + 1) (15 - k) ∧ pfR num (k + 1) (15 - k) ≠ [] := by
  have e : 16 - k = (15 - k) + 1 := by omega
  have ih := pfR_head h15 (15 - k) (k + 1) (by omega) (by omega)
  rw [e]
  simp only [pfR, if_pos hb]
  rcases ih with e | ⟨j, r2, R, _, _, e⟩ <;> rw [e] <;> exact ⟨rfl, rfl, by simp⟩
theorem word_off {num : Int} (h15 : num / 2 ^ 15 % 2 = 1) {k : Nat} (hk : k < 15) (hb : num / 2 ^ k % 2 ≠ 1) : wordOf (pfR num k (16 - k)) ≠ nmS k ++ Str.ofString "," ∧ pfR num k (16 - k) = pfR num (k + 1) (15 - k) := by
  have e : 16 - k = (15 - k) + 1 := by omega
  have ih := pfR_head h15 (15 - k) (k + 1) (by omega) (by omega)
  rw [e]
  simp only [pfR, if_neg hb, List.nil_append]
  refine ⟨?_, trivial⟩
  rcases ih with e | ⟨j, r2, R, h1, h2, e⟩
  · rw [e]; exact nmS_last k hk
  · rw [e]; exact nmS_apart j (by omega) k (by omega) (by omega)
theorem offFL2 : True := by
  w_top off
  exact True.intro
noncomputable def lfFor : Stmt := nth (bodyOf (topN 16)) 4
noncomputable abbrev lfEnv (L : Addr) : Env := envOfC (Str.ofString "_law_flags") (scopeOf (topN 16)) L 196 (.ref 195)
/-- a list of four ints -/
noncomputable def LeadsIn (f : Int → Int) (ll : Addr) (news : List (Addr × Obj)) : Prop := ∃ (ts : Int → Tok) (n : Nat), (ll, listOf ([.int (f 0) (ts 0), .int (f 1) (ts 1), .int (f 2) (ts 2), .int (f 3) (ts 3)] : List Value).toArray n) ∈ news
noncomputable abbrev lfS (L : Addr) (outer : List Env) : Around := { handled := none, depth := 631, frames := some (lfEnv L :: outer), guards := some [], units := 1303 }
set_option maxRecDepth 100000 in
set_option maxHeartbeats 8000000 in
theorem lf_name {w : World} {mean : ExcName → Option Value} {mg mb : Str → Option Value} {L nm : Addr} {k : Nat} {t1 : Tok} {s : Shared} {ns9 : List Value} {n9 : Nat}
    {outer : List Env} {A₀ : Around} {base g h : Heap} {tk : Nat} {m : Str → Option Value} {tl : List (Addr × Obj)} {Q : Flow → Shared → Prop} {E : Value → Shared → Prop}
    (hk : k < 15) (hns : (nm, listOf ns9.toArray n9) ∈ tl) (hk1 : k < 10 → ∃ t, ns9[k]? = some (.str (nmS k) t)) (hk2 : 10 ≤ k → baseText "0x" 16 (2 ^ ((k : Int)).toNat) = nmS k)
    (B : Below A₀ base outer g) (T : Top topProg looseL mean mg mb g) (codeHd : CodeHd base 168 164)
    (F : Fr g L h (fun z => if z = Str.ofString "k" then some (.int (k : Int) t1) else m z)) (N : News g L h tl) (h1 : m (Str.ofString "names") = some (.ref nm))
    (hQ : ∀ h' tk' t9, Fr g L h' (fun z => if z = Str.ofString "name" then some (.str (nmS k) t9) else if z = Str.ofString "k" then some (.int (k : Int) t1) else m z) → News g L h' tl → Q .next { s with heap := h', toks := tk' }) :
    (frag.heap_1 w.params).In g → wpAny (model Challenge.rw_ty0016_01.row.prog w) (lfS L outer) (exec (nth (bodyOf lfFor) 0) (lfEnv L)) Q E { s with heap := h, toks := tk } := by
  have e1 : nth (bodyOf lfFor) 0 = Stmt.Assign _ _ _ := rfl
  have e3 : scopeOf (topN 16) = Scope.mk _ _ _ _ _ := rfl
  unfold lfS lfEnv
  rw [e1, e3]
  clear e1 e3
  by_cases hk10 : k < 10
  · obtain ⟨tt, ht⟩ := hk1 hk10
    have hx : ns9[((k : Int)).toNat]? = some (.str (nmS k) tt) := by rw [Int.toNat_natCast]; exact ht
    have hi10 : ((k : Nat) : Int) < 10 := by omega
    clear hk1 hk2
    k_fill
    intro X
    w_strict (
     repeat' (first | (fail_if_success (with_reducible show wpAny _ _ (pyIter _) _ _ _)
                       fail_if_success (with_reducible show wpAny _ _ (exec (Stmt.For _ _ _ _ _) _) _ _ _)
                       fail_if_success (with_reducible show wpAny _ _ (eval (Expr.ListComp _ _ _ _) _) _ _ _)
                       first | (k_unfold; (try dsimp only)) | (k_end; wrow_close) | walk1 | (dsimp only; walk1) | (leave1; walk_say "STEP leave1"; try dsimp only) | fail "no step")))
    exact hQ _ _ _ (by assumption) (by assumption)
  · have hi10 : ¬ ((k : Nat) : Int) < 10 := by omega
    have hb := hk2 (by omega)
    have hs : (baseText "0x" 16 (2 ^ ((k : Int)).toNat)).length ≤ sizeLine := by rw [hb, sizeLine_eq]; have := nmS_len k (by omega); omega
    clear hk1 hk2
    k_fill
    intro X
    w_strict (
     repeat' (first | (fail_if_success (with_reducible show wpAny _ _ (pyIter _) _ _ _)
                       fail_if_success (with_reducible show wpAny _ _ (exec (Stmt.For _ _ _ _ _) _) _ _ _)
                       fail_if_success (with_reducible show wpAny _ _ (eval (Expr.ListComp _ _ _ _) _) _ _ _)
                       first | ((with_reducible show wpAny _ _ (call (Value.builtin _) [Value.int _ _]) _ _ _); refine PySem.P.hex_of_int ?_ hs; rw [hb]) | (k_unfold; (try dsimp only)) | (k_end; wrow_close) | walk1 | (dsimp only; walk1) | (leave1; walk_say "STEP leave1"; try dsimp only) | fail "no step")))
    exact hQ _ _ _ (by assumption) (by assumption)
theorem offFL4 : True := by
  w_top off
  exact True.intro
theorem pick4 {f : Int → Int} {ts : Int → Tok} {y : Int} (h0 : 0 ≤ y) (h4 : y < 4) : ([.int (f 0) (ts 0), .int (f 1) (ts 1), .int (f 2) (ts 2), .int (f 3) (ts 3)] : List Value)[y.toNat]? = some (.int (f y) (ts y)) := by
  have : y = 0 ∨ y = 1 ∨ y = 2 ∨ y = 3 := by first | exact cs4_n (by first | assumption | omega) | exact cs4_z (by first | assumption | omega) (by first | assumption | omega)
  rcases this with rfl | rfl | rfl | rfl <;> rfl
noncomputable abbrev lfScope : Scope := { kind := .function, names := [(Str.ofString ".0", .local), (Str.ofString "pair", .local), (Str.ofString "leads", .free)], isGenerator := false, isCoroutine := false }
theorem intsLeads {f : Int → Int} {ll : Addr} {n : Nat} {vs : List Value} {news : List (Addr × Obj)} (h : IntsAre vs [f 0, f 1, f 2, f 3]) (hm : (ll, listOf vs.toArray n) ∈ news) : LeadsIn f ll news := by
  cases h with | cons _ t0 h =>
  cases h with | cons _ t1 h =>
  cases h with | cons _ t2 h =>
  cases h with | cons _ t3 h =>
  cases h
  exact ⟨fun y => if y = 0 then t0 else if y = 1 then t1 else if y = 2 then t2 else t3, n, hm⟩
set_option maxRecDepth 100000 in
set_option maxHeartbeats 8000000 in
theorem lf_comp {w : World} {mean : ExcName → Option Value} {mg mb : Str → Option Value} {nx : Int → Int → Int} {f : Int → Int} {b : Int} {L pl ll : Addr} {oc : Obj} {s : Shared} {p0 p1 p2 p3 p4 p5 px pos : Pos}
    {outer : List Env} {A₀ : Around} {base g h : Heap} {tk : Nat} {m : Str → Option Value} {tl : List (Addr × Obj)} {Q : Value → Shared → Prop} {E : Value → Shared → Prop}
    (hP : PairsIn nx pl tl) (hF : LeadsIn f ll tl) (hc1 : (L + 1, oc) ∈ tl) (hc2 : oc.data = .cell (some (.ref ll))) (hnx : ∀ b y, 0 ≤ y → y < 4 → 0 ≤ nx b y ∧ nx b y < 4) (hb : b = 0 ∨ b = 1)
    (B : Below A₀ base outer g) (T : Top topProg looseL mean mg mb g) (codeHd : CodeHd base 168 164)
    (F : Fr g L h m) (N : News g L h tl) (h4 : m (Str.ofString "pairs") = some (.ref pl))
    (hQ : ∀ h' tk' l2 n', Fr g L h' m → News g L h' n' → LeadsIn (fun x => f (nx b x)) l2 n' → (∀ q ∈ tl, q ∈ n') → (∀ q ∈ tl, @LT.lt Nat _ q.1 l2) → Q (.ref l2) { s with heap := h', toks := tk' }) :
    (frag.heap_1 w.params).In g → wpAny (model Challenge.rw_ty0016_01.row.prog w) (lfS L outer) (eval (.ListComp (.Subscript (.Name (Str.ofString "leads") p1) (.Subscript (.Name (Str.ofString "pair") p2) (.Constant (.int b) 0 p3) p4) p5) [⟨.Name (Str.ofString "pair") px, .Name (Str.ofString "pairs") p0, [], 0⟩] lfScope pos) (lfEnv L)) Q E { s with heap := h, toks := tk } := by
  have e3 : scopeOf (topN 16) = Scope.mk _ _ _ _ _ := rfl
  obtain ⟨pa, ta, tb, n, hp1, hp2⟩ := hP
  obtain ⟨ts, nl, hl⟩ := hF
  unfold lfS lfEnv
  rw [e3]
  clear e3
  k_fill
  intro X
  refine eval_listcomp (cl := [(Str.ofString "leads", L + 1)]) rfl rfl (by decide) ?_
  w_strict (
   repeat' (first | (fail_if_success (with_reducible show wpAny _ _ (pyIter _) _ _ _)
                     fail_if_success (with_reducible show wpAny _ _ (exec (Stmt.For _ _ _ _ _) _) _ _ _)
                     fail_if_success (with_reducible show wpAny _ _ (eval (Expr.ListComp _ _ _ _) _) _ _ _)
                     first | (k_unfold; (try dsimp only)) | (k_end; wrow_close) | walk1 | (dsimp only; walk1) | (leave1; walk_say "STEP leave1"; try dsimp only) | fail "no step")))
  refine comp_list (its := [.ref (pa 0), .ref (pa 1), .ref (pa 2), .ref (pa 3)]) (nl := n) (J := fun i vals nws => IntsAre vals (([f (nx b 0), f (nx b 1), f (nx b 2), f (nx b 3)] : List Int).take i) ∧ ∀ q ∈ tl, q ∈ nws) rfl (by decide) rfl rfl hp1 (Nat.le_of_ble_eq_true rfl) F N ⟨.nil, fun _ h => h⟩ ?_ ?_
  · rintro C5 D5 I5 hI hID hDC i5 vals nws h5 tk5 oC oI mC nn v E5 hi5 hv5 ⟨j1, j2⟩ F6 N6 hO hne hm5
    have hi4 : i5 < 4 := hi5
    have hv : v = .ref (pa (i5 : Int)) := by
      have : i5 = 0 ∨ i5 = 1 ∨ i5 = 2 ∨ i5 = 3 := by first | exact cs4_n (by first | assumption | omega) | exact cs4_z (by first | assumption | omega) (by first | assumption | omega)
      rcases this with rfl | rfl | rfl | rfl <;> (simp at hv5; exact hv5.symm)
    subst hv
    have ht5 := j2 _ (hp2 (i5 : Int) (by omega) (by omega))
    have hb5 := pick2 (k := b) (a := nx 0 i5) (b := nx 1 i5) (ta := ta i5) (tb := tb i5) (f := fun b => nx b (i5 : Int)) (by omega) (by omega) rfl rfl
    have hy := hnx b (i5 : Int) (by omega) (by omega)
    have hl5 := pick4 (f := f) (ts := ts) hy.1 hy.2
    have hll := j2 _ hl
    have hcc := j2 _ hc1
    have hb0 : 0 ≤ b := by omega
    have hb9 : b < 1000000 := by omega
    have hy9 : nx b (i5 : Int) < 1000000 := by omega
    clear F N hv5
    w_strict (
     repeat' (first | (fail_if_success (with_reducible show wpAny _ _ (pyIter _) _ _ _)
                       fail_if_success (with_reducible show wpAny _ _ (exec (Stmt.For _ _ _ _ _) _) _ _ _)
                       fail_if_success (with_reducible show wpAny _ _ (eval (Expr.ListComp _ _ _ _) _) _ _ _)
                       first | (k_unfold; (try dsimp only)) | (k_end; wrow_close) | walk1 | (dsimp only; walk1) | (leave1; walk_say "STEP leave1"; try dsimp only) | fail "no step")))
    refine ⟨_, _, nws, oC, _, rfl, F6, N6, hO, hne, fun p hp => by simp at hp; subst hp; exact hm5, ?_, j2⟩
    have et : ([f (nx b 0), f (nx b 1), f (nx b 2), f (nx b 3)] : List Int).take (i5 + 1) = ([f (nx b 0), f (nx b 1), f (nx b 2), f (nx b 3)] : List Int).take i5 ++ [f (nx b (i5 : Int))] := by
      have : i5 = 0 ∨ i5 = 1 ∨ i5 = 2 ∨ i5 = 3 := by first | exact cs4_n (by first | assumption | omega) | exact cs4_z (by first | assumption | omega) (by first | assumption | omega)
      rcases this with rfl | rfl | rfl | rfl <;> rfl
    rw [et]
    exact j1.append (.cons _ _ .nil)
  · rintro C5 D5 hD hDC vals nws h5 tk5 oC mC nn ⟨j1, j2⟩ hl5 F6 N6 hO hne
    refine compPost_none F6 N6 hO hDC (fun p hp => (hne p hp).1) fun h3 F7 N7 => ?_
    exact hQ _ _ D5 _ F7 N7 (intsLeads (f := fun x => f (nx b x)) j1 (.head _)) (fun q hq => .tail _ (j2 q hq)) hD
theorem offFL5 : True := by
  w_top off
  exact True.intro
theorem neD {g h : Heap} {L a c : Addr} {o1 o2 : Obj} {n : List (Addr × Obj)} (N : News g L h n) (h1 : (a, o1) ∈ n) (h2 : (c, o2) ∈ n) (hc : o1.data ≠ o2.data) : a ≠ c := by
  rintro rfl
  have e := (N _ h1).1
  rw [(N _ h2).1] at e
  cases e
  exact hc rfl
theorem store_cell {M : Model} {A : Around} {E : Value → Shared → Prop} {s : Shared} {env : Env} {g : Heap} {L c : Addr} {m : Str → Option Value} {x : Str} {v : Value} {v₀ : Option Value} {o : Obj} {news : List (Addr × Obj)} {Q : Unit → Shared → Prop} (F : Fr g L s.heap m) (N : News g L s.heap news) (hm : (c, o) ∈ news) (hd : o.data = .cell v₀)
    (hc : env.cells.lookup x = some c) (h : ∀ h' o', Fr g L h' m → News g L h' ((c, o') :: cut [c] news) → o'.data = .cell (some v) → Q () { s with heap := h' })
    (hk : env.scope.kind = .function := by rfl) (hx : env.kindOf x = some .cell := by rfl) : wpAny M A (storeName env x v) Q E s := by
  have hmem := N _ hm
  have N2 : News g L s.heap ((c, o) :: cut [c] news) := List.forall_mem_cons.mpr ⟨hmem, fun p hp => N p (cut_sub p hp)⟩
  refine wpAny_storeName_cell hk hx hc ⟨o, hmem.1, hd⟩ fun h' hv hs => ?_
  obtain ⟨o', ho', hd'⟩ := hv
  have hcut : ∀ p ∈ cut [c] news, p.1 ≠ c := cut_ne (.head _)
  refine h h' o' ⟨F.ns.sameBut hs (Ne.symm hmem.2.1), fun b ob e => (hs.2 b (fun q => ?_)).trans (F.keep b ob e), F.above⟩ (List.forall_mem_cons.mpr ⟨⟨ho', hmem.2⟩, fun p hp => ⟨(hs.2 _ (hcut p hp)).trans (N2 p (.tail _ hp)).1, (N2 p (.tail _ hp)).2⟩⟩) hd'
  rw [q, hmem.2.2] at e; cases e
theorem LexIn.cell {w : World} {mean : ExcName → Option Value} {mg mb : Str → Option Value} {C : LexC} {nl : Int} {q : List Str} {cs : List Nat} {news : List (Addr × Obj)} {c : Addr} {o o' : Obj} {v : Option Value} {g hh : Heap} {L : Addr} (N : News g L hh news) (hm : (c, o) ∈ news) (hd : o.data = .cell v) (hv : v ≠ some (.ref C.lf))
    (h : LexIn w mean mg mb C nl q cs news) : LexIn w mean mg mb C nl q cs ((c, o') :: Mine.cut [c] news) ∧ c ∉ C.mut := by
  obtain ⟨t, qs, ys, n1, n2, keep, hq, hS, ho, hE, hk, hf, hl⟩ := h
  have out : ∀ p ∈ news, p.2.data ≠ o.data → p ∈ (c, o') :: Mine.cut [c] news := fun p hp hne => .tail _ (mem_cut hp (by simpa using neD N (a := p.1) (o1 := p.2) hp hm hne))
  have hE' := hE
  simp only [List.forall_mem_cons] at hE'
  obtain ⟨e1, e2, e3, e4, e5, e6, _⟩ := hE'
  refine ⟨⟨t, qs, ys, n1, n2, keep, hq, hS, ho, ?_, fun p hp => ⟨?_, (hk p hp).2⟩, hf, hl⟩, ?_⟩
  · simp only [List.forall_mem_cons]
    refine ⟨out _ e1 ?_, out _ e2 ?_, out _ e3 ?_, out _ e4 ?_, out _ e5 ?_, out _ e6 ?_, fun _ h => nomatch h⟩ <;> (rw [hd]; exact fun e => nomatch e)
  · refine .tail _ (mem_cut (hk p hp).1 ?_)
    intro e
    have ec : p.1 = c := by simpa using e
    have z := (N _ (hk p hp).1).1
    rw [ec, (N _ hm).1] at z
    have z2 : o = p.2 := Option.some.inj z
    exact hv ((hk p hp).2.2.2 v (by rw [← z2, hd]))
  · simp only [LexC.mut, List.mem_cons, List.not_mem_nil, or_false, not_or]
    refine ⟨(neD N e1 hm ?_).symm, (neD N e3 hm ?_).symm, (neD N e6 hm ?_).symm⟩ <;> (rw [hd]; exact fun e => nomatch e)
theorem LexIn.lfLeads {w : World} {mean : ExcName → Option Value} {mg mb : Str → Option Value} {C : LexC} {nl : Int} {q : List Str} {cs : List Nat} {news : List (Addr × Obj)} {f : Int → Int} {ll : Addr} {g hh : Heap} {L : Addr} (N : News g L hh news) (h : LexIn w mean mg mb C nl q cs news) (hF : LeadsIn f ll news) : ll ≠ C.lf ∧ ll ∉ C.mut := by
  obtain ⟨t, qs, ys, n1, n2, keep, hq, hS, ho, hE, hk, hf, hl⟩ := h
  obtain ⟨ts, n9, hm⟩ := hF
  simp only [List.forall_mem_cons] at hE
  obtain ⟨e1, e2, e3, e4, e5, e6, _⟩ := hE
  have key : ∀ (a : Addr) (zs : List Value) (n : Nat) (r : List Str), StrsAre zs r → (a, listOf zs.toArray n) ∈ news → ll ≠ a := by
    rintro a zs n r hz hza rfl
    have e := (N _ hza).1
    rw [(N _ hm).1] at e
    have e' := congrArg Obj.data (Option.some.inj e)
    simp only [Data.seq.injEq] at e'
    have e'' := congrArg Array.toList e'.1
    simp only at e''
    rw [← e''] at hz
    cases hz
  refine ⟨key _ _ _ _ hS e6, ?_⟩
  simp only [LexC.mut, List.mem_cons, List.not_mem_nil, or_false, not_or]
  exact ⟨key _ _ _ _ hq e1, neD N hm e3 (fun e => nomatch e), key _ _ _ _ hS e6⟩
theorem offFL3 : True := by
  w_top off
  exact True.intro
theorem execs_two {M : Model} {A : Around} {a b : Stmt} {env : Env} {Q : Flow → Shared → Prop} {E : Value → Shared → Prop} {s : Shared} (h : wpAny M A (exec a env) (fun f s' => match f with | .next => wpAny M A (execs [b] env) Q E s' | f => Q f s') E s) : wpAny M A (execs [a, b] env) Q E s := wpAny_execs_cons h
set_option maxRecDepth 100000 in
set_option maxHeartbeats 8000000 in
theorem lf_turn {w : World} {mean : ExcName → Option Value} {mg mb : Str → Option Value} {C : LexC} {nx : Int → Int → Int} {f : Int → Int} {R : List Str} {L nm pl ll : Addr} {oc : Obj} {k : Nat} {wv : Str} {t1 t2 : Tok} {s : Shared} {ns9 : List Value} {n9 : Nat}
    {outer : List Env} {A₀ : Around} {base g h : Heap} {tk : Nat} {m : Str → Option Value} {tl : List (Addr × Obj)} {Q : Flow → Shared → Prop} {E : Value → Shared → Prop}
    (hL : LexIn w mean mg mb C 1 [] (jt R) tl) (hP : PairsIn nx pl tl) (hF : LeadsIn f ll tl) (hc1 : (L + 1, oc) ∈ tl) (hc2 : oc.data = .cell (some (.ref ll))) (hk : k < 15)
    (hns : (nm, listOf ns9.toArray n9) ∈ tl) (hk1 : k < 10 → ∃ t, ns9[k]? = some (.str (nmS k) t)) (hk2 : 10 ≤ k → baseText "0x" 16 (2 ^ ((k : Int)).toNat) = nmS k)
    (hR : wv = nmS k ++ Str.ofString "," → R ≠ []) (hp : ∀ r ∈ R, plainW r = true) (hn : R.length ≤ 16) (hw : wv.length ≤ 100) (hnx : ∀ b y, 0 ≤ y → y < 4 → 0 ≤ nx b y ∧ nx b y < 4)
    (B : Below A₀ base outer g) (T : Top topProg looseL mean mg mb g) (codeHd : CodeHd base 168 164)
    (F : Fr g L h (fun z => if z = Str.ofString "k" then some (.int (k : Int) t1) else m z)) (N : News g L h tl)
    (h1 : m (Str.ofString "names") = some (.ref nm)) (h2 : m (Str.ofString "lexer") = some (.ref C.lx)) (h3 : m (Str.ofString "word") = some (.str wv t2)) (h4 : m (Str.ofString "pairs") = some (.ref pl))
    (hQ1 : wv = nmS k ++ Str.ofString "," → ∀ h' tk' m' n' l2 o' t', Fr g L h' m' → m' (Str.ofString "names") = some (.ref nm) → m' (Str.ofString "lexer") = some (.ref C.lx) → m' (Str.ofString "pairs") = some (.ref pl) → m' (Str.ofString "word") = some (.str (wordOf R) t') → News g L h' n' →
      LexIn w mean mg mb C 1 [] (jt R.tail) n' → LeadsIn (fun x => f (nx 1 x)) l2 n' → (L + 1, o') ∈ n' → o'.data = .cell (some (.ref l2)) → (∀ q ∈ tl, q.1 ∉ C.mut → q.1 ≠ L + 1 → q ∈ n') → Q .next { s with heap := h', toks := tk' })
    (hQ2 : wv ≠ nmS k ++ Str.ofString "," → ∀ h' tk' m' n' l2 o', Fr g L h' m' → m' (Str.ofString "names") = some (.ref nm) → m' (Str.ofString "lexer") = some (.ref C.lx) → m' (Str.ofString "pairs") = some (.ref pl) → m' (Str.ofString "word") = some (.str wv t2) → News g L h' n' →
      LexIn w mean mg mb C 1 [] (jt R) n' → LeadsIn (fun x => f (nx 0 x)) l2 n' → (L + 1, o') ∈ n' → o'.data = .cell (some (.ref l2)) → (∀ q ∈ tl, q.1 ∉ C.mut → q.1 ≠ L + 1 → q ∈ n') → Q .next { s with heap := h', toks := tk' }) :
    (frag.heap_1 w.params).In g → wpAny (model Challenge.rw_ty0016_01.row.prog w) { handled := none, depth := 631, frames := some (lfEnv L :: outer), guards := some [], units := 1303 } (execs (bodyOf lfFor) (lfEnv L)) Q E { s with heap := h, toks := tk } := by
  have e1 : bodyOf lfFor = [nth (bodyOf lfFor) 0, nth (bodyOf lfFor) 1] := rfl
  intro X
  rw [e1]
  refine execs_two (lf_name hk hns hk1 hk2 B T codeHd F N h1 (fun h' tk' t9 F N => ?_) X)
  have e2 : nth (bodyOf lfFor) 1 = Stmt.If _ _ _ _ := rfl
  have e3 : scopeOf (topN 16) = Scope.mk _ _ _ _ _ := rfl
  unfold lfEnv
  rw [e2, e3]
  clear e1 e2 e3
  have hln := nmS_len k (by omega)
  obtain ⟨ti, hi1, hi2⟩ := hL.inst
  revert X
  k_fill
  intro X
  have hcm : (L + 1) ∉ C.mut := (LexIn.cell (o' := oc) N hc1 hc2 (by intro e; injection e with e; injection e with e; exact (hL.lfLeads N hF).1 e) hL).2
  w_strict (
   repeat' (first | (fail_if_success (with_reducible show wpAny _ _ (pyIter _) _ _ _)
                     fail_if_success (with_reducible show wpAny _ _ (exec (Stmt.For _ _ _ _ _) _) _ _ _)
                     fail_if_success (with_reducible show wpAny _ _ (eval (Expr.ListComp _ _ _ _) _) _ _ _)
                     first | (k_unfold; (try dsimp only)) | (k_end; wrow_close) | walk1 | (dsimp only; walk1) | (leave1; walk_say "STEP leave1"; try dsimp only) | fail "no step")))
  · refine lf_comp hP hF hc1 hc2 hnx (.inr rfl) B T codeHd (by assumption) (by assumption) (by walk_at "my.look") ?_ X
    intro h2 tk2 l2 n2 F2 N2 hF2 hK2 hlt2
    dsimp only
    have hc12 := hK2 _ hc1
    refine store_cell F2 N2 hc12 hc2 rfl ?_
    intro h3 o3 F3 N3 hd3
    have hL3 := (LexIn.cell (o' := o3) N2 hc12 hc2 (by intro e; injection e with e; injection e with e; exact (hL.lfLeads N hF).1 e) (hL.mono hK2)).1
    obtain ⟨ti3, hi3, hi4⟩ := hL3.inst
    have hwv : wv = nmS k ++ Str.ofString "," := eq_of_beq (by assumption : (wv == nmS k ++ Str.ofString ",") = true)
    w_strict (
     repeat' (first | (fail_if_success (with_reducible show wpAny _ _ (pyIter _) _ _ _)
                       fail_if_success (with_reducible show wpAny _ _ (exec (Stmt.For _ _ _ _ _) _) _ _ _)
                       fail_if_success (with_reducible show wpAny _ _ (eval (Expr.ListComp _ _ _ _) _) _ _ _)
                       first | ((with_reducible show wpAny _ _ (call (Value.ref _) _ _) _ _ _); refine' Does.use (tok_word hL3 (hR hwv) hp hn) ?uA ?uD ?uU ?uF ?uK ?uB ?uR ?uX ?uN ?uT ?uC ?_; (case uA => exact rfl); (case uD => exact Nat.le_of_ble_eq_true rfl); (case uU => exact Nat.le_of_ble_eq_true rfl); (case uF => exact rfl); (case uK => exact rfl); (case uB => k_asm); (case uR => k_asm); (case uX => k_in); (case uN => k_asm); (case uT => k_asm); (case uC => k_asm); k_whole; intro r' n' h' tk' F' N' P'; (obtain ⟨⟨tr, e1⟩, hL4, hK4⟩ := P'; subst e1)) | (k_unfold; (try dsimp only)) | (k_end; wrow_close) | walk1 | (dsimp only; walk1) | (leave1; walk_say "STEP leave1"; try dsimp only) | fail "no step")))
    have hl2c : ∀ q ∈ tl, q.1 ≠ L + 1 → q ∈ (L + 1, o3) :: cut [L + 1] n2 := fun q hq hn => .tail _ (mem_cut (hK2 q hq) (by simpa using hn))
    have hl21 : l2 ≠ L + 1 := Nat.ne_of_gt (hlt2 _ hc1)
    obtain ⟨ts2, nn2, hm2⟩ := hF2
    have hm3 := (List.Mem.tail (L + 1, o3) (mem_cut hm2 (by simpa using hl21)) : _ ∈ (L + 1, o3) :: cut [L + 1] n2)
    have hl2m : l2 ∉ C.mut := hL.mutLe (hL.pbLt hlt2)
    exact hQ1 hwv _ _ _ _ l2 o3 tr (by assumption) (by walk_at "my.look") (by walk_at "my.look") (by walk_at "my.look") (by walk_at "my.look") (by assumption) hL4 ⟨ts2, nn2, hK4 _ hm3 hl2m⟩ (hK4 _ (.head _) hcm) hd3 (fun q hq hn1 hn2 => hK4 _ (hl2c q hq hn2) hn1)
  · refine lf_comp hP hF hc1 hc2 hnx (.inl rfl) B T codeHd (by assumption) (by assumption) (by walk_at "my.look") ?_ X
    intro h2 tk2 l2 n2 F2 N2 hF2 hK2 hlt2
    dsimp only
    have hc12 := hK2 _ hc1
    refine store_cell F2 N2 hc12 hc2 rfl ?_
    intro h3 o3 F3 N3 hd3
    have hL3 := (LexIn.cell (o' := o3) N2 hc12 hc2 (by intro e; injection e with e; injection e with e; exact (hL.lfLeads N hF).1 e) (hL.mono hK2)).1
    w_strict (
     repeat' (first | (fail_if_success (with_reducible show wpAny _ _ (pyIter _) _ _ _)
                       fail_if_success (with_reducible show wpAny _ _ (exec (Stmt.For _ _ _ _ _) _) _ _ _)
                       fail_if_success (with_reducible show wpAny _ _ (eval (Expr.ListComp _ _ _ _) _) _ _ _)
                       first | (k_unfold; (try dsimp only)) | (k_end; wrow_close) | walk1 | (dsimp only; walk1) | (leave1; walk_say "STEP leave1"; try dsimp only) | fail "no step")))
    have hl2c : ∀ q ∈ tl, q.1 ≠ L + 1 → q ∈ (L + 1, o3) :: cut [L + 1] n2 := fun q hq hn => .tail _ (mem_cut (hK2 q hq) (by simpa using hn))
    have hl21 : l2 ≠ L + 1 := Nat.ne_of_gt (hlt2 _ hc1)
    obtain ⟨ts2, nn2, hm2⟩ := hF2
    have hm3 := (List.Mem.tail (L + 1, o3) (mem_cut hm2 (by simpa using hl21)) : _ ∈ (L + 1, o3) :: cut [L + 1] n2)
    have hwv : wv ≠ nmS k ++ Str.ofString "," := fun e => by
      have hz := (by assumption : (wv == nmS k ++ Str.ofString ",") = false)
      rw [e] at hz
      simp at hz
    exact hQ2 hwv _ _ _ _ l2 o3 F3 (by walk_at "my.look") (by walk_at "my.look") (by walk_at "my.look") (by walk_at "my.look") N3 hL3 ⟨ts2, nn2, hm3⟩ (.head _) hd3 (fun q hq hn1 hn2 => hl2c q hq hn2)
theorem offFL6 : True := by
  w_top off
  exact True.intro
theorem TabIn.mono {news news' : List (Addr × Obj)} (h : TabIn news) (hs : ∀ p ∈ news, p ∈ news') : TabIn news' := by
  obtain ⟨c', oc, vs, t, h1, h2, h3, h4⟩ := h
  exact ⟨c', oc, vs, t, hs _ h1, hs _ h2, h3, h4⟩
theorem plain_len {r : Str} (h : plainW r = true) : r.length ≤ 21 := by
  obtain ⟨d, ds, e, _, _, hl⟩ := plainW_of h
  have : r.length = r.cps.toList.length := by simp [Str.length]
  rw [this, e, List.length_cons]
  omega
theorem wordOf_len {R : List Str} (h : ∀ r ∈ R, plainW r = true) : (wordOf R).length ≤ 22 := by
  match R, h with
  | [], _ => exact Nat.zero_le _
  | [r], h => have := plain_len (h r (.head _)); exact Nat.le_succ_of_le this
  | r :: _ :: _, h =>
    have := plain_len (h r (.head _))
    have e : (r ++ Str.ofString ",").length = r.length + 1 := by
      show (r ++ Str.ofString ",").cps.size = r.cps.size + 1
      rw [Str.cps_append, Array.size_append]; rfl
    show (r ++ Str.ofString ",").length ≤ 22
    omega
theorem jt_len {R : List Str} (h : ∀ r ∈ R, plainW r = true) : (jt R).length ≤ R.length * 23 := by
  have := tlW_len R h
  match R, this with
  | [], _ => exact Nat.zero_le _
  | r :: R, this =>
    simp only [tlW, List.length_cons, List.length_append] at this
    simp only [jt, List.length_append, List.length_cons]
    omega
theorem pfN_full (num : Int) : pfN num 16 = pfR num 0 16 := by
  have := pfN_R num 16 0
  rw [show pfN num 0 = [] from rfl, List.nil_append, Nat.zero_add] at this
  exact this.symm
theorem pfTxt_len (num : Int) : (pfTxt num).length ≤ 1000 := by
  have e : (pfTxt num).length = (jt (pfN num 16)).length := by rw [← jt_eq]; simp [Str.length]
  have hp : ∀ r ∈ pfN num 16, plainW r = true := by
    rw [pfN_full]
    exact pfR_plain num 16 0 (by omega)
  have := jt_len hp
  have := pfN_len num 16
  omega
theorem LexIn.low {w : World} {mean : ExcName → Option Value} {mg mb : Str → Option Value} {C : LexC} {nl : Int} {q : List Str} {cs : List Nat} {news : List (Addr × Obj)} {a : Addr} (h : LexIn w mean mg mb C nl q cs news) (ha : @LT.lt Nat _ a C.lf) : a ∉ C.mut := by
  obtain ⟨t, qs, ys, n1, n2, keep, hq, hS, ho, _⟩ := h
  obtain ⟨a1, a2, a3, a4, a5⟩ := ho
  have z : @Ne Nat a C.pb ∧ @Ne Nat a C.dx ∧ @Ne Nat a C.lf := by omega
  simp only [LexC.mut, List.mem_cons, List.not_mem_nil, or_false, not_or]
  exact z
theorem TabIn.ne {g h : Heap} {L a : Addr} {its : Array Value} {n : Nat} {o : Obj} {news : List (Addr × Obj)} (N : News g L h news) (hT : TabIn news) (hm : (a, o) ∈ news) (ho : o.data = .seq its n) : a ≠ 164 := by
  obtain ⟨c', oc, vs, t, h1, _⟩ := hT
  exact neD N hm h1 (by rw [ho]; exact fun e => nomatch e)
theorem PairsIn.to {g h : Heap} {L : Addr} {nx : Int → Int → Int} {pl : Addr} {news news' : List (Addr × Obj)} (N : News g L h news) (hT : TabIn news) (hP : PairsIn nx pl news) (hs : ∀ q ∈ news, q.1 ≠ 164 → q ∈ news') : PairsIn nx pl news' := by
  obtain ⟨pa, ta, tb, n, h1, h2⟩ := hP
  exact ⟨pa, ta, tb, n, hs _ h1 (hT.ne N h1 rfl), fun x h0 h4 => hs _ (h2 x h0 h4) (hT.ne N (h2 x h0 h4) rfl)⟩
theorem LeadsIn.cutI {g h : Heap} {L I ll : Addr} {f : Int → Int} {ri : Obj} {n : List (Addr × Obj)} (N : News g L h n) (hI : (I, ri) ∈ n) (hc : ri.cls = .type "range_iterator") (hF : LeadsIn f ll n) : LeadsIn f ll (cut [I] n) := by
  obtain ⟨ts, k, hm⟩ := hF
  exact ⟨ts, k, mem_cut hm (by simpa using neI N hm hI (by rw [hc]; show Value.type "list" ≠ _; decide))⟩
/-- the table and its code object stand off the lexer's own objects -/
noncomputable def TabOff (C : LexC) (news : List (Addr × Obj)) : Prop := ∃ c' oc vs t, (164, tabObj #[rawInt 104, rawInt 18, .ref c']) ∈ news ∧ (c', oc) ∈ news ∧ oc.data = .fields vs ∧ vs[1]? = some (.str lamQ t) ∧ 164 ∉ C.mut ∧ c' ∉ C.mut
theorem LexIn.offF {w : World} {mean : ExcName → Option Value} {mg mb : Str → Option Value} {C : LexC} {nl : Int} {q : List Str} {cs : List Nat} {news : List (Addr × Obj)} {g hh : Heap} {L a : Addr} {o : Obj} {vs : Array Value} (N : News g L hh news) (h : LexIn w mean mg mb C nl q cs news) (hm : (a, o) ∈ news) (ho : o.data = .fields vs) : a ∉ C.mut := by
  obtain ⟨t, qs, ys, n1, n2, keep, hq, hS, ho', hE, _⟩ := h
  simp only [List.forall_mem_cons] at hE
  obtain ⟨e1, e2, e3, e4, e5, e6, _⟩ := hE
  simp only [LexC.mut, List.mem_cons, List.not_mem_nil, or_false, not_or]
  exact ⟨neD N hm e1 (by rw [ho]; exact fun e => nomatch e), neD N hm e3 (by rw [ho]; exact fun e => nomatch e), neD N hm e6 (by rw [ho]; exact fun e => nomatch e)⟩
theorem TabIn.off {w : World} {mean : ExcName → Option Value} {mg mb : Str → Option Value} {C : LexC} {nl : Int} {q : List Str} {cs : List Nat} {news : List (Addr × Obj)} {g hh : Heap} {L : Addr} (N : News g L hh news) (hT : TabIn news) (h : LexIn w mean mg mb C nl q cs news) : TabOff C news := by
  obtain ⟨c', oc, vs, t, h1, h2, h3, h4⟩ := hT
  exact ⟨c', oc, vs, t, h1, h2, h3, h4, h.offF N h1 rfl, h.offF N h2 h3⟩
theorem TabOff.keep {C : LexC} {n n' : List (Addr × Obj)} (h : TabOff C n) (hk : Keep C n n') : TabOff C n' := by
  obtain ⟨c', oc, vs, t, h1, h2, h3, h4, h5, h6⟩ := h
  exact ⟨c', oc, vs, t, hk _ h1 h5, hk _ h2 h6, h3, h4, h5, h6⟩
theorem TabOff.to {C : LexC} {n n' : List (Addr × Obj)} {g hh : Heap} {L c : Addr} {o : Obj} {v : Option Value} (N : News g L hh n) (h : TabOff C n) (hc : (c, o) ∈ n) (hd : o.data = .cell v) (hk : ∀ q ∈ n, q.1 ∉ C.mut → q.1 ≠ c → q ∈ n') : TabIn n' := by
  obtain ⟨c', oc, vs, t, h1, h2, h3, h4, h5, h6⟩ := h
  exact ⟨c', oc, vs, t, hk _ h1 h5 (neD N h1 hc (by rw [hd]; exact fun e => nomatch e)), hk _ h2 h6 (neD N h2 hc (by rw [hd, h3]; exact fun e => nomatch e)), h3, h4⟩
theorem offFL8 : True := by
  w_top off
  exact True.intro
noncomputable def lfNames (t : Nat → Tok) : List Value := [.str (Str.ofString "OPTIMIZED") (t 0), .str (Str.ofString "NEWLOCALS") (t 1), .str (Str.ofString "VARARGS") (t 2), .str (Str.ofString "VARKEYWORDS") (t 3), .str (Str.ofString "NESTED") (t 4), .str (Str.ofString "GENERATOR") (t 5), .str (Str.ofString "NOFREE") (t 6), .str (Str.ofString "COROUTINE") (t 7), .str (Str.ofString "ITERABLE_COROUTINE") (t 8), .str (Str.ofString "ASYNC_GENERATOR") (t 9)]
theorem nmS_lits : nmS 0 = Str.ofString "OPTIMIZED" ∧ nmS 1 = Str.ofString "NEWLOCALS" ∧ nmS 2 = Str.ofString "VARARGS" ∧ nmS 3 = Str.ofString "VARKEYWORDS" ∧ nmS 4 = Str.ofString "NESTED" ∧ nmS 5 = Str.ofString "GENERATOR" ∧ nmS 6 = Str.ofString "NOFREE" ∧ nmS 7 = Str.ofString "COROUTINE" ∧ nmS 8 = Str.ofString "ITERABLE_COROUTINE" ∧ nmS 9 = Str.ofString "ASYNC_GENERATOR" := by decide +kernel
theorem lfNames_get (t : Nat → Tok) {k : Nat} (hk : k < 10) : ∃ t', (lfNames t)[k]? = some (.str (nmS k) t') := by
  obtain ⟨e0, e1, e2, e3, e4, e5, e6, e7, e8, e9⟩ := nmS_lits
  have : k = 0 ∨ k = 1 ∨ k = 2 ∨ k = 3 ∨ k = 4 ∨ k = 5 ∨ k = 6 ∨ k = 7 ∨ k = 8 ∨ k = 9 := by first | exact cs10_n (by first | assumption | omega) | exact cs10_z (by first | assumption | omega) (by first | assumption | omega)
  rcases this with rfl | rfl | rfl | rfl | rfl | rfl | rfl | rfl | rfl | rfl
  · rw [e0]; exact ⟨_, rfl⟩
  · rw [e1]; exact ⟨_, rfl⟩
  · rw [e2]; exact ⟨_, rfl⟩
  · rw [e3]; exact ⟨_, rfl⟩
  · rw [e4]; exact ⟨_, rfl⟩
  · rw [e5]; exact ⟨_, rfl⟩
  · rw [e6]; exact ⟨_, rfl⟩
  · rw [e7]; exact ⟨_, rfl⟩
  · rw [e8]; exact ⟨_, rfl⟩
  · rw [e9]; exact ⟨_, rfl⟩
theorem nmS_hex : ∀ k : Nat, k < 16 → 10 ≤ k → baseText "0x" 16 (2 ^ ((k : Int)).toNat) = nmS k := by decide +kernel
set_option maxRecDepth 100000 in
set_option maxHeartbeats 8000000 in
theorem lf_rest {w : World} {mean : ExcName → Option Value} {mg mb : Str → Option Value} {C : LexC} {nx : Int → Int → Int} {L nm pl ll : Addr} {oc : Obj} {num : Int} {t2 : Tok} {tn : Nat → Tok} {n9 : Nat} {s : Shared}
    {outer : List Env} {A₀ : Around} {base g : Heap} {m : Str → Option Value} {n : List (Addr × Obj)} {Q : Flow → Shared → Prop} {E : Value → Shared → Prop}
    (hnum : 32768 ≤ num ∧ num < 65536) (hL : LexIn w mean mg mb C 1 [] (jt (pfR num 0 16).tail) n) (hF : LeadsIn (fun x => x) ll n) (hc1 : (L + 1, oc) ∈ n) (hc2 : oc.data = .cell (some (.ref ll)))
    (hkp : ∀ n', (∀ q ∈ n, q.1 ∉ C.mut → q.1 ≠ L + 1 → q ∈ n') → PairsIn nx pl n' ∧ (nm, listOf (lfNames tn).toArray n9) ∈ n')
    (hnx : ∀ b y, 0 ≤ y → y < 4 → 0 ≤ nx b y ∧ nx b y < 4)
    (B : Below A₀ base outer g) (T : Top topProg looseL mean mg mb g) (codeHd : CodeHd base 168 164)
    (F : Fr g L s.heap m) (N : News g L s.heap n)
    (h1 : m (Str.ofString "names") = some (.ref nm)) (h2 : m (Str.ofString "lexer") = some (.ref C.lx)) (h3 : m (Str.ofString "word") = some (.str (wordOf (pfR num 0 16)) t2)) (h4 : m (Str.ofString "pairs") = some (.ref pl))
    (hQ : ∀ h' tk' m' n' D ll tA tB, Fr g L h' m' → News g L h' n' → (D, tupOf [.ref ll, .str (nmS 15) tA, .str (Str.ofString "") tB]) ∈ n' → LeadsIn (fun x => wend nx x (bitsOf num 15)) ll n' → (∀ q ∈ n, q.1 ∉ C.mut → q.1 ≠ L + 1 → q ∈ n') → Q (.ret (.ref D)) { s with heap := h', toks := tk' }) :
    (frag.heap_1 w.params).In g → wpAny (model Challenge.rw_ty0016_01.row.prog w) (lfS L outer) (execs ((bodyOf (topN 16)).drop 4) (lfEnv L)) Q E s := by
  have e1 : (bodyOf (topN 16)).drop 4 = [Stmt.For _ _ _ _ _, Stmt.Return _ _] := rfl
  have e3 : scopeOf (topN 16) = Scope.mk _ _ _ _ _ := rfl
  have h15 : num / 2 ^ 15 % 2 = 1 := by omega
  unfold lfS lfEnv
  rw [e1, e3]
  clear e1 e3
  k_fill
  intro X
  w_strict (
   repeat' (first | (fail_if_success (with_reducible show wpAny _ _ (pyIter _) _ _ _)
                     fail_if_success (with_reducible show wpAny _ _ (exec (Stmt.For _ _ _ _ _) _) _ _ _)
                     fail_if_success (with_reducible show wpAny _ _ (eval (Expr.ListComp _ _ _ _) _) _ _ _)
                     first | (k_unfold; (try dsimp only)) | (k_end; wrow_close) | walk1 | (dsimp only; walk1) | (leave1; walk_say "STEP leave1"; try dsimp only) | fail "no step")))
  refine wpAny_For ?_
  w_strict (
   repeat' (first | (fail_if_success (with_reducible show wpAny _ _ (pyIter _) _ _ _)
                     fail_if_success (with_reducible show wpAny _ _ (exec (Stmt.For _ _ _ _ _) _) _ _ _)
                     fail_if_success (with_reducible show wpAny _ _ (eval (Expr.ListComp _ _ _ _) _) _ _ _)
                     first | (k_unfold; (try dsimp only)) | (k_end; wrow_close) | walk1 | (dsimp only; walk1) | (leave1; walk_say "STEP leave1"; try dsimp only) | fail "no step")))
  rename_i h9 tk9 ta tb tc hR1 F3 N3 hk3
  have hpw : ∀ k, k ≤ 15 → ∀ r ∈ pfR num k (16 - k), plainW r = true := fun k hk => pfR_plain num (16 - k) k (by omega)
  refine for_rangeC (n := 15) (fun k m' n' => m' (Str.ofString "names") = some (.ref nm) ∧ m' (Str.ofString "lexer") = some (.ref C.lx) ∧ m' (Str.ofString "pairs") = some (.ref pl) ∧ (∃ t, m' (Str.ofString "word") = some (.str (wordOf (pfR num k (16 - k))) t)) ∧
    LexIn w mean mg mb C 1 [] (jt (pfR num k (16 - k)).tail) n' ∧ (∃ ll oc, LeadsIn (fun x => wend nx x (bitsOf num k)) ll n' ∧ (L + 1, oc) ∈ n' ∧ oc.data = .cell (some (.ref ll))) ∧ (∀ q ∈ n, q.1 ∉ C.mut → q.1 ≠ L + 1 → q ∈ n')) rfl rfl rfl hR1 (by decide +kernel) (by decide +kernel) F3 N3 ?_ ?_ ?_
  · exact ⟨h1, h2, h4, ⟨t2, h3⟩, hL, ⟨ll, oc, hF, hc1, hc2⟩, fun q hq _ _ => hq⟩
  · rintro I hI k m1 n1 h1' tk t' ri E' hi ⟨j1, j2, j3, ⟨tw, j4⟩, j5, ⟨l1, o1, j6, j7, j8⟩, j9⟩ hne hri F4 N4
    have hIpb : @LT.lt Nat _ C.pb I := hL.pbLt hI
    obtain ⟨hP1, hnm1⟩ := hkp n1 j9
    have ei : (0 : Int) + (k : Int) * 1 = (k : Int) := by omega
    rw [ei] at F4
    have hIm : I ∉ C.mut := hL.mutLe hIpb
    have hI1 : I ≠ L + 1 := (hne _ j7).symm
    have e16 : 16 - (k + 1) = 15 - k := by omega
    have hall := hpw k (by omega)
    have fin : ∀ (h' : Heap) (tk' : Nat) (m' : Str → Option Value) (n' : List (Addr × Obj)) (l2 : Addr) (o' : Obj) (t' : Tok), Fr g L h' m' → m' (Str.ofString "names") = some (.ref nm) → m' (Str.ofString "lexer") = some (.ref C.lx) → m' (Str.ofString "pairs") = some (.ref pl) → m' (Str.ofString "word") = some (.str (wordOf (pfR num (k + 1) (16 - (k + 1)))) t') → News g L h' n' →
        LexIn w mean mg mb C 1 [] (jt (pfR num (k + 1) (16 - (k + 1))).tail) n' → LeadsIn (fun x => wend nx x (bitsOf num (k + 1))) l2 n' → (L + 1, o') ∈ n' → o'.data = .cell (some (.ref l2)) → (∀ q ∈ (I, ri) :: n1, q.1 ∉ C.mut → q.1 ≠ L + 1 → q ∈ n') →
        REnd g L I ri (fun m' n' => m' (Str.ofString "names") = some (.ref nm) ∧ m' (Str.ofString "lexer") = some (.ref C.lx) ∧ m' (Str.ofString "pairs") = some (.ref pl) ∧ (∃ t, m' (Str.ofString "word") = some (.str (wordOf (pfR num (k + 1) (16 - (k + 1)))) t)) ∧
          LexIn w mean mg mb C 1 [] (jt (pfR num (k + 1) (16 - (k + 1))).tail) n' ∧ (∃ ll oc, LeadsIn (fun x => wend nx x (bitsOf num (k + 1))) ll n' ∧ (L + 1, oc) ∈ n' ∧ oc.data = .cell (some (.ref ll))) ∧ (∀ q ∈ n, q.1 ∉ C.mut → q.1 ≠ L + 1 → q ∈ n')) { s with heap := h9, toks := tk9 } { s with heap := h', toks := tk' } := by
      intro h' tk' m' n' l2 o' t' F5 e1 e2 e3 e4 N5 hL5 hF5 hc5 hd5 hK5
      have hIn := hK5 _ (.head _) hIm hI1
      exact REnd.of F5 (news' := cut [I] n') (List.forall_mem_cons.mpr ⟨N5 _ hIn, fun p hp => N5 p (cut_sub p hp)⟩) (cut_ne (.head _)) ⟨e1, e2, e3, ⟨t', e4⟩, hL5.cut hIpb, ⟨l2, o', hF5.cutI N5 hIn hri, mem_cut hc5 (by simpa using hI1.symm), hd5⟩,
        fun q hq hn1 hn2 => mem_cut (hK5 q (.tail _ (j9 q hq hn1 hn2)) hn1 hn2) (by simpa using hne q (j9 q hq hn1 hn2))⟩
    refine lf_turn (nx := nx) (f := fun x => wend nx x (bitsOf num k)) (R := (pfR num k (16 - k)).tail) (ns9 := lfNames tn) (n9 := n9) (wv := wordOf (pfR num k (16 - k))) (j5.cons) (hP1.mono fun _ h => .tail _ h) (by obtain ⟨ts, z, hz⟩ := j6; exact ⟨ts, z, .tail _ hz⟩) (.tail _ j7) j8 hi (.tail _ hnm1) (fun hk => lfNames_get tn hk) (fun hk => nmS_hex k (by omega) hk) ?_ (fun r hr => hall r (List.mem_of_mem_tail hr)) ?_ ?_ hnx B T codeHd F4 N4 j1 j2 j4 j3 ?_ ?_ X
    · intro hw
      by_cases hb : num / 2 ^ k % 2 = 1
      · obtain ⟨_, e2, e3⟩ := word_on h15 hi hb
        rw [e2]; exact e3
      · exact absurd hw (word_off h15 hi hb).1
    · have := pfR_len num (16 - k) k
      rw [List.length_tail]; omega
    · have := wordOf_len hall
      omega
    · intro hw h' tk' m' n' l2 o' t' F5 e1 e2 e3 e4 N5 hL5 hF5 hc5 hd5 hK5
      have hb : num / 2 ^ k % 2 = 1 := by
        by_cases hb : num / 2 ^ k % 2 = 1
        · exact hb
        · exact absurd hw (word_off h15 hi hb).1
      obtain ⟨_, et, _⟩ := word_on h15 hi hb
      rw [et] at e4 hL5
      refine fin h' tk' m' n' l2 o' t' F5 e1 e2 e3 (by rw [e16]; exact e4) N5 (by rw [e16]; exact hL5) ?_ hc5 hd5 hK5
      simp only [bitsOf, wend, hb]
      exact hF5
    · intro hw h' tk' m' n' l2 o' F5 e1 e2 e3 e4 N5 hL5 hF5 hc5 hd5 hK5
      have hb : num / 2 ^ k % 2 ≠ 1 := fun hb => hw (word_on h15 hi hb).1
      obtain ⟨_, et⟩ := word_off h15 hi hb
      rw [et] at e4 hL5
      have hb0 : num / 2 ^ k % 2 = 0 := by omega
      refine fin h' tk' m' n' l2 o' tw F5 e1 e2 e3 (by rw [e16]; exact e4) N5 (by rw [e16]; exact hL5) ?_ hc5 hd5 hK5
      simp only [bitsOf, wend, hb0]
      exact hF5
  · rintro m1 n1 h1' tk ⟨j1, j2, j3, ⟨tw, j4⟩, j5, ⟨l1, o1, j6, j7, j8⟩, j9⟩ F4 N4
    dsimp only
    clear F3 N3
    have e1 : pfR num 15 (16 - 15) = [nmS 15] := by
      show pfR num 15 1 = _
      simp only [pfR, if_pos h15]; rfl
    rw [e1] at j4 j5
    have j5' : LexIn w mean mg mb C 1 [] [] n1 := j5
    have j4' : m1 (Str.ofString "word") = some (.str (nmS 15) tw) := j4
    obtain ⟨ti3, hi3, hi4⟩ := j5'.inst
    clear j4 j5
    w_strict (
     repeat' (first | (fail_if_success (with_reducible show wpAny _ _ (pyIter _) _ _ _)
                       fail_if_success (with_reducible show wpAny _ _ (exec (Stmt.For _ _ _ _ _) _) _ _ _)
                       fail_if_success (with_reducible show wpAny _ _ (eval (Expr.ListComp _ _ _ _) _) _ _ _)
                       first | ((with_reducible show wpAny _ _ (call (Value.ref _) _ _) _ _ _); refine' Does.use (tok_eof j5') ?uA ?uD ?uU ?uF ?uK ?uB ?uR ?uX ?uN ?uT ?uC ?_; (case uA => exact rfl); (case uD => exact Nat.le_of_ble_eq_true rfl); (case uU => exact Nat.le_of_ble_eq_true rfl); (case uF => exact rfl); (case uK => exact rfl); (case uB => k_asm); (case uR => k_asm); (case uX => k_in); (case uN => k_asm); (case uT => k_asm); (case uC => k_asm); k_whole; intro r' n' h' tk' F' N' P'; (obtain ⟨⟨tr, e1⟩, hL4, hK4⟩ := P'; subst e1)) | (k_unfold; (try dsimp only)) | (k_end; wrow_close) | walk1 | (dsimp only; walk1) | (leave1; walk_say "STEP leave1"; try dsimp only) | fail "no step")))
    rename_i Dn h8 F8 N8 l8
    have hl1 := (j5'.lfLeads N4 j6).2
    obtain ⟨ts, z, hz⟩ := j6
    exact hQ _ _ _ _ Dn l1 tw tr F8 N8 (.head _) ⟨ts, z, .tail _ (hK4 _ hz hl1)⟩ (fun q hq hn1 hn2 => .tail _ (hK4 _ (j9 q hq hn1 hn2) hn1))
theorem offFL7 : True := by
  w_top off
  exact True.intro
set_option maxRecDepth 100000 in
set_option maxHeartbeats 8000000 in
theorem law_flags {w : World} {mean : ExcName → Option Value} {mg mb : Str → Option Value} {nx : Int → Int → Int} {pl : Addr} {num : Int} {t0 : Tok} {news : List (Addr × Obj)} (hT : TabIn news) (hP : PairsIn nx pl news) 
    (hnx : ∀ b y, 0 ≤ y → y < 4 → 0 ≤ nx b y ∧ nx b y < 4) (hn : 32768 ≤ num ∧ num < 65536) :
    Does w mean mg mb 630 1300 (.ref 196) [.int num t0, .ref pl] news (fun r n' => ∃ D ll tA tB, r = .ref D ∧ (D, tupOf [.ref ll, .str (nmS 15) tA, .str (Str.ofString "") tB]) ∈ n' ∧ LeadsIn (fun x => wend nx x (bitsOf num 15)) ll n' ∧ (∀ q ∈ news, q.1 ≠ 164 → q ∈ n') ∧ TabIn n') := by
  have hfull := pfN_full num
  have h15 : num / 2 ^ 15 % 2 = 1 := by omega
  have hne0 : pfR num 0 16 ≠ [] := by rcases pfR_head h15 16 0 rfl (by decide) with e | ⟨j, r2, R, _, _, e⟩ <;> (rw [e]; simp)
  have hp0 := pfR_plain num 16 0 (by decide)
  have hn0 := pfR_len num 16 0
  have hlen := pfTxt_len num
  refine does_of ?_
  w_strict (
   k_fill
   intro ns g c mo lo gl ce qq fu co bu outer A₀ base h₀ L m s Q E B F X N T codeHd hret
   k_dflt k_enter
   repeat' (first | (fail_if_success (with_reducible show wpAny _ _ (pyIter _) _ _ _)
                     fail_if_success (with_reducible show wpAny _ _ (exec (Stmt.For _ _ _ _ _) _) _ _ _)
                     fail_if_success (with_reducible show wpAny _ _ (eval (Expr.ListComp _ _ _ _) _) _ _ _)
                     first | ((with_reducible show wpAny _ _ (call (Value.ref _) _ _) _ _ _); refine' Does.use (pretty hn) ?uA ?uD ?uU ?uF ?uK ?uB ?uR ?uX ?uN ?uT ?uC ?_; (case uA => exact rfl); (case uD => exact Nat.le_of_ble_eq_true rfl); (case uU => exact Nat.le_of_ble_eq_true rfl); (case uF => exact rfl); (case uK => exact rfl); (case uB => k_asm); (case uR => k_asm); (case uX => k_in); (case uN => k_asm); (case uT => k_asm); (case uC => k_asm); k_whole; intro r' n' h' tk' F' N' P'; (obtain ⟨⟨tP, e1⟩, hK1⟩ := P'; subst e1; have hT1 : TabIn n' := TabIn.mono hT (fun q hq => hK1 q (by walk_at "my.tail")))) | ((with_reducible show wpAny _ _ (call (Value.ref _) _ _) _ _ _); refine' Does.use (lexer_again hT1 hlen) ?uA ?uD ?uU ?uF ?uK ?uB ?uR ?uX ?uN ?uT ?uC ?_; (case uA => exact rfl); (case uD => exact Nat.le_of_ble_eq_true rfl); (case uU => exact Nat.le_of_ble_eq_true rfl); (case uF => exact rfl); (case uK => exact rfl); (case uB => k_asm); (case uR => k_asm); (case uX => k_in); (case uN => k_asm); (case uT => k_asm); (case uC => k_asm); k_whole; intro r' n' h' tk' F' N' P'; (obtain ⟨C, e1, hL2, hT2, hK2, hlt2⟩ := P'; subst e1; rw [jt_eq, hfull] at hL2; have hTo := TabIn.off N' hT2 hL2; obtain ⟨ti2, hi3, hi4⟩ := hL2.inst)) | ((with_reducible show wpAny _ _ (call (Value.ref _) _ _) _ _ _); refine' Does.use (tok_word hL2 hne0 hp0 hn0) ?uA ?uD ?uU ?uF ?uK ?uB ?uR ?uX ?uN ?uT ?uC ?_; (case uA => exact rfl); (case uD => exact Nat.le_of_ble_eq_true rfl); (case uU => exact Nat.le_of_ble_eq_true rfl); (case uF => exact rfl); (case uK => exact rfl); (case uB => k_asm); (case uR => k_asm); (case uX => k_in); (case uN => k_asm); (case uT => k_asm); (case uC => k_asm); k_whole; intro r' n' h' tk' F' N' P'; (obtain ⟨⟨t3, e1⟩, hL3, hK3⟩ := P'; subst e1; have hTo3 := hTo.keep hK3)) | (k_unfold; (try dsimp only)) | (k_end; wrow_close) | walk1 | (dsimp only; walk1) | (leave1; walk_say "STEP leave1"; try dsimp only) | fail "no step")))
  rename_i g2 L2 h7 tk2 FG2 B1 X1 T1 l12 oc d1 nm h6 l11 h5 tk9 n1 h4 tk1 n2 h3 tk0 h2 h1 ll h0 F3 N3 l10
  have d2 : oc.data = .cell none := d1.trans rfl
  have hup : ∀ q ∈ n1, q.1 ≠ 164 → q ∈ n' := fun q hq hn => hK3 q (hK2 q hq hn) (hL2.low (hlt2 q hq))
  have h164 : @LT.lt Nat _ 164 L2 := by
    obtain ⟨c', oc', vs', t', z, _⟩ := hT
    exact l12 _ z
  have hnm0 := hK1 _ (.head _)
  have hcell0 := hK1 _ (.tail _ (.head _))
  have hnmL : @LT.lt Nat _ (L2 + 1) nm := l11.1
  have hnm1 := hup _ hnm0 (by show @Ne Nat nm 164; omega)
  have hcell := hup _ hcell0 (by show @Ne Nat (L2 + 1) 164; omega)
  have hold : ∀ q ∈ news, q.1 ≠ 164 → q ∈ n' := fun q hq hn => hup q (hK1 q (.tail _ (.tail _ hq))) hn
  have hlow : ∀ q ∈ n1, q.1 ∉ C.mut := fun q hq => hL2.low (hlt2 q hq)
  have hpre : ∀ q ∈ news, q.1 ∉ C.mut ∧ q.1 ≠ L2 + 1 := fun q hq => ⟨hlow q (hK1 q (.tail _ (.tail _ hq))), Nat.ne_of_lt (Nat.lt_succ_of_lt (l12 q hq))⟩
  dsimp only
  refine store_cell F3 N3 (.tail _ hcell) d2 rfl ?_
  intro h8 o3 F8 N8 hd3
  have hL8 := (LexIn.cell (o' := o3) N3 (.tail _ hcell) d2 (fun e => nomatch e) hL3.cons).1
  have hcut : ∀ q ∈ n', q.1 ≠ L2 + 1 → q ∈ (L2 + 1, o3) :: cut [L2 + 1] ((ll, listOf #[Value.int 0 (tk' + 1), Value.int 1 (tk' + 1 + 1), Value.int 2 (tk' + 1 + 1 + 1), Value.int 3 (tk' + 1 + 1 + 1 + 1)] 0) :: n') := fun q hq hn => .tail _ (mem_cut (.tail _ hq) (by simpa using hn))
  have hll1 : ll ≠ L2 + 1 := Nat.ne_of_gt (l10 _ hcell)
  refine lf_rest (nx := nx) (num := num) (C := C) (oc := o3) (ll := ll) (tn := fun i => tk2 + i) (n9 := 0) hn hL8 ⟨fun y => if y = 0 then tk' + 1 else if y = 1 then tk' + 1 + 1 else if y = 2 then tk' + 1 + 1 + 1 else tk' + 1 + 1 + 1 + 1, 0, .tail _ (mem_cut (.head _) (by simpa using hll1))⟩ (.head _) hd3 ?_ hnx B1 T1 codeHd F8 N8 (by walk_at "my.look") (by walk_at "my.look") (by walk_at "my.look") (by walk_at "my.look") ?_ X1
  · intro n5 hk5
    refine ⟨PairsIn.to N hT hP fun q hq hn => hk5 q (hcut q (hold q hq hn) (hpre q hq).2) (hpre q hq).1 (hpre q hq).2, hk5 _ (hcut _ hnm1 (by show @Ne Nat nm (L2 + 1); omega)) (hlow _ hnm0) (by show @Ne Nat nm (L2 + 1); omega)⟩
  · intro h9 tk9 m9 n9 D9 l9 tA tB F9 N9 hD9 hF9 hK9
    dsimp only
    clear F3 F8 N8
    w_strict (
     repeat' (first | (fail_if_success (with_reducible show wpAny _ _ (pyIter _) _ _ _)
                       fail_if_success (with_reducible show wpAny _ _ (exec (Stmt.For _ _ _ _ _) _) _ _ _)
                       fail_if_success (with_reducible show wpAny _ _ (eval (Expr.ListComp _ _ _ _) _) _ _ _)
                       first | (k_unfold; (try dsimp only)) | (k_end; wrow_close) | walk1 | (dsimp only; walk1) | (leave1; walk_say "STEP leave1"; try dsimp only) | fail "no step")))
    exact hret _ _ _ _ (by assumption) (by assumption) ⟨D9, l9, tA, tB, rfl, hD9, hF9, fun q hq hn => hK9 q (hcut q (hold q hq hn) (hpre q hq).2) (hpre q hq).1 (hpre q hq).2, hTo3.to (fun p hp => N3 p (.tail _ hp)) hcell d2 fun q hq h1 h2 => hK9 q (hcut q hq h2) h1 h2⟩
theorem offWR1 : True := by
  w_top off
  exact True.intro
noncomputable def wrFor : Stmt := nth (bodyOf (topN 12)) 1
set_option maxRecDepth 100000 in
set_option maxHeartbeats 8000000 in
theorem wr_turn {w : World} {mean : ExcName → Option Value} {mg mb : Str → Option Value} {wl L : Addr} {ways : Int} {k : Nat} {x : Str} {a b : Nat} {t1 t2 t3 t4 : Tok} {s : Shared} {ws : List Value} {nn : Nat}
    {outer : List Env} {A₀ : Around} {base g h : Heap} {tk : Nat} {m : Str → Option Value} {tl : List (Addr × Obj)} {Q : Flow → Shared → Prop} {E : Value → Shared → Prop}
    (hk : k < 4) (hw : 0 ≤ ways) (hwl : (wl, listOf ws.toArray nn) ∈ tl) (hws : ws[((k : Int)).toNat]? = some (.str (txt [a, b]) t4)) (hr1 : (Txt.replace (txt [a, b]) (Str.ofString "\\") (Str.ofString "\\\\")).length ≤ 4) (hr2 : (Txt.replace (Txt.replace (txt [a, b]) (Str.ofString "\\") (Str.ofString "\\\\")) (Str.ofString "\"") (Str.ofString "\\\"")).length ≤ 8) (ha : a < 128) (hb : b < 128) (hx : x.length ≤ 100)
    (B : Below A₀ base outer g) (T : Top topProg looseL mean mg mb g) (codeHd : CodeHd base 168 164)
    (F : Fr g L h (fun z => if z = Str.ofString "k" then some (.int (k : Int) t1) else m z)) (N : News g L h tl)
    (h1 : m (Str.ofString "words") = some (.ref wl)) (h2 : m (Str.ofString "ways") = some (.int ways t2)) (h3 : m (Str.ofString "text") = some (.str x t3))
    (hQ1 : ways / 2 ^ k % 2 = 0 → ∀ h' tk' m' t', Fr g L h' m' → m' (Str.ofString "words") = some (.ref wl) → m' (Str.ofString "ways") = some (.int ways t2) → m' (Str.ofString "text") = some (.str (x ++ (Str.ofString "\"" ++ Txt.replace (Txt.replace (txt [a, b]) (Str.ofString "\\") (Str.ofString "\\\\")) (Str.ofString "\"") (Str.ofString "\\\"") ++ Str.ofString "\"")) t') →
      News g L h' tl → Q .next { s with heap := h', toks := tk' })
    (hQ2 : ways / 2 ^ k % 2 ≠ 0 → ∀ h' tk' m' t' n', Fr g L h' m' → m' (Str.ofString "words") = some (.ref wl) → m' (Str.ofString "ways") = some (.int ways t2) → m' (Str.ofString "text") = some (.str (x ++ (txt [92, a, 92, b] ++ Str.ofString "\n")) t') →
      News g L h' n' → (∀ q ∈ tl, q ∈ n') → Q .next { s with heap := h', toks := tk' }) :
    (frag.heap_1 w.params).In g → wpAny (model Challenge.rw_ty0016_01.row.prog w) { handled := none, depth := 641, frames := some (envOf (Str.ofString "_law_written") (scopeOf (topN 12)) L 174 (.ref 173) :: outer), guards := some [], units := 1403 }
      (execs (bodyOf wrFor) (envOf (Str.ofString "_law_written") (scopeOf (topN 12)) L 174 (.ref 173))) Q E { s with heap := h, toks := tk } := by
  have e1 : bodyOf wrFor = [Stmt.If _ _ _ _] := rfl
  have e3 : scopeOf (topN 12) = Scope.mk _ _ _ _ _ := rfl
  rw [e1, e3]
  clear e1 e3
  have hwlen : (txt [a, b]).length = 2 := rfl
  have hasc : (txt [a, b]).cps.all (· < 128) = true := by
    show (#[a, b] : Array Nat).all (· < 128) = true
    simp [ha, hb]
  have hk4 : ((k : Nat) : Int) < 4 := by omega
  k_fill
  intro X
  w_strict (
   repeat' (first | (fail_if_success (with_reducible show wpAny _ _ (pyIter _) _ _ _)
                     fail_if_success (with_reducible show wpAny _ _ (exec (Stmt.For _ _ _ _ _) _) _ _ _)
                     fail_if_success (with_reducible show wpAny _ _ (eval (Expr.ListComp _ _ _ _) _) _ _ _)
                     first | ((with_reducible show wpAny _ _ (call (Value.builtin _) [Value.str _ _, Value.str _ _, Value.str _ _]) _ _ _); refine' replaceT ?ra ?rb ?rc ?rd ?re ?rf ?_; (case ra => (show @Ne Nat _ _; omega)); (case rb => (show @Ne Nat _ _; omega)); (case rc => (show @Ne Nat _ _; omega)); (case rd => decide); (case re => omega); (case rf => decide); intro t' k' hk'; (try dsimp only at hk')) | (k_unfold; (try dsimp only)) | (k_end; wrow_close) | walk1 | (dsimp only; walk1) | (leave1; walk_say "STEP leave1"; try dsimp only) | fail "no step")))
  · have hz := (by assumption : (ways.fdiv (2 ^ ((k : Int)).toNat)).fmod 2 = 0)
    rw [fbit _ _ hw] at hz
    exact hQ1 hz _ _ _ _ (by assumption) (by walk_at "my.look") (by walk_at "my.look") (by walk_at "my.look") (by assumption)
  · refine eval_listcomp (cl := []) rfl rfl (by decide) ?_
    w_strict (
     repeat' (first | (fail_if_success (with_reducible show wpAny _ _ (pyIter _) _ _ _)
                       fail_if_success (with_reducible show wpAny _ _ (exec (Stmt.For _ _ _ _ _) _) _ _ _)
                       fail_if_success (with_reducible show wpAny _ _ (eval (Expr.ListComp _ _ _ _) _) _ _ _)
                       first | (k_unfold; (try dsimp only)) | (k_end; wrow_close) | walk1 | (dsimp only; walk1) | (leave1; walk_say "STEP leave1"; try dsimp only) | fail "no step")))
    rename Fr _ _ _ _ => F3
    rename News _ _ _ _ => N3
    refine comp_str (cs := [a, b]) (J := fun i vals nws => StrsAre vals ((([a, b] : List Nat).map fun c => Str.ofString "\\" ++ one c).take i) ∧ ∀ q ∈ tl, q ∈ nws) rfl (by decide) rfl rfl hasc (Nat.le_of_ble_eq_true rfl) F3 N3 ⟨.nil, fun _ h => h⟩ ?_ ?_
    · rintro C5 D5 I5 hI hID hDC i5 vals nws h5 tk5 oC oI mC nn c u E5 hi5 hc5 ⟨j1, j2⟩ F6 N6 hO hne
      clear F3 N3
      have hol : (one c).length = 1 := rfl
      w_strict (
       repeat' (first | (fail_if_success (with_reducible show wpAny _ _ (pyIter _) _ _ _)
                         fail_if_success (with_reducible show wpAny _ _ (exec (Stmt.For _ _ _ _ _) _) _ _ _)
                         fail_if_success (with_reducible show wpAny _ _ (eval (Expr.ListComp _ _ _ _) _) _ _ _)
                         first | (k_unfold; (try dsimp only)) | (k_end; wrow_close) | walk1 | (dsimp only; walk1) | (leave1; walk_say "STEP leave1"; try dsimp only) | fail "no step")))
      refine ⟨_, _, nws, oC, _, rfl, F6, N6, hO, hne, fun _ h => (nomatch h), ?_, j2⟩
      rw [List.take_add_one, List.getElem?_map, hc5]
      exact strs_append j1 (.cons _ _ .nil)
    · rintro C5 D5 hD hDC vals nws h5 tk5 oC mC nn ⟨j1, j2⟩ hl5 F6 N6 hO hne
      refine compPost_none F6 N6 hO hDC (fun p hp => (hne p hp).1) fun h3 F7 N7 => ?_
      clear F3 N3 F6 N6
      have hje : Txt.join (Str.ofString "") ((([a, b] : List Nat).map fun c => Str.ofString "\\" ++ one c).take ([a, b] : List Nat).length) = txt [92, a, 92, b] := by
        first | rfl | (apply Str.ext'; rfl) | (simp [Txt.join, txt, one]; done)
      have hjl : (txt [92, a, 92, b]).length = 4 := rfl
      w_strict (
       repeat' (first | (fail_if_success (with_reducible show wpAny _ _ (pyIter _) _ _ _)
                         fail_if_success (with_reducible show wpAny _ _ (exec (Stmt.For _ _ _ _ _) _) _ _ _)
                         fail_if_success (with_reducible show wpAny _ _ (eval (Expr.ListComp _ _ _ _) _) _ _ _)
                         first | ((with_reducible show wpAny _ _ (call (Value.builtin _) [Value.str _ _, Value.ref _]) _ _ _); refine' join_listW (News.isList N7 (.head _)) ?uS ?uL ?uW ?_; (case uS => exact j1); (case uL => decide); (case uW => exact Nat.le_of_ble_eq_true rfl); intro t' k'; rw [hje]) | (k_unfold; (try dsimp only)) | (k_end; wrow_close) | walk1 | (dsimp only; walk1) | (leave1; walk_say "STEP leave1"; try dsimp only) | fail "no step")))
      have hz := (by assumption : (ways.fdiv (2 ^ ((k : Int)).toNat)).fmod 2 ≠ 0)
      rw [fbit _ _ hw] at hz
      exact hQ2 hz _ _ _ _ _ (by assumption) (by walk_at "my.look") (by walk_at "my.look") (by walk_at "my.look") (by assumption) (fun q hq => .tail _ (j2 q hq))
theorem offWR2 : True := by
  w_top off
  exact True.intro
noncomputable def esc (c : Nat) : Bool × Nat := (decide (c = 34 ∨ c = 92), c)
noncomputable def pieceL (nx : Int → Int → Int) (ways : Int) (k : Nat) : List Nat :=
  if ways / 2 ^ k % 2 = 0 then 34 :: (enc [esc (cd (nx 0 k)), esc (cd (nx 1 k))] ++ [34]) else [92, cd (nx 0 k), 92, cd (nx 1 k), 10]
noncomputable def wrL (nx : Int → Int → Int) (ways : Int) : Nat → List Nat
  | 0 => []
  | k + 1 => wrL nx ways k ++ pieceL nx ways k
noncomputable def WordsIn (nx : Int → Int → Int) (wl : Addr) (news : List (Addr × Obj)) : Prop := ∃ (ts : Int → Tok) (n : Nat), (wl, listOf ([.str (wd nx 0) (ts 0), .str (wd nx 1) (ts 1), .str (wd nx 2) (ts 2), .str (wd nx 3) (ts 3)] : List Value).toArray n) ∈ news
theorem rep_all : ∀ a : Fin 4, ∀ b : Fin 4, Txt.replace (Txt.replace (txt [cd a.val, cd b.val]) (Str.ofString "\\") (Str.ofString "\\\\")) (Str.ofString "\"") (Str.ofString "\\\"") = txt (enc [esc (cd a.val), esc (cd b.val)]) ∧
    (Txt.replace (txt [cd a.val, cd b.val]) (Str.ofString "\\") (Str.ofString "\\\\")).length ≤ 4 ∧ (enc [esc (cd a.val), esc (cd b.val)]).length ≤ 4 := by decide +kernel
theorem rep_of {a b : Int} (ha : 0 ≤ a ∧ a < 4) (hb : 0 ≤ b ∧ b < 4) : Txt.replace (Txt.replace (txt [cd a, cd b]) (Str.ofString "\\") (Str.ofString "\\\\")) (Str.ofString "\"") (Str.ofString "\\\"") = txt (enc [esc (cd a), esc (cd b)]) ∧
    (Txt.replace (txt [cd a, cd b]) (Str.ofString "\\") (Str.ofString "\\\\")).length ≤ 4 ∧ (enc [esc (cd a), esc (cd b)]).length ≤ 4 := by
  obtain ⟨x, rfl⟩ := Int.eq_ofNat_of_zero_le ha.1
  obtain ⟨y, rfl⟩ := Int.eq_ofNat_of_zero_le hb.1
  exact rep_all ⟨x, by omega⟩ ⟨y, by omega⟩
theorem txt_app (a b : List Nat) : txt a ++ txt b = txt (a ++ b) := by
  apply Str.ext'
  rw [Str.cps_append]
  simp [txt]
theorem pieceL_len {nx : Int → Int → Int} (ways : Int) {k : Nat} (h0 : 0 ≤ nx 0 k ∧ nx 0 k < 4) (h1 : 0 ≤ nx 1 k ∧ nx 1 k < 4) : (pieceL nx ways k).length ≤ 6 := by
  have := (rep_of h0 h1).2.2
  unfold pieceL
  split
  · simp only [List.length_cons, List.length_append, List.length_nil]; omega
  · simp
theorem wrL_len {nx : Int → Int → Int} (hnx : ∀ b y, 0 ≤ y → y < 4 → 0 ≤ nx b y ∧ nx b y < 4) (ways : Int) : ∀ k : Nat, k ≤ 4 → (wrL nx ways k).length ≤ k * 6
  | 0, _ => Nat.le_refl _
  | k + 1, h => by
    have := wrL_len hnx ways k (by omega)
    have := pieceL_len ways (hnx 0 k (by omega) (by omega)) (hnx 1 k (by omega) (by omega))
    simp only [wrL, List.length_append]
    omega
theorem words_at {nx : Int → Int → Int} {ts : Int → Tok} {k : Nat} (hk : k < 4) : ([.str (wd nx 0) (ts 0), .str (wd nx 1) (ts 1), .str (wd nx 2) (ts 2), .str (wd nx 3) (ts 3)] : List Value)[((k : Int)).toNat]? = some (.str (txt [cd (nx 0 k), cd (nx 1 k)]) (ts k)) := by
  have : k = 0 ∨ k = 1 ∨ k = 2 ∨ k = 3 := by first | exact cs4_n (by first | assumption | omega) | exact cs4_z (by first | assumption | omega) (by first | assumption | omega)
  rcases this with rfl | rfl | rfl | rfl <;> rfl
set_option maxRecDepth 100000 in
set_option maxHeartbeats 8000000 in
theorem law_written {w : World} {mean : ExcName → Option Value} {mg mb : Str → Option Value} {nx : Int → Int → Int} {wl : Addr} {ways : Int} {t0 : Tok} {news : List (Addr × Obj)} (hW : WordsIn nx wl news) (hnx : ∀ b y, 0 ≤ y → y < 4 → 0 ≤ nx b y ∧ nx b y < 4) (hw : 0 ≤ ways) :
    Does w mean mg mb 640 1400 (.ref 174) [.ref wl, .int ways t0] news (fun r n' => (∃ t, r = .str (txt (wrL nx ways 4 ++ [122])) t) ∧ ∀ q ∈ news, q ∈ n') := by
  obtain ⟨ts, nw, hwl⟩ := hW
  refine does_of ?_
  w_strict (
   k_fill
   intro ns g c mo lo gl ce qq fu co bu outer A₀ base h₀ L m s Q E B F X N T codeHd hret
   k_dflt k_enter
   repeat' (first | (fail_if_success (with_reducible show wpAny _ _ (pyIter _) _ _ _)
                     fail_if_success (with_reducible show wpAny _ _ (exec (Stmt.For _ _ _ _ _) _) _ _ _)
                     fail_if_success (with_reducible show wpAny _ _ (eval (Expr.ListComp _ _ _ _) _) _ _ _)
                     first | (k_unfold; (try dsimp only)) | (k_end; wrow_close) | walk1 | (dsimp only; walk1) | (leave1; walk_say "STEP leave1"; try dsimp only) | fail "no step")))
  refine wpAny_For ?_
  w_strict (
   repeat' (first | (fail_if_success (with_reducible show wpAny _ _ (pyIter _) _ _ _)
                     fail_if_success (with_reducible show wpAny _ _ (exec (Stmt.For _ _ _ _ _) _) _ _ _)
                     fail_if_success (with_reducible show wpAny _ _ (eval (Expr.ListComp _ _ _ _) _) _ _ _)
                     first | (k_unfold; (try dsimp only)) | (k_end; wrow_close) | walk1 | (dsimp only; walk1) | (leave1; walk_say "STEP leave1"; try dsimp only) | fail "no step")))
  rename_i g2 L2 h7 FG2 B1 X1 T1 tk7 F9 N9 h9 tk9 ta tb tc hR1 F3 N3 hk3
  refine for_range (n := 4) (fun k m' n' => m' (Str.ofString "words") = some (.ref wl) ∧ m' (Str.ofString "ways") = some (.int ways t0) ∧ (∃ t, m' (Str.ofString "text") = some (.str (txt (wrL nx ways k)) t)) ∧ ∀ q ∈ news, q ∈ n') rfl rfl rfl hR1 (by decide +kernel) (by decide +kernel) F3 N3 ?_ ?_ ?_
  · exact ⟨by walk_at "my.look", by walk_at "my.look", ⟨_, by walk_at "my.look"⟩, fun _ h => h⟩
  · rintro I hI k m1 n1 h1 tk t' ri E' hi ⟨j1, j2, ⟨tx, j3⟩, j4⟩ hne F4 N4
    have ei : (0 : Int) + (k : Int) * 1 = (k : Int) := by omega
    rw [ei] at F4
    have y0 := hnx 0 k (by omega) (by omega)
    have y1 := hnx 1 k (by omega) (by omega)
    obtain ⟨r1, r2, r3⟩ := rep_of y0 y1
    have hlx := wrL_len hnx ways k (by omega)
    refine wr_turn (a := cd (nx 0 k)) (b := cd (nx 1 k)) hi hw (.tail _ (j4 _ hwl)) (words_at hi) r2 (by rw [r1, txt_len]; omega) (cd_lt _) (cd_lt _) (by rw [txt_len]; omega) B1 T1 codeHd F4 N4 j1 j2 j3 ?_ ?_ X1
    · intro hb h' tk' m' t' F5 e1 e2 e3 N5
      have e4 : txt (wrL nx ways k) ++ (Str.ofString "\"" ++ Txt.replace (Txt.replace (txt [cd (nx 0 k), cd (nx 1 k)]) (Str.ofString "\\") (Str.ofString "\\\\")) (Str.ofString "\"") (Str.ofString "\\\"") ++ Str.ofString "\"") = txt (wrL nx ways (k + 1)) := by
        rw [r1, show Str.ofString "\"" = txt [34] from rfl, txt_app, txt_app, txt_app]
        simp only [wrL, pieceL, if_pos hb]
        rfl
      rw [e4] at e3
      exact REnd.of F5 N5 hne ⟨e1, e2, ⟨_, e3⟩, j4⟩
    · intro hb h' tk' m' t' n' F5 e1 e2 e3 N5 hK5
      have e4 : txt (wrL nx ways k) ++ (txt [92, cd (nx 0 k), 92, cd (nx 1 k)] ++ Str.ofString "\n") = txt (wrL nx ways (k + 1)) := by
        rw [show Str.ofString "\n" = txt [10] from rfl, txt_app, txt_app]
        simp only [wrL, pieceL, if_neg hb]
        rfl
      rw [e4] at e3
      exact REnd.of F5 (news' := cut [I] n') (List.forall_mem_cons.mpr ⟨N5 _ (hK5 _ (.head _)), fun p hp => N5 p (cut_sub p hp)⟩) (cut_ne (.head _)) ⟨e1, e2, ⟨_, e3⟩, fun q hq => mem_cut (hK5 q (.tail _ (j4 q hq))) (by simpa using hne q (j4 q hq))⟩
  · rintro m1 n1 h1 tk ⟨j1, j2, ⟨tx, j3⟩, j4⟩ F4 N4
    have hlx := wrL_len hnx ways 4 (Nat.le_refl _)
    have hle : (txt (wrL nx ways 4)).length ≤ 24 := by rw [txt_len]; exact hlx
    dsimp only
    clear F3 N3 F9 N9
    w_strict (
     repeat' (first | (fail_if_success (with_reducible show wpAny _ _ (pyIter _) _ _ _)
                       fail_if_success (with_reducible show wpAny _ _ (exec (Stmt.For _ _ _ _ _) _) _ _ _)
                       fail_if_success (with_reducible show wpAny _ _ (eval (Expr.ListComp _ _ _ _) _) _ _ _)
                       first | (k_unfold; (try dsimp only)) | (k_end; wrow_close) | walk1 | (dsimp only; walk1) | (leave1; walk_say "STEP leave1"; try dsimp only) | fail "no step")))
    have ez : txt (wrL nx ways 4) ++ Str.ofString "z" = txt (wrL nx ways 4 ++ [122]) := by rw [show Str.ofString "z" = txt [122] from rfl, txt_app]
    rw [ez]
    exact hret _ _ _ _ (by assumption) (by assumption) ⟨⟨_, rfl⟩, j4⟩
theorem offCE0 : True := by
  w_top off
  exact True.intro
noncomputable def ceFor : Stmt := nth (bodyOf (topN 10)) 1
set_option maxRecDepth 100000 in
set_option maxHeartbeats 8000000 in
theorem ce_turn {w : World} {mean : ExcName → Option Value} {mg mb : Str → Option Value} {cl L : Addr} {i : Nat} {xv bd : Int} {vs : List Value} {ns : List Int} {t1 t2 : Tok} {s : Shared} {nn : Nat}
    {outer : List Env} {A₀ : Around} {base g h : Heap} {tk : Nat} {m : Str → Option Value} {tl : List (Addr × Obj)} {Q : Flow → Shared → Prop} {E : Value → Shared → Prop}
    (hne : ∀ p ∈ tl, p.1 ≠ cl) (hI : IntsAre vs ns) (hl3 : ns.length = 3) (h0 : ∀ y ∈ ns, 0 ≤ y ∧ y ≤ bd) (hbd : 0 ≤ bd)
    (B : Below A₀ base outer g) (T : Top topProg looseL mean mg mb g) (codeHd : CodeHd base 168 164)
    (F : Fr g L h (fun y => if y = Str.ofString "x" then some (.int xv t2) else if y = Str.ofString "k" then some (.int (i : Int) t1) else m y)) (N : News g L h ((cl, listOf vs.toArray nn) :: tl))
    (h1 : m (Str.ofString "cells") = some (.ref cl))
    (hQ : ∀ h' tk' m' vs' ns', Fr g L h' m' → m' (Str.ofString "cells") = some (.ref cl) → News g L h' ((cl, listOf vs'.toArray nn) :: tl) → IntsAre vs' ns' → ns'.length = 3 → (∀ y ∈ ns', 0 ≤ y ∧ y ≤ bd + 1000000) → Q .next { s with heap := h', toks := tk' }) :
    (frag.heap_1 w.params).In g → wpAny (model Challenge.rw_ty0016_01.row.prog w) { handled := none, depth := 641, frames := some (envOf (Str.ofString "_law_cells") (scopeOf (topN 10)) L 162 (.ref 161) :: outer), guards := some [], units := 1403 }
      (execs (bodyOf ceFor) (envOf (Str.ofString "_law_cells") (scopeOf (topN 10)) L 162 (.ref 161))) Q E { s with heap := h, toks := tk } := by
  have e1 : bodyOf ceFor = [Stmt.AugAssign _ _ _ _] := rfl
  have e3 : scopeOf (topN 10) = Scope.mk _ _ _ _ _ := rfl
  rw [e1, e3]
  clear e1 e3
  have hm : 0 ≤ (i : Int).fmod 3 ∧ (i : Int).fmod 3 < 3 := by
    rw [Int.fmod_eq_emod_of_nonneg _ (by decide)]; omega
  have hm2 : (i : Int).fmod 3 < (ns.length : Int) := by rw [hl3]; exact hm.2
  have hm3 : (i : Int).fmod 3 < 2 ^ 63 := Int.lt_trans hm.2 (by decide)
  have hx1 : xv.fmod 1000000 < 1000000 := by rw [Int.fmod_eq_emod_of_nonneg _ (by decide)]; omega
  have hx0 : 0 ≤ xv.fmod 1000000 := by rw [Int.fmod_eq_emod_of_nonneg _ (by decide)]; omega
  k_fill
  intro X
  w_strict (
   repeat' (first | (fail_if_success (with_reducible show wpAny _ _ (pyIter _) _ _ _)
                     fail_if_success (with_reducible show wpAny _ _ (exec (Stmt.For _ _ _ _ _) _) _ _ _)
                     fail_if_success (with_reducible show wpAny _ _ (eval (Expr.ListComp _ _ _ _) _) _ _ _)
                     first | ((with_reducible show wpAny _ _ (getItem (Value.ref _) (Value.int _ _)) _ _ _); refine ksa_get N (.head _) hI hm.1 hm2 hm3 ?_; intro tg) | ((with_reducible show wpAny _ _ (setItem (Value.ref _) (Value.int _ _) (Value.int _ _)) _ _ _); refine ksa_set F N (.head hne) hI hm.1 hm2 hm3 ?_; intro h' F' N') | (k_unfold; (try dsimp only)) | (k_end; wrow_close) | walk1 | (dsimp only; walk1) | (leave1; walk_say "STEP leave1"; try dsimp only) | fail "no step")))
  have hg : 0 ≤ ns.getD ((i : Int).fmod 3).toNat 0 ∧ ns.getD ((i : Int).fmod 3).toNat 0 ≤ bd := by
    rw [List.getD_eq_getElem?_getD]
    cases e : ns[((i : Int).fmod 3).toNat]? with
    | none => exact ⟨Int.le_refl _, hbd⟩
    | some y => exact h0 y (List.mem_of_getElem? e)
  refine hQ _ _ _ _ (ns.set ((i : Int).fmod 3).toNat (ns.getD ((i : Int).fmod 3).toNat 0 + xv.fmod 1000000)) F' (by walk_at "my.look") N' (by assumption) (by rw [List.length_set]; exact hl3) ?_
  intro y hy
  rcases List.mem_or_eq_of_mem_set hy with hy | rfl
  · have := h0 y hy
    omega
  · omega
theorem offCE1 : True := by
  w_top off
  exact True.intro
theorem ints_get : ∀ {vs : List Value} {ns : List Int}, IntsAre vs ns → ∀ {i : Nat} {v : Value}, vs[i]? = some v → ∃ x t, v = .int x t
  | _, _, .nil, _, _, h => by simp at h
  | _, _, .cons n t h, 0, v, e => by simp at e; exact ⟨n, t, e.symm⟩
  | _, _, .cons n t h, i + 1, v, e => ints_get h (by simpa using e)
theorem ints3 {vs : List Value} {ns : List Int} (h : IntsAre vs ns) (h3 : ns.length = 3) (h0 : ∀ y ∈ ns, 0 ≤ y ∧ y < 100000000) : ∃ a b c ta tb tc, vs = [.int a ta, .int b tb, .int c tc] ∧ (0 ≤ a ∧ a < 100000000) ∧ (0 ≤ b ∧ b < 100000000) ∧ (0 ≤ c ∧ c < 100000000) := by
  cases h with
  | nil => cases h3
  | cons a ta h =>
    cases h with
    | nil => cases h3
    | cons b tb h =>
      cases h with
      | nil => cases h3
      | cons c tc h =>
        cases h with
        | nil => exact ⟨a, b, c, ta, tb, tc, rfl, h0 a (.head _), h0 b (.tail _ (.head _)), h0 c (.tail _ (.tail _ (.head _)))⟩
        | cons d td h => simp at h3
set_option maxRecDepth 100000 in
set_option maxHeartbeats 8000000 in
theorem law_cells {w : World} {mean : ExcName → Option Value} {mg mb : Str → Option Value} {sl : Addr} {vs : List Value} {ns9 : List Int} {news : List (Addr × Obj)} (hI9 : IntsAre vs ns9) (hlen : vs.length ≤ 63)
    (ns : List (Str × NameKind)) (g c : Bool) (mo : List (Str × Const)) (lo gl : Addr) (ce : List (Str × Addr)) (qq : Str) (fu : Option Addr) (co : Value) (bu : Addr)
    (outer : List Env) (A₀ : Around) (base h₀ : Heap) (L : Addr) (m : Str → Option Value) (s : Shared) (Q E : Value → Shared → Prop)
    (B : Below A₀ base outer h₀) (F : Fr h₀ L s.heap m) (N : News h₀ L s.heap news) (T : Top topProg looseL mean mg mb h₀) (codeHd : CodeHd base 168 164) (hS : h₀.IsList sl vs.toArray)
    (hret : ∀ r news' h' tk', Fr h₀ L h' m → News h₀ L h' news' → (∃ cl a b c ta tb tc n, r = .ref cl ∧ (cl, listOf ([.int a ta, .int b tb, .int c tc] : List Value).toArray n) ∈ news' ∧ (0 ≤ a ∧ a < 100000000) ∧ (0 ≤ b ∧ b < 100000000) ∧ (0 ≤ c ∧ c < 100000000)) → (∀ q ∈ news, q ∈ news') → Q r { s with heap := h', toks := tk' }) :
    (frag.heap_1 w.params).In h₀ → codeAny (model Challenge.rw_ty0016_01.row.prog w) { handled := none, depth := 640, frames := some (envV ns g c mo lo gl ce qq fu co bu L :: outer), guards := some [], units := 1400 } (.call (.ref 162) ⟨[.ref sl], []⟩) (fun r s' => match r with | .ok (.ret v) => Q v s' | .ok _ => False | .error e => E e s') s := by
  k_fill
  intro X
  w_strict (
   k_dflt k_enter)
  rename Fr h₀ _ _ _ => FG9
  have hS2 := hS.at fun o e => FG9.keep _ _ e
  w_strict (
   repeat' (first | (fail_if_success (with_reducible show wpAny _ _ (pyIter _) _ _ _)
                     fail_if_success (with_reducible show wpAny _ _ (exec (Stmt.For _ _ _ _ _) _) _ _ _)
                     fail_if_success (with_reducible show wpAny _ _ (eval (Expr.ListComp _ _ _ _) _) _ _ _)
                     first | (k_unfold; (try dsimp only)) | (k_end; wrow_close) | walk1 | (dsimp only; walk1) | (leave1; walk_say "STEP leave1"; try dsimp only) | fail "no step")))
  refine wpAny_For ?_
  w_strict (
   repeat' (first | (fail_if_success (with_reducible show wpAny _ _ (pyIter _) _ _ _)
                     fail_if_success (with_reducible show wpAny _ _ (exec (Stmt.For _ _ _ _ _) _) _ _ _)
                     fail_if_success (with_reducible show wpAny _ _ (eval (Expr.ListComp _ _ _ _) _) _ _ _)
                     first | (k_unfold; (try dsimp only)) | (k_end; wrow_close) | walk1 | (dsimp only; walk1) | (leave1; walk_say "STEP leave1"; try dsimp only) | fail "no step")))
  rename_i g2 L2 h7 B1 X1 T1 cl h6 l11 h5 D ws h4 F3 N3 hI3 hC3 hL3 l10
  have hDl := (N3 _ (.head _)).1
  refine call_enumerate_1 hDl fun h8 he hit hz hk8 => ?_
  refine wpAny_pyIter_enum he ?_
  dsimp only at he hit hz hk8
  have hSz : ∀ p ∈ (D, listOf ws.toArray 0) :: (cl, listOf ([.int 28033 _, .int 22 _, .int 9911 _] : List Value).toArray 0) :: news, @LT.lt Nat _ p.1 h4.objs.size := fun p hp => Heap.lt_size (N3 p hp).1
  have hnew : ∀ b, @LE.le Nat _ h4.objs.size b → g2.get? b = none := fun b hb => by
    cases e : g2.get? b with
    | none => rfl
    | some o => exact absurd (Heap.lt_size (F3.keep _ _ e)) (Nat.not_lt.mpr hb)
  have hL2 : @LT.lt Nat _ L2 h4.objs.size := F3.ns.lt
  obtain ⟨oi, hoi, hoi2⟩ := id hit
  have hclD : @LT.lt Nat _ cl D := l10.1
  have hcls : @LT.lt Nat _ cl h4.objs.size := hSz _ (.tail _ (.head _))
  have hneS : ∀ p ∈ (D, listOf ws.toArray 0) :: (cl, listOf ([.int 28033 _, .int 22 _, .int 9911 _] : List Value).toArray 0) :: news, p.1 ≠ h4.objs.size + 1 ∧ p.1 ≠ h4.objs.size := fun p hp => ⟨Nat.ne_of_lt (Nat.lt_succ_of_lt (hSz p hp)), Nat.ne_of_lt (hSz p hp)⟩
  refine for_enum_loop (s := { heap := h4, gens := s.gens, drawn := s.drawn, toks := tk + 1, os := s.os }) (its := ws) (nl := 0) (fun i m' n' => m' (Str.ofString "cells") = some (.ref cl) ∧ (∃ vs ns nn, (cl, listOf vs.toArray nn) ∈ n' ∧ IntsAre vs ns ∧ ns.length = 3 ∧ ∀ y ∈ ns, 0 ≤ y ∧ y ≤ 30000 + (i : Int) * 1000000) ∧ ∀ q ∈ news, q ∈ n') rfl rfl rfl rfl (Nat.succ_ne_self _) ?_ ?_ ws.length 0 _ _ h8 (tk + 1) _ oi .none (by omega) he hit ?_ (.head _) hneS (F3.keeps hk8) (List.forall_mem_cons.mpr ⟨⟨he, Nat.ne_of_gt (Nat.lt_succ_of_lt hL2), hnew _ (Nat.le_succ _)⟩, List.forall_mem_cons.mpr ⟨⟨hoi, Nat.ne_of_gt hL2, hnew _ (Nat.le_refl _)⟩, N3.grown hk8⟩⟩)
  · rintro i m1 n1 h1 tk1 t1 oe oi1 v E' hi hv ⟨j1, ⟨vs1, ns1, nn1, j2, j3, j4, j5⟩, j6⟩ hside hne F4 N4
    obtain ⟨xv, tx, rfl⟩ := ints_get hI3 hv
    have hclx := hne _ j2
    have hDc : D ≠ cl := Nat.ne_of_gt hclD
    refine ce_turn (cl := cl) (tl := cut [cl] ((_, oe) :: (_, oi1) :: n1)) (cut_ne (.head _)) j3 j4 j5 (by omega) B1 T1 codeHd F4 (List.forall_mem_cons.mpr ⟨N4 _ (.tail _ (.tail _ j2)), fun p hp => N4 p (cut_sub p hp)⟩) j1 ?_ X1
    intro h' tk' m' vs' ns' F5 e1 N5 hI5 hl5 h05
    refine ⟨h', tk', m', (cl, listOf vs'.toArray nn1) :: cut [cl] n1, rfl, F5, ?_, ?_, .tail _ (mem_cut hside (by simpa using hDc)), e1, ⟨vs', ns', nn1, .head _, hI5, hl5, fun y hy => by have := h05 y hy; omega⟩, fun q hq => .tail _ (mem_cut (j6 q hq) (by simpa using (Nat.ne_of_lt (l11 q hq) : @Ne Nat q.1 cl)))⟩
    · refine List.forall_mem_cons.mpr ⟨N5 _ (.tail _ (mem_cut (.head _) (by simpa using hclx.1.symm))), List.forall_mem_cons.mpr ⟨N5 _ (.tail _ (mem_cut (.tail _ (.head _)) (by simpa using hclx.2.symm))), List.forall_mem_cons.mpr ⟨N5 _ (.head _), fun p hp => N5 p (.tail _ (mem_cut (.tail _ (.tail _ (cut_sub p hp))) (by simpa using cut_ne (a := cl) (.head _) p hp)))⟩⟩⟩
    · exact List.forall_mem_cons.mpr ⟨hclx, fun p hp => hne p (cut_sub p hp)⟩
  · rintro m1 n1 h1 tk1 ⟨j1, ⟨vs1, ns1, nn1, j2, j3, j4, j5⟩, j6⟩ F4 N4
    obtain ⟨a, b, c', ta, tb, tc, rfl, a0, b0, c0⟩ := ints3 j3 j4 (fun y hy => by have := j5 y hy; have hw := hI3.length; omega)
    dsimp only
    clear F3 N3
    w_strict (
     repeat' (first | (fail_if_success (with_reducible show wpAny _ _ (pyIter _) _ _ _)
                       fail_if_success (with_reducible show wpAny _ _ (exec (Stmt.For _ _ _ _ _) _) _ _ _)
                       fail_if_success (with_reducible show wpAny _ _ (eval (Expr.ListComp _ _ _ _) _) _ _ _)
                       first | (k_unfold; (try dsimp only)) | (k_end; wrow_close) | walk1 | (dsimp only; walk1) | (leave1; walk_say "STEP leave1"; try dsimp only) | fail "no step")))
    exact hret _ _ _ _ (by assumption) (by assumption) ⟨cl, a, b, c', ta, tb, tc, nn1, rfl, j2, a0, b0, c0⟩ j6
  · exact ⟨by walk_at "my.look", ⟨_, [28033, 22, 9911], 0, .tail _ (.head _), .cons _ _ (.cons _ _ (.cons _ _ .nil)), rfl, by decide⟩, fun q hq => .tail _ (.tail _ hq)⟩
theorem offCE2 : True := by
  w_top off
  exact True.intro
theorem cells_use {w : World} {mean : ExcName → Option Value} {mg mb : Str → Option Value} {sl : Addr} {vs : List Value} {ns9 : List Int} {news : List (Addr × Obj)} {d u : Nat} {env : Env} {outer : List Env} {A A₀ : Around} {base h₀ : Heap} {L : Addr} {m : Str → Option Value} {s : Shared} {Q E : Value → Shared → Prop}
    (hI9 : IntsAre vs ns9) (hlen : vs.length ≤ 63) (hA : A = { handled := none, depth := d, frames := some (env :: outer), guards := some [], units := u }) (hdp : d ≤ 640) (hup : u ≤ 1400) (hf : env.frame = some L) (hk : env.scope.kind = .function)
    (B : Below A₀ base outer h₀) (F : Fr h₀ L s.heap m) (X : (frag.heap_1 w.params).In h₀) (N : News h₀ L s.heap news) (T : Top topProg looseL mean mg mb h₀) (codeHd : CodeHd base 168 164) (hS : h₀.IsList sl vs.toArray)
    (hret : ∀ r news' h' tk', Fr h₀ L h' m → News h₀ L h' news' → (∃ cl a b c ta tb tc n, r = .ref cl ∧ (cl, listOf ([.int a ta, .int b tb, .int c tc] : List Value).toArray n) ∈ news' ∧ (0 ≤ a ∧ a < 100000000) ∧ (0 ≤ b ∧ b < 100000000) ∧ (0 ≤ c ∧ c < 100000000)) → (∀ q ∈ news, q ∈ news') → Q r { s with heap := h', toks := tk' }) :
    wpAny (model Challenge.rw_ty0016_01.row.prog w) A (call (.ref 162) [.ref sl] []) Q E s := by
  subst hA
  obtain ⟨⟨k, ns, g, c, mo⟩, lo, gl, ce, q, fu, co, fr, bu⟩ := env
  subst hf hk
  exact wpAny_call (code_deeper hdp hup (law_cells hI9 hlen ns g c mo lo gl ce q fu co bu outer A₀ base h₀ L m s Q E B F N T codeHd hS hret X))
theorem offLB0 : True := by
  w_top off
  exact True.intro
noncomputable abbrev lettersS : Str := Str.ofString "\"\\ #"
noncomputable abbrev lawEnv (L fa : Addr) (cd : Value) : Env := envOfC (Str.ofString "law") (scopeOf (topN 17)) L fa cd
noncomputable abbrev lawA (L fa : Addr) (cd : Value) : Around := callerA.deeper (lawEnv L fa cd)
noncomputable def lawS (i : Nat) : Stmt := nth (bodyOf (topN 17)) i
/-- the i-th cell of the frame holds v -/
noncomputable def CelIn (L : Addr) (i : Nat) (v : Option Value) (n : List (Addr × Obj)) : Prop := ∃ o, (L + i, o) ∈ n ∧ o.data = .cell v
theorem CelIn.to {L : Addr} {i j : Nat} {v : Option Value} {n n' : List (Addr × Obj)} (h : CelIn L j v n) (hij : j ≠ i) (hk : ∀ q ∈ n, q.1 ≠ L + i → q ∈ n') : CelIn L j v n' := by
  obtain ⟨o, h1, h2⟩ := h
  refine ⟨o, hk _ h1 ?_, h2⟩
  show @Ne Nat (L + j) (L + i)
  omega
theorem CelIn.mono {L : Addr} {j : Nat} {v : Option Value} {n n' : List (Addr × Obj)} (h : CelIn L j v n) (hk : ∀ q ∈ n, q ∈ n') : CelIn L j v n' := by
  obtain ⟨o, h1, h2⟩ := h
  exact ⟨o, hk _ h1, h2⟩
noncomputable def NoCell (o : Obj) : Prop := ∀ v, o.data ≠ .cell v
theorem CelIn.keep {L : Addr} {i : Nat} {v : Option Value} {n n' : List (Addr × Obj)} {g h : Heap} {L' : Addr} (N : News g L' h n) (hc : CelIn L i v n) (hk : ∀ q ∈ n, q.1 ≠ L + i → q ∈ n') : ∀ q ∈ n, NoCell q.2 → q ∈ n' := by
  obtain ⟨o, h1, h2⟩ := hc
  exact fun q hq hn => hk q hq (neD N (a := q.1) (o1 := q.2) hq h1 (by rw [h2]; exact hn _))
theorem cl_seq {cls : Value} {its : Array Value} {n : Nat} : NoCell { cls := cls, data := .seq its n } := fun v e => nomatch e
set_option maxRecDepth 100000 in
set_option maxHeartbeats 8000000 in
theorem law_s0 {w : World} {mean : ExcName → Option Value} {mg mb : Str → Option Value} {sl L fa : Addr} {cd : Value} {vs : List Value} {ns9 : List Int} {s : Shared} {v0 : Option Value}
    {g : Heap} {m : Str → Option Value} {n : List (Addr × Obj)} {Q : Flow → Shared → Prop} {E : Value → Shared → Prop} (hI9 : IntsAre vs ns9) (hlen : vs.length ≤ 63) (hS : g.IsList sl vs.toArray)
    (B : Below callerA g [] g) (T : Top topProg looseL mean mg mb g) (codeHd : CodeHd g 168 164) (F : Fr g L s.heap m) (N : News g L s.heap n) (h1 : m (Str.ofString "script") = some (.ref sl)) (hc : CelIn L 1 v0 n)
    (hQ : ∀ h' tk' n' cl a b c ta tb tc k, Fr g L h' m → News g L h' n' → (cl, listOf ([.int a ta, .int b tb, .int c tc] : List Value).toArray k) ∈ n' → (0 ≤ a ∧ a < 100000000) ∧ (0 ≤ b ∧ b < 100000000) ∧ (0 ≤ c ∧ c < 100000000) → CelIn L 1 (some (.ref cl)) n' → (∀ q ∈ n, q.1 ≠ L + 1 → q ∈ n') → Q .next { s with heap := h', toks := tk' }) :
    (frag.heap_1 w.params).In g → wpAny (model Challenge.rw_ty0016_01.row.prog w) (lawA L fa cd) (exec (lawS 0) (lawEnv L fa cd)) Q E s := by
  have e1 : lawS 0 = Stmt.Assign _ _ _ := rfl
  have e3 : scopeOf (topN 17) = Scope.mk _ _ _ _ _ := rfl
  unfold lawA lawEnv
  rw [e1, e3]
  clear e1 e3
  k_fill
  intro X
  w_strict (
   repeat' (first | (fail_if_success (with_reducible show wpAny _ _ (pyIter _) _ _ _)
                     fail_if_success (with_reducible show wpAny _ _ (exec (Stmt.For _ _ _ _ _) _) _ _ _)
                     fail_if_success (with_reducible show wpAny _ _ (eval (Expr.ListComp _ _ _ _) _) _ _ _)
                     first | ((with_reducible show wpAny _ _ (call (Value.ref _) _ _) _ _ _); refine' cells_use hI9 hlen ?uA ?uD ?uU ?uF ?uK ?uB ?uR ?uX ?uN ?uT ?uC hS ?_; (case uA => exact rfl); (case uD => exact Nat.le_of_ble_eq_true rfl); (case uU => exact Nat.le_of_ble_eq_true rfl); (case uF => exact rfl); (case uK => exact rfl); (case uB => k_asm); (case uR => k_asm); (case uX => k_in); (case uN => k_asm); (case uT => k_asm); (case uC => k_asm); k_whole; intro r' n' h' tk' F' N' P' hK'; (obtain ⟨cl, a, b, c, ta, tb, tc, k9, e1, hcl, h0⟩ := P'; subst e1)) | (k_unfold; (try dsimp only)) | (k_end; wrow_close) | walk1 | (dsimp only; walk1) | (leave1; walk_say "STEP leave1"; try dsimp only) | fail "no step")))
  obtain ⟨o0, hc1, hc2⟩ := hc
  refine store_cell F' N' (hK' _ hc1) hc2 rfl ?_
  intro h2 o2 F2 N2 hd2
  have hne : cl ≠ L + 1 := neD N' hcl (hK' _ hc1) (by rw [hc2]; exact fun e => nomatch e)
  exact hQ _ _ _ cl a b c ta tb tc k9 F2 N2 (.tail _ (mem_cut hcl (by simpa using hne))) h0 ⟨o2, .head _, hd2⟩ fun q hq hn => .tail _ (mem_cut (hK' q hq) (by simpa using hn))
theorem offLB1 : True := by
  w_top off
  exact True.intro
set_option maxRecDepth 100000 in
set_option maxHeartbeats 8000000 in
theorem law_s1 {w : World} {mean : ExcName → Option Value} {mg mb : Str → Option Value} {L fa : Addr} {cd : Value} {s : Shared} {v0 : Option Value}
    {g : Heap} {m : Str → Option Value} {n : List (Addr × Obj)} {Q : Flow → Shared → Prop} {E : Value → Shared → Prop}
    (B : Below callerA g [] g) (T : Top topProg looseL mean mg mb g) (codeHd : CodeHd g 168 164) (F : Fr g L s.heap m) (N : News g L s.heap n) (hc : CelIn L 2 v0 n)
    (hQ : ∀ h' tk' n' t, Fr g L h' m → News g L h' n' → CelIn L 2 (some (.str lettersS t)) n' → (∀ q ∈ n, q.1 ≠ L + 2 → q ∈ n') → Q .next { s with heap := h', toks := tk' }) :
    (frag.heap_1 w.params).In g → wpAny (model Challenge.rw_ty0016_01.row.prog w) (lawA L fa cd) (exec (lawS 1) (lawEnv L fa cd)) Q E s := by
  have e1 : lawS 1 = Stmt.Assign _ _ _ := rfl
  have e3 : scopeOf (topN 17) = Scope.mk _ _ _ _ _ := rfl
  unfold lawA lawEnv
  rw [e1, e3]
  clear e1 e3
  obtain ⟨o, hc1, hc2⟩ := hc
  k_fill
  intro X
  w_strict (
   repeat' (first | (fail_if_success (with_reducible show wpAny _ _ (pyIter _) _ _ _)
                     fail_if_success (with_reducible show wpAny _ _ (exec (Stmt.For _ _ _ _ _) _) _ _ _)
                     fail_if_success (with_reducible show wpAny _ _ (eval (Expr.ListComp _ _ _ _) _) _ _ _)
                     first | (k_unfold; (try dsimp only)) | (k_end; wrow_close) | walk1 | (dsimp only; walk1) | (leave1; walk_say "STEP leave1"; try dsimp only) | fail "no step")))
  refine store_cell F N hc1 hc2 rfl ?_
  intro h' o' F' N' hd'
  exact hQ _ _ _ _ F' N' ⟨o', .head _, hd'⟩ fun q hq hn => .tail _ (mem_cut hq (by simpa using hn))
noncomputable def Hidden (p : Prop) : Prop := p
theorem fdivH {prog : Program} {w : World} {A : Around} {E : Value → Shared → Prop} {s : Shared} {a b : Int} {t u : Tok} {Q : Value → Shared → Prop} (hb : Hidden (0 < b ∧ Builtin.divisionGoesByPylong a b = false)) (ha : 0 ≤ a)
    (h : ∀ z t' k, Hidden (z = a.fdiv b) → 0 ≤ z → z ≤ a → Q (.int z t') { s with toks := k }) : wpAny (model prog w) A (binaryOp .FloorDiv (.int a t) (.int b u)) Q E s := by
  obtain ⟨h1, h2⟩ := hb
  refine floordiv_int (Int.ne_of_gt h1) ?_ (Or.inl h2)
  refine h _ _ _ rfl ?_ ?_
  · rw [Int.fdiv_eq_ediv_of_nonneg _ (Int.le_of_lt h1)]
    exact Int.ediv_nonneg ha (Int.le_of_lt h1)
  · rw [Int.fdiv_eq_ediv_of_nonneg _ (Int.le_of_lt h1)]
    exact Int.ediv_le_self _ ha
/-- what the k-th letter stands for, as the cells say -/
noncomputable def nxC (a : Int) (b x : Int) : Int := if b = 0 then a / 16 ^ x.toNat / 4 % 4 else a / 16 ^ x.toNat % 4
theorem nxC_in (a : Int) : ∀ b y, 0 ≤ y → y < 4 → 0 ≤ nxC a b y ∧ nxC a b y < 4 := by
  intro b y _ _
  unfold nxC
  split <;> omega
theorem nxC0 (a : Int) (i : Nat) : ((a.fdiv (16 ^ ((i : Int)).toNat)).fdiv 4).fmod 4 = nxC a 0 i := by
  have h2 : (0 : Int) ≤ 16 ^ i := Int.pow_nonneg (by decide)
  rw [Int.toNat_natCast, Int.fdiv_eq_ediv_of_nonneg _ h2, Int.fdiv_eq_ediv_of_nonneg _ (by decide), Int.fmod_eq_emod_of_nonneg _ (by decide)]
  simp [nxC]
theorem nxC1 (a : Int) (i : Nat) : (a.fdiv (16 ^ ((i : Int)).toNat)).fmod 4 = nxC a 1 i := by
  have h2 : (0 : Int) ≤ 16 ^ i := Int.pow_nonneg (by decide)
  rw [Int.toNat_natCast, Int.fdiv_eq_ediv_of_nonneg _ h2, Int.fmod_eq_emod_of_nonneg _ (by decide)]
  simp [nxC]
theorem four_of {α : Type} {l : List α} (h : l.length = 4) : ∃ a b c d, l = [a, b, c, d] := by
  cases l with
  | nil => cases h
  | cons a l =>
    cases l with
    | nil => cases h
    | cons b l =>
      cases l with
      | nil => cases h
      | cons c l =>
        cases l with
        | nil => cases h
        | cons d l =>
          cases l with
          | nil => exact ⟨a, b, c, d, rfl⟩
          | cons e l => simp at h
/-- the first pairs of the comprehension -/
noncomputable def PairsUp (nx : Int → Int → Int) (vals : List Value) (i : Nat) (n : List (Addr × Obj)) : Prop := vals.length = i ∧ ∀ j, j < i → ∃ pa ta tb, vals[j]? = some (.ref pa) ∧ (pa, tupOf [.int (nx 0 j) ta, .int (nx 1 j) tb]) ∈ n
theorem PairsUp.to {nx : Int → Int → Int} {vals : List Value} {i : Nat} {n n' : List (Addr × Obj)} (h : PairsUp nx vals i n) (hs : ∀ q ∈ n, q ∈ n') : PairsUp nx vals i n' :=
  ⟨h.1, fun j hj => let ⟨pa, ta, tb, e, hm⟩ := h.2 j hj; ⟨pa, ta, tb, e, hs _ hm⟩⟩
theorem PairsUp.snoc {nx : Int → Int → Int} {vals : List Value} {i : Nat} {n : List (Addr × Obj)} {D : Addr} {ta tb : Tok} (h : PairsUp nx vals i n) (hm : (D, tupOf [.int (nx 0 i) ta, .int (nx 1 i) tb]) ∈ n) : PairsUp nx (vals ++ [.ref D]) (i + 1) n := by
  obtain ⟨h1, h2⟩ := h
  refine ⟨by simp [h1], fun j hj => ?_⟩
  by_cases q : j < i
  · obtain ⟨pa, ta, tb, e, hm'⟩ := h2 j q
    exact ⟨pa, ta, tb, by rw [List.getElem?_append_left (by omega)]; exact e, hm'⟩
  · have : j = i := by omega
    subst this
    exact ⟨D, ta, tb, by rw [List.getElem?_append_right (by omega), h1]; simp, hm⟩
theorem PairsUp.pairs {nx : Int → Int → Int} {vals : List Value} {n : List (Addr × Obj)} {pl : Addr} {k : Nat} (h : PairsUp nx vals 4 n) (hm : (pl, listOf vals.toArray k) ∈ n) : PairsIn nx pl n := by
  obtain ⟨h1, h2⟩ := h
  obtain ⟨p0, a0, b0, e0, m0⟩ := h2 0 (by decide)
  obtain ⟨p1, a1, b1, e1, m1⟩ := h2 1 (by decide)
  obtain ⟨p2, a2, b2, e2, m2⟩ := h2 2 (by decide)
  obtain ⟨p3, a3, b3, e3, m3⟩ := h2 3 (by decide)
  obtain ⟨x, y, z, u, rfl⟩ := four_of h1
  simp at e0 e1 e2 e3
  subst e0 e1 e2 e3
  refine ⟨fun y => if y = 0 then p0 else if y = 1 then p1 else if y = 2 then p2 else p3, fun y => if y = 0 then a0 else if y = 1 then a1 else if y = 2 then a2 else a3, fun y => if y = 0 then b0 else if y = 1 then b1 else if y = 2 then b2 else b3, k, hm, fun x h0 h4 => ?_⟩
  have : x = 0 ∨ x = 1 ∨ x = 2 ∨ x = 3 := by first | exact cs4_n (by first | assumption | omega) | exact cs4_z (by first | assumption | omega) (by first | assumption | omega)
  rcases this with rfl | rfl | rfl | rfl
  · exact m0
  · exact m1
  · exact m2
  · exact m3
set_option maxRecDepth 100000 in
set_option maxHeartbeats 8000000 in
theorem law_s2 {w : World} {mean : ExcName → Option Value} {mg mb : Str → Option Value} {L fa cl : Addr} {cd : Value} {s : Shared} {v0 : Option Value} {a b c : Int} {ta tb tc : Tok} {k : Nat}
    {g : Heap} {m : Str → Option Value} {n : List (Addr × Obj)} {Q : Flow → Shared → Prop} {E : Value → Shared → Prop}
    (hcl : (cl, listOf ([.int a ta, .int b tb, .int c tc] : List Value).toArray k) ∈ n) (ha : 0 ≤ a ∧ a < 100000000) (hc1 : CelIn L 1 (some (.ref cl)) n)
    (B : Below callerA g [] g) (T : Top topProg looseL mean mg mb g) (codeHd : CodeHd g 168 164) (F : Fr g L s.heap m) (N : News g L s.heap n) (hc3 : CelIn L 3 v0 n)
    (hQ : ∀ h' tk' n' pl, Fr g L h' m → News g L h' n' → CelIn L 3 (some (.ref pl)) n' → PairsIn (nxC a) pl n' → (∀ q ∈ n, q.1 ≠ L + 3 → q ∈ n') → Q .next { s with heap := h', toks := tk' }) :
    (frag.heap_1 w.params).In g → wpAny (model Challenge.rw_ty0016_01.row.prog w) (lawA L fa cd) (exec (lawS 2) (lawEnv L fa cd)) Q E s := by
  have e1 : lawS 2 = Stmt.Assign _ _ _ := rfl
  have e3 : scopeOf (topN 17) = Scope.mk _ _ _ _ _ := rfl
  unfold lawA lawEnv
  rw [e1, e3]
  clear e1 e3
  obtain ⟨o1, hc11, hc12⟩ := hc1
  obtain ⟨o3, hc31, hc32⟩ := hc3
  k_fill
  intro X
  w_strict (
   repeat' (first | (fail_if_success (with_reducible show wpAny _ _ (pyIter _) _ _ _)
                     fail_if_success (with_reducible show wpAny _ _ (exec (Stmt.For _ _ _ _ _) _) _ _ _)
                     fail_if_success (with_reducible show wpAny _ _ (eval (Expr.ListComp _ _ _ _) _) _ _ _)
                     first | (k_unfold; (try dsimp only)) | (k_end; wrow_close) | walk1 | (dsimp only; walk1) | (leave1; walk_say "STEP leave1"; try dsimp only) | fail "no step")))
  refine eval_listcomp (cl := [(Str.ofString "cells", L + 1)]) rfl rfl (by decide) ?_
  w_strict (
   repeat' (first | (fail_if_success (with_reducible show wpAny _ _ (pyIter _) _ _ _)
                     fail_if_success (with_reducible show wpAny _ _ (exec (Stmt.For _ _ _ _ _) _) _ _ _)
                     fail_if_success (with_reducible show wpAny _ _ (eval (Expr.ListComp _ _ _ _) _) _ _ _)
                     first | (k_unfold; (try dsimp only)) | (k_end; wrow_close) | walk1 | (dsimp only; walk1) | (leave1; walk_say "STEP leave1"; try dsimp only) | fail "no step")))
  rename_i h9 tk9 t7 t8 t9 hR1 F3 N3 hk3
  refine comp_range (n := 4) (J := fun i vals nws => PairsUp (nxC a) vals i nws ∧ ∀ q ∈ n, q ∈ nws) rfl (by decide) rfl rfl hR1 (by decide +kernel) (by decide +kernel) (by decide) F3 N3 ⟨⟨rfl, fun j hj => absurd hj (Nat.not_lt_zero _)⟩, fun _ h => h⟩ ?_ ?_
  · rintro C5 D5 I5 hI hID hDC i5 vals nws h5 tk5 oC oI mC nn t5 E5 hi5 ⟨j1, j2⟩ F6 N6 hO hne
    have ei : (0 : Int) + (i5 : Int) * 1 = (i5 : Int) := by omega
    rw [ei] at hO
    have hcc := j2 _ hc11
    have hll := j2 _ hcl
    obtain ⟨ha0, ha9⟩ := ha
    have hpy : Hidden ((0 : Int) < (16 : Int) ^ ((i5 : Int)).toNat ∧ Builtin.divisionGoesByPylong a ((16 : Int) ^ ((i5 : Int)).toNat) = false) := by
      refine ⟨Int.pow_pos (by decide), ?_⟩
      have : i5 = 0 ∨ i5 = 1 ∨ i5 = 2 ∨ i5 = 3 := by first | exact cs4_n (by first | assumption | omega) | exact cs4_z (by first | assumption | omega) (by first | assumption | omega)
      rcases this with rfl | rfl | rfl | rfl <;> exact PyProof.noPylong_of_log2 (by decide +kernel)
    clear F3 N3
    w_strict (
     repeat' (first | (fail_if_success (with_reducible show wpAny _ _ (pyIter _) _ _ _)
                       fail_if_success (with_reducible show wpAny _ _ (exec (Stmt.For _ _ _ _ _) _) _ _ _)
                       fail_if_success (with_reducible show wpAny _ _ (eval (Expr.ListComp _ _ _ _) _) _ _ _)
                       first | (k_unfold; (try dsimp only)) | (k_end; wrow_close) | walk1 | (dsimp only; walk1) | (leave1; walk_say "STEP leave1"; try dsimp only) | fail "no step")))
    refine fdivH hpy ha0 ?_; intro z9 t9' k9 hz9 hz0 hz1
    iterate 15 ((try dsimp only); walk1)
    refine fdivH hpy ha0 ?_; intro z8 t8' k8 hy9 hy0 hy1
    iterate 4 ((try dsimp only); walk1)
    rename_i D9 h9' F9 N9 l9
    obtain ⟨l91, l92, l93, l94⟩ := l9
    have ez : (z9.fdiv 4).fmod 4 = nxC a 0 i5 := by rw [show z9 = _ from hz9]; exact nxC0 a i5
    have ey : z8.fmod 4 = nxC a 1 i5 := by rw [show z8 = _ from hy9]; exact nxC1 a i5
    rw [ez, ey] at N9
    refine ⟨_, _, (D9, tupOf [.int (nxC a 0 i5) (k9 + 1 + 1 + 1), .int (nxC a 1 i5) (k8 + 1)]) :: nws, oC, _, rfl, F9, fun p hp => N9 p ((by walk_at "my.sub" : ∀ p ∈ _, p ∈ _) p hp), hO, ?_, fun _ h => (nomatch h), ?_, fun q hq => .tail _ (j2 q hq)⟩
    · exact List.forall_mem_cons.mpr ⟨⟨Nat.ne_of_gt l91, Nat.ne_of_gt l92, Nat.ne_of_gt l93⟩, hne⟩
    · exact (j1.to (fun q hq => .tail _ hq)).snoc (.head _)
  · rintro C5 D5 hD hDC vals nws h5 tk5 oC mC nn ⟨j1, j2⟩ hl5 F6 N6 hO hne
    refine compPost_none F6 N6 hO hDC (fun p hp => (hne p hp).1) fun h3 F7 N7 => ?_
    dsimp only
    refine store_cell F7 N7 (.tail _ (j2 _ hc31)) hc32 rfl ?_
    intro h' o' F' N' hd'
    have hD3 : D5 ≠ L + 3 := Nat.ne_of_gt (hD _ hc31)
    have hkk : ∀ q ∈ (D5, listOf vals.toArray nn) :: nws, q.1 ≠ L + 3 → q ∈ (L + 3, o') :: cut [L + 3] ((D5, listOf vals.toArray nn) :: nws) := fun q hq hn => .tail _ (mem_cut hq (by simpa using hn))
    have hP := (PairsUp.to (n' := (D5, listOf vals.toArray nn) :: nws) j1 fun q hq => .tail _ hq).pairs (.head _)
    obtain ⟨pa, t1, t2, k2, p1, p2⟩ := hP
    have hnc : ∀ {x : Addr} {o : Obj}, (x, o) ∈ (D5, listOf vals.toArray nn) :: nws → NoCell o → x ≠ L + 3 := fun hx ho => neD N7 hx (.tail _ (j2 _ hc31)) (by rw [hc32]; exact ho _)
    exact hQ _ _ _ D5 F' N' ⟨o', .head _, hd'⟩ ⟨pa, t1, t2, k2, hkk _ p1 hD3, fun x h0 h4 => hkk _ (p2 x h0 h4) (hnc (p2 x h0 h4) cl_seq)⟩ fun q hq hn => hkk q (.tail _ (j2 q hq)) hn
theorem offLB3 : True := by
  w_top off
  exact True.intro
theorem tup_eq {g h : Heap} {L T : Addr} {x y x' y' : Value} {n : List (Addr × Obj)} (N : News g L h n) {k k' : Nat} (h1 : (T, tupK [x, y] k) ∈ n) (h2 : (T, tupK [x', y'] k') ∈ n) : x = x' ∧ y = y' := by
  have e := (N _ h1).1
  rw [(N _ h2).1] at e
  have e2 := congrArg Obj.data (Option.some.inj e)
  simp only [Data.seq.injEq] at e2
  have e3 := congrArg Array.toList e2.1
  simp at e3
  exact ⟨e3.1.symm, e3.2.symm⟩
theorem letters_at {y : Int} (h0 : 0 ≤ y) (h4 : y < 4) : lettersS.cps[y.toNat]? = some (cd y) := by
  have : y = 0 ∨ y = 1 ∨ y = 2 ∨ y = 3 := by first | exact cs4_n (by first | assumption | omega) | exact cs4_z (by first | assumption | omega) (by first | assumption | omega)
  rcases this with rfl | rfl | rfl | rfl <;> rfl
theorem one_one (a b : Nat) : one a ++ one b = txt [a, b] := by
  apply Str.ext'
  rw [Str.cps_append]
  rfl
theorem strsWords {nx : Int → Int → Int} {wl : Addr} {k : Nat} {vals : List Value} {n : List (Addr × Obj)} (h : StrsAre vals [wd nx 0, wd nx 1, wd nx 2, wd nx 3]) (hm : (wl, listOf vals.toArray k) ∈ n) : WordsIn nx wl n := by
  obtain ⟨t0, v0, rfl, h0⟩ := strs_cons h
  obtain ⟨t1, v1, rfl, h1⟩ := strs_cons h0
  obtain ⟨t2, v2, rfl, h2⟩ := strs_cons h1
  obtain ⟨t3, v3, rfl, h3⟩ := strs_cons h2
  obtain rfl := strs_nil h3
  exact ⟨fun y => if y = 0 then t0 else if y = 1 then t1 else if y = 2 then t2 else t3, k, hm⟩
set_option maxRecDepth 100000 in
set_option maxHeartbeats 8000000 in
theorem law_s3 {w : World} {mean : ExcName → Option Value} {mg mb : Str → Option Value} {L fa pl : Addr} {cd0 : Value} {s : Shared} {nx : Int → Int → Int} {tl : Tok}
    {g : Heap} {m : Str → Option Value} {n : List (Addr × Obj)} {Q : Flow → Shared → Prop} {E : Value → Shared → Prop}
    (hP : PairsIn nx pl n) (hnx : ∀ b y, 0 ≤ y → y < 4 → 0 ≤ nx b y ∧ nx b y < 4) (hc2 : CelIn L 2 (some (.str lettersS tl)) n) (hc3 : CelIn L 3 (some (.ref pl)) n)
    (B : Below callerA g [] g) (T : Top topProg looseL mean mg mb g) (codeHd : CodeHd g 168 164) (F : Fr g L s.heap m) (N : News g L s.heap n)
    (hQ : ∀ h' tk' n' wl, Fr g L h' (fun z => if z = Str.ofString "words" then some (.ref wl) else m z) → News g L h' n' → WordsIn nx wl n' → (∀ q ∈ n, q ∈ n') → Q .next { s with heap := h', toks := tk' }) :
    (frag.heap_1 w.params).In g → wpAny (model Challenge.rw_ty0016_01.row.prog w) (lawA L fa cd0) (exec (lawS 3) (lawEnv L fa cd0)) Q E s := by
  have e1 : lawS 3 = Stmt.Assign _ _ _ := rfl
  have e3 : scopeOf (topN 17) = Scope.mk _ _ _ _ _ := rfl
  unfold lawA lawEnv
  rw [e1, e3]
  clear e1 e3
  obtain ⟨o2, hc21, hc22⟩ := hc2
  obtain ⟨o3, hc31, hc32⟩ := hc3
  obtain ⟨pa, ta, tb, k, hp1, hp2⟩ := hP
  k_fill
  intro X
  refine exec_assign_comp (cl := [(Str.ofString "letters", L + 2)]) rfl rfl rfl (by decide) ?_
  w_strict (
   repeat' (first | (fail_if_success (with_reducible show wpAny _ _ (pyIter _) _ _ _)
                     fail_if_success (with_reducible show wpAny _ _ (exec (Stmt.For _ _ _ _ _) _) _ _ _)
                     fail_if_success (with_reducible show wpAny _ _ (eval (Expr.ListComp _ _ _ _) _) _ _ _)
                     first | (k_unfold; (try dsimp only)) | (k_end; wrow_close) | walk1 | (dsimp only; walk1) | (leave1; walk_say "STEP leave1"; try dsimp only) | fail "no step")))
  refine comp_pairs (its := [.ref (pa 0), .ref (pa 1), .ref (pa 2), .ref (pa 3)]) (nl := k) (J := fun i vals nws => StrsAre vals (([wd nx 0, wd nx 1, wd nx 2, wd nx 3] : List Str).take i) ∧ ∀ q ∈ n, q ∈ nws) rfl (by decide) rfl rfl rfl hp1 (Nat.le_of_ble_eq_true rfl) F N ⟨.nil, fun _ h => h⟩ ?_ ?_ ?_
  · rintro i vals nws hi ⟨j1, j2⟩
    have hi4 : i < 4 := hi
    refine ⟨pa i, _, _, 0, ?_, j2 _ (hp2 i (by omega) (by omega))⟩
    have : i = 0 ∨ i = 1 ∨ i = 2 ∨ i = 3 := by first | exact cs4_n (by first | assumption | omega) | exact cs4_z (by first | assumption | omega) (by first | assumption | omega)
    rcases this with rfl | rfl | rfl | rfl <;> rfl
  · rintro C5 D5 I5 hI hID hDC i5 vals nws h5 tk5 oC oI mC nn T5 x y k5 E5 hi5 hT1 hT2 ⟨j1, j2⟩ F6 N6 hO hne hm5
    have hi4 : i5 < 4 := hi5
    have hT : T5 = pa i5 := by
      have : i5 = 0 ∨ i5 = 1 ∨ i5 = 2 ∨ i5 = 3 := by first | exact cs4_n (by first | assumption | omega) | exact cs4_z (by first | assumption | omega) (by first | assumption | omega)
      rcases this with rfl | rfl | rfl | rfl <;> (simp at hT1; exact hT1.symm)
    subst hT
    obtain ⟨rfl, rfl⟩ := tup_eq N6 (.tail _ (.tail _ (.tail _ hT2))) (.tail _ (.tail _ (.tail _ (j2 _ (hp2 i5 (by omega) (by omega))))))
    have y0 := hnx 0 i5 (by omega) (by omega)
    have y1 := hnx 1 i5 (by omega) (by omega)
    have l0 := letters_at y0.1 y0.2
    have l1 := letters_at y1.1 y1.2
    have z0 : nx 0 i5 < 1000000 := by omega
    have z1 : nx 1 i5 < 1000000 := by omega
    have y00 := y0.1
    have y10 := y1.1
    have hol : ∀ c, (one c).length = 1 := fun _ => rfl
    have hol0 := hol (cd (nx 0 i5))
    have hol1 := hol (cd (nx 1 i5))
    have hcc := j2 _ hc21
    clear F N
    w_strict (
     repeat' (first | (fail_if_success (with_reducible show wpAny _ _ (pyIter _) _ _ _)
                       fail_if_success (with_reducible show wpAny _ _ (exec (Stmt.For _ _ _ _ _) _) _ _ _)
                       fail_if_success (with_reducible show wpAny _ _ (eval (Expr.ListComp _ _ _ _) _) _ _ _)
                       first | ((((with_reducible show wpAny _ _ (subscriptTail _ _ (Value.str _ _) (Value.int _ _)) _ _ _); refine' item_S ?a ?b ?c ?_ ?h; (case a => omega); (case b => omega); (case c => first | with_reducible assumption | exact rfl); (case h => with_unfolding_all rfl); k_whole))) | (k_unfold; (try dsimp only)) | (k_end; wrow_close) | walk1 | (dsimp only; walk1) | (leave1; walk_say "STEP leave1"; try dsimp only) | fail "no step")))
    refine ⟨_, _, nws, oC, _, rfl, F6, N6, hO, hne, fun p hp => by simp at hp; subst hp; exact hm5, ?_, j2⟩
    have et : ([wd nx 0, wd nx 1, wd nx 2, wd nx 3] : List Str).take (i5 + 1) = ([wd nx 0, wd nx 1, wd nx 2, wd nx 3] : List Str).take i5 ++ [one (cd (nx 0 i5)) ++ one (cd (nx 1 i5))] := by
      rw [one_one]
      have : i5 = 0 ∨ i5 = 1 ∨ i5 = 2 ∨ i5 = 3 := by first | exact cs4_n (by first | assumption | omega) | exact cs4_z (by first | assumption | omega) (by first | assumption | omega)
      rcases this with rfl | rfl | rfl | rfl <;> rfl
    rw [et]
    exact strs_append j1 (.cons _ _ .nil)
  · rintro C5 D5 hD hDC vals nws h5 tk5 oC mC nn ⟨j1, j2⟩ hl5 F6 N6 hO hne
    refine compPost_some (env := lawEnv L fa cd0) F6 N6 hO hDC (fun p hp => (hne p hp).1) rfl rfl fun h3 tk3 F7 N7 => ?_
    exact hQ _ _ _ D5 F7 N7 (strsWords j1 (.head _)) fun q hq => .tail _ (j2 q hq)
theorem offLB4 : True := by
  w_top off
  exact True.intro
theorem CelIn.lexCell {w : World} {mean : ExcName → Option Value} {mg mb : Str → Option Value} {C : LexC} {nl : Int} {q : List Str} {cs : List Nat} {n : List (Addr × Obj)} {L : Addr} {i : Nat} {v : Value} {g h : Heap} {L' : Addr} (N : News g L' h n) (hL : LexIn w mean mg mb C nl q cs n) (hc : CelIn L i (some v) n) (hv : v ≠ .ref C.lf) : L + i ∉ C.mut := by
  obtain ⟨o, h1, h2⟩ := hc
  exact (hL.cell (o' := o) N h1 h2 (fun e => hv (Option.some.inj e))).2
theorem TabIn.cutD {g h : Heap} {L c : Addr} {o o' : Obj} {v : Option Value} {n : List (Addr × Obj)} (N : News g L h n) (hT : TabIn n) (hm : (c, o) ∈ n) (hd : o.data = .cell v) : TabIn ((c, o') :: cut [c] n) := by
  obtain ⟨c', oc, vs, t, h1, h2, h3, h4⟩ := hT
  refine ⟨c', oc, vs, t, .tail _ (mem_cut h1 ?_), .tail _ (mem_cut h2 ?_), h3, h4⟩
  · have := neD N h1 hm (by rw [hd]; exact fun e => nomatch e)
    simpa using this
  · have := neD N h2 hm (by rw [hd, h3]; exact fun e => nomatch e)
    simpa using this
set_option maxRecDepth 100000 in
set_option maxHeartbeats 8000000 in
theorem law_s4 {w : World} {mean : ExcName → Option Value} {mg mb : Str → Option Value} {L fa cl wl : Addr} {cd0 : Value} {s : Shared} {nx : Int → Int → Int} {a b c : Int} {ta tb tc : Tok} {k : Nat}
    {g : Heap} {m : Str → Option Value} {n : List (Addr × Obj)} {Q : Flow → Shared → Prop} {E : Value → Shared → Prop}
    (hW : WordsIn nx wl n) (hnx : ∀ b y, 0 ≤ y → y < 4 → 0 ≤ nx b y ∧ nx b y < 4) (hcl : (cl, listOf ([.int a ta, .int b tb, .int c tc] : List Value).toArray k) ∈ n) (hb : 0 ≤ b) (h164 : (164, tabObj #[]) ∈ n)
    (hc1 : CelIn L 1 (some (.ref cl)) n) (hc4 : CelIn L 4 none n)
    (B : Below callerA g [] g) (T : Top topProg looseL mean mg mb g) (codeHd : CodeHd g 168 164) (F : Fr g L s.heap m) (N : News g L s.heap n) (hwm : m (Str.ofString "words") = some (.ref wl))
    (hQ : ∀ h' tk' n' C, Fr g L h' m → News g L h' n' → CelIn L 4 (some (.ref C.lx)) n' → LexIn w mean mg mb C 1 [] (wrL nx b 4 ++ [122]) n' → TabIn n' → (∀ q ∈ n, q.1 < C.lf) → (∀ q ∈ n, q.1 ≠ 164 → q.1 ≠ L + 4 → q ∈ n') → Q .next { s with heap := h', toks := tk' }) :
    (frag.heap_1 w.params).In g → wpAny (model Challenge.rw_ty0016_01.row.prog w) (lawA L fa cd0) (exec (lawS 4) (lawEnv L fa cd0)) Q E s := by
  have e1 : lawS 4 = Stmt.Assign _ _ _ := rfl
  have e3 : scopeOf (topN 17) = Scope.mk _ _ _ _ _ := rfl
  unfold lawA lawEnv
  rw [e1, e3]
  clear e1 e3
  obtain ⟨o1, hc11, hc12⟩ := hc1
  obtain ⟨o4, hc41, hc42⟩ := hc4
  have hlen : (txt (wrL nx b 4 ++ [122])).length ≤ 1000 := by
    have := wrL_len hnx b 4 (Nat.le_refl _)
    rw [txt_len, List.length_append]
    simp only [List.length_cons, List.length_nil]
    omega
  k_fill
  intro X
  w_strict (
   repeat' (first | (fail_if_success (with_reducible show wpAny _ _ (pyIter _) _ _ _)
                     fail_if_success (with_reducible show wpAny _ _ (exec (Stmt.For _ _ _ _ _) _) _ _ _)
                     fail_if_success (with_reducible show wpAny _ _ (eval (Expr.ListComp _ _ _ _) _) _ _ _)
                     first | ((with_reducible show wpAny _ _ (call (Value.ref _) _ _) _ _ _); refine' Does.use (law_written hW hnx hb) ?uA ?uD ?uU ?uF ?uK ?uB ?uR ?uX ?uN ?uT ?uC ?_; (case uA => exact rfl); (case uD => exact Nat.le_of_ble_eq_true rfl); (case uU => exact Nat.le_of_ble_eq_true rfl); (case uF => exact rfl); (case uK => exact rfl); (case uB => k_asm); (case uR => k_asm); (case uX => k_in); (case uN => k_asm); (case uT => k_asm); (case uC => k_asm); k_whole; intro r' n' h' tk' F' N' P'; (obtain ⟨⟨t1, e1⟩, hK1⟩ := P'; subst e1)) | ((with_reducible show wpAny _ _ (call (Value.ref _) _ _) _ _ _); refine' Does.use (lexer_first (hK1 _ h164) hlen) ?uA ?uD ?uU ?uF ?uK ?uB ?uR ?uX ?uN ?uT ?uC ?_; (case uA => exact rfl); (case uD => exact Nat.le_of_ble_eq_true rfl); (case uU => exact Nat.le_of_ble_eq_true rfl); (case uF => exact rfl); (case uK => exact rfl); (case uB => k_asm); (case uR => k_asm); (case uX => k_in); (case uN => k_asm); (case uT => k_asm); (case uC => k_asm); k_whole; intro r' n' h' tk' F' N' P'; (obtain ⟨C, e1, hL, hT, hK2, hlt⟩ := P'; subst e1)) | (k_unfold; (try dsimp only)) | (k_end; wrow_close) | walk1 | (dsimp only; walk1) | (leave1; walk_say "STEP leave1"; try dsimp only) | fail "no step")))
  have h4 := hK1 _ hc41
  have hne : @Ne Nat (L + 4) 164 := (neD N (o1 := tabObj #[]) h164 hc41 (by rw [hc42]; exact fun e => nomatch e)).symm
  have h4' := hK2 _ h4 hne
  refine store_cell F' N' h4' hc42 rfl ?_
  intro h2 o2 F2 N2 hd2
  have hLL := hL.cell (o' := o2) N' h4' hc42 (by nofun)
  refine hQ _ _ _ C F2 N2 ⟨o2, .head _, hd2⟩ hLL.1 (TabIn.cutD N' hT h4' hc42) (fun q hq => hlt q (hK1 q hq)) fun q hq h1 h2 => .tail _ (mem_cut (hK2 q (hK1 q hq) h1) (by simpa using h2))
theorem offLB5 : True := by
  w_top off
  exact True.intro
/-- what is left to read from the k-th pair on -/
noncomputable def wrT (nx : Int → Int → Int) (b : Int) : Nat → Nat → List Nat
  | _, 0 => [122]
  | k, n + 1 => pieceL nx b k ++ wrT nx b (k + 1) n
theorem wrL_T (nx : Int → Int → Int) (b : Int) : wrL nx b 4 ++ [122] = wrT nx b 0 4 := by simp [wrL, wrT, List.append_assoc]
noncomputable def barN (b : Int) : Nat → Int
  | 0 => 0
  | k + 1 => barN b k + b / 2 ^ k % 2
theorem wrT_len {nx : Int → Int → Int} (hnx : ∀ b y, 0 ≤ y → y < 4 → 0 ≤ nx b y ∧ nx b y < 4) (b : Int) : ∀ n k : Nat, k + n ≤ 4 → (wrT nx b k n).length ≤ n * 6 + 1
  | 0, _, _ => Nat.le_refl _
  | n + 1, k, h => by
    have ih := wrT_len hnx b n (k + 1) (by omega)
    have := pieceL_len b (hnx 0 k (by omega) (by omega)) (hnx 1 k (by omega) (by omega))
    simp only [wrT, List.length_append]
    omega
theorem cd_ne10 (x : Int) : cd x ≠ 10 := by unfold cd; split <;> (try split) <;> (try split) <;> decide
theorem tok_piece {w : World} {mean : ExcName → Option Value} {mg mb : Str → Option Value} {C : LexC} {nl : Int} {nx : Int → Int → Int} {b : Int} {k : Nat} {rest : List Nat} {news : List (Addr × Obj)} (hL : LexIn w mean mg mb C nl [] (pieceL nx b k ++ rest) news) (hrest : rest.length ≤ 500) :
    Does w mean mg mb 670 1700 (.ref 141) [.ref C.lx] news (fun r n' => (∃ t, r = .str (wd nx k) t) ∧ LexIn w mean mg mb C (nl + b / 2 ^ k % 2) [] rest n' ∧ Keep C news n') := by
  by_cases hb : b / 2 ^ k % 2 = 0
  · rw [hb, Int.add_zero]
    have e : pieceL nx b k ++ rest = 34 :: (enc [esc (cd (nx 0 k)), esc (cd (nx 1 k))] ++ 34 :: rest) := by
      unfold pieceL
      rw [if_pos hb, List.cons_append, List.append_assoc]
      rfl
    rw [e] at hL
    refine tok_quoted hL ?_ (Nat.le_of_ble_eq_true rfl) hrest
    have key : ∀ x : Int, (esc (cd x)).2 ≠ 10 ∧ ((esc (cd x)).1 = false → (esc (cd x)).2 ≠ 34 ∧ (esc (cd x)).2 ≠ 92) := by
      intro x
      refine ⟨cd_ne10 x, fun h => ?_⟩
      have : ¬ (cd x = 34 ∨ cd x = 92) := of_decide_eq_false h
      exact ⟨fun e => this (.inl e), fun e => this (.inr e)⟩
    exact List.forall_mem_cons.mpr ⟨key _, List.forall_mem_cons.mpr ⟨key _, List.forall_mem_nil _⟩⟩
  · have hb1 : b / 2 ^ k % 2 = 1 := by omega
    rw [hb1]
    have e : pieceL nx b k ++ rest = enc [(true, cd (nx 0 k)), (true, cd (nx 1 k))] ++ 10 :: rest := by
      unfold pieceL
      rw [if_neg hb]
      rfl
    rw [e] at hL
    exact tok_bare (items := [(true, cd (nx 1 k))]) hL rfl ⟨cd_ne10 _, fun h => nomatch h⟩ (List.forall_mem_cons.mpr ⟨⟨cd_ne10 _, fun h => nomatch h⟩, List.forall_mem_nil _⟩) (Nat.le_of_ble_eq_true rfl) hrest
set_option maxRecDepth 100000 in
set_option maxHeartbeats 8000000 in
theorem law_s5 {w : World} {mean : ExcName → Option Value} {mg mb : Str → Option Value} {C : LexC} {L fa : Addr} {cd0 : Value} {s : Shared} {nx : Int → Int → Int} {b : Int}
    {g : Heap} {m : Str → Option Value} {n : List (Addr × Obj)} {Q : Flow → Shared → Prop} {E : Value → Shared → Prop}
    (hnx : ∀ b y, 0 ≤ y → y < 4 → 0 ≤ nx b y ∧ nx b y < 4) (hL : LexIn w mean mg mb C 1 [] (wrL nx b 4 ++ [122]) n) (hc4 : CelIn L 4 (some (.ref C.lx)) n) (hm4 : L + 4 ∉ C.mut) (hc5 : CelIn L 5 none n)
    (B : Below callerA g [] g) (T : Top topProg looseL mean mg mb g) (codeHd : CodeHd g 168 164) (F : Fr g L s.heap m) (N : News g L s.heap n)
    (hQ : ∀ h' tk' n' xl, Fr g L h' m → News g L h' n' → CelIn L 5 (some (.ref xl)) n' → WordsIn nx xl n' → LexIn w mean mg mb C (1 + barN b 4) [] [122] n' → xl ∉ C.mut → (∀ q ∈ n, q.1 ∉ C.mut → q.1 ≠ L + 5 → q ∈ n') → Q .next { s with heap := h', toks := tk' }) :
    (frag.heap_1 w.params).In g → wpAny (model Challenge.rw_ty0016_01.row.prog w) (lawA L fa cd0) (exec (lawS 5) (lawEnv L fa cd0)) Q E s := by
  have e1 : lawS 5 = Stmt.Assign _ _ _ := rfl
  have e3 : scopeOf (topN 17) = Scope.mk _ _ _ _ _ := rfl
  unfold lawA lawEnv
  rw [e1, e3]
  clear e1 e3
  rw [wrL_T] at hL
  obtain ⟨o4, hc41, hc42⟩ := hc4
  have hm5 : L + 5 ∉ C.mut := by
    obtain ⟨o5, h51, h52⟩ := hc5
    exact (hL.cell (o' := o5) N h51 h52 (by nofun)).2
  obtain ⟨o5, hc51, hc52⟩ := hc5
  k_fill
  intro X
  w_strict (
   repeat' (first | (fail_if_success (with_reducible show wpAny _ _ (pyIter _) _ _ _)
                     fail_if_success (with_reducible show wpAny _ _ (exec (Stmt.For _ _ _ _ _) _) _ _ _)
                     fail_if_success (with_reducible show wpAny _ _ (eval (Expr.ListComp _ _ _ _) _) _ _ _)
                     first | (k_unfold; (try dsimp only)) | (k_end; wrow_close) | walk1 | (dsimp only; walk1) | (leave1; walk_say "STEP leave1"; try dsimp only) | fail "no step")))
  refine eval_listcomp (cl := [(Str.ofString "lexer", L + 4)]) rfl rfl (by decide) ?_
  w_strict (
   repeat' (first | (fail_if_success (with_reducible show wpAny _ _ (pyIter _) _ _ _)
                     fail_if_success (with_reducible show wpAny _ _ (exec (Stmt.For _ _ _ _ _) _) _ _ _)
                     fail_if_success (with_reducible show wpAny _ _ (eval (Expr.ListComp _ _ _ _) _) _ _ _)
                     first | (k_unfold; (try dsimp only)) | (k_end; wrow_close) | walk1 | (dsimp only; walk1) | (leave1; walk_say "STEP leave1"; try dsimp only) | fail "no step")))
  rename_i h9 tk9 t7 t8 t9 hR1 F3 N3 hk3
  refine comp_range (n := 4) (J := fun i vals nws => StrsAre vals (([wd nx 0, wd nx 1, wd nx 2, wd nx 3] : List Str).take i) ∧ LexIn w mean mg mb C (1 + barN b i) [] (wrT nx b i (4 - i)) nws ∧ Keep C n nws) rfl (by decide) rfl rfl hR1 (by decide +kernel) (by decide +kernel) (by decide) F3 N3 ⟨.nil, hL, fun q hq _ => hq⟩ ?_ ?_
  · rintro C5 D5 I5 hI hID hDC i5 vals nws h5 tk5 oC oI mC nn t5 E5 hi5 ⟨j1, j2, j3⟩ F6 N6 hO hne
    have hIpb := hL.pbLt hI
    have e4 : 4 - i5 = (3 - i5) + 1 := by omega
    have e4' : 4 - (i5 + 1) = 3 - i5 := by omega
    rw [e4] at j2
    have hrest : (wrT nx b (i5 + 1) (3 - i5)).length ≤ 500 := by
      have := wrT_len hnx b (3 - i5) (i5 + 1) (by omega)
      omega
    have hcl := j3 _ hc41 hm4
    obtain ⟨ti2, hi3, hi4⟩ := j2.inst
    dsimp only
    clear F3 N3
    w_strict (
     repeat' (first | (fail_if_success (with_reducible show wpAny _ _ (pyIter _) _ _ _)
                       fail_if_success (with_reducible show wpAny _ _ (exec (Stmt.For _ _ _ _ _) _) _ _ _)
                       fail_if_success (with_reducible show wpAny _ _ (eval (Expr.ListComp _ _ _ _) _) _ _ _)
                       first | ((with_reducible show wpAny _ _ (call (Value.ref _) _ _) _ _ _); refine' Does.use (tok_piece (nx := nx) (b := b) (k := i5) (rest := wrT nx b (i5 + 1) (3 - i5)) (j2.cons.cons.cons) hrest) ?uA ?uD ?uU ?uF ?uK ?uB ?uR ?uX ?uN ?uT ?uC ?_; (case uA => exact rfl); (case uD => exact Nat.le_of_ble_eq_true rfl); (case uU => exact Nat.le_of_ble_eq_true rfl); (case uF => exact rfl); (case uK => exact rfl); (case uB => k_asm); (case uR => k_asm); (case uX => k_in); (case uN => k_asm); (case uT => k_asm); (case uC => k_asm); k_whole; intro r' n' h' tk' F' N' P'; (obtain ⟨⟨tr, e1⟩, hL1, hK1⟩ := P'; subst e1)) | (k_unfold; (try dsimp only)) | (k_end; wrow_close) | walk1 | (dsimp only; walk1) | (leave1; walk_say "STEP leave1"; try dsimp only) | fail "no step")))
    have hCpb : ∀ a ∈ [C5, I5, D5], @LT.lt Nat _ C.pb a := by
      intro a ha
      simp only [List.mem_cons, List.not_mem_nil, or_false] at ha
      rcases ha with rfl | rfl | rfl
      · exact Nat.lt_trans hIpb (Nat.lt_trans hID hDC)
      · exact hIpb
      · exact Nat.lt_trans hIpb hID
    refine ⟨_, _, cut [C5, I5, D5] n', oC, _, rfl, F', ?_, hO, ?_, fun _ h => (nomatch h), ?_, ?_, ?_⟩
    · refine List.forall_mem_cons.mpr ⟨N' _ (hK1 _ (.head _) (hL.mutLe (hCpb _ (.head _)))), List.forall_mem_cons.mpr ⟨N' _ (hK1 _ (.tail _ (.head _)) (hL.mutLe (hCpb _ (.tail _ (.head _))))), List.forall_mem_cons.mpr ⟨N' _ (hK1 _ (.tail _ (.tail _ (.head _))) (hL.mutLe (hCpb _ (.tail _ (.tail _ (.head _)))))), fun p hp => N' p (cut_sub p hp)⟩⟩⟩
    · exact fun p hp => ⟨cut_ne (.head _) p hp, cut_ne (.tail _ (.head _)) p hp, cut_ne (.tail _ (.tail _ (.head _))) p hp⟩
    · have et : ([wd nx 0, wd nx 1, wd nx 2, wd nx 3] : List Str).take (i5 + 1) = ([wd nx 0, wd nx 1, wd nx 2, wd nx 3] : List Str).take i5 ++ [wd nx i5] := by
        have : i5 = 0 ∨ i5 = 1 ∨ i5 = 2 ∨ i5 = 3 := by first | exact cs4_n (by first | assumption | omega) | exact cs4_z (by first | assumption | omega) (by first | assumption | omega)
        rcases this with rfl | rfl | rfl | rfl <;> rfl
      rw [et]
      exact strs_append j1 (.cons _ _ .nil)
    · rw [e4', show (1 : Int) + barN b (i5 + 1) = 1 + barN b i5 + b / 2 ^ i5 % 2 by simp only [barN]; omega]
      exact hL1.cutL hCpb
    · intro p hp hn
      have hp' := j3 p hp hn
      refine mem_cut (hK1 p (.tail _ (.tail _ (.tail _ hp'))) hn) fun e => ?_
      simp only [List.mem_cons, List.not_mem_nil, or_false] at e
      have hh := hne p hp'
      rcases e with e | e | e
      · exact hh.1 e
      · exact hh.2.1 e
      · exact hh.2.2 e
  · rintro C5 D5 hD hDC vals nws h5 tk5 oC mC nn ⟨j1, j2, j3⟩ hl5 F6 N6 hO hne
    refine compPost_none F6 N6 hO hDC (fun p hp => (hne p hp).1) fun h3 F7 N7 => ?_
    dsimp only
    have h5' := j3 _ hc51 hm5
    have hD5 : D5 ≠ L + 5 := fun e => (hne _ h5').2 e.symm
    have j2' : LexIn w mean mg mb C (1 + barN b 4) [] [122] ((D5, listOf vals.toArray nn) :: nws) := j2.cons
    refine store_cell F7 N7 (.tail _ h5') hc52 rfl ?_
    intro h' o' F' N' hd'
    have hDm : D5 ∉ C.mut := hL.mutLe (hL.pbLt hD)
    exact hQ _ _ _ D5 F' N' ⟨o', .head _, hd'⟩ (strsWords j1 (.tail _ (mem_cut (.head _) (by simpa using hD5)))) (j2'.cell N7 (.tail _ h5') hc52 (by nofun)).1 hDm fun q hq h1 h2 => .tail _ (mem_cut (.tail _ (j3 q hq h1)) (by simpa using h2))
theorem offLBE : True := by
  w_top off
  exact True.intro
section
variable {prog : Program} {w : World} {A : Around} {E : Value → Shared → Prop} {s : Shared} {g : Heap} {L : Addr} {n : List (Addr × Obj)} {u v : Value} {d : Dat} {Q : Value → Shared → Prop}
theorem ne_dat (N : News g L s.heap n) (h1 : DatIn n u d) (h2 : DatIn n v d) (hk : kqdOk 8 d = true) (hu : A.units + 64 < cLine) (h : Q (.bool false) s) : wpAny (model prog w) A (compareOp .NotEq u v) Q E s := by
  obtain ⟨as, ra⟩ := kqd_in N 8 h1 hk
  obtain ⟨bs, rb⟩ := kqd_in N 8 h2 hk
  have la := kqd_lay 8 d hk
  have e : PyData.eqv (kqdP d) (kqdP d) = true := (kqd_eqv 8 d d 8 hk hk).mpr rfl
  have sh : SeqAt.shaped (kqdP d) = true := by unfold SeqAt.shaped; rw [la.1, Bool.true_and]; exact decide_eq_true (Nat.le_trans la.2 (by decide))
  exact PyProof.Rows.ne_dataH ra rb sh sh hu (by rw [e]; exact h)
theorem eq_dat (N : News g L s.heap n) (h1 : DatIn n u d) (h2 : DatIn n v d) (hk : kqdOk 8 d = true) (hu : A.units + 64 < cLine) (h : Q (.bool true) s) : wpAny (model prog w) A (compareOp .Eq u v) Q E s := by
  obtain ⟨as, ra⟩ := kqd_in N 8 h1 hk
  obtain ⟨bs, rb⟩ := kqd_in N 8 h2 hk
  have la := kqd_lay 8 d hk
  have e : PyData.eqv (kqdP d) (kqdP d) = true := (kqd_eqv 8 d d 8 hk hk).mpr rfl
  have sh : SeqAt.shaped (kqdP d) = true := by unfold SeqAt.shaped; rw [la.1, Bool.true_and]; exact decide_eq_true (Nat.le_trans la.2 (by decide))
  exact PyProof.Rows.eq_dataH ra rb sh sh hu (by rw [e]; exact h)
end
theorem strOk_txt {l : List Nat} (h : ∀ c ∈ l, c < 1114112) : PyData.strOk (txt l) = true := by
  unfold PyData.strOk txt
  simpa using h
theorem strOk_wd (nx : Int → Int → Int) (y : Int) : PyData.strOk (wd nx y) = true := by
  refine strOk_txt fun c hc => ?_
  simp only [List.mem_cons, List.not_mem_nil, or_false] at hc
  rcases hc with rfl | rfl <;> exact Nat.lt_trans (cd_lt _) (by decide)
theorem words_dat {nx : Int → Int → Int} {wl : Addr} {n : List (Addr × Obj)} (h : WordsIn nx wl n) : DatIn n (.ref wl) (.list [.str (wd nx 0), .str (wd nx 1), .str (wd nx 2), .str (wd nx 3)]) := by
  obtain ⟨ts, k, hm⟩ := h
  exact .list hm (.cons (.str _ _) (.cons (.str _ _) (.cons (.str _ _) (.cons (.str _ _) .nil))))
theorem words_ok (nx : Int → Int → Int) : kqdOk 8 (.list [.str (wd nx 0), .str (wd nx 1), .str (wd nx 2), .str (wd nx 3)]) = true := by
  simp [kqdOk, strOk_wd]
theorem offLB6 : True := by
  w_top off
  exact True.intro
theorem barN_le (b : Int) : ∀ k : Nat, 0 ≤ barN b k ∧ barN b k ≤ (k : Int)
  | 0 => ⟨Int.le_refl _, Int.le_refl _⟩
  | k + 1 => by
    have ih := barN_le b k
    have h1 : 0 ≤ b / 2 ^ k % 2 := Int.emod_nonneg _ (by decide)
    have h2 : b / 2 ^ k % 2 < 2 := Int.emod_lt_of_pos _ (by decide)
    simp only [barN]
    generalize b / 2 ^ k % 2 = z at *
    omega
set_option maxRecDepth 100000 in
set_option maxHeartbeats 8000000 in
theorem law_s6 {w : World} {mean : ExcName → Option Value} {mg mb : Str → Option Value} {C : LexC} {L fa cl wl xl : Addr} {cd0 : Value} {s : Shared} {nx : Int → Int → Int} {a b c : Int} {ta tb tc : Tok} {k : Nat}
    {g : Heap} {m : Str → Option Value} {n : List (Addr × Obj)} {Q : Flow → Shared → Prop} {E : Value → Shared → Prop}
    (hcl : (cl, listOf ([.int a ta, .int b tb, .int c tc] : List Value).toArray k) ∈ n) (hb : 0 ≤ b ∧ b < 100000000) (hc1 : CelIn L 1 (some (.ref cl)) n)
    (hL : LexIn w mean mg mb C (1 + barN b 4) [] [122] n) (hc4 : CelIn L 4 (some (.ref C.lx)) n) (hc5 : CelIn L 5 (some (.ref xl)) n) (hX : WordsIn nx xl n) (hW : WordsIn nx wl n)
    (B : Below callerA g [] g) (T : Top topProg looseL mean mg mb g) (codeHd : CodeHd g 168 164) (F : Fr g L s.heap m) (N : News g L s.heap n) (hwm : m (Str.ofString "words") = some (.ref wl))
    (hQ : ∀ h' tk' n', Fr g L h' m → News g L h' n' → (∀ q ∈ n, q ∈ n') → Q .next { s with heap := h', toks := tk' }) :
    (frag.heap_1 w.params).In g → wpAny (model Challenge.rw_ty0016_01.row.prog w) (lawA L fa cd0) (exec (lawS 6) (lawEnv L fa cd0)) Q E s := by
  have e1 : lawS 6 = Stmt.If _ _ _ _ := rfl
  have e3 : scopeOf (topN 17) = Scope.mk _ _ _ _ _ := rfl
  unfold lawA lawEnv
  rw [e1, e3]
  clear e1 e3
  obtain ⟨o1, hc11, hc12⟩ := hc1
  obtain ⟨o4, hc41, hc42⟩ := hc4
  obtain ⟨o5, hc51, hc52⟩ := hc5
  have dX := words_dat hX
  have dW := words_dat hW
  obtain ⟨ti2, hi3, hi4⟩ := hL.inst
  k_fill
  intro X
  w_strict (
   repeat' (first | (fail_if_success (with_reducible show wpAny _ _ (pyIter _) _ _ _)
                     fail_if_success (with_reducible show wpAny _ _ (exec (Stmt.For _ _ _ _ _) _) _ _ _)
                     fail_if_success (with_reducible show wpAny _ _ (eval (Expr.ListComp _ _ _ _) _) _ _ _)
                     first | ((with_reducible show wpAny _ _ (compareOp CmpOp.NotEq (Value.ref _) (Value.ref _)) _ _ _); refine ne_dat N dX dW (words_ok nx) (Nat.le_of_ble_eq_true rfl) ?_) | (k_unfold; (try dsimp only)) | (k_end; wrow_close) | walk1 | (dsimp only; walk1) | (leave1; walk_say "STEP leave1"; try dsimp only) | fail "no step")))
  refine eval_listcomp (cl := [(Str.ofString "cells", L + 1)]) rfl rfl (by decide) ?_
  w_strict (
   repeat' (first | (fail_if_success (with_reducible show wpAny _ _ (pyIter _) _ _ _)
                     fail_if_success (with_reducible show wpAny _ _ (exec (Stmt.For _ _ _ _ _) _) _ _ _)
                     fail_if_success (with_reducible show wpAny _ _ (eval (Expr.ListComp _ _ _ _) _) _ _ _)
                     first | (k_unfold; (try dsimp only)) | (k_end; wrow_close) | walk1 | (dsimp only; walk1) | (leave1; walk_say "STEP leave1"; try dsimp only) | fail "no step")))
  rename_i h9 tk9 t7 t8 t9 hR1 F3 N3 hk3
  refine comp_range (n := 4) (J := fun i vals nws => IntsAre vals (([b / 2 ^ 0 % 2, b / 2 ^ 1 % 2, b / 2 ^ 2 % 2, b / 2 ^ 3 % 2] : List Int).take i) ∧ ∀ q ∈ n, q ∈ nws) rfl (by decide) rfl rfl hR1 (by decide +kernel) (by decide +kernel) (by decide) F3 N3 ⟨.nil, fun q hq => hq⟩ ?_ ?_
  · rintro C5 D5 I5 hI hID hDC i5 vals nws h5 tk5 oC oI mC nn t5 E5 hi5 ⟨j1, j2⟩ F6 N6 hO hne
    have ei : (0 : Int) + (i5 : Int) * 1 = (i5 : Int) := by omega
    rw [ei] at hO
    have hcc := j2 _ hc11
    have hll := j2 _ hcl
    obtain ⟨hb0, hb9⟩ := hb
    clear F3 N3
    w_strict (
     repeat' (first | (fail_if_success (with_reducible show wpAny _ _ (pyIter _) _ _ _)
                       fail_if_success (with_reducible show CEnd _ _ _ _ _ _ _ _ _ _ _ _ _ _)
                       fail_if_success (with_reducible show DEnd _ _ _ _ _ _ _ _ _ _ _ _ _ _ _ _ _)
                       fail_if_success (with_reducible show wpAny _ _ (eval (Expr.DictComp _ _ _ _ _) _) _ _ _)
                       fail_if_success (with_reducible show wpAny _ _ (exec (Stmt.For _ _ _ _ _) _) _ _ _)
                       fail_if_success (with_reducible show wpAny _ _ (eval (Expr.ListComp _ _ _ _) _) _ _ _)
                       first | (k_unfold; (try dsimp only)) | (k_end; wrow_close) | walk1 | (dsimp only; walk1) | (leave1; walk_say "STEP leave1"; try dsimp only) | fail "no step")))
    refine ⟨_, _, nws, oC, _, rfl, F6, N6, hO, hne, fun _ h => (nomatch h), ?_, j2⟩
    rw [fbit b i5 hb0]
    have et : ([b / 2 ^ 0 % 2, b / 2 ^ 1 % 2, b / 2 ^ 2 % 2, b / 2 ^ 3 % 2] : List Int).take (i5 + 1) = ([b / 2 ^ 0 % 2, b / 2 ^ 1 % 2, b / 2 ^ 2 % 2, b / 2 ^ 3 % 2] : List Int).take i5 ++ [b / 2 ^ i5 % 2] := by
      have : i5 = 0 ∨ i5 = 1 ∨ i5 = 2 ∨ i5 = 3 := by first | exact cs4_n (by first | assumption | omega) | exact cs4_z (by first | assumption | omega) (by first | assumption | omega)
      rcases this with rfl | rfl | rfl | rfl <;> rfl
    rw [et]
    exact j1.append (.cons _ _ .nil)
  · rintro C5 D5 hD hDC vals nws h5 tk5 oC mC nn ⟨j1, j2⟩ hl5 F6 N6 hO hne
    refine compPost_none F6 N6 hO hDC (fun p hp => (hne p hp).1) fun h3 F7 N7 => ?_
    dsimp only
    have j1' : IntsAre vals [b / 2 ^ 0 % 2, b / 2 ^ 1 % 2, b / 2 ^ 2 % 2, b / 2 ^ 3 % 2] := j1
    have hs : ([b / 2 ^ 0 % 2, b / 2 ^ 1 % 2, b / 2 ^ 2 % 2, b / 2 ^ 3 % 2] : List Int).sum = barN b 4 := by simp [barN]; omega
    generalize ([b / 2 ^ 0 % 2, b / 2 ^ 1 % 2, b / 2 ^ 2 % 2, b / 2 ^ 3 % 2] : List Int) = bl at j1' hs
    have hb4 : 0 ≤ barN b 4 ∧ barN b 4 ≤ 4 := barN_le b 4
    clear F3 N3
    w_strict (
     repeat' (first | (fail_if_success (with_reducible show wpAny _ _ (pyIter _) _ _ _)
                       fail_if_success (with_reducible show wpAny _ _ (exec (Stmt.For _ _ _ _ _) _) _ _ _)
                       fail_if_success (with_reducible show wpAny _ _ (eval (Expr.ListComp _ _ _ _) _) _ _ _)
                       first | (k_unfold; (try dsimp only)) | (k_end; wrow_close) | walk1 | (dsimp only; walk1) | (leave1; walk_say "STEP leave1"; try dsimp only) | fail "no step")))
    all_goals first | exact hQ _ _ _ (by assumption) (by assumption) (fun q hq => .tail _ (j2 q hq)) | (exfalso; omega)
theorem offLB7 : True := by
  w_top off
  exact True.intro
theorem LexIn.offCell {w : World} {mean : ExcName → Option Value} {mg mb : Str → Option Value} {C : LexC} {nl : Int} {q : List Str} {cs : List Nat} {news n' : List (Addr × Obj)} {c : Addr} {o : Obj} {v : Option Value} {g hh : Heap} {L : Addr} (N : News g L hh news) (hm : (c, o) ∈ news) (hd : o.data = .cell v) (hv : v ≠ some (.ref C.lf))
    (h : LexIn w mean mg mb C nl q cs news) (hk9 : ∀ p ∈ news, p.1 ≠ c → p ∈ n') : LexIn w mean mg mb C nl q cs n' := by
  obtain ⟨t, qs, ys, n1, n2, keep, hq, hS, ho, hE, hk, hf, hl⟩ := h
  have out : ∀ p ∈ news, p.2.data ≠ o.data → p ∈ n' := fun p hp hne => hk9 p hp (neD N (a := p.1) (o1 := p.2) hp hm hne)
  simp only [List.forall_mem_cons] at hE
  obtain ⟨e1, e2, e3, e4, e5, e6, _⟩ := hE
  refine ⟨t, qs, ys, n1, n2, keep, hq, hS, ho, ?_, fun p hp => ⟨?_, (hk p hp).2⟩, hf, hl⟩
  · simp only [List.forall_mem_cons]
    refine ⟨out _ e1 ?_, out _ e2 ?_, out _ e3 ?_, out _ e4 ?_, out _ e5 ?_, out _ e6 ?_, fun _ h => nomatch h⟩ <;> (rw [hd]; exact fun e => nomatch e)
  · refine hk9 p (hk p hp).1 fun ec => ?_
    have z := (N _ (hk p hp).1).1
    rw [ec, (N _ hm).1] at z
    have z2 : o = p.2 := Option.some.inj z
    exact hv ((hk p hp).2.2.2 v (by rw [← z2, hd]))
noncomputable abbrev letEs (P : Params) (f : Int → Str) (kt vt : Int → Tok) : List DictEntry :=
  [⟨PyData.keyHash P (ltr 0), .str (ltr 0) (kt 0), .str (f 0) (vt 0)⟩, ⟨PyData.keyHash P (ltr 1), .str (ltr 1) (kt 1), .str (f 1) (vt 1)⟩, ⟨PyData.keyHash P (ltr 2), .str (ltr 2) (kt 2), .str (f 2) (vt 2)⟩, ⟨PyData.keyHash P (ltr 3), .str (ltr 3) (kt 3), .str (f 3) (vt 3)⟩]
noncomputable abbrev letKv (f : Int → Str) (vt : Int → Tok) : List (Str × Value) := [(ltr 0, .str (f 0) (vt 0)), (ltr 1, .str (f 1) (vt 1)), (ltr 2, .str (f 2) (vt 2)), (ltr 3, .str (f 3) (vt 3))]
noncomputable def DictIn (P : Params) (f : Int → Str) (d : Addr) (n : List (Addr × Obj)) : Prop := ∃ (kt vt : Int → Tok) (k : Nat), (d, dictOf (letEs P f kt vt) k) ∈ n
noncomputable def by4 {α : Type} (a b c d : α) (y : Int) : α := if y = 0 then a else if y = 1 then b else if y = 2 then c else d
theorem letDict {prog : Program} {w : World} {f : Int → Str} {vt : Int → Tok} {o : Obj} (h : o.IsDictOf (PySem.strKind prog w) (letKv f vt)) : ∃ kt k, o = dictOf (letEs w.params f kt vt) k := by
  obtain ⟨es, n, rfl, e1, e2⟩ := dict_shape h
  have hl : es.length = 4 := by simpa using congrArg List.length e1
  obtain ⟨a, b, c, d, rfl⟩ := four_of hl
  obtain ⟨t0, h0⟩ := e2 0 _ rfl
  obtain ⟨t1, h1⟩ := e2 1 _ rfl
  obtain ⟨t2, h2⟩ := e2 2 _ rfl
  obtain ⟨t3, h3⟩ := e2 3 _ rfl
  simp at h0 h1 h2 h3
  subst h0 h1 h2 h3
  exact ⟨by4 t0 t1 t2 t3, n, rfl⟩
theorem ltr_ne : ltr 0 ≠ ltr 1 ∧ ltr 0 ≠ ltr 2 ∧ ltr 0 ≠ ltr 3 ∧ ltr 1 ≠ ltr 2 ∧ ltr 1 ≠ ltr 3 ∧ ltr 2 ≠ ltr 3 := by decide +kernel
theorem stored_let {f : Int → Str} {vt : Int → Tok} {i : Nat} (hi : i < 4) {vt' : Int → Tok} (hv : ∀ j : Int, j < i → vt' j = vt j) : stored ((letKv f vt).take i) (ltr i) (.str (f i) (vt' i)) = (letKv f vt').take (i + 1) := by
  obtain ⟨n1, n2, n3, n4, n5, n6⟩ := ltr_ne
  have : i = 0 ∨ i = 1 ∨ i = 2 ∨ i = 3 := by first | exact cs4_n (by first | assumption | omega) | exact cs4_z (by first | assumption | omega) (by first | assumption | omega)
  rcases this with rfl | rfl | rfl | rfl
  · simp [stored]
  · have := hv 0 (by decide)
    simp [stored, n1, this]
  · have := hv 0 (by decide)
    have := hv 1 (by decide)
    simp [stored, *]
  · have := hv 0 (by decide)
    have := hv 1 (by decide)
    have := hv 2 (by decide)
    simp [stored, *]
set_option maxRecDepth 100000 in
set_option maxHeartbeats 8000000 in
theorem law_s7 {w : World} {mean : ExcName → Option Value} {mg mb : Str → Option Value} {L fa xl : Addr} {cd0 : Value} {s : Shared} {nx : Int → Int → Int} {tl : Tok}
    {g : Heap} {m : Str → Option Value} {n : List (Addr × Obj)} {Q : Flow → Shared → Prop} {E : Value → Shared → Prop}
    (hX : WordsIn nx xl n) (hc2 : CelIn L 2 (some (.str lettersS tl)) n) (hc5 : CelIn L 5 (some (.ref xl)) n) (hc6 : CelIn L 6 none n)
    (B : Below callerA g [] g) (T : Top topProg looseL mean mg mb g) (codeHd : CodeHd g 168 164) (F : Fr g L s.heap m) (N : News g L s.heap n)
    (hQ : ∀ h' tk' n' sd, Fr g L h' m → News g L h' n' → CelIn L 6 (some (.ref sd)) n' → StandsIn w.params nx sd n' → (∀ q ∈ n, q.1 < sd) → (∀ q ∈ n, q.1 ≠ L + 6 → q ∈ n') → Q .next { s with heap := h', toks := tk' }) :
    (frag.heap_1 w.params).In g → wpAny (model Challenge.rw_ty0016_01.row.prog w) (lawA L fa cd0) (exec (lawS 7) (lawEnv L fa cd0)) Q E s := by
  have e1 : lawS 7 = Stmt.Assign _ _ _ := rfl
  have e3 : scopeOf (topN 17) = Scope.mk _ _ _ _ _ := rfl
  unfold lawA lawEnv
  rw [e1, e3]
  clear e1 e3
  obtain ⟨o2, hc21, hc22⟩ := hc2
  obtain ⟨o5, hc51, hc52⟩ := hc5
  obtain ⟨o6, hc61, hc62⟩ := hc6
  obtain ⟨tx, kx, hx⟩ := hX
  k_fill
  intro X
  w_strict (
   repeat' (first | (fail_if_success (with_reducible show wpAny _ _ (pyIter _) _ _ _)
                     fail_if_success (with_reducible show CEnd _ _ _ _ _ _ _ _ _ _ _ _ _ _)
                     fail_if_success (with_reducible show DEnd _ _ _ _ _ _ _ _ _ _ _ _ _ _ _ _ _)
                     fail_if_success (with_reducible show wpAny _ _ (eval (Expr.DictComp _ _ _ _ _) _) _ _ _)
                     fail_if_success (with_reducible show wpAny _ _ (exec (Stmt.For _ _ _ _ _) _) _ _ _)
                     fail_if_success (with_reducible show wpAny _ _ (eval (Expr.ListComp _ _ _ _) _) _ _ _)
                     first | (k_unfold; (try dsimp only)) | (k_end; wrow_close) | walk1 | (dsimp only; walk1) | (leave1; walk_say "STEP leave1"; try dsimp only) | fail "no step")))
  refine eval_dictcomp (cl := [(Str.ofString "letters", L + 2), (Str.ofString "come", L + 5)]) rfl rfl (by decide) ?_
  w_strict (
   repeat' (first | (fail_if_success (with_reducible show wpAny _ _ (pyIter _) _ _ _)
                     fail_if_success (with_reducible show wpAny _ _ (exec (Stmt.For _ _ _ _ _) _) _ _ _)
                     fail_if_success (with_reducible show wpAny _ _ (eval (Expr.ListComp _ _ _ _) _) _ _ _)
                     first | (k_unfold; (try dsimp only)) | (k_end; wrow_close) | walk1 | (dsimp only; walk1) | (leave1; walk_say "STEP leave1"; try dsimp only) | fail "no step")))
  rename_i h9 tk9 t7 t8 t9 hR1 F3 N3 hk3
  refine compd_range (n := 4) (J := fun i kvs nws => kvs = (letKv (wd nx) tx).take i ∧ ∀ q ∈ n, q ∈ nws) rfl (by decide) rfl rfl hR1 (by decide +kernel) (by decide +kernel) (by decide) F3 N3 (fun i kvs nws h => by rw [h.1, List.length_take]; exact Nat.min_le_right _ _) ⟨rfl, fun q hq => hq⟩ ?_ ?_
  · rintro C5 D5 I5 hI hID hDC i5 kvs nws h5 tk5 oC oI oD mC t5 E5 hi5 ⟨j1, j2⟩ F6 N6 hO hDi hne
    have ei : (0 : Int) + (i5 : Int) * 1 = (i5 : Int) := by omega
    rw [ei] at hO
    have hc2' := j2 _ hc21
    have hc5' := j2 _ hc51
    have hx' := j2 _ hx
    have hla := letters_at (y := (i5 : Int)) (by omega) (by omega)
    have hwa : ([.str (wd nx 0) (tx 0), .str (wd nx 1) (tx 1), .str (wd nx 2) (tx 2), .str (wd nx 3) (tx 3)] : List Value)[((i5 : Int)).toNat]? = some (.str (wd nx i5) (tx i5)) := words_at hi5
    clear F3 N3
    w_strict (
     repeat' (first | (fail_if_success (with_reducible show wpAny _ _ (pyIter _) _ _ _)
                       fail_if_success (with_reducible show CEnd _ _ _ _ _ _ _ _ _ _ _ _ _ _)
                       fail_if_success (with_reducible show DEnd _ _ _ _ _ _ _ _ _ _ _ _ _ _ _ _ _)
                       fail_if_success (with_reducible show wpAny _ _ (eval (Expr.DictComp _ _ _ _ _) _) _ _ _)
                       fail_if_success (with_reducible show wpAny _ _ (exec (Stmt.For _ _ _ _ _) _) _ _ _)
                       fail_if_success (with_reducible show wpAny _ _ (eval (Expr.ListComp _ _ _ _) _) _ _ _)
                       first | ((((with_reducible show wpAny _ _ (subscriptTail _ _ (Value.str _ _) (Value.int _ _)) _ _ _); refine' item_S ?a ?b ?c ?_ ?h; (case a => omega); (case b => omega); (case c => first | with_reducible assumption | exact rfl); (case h => with_unfolding_all rfl); k_whole))) | (k_unfold; (try dsimp only)) | (k_end; wrow_close) | walk1 | (dsimp only; walk1) | (leave1; walk_say "STEP leave1"; try dsimp only) | fail "no step")))
    refine ⟨_, _, nws, oC, _, ltr i5, _, rfl, rfl, F6, N6, hO, hne, fun _ h => (nomatch h), ?_, j2⟩
    subst j1
    exact stored_let hi5 (fun _ _ => rfl)
  · rintro C5 D5 hD hDC kvs nws h5 tk5 oC oD mC ⟨j1, j2⟩ F6 N6 hO hDi hne
    refine compPost_none F6 N6 hO hDC (fun p hp => (hne p hp).1) fun h3 F7 N7 => ?_
    dsimp only
    have j1' : kvs = letKv (wd nx) tx := j1
    subst j1'
    obtain ⟨kt, kk, rfl⟩ := letDict hDi
    have h6' := j2 _ hc61
    have hD6 : D5 ≠ L + 6 := fun e => (hne _ h6').2 e.symm
    refine store_cell F7 N7 (.tail _ h6') hc62 rfl ?_
    intro h' o' F' N' hd'
    exact hQ _ _ _ D5 F' N' ⟨o', .head _, hd'⟩ ⟨kt, tx, kk, .tail _ (mem_cut (.head _) (by simpa using hD6))⟩ hD fun q hq h2 => .tail _ (mem_cut (.tail _ (j2 q hq)) (by simpa using h2))
theorem offLB8 : True := by
  w_top off
  exact True.intro
noncomputable def e8 (nx : Int → Int → Int) (y : Int) : Str := txt ((qs nx y 7).map cd)
theorem letters_txt : lettersS = txt [34, 92, 32, 35] := by decide +kernel
set_option maxRecDepth 100000 in
set_option maxHeartbeats 8000000 in
theorem law_s8 {w : World} {mean : ExcName → Option Value} {mg mb : Str → Option Value} {C : LexC} {nl : Int} {L fa sd : Addr} {cd0 : Value} {s : Shared} {nx : Int → Int → Int} {tl : Tok}
    {g : Heap} {m : Str → Option Value} {n : List (Addr × Obj)} {Q : Flow → Shared → Prop} {E : Value → Shared → Prop}
    (hnx : ∀ b y, 0 ≤ y → y < 4 → 0 ≤ nx b y ∧ nx b y < 4) (hL : LexIn w mean mg mb C nl [] [122] n) (hS : StandsIn w.params nx sd n) (hsd : sd ∉ C.mut)
    (hc2 : CelIn L 2 (some (.str lettersS tl)) n) (hc4 : CelIn L 4 (some (.ref C.lx)) n) (hc6 : CelIn L 6 (some (.ref sd)) n) (hm2 : L + 2 ∉ C.mut) (hm4 : L + 4 ∉ C.mut) (hm6 : L + 6 ∉ C.mut)
    (B : Below callerA g [] g) (T : Top topProg looseL mean mg mb g) (codeHd : CodeHd g 168 164) (F : Fr g L s.heap m) (N : News g L s.heap n)
    (hQ : ∀ h' tk' n' ed, Fr g L h' (fun z => if z = Str.ofString "eights" then some (.ref ed) else m z) → News g L h' n' → DictIn w.params (e8 nx) ed n' → ed ∉ C.mut → LexIn w mean mg mb C nl [] [122] n' → (∀ q ∈ n, q.1 ∉ C.mut → q ∈ n') → Q .next { s with heap := h', toks := tk' }) :
    (frag.heap_1 w.params).In g → wpAny (model Challenge.rw_ty0016_01.row.prog w) (lawA L fa cd0) (exec (lawS 8) (lawEnv L fa cd0)) Q E s := by
  have e1 : lawS 8 = Stmt.Assign _ _ _ := rfl
  have e3 : scopeOf (topN 17) = Scope.mk _ _ _ _ _ := rfl
  unfold lawA lawEnv
  rw [e1, e3]
  clear e1 e3
  obtain ⟨o2, hc21, hc22⟩ := hc2
  obtain ⟨o4, hc41, hc42⟩ := hc4
  obtain ⟨o6, hc61, hc62⟩ := hc6
  k_fill
  intro X
  refine exec_assign_dictcomp (cl := [(Str.ofString "stands", L + 6), (Str.ofString "lexer", L + 4)]) rfl rfl rfl (by decide) ?_
  w_strict (
   repeat' (first | (fail_if_success (with_reducible show wpAny _ _ (pyIter _) _ _ _)
                     fail_if_success (with_reducible show CEnd _ _ _ _ _ _ _ _ _ _ _ _ _ _)
                     fail_if_success (with_reducible show DEnd _ _ _ _ _ _ _ _ _ _ _ _ _ _ _ _ _)
                     fail_if_success (with_reducible show wpAny _ _ (eval (Expr.DictComp _ _ _ _ _) _) _ _ _)
                     fail_if_success (with_reducible show wpAny _ _ (exec (Stmt.For _ _ _ _ _) _) _ _ _)
                     fail_if_success (with_reducible show wpAny _ _ (eval (Expr.ListComp _ _ _ _) _) _ _ _)
                     first | (k_unfold; (try dsimp only)) | (k_end; wrow_close) | walk1 | (dsimp only; walk1) | (leave1; walk_say "STEP leave1"; try dsimp only) | fail "no step")))
  rw [letters_txt]
  refine compd_str (cs := [34, 92, 32, 35]) (J := fun i kvs nws => (∃ vt, kvs = (letKv (e8 nx) vt).take i) ∧ LexIn w mean mg mb C nl [] [122] nws ∧ Keep C n nws) rfl (by decide) rfl rfl (by decide +kernel) (by decide) F N (fun i kvs nws h => by obtain ⟨⟨vt, e⟩, _⟩ := h; rw [e, List.length_take]; exact Nat.min_le_right _ _) ⟨⟨fun _ => tl, rfl⟩, hL, fun q hq _ => hq⟩ ?_ ?_
  · rintro C5 D5 I5 hI hID hDC i5 kvs nws h5 tk5 oC oI oD mC c5 u5 E5 hi5 hc5 ⟨⟨vt, j1⟩, j2, j3⟩ F6 N6 hO hDi hne
    have hi4 : i5 < 4 := hi5
    have hcc : c5 = cd i5 := by
      have : i5 = 0 ∨ i5 = 1 ∨ i5 = 2 ∨ i5 = 3 := by first | exact cs4_n (by first | assumption | omega) | exact cs4_z (by first | assumption | omega) (by first | assumption | omega)
      rcases this with rfl | rfl | rfl | rfl <;> (simp at hc5; exact hc5.symm)
    subst hcc
    have hO' : NsObj oC (fun y => if y = Str.ofString "sign" then some (.str (ltr i5) u5) else mC y) := hO
    have hIpb := hL.pbLt hI
    have hc4' := j3 _ hc41 hm4
    have hc6' := j3 _ hc61 hm6
    obtain ⟨kt, vt6, nd, hsm⟩ := hS
    have hsm' := j3 _ hsm hsd
    clear F N hO
    w_strict (
     repeat' (first | (fail_if_success (with_reducible show wpAny _ _ (pyIter _) _ _ _)
                       fail_if_success (with_reducible show CEnd _ _ _ _ _ _ _ _ _ _ _ _ _ _)
                       fail_if_success (with_reducible show DEnd _ _ _ _ _ _ _ _ _ _ _ _ _ _ _ _ _)
                       fail_if_success (with_reducible show wpAny _ _ (eval (Expr.DictComp _ _ _ _ _) _) _ _ _)
                       fail_if_success (with_reducible show wpAny _ _ (exec (Stmt.For _ _ _ _ _) _) _ _ _)
                       fail_if_success (with_reducible show wpAny _ _ (eval (Expr.ListComp _ _ _ _) _) _ _ _)
                       first | ((with_reducible show wpAny _ _ (call (Value.ref _) _ _) _ _ _); refine' Does.use (law_line (nx := nx) (x := (i5 : Int)) (j2.cons.cons.cons) ⟨kt, vt6, nd, .tail _ (.tail _ (.tail _ hsm'))⟩ hsd hnx (by omega)) ?uA ?uD ?uU ?uF ?uK ?uB ?uR ?uX ?uN ?uT ?uC ?_; (case uA => exact rfl); (case uD => exact Nat.le_of_ble_eq_true rfl); (case uU => exact Nat.le_of_ble_eq_true rfl); (case uF => exact rfl); (case uK => exact rfl); (case uB => k_asm); (case uR => k_asm); (case uX => k_in); (case uN => k_asm); (case uT => k_asm); (case uC => k_asm); k_whole; intro r' n' h' tk' F' N' P'; (obtain ⟨⟨tr, e1⟩, hL1, hK1⟩ := P'; subst e1)) | (k_unfold; (try dsimp only)) | (k_end; wrow_close) | walk1 | (dsimp only; walk1) | (leave1; walk_say "STEP leave1"; try dsimp only) | fail "no step")))
    have hCpb : ∀ a ∈ [C5, I5, D5], @LT.lt Nat _ C.pb a := by
      intro a ha
      simp only [List.mem_cons, List.not_mem_nil, or_false] at ha
      rcases ha with rfl | rfl | rfl
      · exact Nat.lt_trans hIpb (Nat.lt_trans hID hDC)
      · exact hIpb
      · exact Nat.lt_trans hIpb hID
    refine ⟨_, _, cut [C5, I5, D5] n', oC, _, ltr i5, _, rfl, rfl, F', ?_, hO', ?_, fun _ h => (nomatch h), ⟨fun j => if j < (i5 : Int) then vt j else tr, ?_⟩, hL1.cutL hCpb, ?_⟩
    · refine List.forall_mem_cons.mpr ⟨N' _ (hK1 _ (.head _) (hL.mutLe (hCpb _ (.head _)))), List.forall_mem_cons.mpr ⟨N' _ (hK1 _ (.tail _ (.head _)) (hL.mutLe (hCpb _ (.tail _ (.head _))))), List.forall_mem_cons.mpr ⟨N' _ (hK1 _ (.tail _ (.tail _ (.head _))) (hL.mutLe (hCpb _ (.tail _ (.tail _ (.head _)))))), fun p hp => N' p (cut_sub p hp)⟩⟩⟩
    · exact fun p hp => ⟨cut_ne (.head _) p hp, cut_ne (.tail _ (.head _)) p hp, cut_ne (.tail _ (.tail _ (.head _))) p hp⟩
    · subst j1
      have := stored_let (f := e8 nx) (vt := vt) hi4 (vt' := fun j => if j < (i5 : Int) then vt j else tr) (fun j hj => if_pos hj)
      rw [← this]
      simp only [Int.lt_irrefl, if_false]
      rfl
    · intro p hp hn
      have hp' := j3 p hp hn
      refine mem_cut (hK1 p (.tail _ (.tail _ (.tail _ hp'))) hn) fun e => ?_
      simp only [List.mem_cons, List.not_mem_nil, or_false] at e
      have hh := hne p hp'
      rcases e with e | e | e
      · exact hh.1 e
      · exact hh.2.1 e
      · exact hh.2.2 e
  · rintro C5 D5 hD hDC kvs nws h5 tk5 oC oD mC ⟨⟨vt, j1⟩, j2, j3⟩ F6 N6 hO hDi hne
    have j1' : kvs = letKv (e8 nx) vt := j1
    subst j1'
    obtain ⟨kt, kk, rfl⟩ := letDict hDi
    refine compPost_some (env := lawEnv L fa cd0) F6 N6 hO hDC (fun p hp => (hne p hp).1) rfl rfl fun h3 tk3 F7 N7 => ?_
    exact hQ _ _ _ D5 F7 N7 ⟨kt, vt, kk, .head _⟩ (hL.mutLe (hL.pbLt hD)) j2.cons fun q hq h2 => .tail _ (j3 q hq h2)
theorem offLB9 : True := by
  w_top off
  exact True.intro
theorem tok_z {w : World} {mean : ExcName → Option Value} {mg mb : Str → Option Value} {C : LexC} {nl : Int} {news : List (Addr × Obj)} (hL : LexIn w mean mg mb C nl [] [122] news) :
    Does w mean mg mb 670 1700 (.ref 141) [.ref C.lx] news (fun r n' => (∃ t, r = .str (Str.ofString "z") t) ∧ LexIn w mean mg mb C nl [] [] n' ∧ Keep C news n') := by
  have e : txt (122 :: dec []) = Str.ofString "z" := by decide +kernel
  have := tok_last (items := []) (e := false) (d := 122) hL ⟨by decide, fun _ => ⟨by decide, by decide, by decide⟩⟩ (List.forall_mem_nil _) (Nat.le_of_ble_eq_true rfl)
  rw [e] at this
  exact this
theorem zz_ok : kqdOk 8 (.list [.str (Str.ofString "z"), .str (Str.ofString "")]) = true := by decide +kernel
set_option maxRecDepth 100000 in
set_option maxHeartbeats 8000000 in
theorem law_s9 {w : World} {mean : ExcName → Option Value} {mg mb : Str → Option Value} {C : LexC} {nl : Int} {L fa : Addr} {cd0 : Value} {s : Shared}
    {g : Heap} {m : Str → Option Value} {n : List (Addr × Obj)} {Q : Flow → Shared → Prop} {E : Value → Shared → Prop}
    (hL : LexIn w mean mg mb C nl [] [122] n) (hc4 : CelIn L 4 (some (.ref C.lx)) n) (hm4 : L + 4 ∉ C.mut)
    (B : Below callerA g [] g) (T : Top topProg looseL mean mg mb g) (codeHd : CodeHd g 168 164) (F : Fr g L s.heap m) (N : News g L s.heap n)
    (hQ : ∀ h' tk' n', Fr g L h' m → News g L h' n' → (∀ q ∈ n, q.1 ∉ C.mut → q ∈ n') → Q .next { s with heap := h', toks := tk' }) :
    (frag.heap_1 w.params).In g → wpAny (model Challenge.rw_ty0016_01.row.prog w) (lawA L fa cd0) (exec (lawS 9) (lawEnv L fa cd0)) Q E s := by
  have e1 : lawS 9 = Stmt.If _ _ _ _ := rfl
  have e3 : scopeOf (topN 17) = Scope.mk _ _ _ _ _ := rfl
  unfold lawA lawEnv
  rw [e1, e3]
  clear e1 e3
  obtain ⟨o4, hc41, hc42⟩ := hc4
  obtain ⟨ti2, hi3, hi4⟩ := hL.inst
  k_fill
  intro X
  w_strict (
   repeat' (first | (fail_if_success (with_reducible show wpAny _ _ (pyIter _) _ _ _)
                     fail_if_success (with_reducible show wpAny _ _ (exec (Stmt.For _ _ _ _ _) _) _ _ _)
                     fail_if_success (with_reducible show wpAny _ _ (eval (Expr.ListComp _ _ _ _) _) _ _ _)
                     first | ((with_reducible show wpAny _ _ (call (Value.ref _) _ _) _ _ _); refine' Does.use (tok_z hL) ?uA ?uD ?uU ?uF ?uK ?uB ?uR ?uX ?uN ?uT ?uC ?_; (case uA => exact rfl); (case uD => exact Nat.le_of_ble_eq_true rfl); (case uU => exact Nat.le_of_ble_eq_true rfl); (case uF => exact rfl); (case uK => exact rfl); (case uB => k_asm); (case uR => k_asm); (case uX => k_in); (case uN => k_asm); (case uT => k_asm); (case uC => k_asm); k_whole; intro r' n' h' tk' F' N' P'; (obtain ⟨⟨t1, e1⟩, hL1, hK1⟩ := P'; subst e1; have h41 := hK1 _ hc41 hm4; obtain ⟨ti3, hi5, hi6⟩ := hL1.inst)) | ((with_reducible show wpAny _ _ (call (Value.ref _) _ _) _ _ _); refine' Does.use (tok_eof hL1) ?uA ?uD ?uU ?uF ?uK ?uB ?uR ?uX ?uN ?uT ?uC ?_; (case uA => exact rfl); (case uD => exact Nat.le_of_ble_eq_true rfl); (case uU => exact Nat.le_of_ble_eq_true rfl); (case uF => exact rfl); (case uK => exact rfl); (case uB => k_asm); (case uR => k_asm); (case uX => k_in); (case uN => k_asm); (case uT => k_asm); (case uC => k_asm); k_whole; intro r' n' h' tk' F' N' P'; (obtain ⟨⟨t2, e1⟩, hL2, hK2⟩ := P'; subst e1)) | ((with_reducible show wpAny _ _ (compareOp CmpOp.NotEq (Value.ref _) (Value.ref _)) _ _ _); refine ne_dat (by k_asm) (d := .list [.str (Str.ofString "z"), .str (Str.ofString "")]) (.list (by k_mem) (.cons (.str _ _) (.cons (.str _ _) .nil))) (.list (by k_mem) (.cons (.str _ _) (.cons (.str _ _) .nil))) zz_ok (Nat.le_of_ble_eq_true rfl) ?_) | (k_unfold; (try dsimp only)) | (k_end; wrow_close) | walk1 | (dsimp only; walk1) | (leave1; walk_say "STEP leave1"; try dsimp only) | fail "no step")))
  all_goals exact hQ _ _ _ (by assumption) (by assumption) (fun q hq hn => .tail _ (.tail _ (hK2 _ (hK1 _ hq hn) hn)))
theorem offLB10 : True := by
  w_top off
  exact True.intro
set_option maxRecDepth 100000 in
set_option maxHeartbeats 8000000 in
theorem law_s10 {w : World} {mean : ExcName → Option Value} {mg mb : Str → Option Value} {L fa cl : Addr} {cd0 : Value} {s : Shared} {a b c : Int} {ta tb tc : Tok} {k : Nat}
    {g : Heap} {m : Str → Option Value} {n : List (Addr × Obj)} {Q : Flow → Shared → Prop} {E : Value → Shared → Prop}
    (hcl : (cl, listOf ([.int a ta, .int b tb, .int c tc] : List Value).toArray k) ∈ n) (hb : 0 ≤ b ∧ b < 100000000) (hc : 0 ≤ c ∧ c < 100000000) (hc1 : CelIn L 1 (some (.ref cl)) n)
    (B : Below callerA g [] g) (T : Top topProg looseL mean mg mb g) (codeHd : CodeHd g 168 164) (F : Fr g L s.heap m) (N : News g L s.heap n)
    (hQ : ∀ h' tk' t, Fr g L h' (fun z => if z = Str.ofString "first" then some (.int (b / 16 % 4) t) else m z) → News g L h' n → Q .next { s with heap := h', toks := tk' }) :
    (frag.heap_1 w.params).In g → wpAny (model Challenge.rw_ty0016_01.row.prog w) (lawA L fa cd0) (exec (lawS 10) (lawEnv L fa cd0)) Q E s := by
  have e1 : lawS 10 = Stmt.Assign _ _ _ := rfl
  have e3 : scopeOf (topN 17) = Scope.mk _ _ _ _ _ := rfl
  unfold lawA lawEnv
  rw [e1, e3]
  clear e1 e3
  obtain ⟨o1, hc11, hc12⟩ := hc1
  obtain ⟨hb0, hb9⟩ := hb
  obtain ⟨hx0, hx9⟩ := hc
  k_fill
  intro X
  w_strict (
   repeat' (first | (fail_if_success (with_reducible show wpAny _ _ (pyIter _) _ _ _)
                     fail_if_success (with_reducible show wpAny _ _ (exec (Stmt.For _ _ _ _ _) _) _ _ _)
                     fail_if_success (with_reducible show wpAny _ _ (eval (Expr.ListComp _ _ _ _) _) _ _ _)
                     first | (k_unfold; (try dsimp only)) | (k_end; wrow_close) | walk1 | (dsimp only; walk1) | (leave1; walk_say "STEP leave1"; try dsimp only) | fail "no step")))
  rename Fr _ _ _ _ => F1
  rename News _ _ _ _ => N1
  have e : (b.fdiv 16).fmod 4 = b / 16 % 4 := by rw [Int.fdiv_eq_ediv_of_nonneg _ (by decide), Int.fmod_eq_emod_of_nonneg _ (by decide)]
  rw [e] at F1
  exact hQ _ _ _ F1 N1
set_option maxRecDepth 100000 in
set_option maxHeartbeats 8000000 in
theorem law_s11 {w : World} {mean : ExcName → Option Value} {mg mb : Str → Option Value} {L fa cl : Addr} {cd0 : Value} {s : Shared} {a b c : Int} {ta tb tc : Tok} {k : Nat}
    {g : Heap} {m : Str → Option Value} {n : List (Addr × Obj)} {Q : Flow → Shared → Prop} {E : Value → Shared → Prop}
    (hcl : (cl, listOf ([.int a ta, .int b tb, .int c tc] : List Value).toArray k) ∈ n) (hb : 0 ≤ b ∧ b < 100000000) (hc : 0 ≤ c ∧ c < 100000000) (hc1 : CelIn L 1 (some (.ref cl)) n)
    (B : Below callerA g [] g) (T : Top topProg looseL mean mg mb g) (codeHd : CodeHd g 168 164) (F : Fr g L s.heap m) (N : News g L s.heap n)
    (hQ : ∀ h' tk' t, Fr g L h' (fun z => if z = Str.ofString "place" then some (.int (c % 32768) t) else m z) → News g L h' n → Q .next { s with heap := h', toks := tk' }) :
    (frag.heap_1 w.params).In g → wpAny (model Challenge.rw_ty0016_01.row.prog w) (lawA L fa cd0) (exec (lawS 11) (lawEnv L fa cd0)) Q E s := by
  have e1 : lawS 11 = Stmt.Assign _ _ _ := rfl
  have e3 : scopeOf (topN 17) = Scope.mk _ _ _ _ _ := rfl
  unfold lawA lawEnv
  rw [e1, e3]
  clear e1 e3
  obtain ⟨o1, hc11, hc12⟩ := hc1
  obtain ⟨hb0, hb9⟩ := hb
  obtain ⟨hx0, hx9⟩ := hc
  k_fill
  intro X
  w_strict (
   repeat' (first | (fail_if_success (with_reducible show wpAny _ _ (pyIter _) _ _ _)
                     fail_if_success (with_reducible show wpAny _ _ (exec (Stmt.For _ _ _ _ _) _) _ _ _)
                     fail_if_success (with_reducible show wpAny _ _ (eval (Expr.ListComp _ _ _ _) _) _ _ _)
                     first | (k_unfold; (try dsimp only)) | (k_end; wrow_close) | walk1 | (dsimp only; walk1) | (leave1; walk_say "STEP leave1"; try dsimp only) | fail "no step")))
  rename Fr _ _ _ _ => F1
  rename News _ _ _ _ => N1
  have e : c.fmod 32768 = c % 32768 := by rw [Int.fmod_eq_emod_of_nonneg _ (by decide)]
  rw [e] at F1
  exact hQ _ _ _ F1 N1
set_option maxRecDepth 100000 in
set_option maxHeartbeats 8000000 in
theorem law_s12 {w : World} {mean : ExcName → Option Value} {mg mb : Str → Option Value} {L fa : Addr} {cd0 : Value} {s : Shared}
    {g : Heap} {m : Str → Option Value} {n : List (Addr × Obj)} {Q : Flow → Shared → Prop} {E : Value → Shared → Prop}
    (B : Below callerA g [] g) (T : Top topProg looseL mean mg mb g) (codeHd : CodeHd g 168 164) (F : Fr g L s.heap m) (N : News g L s.heap n)
    (hQ : ∀ h' tk' el, Fr g L h' (fun z => if z = Str.ofString "ends" then some (.ref el) else m z) → News g L h' ((el, listOf ([] : List Value).toArray 0) :: n) → (∀ q ∈ n, q.1 < el) → Q .next { s with heap := h', toks := tk' }) :
    (frag.heap_1 w.params).In g → wpAny (model Challenge.rw_ty0016_01.row.prog w) (lawA L fa cd0) (exec (lawS 12) (lawEnv L fa cd0)) Q E s := by
  have e1 : lawS 12 = Stmt.Assign _ _ _ := rfl
  have e3 : scopeOf (topN 17) = Scope.mk _ _ _ _ _ := rfl
  unfold lawA lawEnv
  rw [e1, e3]
  clear e1 e3
  k_fill
  intro X
  w_strict (
   repeat' (first | (fail_if_success (with_reducible show wpAny _ _ (pyIter _) _ _ _)
                     fail_if_success (with_reducible show wpAny _ _ (exec (Stmt.For _ _ _ _ _) _) _ _ _)
                     fail_if_success (with_reducible show wpAny _ _ (eval (Expr.ListComp _ _ _ _) _) _ _ _)
                     first | (k_unfold; (try dsimp only)) | (k_end; wrow_close) | walk1 | (dsimp only; walk1) | (leave1; walk_say "STEP leave1"; try dsimp only) | fail "no step")))
  exact hQ _ _ _ (by assumption) (by assumption) (by assumption)
theorem offLB14 : True := by
  w_top off
  exact True.intro
theorem da_nil {n : List (Addr × Obj)} {vs : List Value} (h : DatAll n vs []) : vs = [] := by cases h; rfl
theorem da_cons {n : List (Addr × Obj)} {vs : List Value} {d : Dat} {ds : List Dat} (h : DatAll n vs (d :: ds)) : ∃ v r, vs = v :: r ∧ DatIn n v d ∧ DatAll n r ds := by
  cases h with | cons a b => exact ⟨_, _, rfl, a, b⟩
theorem di_int {n : List (Addr × Obj)} {v : Value} {i : Int} (h : DatIn n v (.int i)) : ∃ t, v = .int i t := by cases h; exact ⟨_, rfl⟩
theorem di_str {n : List (Addr × Obj)} {v : Value} {x : Str} (h : DatIn n v (.str x)) : ∃ t, v = .str x t := by cases h; exact ⟨_, rfl⟩
theorem di_tuple {n : List (Addr × Obj)} {v : Value} {ds : List Dat} (h : DatIn n v (.tuple ds)) : ∃ a vs k, v = .ref a ∧ (a, ({ cls := .type "tuple", data := .seq vs.toArray k } : Obj)) ∈ n ∧ DatAll n vs ds := by
  cases h with | tuple a b => exact ⟨_, _, _, rfl, a, b⟩
theorem di_list {n : List (Addr × Obj)} {v : Value} {ds : List Dat} (h : DatIn n v (.list ds)) : ∃ a vs k, v = .ref a ∧ (a, listOf vs.toArray k) ∈ n ∧ DatAll n vs ds := by
  cases h with | list a b => exact ⟨_, _, _, rfl, a, b⟩
theorem di_pair {n : List (Addr × Obj)} {v : Value} {d e : Dat} (h : DatIn n v (.tuple [d, e])) : ∃ a x y k, v = .ref a ∧ (a, ({ cls := .type "tuple", data := .seq ([x, y] : List Value).toArray k } : Obj)) ∈ n ∧ DatIn n x d ∧ DatIn n y e := by
  obtain ⟨a, vs, k, rfl, hm, hr⟩ := di_tuple h
  obtain ⟨x, r, rfl, hx, hr⟩ := da_cons hr
  obtain ⟨y, r, rfl, hy, hr⟩ := da_cons hr
  obtain rfl := da_nil hr
  exact ⟨a, x, y, k, rfl, hm, hx, hy⟩
theorem walk_open {n : List (Addr × Obj)} {r : Value} {x : Int} {l : List (Nat × Int)} (h : DatIn n r (Dat.tuple [Dat.int x, Dat.list (besDat l)])) : ∃ a k t lb vs j, r = .ref a ∧ (a, ({ cls := .type "tuple", data := .seq ([.int x t, .ref lb] : List Value).toArray k } : Obj)) ∈ n ∧ (lb, listOf vs.toArray j) ∈ n ∧ DatAll n vs (besDat l) := by
  obtain ⟨a, v, u, k, rfl, hm, hv, hu⟩ := di_pair h
  obtain ⟨t, rfl⟩ := di_int hv
  obtain ⟨lb, vs, j, rfl, hl, hr⟩ := di_list hu
  exact ⟨a, k, t, lb, vs, j, rfl, hm, hl, hr⟩
set_option maxRecDepth 100000 in
set_option maxHeartbeats 8000000 in
theorem law_s14 {w : World} {mean : ExcName → Option Value} {mg mb : Str → Option Value} {L fa pl : Addr} {cd0 : Value} {s : Shared} {nx : Int → Int → Int} {x pc : Int} {t1 t2 : Tok}
    {g : Heap} {m : Str → Option Value} {n : List (Addr × Obj)} {Q : Flow → Shared → Prop} {E : Value → Shared → Prop}
    (hnx : ∀ b y, 0 ≤ y → y < 4 → 0 ≤ nx b y ∧ nx b y < 4) (hP : PairsIn nx pl n) (hc3 : CelIn L 3 (some (.ref pl)) n) (hx : 0 ≤ x ∧ x < 4) (hpc : 0 ≤ pc ∧ pc < 32768)
    (B : Below callerA g [] g) (T : Top topProg looseL mean mg mb g) (codeHd : CodeHd g 168 164) (F : Fr g L s.heap m) (N : News g L s.heap n) (h1 : m (Str.ofString "first") = some (.int x t1)) (h2 : m (Str.ofString "place") = some (.int pc t2))
    (hQ : ∀ h' tk' n' lb vs j t, Fr g L h' (fun z => if z = Str.ofString "beside" then some (.ref lb) else if z = Str.ofString "last" then some (.int (wend nx x (bitsOf pc 15)) t) else m z) → News g L h' n' → (lb, listOf vs.toArray j) ∈ n' → DatAll n' vs (besDat (wbes nx 1 x (bitsOf pc 15))) → (∀ q ∈ n, q ∈ n') → Q .next { s with heap := h', toks := tk' }) :
    (frag.heap_1 w.params).In g → wpAny (model Challenge.rw_ty0016_01.row.prog w) (lawA L fa cd0) (exec (lawS 14) (lawEnv L fa cd0)) Q E s := by
  have e1 : lawS 14 = Stmt.Assign _ _ _ := rfl
  have e3 : scopeOf (topN 17) = Scope.mk _ _ _ _ _ := rfl
  unfold lawA lawEnv
  rw [e1, e3]
  clear e1 e3
  obtain ⟨o3, hc31, hc32⟩ := hc3
  k_fill
  intro X
  w_strict (
   repeat' (first | (fail_if_success (with_reducible show wpAny _ _ (pyIter _) _ _ _)
                     fail_if_success (with_reducible show wpAny _ _ (exec (Stmt.For _ _ _ _ _) _) _ _ _)
                     fail_if_success (with_reducible show wpAny _ _ (eval (Expr.ListComp _ _ _ _) _) _ _ _)
                     first | ((with_reducible show wpAny _ _ (call (Value.ref _) _ _) _ _ _); refine' Does.use (law_walk (st := 15) hP hnx hx (by decide) hpc) ?uA ?uD ?uU ?uF ?uK ?uB ?uR ?uX ?uN ?uT ?uC ?_; (case uA => exact rfl); (case uD => exact Nat.le_of_ble_eq_true rfl); (case uU => exact Nat.le_of_ble_eq_true rfl); (case uF => exact rfl); (case uK => exact rfl); (case uB => k_asm); (case uR => k_asm); (case uX => k_in); (case uN => k_asm); (case uT => k_asm); (case uC => k_asm); k_whole; intro r' n' h' tk' F' N' P'; (obtain ⟨hD, hK1⟩ := P'; obtain ⟨a9, k9, t9, lb9, vs9, j9, e9, hm9, hl9, hd9⟩ := walk_open hD; subst e9)) | (k_unfold; (try dsimp only)) | (k_end; wrow_close) | walk1 | (dsimp only; walk1) | (leave1; walk_say "STEP leave1"; try dsimp only) | fail "no step")))
  all_goals exact hQ _ _ _ lb9 vs9 j9 t9 (by assumption) (by assumption) hl9 hd9 hK1
theorem offLB15 : True := by
  w_top off
  exact True.intro
theorem dat_at {n : List (Addr × Obj)} : ∀ {vs : List Value} {l : List (Nat × Int)}, DatAll n vs (besDat l) → ∀ i, i < vs.length → ∃ q T t u k, l[i]? = some q ∧ vs[i]? = some (.ref T) ∧ (T, tupK [.str (blanks q.1) t, .int q.2 u] k) ∈ n := by
  intro vs l
  induction l generalizing vs with
  | nil =>
    intro h i hi
    rw [da_nil h] at hi
    exact absurd hi (Nat.not_lt_zero _)
  | cons q l ih =>
    intro h i hi
    obtain ⟨v, r, rfl, hv, hr⟩ := da_cons h
    cases i with
    | zero =>
      obtain ⟨T, x, y, k, rfl, hm, hx, hy⟩ := di_pair hv
      obtain ⟨t, rfl⟩ := di_str hx
      obtain ⟨u, rfl⟩ := di_int hy
      exact ⟨q, T, t, u, k, rfl, rfl, hm⟩
    | succ i =>
      obtain ⟨q', T, t, u, k, e1, e2, e3⟩ := ih hr i (Nat.lt_of_succ_lt_succ hi)
      exact ⟨q', T, t, u, k, e1, e2, e3⟩
noncomputable def waitDat (l : List (Nat × Int)) : List Dat := l.map fun q => Dat.tuple [Dat.str (blanks q.1), Dat.str (ltr q.2)]
theorem waitDat_take {l : List (Nat × Int)} {i : Nat} {q : Nat × Int} (h : l[i]? = some q) : (waitDat l).take (i + 1) = (waitDat l).take i ++ [Dat.tuple [Dat.str (blanks q.1), Dat.str (ltr q.2)]] := by
  rw [List.take_add_one]
  simp [waitDat, h]
set_option maxRecDepth 100000 in
set_option maxHeartbeats 8000000 in
theorem law_s15 {w : World} {mean : ExcName → Option Value} {mg mb : Str → Option Value} {L fa lb : Addr} {cd0 : Value} {s : Shared} {tl : Tok} {l : List (Nat × Int)} {vs : List Value} {j : Nat}
    {g : Heap} {m : Str → Option Value} {n : List (Addr × Obj)} {Q : Flow → Shared → Prop} {E : Value → Shared → Prop}
    (hl : (lb, listOf vs.toArray j) ∈ n) (hD : DatAll n vs (besDat l)) (hlen : l.length ≤ 15) (hl4 : ∀ q ∈ l, 0 ≤ q.2 ∧ q.2 < 4) (hc2 : CelIn L 2 (some (.str lettersS tl)) n)
    (B : Below callerA g [] g) (T : Top topProg looseL mean mg mb g) (codeHd : CodeHd g 168 164) (F : Fr g L s.heap m) (N : News g L s.heap n) (h1 : m (Str.ofString "beside") = some (.ref lb))
    (hQ : ∀ h' tk' n' wl, Fr g L h' (fun z => if z = Str.ofString "waiting" then some (.ref wl) else m z) → News g L h' n' → DatIn n' (.ref wl) (Dat.list (waitDat l)) → (∀ q ∈ n, q ∈ n') → Q .next { s with heap := h', toks := tk' }) :
    (frag.heap_1 w.params).In g → wpAny (model Challenge.rw_ty0016_01.row.prog w) (lawA L fa cd0) (exec (lawS 15) (lawEnv L fa cd0)) Q E s := by
  have e1 : lawS 15 = Stmt.Assign _ _ _ := rfl
  have e3 : scopeOf (topN 17) = Scope.mk _ _ _ _ _ := rfl
  unfold lawA lawEnv
  rw [e1, e3]
  clear e1 e3
  obtain ⟨o2, hc21, hc22⟩ := hc2
  have hvl : vs.length = l.length := by rw [hD.length]; simp [besDat]
  k_fill
  intro X
  refine exec_assign_comp (cl := [(Str.ofString "letters", L + 2)]) rfl rfl rfl (by decide) ?_
  w_strict (
   repeat' (first | (fail_if_success (with_reducible show wpAny _ _ (pyIter _) _ _ _)
                     fail_if_success (with_reducible show wpAny _ _ (exec (Stmt.For _ _ _ _ _) _) _ _ _)
                     fail_if_success (with_reducible show wpAny _ _ (eval (Expr.ListComp _ _ _ _) _) _ _ _)
                     first | (k_unfold; (try dsimp only)) | (k_end; wrow_close) | walk1 | (dsimp only; walk1) | (leave1; walk_say "STEP leave1"; try dsimp only) | fail "no step")))
  refine comp_pairs (its := vs) (nl := j) (J := fun i vals nws => DatAll nws vals ((waitDat l).take i) ∧ ∀ q ∈ n, q ∈ nws) rfl (by decide) rfl rfl rfl hl (by omega) F N ⟨.nil, fun _ h => h⟩ ?_ ?_ ?_
  · rintro i vals nws hi ⟨j1, j2⟩
    obtain ⟨q, T, t, u, k, _, e2, e3⟩ := dat_at hD i hi
    exact ⟨T, _, _, k, e2, j2 _ e3⟩
  · rintro C5 D5 I5 hI hID hDC i5 vals nws h5 tk5 oC oI mC nn T5 x y k5 E5 hi5 hT1 hT2 ⟨j1, j2⟩ F6 N6 hO hne hm5
    obtain ⟨q, T9, t9, u9, k9, e1, e2, e3⟩ := dat_at hD i5 hi5
    have hT : T5 = T9 := by rw [hT1] at e2; cases e2; rfl
    subst hT
    obtain ⟨rfl, rfl⟩ := tup_eq N6 (.tail _ (.tail _ (.tail _ hT2))) (.tail _ (.tail _ (.tail _ (j2 _ e3))))
    obtain ⟨y0, y1⟩ := hl4 q (List.mem_of_getElem? e1)
    have l0 := letters_at y0 y1
    have z0 : q.2 < 1000000 := by omega
    have hcc := j2 _ hc21
    clear F N
    w_strict (
     repeat' (first | (fail_if_success (with_reducible show wpAny _ _ (pyIter _) _ _ _)
                       fail_if_success (with_reducible show CEnd _ _ _ _ _ _ _ _ _ _ _ _ _ _)
                       fail_if_success (with_reducible show DEnd _ _ _ _ _ _ _ _ _ _ _ _ _ _ _ _ _)
                       fail_if_success (with_reducible show wpAny _ _ (eval (Expr.DictComp _ _ _ _ _) _) _ _ _)
                       fail_if_success (with_reducible show wpAny _ _ (exec (Stmt.For _ _ _ _ _) _) _ _ _)
                       fail_if_success (with_reducible show wpAny _ _ (eval (Expr.ListComp _ _ _ _) _) _ _ _)
                       first | ((((with_reducible show wpAny _ _ (subscriptTail _ _ (Value.str _ _) (Value.int _ _)) _ _ _); refine' item_S ?a ?b ?c ?_ ?h; (case a => omega); (case b => omega); (case c => first | with_reducible assumption | exact rfl); (case h => with_unfolding_all rfl); k_whole))) | (k_unfold; (try dsimp only)) | (k_end; wrow_close) | walk1 | (dsimp only; walk1) | (leave1; walk_say "STEP leave1"; try dsimp only) | fail "no step")))
    rename_i D9 h9' F9 N9 l9
    obtain ⟨l91, l92, l93, l94⟩ := l9
    refine ⟨_, _, (D9, tupOf [.str (blanks q.1) t9, .str (one (cd q.2)) tk5]) :: nws, oC, _, rfl, F9, fun p hp => N9 p ((by walk_at "my.sub" : ∀ p ∈ _, p ∈ _) p hp), hO, ?_, fun p hp => by simp at hp; subst hp; exact .tail _ hm5, ?_, fun q hq => .tail _ (j2 q hq)⟩
    · exact List.forall_mem_cons.mpr ⟨⟨Nat.ne_of_gt l91, Nat.ne_of_gt l92, Nat.ne_of_gt l93⟩, hne⟩
    · rw [waitDat_take e1]
      exact DatAll.append (j1.mono fun p hp => .tail _ hp) (.one (.tuple (.head _) (.cons (.str _ _) (.cons (.str _ _) .nil))))
  · rintro C5 D5 hD5 hDC vals nws h5 tk5 oC mC nn ⟨j1, j2⟩ hl5 F6 N6 hO hne
    refine compPost_some (env := lawEnv L fa cd0) F6 N6 hO hDC (fun p hp => (hne p hp).1) rfl rfl fun h3 tk3 F7 N7 => ?_
    rw [List.take_of_length_le (by simp [waitDat, hvl])] at j1
    exact hQ _ _ _ D5 F7 N7 (.list (.head _) (j1.mono fun q hq => .tail _ hq)) fun q hq => .tail _ (j2 q hq)
theorem offLB16 : True := by
  w_top off
  exact True.intro
theorem pairs_dat {x : Addr} {n : List (Addr × Obj)} : ∀ {vs : List Value} {l : List (Str × Str)}, PairsAre x n vs l → DatAll n vs (l.map fun p => Dat.tuple [Dat.str p.1, Dat.str p.2])
  | _, _, .nil => .nil
  | _, _, .cons h _ r => .cons (.tuple h (.cons (.str _ _) (.cons (.str _ _) .nil))) (pairs_dat r)
theorem wait_eq (l : List (Nat × Int)) : (l.map fun q => (blanks q.1, ltr q.2)).map (fun p => Dat.tuple [Dat.str p.1, Dat.str p.2]) = waitDat l := by simp [waitDat, List.map_map, Function.comp_def]
theorem wbes_lt (nx : Int → Int → Int) : ∀ (k : Nat) (x : Int) (l : List Int), ∀ q ∈ wbes nx k x l, q.1 < k + l.length
  | _, _, [] => fun q h => nomatch h
  | k, x, b :: l => fun q h => by
    have ih := wbes_lt nx (k + 1) (nx b x) l q
    simp only [wbes, List.mem_append] at h
    simp only [List.length_cons]
    rcases h with h | h
    · split at h
      · simp at h; subst h; show k < _; omega
      · cases h
    · have := ih h
      omega
theorem wbes_in {nx : Int → Int → Int} (hnx : ∀ b y, 0 ≤ y → y < 4 → 0 ≤ nx b y ∧ nx b y < 4) : ∀ (k : Nat) (x : Int) (l : List Int), 0 ≤ x ∧ x < 4 → ∀ q ∈ wbes nx k x l, 0 ≤ q.2 ∧ q.2 < 4
  | _, _, [], _ => fun q h => nomatch h
  | k, x, b :: l, hx => fun q h => by
    have ih := wbes_in hnx (k + 1) (nx b x) l (hnx b x hx.1 hx.2) q
    simp only [wbes, List.mem_append] at h
    rcases h with h | h
    · split at h
      · simp at h; subst h; exact hnx 1 x hx.1 hx.2
      · cases h
    · exact ih h
theorem blanks_ok : ∀ k : Nat, k < 20 → PyData.strOk (blanks k) = true := by decide +kernel
theorem strOk_ltr (y : Int) : PyData.strOk (ltr y) = true := by
  have : ltr y = txt [cd y] := rfl
  rw [this]
  refine strOk_txt fun c hc => ?_
  simp only [List.mem_cons, List.not_mem_nil, or_false] at hc
  subst hc
  exact Nat.lt_trans (cd_lt _) (by decide)
theorem pile_ok {y : Int} {l : List (Nat × Int)} (h : ∀ q ∈ l, q.1 < 20) : kqdOk 8 (.tuple [.str (ltr y), .list (waitDat l)]) = true := by
  have : ∀ q ∈ l, PyData.strOk (blanks q.1) = true := fun q hq => blanks_ok _ (h q hq)
  simp [kqdOk, strOk_ltr, waitDat]
  intro a b hq
  exact this (a, b) hq
set_option maxRecDepth 100000 in
set_option maxHeartbeats 8000000 in
theorem law_s16 {w : World} {mean : ExcName → Option Value} {mg mb : Str → Option Value} {L fa sd wl : Addr} {cd0 : Value} {s : Shared} {nx : Int → Int → Int} {x pc : Int} {t1 t2 t3 tl : Tok}
    {g : Heap} {m : Str → Option Value} {n : List (Addr × Obj)} {Q : Flow → Shared → Prop} {E : Value → Shared → Prop}
    (hnx : ∀ b y, 0 ≤ y → y < 4 → 0 ≤ nx b y ∧ nx b y < 4) (hS : StandsIn w.params nx sd n) (hc2 : CelIn L 2 (some (.str lettersS tl)) n) (hc6 : CelIn L 6 (some (.ref sd)) n) (hx : 0 ≤ x ∧ x < 4) (hpc : 0 ≤ pc ∧ pc < 32768)
    (hW : DatIn n (.ref wl) (Dat.list (waitDat (wbes nx 1 x (bitsOf pc 15)))))
    (B : Below callerA g [] g) (T : Top topProg looseL mean mg mb g) (codeHd : CodeHd g 168 164) (F : Fr g L s.heap m) (N : News g L s.heap n) (h1 : m (Str.ofString "first") = some (.int x t1)) (h2 : m (Str.ofString "place") = some (.int pc t2))
    (h3 : m (Str.ofString "last") = some (.int (wend nx x (bitsOf pc 15)) t3)) (h4 : m (Str.ofString "waiting") = some (.ref wl))
    (hQ : ∀ h' tk' n', Fr g L h' m → News g L h' n' → (∀ q ∈ n, q ∈ n') → Q .next { s with heap := h', toks := tk' }) :
    (frag.heap_1 w.params).In g → wpAny (model Challenge.rw_ty0016_01.row.prog w) (lawA L fa cd0) (exec (lawS 16) (lawEnv L fa cd0)) Q E s := by
  have e1 : lawS 16 = Stmt.If _ _ _ _ := rfl
  have e3 : scopeOf (topN 17) = Scope.mk _ _ _ _ _ := rfl
  unfold lawA lawEnv
  rw [e1, e3]
  clear e1 e3
  obtain ⟨o2, hc21, hc22⟩ := hc2
  obtain ⟨o6, hc61, hc62⟩ := hc6
  have hend := wend_in hnx x (bitsOf pc 15) hx
  have hok : kqdOk 8 (.tuple [.str (ltr (wend nx x (bitsOf pc 15))), .list (waitDat (wbes nx 1 x (bitsOf pc 15)))]) = true := pile_ok fun q hq => by
    have := wbes_lt nx 1 x (bitsOf pc 15) q hq
    rw [bits_len] at this
    omega
  have l0 := letters_at hx.1 hx.2
  have l1 := letters_at hend.1 hend.2
  generalize hend9 : wend nx x (bitsOf pc 15) = xe at h3 hend hok l1
  generalize hbes9 : wbes nx 1 x (bitsOf pc 15) = bl at hW hok
  obtain ⟨hx0, hx4⟩ := hx
  obtain ⟨he0, he4⟩ := hend
  k_fill
  intro X
  w_strict (
   repeat' (first | (fail_if_success (with_reducible show wpAny _ _ (pyIter _) _ _ _)
                     fail_if_success (with_reducible show wpAny _ _ (exec (Stmt.For _ _ _ _ _) _) _ _ _)
                     fail_if_success (with_reducible show wpAny _ _ (eval (Expr.ListComp _ _ _ _) _) _ _ _)
                     first | ((((with_reducible show wpAny _ _ (subscriptTail _ _ (Value.str _ _) (Value.int _ _)) _ _ _); refine' item_S ?a ?b ?c ?_ ?h; (case a => omega); (case b => omega); (case c => first | with_reducible assumption | exact rfl); (case h => with_unfolding_all rfl); k_whole))) | ((with_reducible show wpAny _ _ (call (Value.ref _) _ _) _ _ _); refine' Does.use (law_pile (nx := nx) (x0 := x) hS hnx (And.intro hx0 hx4) hpc) ?uA ?uD ?uU ?uF ?uK ?uB ?uR ?uX ?uN ?uT ?uC ?_; (case uA => exact rfl); (case uD => exact Nat.le_of_ble_eq_true rfl); (case uU => exact Nat.le_of_ble_eq_true rfl); (case uF => exact rfl); (case uK => exact rfl); (case uB => k_asm); (case uR => k_asm); (case uX => k_in); (case uN => k_asm); (case uT => k_asm); (case uC => k_asm); k_whole; intro r' n' h' tk' F' N' P'; (obtain ⟨⟨D9, lp9, vs9, nn9, tt9, x9, e9, hm9, hl9, hp9⟩, hK1⟩ := P'; subst e9; rw [hend9] at hm9; rw [hbes9] at hp9; have hd9 := DatIn.tuple hm9 (.cons (.str _ _) (.cons (.list hl9 (pairs_dat hp9)) .nil)); rw [wait_eq] at hd9; have hc2' := hK1 _ hc21; have hW' := hW.mono hK1; clear hS)) | ((with_reducible show wpAny _ _ (compareOp CmpOp.NotEq (Value.ref _) (Value.ref _)) _ _ _); refine ne_dat (by k_asm) (hd9.mono fun q hq => .tail _ hq) (.tuple (by k_mem) (.cons (.str _ _) (.cons (hW'.mono fun q hq => .tail _ hq) .nil))) hok (Nat.le_of_ble_eq_true rfl) ?_) | (k_unfold; (try dsimp only)) | (k_end; wrow_close) | walk1 | (dsimp only; walk1) | (leave1; walk_say "STEP leave1"; try dsimp only) | fail "no step")))
  all_goals exact hQ _ _ _ (by assumption) (by assumption) (fun q hq => .tail _ (hK1 q hq))
theorem offLB17 : True := by
  w_top off
  exact True.intro
theorem leads_dat {f : Int → Int} {ll : Addr} {n : List (Addr × Obj)} (h : LeadsIn f ll n) : DatIn n (.ref ll) (.list [.int (f 0), .int (f 1), .int (f 2), .int (f 3)]) := by
  obtain ⟨ts, k, hm⟩ := h
  exact .list hm (.cons (.int _ _) (.cons (.int _ _) (.cons (.int _ _) (.cons (.int _ _) .nil))))
theorem flags_ok (a b c d : Int) : kqdOk 8 (.tuple [.list [.int a, .int b, .int c, .int d], .str (Str.ofString "0x8000"), .str (Str.ofString "")]) = true := by
  have h1 : PyData.strOk (Str.ofString "0x8000") = true := by decide +kernel
  have h2 : PyData.strOk (Str.ofString "") = true := by decide +kernel
  simp [kqdOk, h1, h2]
theorem nm15 : nmS 15 = Str.ofString "0x8000" := by decide +kernel
theorem bit_plus (pc : Int) {k : Nat} (h : k ≤ 14) : (32768 + pc) / 2 ^ k % 2 = pc / 2 ^ k % 2 := by
  have e : (32768 : Int) = 2 * 2 ^ (14 - k) * 2 ^ k := by
    rw [Int.mul_assoc, ← Int.pow_add, Nat.sub_add_cancel h]
    rfl
  rw [e, Int.add_comm, Int.add_mul_ediv_right _ _ (Int.ne_of_gt (Int.pow_pos (by decide))), Int.add_mul_emod_self_left]
theorem bits_plus (pc : Int) : ∀ k : Nat, k ≤ 15 → bitsOf (32768 + pc) k = bitsOf pc k
  | 0, _ => rfl
  | k + 1, h => by simp only [bitsOf, bits_plus pc k (Nat.le_of_succ_le h), bit_plus pc (Nat.le_of_succ_le_succ h)]
set_option maxRecDepth 100000 in
set_option maxHeartbeats 8000000 in
theorem law_s17 {w : World} {mean : ExcName → Option Value} {mg mb : Str → Option Value} {L fa pl el : Addr} {cd0 : Value} {s : Shared} {nx : Int → Int → Int} {pc : Int} {t2 : Tok}
    {g : Heap} {m : Str → Option Value} {n : List (Addr × Obj)} {Q : Flow → Shared → Prop} {E : Value → Shared → Prop}
    (hnx : ∀ b y, 0 ≤ y → y < 4 → 0 ≤ nx b y ∧ nx b y < 4) (hT : TabIn n) (hP : PairsIn nx pl n) (hc3 : CelIn L 3 (some (.ref pl)) n) (hpc : 0 ≤ pc ∧ pc < 32768) (hE : LeadsIn (fun x => wend nx x (bitsOf pc 15)) el n)
    (B : Below callerA g [] g) (T : Top topProg looseL mean mg mb g) (codeHd : CodeHd g 168 164) (F : Fr g L s.heap m) (N : News g L s.heap n) (h2 : m (Str.ofString "place") = some (.int pc t2)) (h3 : m (Str.ofString "ends") = some (.ref el))
    (hQ : ∀ h' tk' n', Fr g L h' m → News g L h' n' → TabIn n' → Q (.ret (.bool true)) { s with heap := h', toks := tk' }) :
    (frag.heap_1 w.params).In g → wpAny (model Challenge.rw_ty0016_01.row.prog w) (lawA L fa cd0) (exec (lawS 17) (lawEnv L fa cd0)) Q E s := by
  have e1 : lawS 17 = Stmt.Return _ _ := rfl
  have e3 : scopeOf (topN 17) = Scope.mk _ _ _ _ _ := rfl
  unfold lawA lawEnv
  rw [e1, e3]
  clear e1 e3
  obtain ⟨o3, hc31, hc32⟩ := hc3
  have hne : @Ne Nat el 164 := by
    obtain ⟨ts, k, hm⟩ := hE
    exact hT.ne N hm rfl
  have hok := flags_ok (wend nx 0 (bitsOf pc 15)) (wend nx 1 (bitsOf pc 15)) (wend nx 2 (bitsOf pc 15)) (wend nx 3 (bitsOf pc 15))
  have hnum : 32768 ≤ 32768 + pc ∧ 32768 + pc < 65536 := by omega
  k_fill
  intro X
  w_strict (
   repeat' (first | (fail_if_success (with_reducible show wpAny _ _ (pyIter _) _ _ _)
                     fail_if_success (with_reducible show wpAny _ _ (exec (Stmt.For _ _ _ _ _) _) _ _ _)
                     fail_if_success (with_reducible show wpAny _ _ (eval (Expr.ListComp _ _ _ _) _) _ _ _)
                     first | ((with_reducible show wpAny _ _ (call (Value.ref _) _ _) _ _ _); refine' Does.use (law_flags hT hP hnx hnum) ?uA ?uD ?uU ?uF ?uK ?uB ?uR ?uX ?uN ?uT ?uC ?_; (case uA => exact rfl); (case uD => exact Nat.le_of_ble_eq_true rfl); (case uU => exact Nat.le_of_ble_eq_true rfl); (case uF => exact rfl); (case uK => exact rfl); (case uB => k_asm); (case uR => k_asm); (case uX => k_in); (case uN => k_asm); (case uT => k_asm); (case uC => k_asm); k_whole; intro r' n' h' tk' F' N' P'; (obtain ⟨D9, ll9, tA9, tB9, e9, hm9, hl9, hK1, hT1⟩ := P'; subst e9; rw [bits_plus pc 15 (Nat.le_refl _)] at hl9; rw [nm15] at hm9; have hE1 : LeadsIn (fun x => wend nx x (bitsOf pc 15)) el n' := (by obtain ⟨ts, k, hm⟩ := hE; exact ⟨ts, k, hK1 _ hm hne⟩); have hd9 := DatIn.tuple hm9 (.cons (leads_dat hl9) (.cons (.str _ _) (.cons (.str _ _) .nil))); have hd8 := leads_dat hE1)) | ((with_reducible show wpAny _ _ (compareOp CmpOp.Eq (Value.ref _) (Value.ref _)) _ _ _); refine eq_dat (by k_asm) (hd9.mono fun q hq => .tail _ hq) (.tuple (by k_mem) (.cons (hd8.mono fun q hq => .tail _ hq) (.cons (.str _ _) (.cons (.str _ _) .nil)))) hok (Nat.le_of_ble_eq_true rfl) ?_) | (k_unfold; (try dsimp only)) | (k_end; wrow_close) | walk1 | (dsimp only; walk1) | (leave1; walk_say "STEP leave1"; try dsimp only) | fail "no step")))
  all_goals exact hQ _ _ _ (by assumption) (by assumption) (hT1.mono fun q hq => .tail _ hq)
theorem offLBA : True := by
  w_top off
  exact True.intro
noncomputable def lwS (j : Nat) : Stmt := nth (bodyOf (lawS 13)) j
/-- the letter to which the highest i figures to the base 8 lead -/
noncomputable def tw (nx : Int → Int → Int) (pc k : Int) : Nat → Int
  | 0 => k
  | i + 1 => wend nx (tw nx pc k i) (bitsOf (pc / 8 ^ (4 - i) % 8) 3)
theorem tw_in {nx : Int → Int → Int} (hnx : ∀ b y, 0 ≤ y → y < 4 → 0 ≤ nx b y ∧ nx b y < 4) {pc k : Int} (hk : 0 ≤ k ∧ k < 4) : ∀ i, 0 ≤ tw nx pc k i ∧ tw nx pc k i < 4
  | 0 => hk
  | i + 1 => wend_in hnx _ _ (tw_in hnx hk i)
theorem wend_app (nx : Int → Int → Int) : ∀ (x : Int) (l r : List Int), wend nx x (l ++ r) = wend nx (wend nx x l) r
  | _, [], _ => rfl
  | x, b :: l, r => wend_app nx (nx b x) l r
theorem bits_split (pc : Int) (b : Nat) : ∀ a : Nat, bitsOf pc (a + b) = bitsOf (pc / 2 ^ b) a ++ bitsOf pc b
  | 0 => by rw [Nat.zero_add]; rfl
  | a + 1 => by
    rw [show a + 1 + b = (a + b) + 1 from Nat.add_right_comm a 1 b]
    simp only [bitsOf, bits_split pc b a, List.cons_append]
    rw [Int.ediv_ediv_of_nonneg (Int.pow_nonneg (by decide)), ← Int.pow_add, Nat.add_comm b a]
theorem bits_low (pc : Int) : bitsOf (pc % 8) 3 = bitsOf pc 3 := by
  have h0 : pc % 8 / 2 ^ 2 % 2 = pc / 2 ^ 2 % 2 := by omega
  have h1 : pc % 8 / 2 ^ 1 % 2 = pc / 2 ^ 1 % 2 := by omega
  have h2 : pc % 8 / 2 ^ 0 % 2 = pc / 2 ^ 0 % 2 := by omega
  simp only [bitsOf, h0, h1, h2]
theorem bits15 (pc : Int) : bitsOf pc 15 = bitsOf (pc / 8) 12 ++ bitsOf (pc % 8) 3 := by
  rw [bits_low]
  exact bits_split pc 3 12
theorem bits12 (pc : Int) : bitsOf (pc / 8) 12 = bitsOf (pc / 8 ^ 4 % 8) 3 ++ (bitsOf (pc / 8 ^ 3 % 8) 3 ++ (bitsOf (pc / 8 ^ 2 % 8) 3 ++ bitsOf (pc / 8 ^ 1 % 8) 3)) := by
  rw [bits_low, bits_low, bits_low, bits_low]
  have s1 := bits_split (pc / 8) 9 3
  have s2 := bits_split (pc / 8) 6 3
  have s3 := bits_split (pc / 8) 3 3
  have d1 : pc / 8 / 2 ^ 9 = pc / 8 ^ 4 := by rw [Int.ediv_ediv_of_nonneg (by decide)]; rfl
  have d2 : pc / 8 / 2 ^ 6 = pc / 8 ^ 3 := by rw [Int.ediv_ediv_of_nonneg (by decide)]; rfl
  have d3 : pc / 8 / 2 ^ 3 = pc / 8 ^ 2 := by rw [Int.ediv_ediv_of_nonneg (by decide)]; rfl
  have d4 : pc / 8 ^ 1 = pc / 8 := rfl
  rw [d1] at s1
  rw [d2] at s2
  rw [d3] at s3
  rw [d4, ← s3, ← s2, ← s1]
theorem tw4 (nx : Int → Int → Int) (pc k : Int) : tw nx pc k 4 = wend nx k (bitsOf (pc / 8) 12) := by
  rw [bits12, wend_app, wend_app, wend_app]
  rfl
noncomputable abbrev eightL (nx : Int → Int → Int) (y : Int) : List Int := [wend nx y (bitsOf 0 3), wend nx y (bitsOf 1 3), wend nx y (bitsOf 2 3), wend nx y (bitsOf 3 3), wend nx y (bitsOf 4 3), wend nx y (bitsOf 5 3), wend nx y (bitsOf 6 3), wend nx y (bitsOf 7 3)]
theorem qs7 (nx : Int → Int → Int) (y : Int) : qs nx y 7 = eightL nx y := by
  simp [qs, qstep, wend, bitsOf]
theorem eight_at (nx : Int → Int → Int) (y : Int) {d : Int} (h0 : 0 ≤ d) (h8 : d < 8) : (eightL nx y)[d.toNat]? = some (wend nx y (bitsOf d 3)) := by
  have : d = 0 ∨ d = 1 ∨ d = 2 ∨ d = 3 ∨ d = 4 ∨ d = 5 ∨ d = 6 ∨ d = 7 := by first | exact cs8_n (by first | assumption | omega) | exact cs8_z (by first | assumption | omega) (by first | assumption | omega)
  rcases this with rfl | rfl | rfl | rfl | rfl | rfl | rfl | rfl <;> rfl
theorem e8_at (nx : Int → Int → Int) (y : Int) {d : Int} (h0 : 0 ≤ d) (h8 : d < 8) : (e8 nx y).cps[d.toNat]? = some (cd (wend nx y (bitsOf d 3))) := by
  have h := eight_at nx y h0 h8
  simp only [e8, txt, qs7]
  rw [List.getElem?_toArray, List.getElem?_map, h]
  rfl
theorem let_find {P : Params} {f : Int → Str} {kt vt : Int → Tok} {y : Int} (h0 : 0 ≤ y) (h4 : y < 4) : findBy Value.isStrOf (letEs P f kt vt).toArray (ltr y) = some (.str (f y) (vt y)) := by
  have : y = 0 ∨ y = 1 ∨ y = 2 ∨ y = 3 := by first | exact cs4_n (by first | assumption | omega) | exact cs4_z (by first | assumption | omega) (by first | assumption | omega)
  rcases this with rfl | rfl | rfl | rfl <;> (unfold findBy letEs; rw [List.find?_toArray]; simp [Value.isStrOf, ltr, one_beq, cd])
theorem let_keys (P : Params) (f : Int → Str) (kt vt : Int → Tok) : KeysLit P (letEs P f kt vt) := ⟨⟨_, _, rfl, rfl⟩, ⟨_, _, rfl, rfl⟩, ⟨_, _, rfl, rfl⟩, ⟨_, _, rfl, rfl⟩, trivial⟩
theorem offLBB : True := by
  w_top off
  exact True.intro
set_option maxRecDepth 100000 in
set_option maxHeartbeats 8000000 in
theorem law_t0 {w : World} {mean : ExcName → Option Value} {mg mb : Str → Option Value} {L fa : Addr} {cd0 : Value} {s : Shared} {tl t1 : Tok} {k : Nat}
    {g : Heap} {m : Str → Option Value} {n : List (Addr × Obj)} {Q : Flow → Shared → Prop} {E : Value → Shared → Prop}
    (hk : k < 4) (hc2 : CelIn L 2 (some (.str lettersS tl)) n)
    (B : Below callerA g [] g) (T : Top topProg looseL mean mg mb g) (codeHd : CodeHd g 168 164) (F : Fr g L s.heap m) (N : News g L s.heap n) (h1 : m (Str.ofString "k") = some (.int (k : Int) t1))
    (hQ : ∀ h' tk' t, Fr g L h' (fun z => if z = Str.ofString "told" then some (.str (ltr k) t) else m z) → News g L h' n → Q .next { s with heap := h', toks := tk' }) :
    (frag.heap_1 w.params).In g → wpAny (model Challenge.rw_ty0016_01.row.prog w) (lawA L fa cd0) (exec (lwS 0) (lawEnv L fa cd0)) Q E s := by
  have e1 : lwS 0 = Stmt.Assign _ _ _ := rfl
  have e3 : scopeOf (topN 17) = Scope.mk _ _ _ _ _ := rfl
  unfold lawA lawEnv
  rw [e1, e3]
  clear e1 e3
  obtain ⟨o2, hc21, hc22⟩ := hc2
  have l0 := letters_at (y := (k : Int)) (by omega) (by omega)
  k_fill
  intro X
  w_strict (
   repeat' (first | (fail_if_success (with_reducible show wpAny _ _ (pyIter _) _ _ _)
                     fail_if_success (with_reducible show wpAny _ _ (exec (Stmt.For _ _ _ _ _) _) _ _ _)
                     fail_if_success (with_reducible show wpAny _ _ (eval (Expr.ListComp _ _ _ _) _) _ _ _)
                     first | ((((with_reducible show wpAny _ _ (subscriptTail _ _ (Value.str _ _) (Value.int _ _)) _ _ _); refine' item_S ?a ?b ?c ?_ ?h; (case a => omega); (case b => omega); (case c => first | with_reducible assumption | exact rfl); (case h => with_unfolding_all rfl); k_whole))) | (k_unfold; (try dsimp only)) | (k_end; wrow_close) | walk1 | (dsimp only; walk1) | (leave1; walk_say "STEP leave1"; try dsimp only) | fail "no step")))
  exact hQ _ _ _ (by assumption) (by assumption)
noncomputable def lwIn : Stmt := nth (bodyOf (lawS 13)) 1
set_option maxRecDepth 100000 in
set_option maxHeartbeats 8000000 in
theorem told_turn {w : World} {mean : ExcName → Option Value} {mg mb : Str → Option Value} {L fa ed : Addr} {cd0 : Value} {s : Shared} {nx : Int → Int → Int} {pc y : Int} {p : Nat} {t1 t2 t3 : Tok}
    {g : Heap} {m : Str → Option Value} {n : List (Addr × Obj)} {Q : Flow → Shared → Prop} {E : Value → Shared → Prop}
    (hD : DictIn w.params (e8 nx) ed n) (hy : 0 ≤ y ∧ y < 4) (hpc : 0 ≤ pc ∧ pc < 32768) (hp : p < 5)
    (B : Below callerA g [] g) (T : Top topProg looseL mean mg mb g) (codeHd : CodeHd g 168 164) (F : Fr g L s.heap m) (N : News g L s.heap n) (h1 : m (Str.ofString "eights") = some (.ref ed)) (h2 : m (Str.ofString "place") = some (.int pc t2)) (h3 : m (Str.ofString "told") = some (.str (ltr y) t3)) (h4 : m (Str.ofString "power") = some (.int (p : Int) t1))
    (hQ : ∀ h' tk' t, Fr g L h' (fun z => if z = Str.ofString "told" then some (.str (ltr (wend nx y (bitsOf (pc / 8 ^ p % 8) 3))) t) else m z) → News g L h' n → Q .next { s with heap := h', toks := tk' }) :
    (frag.heap_1 w.params).In g → wpAny (model Challenge.rw_ty0016_01.row.prog w) (lawA L fa cd0) (execs (bodyOf lwIn) (lawEnv L fa cd0)) Q E s := by
  have e1 : bodyOf lwIn = [Stmt.Assign _ _ _] := rfl
  have e3 : scopeOf (topN 17) = Scope.mk _ _ _ _ _ := rfl
  unfold lawA lawEnv
  rw [e1, e3]
  clear e1 e3
  obtain ⟨kt, vt, nd, hm⟩ := hD
  have hf := let_find (P := w.params) (f := e8 nx) (kt := kt) (vt := vt) hy.1 hy.2
  have hkl := let_keys w.params (e8 nx) kt vt
  have hpy : Hidden ((0 : Int) < (8 : Int) ^ ((p : Int)).toNat ∧ Builtin.divisionGoesByPylong pc ((8 : Int) ^ ((p : Int)).toNat) = false) := by
    refine ⟨Int.pow_pos (by decide), ?_⟩
    have : p = 0 ∨ p = 1 ∨ p = 2 ∨ p = 3 ∨ p = 4 := by omega
    rcases this with rfl | rfl | rfl | rfl | rfl <;> exact PyProof.noPylong_of_log2 (by decide +kernel)
  obtain ⟨hp0, hp9⟩ := hpc
  k_fill
  intro X
  w_strict (
   repeat' (first | (fail_if_success (with_reducible show wpAny _ _ (pyIter _) _ _ _)
                     fail_if_success (with_reducible show wpAny _ _ (exec (Stmt.For _ _ _ _ _) _) _ _ _)
                     fail_if_success (with_reducible show wpAny _ _ (eval (Expr.ListComp _ _ _ _) _) _ _ _)
                     first | (k_unfold; (try dsimp only)) | (k_end; wrow_close) | walk1 | (dsimp only; walk1) | (leave1; walk_say "STEP leave1"; try dsimp only) | fail "no step")))
  refine fdivH hpy hp0 ?_
  intro z9 t9' k9 hz9 hz0 hz1
  have ezm : z9.fmod 8 = pc / 8 ^ p % 8 := by
    rw [show z9 = _ from hz9, Int.toNat_natCast, Int.fdiv_eq_ediv_of_nonneg _ (Int.pow_nonneg (by decide)), Int.fmod_eq_emod_of_nonneg _ (by decide)]
  have hzm : 0 ≤ z9.fmod 8 ∧ z9.fmod 8 < 8 := by rw [Int.fmod_eq_emod_of_nonneg _ (by decide)]; omega
  have hc := e8_at nx y hzm.1 hzm.2
  have hzl : z9.fmod 8 < 1000000 := by omega
  have hzg := hzm.1
  clear hpy
  w_strict (
   repeat' (first | (fail_if_success (with_reducible show wpAny _ _ (pyIter _) _ _ _)
                     fail_if_success (with_reducible show wpAny _ _ (exec (Stmt.For _ _ _ _ _) _) _ _ _)
                     fail_if_success (with_reducible show wpAny _ _ (eval (Expr.ListComp _ _ _ _) _) _ _ _)
                     first | ((((with_reducible show wpAny _ _ (subscriptTail _ _ (Value.str _ _) (Value.int _ _)) _ _ _); refine' item_S ?a ?b ?c ?_ ?h; (case a => omega); (case b => omega); (case c => first | with_reducible assumption | exact rfl); (case h => with_unfolding_all rfl); k_whole))) | (k_unfold; (try dsimp only)) | (k_end; wrow_close) | walk1 | (dsimp only; walk1) | (leave1; walk_say "STEP leave1"; try dsimp only) | fail "no step")))
  rw [ezm] at *
  exact hQ _ _ _ (by assumption) (by assumption)
theorem offLBC : True := by
  w_top off
  exact True.intro
set_option maxRecDepth 100000 in
set_option maxHeartbeats 8000000 in
theorem law_t1 {w : World} {mean : ExcName → Option Value} {mg mb : Str → Option Value} {L fa ed : Addr} {cd0 : Value} {s : Shared} {nx : Int → Int → Int} {pc k : Int} {t2 t3 : Tok}
    {g : Heap} {m : Str → Option Value} {n : List (Addr × Obj)} {Q : Flow → Shared → Prop} {E : Value → Shared → Prop}
    (hnx : ∀ b y, 0 ≤ y → y < 4 → 0 ≤ nx b y ∧ nx b y < 4) (hD : DictIn w.params (e8 nx) ed n) (hk : 0 ≤ k ∧ k < 4) (hpc : 0 ≤ pc ∧ pc < 32768)
    (B : Below callerA g [] g) (T : Top topProg looseL mean mg mb g) (codeHd : CodeHd g 168 164) (F : Fr g L s.heap m) (N : News g L s.heap n) (h1 : m (Str.ofString "eights") = some (.ref ed)) (h2 : m (Str.ofString "place") = some (.int pc t2)) (h3 : m (Str.ofString "told") = some (.str (ltr k) t3))
    (hQ : ∀ h' tk' m' t, Fr g L h' m' → (∀ z, z ≠ Str.ofString "told" → z ≠ Str.ofString "power" → m' z = m z) → m' (Str.ofString "told") = some (.str (ltr (wend nx k (bitsOf (pc / 8) 12))) t) → News g L h' n → Q .next { s with heap := h', toks := tk' }) :
    (frag.heap_1 w.params).In g → wpAny (model Challenge.rw_ty0016_01.row.prog w) (lawA L fa cd0) (exec (lwS 1) (lawEnv L fa cd0)) Q E s := by
  have e1 : lwS 1 = Stmt.For _ _ _ _ _ := rfl
  have e3 : scopeOf (topN 17) = Scope.mk _ _ _ _ _ := rfl
  unfold lawA lawEnv
  rw [e1, e3]
  clear e1 e3
  k_fill
  intro X
  w_strict (
   repeat' (first | (fail_if_success (with_reducible show wpAny _ _ (pyIter _) _ _ _)
                     fail_if_success (with_reducible show wpAny _ _ (exec (Stmt.For _ _ _ _ _) _) _ _ _)
                     fail_if_success (with_reducible show wpAny _ _ (eval (Expr.ListComp _ _ _ _) _) _ _ _)
                     first | (k_unfold; (try dsimp only)) | (k_end; wrow_close) | walk1 | (dsimp only; walk1) | (leave1; walk_say "STEP leave1"; try dsimp only) | fail "no step")))
  refine wpAny_For ?_
  w_strict (
   repeat' (first | (fail_if_success (with_reducible show wpAny _ _ (pyIter _) _ _ _)
                     fail_if_success (with_reducible show wpAny _ _ (exec (Stmt.For _ _ _ _ _) _) _ _ _)
                     fail_if_success (with_reducible show wpAny _ _ (eval (Expr.ListComp _ _ _ _) _) _ _ _)
                     first | (k_unfold; (try dsimp only)) | (k_end; wrow_close) | walk1 | (dsimp only; walk1) | (leave1; walk_say "STEP leave1"; try dsimp only) | fail "no step")))
  rename_i h9 tk9 ta tb tc hR1 F3 N3 hk3
  refine for_range (n := 4) (fun i m' n' => n' = n ∧ (∀ z, z ≠ Str.ofString "told" → z ≠ Str.ofString "power" → m' z = m z) ∧ ∃ t, m' (Str.ofString "told") = some (.str (ltr (tw nx pc k i)) t)) rfl rfl rfl hR1 (by decide +kernel) (by decide +kernel) F3 N3 ⟨rfl, fun _ _ _ => rfl, t3, h3⟩ ?_ ?_
  · rintro I hI i m₁ nws h tk t' ri E' hi ⟨rfl, j2, t4, j3⟩ hneI F2 N2
    have hkk : ((4 : Int) + (i : Int) * -1) = ((4 - i : Nat) : Int) := by omega
    rw [hkk] at F2
    obtain ⟨kt, vt, nd, hm⟩ := hD
    refine told_turn (nx := nx) (pc := pc) (y := tw nx pc k i) (p := 4 - i) (t2 := t2) (t3 := t4) ⟨kt, vt, nd, .tail _ hm⟩ (tw_in hnx hk i) hpc (by omega) B T codeHd F2 N2 ?_ ?_ ?_ (by walk_at "my.look") ?_ X
    · exact (if_neg (by decide)).trans ((j2 _ (by decide) (by decide)).trans h1)
    · exact (if_neg (by decide)).trans ((j2 _ (by decide) (by decide)).trans h2)
    · exact (if_neg (by decide)).trans j3
    · intro h' tk' t5 F5 N5
      refine REnd.of F5 N5 hneI ⟨rfl, fun z z1 z2 => ?_, t5, ?_⟩
      · exact (if_neg z1).trans ((if_neg z2).trans (j2 z z1 z2))
      · exact if_pos rfl
  · rintro m₁ nws h tk ⟨rfl, j2, t4, j3⟩ F4 N4
    rw [tw4] at j3
    exact hQ _ _ _ _ F4 j2 j3 N4
theorem offLBD : True := by
  w_top off
  exact True.intro
set_option maxRecDepth 100000 in
set_option maxHeartbeats 8000000 in
theorem law_t2 {w : World} {mean : ExcName → Option Value} {mg mb : Str → Option Value} {L fa pl : Addr} {cd0 : Value} {s : Shared} {nx : Int → Int → Int} {pc : Int} {k : Int} {t1 t2 : Tok} {v0 : Option Value}
    {g : Heap} {m : Str → Option Value} {n : List (Addr × Obj)} {Q : Flow → Shared → Prop} {E : Value → Shared → Prop}
    (hnx : ∀ b y, 0 ≤ y → y < 4 → 0 ≤ nx b y ∧ nx b y < 4) (hP : PairsIn nx pl n) (hc3 : CelIn L 3 (some (.ref pl)) n) (hc7 : CelIn L 7 v0 n) (hk : 0 ≤ k ∧ k < 4) (hpc : 0 ≤ pc ∧ pc < 32768)
    (B : Below callerA g [] g) (T : Top topProg looseL mean mg mb g) (codeHd : CodeHd g 168 164) (F : Fr g L s.heap m) (N : News g L s.heap n) (h1 : m (Str.ofString "k") = some (.int k t1)) (h2 : m (Str.ofString "place") = some (.int pc t2))
    (hQ : ∀ h' tk' n' t, Fr g L h' m → News g L h' n' → CelIn L 7 (some (.int (wend nx k (bitsOf (pc / 8) 12)) t)) n' → (∀ q ∈ n, q.1 ≠ L + 7 → q ∈ n') → Q .next { s with heap := h', toks := tk' }) :
    (frag.heap_1 w.params).In g → wpAny (model Challenge.rw_ty0016_01.row.prog w) (lawA L fa cd0) (exec (lwS 2) (lawEnv L fa cd0)) Q E s := by
  have e1 : lwS 2 = Stmt.Assign _ _ _ := rfl
  have e3 : scopeOf (topN 17) = Scope.mk _ _ _ _ _ := rfl
  unfold lawA lawEnv
  rw [e1, e3]
  clear e1 e3
  obtain ⟨o3, hc31, hc32⟩ := hc3
  obtain ⟨o7, hc71, hc72⟩ := hc7
  have ef : pc.fdiv 8 = pc / 8 := Int.fdiv_eq_ediv_of_nonneg _ (by decide)
  have hpf : 0 ≤ pc.fdiv 8 ∧ pc.fdiv 8 < 32768 := by rw [ef]; omega
  obtain ⟨hp0, hp9⟩ := hpc
  k_fill
  intro X
  w_strict (
   repeat' (first | (fail_if_success (with_reducible show wpAny _ _ (pyIter _) _ _ _)
                     fail_if_success (with_reducible show wpAny _ _ (exec (Stmt.For _ _ _ _ _) _) _ _ _)
                     fail_if_success (with_reducible show wpAny _ _ (eval (Expr.ListComp _ _ _ _) _) _ _ _)
                     first | ((with_reducible show wpAny _ _ (call (Value.ref _) _ _) _ _ _); refine' Does.use (law_walk (st := 12) hP hnx hk (by decide) hpf) ?uA ?uD ?uU ?uF ?uK ?uB ?uR ?uX ?uN ?uT ?uC ?_; (case uA => exact rfl); (case uD => exact Nat.le_of_ble_eq_true rfl); (case uU => exact Nat.le_of_ble_eq_true rfl); (case uF => exact rfl); (case uK => exact rfl); (case uB => k_asm); (case uR => k_asm); (case uX => k_in); (case uN => k_asm); (case uT => k_asm); (case uC => k_asm); k_whole; intro r' n' h' tk' F' N' P'; (obtain ⟨hD, hK1⟩ := P'; obtain ⟨a9, k9, t9, lb9, vs9, j9, e9, hm9, hl9, hd9⟩ := walk_open hD; subst e9; rw [ef] at hm9)) | (k_unfold; (try dsimp only)) | (k_end; wrow_close) | walk1 | (dsimp only; walk1) | (leave1; walk_say "STEP leave1"; try dsimp only) | fail "no step")))
  have h7 := hK1 _ hc71
  rename Fr _ _ _ _ => F1
  rename News _ _ _ _ => N1
  refine store_cell F1 N1 h7 hc72 rfl ?_
  intro h2 o2 F2 N2 hd2
  exact hQ _ _ _ _ F2 N2 ⟨o2, .head _, hd2⟩ fun q hq h2 => .tail _ (mem_cut (hK1 q hq) (by simpa using h2))
theorem offLBF : True := by
  w_top off
  exact True.intro
theorem eight_take (nx : Int → Int → Int) (y : Int) {i : Nat} (hi : i < 8) : (eightL nx y).take (i + 1) = (eightL nx y).take i ++ [wend nx y (bitsOf i 3)] := by
  have : i = 0 ∨ i = 1 ∨ i = 2 ∨ i = 3 ∨ i = 4 ∨ i = 5 ∨ i = 6 ∨ i = 7 := by first | exact cs8_n (by first | assumption | omega) | exact cs8_z (by first | assumption | omega) (by first | assumption | omega)
  rcases this with rfl | rfl | rfl | rfl | rfl | rfl | rfl | rfl <;> rfl
set_option maxRecDepth 100000 in
set_option maxHeartbeats 8000000 in
theorem law_t3 {w : World} {mean : ExcName → Option Value} {mg mb : Str → Option Value} {L fa pl : Addr} {cd0 : Value} {s : Shared} {nx : Int → Int → Int} {y : Int} {ty : Tok}
    {g : Heap} {m : Str → Option Value} {n : List (Addr × Obj)} {Q : Flow → Shared → Prop} {E : Value → Shared → Prop}
    (hnx : ∀ b y, 0 ≤ y → y < 4 → 0 ≤ nx b y ∧ nx b y < 4) (hP : PairsIn nx pl n) (hc3 : CelIn L 3 (some (.ref pl)) n) (hc7 : CelIn L 7 (some (.int y ty)) n) (hy : 0 ≤ y ∧ y < 4)
    (B : Below callerA g [] g) (T : Top topProg looseL mean mg mb g) (codeHd : CodeHd g 168 164) (F : Fr g L s.heap m) (N : News g L s.heap n)
    (hQ : ∀ h' tk' n' gl vs k, Fr g L h' (fun z => if z = Str.ofString "eight" then some (.ref gl) else m z) → News g L h' n' → (gl, listOf vs.toArray k) ∈ n' → IntsAre vs (eightL nx y) → (∀ q ∈ n, q.1 < gl) → (∀ q ∈ n, q ∈ n') → Q .next { s with heap := h', toks := tk' }) :
    (frag.heap_1 w.params).In g → wpAny (model Challenge.rw_ty0016_01.row.prog w) (lawA L fa cd0) (exec (lwS 3) (lawEnv L fa cd0)) Q E s := by
  have e1 : lwS 3 = Stmt.Assign _ _ _ := rfl
  have e3 : scopeOf (topN 17) = Scope.mk _ _ _ _ _ := rfl
  unfold lawA lawEnv
  rw [e1, e3]
  clear e1 e3
  obtain ⟨o3, hc31, hc32⟩ := hc3
  obtain ⟨o7, hc71, hc72⟩ := hc7
  k_fill
  intro X
  refine exec_assign_comp (cl := [(Str.ofString "pairs", L + 3), (Str.ofString "far", L + 7)]) rfl rfl rfl (by decide) ?_
  w_strict (
   repeat' (first | (fail_if_success (with_reducible show wpAny _ _ (pyIter _) _ _ _)
                     fail_if_success (with_reducible show wpAny _ _ (exec (Stmt.For _ _ _ _ _) _) _ _ _)
                     fail_if_success (with_reducible show wpAny _ _ (eval (Expr.ListComp _ _ _ _) _) _ _ _)
                     first | (k_unfold; (try dsimp only)) | (k_end; wrow_close) | walk1 | (dsimp only; walk1) | (leave1; walk_say "STEP leave1"; try dsimp only) | fail "no step")))
  rename_i h9 tk9 t7 t8 t9 hR1 F3 N3 hk3
  refine comp_range (n := 8) (J := fun i vals nws => IntsAre vals ((eightL nx y).take i) ∧ ∀ q ∈ n, q ∈ nws) rfl (by decide) rfl rfl hR1 (by decide +kernel) (by decide +kernel) (by decide) F3 N3 ⟨.nil, fun q hq => hq⟩ ?_ ?_
  · rintro C5 D5 I5 hI hID hDC i5 vals nws h5 tk5 oC oI mC nn t5 E5 hi5 ⟨j1, j2⟩ F6 N6 hO hne
    have ei : (0 : Int) + (i5 : Int) * 1 = (i5 : Int) := by omega
    rw [ei] at hO
    have hc3' := j2 _ hc31
    have hc7' := j2 _ hc71
    have hP' := hP.mono j2
    have hP3 := hP'.mono (news' := (C5, oC) :: (I5, oI) :: (D5, listOf vals.toArray nn) :: nws) (fun q hq => .tail _ (.tail _ (.tail _ hq)))
    clear F3 N3
    w_strict (
     repeat' (first | (fail_if_success (with_reducible show wpAny _ _ (pyIter _) _ _ _)
                       fail_if_success (with_reducible show CEnd _ _ _ _ _ _ _ _ _ _ _ _ _ _)
                       fail_if_success (with_reducible show DEnd _ _ _ _ _ _ _ _ _ _ _ _ _ _ _ _ _)
                       fail_if_success (with_reducible show wpAny _ _ (eval (Expr.DictComp _ _ _ _ _) _) _ _ _)
                       fail_if_success (with_reducible show wpAny _ _ (exec (Stmt.For _ _ _ _ _) _) _ _ _)
                       fail_if_success (with_reducible show wpAny _ _ (eval (Expr.ListComp _ _ _ _) _) _ _ _)
                       first | ((with_reducible show wpAny _ _ (call (Value.ref _) _ _) _ _ _); refine' Does.use (law_walk (st := 3) (pc := (i5 : Int)) hP3 hnx hy (by decide) (by omega)) ?uA ?uD ?uU ?uF ?uK ?uB ?uR ?uX ?uN ?uT ?uC ?_; (case uA => exact rfl); (case uD => exact Nat.le_of_ble_eq_true rfl); (case uU => exact Nat.le_of_ble_eq_true rfl); (case uF => exact rfl); (case uK => exact rfl); (case uB => k_asm); (case uR => k_asm); (case uX => k_in); (case uN => k_asm); (case uT => k_asm); (case uC => k_asm); k_whole; intro r' n' h' tk' F' N' P'; (obtain ⟨hD, hK1⟩ := P'; obtain ⟨a9, k9, t9, lb9, vs9, j9, e9, hm9, hl9, hd9⟩ := walk_open hD; subst e9)) | (k_unfold; (try dsimp only)) | (k_end; wrow_close) | walk1 | (dsimp only; walk1) | (leave1; walk_say "STEP leave1"; try dsimp only) | fail "no step")))
    refine ⟨_, _, cut [C5, I5, D5] n', oC, _, rfl, F', ?_, hO, ?_, fun _ h => (nomatch h), ?_, ?_⟩
    · exact List.forall_mem_cons.mpr ⟨N' _ (hK1 _ (.head _)), List.forall_mem_cons.mpr ⟨N' _ (hK1 _ (.tail _ (.head _))), List.forall_mem_cons.mpr ⟨N' _ (hK1 _ (.tail _ (.tail _ (.head _)))), fun p hp => N' p (cut_sub p hp)⟩⟩⟩
    · exact fun p hp => ⟨cut_ne (.head _) p hp, cut_ne (.tail _ (.head _)) p hp, cut_ne (.tail _ (.tail _ (.head _))) p hp⟩
    · rw [eight_take nx y hi5]
      exact j1.append (.cons _ _ .nil)
    · intro p hp
      have hp' := j2 p hp
      refine mem_cut (hK1 p (.tail _ (.tail _ (.tail _ hp')))) fun e => ?_
      simp only [List.mem_cons, List.not_mem_nil, or_false] at e
      have hh := hne p hp'
      rcases e with e | e | e
      · exact hh.1 e
      · exact hh.2.1 e
      · exact hh.2.2 e
  · rintro C5 D5 hD hDC vals nws h5 tk5 oC mC nn ⟨j1, j2⟩ hl5 F6 N6 hO hne
    refine compPost_some (env := lawEnv L fa cd0) F6 N6 hO hDC (fun p hp => (hne p hp).1) rfl rfl fun h3 tk3 F7 N7 => ?_
    exact hQ _ _ _ D5 vals nn F7 N7 (.head _) j1 hD fun q hq => .tail _ (j2 q hq)
theorem offLBG : True := by
  w_top off
  exact True.intro
theorem ones_take (l : List Int) {i : Nat} {x : Int} (h : l[i]? = some x) : (l.map ltr).take (i + 1) = (l.map ltr).take i ++ [ltr x] := by
  rw [List.take_add_one]
  simp [h]
theorem ints_get' : ∀ {vs : List Value} {ns : List Int}, IntsAre vs ns → ∀ {i : Nat} {v : Value}, vs[i]? = some v → ∃ n t, v = .int n t ∧ ns[i]? = some n
  | _, _, .nil, _, _, h => by simp at h
  | _, _, .cons n t h, 0, v, e => by simp at e; exact ⟨n, t, e.symm, rfl⟩
  | _, _, .cons n t h, i + 1, v, e => by simpa using ints_get' h (i := i) (v := v) (by simpa using e)
theorem eight_in {nx : Int → Int → Int} (hnx : ∀ b y, 0 ≤ y → y < 4 → 0 ≤ nx b y ∧ nx b y < 4) {y : Int} (hy : 0 ≤ y ∧ y < 4) : ∀ z ∈ eightL nx y, 0 ≤ z ∧ z < 4 := by
  intro z hz
  simp only [List.mem_cons, List.not_mem_nil, or_false] at hz
  rcases hz with rfl | rfl | rfl | rfl | rfl | rfl | rfl | rfl <;> exact wend_in hnx _ _ hy
theorem strOk_e8 (nx : Int → Int → Int) (y : Int) : PyData.strOk (e8 nx y) = true := by
  refine strOk_txt fun c hc => ?_
  obtain ⟨z, _, rfl⟩ := List.mem_map.mp hc
  exact Nat.lt_trans (cd_lt _) (by decide)
set_option maxRecDepth 100000 in
set_option maxHeartbeats 8000000 in
theorem law_t4 {w : World} {mean : ExcName → Option Value} {mg mb : Str → Option Value} {L fa ed gl : Addr} {cd0 : Value} {s : Shared} {nx : Int → Int → Int} {y : Int} {t3 tl : Tok} {vs : List Value} {k : Nat}
    {g : Heap} {m : Str → Option Value} {n : List (Addr × Obj)} {Q : Flow → Shared → Prop} {E : Value → Shared → Prop}
    (hnx : ∀ b y, 0 ≤ y → y < 4 → 0 ≤ nx b y ∧ nx b y < 4) (hD : DictIn w.params (e8 nx) ed n) (hc2 : CelIn L 2 (some (.str lettersS tl)) n) (hy : 0 ≤ y ∧ y < 4) (hg : (gl, listOf vs.toArray k) ∈ n) (hI : IntsAre vs (eightL nx y))
    (B : Below callerA g [] g) (T : Top topProg looseL mean mg mb g) (codeHd : CodeHd g 168 164) (F : Fr g L s.heap m) (N : News g L s.heap n) (h1 : m (Str.ofString "eights") = some (.ref ed)) (h2 : m (Str.ofString "told") = some (.str (ltr y) t3)) (h3 : m (Str.ofString "eight") = some (.ref gl))
    (hQ : ∀ h' tk' n', Fr g L h' m → News g L h' n' → (∀ q ∈ n, q ∈ n') → Q .next { s with heap := h', toks := tk' }) :
    (frag.heap_1 w.params).In g → wpAny (model Challenge.rw_ty0016_01.row.prog w) (lawA L fa cd0) (exec (lwS 4) (lawEnv L fa cd0)) Q E s := by
  have e1 : lwS 4 = Stmt.If _ _ _ _ := rfl
  have e3 : scopeOf (topN 17) = Scope.mk _ _ _ _ _ := rfl
  unfold lawA lawEnv
  rw [e1, e3]
  clear e1 e3
  obtain ⟨o2, hc21, hc22⟩ := hc2
  obtain ⟨kt, vt, nd, hm⟩ := hD
  have hf := let_find (P := w.params) (f := e8 nx) (kt := kt) (vt := vt) hy.1 hy.2
  have hkl := let_keys w.params (e8 nx) kt vt
  have hvl : vs.length = 8 := hI.length
  k_fill
  intro X
  w_strict (
   repeat' (first | (fail_if_success (with_reducible show wpAny _ _ (pyIter _) _ _ _)
                     fail_if_success (with_reducible show wpAny _ _ (exec (Stmt.For _ _ _ _ _) _) _ _ _)
                     fail_if_success (with_reducible show wpAny _ _ (eval (Expr.ListComp _ _ _ _) _) _ _ _)
                     first | (k_unfold; (try dsimp only)) | (k_end; wrow_close) | walk1 | (dsimp only; walk1) | (leave1; walk_say "STEP leave1"; try dsimp only) | fail "no step")))
  refine eval_listcomp (cl := [(Str.ofString "letters", L + 2)]) rfl rfl (by decide) ?_
  w_strict (
   repeat' (first | (fail_if_success (with_reducible show wpAny _ _ (pyIter _) _ _ _)
                     fail_if_success (with_reducible show wpAny _ _ (exec (Stmt.For _ _ _ _ _) _) _ _ _)
                     fail_if_success (with_reducible show wpAny _ _ (eval (Expr.ListComp _ _ _ _) _) _ _ _)
                     first | (k_unfold; (try dsimp only)) | (k_end; wrow_close) | walk1 | (dsimp only; walk1) | (leave1; walk_say "STEP leave1"; try dsimp only) | fail "no step")))
  refine comp_list (its := vs) (nl := k) (J := fun i vals nws => StrsAre vals (((eightL nx y).map ltr).take i) ∧ ∀ q ∈ n, q ∈ nws) rfl (by decide) rfl rfl hg (by omega) F N ⟨.nil, fun _ h => h⟩ ?_ ?_
  · rintro C5 D5 I5 hI5 hID hDC i5 vals nws h5 tk5 oC oI mC nn v E5 hi5 hv5 ⟨j1, j2⟩ F6 N6 hO hne hm5
    obtain ⟨z, tz, rfl, ez⟩ := ints_get' hI hv5
    obtain ⟨z0, z4⟩ := eight_in hnx hy z (List.mem_of_getElem? ez)
    have l0 := letters_at z0 z4
    have z9 : z < 1000000 := by omega
    have hcc := j2 _ hc21
    clear F N
    w_strict (
     repeat' (first | (fail_if_success (with_reducible show wpAny _ _ (pyIter _) _ _ _)
                       fail_if_success (with_reducible show CEnd _ _ _ _ _ _ _ _ _ _ _ _ _ _)
                       fail_if_success (with_reducible show DEnd _ _ _ _ _ _ _ _ _ _ _ _ _ _ _ _ _)
                       fail_if_success (with_reducible show wpAny _ _ (eval (Expr.DictComp _ _ _ _ _) _) _ _ _)
                       fail_if_success (with_reducible show wpAny _ _ (exec (Stmt.For _ _ _ _ _) _) _ _ _)
                       fail_if_success (with_reducible show wpAny _ _ (eval (Expr.ListComp _ _ _ _) _) _ _ _)
                       first | ((((with_reducible show wpAny _ _ (subscriptTail _ _ (Value.str _ _) (Value.int _ _)) _ _ _); refine' item_S ?a ?b ?c ?_ ?h; (case a => omega); (case b => omega); (case c => first | with_reducible assumption | exact rfl); (case h => with_unfolding_all rfl); k_whole))) | (k_unfold; (try dsimp only)) | (k_end; wrow_close) | walk1 | (dsimp only; walk1) | (leave1; walk_say "STEP leave1"; try dsimp only) | fail "no step")))
    refine ⟨_, _, nws, oC, _, rfl, F6, N6, hO, hne, fun p hp => by simp at hp; subst hp; exact hm5, ?_, j2⟩
    rw [ones_take _ ez]
    exact strs_append j1 (.cons _ _ .nil)
  · rintro C5 D5 hD5 hDC vals nws h5 tk5 oC mC nn ⟨j1, j2⟩ hl5 F6 N6 hO hne
    refine compPost_none F6 N6 hO hDC (fun p hp => (hne p hp).1) fun h3 F7 N7 => ?_
    dsimp only
    rw [List.take_of_length_le (by rw [hvl]; exact Nat.le_refl _)] at j1
    have hjw : (((eightL nx y).map ltr).map (·.length)).sum + ((eightL nx y).map ltr).length ≤ 1048576 := Nat.le_of_ble_eq_true rfl
    have hje : Txt.join (Str.ofString "") ((eightL nx y).map ltr) = e8 nx y := by rw [join_ltr, ← qs7]; rfl
    clear F N F6 N6
    w_strict (
     repeat' (first | (fail_if_success (with_reducible show wpAny _ _ (pyIter _) _ _ _)
                       fail_if_success (with_reducible show wpAny _ _ (exec (Stmt.For _ _ _ _ _) _) _ _ _)
                       fail_if_success (with_reducible show wpAny _ _ (eval (Expr.ListComp _ _ _ _) _) _ _ _)
                       first | (refine' join_listW (News.isList N7 (.head _)) ?uS ?uL ?uW ?_; (case uS => exact j1); (case uL => decide); (case uW => exact hjw); intro t' k'; rw [hje]) | (k_unfold; (try dsimp only)) | (k_end; wrow_close) | walk1 | (dsimp only; walk1) | (leave1; walk_say "STEP leave1"; try dsimp only) | fail "no step")))
    all_goals first | exact hQ _ _ _ (by assumption) (by assumption) (fun q hq => .tail _ (j2 q hq)) | (exfalso; rename_i ha; exact absurd ha (by simp))
theorem offLBH : True := by
  w_top off
  exact True.intro
set_option maxRecDepth 100000 in
set_option maxHeartbeats 8000000 in
theorem law_t5 {w : World} {mean : ExcName → Option Value} {mg mb : Str → Option Value} {L fa gl el : Addr} {cd0 : Value} {s : Shared} {nx : Int → Int → Int} {y pc : Int} {t2 : Tok} {vs es : List Value} {k ke : Nat}
    {g : Heap} {m : Str → Option Value} {n : List (Addr × Obj)} {Q : Flow → Shared → Prop} {E : Value → Shared → Prop}
    (hg : (gl, listOf vs.toArray k) ∈ n) (hI : IntsAre vs (eightL nx y)) (hpc : 0 ≤ pc ∧ pc < 32768) (he : (el, listOf es.toArray ke) ∈ n) (hel : es.length ≤ 10) (hge : gl ≠ el)
    (B : Below callerA g [] g) (T : Top topProg looseL mean mg mb g) (codeHd : CodeHd g 168 164) (F : Fr g L s.heap m) (N : News g L s.heap n) (h1 : m (Str.ofString "ends") = some (.ref el)) (h2 : m (Str.ofString "eight") = some (.ref gl)) (h3 : m (Str.ofString "place") = some (.int pc t2))
    (hQ : ∀ h' tk' ke' (t : Tok), Fr g L h' m → News g L h' ((el, listOf (es ++ [.int (wend nx y (bitsOf (pc % 8) 3)) t] : List Value).toArray ke') :: cut [el] n) → Q .next { s with heap := h', toks := tk' }) :
    (frag.heap_1 w.params).In g → wpAny (model Challenge.rw_ty0016_01.row.prog w) (lawA L fa cd0) (exec (lwS 5) (lawEnv L fa cd0)) Q E s := by
  have e1 : lwS 5 = Stmt.Expr _ _ := rfl
  have e3 : scopeOf (topN 17) = Scope.mk _ _ _ _ _ := rfl
  unfold lawA lawEnv
  rw [e1, e3]
  clear e1 e3
  have ezm : pc.fmod 8 = pc % 8 := Int.fmod_eq_emod_of_nonneg _ (by decide)
  have hzm : 0 ≤ pc.fmod 8 ∧ pc.fmod 8 < 8 := by rw [ezm]; omega
  have hc := eight_at nx y hzm.1 hzm.2
  obtain ⟨v9, hv9, tv, e9⟩ : ∃ v, vs[(pc.fmod 8).toNat]? = some v ∧ ∃ t, v = .int (wend nx y (bitsOf (pc.fmod 8) 3)) t := by
    have hlt : (pc.fmod 8).toNat < vs.length := by rw [hI.length]; show _ < 8; omega
    refine ⟨vs[(pc.fmod 8).toNat], List.getElem?_eq_getElem hlt, ?_⟩
    obtain ⟨z, t, e, ez⟩ := ints_get' hI (List.getElem?_eq_getElem hlt)
    rw [hc] at ez
    cases ez
    exact ⟨t, e⟩
  subst e9
  obtain ⟨hp0, hp9⟩ := hpc
  obtain ⟨hz0, hz8⟩ := hzm
  have hcut : ∀ p ∈ cut [el] n, p.1 ≠ el := cut_ne (.head _)
  have hg' : (gl, listOf vs.toArray k) ∈ cut [el] n := mem_cut hg (by simpa using hge)
  have N2 : News g L s.heap ((el, listOf es.toArray ke) :: cut [el] n) := List.forall_mem_cons.mpr ⟨N _ he, fun p hp => N p (cut_sub p hp)⟩
  have hU : Upd el (listOf es.toArray ke) (listOf (es.toArray.push (.int (wend nx y (bitsOf (pc.fmod 8) 3)) tv)) (ke + 1)) ((el, listOf es.toArray ke) :: cut [el] n) ((el, listOf (es.toArray.push (.int (wend nx y (bitsOf (pc.fmod 8) 3)) tv)) (ke + 1)) :: cut [el] n) := .head hcut
  clear N
  k_fill
  intro X
  w_strict (
   repeat' (first | (fail_if_success (with_reducible show wpAny _ _ (pyIter _) _ _ _)
                     fail_if_success (with_reducible show wpAny _ _ (exec (Stmt.For _ _ _ _ _) _) _ _ _)
                     fail_if_success (with_reducible show wpAny _ _ (eval (Expr.ListComp _ _ _ _) _) _ _ _)
                     first | (k_unfold; (try dsimp only)) | (k_end; wrow_close) | walk1 | (dsimp only; walk1) | (leave1; walk_say "STEP leave1"; try dsimp only) | fail "no step")))
  rename News _ _ _ _ => N9
  rw [List.push_toArray, ezm] at N9
  exact hQ _ _ _ tv (by assumption) N9
theorem offLBI : True := by
  w_top off
  exact True.intro
theorem PairsIn.nc {nx : Int → Int → Int} {pl : Addr} {n n' : List (Addr × Obj)} (h : PairsIn nx pl n) (hs : ∀ q ∈ n, NoCell q.2 → q ∈ n') : PairsIn nx pl n' := by
  obtain ⟨pa, ta, tb, k, h1, h2⟩ := h
  exact ⟨pa, ta, tb, k, hs _ h1 cl_seq, fun x h0 h4 => hs _ (h2 x h0 h4) cl_seq⟩
theorem cl_dict {es : List DictEntry} {n : Nat} : NoCell (dictOf es n) := fun v e => nomatch e
theorem DictIn.nc {P : Params} {f : Int → Str} {d : Addr} {n n' : List (Addr × Obj)} (h : DictIn P f d n) (hs : ∀ q ∈ n, NoCell q.2 → q ∈ n') : DictIn P f d n' := by
  obtain ⟨kt, vt, k, hm⟩ := h
  exact ⟨kt, vt, k, hs _ hm cl_dict⟩
theorem CelIn.to7 {L : Addr} {i : Nat} {v : Option Value} {n n' : List (Addr × Obj)} (h : CelIn L i v n) (hi : i ≠ 7) (hs : ∀ q ∈ n, q.1 ≠ L + 7 → q ∈ n') : CelIn L i v n' := h.to hi hs
noncomputable abbrev fEnd (nx : Int → Int → Int) (pc x : Int) : Int := wend nx x (bitsOf pc 15)
noncomputable abbrev fList (nx : Int → Int → Int) (pc : Int) : List Int := [fEnd nx pc 0, fEnd nx pc 1, fEnd nx pc 2, fEnd nx pc 3]
theorem fList_take (nx : Int → Int → Int) (pc : Int) {i : Nat} (hi : i < 4) : (fList nx pc).take (i + 1) = (fList nx pc).take i ++ [fEnd nx pc i] := by
  have : i = 0 ∨ i = 1 ∨ i = 2 ∨ i = 3 := by first | exact cs4_n (by first | assumption | omega) | exact cs4_z (by first | assumption | omega) (by first | assumption | omega)
  rcases this with rfl | rfl | rfl | rfl <;> rfl
theorem fEnd_eq (nx : Int → Int → Int) (pc x : Int) : wend nx (wend nx x (bitsOf (pc / 8) 12)) (bitsOf (pc % 8) 3) = fEnd nx pc x := by
  rw [fEnd, bits15, wend_app]
set_option maxRecDepth 100000 in
set_option maxHeartbeats 8000000 in
theorem law_body {w : World} {mean : ExcName → Option Value} {mg mb : Str → Option Value} {L fa pl ed el : Addr} {cd0 : Value} {s : Shared} {nx : Int → Int → Int} {pc : Int} {i : Nat} {t1 t2 tl : Tok} {es : List Value} {ke : Nat} {v7 : Option Value}
    {g : Heap} {m : Str → Option Value} {n : List (Addr × Obj)} {Q : Flow → Shared → Prop} {E : Value → Shared → Prop}
    (hnx : ∀ b y, 0 ≤ y → y < 4 → 0 ≤ nx b y ∧ nx b y < 4) (hD : DictIn w.params (e8 nx) ed n) (hP : PairsIn nx pl n) (hc2 : CelIn L 2 (some (.str lettersS tl)) n) (hc3 : CelIn L 3 (some (.ref pl)) n) (hc7 : CelIn L 7 v7 n)
    (hi : i < 4) (hpc : 0 ≤ pc ∧ pc < 32768) (he : (el, listOf es.toArray ke) ∈ n) (hel : es.length ≤ 10)
    (B : Below callerA g [] g) (T : Top topProg looseL mean mg mb g) (codeHd : CodeHd g 168 164) (F : Fr g L s.heap m) (N : News g L s.heap n)
    (h1 : m (Str.ofString "eights") = some (.ref ed)) (h2 : m (Str.ofString "place") = some (.int pc t2)) (h3 : m (Str.ofString "ends") = some (.ref el)) (h4 : m (Str.ofString "k") = some (.int (i : Int) t1))
    (hQ : ∀ h' tk' m' n' ke' t o7, Fr g L h' m' → (∀ z, z ≠ Str.ofString "told" → z ≠ Str.ofString "power" → z ≠ Str.ofString "eight" → m' z = m z) → News g L h' ((el, listOf (es ++ [.int (fEnd nx pc i) t] : List Value).toArray ke') :: cut [el] n') → CelIn L 7 o7 n' → (∀ q ∈ n, q.1 ≠ L + 7 → q ∈ n') → Q .next { s with heap := h', toks := tk' })
    (X : (frag.heap_1 w.params).In g) : wpAny (model Challenge.rw_ty0016_01.row.prog w) (lawA L fa cd0) (execs (bodyOf (lawS 13)) (lawEnv L fa cd0)) Q E s := by
  have e1 : bodyOf (lawS 13) = [lwS 0, lwS 1, lwS 2, lwS 3, lwS 4, lwS 5] := rfl
  rw [e1]
  clear e1
  have hfar := wend_in hnx (i : Int) (bitsOf (pc / 8) 12) ⟨by omega, by omega⟩
  refine wpAny_execs_cons (law_t0 hi hc2 B T codeHd F N h4 (fun h₁ tk₁ ta F₁ N₁ => ?_) X)
  refine wpAny_execs_cons (law_t1 (k := (i : Int)) (t2 := t2) (t3 := ta) hnx hD ⟨by omega, by omega⟩ hpc B T codeHd F₁ N₁ ((if_neg (by decide)).trans h1) ((if_neg (by decide)).trans h2) (if_pos rfl) (fun h₂ tk₂ m₂ tb F₂ e₂ j₂ N₂ => ?_) X)
  have q1 : m₂ (Str.ofString "eights") = some (.ref ed) := (e₂ _ (by decide) (by decide)).trans ((if_neg (by decide)).trans h1)
  have q2 : m₂ (Str.ofString "place") = some (.int pc t2) := (e₂ _ (by decide) (by decide)).trans ((if_neg (by decide)).trans h2)
  have q3 : m₂ (Str.ofString "ends") = some (.ref el) := (e₂ _ (by decide) (by decide)).trans ((if_neg (by decide)).trans h3)
  have q4 : m₂ (Str.ofString "k") = some (.int (i : Int) t1) := (e₂ _ (by decide) (by decide)).trans ((if_neg (by decide)).trans h4)
  refine wpAny_execs_cons (law_t2 (k := (i : Int)) (t1 := t1) (t2 := t2) hnx hP hc3 hc7 ⟨by omega, by omega⟩ hpc B T codeHd F₂ N₂ q4 q2 (fun h₃ tk₃ n₃ tc F₃ N₃ c₃ k₃ => ?_) X)
  have nc₃ := CelIn.keep N₂ hc7 k₃
  have hP₃ := hP.nc nc₃
  have hc3₃ := hc3.to7 (by decide) k₃
  have hc2₃ := hc2.to7 (by decide) k₃
  have hD₃ := hD.nc nc₃
  have he₃ := nc₃ _ he cl_seq
  refine wpAny_execs_cons (law_t3 hnx hP₃ hc3₃ c₃ hfar B T codeHd F₃ N₃ (fun h₄ tk₄ n₄ gl vs kg F₄ N₄ hg₄ hI₄ hlt₄ k₄ => ?_) X)
  have hD₄ : DictIn w.params (e8 nx) ed n₄ := hD₃.nc fun q hq _ => k₄ q hq
  refine wpAny_execs_cons (law_t4 (t3 := tb) hnx hD₄ (hc2₃.mono k₄) hfar hg₄ hI₄ B T codeHd F₄ N₄ ((if_neg (by decide)).trans q1) ((if_neg (by decide)).trans j₂) (if_pos rfl) (fun h₅ tk₅ n₅ F₅ N₅ k₅ => ?_) X)
  have hge : gl ≠ el := Nat.ne_of_gt (hlt₄ _ he₃)
  refine wpAny_execs_cons (law_t5 (t2 := t2) (k₅ _ hg₄) hI₄ hpc (k₅ _ (k₄ _ he₃)) hel hge B T codeHd F₅ N₅ ((if_neg (by decide)).trans q3) (if_pos rfl) ((if_neg (by decide)).trans q2) (fun h₆ tk₆ ke₆ te F₆ N₆ => ?_) X)
  refine wpAny_execs_nil ?_
  rw [fEnd_eq] at N₆
  refine hQ h₆ tk₆ _ n₅ ke₆ te _ F₆ (fun z z1 z2 z3 => ?_) N₆ ((c₃.mono k₄).mono k₅) fun q hq hn => k₅ q (k₄ q (k₃ q hq hn))
  exact (if_neg z3).trans ((e₂ z z1 z2).trans (if_neg z1))
theorem offLBJ : True := by
  w_top off
  exact True.intro
theorem neverIn {g h : Heap} {L a : Addr} {o : Obj} {n : List (Addr × Obj)} (N : News g L h n) (hm : (a, o) ∈ n) : a ≠ L := (N _ hm).2.1
set_option maxRecDepth 100000 in
set_option maxHeartbeats 8000000 in
theorem law_s13 {w : World} {mean : ExcName → Option Value} {mg mb : Str → Option Value} {L fa pl ed el : Addr} {cd0 : Value} {s : Shared} {nx : Int → Int → Int} {pc : Int} {t2 tl : Tok} {ke : Nat} {v7 : Option Value}
    {g : Heap} {m : Str → Option Value} {n : List (Addr × Obj)} {Q : Flow → Shared → Prop} {E : Value → Shared → Prop}
    (hnx : ∀ b y, 0 ≤ y → y < 4 → 0 ≤ nx b y ∧ nx b y < 4) (hD : DictIn w.params (e8 nx) ed n) (hP : PairsIn nx pl n) (hc2 : CelIn L 2 (some (.str lettersS tl)) n) (hc3 : CelIn L 3 (some (.ref pl)) n) (hc7 : CelIn L 7 v7 n)
    (hpc : 0 ≤ pc ∧ pc < 32768) (hlt : ∀ q ∈ n, q.1 < el)
    (B : Below callerA g [] g) (T : Top topProg looseL mean mg mb g) (codeHd : CodeHd g 168 164) (F : Fr g L s.heap m) (N : News g L s.heap ((el, listOf ([] : List Value).toArray ke) :: n))
    (h1 : m (Str.ofString "eights") = some (.ref ed)) (h2 : m (Str.ofString "place") = some (.int pc t2)) (h3 : m (Str.ofString "ends") = some (.ref el))
    (hQ : ∀ h' tk' m' n', Fr g L h' m' → (∀ z, z ≠ Str.ofString "told" → z ≠ Str.ofString "power" → z ≠ Str.ofString "eight" → z ≠ Str.ofString "k" → m' z = m z) → News g L h' n' → LeadsIn (fun x => wend nx x (bitsOf pc 15)) el n' → (∀ q ∈ n, q.1 ≠ L + 7 → q ∈ n') → Q .next { s with heap := h', toks := tk' }) :
    (frag.heap_1 w.params).In g → wpAny (model Challenge.rw_ty0016_01.row.prog w) (lawA L fa cd0) (exec (lawS 13) (lawEnv L fa cd0)) Q E s := by
  have e1 : lawS 13 = Stmt.For _ _ _ _ _ := rfl
  have e3 : scopeOf (topN 17) = Scope.mk _ _ _ _ _ := rfl
  unfold lawA lawEnv
  rw [e1, e3]
  clear e1 e3
  k_fill
  intro X
  w_strict (
   repeat' (first | (fail_if_success (with_reducible show wpAny _ _ (pyIter _) _ _ _)
                     fail_if_success (with_reducible show wpAny _ _ (exec (Stmt.For _ _ _ _ _) _) _ _ _)
                     fail_if_success (with_reducible show wpAny _ _ (eval (Expr.ListComp _ _ _ _) _) _ _ _)
                     first | (k_unfold; (try dsimp only)) | (k_end; wrow_close) | walk1 | (dsimp only; walk1) | (leave1; walk_say "STEP leave1"; try dsimp only) | fail "no step")))
  refine wpAny_For ?_
  w_strict (
   repeat' (first | (fail_if_success (with_reducible show wpAny _ _ (pyIter _) _ _ _)
                     fail_if_success (with_reducible show wpAny _ _ (exec (Stmt.For _ _ _ _ _) _) _ _ _)
                     fail_if_success (with_reducible show wpAny _ _ (eval (Expr.ListComp _ _ _ _) _) _ _ _)
                     first | (k_unfold; (try dsimp only)) | (k_end; wrow_close) | walk1 | (dsimp only; walk1) | (leave1; walk_say "STEP leave1"; try dsimp only) | fail "no step")))
  rename_i h9 tk9 ta tb tc hR1 F3 N3 hk3
  obtain ⟨o7, hc71, hc72⟩ := id hc7
  have ncN : ∀ n' : List (Addr × Obj), (∀ q ∈ n, q.1 ≠ L + 7 → q ∈ n') → ∀ q ∈ n, NoCell q.2 → q ∈ n' := fun n' hk => CelIn.keep (fun p hp => N3 p (.tail _ hp)) hc7 hk
  refine for_range (n := 4) (fun i m' n' => (∀ z, z ≠ Str.ofString "told" → z ≠ Str.ofString "power" → z ≠ Str.ofString "eight" → z ≠ Str.ofString "k" → m' z = m z) ∧ (∃ es ke, (el, listOf es.toArray ke) ∈ n' ∧ IntsAre es ((fList nx pc).take i)) ∧ (∃ v, CelIn L 7 v n') ∧ ∀ q ∈ n, q.1 ≠ L + 7 → q ∈ n') rfl rfl rfl hR1 (by decide +kernel) (by decide +kernel) F3 N3 ⟨fun _ _ _ _ _ => rfl, ⟨[], ke, .head _, .nil⟩, ⟨v7, o7, .tail _ hc71, hc72⟩, fun q hq _ => .tail _ hq⟩ ?_ ?_
  · rintro I hI i m₁ nws h tk t' ri E' hi ⟨j1, ⟨es, ke1, j2, j3⟩, ⟨v8, j4⟩, j5⟩ hneI F2 N2
    have ei : (0 : Int) + (i : Int) * 1 = (i : Int) := by omega
    rw [ei] at F2
    have hes : es.length ≤ 10 := by
      rw [j3.length, List.length_take]
      have : (fList nx pc).length = 4 := rfl
      omega
    have nc := ncN nws j5
    have hIe : I ≠ el := fun e => hneI _ j2 e.symm
    have hI7 : I ≠ L + 7 := fun e => by
      obtain ⟨o8, h8, _⟩ := j4
      exact hneI _ h8 e.symm
    refine law_body (el := el) (ed := ed) (pl := pl) (tl := tl) (t1 := t') (t2 := t2) (es := es) (ke := ke1) (v7 := v8) hnx (hD.nc fun q hq hn => .tail _ (nc q hq hn)) (hP.nc fun q hq hn => .tail _ (nc q hq hn)) ((hc2.to7 (by decide) j5).mono fun q hq => .tail _ hq) ((hc3.to7 (by decide) j5).mono fun q hq => .tail _ hq) (j4.mono fun q hq => .tail _ hq) hi hpc (.tail _ j2) hes B T codeHd F2 N2 ?_ ?_ ?_ (if_pos rfl) ?_ X
    · exact (if_neg (by decide)).trans ((j1 _ (by decide) (by decide) (by decide) (by decide)).trans h1)
    · exact (if_neg (by decide)).trans ((j1 _ (by decide) (by decide) (by decide) (by decide)).trans h2)
    · exact (if_neg (by decide)).trans ((j1 _ (by decide) (by decide) (by decide) (by decide)).trans h3)
    · intro h' tk' m' n' ke' t9 o9 F5 e5 N5 c5 k5
      have hIn := k5 _ (.head _) hI7
      refine REnd.of F5 (news' := (el, listOf (es ++ [.int (fEnd nx pc i) t9] : List Value).toArray ke') :: cut [I] (cut [el] n')) ?_ ?_ ⟨?_, ⟨_, ke', .head _, ?_⟩, ⟨o9, ?_⟩, ?_⟩
      · exact List.forall_mem_cons.mpr ⟨N5 _ (.tail _ (mem_cut hIn (by simpa using hIe))), List.forall_mem_cons.mpr ⟨N5 _ (.head _), fun p hp => N5 p (.tail _ (cut_sub p hp))⟩⟩
      · exact List.forall_mem_cons.mpr ⟨hIe.symm, cut_ne (.head _)⟩
      · intro z z1 z2 z3 z4
        exact (e5 z z1 z2 z3).trans ((if_neg z4).trans (j1 z z1 z2 z3 z4))
      · rw [fList_take nx pc hi]
        exact j3.append (.cons _ _ .nil)
      · obtain ⟨o8, h8, d8⟩ := c5
        refine ⟨o8, .tail _ (mem_cut (mem_cut h8 ?_) ?_), d8⟩
        · have := hlt _ hc71
          simpa using Nat.ne_of_lt this
        · simpa using hI7.symm
      · intro q hq hn
        refine .tail _ (mem_cut (mem_cut (k5 q (.tail _ (j5 q hq hn)) hn) ?_) ?_)
        · simpa using Nat.ne_of_lt (hlt q hq)
        · simpa using hneI q (j5 q hq hn)
  · rintro m₁ nws h tk ⟨j1, ⟨es, ke1, j2, j3⟩, ⟨v8, j4⟩, j5⟩ F4 N4
    exact hQ _ _ m₁ nws F4 j1 N4 (intsLeads (f := fun x => wend nx x (bitsOf pc 15)) j3 j2) j5
theorem offLBK : True := by
  w_top off
  exact True.intro
noncomputable def SeqO (o : Obj) : Prop := ∃ its k, o.data = .seq its k
theorem SeqO.nc {o : Obj} (h : SeqO o) : NoCell o := by
  obtain ⟨its, k, e⟩ := h
  intro v e'
  rw [e] at e'
  cases e'
theorem so_seq {cls : Value} {its : Array Value} {n : Nat} : SeqO { cls := cls, data := .seq its n } := ⟨its, n, rfl⟩
theorem PairsIn.sq {nx : Int → Int → Int} {pl : Addr} {n n' : List (Addr × Obj)} (h : PairsIn nx pl n) (hs : ∀ q ∈ n, SeqO q.2 → q ∈ n') : PairsIn nx pl n' := by
  obtain ⟨pa, ta, tb, k, h1, h2⟩ := h
  exact ⟨pa, ta, tb, k, hs _ h1 so_seq, fun x h0 h4 => hs _ (h2 x h0 h4) so_seq⟩
theorem WordsIn.sq {nx : Int → Int → Int} {wl : Addr} {n n' : List (Addr × Obj)} (h : WordsIn nx wl n) (hs : ∀ q ∈ n, SeqO q.2 → q ∈ n') : WordsIn nx wl n' := by
  obtain ⟨ts, k, h1⟩ := h
  exact ⟨ts, k, hs _ h1 so_seq⟩
theorem TabIn.nc {n n' : List (Addr × Obj)} (h : TabIn n) (hs : ∀ q ∈ n, NoCell q.2 → q ∈ n') : TabIn n' := by
  obtain ⟨c', oc, vs, t, h1, h2, h3, h4⟩ := h
  refine ⟨c', oc, vs, t, hs _ h1 (fun v e => nomatch e), hs _ h2 (fun v e => ?_), h3, h4⟩
  rw [h3] at e
  cases e
theorem TabOff.tab {C : LexC} {n : List (Addr × Obj)} (h : TabOff C n) : TabIn n := by
  obtain ⟨c', oc, vs, t, h1, h2, h3, h4, _⟩ := h
  exact ⟨c', oc, vs, t, h1, h2, h3, h4⟩
theorem CelIn.via {L : Addr} {i : Nat} {v : Option Value} {n n' : List (Addr × Obj)} (h : CelIn L i v n) (hs : ∀ o, (L + i, o) ∈ n → (L + i, o) ∈ n') : CelIn L i v n' := by
  obtain ⟨o, h1, h2⟩ := h
  exact ⟨o, hs o h1, h2⟩
theorem CelIn.nTab {g h : Heap} {L L' : Addr} {i : Nat} {v : Option Value} {n : List (Addr × Obj)} (N : News g L' h n) (hc : CelIn L i v n) (h164 : (164, tabObj #[]) ∈ n) : @Ne Nat (L + i) 164 := by
  obtain ⟨o, h1, h2⟩ := hc
  exact (neD N (o1 := tabObj #[]) h164 h1 (by rw [h2]; exact fun e => nomatch e)).symm
theorem cel_ne (L : Addr) {i j : Nat} (h : i ≠ j) : @Ne Nat (L + i) (L + j) := by omega
theorem LexIn.lxlf {w : World} {mean : ExcName → Option Value} {mg mb : Str → Option Value} {C : LexC} {nl : Int} {q : List Str} {cs : List Nat} {n : List (Addr × Obj)} (h : LexIn w mean mg mb C nl q cs n) : Value.ref C.lx ≠ Value.ref C.lf := by
  obtain ⟨t, qs, ys, n1, n2, keep, hq, hS, ho, hE, hk, hf, hl⟩ := h
  obtain ⟨a, b, c, d, e⟩ := ho
  intro h
  have : C.lx = C.lf := Value.ref.inj h
  have h' : @Eq Nat C.lx C.lf := this
  omega
set_option maxRecDepth 100000 in
set_option maxHeartbeats 8000000 in
theorem law_all {w : World} {mean : ExcName → Option Value} {mg mb : Str → Option Value} {sl L fa : Addr} {cd0 : Value} {vs : List Value} {ns9 : List Int} {s : Shared}
    {g : Heap} {m : Str → Option Value} {n : List (Addr × Obj)} {Q : Flow → Shared → Prop} {E : Value → Shared → Prop} (hI9 : IntsAre vs ns9) (hlen : vs.length ≤ 63) (hS : g.IsList sl vs.toArray)
    (B : Below callerA g [] g) (T : Top topProg looseL mean mg mb g) (codeHd : CodeHd g 168 164) (F : Fr g L s.heap m) (N : News g L s.heap n) (hsc : m (Str.ofString "script") = some (.ref sl)) (h164 : (164, tabObj #[]) ∈ n)
    (hc1 : CelIn L 1 none n) (hc2 : CelIn L 2 none n) (hc3 : CelIn L 3 none n) (hc4 : CelIn L 4 none n) (hc5 : CelIn L 5 none n) (hc6 : CelIn L 6 none n) (hc7 : CelIn L 7 none n)
    (hQ : ∀ h' tk' m' n', Fr g L h' m' → News g L h' n' → TabIn n' → Q (.ret (.bool true)) { s with heap := h', toks := tk' })
    (X : (frag.heap_1 w.params).In g) : wpAny (model Challenge.rw_ty0016_01.row.prog w) (lawA L fa cd0) (execs (bodyOf (topN 17)) (lawEnv L fa cd0)) Q E s := by
  have e1 : bodyOf (topN 17) = [lawS 0, lawS 1, lawS 2, lawS 3, lawS 4, lawS 5, lawS 6, lawS 7, lawS 8, lawS 9, lawS 10, lawS 11, lawS 12, lawS 13, lawS 14, lawS 15, lawS 16, lawS 17] := rfl
  rw [e1]
  clear e1
  -- the cells
  refine wpAny_execs_cons (law_s0 hI9 hlen hS B T codeHd F N hsc hc1 (fun h₁ tk₁ n₁ cl a b c ta tb tc k F₁ N₁ hcl₁ hab d1₁ k₁ => ?_) X)
  obtain ⟨ha, hb, hc⟩ := hab
  have tab₁ := k₁ _ h164 (CelIn.nTab N hc1 h164).symm
  have d2₁ := hc2.to (by decide) k₁
  have d3₁ := hc3.to (by decide) k₁
  have d4₁ := hc4.to (by decide) k₁
  have d5₁ := hc5.to (by decide) k₁
  have d6₁ := hc6.to (by decide) k₁
  have d7₁ := hc7.to (by decide) k₁
  -- the letters
  refine wpAny_execs_cons (law_s1 B T codeHd F₁ N₁ d2₁ (fun h₂ tk₂ n₂ tl F₂ N₂ d2₂ k₂ => ?_) X)
  have nc₂ := CelIn.keep N₁ d2₁ k₂
  have hcl₂ := nc₂ _ hcl₁ cl_seq
  have tab₂ := k₂ _ tab₁ (CelIn.nTab N₁ d2₁ tab₁).symm
  have d1₂ := d1₁.to (by decide) k₂
  have d3₂ := d3₁.to (by decide) k₂
  have d4₂ := d4₁.to (by decide) k₂
  have d5₂ := d5₁.to (by decide) k₂
  have d6₂ := d6₁.to (by decide) k₂
  have d7₂ := d7₁.to (by decide) k₂
  -- the pairs
  refine wpAny_execs_cons (law_s2 hcl₂ ha d1₂ B T codeHd F₂ N₂ d3₂ (fun h₃ tk₃ n₃ pl F₃ N₃ d3₃ hP₃ k₃ => ?_) X)
  have nc₃ := CelIn.keep N₂ d3₂ k₃
  have hcl₃ := nc₃ _ hcl₂ cl_seq
  have tab₃ := k₃ _ tab₂ (CelIn.nTab N₂ d3₂ tab₂).symm
  have d1₃ := d1₂.to (by decide) k₃
  have d2₃ := d2₂.to (by decide) k₃
  have d4₃ := d4₂.to (by decide) k₃
  have d5₃ := d5₂.to (by decide) k₃
  have d6₃ := d6₂.to (by decide) k₃
  have d7₃ := d7₂.to (by decide) k₃
  have hnx := nxC_in a
  -- the words
  refine wpAny_execs_cons (law_s3 hP₃ hnx d2₃ d3₃ B T codeHd F₃ N₃ (fun h₄ tk₄ n₄ wl F₄ N₄ hW₄ k₄ => ?_) X)
  have hcl₄ := k₄ _ hcl₃
  have tab₄ := k₄ _ tab₃
  have hP₄ := hP₃.mono k₄
  have d1₄ := d1₃.mono k₄
  have d2₄ := d2₃.mono k₄
  have d3₄ := d3₃.mono k₄
  have d4₄ := d4₃.mono k₄
  have d5₄ := d5₃.mono k₄
  have d6₄ := d6₃.mono k₄
  have d7₄ := d7₃.mono k₄
  have w₄ : (fun z => if z = Str.ofString "words" then some (Value.ref wl) else m z) (Str.ofString "words") = some (.ref wl) := if_pos rfl
  -- the lexer
  refine wpAny_execs_cons (law_s4 hW₄ hnx hcl₄ hb.1 tab₄ d1₄ d4₄ B T codeHd F₄ N₄ w₄ (fun h₅ tk₅ n₅ C F₅ N₅ d4₅ hL₅ hT₅ hlow k₅ => ?_) X)
  have sq₅ : ∀ q ∈ n₄, SeqO q.2 → q ∈ n₅ := fun q hq hs => k₅ q hq (neD N₄ (a := q.1) (o1 := q.2) hq tab₄ (by obtain ⟨its, k, e⟩ := hs; rw [e]; exact fun e => nomatch e)) (by
    obtain ⟨o4, h4, e4⟩ := d4₄
    exact neD N₄ (a := q.1) (o1 := q.2) hq h4 (by rw [e4]; exact hs.nc _))
  have ce₅ : ∀ {i : Nat} {v : Option Value}, i ≠ 4 → CelIn L i v n₄ → CelIn L i v n₅ ∧ L + i ∉ C.mut := fun {i v} hi hd => by
    refine ⟨hd.via fun o ho => k₅ _ ho (CelIn.nTab N₄ hd tab₄) (cel_ne L hi), ?_⟩
    obtain ⟨o, h1, _⟩ := hd
    exact hL₅.low (hlow _ h1)
  have mu₅ : ∀ q ∈ n₄, q.1 ∉ C.mut := fun q hq => hL₅.low (hlow q hq)
  obtain ⟨d1₅, mu1⟩ := ce₅ (by decide) d1₄
  obtain ⟨d2₅, mu2⟩ := ce₅ (by decide) d2₄
  obtain ⟨d3₅, mu3⟩ := ce₅ (by decide) d3₄
  obtain ⟨d5₅, mu5⟩ := ce₅ (by decide) d5₄
  obtain ⟨d6₅, mu6⟩ := ce₅ (by decide) d6₄
  obtain ⟨d7₅, mu7⟩ := ce₅ (by decide) d7₄
  have mu4 : L + 4 ∉ C.mut := CelIn.lexCell N₅ hL₅ d4₅ hL₅.lxlf
  -- the words come
  refine wpAny_execs_cons (law_s5 hnx hL₅ d4₅ mu4 d5₅ B T codeHd F₅ N₅ (fun h₆ tk₆ n₆ xl F₆ N₆ d5₆ hX₆ hL₆ hxm k₆ => ?_) X)
  have sq₆ : ∀ q ∈ n₄, SeqO q.2 → q ∈ n₆ := fun q hq hs => k₆ q (sq₅ q hq hs) (mu₅ q hq) (by
    obtain ⟨o5, h5, e5⟩ := d5₅
    exact neD N₅ (a := q.1) (o1 := q.2) (sq₅ q hq hs) h5 (by rw [e5]; exact hs.nc _))
  have d1₆ := d1₅.via fun o ho => k₆ _ ho mu1 (cel_ne L (by decide))
  have d2₆ := d2₅.via fun o ho => k₆ _ ho mu2 (cel_ne L (by decide))
  have d3₆ := d3₅.via fun o ho => k₆ _ ho mu3 (cel_ne L (by decide))
  have d4₆ := d4₅.via fun o ho => k₆ _ ho mu4 (cel_ne L (by decide))
  have d6₆ := d6₅.via fun o ho => k₆ _ ho mu6 (cel_ne L (by decide))
  have d7₆ := d7₅.via fun o ho => k₆ _ ho mu7 (cel_ne L (by decide))
  have hT₆ : TabIn n₆ := by
    obtain ⟨o5, h5, e5⟩ := d5₅
    exact (TabIn.off N₅ hT₅ hL₅).to N₅ h5 e5 k₆
  -- the first test
  refine wpAny_execs_cons (law_s6 (sq₆ _ hcl₄ so_seq) hb d1₆ hL₆ d4₆ d5₆ hX₆ (hW₄.sq sq₆) B T codeHd F₆ N₆ w₄ (fun h₇ tk₇ n₇ F₇ N₇ k₇ => ?_) X)
  have hL₇ := hL₆.mono k₇
  have hT₇ := hT₆.mono k₇
  -- what stands
  refine wpAny_execs_cons (law_s7 (hX₆.sq fun q hq _ => k₇ q hq) (d2₆.mono k₇) (d5₆.mono k₇) (d6₆.mono k₇) B T codeHd F₇ N₇ (fun h₈ tk₈ n₈ sd F₈ N₈ d6₈ hS₈ hsd k₈ => ?_) X)
  have nc₈ := CelIn.keep N₇ (d6₆.mono k₇) k₈
  have hL₈ : LexIn w mean mg mb C (1 + barN b 4) [] [122] n₈ := by
    obtain ⟨o6, h6, e6⟩ := d6₆.mono k₇
    exact hL₇.offCell N₇ h6 e6 (by nofun) k₈
  have hT₈ := hT₇.nc nc₈
  have hsm : sd ∉ C.mut := hL₇.mutLe (hL₇.pbLt hsd)
  have sq₈ : ∀ q ∈ n₄, SeqO q.2 → q ∈ n₈ := fun q hq hs => nc₈ q (k₇ q (sq₆ q hq hs)) hs.nc
  have d1₈ := (d1₆.mono k₇).to (by decide) k₈
  have d2₈ := (d2₆.mono k₇).to (by decide) k₈
  have d3₈ := (d3₆.mono k₇).to (by decide) k₈
  have d4₈ := (d4₆.mono k₇).to (by decide) k₈
  have d7₈ := (d7₆.mono k₇).to (by decide) k₈
  -- the words of eight
  refine wpAny_execs_cons (law_s8 hnx hL₈ hS₈ hsm d2₈ d4₈ d6₈ mu2 mu4 mu6 B T codeHd F₈ N₈ (fun h₉ tk₉ n₉ ed F₉ N₉ hD₉ hem hL₉ k₉ => ?_) X)
  have d4₉ := d4₈.via fun o ho => k₉ _ ho mu4
  have hT₉ : TabOff C n₉ := (TabIn.off N₈ hT₈ hL₈).keep k₉
  -- the second test
  refine wpAny_execs_cons (law_s9 hL₉ d4₉ mu4 B T codeHd F₉ N₉ (fun ha₁ tka na Fa Na ka => ?_) X)
  have kk : ∀ q ∈ n₈, q.1 ∉ C.mut → q ∈ na := fun q hq hn => ka q (k₉ q hq hn) hn
  have sqa : ∀ q ∈ n₄, SeqO q.2 → q ∈ na := fun q hq hs => kk q (sq₈ q hq hs) (mu₅ q hq)
  have hTa : TabIn na := (hT₉.keep ka).tab
  have d1a := d1₈.via fun o ho => kk _ ho mu1
  have d2a := d2₈.via fun o ho => kk _ ho mu2
  have d3a := d3₈.via fun o ho => kk _ ho mu3
  have d6a := d6₈.via fun o ho => kk _ ho mu6
  have d7a := d7₈.via fun o ho => kk _ ho mu7
  have hPa := hP₄.sq sqa
  have hcla := sqa _ hcl₄ so_seq
  have hSa : StandsIn w.params (nxC a) sd na := by
    obtain ⟨kt, vt, nd, hm⟩ := hS₈
    exact ⟨kt, vt, nd, kk _ hm hsm⟩
  have hDa : DictIn w.params (e8 (nxC a)) ed na := by
    obtain ⟨kt, vt, nd, hm⟩ := hD₉
    exact ⟨kt, vt, nd, ka _ hm hem⟩
  -- the drawn letter and place
  refine wpAny_execs_cons (law_s10 hcla hb hc d1a B T codeHd Fa Na (fun hb₁ tkb tb₁ Fb Nb => ?_) X)
  refine wpAny_execs_cons (law_s11 hcla hb hc d1a B T codeHd Fb Nb (fun hc₁ tkc tc₁ Fc Nc => ?_) X)
  refine wpAny_execs_cons (law_s12 B T codeHd Fc Nc (fun hd₁ tkd el Fd Nd hel => ?_) X)
  have hpc : 0 ≤ c % 32768 ∧ c % 32768 < 32768 := by omega
  have hfx : 0 ≤ b / 16 % 4 ∧ b / 16 % 4 < 4 := by omega
  -- the four letters
  refine wpAny_execs_cons (law_s13 (ed := ed) (t2 := tc₁) hnx hDa hPa d2a d3a d7a hpc hel B T codeHd Fd Nd ((if_neg (by decide)).trans ((if_neg (by decide)).trans ((if_neg (by decide)).trans (if_pos rfl)))) ((if_neg (by decide)).trans (if_pos rfl)) (if_pos rfl) (fun he₁ tke me ne Fe ee Ne hEe ke => ?_) X)
  have ve1 : me (Str.ofString "first") = some (.int (b / 16 % 4) tb₁) := (ee _ (by decide) (by decide) (by decide) (by decide)).trans ((if_neg (by decide)).trans ((if_neg (by decide)).trans (if_pos rfl)))
  have ve2 : me (Str.ofString "place") = some (.int (c % 32768) tc₁) := (ee _ (by decide) (by decide) (by decide) (by decide)).trans ((if_neg (by decide)).trans (if_pos rfl))
  have ve3 : me (Str.ofString "ends") = some (.ref el) := (ee _ (by decide) (by decide) (by decide) (by decide)).trans (if_pos rfl)
  have nce := CelIn.keep Na d7a ke
  have hPe := hPa.nc nce
  have hTe := hTa.nc nce
  have hSe : StandsIn w.params (nxC a) sd ne := by
    obtain ⟨kt, vt, nd, hm⟩ := hSa
    exact ⟨kt, vt, nd, nce _ hm cl_dict⟩
  have d2e := d2a.to7 (by decide) ke
  have d3e := d3a.to7 (by decide) ke
  have d6e := d6a.to7 (by decide) ke
  -- the walk
  refine wpAny_execs_cons (law_s14 hnx hPe d3e hfx hpc B T codeHd Fe Ne ve1 ve2 (fun hf₁ tkf nf lb vsf jf tf Ff Nf hlf hDf kf => ?_) X)
  have hbl : (wbes (nxC a) 1 (b / 16 % 4) (bitsOf (c % 32768) 15)).length ≤ 15 := by
    have := wbes_len (nxC a) 1 (b / 16 % 4) (bitsOf (c % 32768) 15)
    rw [bits_len] at this
    exact this
  refine wpAny_execs_cons (law_s15 hlf hDf hbl (wbes_in hnx 1 _ _ hfx) (d2e.mono kf) B T codeHd Ff Nf (if_pos rfl) (fun hg₁ tkg ng wl2 Fg Ng hWg kg => ?_) X)
  -- the pile
  refine wpAny_execs_cons (law_s16 hnx (by obtain ⟨kt, vt, nd, hm⟩ := hSe; exact ⟨kt, vt, nd, kg _ (kf _ hm)⟩) ((d2e.mono kf).mono kg) ((d6e.mono kf).mono kg) hfx hpc hWg B T codeHd Fg Ng
    ((if_neg (by decide)).trans ((if_neg (by decide)).trans ((if_neg (by decide)).trans ve1))) ((if_neg (by decide)).trans ((if_neg (by decide)).trans ((if_neg (by decide)).trans ve2))) ((if_neg (by decide)).trans ((if_neg (by decide)).trans (if_pos rfl))) (if_pos rfl) (fun hh₁ tkh nh Fh Nh kh => ?_) X)
  -- the flags
  have kall : ∀ q ∈ ne, q ∈ nh := fun q hq => kh q (kg q (kf q hq))
  refine wpAny_execs_cons (law_s17 hnx (hTe.mono kall) (hPe.mono kall) (d3e.mono kall) hpc (by obtain ⟨ts, k, hm⟩ := hEe; exact ⟨ts, k, kall _ hm⟩) B T codeHd Fh Nh
    ((if_neg (by decide)).trans ((if_neg (by decide)).trans ((if_neg (by decide)).trans ve2))) ((if_neg (by decide)).trans ((if_neg (by decide)).trans ((if_neg (by decide)).trans ve3))) (fun hi₁ tki ni Fi Ni hTi => ?_) X)
  exact hQ _ _ _ _ Fi Ni hTi

end Mine
-- FIN
namespace Mine
theorem offFIN : True := by
  w_top off
  exact True.intro
set_option maxRecDepth 100000 in
set_option maxHeartbeats 8000000 in
theorem fin1 : PySem.Challenge.rw_ty0016_01.Holds := by
  refine hd ?_
  w_strict (k_go0)
  rename_i h1 tk1 w7 w6 w5 w4 w3 w2 w1 d7 d6 d5 d4 d3 d2 d1 X0 X9 T9 K9 F9 N9 l9
  rename IntsAre _ _ => hI9
  rename ¬ _ < _ => hl9
  refine law_all (h164 := ?h164) (hlen := ?hlen) (hsc := ?hsc) (hc1 := ?hc1) (hc2 := ?hc2) (hc3 := ?hc3) (hc4 := ?hc4) (hc5 := ?hc5) (hc6 := ?hc6) (hc7 := ?hc7) (hQ := ?hQ) hI9 lifted K9 T9 codeHd F9 N9 X9
  case h164 => exact (.tail _ (.tail _ (.tail _ (.tail _ (.tail _ (.tail _ (.tail _ (.head _))))))))
  case hlen =>
    have := hI9.length
    omega
  case hsc => rfl
  case hc1 => exact ⟨w1, (.tail _ (.tail _ (.tail _ (.tail _ (.tail _ (.tail _ (.head _))))))), d1⟩
  case hc2 => exact ⟨w2, (.tail _ (.tail _ (.tail _ (.tail _ (.tail _ (.head _)))))), d2⟩
  case hc3 => exact ⟨w3, (.tail _ (.tail _ (.tail _ (.tail _ (.head _))))), d3⟩
  case hc4 => exact ⟨w4, (.tail _ (.tail _ (.tail _ (.head _)))), d4⟩
  case hc5 => exact ⟨w5, (.tail _ (.tail _ (.head _))), d5⟩
  case hc6 => exact ⟨w6, (.tail _ (.head _)), d6⟩
  case hc7 => exact ⟨w7, (.head _), d7⟩
  case hQ =>
    intro h' tk' m' n' F' N' hT'
    obtain ⟨c', oc, vs, t, hm, _⟩ := hT'
    refine ⟨?_, GrownAt.of N' hm, True.intro⟩
    clear X0 X9 T9 K9 F9 N9 d1 d2 d3 d4 d5 d6 d7
    dsimp only
    w_strict (k_end; wrow_close)

end Mine
theorem PySem.Challenge.cw_ty0016_01_holds : PySem.Challenge.rw_ty0016_01.Holds := by
  exact Mine.fin1
