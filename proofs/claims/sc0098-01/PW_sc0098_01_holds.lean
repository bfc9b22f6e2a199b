import PyProof.Rows.All
import Wide.All
import OpenK.AllK
import Wide.FinOn
import Lean
import PySem.Challenge.RW_sc0098_01
open PySem PySem.W PyProof.Rows PySem.Calls PySem.Flt
set_option Elab.async false
set_option maxRecDepth 100000
set_option maxHeartbeats 8000000
namespace Mine
section
-- the fragment alone: k_head writes it out as hd.heap_1; the head itself is proved by hand (part H1)
local macro_rules | `(tactic| o_head $_) => `(tactic| assumption)
theorem hd (h : PySem.Challenge.rw_sc0098_01.row.Holds) : PySem.Challenge.rw_sc0098_01.row.Holds := by k_head
end
example : hd.heap_1 = hd.heap_1 ∧ PySem.Challenge.rw_sc0098_01 = PySem.Challenge.rw_sc0098_01 := by (k_fill; exact ⟨rfl, rfl⟩)
local macro_rules | `(tactic| walk_at $s:str) => `(tactic| k_extra $s)
section
-- needs Hd
/-- the head, by hand: the addresses of the fragment, the view (nine of the text's eighteen statements), one run of the text by the kernel -/
noncomputable def addrs : List Addr := [2, 3, 15, 17, 18, 20, 21, 22, 24, 25, 27, 28, 29, 30, 31, 33, 34, 36, 37, 38, 39, 40, 42, 43, 45, 46, 47, 48, 49, 51, 52, 54, 55, 56, 57, 58, 60, 61, 63, 64, 65, 67, 68, 70, 71, 72, 74, 75, 77, 78, 89, 91, 92, 94, 95, 96, 98, 99, 101, 102, 103, 105, 106, 108, 109, 110, 112, 113, 115, 116, 117, 119, 120, 122, 123, 124, 126, 127, 129, 130, 131, 133, 134, 136, 137, 138, 139, 140, 141, 142, 145, 147, 148, 150, 151, 152, 155, 156, 157, 160, 161]
theorem addrs_ok (P : Params) : addrs = (hd.heap_1 P).map (·.1) := by kernel_rfl
noncomputable def stAt (i : Nat) : Stmt := PySem.Challenge.pw_sc0098_01.main.body.getD i (.Pass default)
noncomputable def viewB : List Stmt := [(⟨_, by conv => rhs; whnf⟩ : { x : Stmt // x = stAt 0 }).1, (⟨_, by conv => rhs; whnf⟩ : { x : Stmt // x = stAt 2 }).1, (⟨_, by conv => rhs; whnf⟩ : { x : Stmt // x = stAt 3 }).1,
  (⟨_, by conv => rhs; whnf⟩ : { x : Stmt // x = stAt 10 }).1, (⟨_, by conv => rhs; whnf⟩ : { x : Stmt // x = stAt 11 }).1, (⟨_, by conv => rhs; whnf⟩ : { x : Stmt // x = stAt 13 }).1,
  (⟨_, by conv => rhs; whnf⟩ : { x : Stmt // x = stAt 15 }).1, (⟨_, by conv => rhs; whnf⟩ : { x : Stmt // x = stAt 16 }).1, (⟨_, by conv => rhs; whnf⟩ : { x : Stmt // x = stAt 17 }).1]
noncomputable def view : Program := { PySem.Challenge.pw_sc0098_01 with main := { PySem.Challenge.pw_sc0098_01.main with body := viewB } }
theorem said_ : PySem.Challenge.rw_sc0098_01.wellSaid = true := by
  unfold OpenLaw.wellSaid OpenRow.wellSaid OpenRow.partSaid looksOpen
  repeat' (with_reducible refine look_both ?_ ?_)
  all_goals decide +kernel
theorem both_map {α β γ : Type} {x : Option α} {f : α → β} {g : α → γ} {a : β} {b : γ} (h1 : x.map f = some a) (h2 : x.map g = some b) : x.map (fun s => (f s, g s)) = some (a, b) := by
  cases x with
  | none => cases h1
  | some y => cases h1; cases h2; rfl
/-- the text's run and the looks at its end, where the world answers b on its one row -/
noncomputable abbrev LeftAt (b : Bool) (w : World) : Prop := (fencedOpening treeTable PySem.Challenge.rw_sc0098_01.row.prog w 1988).map (fun s₀ => (topFrom treeTable PySem.Challenge.rw_sc0098_01.row.prog (w.withFollow "special-get-raises" b) 1988 s₀).map
    (fun s => (openSeen view [Str.ofString "insort_right", Str.ofString "bisect_right", Str.ofString "insort_left", Str.ofString "bisect_left", Str.ofString "Whitespace"] (importedModules PySem.Challenge.rw_sc0098_01.row.prog.main.body) (fun s => xlAt view [] s && recOk (RowW.records PySem.Challenge.rw_sc0098_01.row.toRowW) s) true s, Hook.obs (kHook hd.heap_1 addrs addrs_ok) s))) =
  some (some (openGood view [Str.ofString "insort_right", Str.ofString "bisect_right", Str.ofString "insort_left", Str.ofString "bisect_left", Str.ofString "Whitespace"], Hook.val (kHook hd.heap_1 addrs addrs_ok) (w.withFollow "special-get-raises" b)))
theorem left_f (w : World) : LeftAt false w := by kernel_rfl
theorem left_t (w : World) : LeftAt true w := by kernel_rfl
theorem left_ : LeftO PySem.Challenge.rw_sc0098_01.row.prog view [Str.ofString "insort_right", Str.ofString "bisect_right", Str.ofString "insort_left", Str.ofString "bisect_left", Str.ofString "Whitespace"] (fun s => xlAt view [] s && recOk (RowW.records PySem.Challenge.rw_sc0098_01.row.toRowW) s)
    (Hook.obs (kHook hd.heap_1 addrs addrs_ok)) (Hook.val (kHook hd.heap_1 addrs addrs_ok)) 1988 :=
  LeftO.of_split "special-get-raises" fun w => both_map (left_f w) (left_t w)
end
section
-- needs Hd
section
variable {prog : Program} {w : World} {A : Around} {s : Shared} {R : Result → Shared → Prop} {K : Frag} {p : Program} {loose : List Str} {mg mb : Str → Option Value}
  {name qual : Str} {params : Arguments} {body : List Stmt} {scope : Scope} {dV kV doc pm cdv ct oc : Value} {an od : Option Addr} {osl : Array (Option Value)} {f : Addr} {args : Args} {binds : List (Str × Value)}
theorem enterP (binds : List (Str × Value)) (X : K.In s.heap) (T : TopRead p loose mg mb s.heap) 
    (ho : K.lookup f = some ⟨oc, od, .func (fnOf name qual params body scope dV kV doc pm an cdv ct), osl⟩) (hcd : codeIn K cdv qual = true) (hroom : A.depth < recursionLimit)
    (hbind : BindsTo s (fnOf name qual params body scope dV kV doc pm an cdv ct) args binds) (hloc : ∀ y ∈ binds, scope.names.lookup y.1 = some .local)
    (hcell : ∀ x ∈ scope.names, x.2 ≠ .cell) (hco : scope.isCoroutine = false) (hgen : scope.isGenerator = false) (hk : scope.kind = .function)
    (h : ∀ h₁, Fr s.heap s.heap.objs.size h₁ (fun y => binds.reverse.lookup y) → News s.heap s.heap.objs.size h₁ [] →
      wpAny (model prog w) (A.deeper (envOf qual scope s.heap.objs.size f cdv)) (execs body (envOf qual scope s.heap.objs.size f cdv))
        (fun fl s' => R (.ok (.ret (match fl with | .ret v => v | _ => .none))) s') (fun _ _ => False) { s with heap := h₁, toks := s.toks + binds.length }) :
    codeAny (model prog w) A (.call (.ref f) args) R s := by
  refine codeAny_call_def (fd := fnOf name qual params body scope dV kV doc pm an cdv ct) (body := body) (binds := binds) hroom (X _ _ ho) rfl T.nolimit (codeRec_of X hcd) rfl hbind hcell hloc (fun h₁ hns hk₁ => ?_) hco hgen hk
  exact wpAny_mono (h h₁ ⟨hns, hk₁, Nat.le_refl _⟩ News.nil) (fun _ _ x => x) (fun _ _ x => x.elim)

/-- what every contract gives back: a value, the heap grown, nothing else turned -/
noncomputable def Back (P : Value → Heap → Prop) (s : Shared) (r : Result) (s' : Shared) : Prop := ∃ v h' tk, r = .ok (.ret v) ∧ s' = { s with heap := h', toks := tk } ∧ (∀ b o, s.heap.get? b = some o → h'.get? b = some o) ∧ P v h'

theorem call_back {P : Value → Heap → Prop} {h₀ : Heap} {L : Addr} {m : Str → Option Value} {news : List (Addr × Obj)} {E : Value → Shared → Prop} {Q : Value → Shared → Prop} {fv : Value} {pos : List Value} {kw : List (Str × Value)}
    (F : Fr h₀ L s.heap m) (N : News h₀ L s.heap news) (hc : codeAny (model prog w) A (.call fv ⟨pos, kw⟩) (Back P s) s)
    (h : ∀ v h' tk, Fr h₀ L h' m → News h₀ L h' news → P v h' → Q v { s with heap := h', toks := tk }) :
    wpAny (model prog w) A (call fv pos kw) Q E s := by
  refine wpAny_call (codeAny_mono hc fun r s' hr => ?_)
  obtain ⟨v, h', tk, rfl, rfl, hk, hp⟩ := hr
  exact h v h' tk (F.grownK hk) (N.grown hk) hp

noncomputable def mx (a b : UInt64) : UInt64 := if (Float64.cmp a b == some .lt) = true then b else a
noncomputable def mn (a b : UInt64) : UInt64 := if (Float64.cmp b a == some .lt) = true then b else a
noncomputable def mx3 (a b c : UInt64) : UInt64 := mx (mx a b) c
noncomputable def mn3 (a b c : UInt64) : UInt64 := mn (mn a b) c

theorem max_three_ff {prog : Program} {w : World} {A : Around} {E : Value → Shared → Prop} {s : Shared} {Q : Value → Shared → Prop} {x y z : UInt64} {t u v : Tok} {h₀ : Heap} {L : Addr} {m : Str → Option Value} {news : List (Addr × Obj)}
    (hh : A.handled = none) (F : Fr h₀ L s.heap m) (N : News h₀ L s.heap news)
    (h : ∀ h' tk k, s.toks ≤ tk → (k = t ∨ k = u ∨ k = v) → Fr h₀ L h' m → News h₀ L h' news → Q (.float (mx3 x y z) k) { s with heap := h', toks := tk }) :
    wpAny (model prog w) A (call (.builtin "max") [.float x t, .float y u, .float z v]) Q E s := by
  have hT : (s.heap.push { cls := .type "tuple", data := .seq #[.float x t, .float y u, .float z v] }).IsTuple s.heap.objs.size #[.float x t, .float y u, .float z v] := ⟨_, Heap.get?_push_size _ rfl, rfl, 0, rfl⟩
  refine wpAny_with_toks (Nat.le_refl _) ?_
  refine call_max_three (wpAny_pyIter_tuple hT ?_)
  have hsz : (s.heap.push { cls := .type "tuple", data := .seq #[.float x t, .float y u, .float z v] }).objs.size = s.heap.objs.size + 1 := Heap.size_push ..
  refine ⟨_, [_, s.heap.objs.size], [_], _, _, _, _, rfl, Walks.tuple (A := A.in1) hh _ s.heap.objs.size (by rw [hsz]; exact Nat.ne_of_lt (Nat.lt_succ_self _)) #[.float x t, .float y u, .float z v],
    ⟨⟨_, Heap.get?_push_size _ rfl, rfl, rfl⟩, hT.push _⟩, fun d hd => ?_, by simp, cmpOf_gt _ (by simp [NumV.float]), fun r h' tk hP hk => ?_⟩
  · show d < ((s.heap.push _).push _).objs.size
    rw [Heap.size_push, hsz]
    rcases List.mem_cons.mp hd with rfl | hd
    · rw [hsz]; exact Nat.lt_succ_self _
    · rcases List.mem_cons.mp hd with rfl | hd
      · exact Nat.lt_succ_of_lt (Nat.lt_succ_self _)
      · cases hd
  · have hold : ∀ d o, s.heap.get? d = some o → h'.get? d = some o := fun d o e => by
      refine hk d o (fun hm => ?_) (Heap.get?_push_of_some _ (Heap.get?_push_of_some _ e))
      rcases List.mem_cons.mp hm with e1 | hm
      · have := Heap.lt_size e; rw [e1, hsz] at this; exact Nat.lt_irrefl _ (Nat.lt_of_succ_lt this)
      · cases hm
    have hv : ∃ k, r = .float (mx3 x y z) k ∧ (k = t ∨ k = u ∨ k = v) := by
      unfold mx3 mx
      cases hxy : (Float64.cmp x y == some .lt)
      · cases hz : (Float64.cmp x z == some .lt) <;> simp [argBest, ltV, hxy, hz] at hP ⊢ <;> subst hP <;> simp
      · cases hz : (Float64.cmp y z == some .lt) <;> simp [argBest, ltV, hxy, hz] at hP ⊢ <;> subst hP <;> simp
    obtain ⟨k, rfl, hk3⟩ := hv
    intro htk
    exact h h' tk k htk hk3 (F.grownK hold) (N.grown hold)
theorem min_three_ff {prog : Program} {w : World} {A : Around} {E : Value → Shared → Prop} {s : Shared} {Q : Value → Shared → Prop} {x y z : UInt64} {t u v : Tok} {h₀ : Heap} {L : Addr} {m : Str → Option Value} {news : List (Addr × Obj)}
    (hh : A.handled = none) (F : Fr h₀ L s.heap m) (N : News h₀ L s.heap news)
    (h : ∀ h' tk k, s.toks ≤ tk → (k = t ∨ k = u ∨ k = v) → Fr h₀ L h' m → News h₀ L h' news → Q (.float (mn3 x y z) k) { s with heap := h', toks := tk }) :
    wpAny (model prog w) A (call (.builtin "min") [.float x t, .float y u, .float z v]) Q E s := by
  have hT : (s.heap.push { cls := .type "tuple", data := .seq #[.float x t, .float y u, .float z v] }).IsTuple s.heap.objs.size #[.float x t, .float y u, .float z v] := ⟨_, Heap.get?_push_size _ rfl, rfl, 0, rfl⟩
  refine wpAny_with_toks (Nat.le_refl _) ?_
  refine call_min_three (wpAny_pyIter_tuple hT ?_)
  have hsz : (s.heap.push { cls := .type "tuple", data := .seq #[.float x t, .float y u, .float z v] }).objs.size = s.heap.objs.size + 1 := Heap.size_push ..
  refine ⟨_, [_, s.heap.objs.size], [_], _, _, _, _, rfl, Walks.tuple (A := A.in1) hh _ s.heap.objs.size (by rw [hsz]; exact Nat.ne_of_lt (Nat.lt_succ_self _)) #[.float x t, .float y u, .float z v],
    ⟨⟨_, Heap.get?_push_size _ rfl, rfl, rfl⟩, hT.push _⟩, fun d hd => ?_, by simp, cmpOf_lt _ (by simp [NumV.float]), fun r h' tk hP hk => ?_⟩
  · show d < ((s.heap.push _).push _).objs.size
    rw [Heap.size_push, hsz]
    rcases List.mem_cons.mp hd with rfl | hd
    · rw [hsz]; exact Nat.lt_succ_self _
    · rcases List.mem_cons.mp hd with rfl | hd
      · exact Nat.lt_succ_of_lt (Nat.lt_succ_self _)
      · cases hd
  · have hold : ∀ d o, s.heap.get? d = some o → h'.get? d = some o := fun d o e => by
      refine hk d o (fun hm => ?_) (Heap.get?_push_of_some _ (Heap.get?_push_of_some _ e))
      rcases List.mem_cons.mp hm with e1 | hm
      · have := Heap.lt_size e; rw [e1, hsz] at this; exact Nat.lt_irrefl _ (Nat.lt_of_succ_lt this)
      · cases hm
    have hv : ∃ k, r = .float (mn3 x y z) k ∧ (k = t ∨ k = u ∨ k = v) := by
      unfold mn3 mn
      cases hxy : (Float64.cmp y x == some .lt)
      · cases hz : (Float64.cmp z x == some .lt) <;> simp [argBest, ltV, hxy, hz] at hP ⊢ <;> subst hP <;> simp
      · cases hz : (Float64.cmp z y == some .lt) <;> simp [argBest, ltV, hxy, hz] at hP ⊢ <;> subst hP <;> simp
    obtain ⟨k, rfl, hk3⟩ := hv
    intro htk
    exact h h' tk k htk hk3 (F.grownK hold) (N.grown hold)
end
theorem gen_pos {α : Type} {M : Model} {A : Around} {E : Value → Shared → Prop} {Q : α → Shared → Prop} {c : Sem α} {hp : Heap} {g : Array GenState} {d : Drawn} {o : OsState} {X : Nat} (h : ∀ tk, 0 < tk → wpAny M A c Q E ⟨hp, g, d, tk, o⟩) : wpAny M A c Q E ⟨hp, g, d, X + 1, o⟩ := h _ (Nat.succ_pos _)
theorem gen_pos0 {α : Type} {M : Model} {A : Around} {E : Value → Shared → Prop} {Q : α → Shared → Prop} {c : Sem α} {hp : Heap} {g : Array GenState} {d : Drawn} {o : OsState} {X : Nat} (hX : 0 < X) (h : ∀ tk, 0 < tk → wpAny M A c Q E ⟨hp, g, d, tk, o⟩) : wpAny M A c Q E ⟨hp, g, d, X, o⟩ := h _ hX
end
section
noncomputable def eqF (a b : UInt64) : Bool := Float64.cmp a b == some .eq
noncomputable def hueF (r g mx rc gc bc : UInt64) : UInt64 :=
  (Float64.divmod (Float64.div (if eqF r mx = true then Float64.sub bc gc else if eqF g mx = true then Float64.sub (Float64.add 4611686018427387904 rc) bc else Float64.sub (Float64.add 4616189618054758400 gc) rc) 4618441417868443648) 4607182418800017408).2
noncomputable def hsvF (r g b : UInt64) : UInt64 × UInt64 × UInt64 :=
  let mx := mx3 r g b
  let mn := mn3 r g b
  let d := Float64.sub mx mn
  if eqF mn mx = true then (0, 0, mx) else
    (hueF r g mx (Float64.div (Float64.sub mx r) d) (Float64.div (Float64.sub mx g) d) (Float64.div (Float64.sub mx b) d), Float64.div d mx, mx)

theorem div_ok {prog : Program} {w : World} {A : Around} {E : Value → Shared → Prop} {s : Shared} {a b : UInt64} {t u : Tok} {Q : Value → Shared → Prop} (hA : A.handled = none) (hz : Float64.isZero b = false)
    (h : Q (.float (Float64.div a b) s.toks) { s with toks := s.toks + 1 }) : wpAny (model prog w) A (binaryOp .Div (.float a t) (.float b u)) Q E s :=
  truediv_float_or hA (fun q => by rw [hz] at q; cases q) fun _ => h
theorem mod_ok {prog : Program} {w : World} {A : Around} {E : Value → Shared → Prop} {s : Shared} {a b : UInt64} {t u : Tok} {Q : Value → Shared → Prop} (hA : A.handled = none) (hz : Float64.isZero b = false)
    (h : Q (.float (Float64.divmod a b).2 s.toks) { s with toks := s.toks + 1 }) : wpAny (model prog w) A (binaryOp .Mod (.float a t) (.float b u)) Q E s :=
  mod_ff hA (fun q => by rw [hz] at q; cases q) fun _ => h
example : True := by
 k_with_none
 k_with "call builtin:max" => (((with_reducible show wpAny _ _ (call _ [Value.float _ _, Value.float _ _, Value.float _ _]) _ _ _); (rename Fr _ _ _ _ => F'); (rename News _ _ _ _ => N'); refine max_three_ff (by first | rfl | assumption) F' N' ?_; intro _ _ _ hle' _ F' N'; dsimp only at hle'))
 k_with "call builtin:min" => (((with_reducible show wpAny _ _ (call _ [Value.float _ _, Value.float _ _, Value.float _ _]) _ _ _); (rename Fr _ _ _ _ => F'); (rename News _ _ _ _ => N'); refine min_three_ff (by first | rfl | assumption) F' N' ?_; intro _ _ _ hle' _ F' N'; dsimp only at hle'))
 k_with "binaryOp Div float float" => ((refine div_ok (by first | rfl | assumption) (by first | ((rename (_ = false → Float64.isZero (mx3 _ _ _) = false) => q1'); (rename (_ = false → Float64.isZero (Float64.sub _ _) = false) => q2'); first | exact q1' (by assumption) | exact q2' (by assumption)) | decide +kernel) ?_; try dsimp only))
 k_with "binaryOp Mod float float" => ((refine mod_ok (by first | rfl | assumption) (by first | with_reducible assumption | decide +kernel) ?_; try dsimp only))
 k_with "execs cons" => (((try dsimp only); (with_reducible refine gen_pos ?_); intro tk' hp'))
 k_with "execs nil" => (((try dsimp only); (with_reducible refine gen_pos ?_); intro tk' hp'))
 trivial
noncomputable def IsT3 (s : Heap) (x y z : UInt64) (v : Value) (h : Heap) : Prop := ∃ t t1 t2 t3, v = .ref t ∧ s.get? t = none ∧ IsTup h t #[.float x t1, .float y t2, .float z t3]

theorem end_T3 {s : Shared} {h : Heap} {L : Addr} {m : Str → Option Value} {D : Addr} {x y z x' y' z' : UInt64} {t1 t2 t3 : Tok} {news : List (Addr × Obj)} {s' : Shared} (F : Fr s.heap L h m) (N : News s.heap L h ((D, { cls := .type "tuple", data := .seq #[.float x t1, .float y t2, .float z t3] }) :: news))
    (hs : ∃ tk, s' = { s with heap := h, toks := tk }) (he : (x', y', z') = (x, y, z)) : Back (IsT3 s.heap x' y' z') s (.ok (.ret (.ref D))) s' := by
  obtain ⟨tk, rfl⟩ := hs
  cases he
  exact ⟨_, h, tk, rfl, rfl, F.keep, D, t1, t2, t3, rfl, (N _ (.head _)).2.2, _, (N _ (.head _)).1, rfl, 0, rfl⟩

noncomputable def IsT3p (s : Heap) (x y z : UInt64) (v : Value) (h : Heap) : Prop := ∃ t t1 t2 t3, v = .ref t ∧ s.get? t = none ∧ IsTup h t #[.float x t1, .float y t2, .float z t3] ∧ t1 ≠ 0 ∧ t2 ≠ 0 ∧ t3 ≠ 0

theorem end_T3p {s : Shared} {h : Heap} {L : Addr} {m : Str → Option Value} {D : Addr} {x y z x' y' z' : UInt64} {t1 t2 t3 : Tok} {news : List (Addr × Obj)} {s' : Shared} (F : Fr s.heap L h m) (N : News s.heap L h ((D, { cls := .type "tuple", data := .seq #[.float x t1, .float y t2, .float z t3] }) :: news))
    (hs : ∃ tk, s' = { s with heap := h, toks := tk }) (h1 : t1 ≠ 0) (h2 : t2 ≠ 0) (h3 : t3 ≠ 0) (he : (x', y', z') = (x, y, z)) : Back (IsT3p s.heap x' y' z') s (.ok (.ret (.ref D))) s' := by
  obtain ⟨tk, rfl⟩ := hs
  cases he
  exact ⟨_, h, tk, rfl, rfl, F.keep, D, t1, t2, t3, rfl, (N _ (.head _)).2.2, ⟨_, (N _ (.head _)).1, rfl, 0, rfl⟩, h1, h2, h3⟩

theorem tok3 {k t1 t2 t3 : Tok} (h : k = t1 ∨ k = t2 ∨ k = t3) (h1 : t1 ≠ 0) (h2 : t2 ≠ 0) (h3 : t3 ≠ 0) : k ≠ 0 := by
  rcases h with rfl | rfl | rfl <;> assumption

theorem hsv_c (prog : Program) (w : World) (A : Around) (s : Shared) (p : Program) (loose : List Str) (mg mb : Str → Option Value)
  (X : (hd.heap_1 w.params).In s.heap) (T : TopRead p loose mg mb s.heap) (hA : A.handled = none) (hd : A.depth + 3 < recursionLimit) (r g b : UInt64) (t1 t2 t3 : Tok) (ht : 0 < s.toks) (ht1 : t1 ≠ 0) (ht2 : t2 ≠ 0) (ht3 : t3 ≠ 0)
  (hz1 : eqF (mn3 r g b) (mx3 r g b) = false → Float64.isZero (mx3 r g b) = false) (hz2 : eqF (mn3 r g b) (mx3 r g b) = false → Float64.isZero (Float64.sub (mx3 r g b) (mn3 r g b)) = false)
  : codeAny (model prog w) A (.call (.ref 78) ⟨[.float r t1, .float g t2, .float b t3], []⟩) (Back (IsT3p s.heap (hsvF r g b).1 (hsvF r g b).2.1 (hsvF r g b).2.2) s) s := by
  refine' enterP [("r", .float r t1), ("g", .float g t2), ("b", .float b t3)] X T ?k6 ?k7 (by omega) ?k9 ?kB ?c5 ?c2 ?c3 ?c4 ?_
  case k6 => k_is
  case k7 => k_is
  case k9 => exact BindsTo.of_eq rfl
  case kB => exact locs rfl
  case c5 => decide
  case c2 => exact rfl
  case c3 => exact rfl
  case c4 => exact rfl
  intro h1 F N
  refine gen_pos0 (Nat.lt_of_lt_of_le ht (Nat.le_add_right _ _)) ?_
  intro tk0 htk0
  generalize hq : hsvF r g b = out
  k_steps
  all_goals refine end_T3p (by assumption) (by assumption) ⟨_, rfl⟩ ?_ ?_ ?_ ?_
  all_goals first
    | ((with_reducible show @Ne Nat _ _); omega)
    | exact tok3 (by assumption) ht1 ht2 ht3
    | (subst hq; simp [hsvF, hueF, eqF, *])

example : True := by
 k_with_none
 trivial
end
section
noncomputable def leF (a b : UInt64) : Bool := Float64.cmp a b == some .lt || Float64.cmp a b == some .eq
noncomputable def hlsF (r g b : UInt64) : UInt64 × UInt64 × UInt64 :=
  let mx := mx3 r g b
  let mn := mn3 r g b
  let d := Float64.sub mx mn
  let sm := Float64.add mx mn
  let l := Float64.div sm 4611686018427387904
  if eqF mn mx = true then (0, l, 0) else
    (hueF r g mx (Float64.div (Float64.sub mx r) d) (Float64.div (Float64.sub mx g) d) (Float64.div (Float64.sub mx b) d), l,
      if leF l 4602678819172646912 = true then Float64.div d sm else Float64.div d (Float64.sub (Float64.sub 4611686018427387904 mx) mn))

example : True := by
 k_with_none
 k_with "call builtin:max" => (((with_reducible show wpAny _ _ (call _ [Value.float _ _, Value.float _ _, Value.float _ _]) _ _ _); (rename Fr _ _ _ _ => F'); (rename News _ _ _ _ => N'); refine max_three_ff (by first | rfl | assumption) F' N' ?_; intro _ _ _ _ _ F' N'))
 k_with "call builtin:min" => (((with_reducible show wpAny _ _ (call _ [Value.float _ _, Value.float _ _, Value.float _ _]) _ _ _); (rename Fr _ _ _ _ => F'); (rename News _ _ _ _ => N'); refine min_three_ff (by first | rfl | assumption) F' N' ?_; intro _ _ _ _ _ F' N'))
 k_with "binaryOp Div float float" => ((refine div_ok (by first | rfl | assumption) (by first | ((rename (_ = false → Float64.isZero (Float64.add _ _) = false) => q1'); (rename (_ = false → Float64.isZero (Float64.sub (mx3 _ _ _) _) = false) => q2'); (rename (_ = false → Float64.isZero (Float64.sub (Float64.sub _ _) _) = false) => q3'); first | exact q1' (by assumption) | exact q2' (by assumption) | exact q3' (by assumption)) | decide +kernel) ?_; try dsimp only))
 k_with "binaryOp Mod float float" => ((refine mod_ok (by first | rfl | assumption) (by first | with_reducible assumption | decide +kernel) ?_; try dsimp only))
 trivial
theorem hls_c (prog : Program) (w : World) (A : Around) (s : Shared) (p : Program) (loose : List Str) (mg mb : Str → Option Value)
  (X : (hd.heap_1 w.params).In s.heap) (T : TopRead p loose mg mb s.heap) (hA : A.handled = none) (hd : A.depth + 3 < recursionLimit) (r g b : UInt64) (t1 t2 t3 : Tok)
  (hz1 : eqF (mn3 r g b) (mx3 r g b) = false → Float64.isZero (Float64.add (mx3 r g b) (mn3 r g b)) = false) (hz2 : eqF (mn3 r g b) (mx3 r g b) = false → Float64.isZero (Float64.sub (mx3 r g b) (mn3 r g b)) = false)
  (hz3 : eqF (mn3 r g b) (mx3 r g b) = false → Float64.isZero (Float64.sub (Float64.sub 4611686018427387904 (mx3 r g b)) (mn3 r g b)) = false)
  : codeAny (model prog w) A (.call (.ref 71) ⟨[.float r t1, .float g t2, .float b t3], []⟩) (Back (IsT3 s.heap (hlsF r g b).1 (hlsF r g b).2.1 (hlsF r g b).2.2) s) s := by
  refine' enterP [("r", .float r t1), ("g", .float g t2), ("b", .float b t3)] X T ?k6 ?k7 (by omega) ?k9 ?kB ?c5 ?c2 ?c3 ?c4 ?_
  case k6 => k_is
  case k7 => k_is
  case k9 => exact BindsTo.of_eq rfl
  case kB => exact locs rfl
  case c5 => decide
  case c2 => exact rfl
  case c3 => exact rfl
  case c4 => exact rfl
  intro h1 F N
  generalize hq : hlsF r g b = out
  k_steps
  all_goals refine end_T3 (by assumption) (by assumption) ⟨_, rfl⟩ ?_
  all_goals subst hq
  all_goals simp only [hlsF, hueF, eqF, leF, *, if_true, Bool.false_eq_true, if_false]

example : True := by
 k_with_none
 trivial
end
section
noncomputable def Stop (P : Prop) : Prop := P
theorem stop {P : Prop} (h : Stop P) : P := h
theorem stop_ {P : Prop} (h : P) : Stop P := h

section
variable {prog : Program} {w : World} {A : Around} {E : Value → Shared → Prop} {s : Shared} {a : Addr} {items : Array Value} {h₀ : Heap} {L : Addr} {m : Str → Option Value}
theorem item_listM {value slice : Expr} {k : Int} {u : Tok} {v : Value} {Q : Value → Shared → Prop} (hl : s.heap.IsList a items)
    (h0 : 0 ≤ k) (hhi : k < 2 ^ 63) (hx : items[k.toNat]? = some v) (h : Q v s)
    (hs : subscripted slice false (.ref a) (.int k u) = operate [.ref a, .int k u] (getItem (.ref a) (.int k u)) := by with_unfolding_all rfl) :
    wpAny (model prog w) A (subscriptTail value slice (.ref a) (.int k u)) Q E s :=
  tail_any hl.typeIs slot_list_getitem.lookup (wpAny_getItem_list hl h0 hhi hx h) hs
end

theorem isList_keeps {h h' : Heap} {a : Addr} {items : Array Value} (x : h.IsList a items) (k : ∀ b o, h.get? b = some o → h'.get? b = some o) : h'.IsList a items := let ⟨o, ho, r⟩ := x; ⟨o, k a o ho, r⟩

/-- a list of pairs of whole numbers -/
noncomputable def Rows (h : Heap) (items : Array Value) (ds : List (Int × Int)) : Prop :=
  items.size = ds.length ∧ ∀ (i : Nat) (p : Int × Int), ds[i]? = some p → ∃ t t1 t2, items[i]? = some (.ref t) ∧ IsTup h t #[.int p.1 t1, .int p.2 t2]
theorem Rows.keeps {h h' : Heap} {items : Array Value} {ds : List (Int × Int)} (x : Rows h items ds) (k : ∀ b o, h.get? b = some o → h'.get? b = some o) : Rows h' items ds :=
  ⟨x.1, fun i p e => let ⟨t, t1, t2, h1, h2⟩ := x.2 i p e; ⟨t, t1, t2, h1, h2.keeps k⟩⟩

theorem num_c (prog : Program) (w : World) (A : Around) (s : Shared) (p : Program) (loose : List Str) (mg mb : Str → Option Value)
  (X : (hd.heap_1 w.params).In s.heap) (T : TopRead p loose mg mb s.heap) (hdp : A.depth + 3 < recursionLimit) (t : Addr) (v v' : Value) (ht : IsTup s.heap t #[v, v'])
  : codeAny (model prog w) A (.call (.ref 151) ⟨[.ref t], []⟩) (Back (fun x _ => x = v) s) s := by
  refine' enterP [("item", .ref t)] X T ?k6 ?k7 (by omega) ?k9 ?kB ?c5 ?c2 ?c3 ?c4 ?_
  case k6 => k_is
  case k7 => k_is
  case k9 => exact BindsTo.of_eq rfl
  case kB => exact locs rfl
  case c5 => decide
  case c2 => exact rfl
  case c3 => exact rfl
  case c4 => exact rfl
  intro h1 F N
  have ht1 := ht.keeps F.keep
  k_steps
  exact ⟨_, h1, _, rfl, rfl, F.keep, rfl⟩

/-- k parts ds at x: up to k the numbers are at most x, from k on above x -/
noncomputable def PosR (ds : List (Int × Int)) (x k : Int) : Prop := 0 ≤ k ∧ k ≤ (ds.length : Int) ∧ ∀ (i : Nat) (p : Int × Int), ds[i]? = some p → ((i : Int) < k ↔ p.1 ≤ x)
noncomputable def PosL (ds : List (Int × Int)) (x k : Int) : Prop := 0 ≤ k ∧ k ≤ (ds.length : Int) ∧ ∀ (i : Nat) (p : Int × Int), ds[i]? = some p → ((i : Int) < k ↔ p.1 < x)
noncomputable def Up (ds : List (Int × Int)) : Prop := ∀ (i j : Nat) (p q : Int × Int), i ≤ j → ds[i]? = some p → ds[j]? = some q → p.1 ≤ q.1

theorem num_call {prog : Program} {w : World} {A : Around} {s : Shared} {E : Value → Shared → Prop} {Q : Value → Shared → Prop} {h₀ : Heap} {L : Addr} {m : Str → Option Value} {news : List (Addr × Obj)} {p : Program} {loose : List Str} {mg mb : Str → Option Value} {t : Addr} {v v' : Value}
    (F : Fr h₀ L s.heap m) (N : News h₀ L s.heap news) (X : (hd.heap_1 w.params).In h₀) (T : TopRead p loose mg mb h₀) (hdp : A.depth + 3 < recursionLimit) (ht : IsTup s.heap t #[v, v'])
    (h : ∀ h' tk, Fr h₀ L h' m → News h₀ L h' news → Q v { s with heap := h', toks := tk }) : wpAny (model prog w) A (call (.ref 151) [.ref t] []) Q E s :=
  call_back F N (num_c prog w A s p loose mg mb (X.keeps F.keep) (T.keeps F.keep) hdp t v v' ht) fun _ h' tk F' N' e => e ▸ h h' tk F' N'

example : True := by
 k_with_none
 k_with "call builtin:len" => (((with_reducible show wpAny _ _ (call _ [Value.ref _]) _ _ _); refine len_list (by assumption) (by omega) ?_; try dsimp only))
 k_with "exec While Compare cons nil" => (refine stop ?_)
 k_with "subscriptTail Name Name ref int" => (refine stop ?_)
 k_with "call ref" => (((with_reducible show wpAny _ _ (call (Value.ref 151) _ _) _ _ _); k_dflt (refine' num_call ?zhF ?zhN ?zhX ?zhT ?zhd ?zht ?_; (case zhF => k_asm); (case zhN => k_asm); (case zhX => k_asm); (case zhT => k_asm); (case zht => assumption); (case zhd => (simp only [depth_deeper]; omega)); intro _ _ F' N')))
 k_with "eval Name" => ((k_here; k_dflt (refine' nameX_L ?zhF ?zhv ?_ ?zha ?zhb; (case zha => rfl); (case zhb => rfl); (case zhF => k_asm); (case zhv => assumption); k_whole)))
 trivial
theorem bisR_c (prog : Program) (w : World) (A : Around) (s : Shared) (p : Program) (loose : List Str) (mg mb : Str → Option Value)
  (X : (hd.heap_1 w.params).In s.heap) (T : TopRead p loose mg mb s.heap) (hdp : A.depth + 10 < recursionLimit) (a : Addr) (items : Array Value) (ds : List (Int × Int)) (x : Int) (tx tl : Tok)
  (hl : s.heap.IsList a items) (hr : Rows s.heap items ds) (hu : Up ds) (hsz : ds.length < 1000) (args : Args)
  (hb : ∀ oc od fd osl, (hd.heap_1 w.params).lookup 46 = some ⟨oc, od, .func fd, osl⟩ → BindsTo s fd args [("a", .ref a), ("x", .int x tx), ("lo", .int 0 tl), ("hi", .none), ("key", .ref 151)])
  : codeAny (model prog w) A (.call (.ref 46) args) (Back (fun v _ => ∃ k t, v = .int k t ∧ PosR ds x k) s) s := by
  refine' enterP [("a", .ref a), ("x", .int x tx), ("lo", .int 0 tl), ("hi", .none), ("key", .ref 151)] X T ?k6 ?k7 (by omega) ?k9 ?kB ?c5 ?c2 ?c3 ?c4 ?_
  case k6 => k_is
  case k7 => k_is
  case k9 => exact hb _ _ _ _ (by k_is)
  case kB => exact locs rfl
  case c5 => decide
  case c2 => exact rfl
  case c3 => exact rfl
  case c4 => exact rfl
  intro h1 F N
  have hl1 := isList_keeps hl F.keep
  have hsz1 := hr.1
  k_steps
  refine stop_ ?_
  refine While_inv (fun n m news => news = [] ∧ ∃ (lo hi : Int) (tl th : Tok), m "lo" = some (.int lo tl) ∧ m "hi" = some (.int hi th) ∧ m "a" = some (.ref a) ∧ m "x" = some (.int x tx) ∧ m "key" = some (.ref 151) ∧
    0 ≤ lo ∧ lo ≤ hi ∧ hi ≤ ds.length ∧ (∀ (i : Nat) (p : Int × Int), ds[i]? = some p → (i : Int) < lo → p.1 ≤ x) ∧ (∀ (i : Nat) (p : Int × Int), ds[i]? = some p → hi ≤ (i : Int) → x < p.1) ∧ n = (hi - lo).toNat)
    (by assumption) (by assumption) ⟨rfl, 0, items.size, tl, _, rfl, rfl, rfl, rfl, rfl, by omega, by omega, by omega, ?i1, ?i2, rfl⟩ ?_ PassesOwn.never
  case i1 => intro i p _ h; omega
  case i2 =>
    intro i p e h
    have := (List.getElem?_eq_some_iff.mp e).1
    omega
  rintro n m₁ news₁ h₁ tk₁ F₁ N₁ ⟨rfl, lo, hi, tl', th, e1, e2, e3, e4, e5, b1, b2, b3, q1, q2, rfl⟩
  have hl2 := isList_keeps hl F₁.keep
  k_steps
  · refine stop_ ?_
    dsimp only at *
    have hm : (lo + hi).fdiv 2 = (lo + hi) / 2 := Int.fdiv_eq_ediv_of_nonneg _ (by decide)
    generalize (lo + hi).fdiv 2 = mid at *
    have hm0 : lo ≤ mid := by omega
    have hm1 : mid < hi := by omega
    obtain ⟨t, t1, t2, hi1, hi2⟩ := hr.2 mid.toNat (ds[mid.toNat]'(by omega)) (by simp)
    rename Fr _ _ _ _ => F2
    have hl3 := isList_keeps hl F2.keep
    have ht3 := hi2.keeps F2.keep
    refine item_listM hl3 (by omega) (by omega) hi1 ?_
    k_steps
    · rename x < _ => hx
      refine WhileStep.intro (by assumption) (by assumption) (n' := (mid - lo).toNat) (by omega) ?_
      exact ⟨rfl, lo, mid, tl', _, e1, rfl, e3, e4, e5, by omega, by omega, by omega, q1,
        (fun i p hp hi => Int.lt_of_lt_of_le hx (hu mid.toNat i _ _ (by omega) (List.getElem?_eq_getElem (by omega)) hp)), rfl⟩
    · rename ¬ x < _ => hx
      refine WhileStep.intro (by assumption) (by assumption) (n' := (hi - (mid + 1)).toNat) (by omega) ?_
      exact ⟨rfl, mid + 1, hi, _, th, rfl, e2, e3, e4, e5, by omega, by omega, by omega,
        (fun i p hp hi => Int.le_trans (hu i mid.toNat _ _ (by omega) hp (List.getElem?_eq_getElem (by omega))) (by omega)), q2, rfl⟩
  · rename ¬ lo < hi => hx
    have e : lo = hi := by omega
    subst e
    refine ⟨_, h₁, _, rfl, rfl, F₁.keep, lo, tl', rfl, b1, b3, fun i p hp => ⟨q1 i p hp, fun hle => ?_⟩⟩
    apply Classical.byContradiction
    intro hn
    have := q2 i p hp (by omega)
    omega

theorem bisL_c (prog : Program) (w : World) (A : Around) (s : Shared) (p : Program) (loose : List Str) (mg mb : Str → Option Value)
  (X : (hd.heap_1 w.params).In s.heap) (T : TopRead p loose mg mb s.heap) (hdp : A.depth + 10 < recursionLimit) (a : Addr) (items : Array Value) (ds : List (Int × Int)) (x : Int) (tx tl : Tok)
  (hl : s.heap.IsList a items) (hr : Rows s.heap items ds) (hu : Up ds) (hsz : ds.length < 1000) (args : Args)
  (hb : ∀ oc od fd osl, (hd.heap_1 w.params).lookup 64 = some ⟨oc, od, .func fd, osl⟩ → BindsTo s fd args [("a", .ref a), ("x", .int x tx), ("lo", .int 0 tl), ("hi", .none), ("key", .ref 151)])
  : codeAny (model prog w) A (.call (.ref 64) args) (Back (fun v _ => ∃ k t, v = .int k t ∧ PosL ds x k) s) s := by
  refine' enterP [("a", .ref a), ("x", .int x tx), ("lo", .int 0 tl), ("hi", .none), ("key", .ref 151)] X T ?k6 ?k7 (by omega) ?k9 ?kB ?c5 ?c2 ?c3 ?c4 ?_
  case k6 => k_is
  case k7 => k_is
  case k9 => exact hb _ _ _ _ (by k_is)
  case kB => exact locs rfl
  case c5 => decide
  case c2 => exact rfl
  case c3 => exact rfl
  case c4 => exact rfl
  intro h1 F N
  have hl1 := isList_keeps hl F.keep
  have hsz1 := hr.1
  k_steps
  refine stop_ ?_
  refine While_inv (fun n m news => news = [] ∧ ∃ (lo hi : Int) (tl th : Tok), m "lo" = some (.int lo tl) ∧ m "hi" = some (.int hi th) ∧ m "a" = some (.ref a) ∧ m "x" = some (.int x tx) ∧ m "key" = some (.ref 151) ∧
    0 ≤ lo ∧ lo ≤ hi ∧ hi ≤ ds.length ∧ (∀ (i : Nat) (p : Int × Int), ds[i]? = some p → (i : Int) < lo → p.1 < x) ∧ (∀ (i : Nat) (p : Int × Int), ds[i]? = some p → hi ≤ (i : Int) → x ≤ p.1) ∧ n = (hi - lo).toNat)
    (by assumption) (by assumption) ⟨rfl, 0, items.size, tl, _, rfl, rfl, rfl, rfl, rfl, by omega, by omega, by omega, ?i1, ?i2, rfl⟩ ?_ PassesOwn.never
  case i1 => intro i p _ h; omega
  case i2 =>
    intro i p e h
    have := (List.getElem?_eq_some_iff.mp e).1
    omega
  rintro n m₁ news₁ h₁ tk₁ F₁ N₁ ⟨rfl, lo, hi, tl', th, e1, e2, e3, e4, e5, b1, b2, b3, q1, q2, rfl⟩
  have hl2 := isList_keeps hl F₁.keep
  k_steps
  · refine stop_ ?_
    dsimp only at *
    have hm : (lo + hi).fdiv 2 = (lo + hi) / 2 := Int.fdiv_eq_ediv_of_nonneg _ (by decide)
    generalize (lo + hi).fdiv 2 = mid at *
    have hm0 : lo ≤ mid := by omega
    have hm1 : mid < hi := by omega
    obtain ⟨t, t1, t2, hi1, hi2⟩ := hr.2 mid.toNat (ds[mid.toNat]'(by omega)) (by simp)
    rename Fr _ _ _ _ => F2
    have hl3 := isList_keeps hl F2.keep
    have ht3 := hi2.keeps F2.keep
    refine item_listM hl3 (by omega) (by omega) hi1 ?_
    k_steps
    · rename _ < x => hx
      refine WhileStep.intro (by assumption) (by assumption) (n' := (hi - (mid + 1)).toNat) (by omega) ?_
      exact ⟨rfl, mid + 1, hi, _, th, rfl, e2, e3, e4, e5, by omega, by omega, by omega,
        (fun i p hp hi => Int.lt_of_le_of_lt (hu i mid.toNat _ _ (by omega) hp (List.getElem?_eq_getElem (by omega))) hx), q2, rfl⟩
    · rename ¬ _ < x => hx
      refine WhileStep.intro (by assumption) (by assumption) (n' := (mid - lo).toNat) (by omega) ?_
      exact ⟨rfl, lo, mid, tl', _, e1, rfl, e3, e4, e5, by omega, by omega, by omega, q1,
        (fun i p hp hi => Int.le_trans (by omega) (hu mid.toNat i _ _ (by omega) (List.getElem?_eq_getElem (by omega)) hp)), rfl⟩
  · rename ¬ lo < hi => hx
    have e : lo = hi := by omega
    subst e
    refine ⟨_, h₁, _, rfl, rfl, F₁.keep, lo, tl', rfl, b1, b3, fun i p hp => ⟨q1 i p hp, fun hle => ?_⟩⟩
    apply Classical.byContradiction
    intro hn
    have := q2 i p hp (by omega)
    omega

example : True := by
 k_with_none
 trivial
end
section
noncomputable def BackBut (a : Addr) (P : Value → Heap → Prop) (s : Shared) (r : Result) (s' : Shared) : Prop := ∃ v h' tk, r = .ok (.ret v) ∧ s' = { s with heap := h', toks := tk } ∧ (∀ b o, b ≠ a → s.heap.get? b = some o → h'.get? b = some o) ∧ P v h'

theorem bindB {w : World} {s : Shared} {oc oc' : Value} {od od' : Option Addr} {fd fd' : FuncData} {osl osl' : Array (Option Value)} {f : Addr} {args : Args} {binds : List (Str × Value)} (h' : (hd.heap_1 w.params).lookup f = some ⟨oc', od', .func fd', osl'⟩) (hb : BindsTo s fd' args binds)
    (h : (hd.heap_1 w.params).lookup f = some ⟨oc, od, .func fd, osl⟩) : BindsTo s fd args binds := by
  rw [h'] at h
  cases h
  exact hb

example : True := by
 k_with_none
 k_with "call ref" => (((with_reducible show wpAny _ _ (call (Value.ref 151) _ _) _ _ _); k_dflt (refine' num_call ?zhF ?zhN ?zhX ?zhT ?zhd ?zht ?_; (case zhF => k_asm); (case zhN => k_asm); (case zhX => k_asm); (case zhT => k_asm); (case zht => assumption); (case zhd => (simp only [depth_deeper]; omega)); intro _ _ F' N')))
 k_with "call ref" => (((with_reducible show wpAny _ _ (call (Value.ref 46) _ _) _ _ _); refine stop ?_))
 k_with "call ref" => (((with_reducible show wpAny _ _ (call (Value.ref 64) _ _) _ _ _); refine stop ?_))
 k_with "call builtin:list.insert" => (refine stop ?_)
 trivial
theorem meth_list {prog : Program} {w : World} {A : Around} {E : Value → Shared → Prop} {s : Shared} {l : Addr} {its : Array Value} {n : Nat} {name : Str} {id : String} {pl : Sem Bool} {Q : Value × List Value → Shared → Prop} (hl : IsL s.heap l its n) (slot : Slot "list" name id) (hty : typeOf (.builtin id) = pure (.type "method_descriptor"))
    (h : Q (.builtin id, [.ref l]) s) : wpAny (model prog w) A (getMethod (.ref l) name pl) Q E s :=
  getMethod_builtin ⟨_, hl, rfl⟩ PySem.F.plainAttrs_list slot hty (fun a e => by cases e; exact ⟨_, hl, rfl⟩) h
theorem ins_list {prog : Program} {w : World} {A : Around} {E : Value → Shared → Prop} {s : Shared} {a : Addr} {li : List Value} {n : Nat} {x : Int} {u : Tok} {y : Value} {Q : Value → Shared → Prop}
    (hl : IsL s.heap a li.toArray n) (h0 : 0 ≤ x) (h1 : x ≤ li.length) (hz : li.length ≤ 1000)
    (h : ∀ h', IsL h' a (li.take x.toNat ++ y :: li.drop x.toNat).toArray (n + 1) → Heap.SameBut a s.heap h' → Q .none { s with heap := h' }) :
    wpAny (model prog w) A (call (.builtin "list.insert") [.ref a, .int x u, y]) Q E s := by
  have hsz : li.length ≤ sizeLine := by rw [sizeLine_eq]; omega
  refine call_meets PySem.F.slot_list_insert ⟨_, hl, rfl⟩ PySem.F.entry_list_insert (PySem.F.args_list_insert_3 _ _ _) (PySem.AutoSeq1.list_insert_list_int_val_1 a _ n x u y (by simp [Builtin.List.listFitsIndex]; omega) (by rw [List.size_toArray]; exact hsz)) ⟨hl, h _ ?_ (Heap.SameBut.update ..)⟩
  have q := PySem.IsL.update hl (fun xs => have k := if x < 0 then (x + (xs.size : Int)).toNat else min x.toNat xs.size; (xs.extract 0 k).push y ++ xs.extract k)
  have e : (li.toArray.extract 0 (if x < 0 then (x + (li.toArray.size : Int)).toNat else min x.toNat li.toArray.size)).push y ++ li.toArray.extract (if x < 0 then (x + (li.toArray.size : Int)).toNat else min x.toNat li.toArray.size) = (li.take x.toNat ++ y :: li.drop x.toNat).toArray := by
    rw [kl_ins_eq, if_neg (by omega), List.size_toArray, Nat.min_eq_left (by omega)]
  dsimp only at q
  rw [e, if_neg (by simp; omega)] at q
  exact q

example : True := by
 k_with "getMethod ref" => (refine stop ?_)
 trivial
theorem insR_c (prog : Program) (w : World) (A : Around) (s : Shared) (p : Program) (loose : List Str) (mg mb : Str → Option Value)
  (X : (hd.heap_1 w.params).In s.heap) (T : TopRead p loose mg mb s.heap) (hdp : A.depth + 20 < recursionLimit) (a t : Addr) (li : List Value) (ep : Nat) (ds : List (Int × Int)) (n j : Int) (t1 t2 : Tok)
  (hl : IsL s.heap a li.toArray ep) (hr : Rows s.heap li.toArray ds) (hu : Up ds) (hsz : ds.length < 1000) (ht : IsTup s.heap t #[.int n t1, .int j t2])
  : codeAny (model prog w) A (.call (.ref 37) ⟨[.ref a, .ref t], [("key", .ref 151)]⟩) (BackBut a (fun _ h' => ∃ k : Int, PosR ds n k ∧ IsL h' a (li.take k.toNat ++ .ref t :: li.drop k.toNat).toArray (ep + 1)) s) s := by
  refine' enterP [("a", .ref a), ("x", .ref t), ("lo", .int 0 212), ("hi", .none), ("key", .ref 151)] X T ?k6 ?k7 (by omega) ?k9 ?kB ?c5 ?c2 ?c3 ?c4 ?_
  case k6 => k_is
  case k7 => k_is
  case k9 => first | exact BindsTo.of_eq rfl | exact binds_K X rfl (by k_is) rfl rfl rfl
  case kB => exact locs rfl
  case c5 => decide
  case c2 => exact rfl
  case c3 => exact rfl
  case c4 => exact rfl
  intro h1 F N
  have hl1 := isList_keeps hl.isList F.keep
  have ht1 := ht.keeps F.keep
  have hsz1 := hr.1
  rw [List.size_toArray] at hsz1
  k_steps
  refine stop_ ?_
  rename Fr _ _ _ _ => F2
  rename News _ _ _ _ => N2
  refine call_back F2 N2 (bisR_c prog w _ _ p loose mg mb (X.keeps F2.keep) (T.keeps F2.keep) (by simp only [depth_deeper]; omega) a li.toArray ds n _ 212 (isList_keeps hl.isList F2.keep) (hr.keeps F2.keep) hu hsz _ (fun oc od fd osl e => by refine' bindB ?a ?b e; (case a => k_is); (case b => first | exact BindsTo.of_eq rfl | exact binds_K (X.keeps F2.keep) rfl (by k_is) rfl rfl rfl))) ?_
  rintro v h' tk F3 N3 ⟨k, tk', rfl, hk⟩
  k_steps
  refine stop_ ?_
  rename Fr _ _ _ _ => F4
  have hl4 : IsL _ a li.toArray ep := F4.keep _ _ hl
  refine meth_list hl4 PySem.F.slot_list_insert PySem.F.type_list_insert ?_
  k_steps
  refine stop_ ?_
  refine ins_list hl4 hk.1 (by have := hk.2.1; omega) (by omega) ?_
  intro h5 hl5 hs5
  k_steps
  exact ⟨_, h5, _, rfl, rfl, fun b o hb e => (hs5.2 b hb).trans (F4.keep b o e), k, hk, hl5⟩

theorem insL_c (prog : Program) (w : World) (A : Around) (s : Shared) (p : Program) (loose : List Str) (mg mb : Str → Option Value)
  (X : (hd.heap_1 w.params).In s.heap) (T : TopRead p loose mg mb s.heap) (hdp : A.depth + 20 < recursionLimit) (a t : Addr) (li : List Value) (ep : Nat) (ds : List (Int × Int)) (n j : Int) (t1 t2 : Tok)
  (hl : IsL s.heap a li.toArray ep) (hr : Rows s.heap li.toArray ds) (hu : Up ds) (hsz : ds.length < 1000) (ht : IsTup s.heap t #[.int n t1, .int j t2])
  : codeAny (model prog w) A (.call (.ref 55) ⟨[.ref a, .ref t], [("key", .ref 151)]⟩) (BackBut a (fun _ h' => ∃ k : Int, PosL ds n k ∧ IsL h' a (li.take k.toNat ++ .ref t :: li.drop k.toNat).toArray (ep + 1)) s) s := by
  refine' enterP [("a", .ref a), ("x", .ref t), ("lo", .int 0 239), ("hi", .none), ("key", .ref 151)] X T ?k6 ?k7 (by omega) ?k9 ?kB ?c5 ?c2 ?c3 ?c4 ?_
  case k6 => k_is
  case k7 => k_is
  case k9 => first | exact BindsTo.of_eq rfl | exact binds_K X rfl (by k_is) rfl rfl rfl
  case kB => exact locs rfl
  case c5 => decide
  case c2 => exact rfl
  case c3 => exact rfl
  case c4 => exact rfl
  intro h1 F N
  have hl1 := isList_keeps hl.isList F.keep
  have ht1 := ht.keeps F.keep
  have hsz1 := hr.1
  rw [List.size_toArray] at hsz1
  k_steps
  refine stop_ ?_
  rename Fr _ _ _ _ => F2
  rename News _ _ _ _ => N2
  refine call_back F2 N2 (bisL_c prog w _ _ p loose mg mb (X.keeps F2.keep) (T.keeps F2.keep) (by simp only [depth_deeper]; omega) a li.toArray ds n _ 239 (isList_keeps hl.isList F2.keep) (hr.keeps F2.keep) hu hsz _ (fun oc od fd osl e => by refine' bindB ?a ?b e; (case a => k_is); (case b => first | exact BindsTo.of_eq rfl | exact binds_K (X.keeps F2.keep) rfl (by k_is) rfl rfl rfl))) ?_
  rintro v h' tk F3 N3 ⟨k, tk', rfl, hk⟩
  k_steps
  refine stop_ ?_
  rename Fr _ _ _ _ => F4
  have hl4 : IsL _ a li.toArray ep := F4.keep _ _ hl
  refine meth_list hl4 PySem.F.slot_list_insert PySem.F.type_list_insert ?_
  k_steps
  refine stop_ ?_
  refine ins_list hl4 hk.1 (by have := hk.2.1; omega) (by omega) ?_
  intro h5 hl5 hs5
  k_steps
  exact ⟨_, h5, _, rfl, rfl, fun b o hb e => (hs5.2 b hb).trans (F4.keep b o e), k, hk, hl5⟩

example : True := by
 k_with_none
 trivial
end
section
noncomputable def TurnEnd (h₀ : Heap) (L I : Addr) (oI : Obj) (s : Shared) (J : Nat → (Str → Option Value) → List (Addr × Obj) → Prop) (i : Nat) (Q : Flow → Shared → Prop) (f : Flow) (s₃ : Shared) : Prop :=
  match f with
  | .brk => Q .next s₃
  | .ret v => Q (.ret v) s₃
  | _ => ∃ h' tk m₂ news₂ rest, s₃ = { s with heap := h', toks := tk } ∧ Fr h₀ L h' m₂ ∧ News h₀ L h' news₂ ∧ (I, oI) ∈ news₂ ∧ (∀ q ∈ rest, q ∈ news₂ ∧ q.1 ≠ I) ∧ J (i + 1) m₂ rest

theorem TurnEnd.next {h₀ : Heap} {L I : Addr} {oI : Obj} {s : Shared} {J : Nat → (Str → Option Value) → List (Addr × Obj) → Prop} {i : Nat} {Q : Flow → Shared → Prop} {h' : Heap} {tk : Nat} {m₂ : Str → Option Value} {news₂ rest : List (Addr × Obj)}
    (F : Fr h₀ L h' m₂) (N : News h₀ L h' news₂) (hI : (I, oI) ∈ news₂) (hr : ∀ q ∈ rest, q ∈ news₂ ∧ q.1 ≠ I) (hJ : J (i + 1) m₂ rest) : TurnEnd h₀ L I oI s J i Q .next { s with heap := h', toks := tk } :=
  ⟨h', tk, m₂, news₂, rest, rfl, F, N, hI, hr, hJ⟩

theorem TurnEnd.nextJ {h₀ : Heap} {L I : Addr} {oI : Obj} {s : Shared} {J : Nat → (Str → Option Value) → List (Addr × Obj) → Prop} {i : Nat} {Q : Flow → Shared → Prop} {h' : Heap} {tk : Nat} {m₂ : Str → Option Value} {news₂ : List (Addr × Obj)}
    (F : Fr h₀ L h' m₂) (N : News h₀ L h' news₂) (hI : (I, oI) ∈ news₂) (hJ : ∃ rest, J (i + 1) m₂ rest ∧ ∀ q ∈ rest, q ∈ news₂ ∧ q.1 ≠ I) : TurnEnd h₀ L I oI s J i Q .next { s with heap := h', toks := tk } :=
  let ⟨rest, h1, h2⟩ := hJ
  ⟨h', tk, m₂, news₂, rest, rfl, F, N, hI, h2, h1⟩

section
variable {prog : Program} {w : World} {A : Around} {E : Value → Shared → Prop} {s : Shared} {h₀ : Heap} {L : Addr} {env : Env} {Q : Flow → Shared → Prop}
theorem for_walk {x : Str} {px : Pos} {body : List Stmt} {I : Addr} {fp : List Addr} {n : Nat} {P : Nat → Value → Prop} {St : Nat → Heap → Prop} {m : Str → Option Value} {news : List (Addr × Obj)}
    (W : Walks prog w A I fp [I] n P St) (hx : env.kindOf x = some .local) (hloc : env.locals = L)
    (hp : (env.scope.kind == .class || (env.scope.kind == .module && env.locals != env.globals)) = false)
    (J : Nat → (Str → Option Value) → List (Addr × Obj) → Prop) (hfp : ∀ b ∈ fp, b = I ∨ (∃ o, h₀.get? b = some o) ∨ (∃ o, ∀ i m nw, J i m nw → (b, o) ∈ nw))
    (hI₀ : h₀.get? I = none) (hIL : I ≠ L) (hne : ∀ q ∈ news, q.1 ≠ I) (hst : St 0 s.heap) (hobj : ∀ i h, St i h → ∃ o, h.get? I = some o)
    (F : Fr h₀ L s.heap m) (N : News h₀ L s.heap news) (hJ : J 0 m news)
    (turn : ∀ i v m news h tk oI, i < n → P i v → J i m news → (∀ q ∈ news, q.1 ≠ I) → Fr h₀ L h (fun y => if y = x then some v else m y) → News h₀ L h ((I, oI) :: news) →
      wpAny (model prog w) A (execs body env) (TurnEnd h₀ L I oI s J i Q) E { s with heap := h, toks := tk })
    (done : ∀ m news h tk, J n m news → Fr h₀ L h m → News h₀ L h news → Q .next { s with heap := h, toks := tk })
    (hE : PassesOwn (model prog w) A env E := by passes_own) :
    codeAny (model prog w) A (.forLoop (.Name x px) (.ref I) body [] env) (fun r s' => match r with | .ok f => Q f s' | .error e => cameBackBy (model prog w) A env E e s') s := by
  subst hloc
  refine codeAny_forLoop (fun k s' => ∃ i h tk m news, s' = { s with heap := h, toks := tk } ∧ Fr h₀ env.locals h m ∧ News h₀ env.locals h news ∧ (∀ q ∈ news, q.1 ≠ I) ∧ St i h ∧ J i m news ∧ i ≤ n ∧ k = n + 1 - i) ?_ (n + 1)
    ⟨0, s.heap, s.toks, m, news, rfl, F, N, hne, hst, hJ, Nat.zero_le _, rfl⟩
  rintro k s' ⟨i, h, tk, m, news, rfl, F, N, hne, hst, hJ, hi, rfl⟩
  have stepF : ∀ {h' : Heap}, (∀ b o, b ∉ [I] → h.get? b = some o → h'.get? b = some o) → Fr h₀ env.locals h' m ∧ News h₀ env.locals h' news := fun {h'} hk => by
    refine ⟨⟨F.ns.at' fun o e => hk _ o (by simpa using Ne.symm hIL) e, fun b o e => hk b o (fun hm => ?_) (F.keep b o e), F.above⟩, fun q hq => ⟨hk _ _ (by simpa using hne q hq) (N q hq).1, (N q hq).2⟩⟩
    rw [List.mem_singleton.mp hm, hI₀] at e; cases e
  by_cases hlt : i < n
  · refine W.item i _ _ _ hlt hst fun v h₁ tk₁ hP hst₁ hk₁ => ?_
    obtain ⟨F₁, N₁⟩ := stepF hk₁
    obtain ⟨oI, hoI⟩ := hobj _ _ hst₁
    refine wpAny_assign_Name (wpAny_storeName_local hx F₁.ns (fun h₂ hn₂ hs₂ => ?_) hp)
    have F₂ := F₁.set hn₂ hs₂
    have N₂ : News h₀ env.locals h₂ ((I, oI) :: news) := fun q hq => by
      rcases List.mem_cons.mp hq with rfl | hq
      · exact ⟨(hs₂.2 _ hIL).trans hoI, hIL, hI₀⟩
      · exact N₁.set hs₂ q hq
    refine wpAny_mono (turn i v m news h₂ (tk₁ + 1) oI hlt hP hJ hne F₂ N₂) (fun f s₃ h₃ => ?_) hE
    have fin : (∃ h' tk m₂ news₂ rest, s₃ = { s with heap := h', toks := tk } ∧ Fr h₀ env.locals h' m₂ ∧ News h₀ env.locals h' news₂ ∧ (I, oI) ∈ news₂ ∧ (∀ q ∈ rest, q ∈ news₂ ∧ q.1 ≠ I) ∧ J (i + 1) m₂ rest) →
        ∃ k, k < n + 1 - i ∧ ∃ i h tk m news, s₃ = { s with heap := h, toks := tk } ∧ Fr h₀ env.locals h m ∧ News h₀ env.locals h news ∧ (∀ q ∈ news, q.1 ≠ I) ∧ St i h ∧ J i m news ∧ i ≤ n ∧ k = n + 1 - i := by
      rintro ⟨h₄, tk₃, m₃, news₃, rest, rfl, F₃, N₃, hI₃, hr, hJ₃⟩
      refine ⟨n + 1 - (i + 1), by omega, i + 1, h₄, tk₃, m₃, rest, rfl, F₃, fun q hq => N₃ q (hr q hq).1, fun q hq => (hr q hq).2, ?_, hJ₃, hlt, rfl⟩
      refine W.frame _ _ _ hst₁ fun b hb o e => ?_
      rcases hfp b hb with rfl | ⟨o', e'⟩ | ⟨o', e'⟩
      · rw [hoI] at e; cases e; exact (N₃ _ hI₃).1
      · have := F₁.keep _ _ e'
        rw [this] at e; cases e
        exact F₃.keep _ _ e'
      · have := (N₁ _ (e' _ _ _ hJ)).1
        rw [this] at e; cases e
        exact (N₃ _ (hr _ (e' _ _ _ hJ₃)).1).1
    cases f with
    | next => exact fin h₃
    | cont => exact fin h₃
    | brk => exact h₃
    | ret v => exact h₃
  · have hin : i = n := by omega
    subst hin
    refine W.done _ _ _ hst fun h₁ tk₁ hk₁ => wpAny_execs_nil ?_
    obtain ⟨F₁, N₁⟩ := stepF hk₁
    exact done m news h₁ tk₁ hJ F₁ N₁

/-- the loop over a range that the call has made -/
theorem for_range {x : Str} {px : Pos} {body : List Stmt} {r : Addr} {a b c : Int} {t u v : Tok} {n : Nat} {m : Str → Option Value} {news : List (Addr × Obj)}
    (F : Fr h₀ L s.heap m) (N : News h₀ L s.heap news) (hr : IsRange s.heap r a b c t u v) (hsm : Builtin.Range.small a b c = true) (hn : Builtin.Range.rangeSize a b c = (n : Int))
    (J : Nat → (Str → Option Value) → List (Addr × Obj) → Prop) (rest : List (Addr × Obj)) (hrest : ∀ q ∈ rest, q ∈ news) (hJ : J 0 m rest) (hh : A.handled = none) (hx : env.kindOf x = some .local) (hloc : env.locals = L)
    (hp : (env.scope.kind == .class || (env.scope.kind == .module && env.locals != env.globals)) = false)
    (turn : ∀ i m news h tk I oI tv, i < n → J i m news → (∀ q ∈ news, q.1 ≠ I) → Fr h₀ L h (fun y => if y = x then some (.int (a + i * c) tv) else m y) → News h₀ L h ((I, oI) :: news) →
      wpAny (model prog w) A (execs body env) (TurnEnd h₀ L I oI { s with heap := h } J i Q) E { s with heap := h, toks := tk })
    (done : ∀ m news h tk, J n m news → Fr h₀ L h m → News h₀ L h news → Q .next { s with heap := h, toks := tk })
    (hE : PassesOwn (model prog w) A env E := by passes_own) :
    wpAny (model prog w) A (pyIter (.ref r)) (fun it s₂ => codeAny (model prog w) A (.forLoop (.Name x px) it body [] env) (fun r s' => match r with | .ok f => Q f s' | .error e => cameBackBy (model prog w) A env E e s') s₂) E s := by
  refine wpAny_pyIter_range hr hsm ?_
  have up : ∀ (d : Addr) (o : Obj), s.heap.get? d = some o → (s.heap.push { cls := .type "range_iterator", data := .fields #[rawInt a, rawInt (Builtin.Range.rangeSize a b c), rawInt c] }).get? d = some o := fun d o e => Heap.get?_push_of_some _ e
  have hLlt := F.ns.lt
  refine for_walk (s := { s with heap := s.heap.push { cls := .type "range_iterator", data := .fields #[rawInt a, rawInt (Builtin.Range.rangeSize a b c), rawInt c] } }) (Walks.range hh _ a c n) hx hloc hp J (fun b hb => .inl (List.mem_singleton.mp hb)) ?_ (Nat.ne_of_gt hLlt) (fun q hq => Nat.ne_of_lt (Heap.lt_size (N q (hrest q hq)).1)) ?_
    (fun i h st => ⟨_, st⟩) (F.keeps up) (fun q hq => (N.grown up) q (hrest q hq)) hJ ?_ ?_ hE
  · cases q : h₀.get? s.heap.objs.size with
    | none => rfl
    | some o => exact absurd (Heap.lt_size (F.keep _ _ q)) (Nat.lt_irrefl _)
  · show IsRangeIter _ _ _ _ _
    rw [hn]
    simpa using Heap.get?_push_size s.heap (o := { cls := .type "range_iterator", data := .fields #[rawInt a, rawInt (n : Int), rawInt c] }) rfl
  · rintro i v m news h tk oI hi ⟨tv, rfl⟩ hJ hne F' N'
    exact turn i m news h tk _ oI tv hi hJ hne F' N'
  · intro m news h tk hJ F' N'
    exact done m news h tk hJ F' N'

theorem fresh_base (F : Fr h₀ L s.heap m) : h₀.get? s.heap.objs.size = none := by
  cases q : h₀.get? s.heap.objs.size with
  | none => rfl
  | some o => exact absurd (Heap.lt_size (F.keep _ _ q)) (Nat.lt_irrefl _)

theorem for_list {x : Str} {px : Pos} {body : List Stmt} {ax : Addr} {items : Array Value} {ob : Obj} {m : Str → Option Value} {news : List (Addr × Obj)}
    (F : Fr h₀ L s.heap m) (N : News h₀ L s.heap news) (hm : (ax, ob) ∈ news) (hcl : ob.cls = .type "list") (hdt : ∃ n, ob.data = .seq items n)
    (J : Nat → (Str → Option Value) → List (Addr × Obj) → Prop) (rest : List (Addr × Obj)) (hrest : ∀ q ∈ rest, q ∈ news) (hJm : ∀ i m nw, J i m nw → (ax, ob) ∈ nw) (hJ : J 0 m rest) (hh : A.handled = none) (hx : env.kindOf x = some .local) (hloc : env.locals = L)
    (hp : (env.scope.kind == .class || (env.scope.kind == .module && env.locals != env.globals)) = false)
    (turn : ∀ i m news h tk I oI v, items[i]? = some v → J i m news → (∀ q ∈ news, q.1 ≠ I) → Fr h₀ L h (fun y => if y = x then some v else m y) → News h₀ L h ((I, oI) :: news) →
      wpAny (model prog w) A (execs body env) (TurnEnd h₀ L I oI { s with heap := h } J i Q) E { s with heap := h, toks := tk })
    (done : ∀ m news h tk, J items.size m news → Fr h₀ L h m → News h₀ L h news → Q .next { s with heap := h, toks := tk })
    (hE : PassesOwn (model prog w) A env E := by passes_own) :
    wpAny (model prog w) A (pyIter (.ref ax)) (fun it s₂ => codeAny (model prog w) A (.forLoop (.Name x px) it body [] env) (fun r s' => match r with | .ok f => Q f s' | .error e => cameBackBy (model prog w) A env E e s') s₂) E s := by
  have hl : s.heap.IsList ax items := ⟨ob, (N _ hm).1, hcl, hdt⟩
  refine wpAny_pyIter_list hl ?_
  have up : ∀ (d : Addr) (o : Obj), s.heap.get? d = some o → (s.heap.push { cls := .type "list_iterator", data := .fields #[.ref ax, .int 0 0] }).get? d = some o := fun d o e => Heap.get?_push_of_some _ e
  have hLlt := F.ns.lt
  have hax : ax ≠ s.heap.objs.size := Nat.ne_of_lt (Heap.lt_size (N _ hm).1)
  refine for_walk (s := { s with heap := s.heap.push { cls := .type "list_iterator", data := .fields #[.ref ax, .int 0 0] } }) (Walks.list hh _ ax hax items) hx hloc hp J (fun b hb => ?_) (fresh_base F) (Nat.ne_of_gt hLlt) (fun q hq => Nat.ne_of_lt (Heap.lt_size (N q (hrest q hq)).1)) ?_
    (fun i h st => let ⟨o, e, _⟩ := st.1; ⟨o, e⟩) (F.keeps up) (fun q hq => (N.grown up) q (hrest q hq)) hJ ?_ ?_ hE
  · rcases List.mem_cons.mp hb with rfl | hb
    · exact .inl rfl
    · rw [List.mem_singleton.mp hb]
      exact .inr (.inr ⟨ob, hJm⟩)
  · exact ⟨⟨_, Heap.get?_push_size _ rfl, rfl, rfl⟩, hl.push _⟩
  · rintro i v m news h tk oI hi hv hJ hne F' N'
    exact turn i m news h tk _ oI v hv hJ hne F' N'
  · intro m news h tk hJ F' N'
    exact done m news h tk hJ F' N'

theorem for_str {x : Str} {px : Pos} {body : List Stmt} {X : Str} {tX : Tok} {m : Str → Option Value} {news : List (Addr × Obj)}
    (F : Fr h₀ L s.heap m) (N : News h₀ L s.heap news)
    (J : Nat → (Str → Option Value) → List (Addr × Obj) → Prop) (rest : List (Addr × Obj)) (hrest : ∀ q ∈ rest, q ∈ news) (hJ : J 0 m rest) (hh : A.handled = none) (hx : env.kindOf x = some .local) (hloc : env.locals = L)
    (hp : (env.scope.kind == .class || (env.scope.kind == .module && env.locals != env.globals)) = false)
    (turn : ∀ i m news h tk I oI c u, X.cps[i]? = some c → J i m news → (∀ q ∈ news, q.1 ≠ I) → Fr h₀ L h (fun y => if y = x then some (.str ⟨#[c]⟩ u) else m y) → News h₀ L h ((I, oI) :: news) →
      wpAny (model prog w) A (execs body env) (TurnEnd h₀ L I oI { s with heap := h } J i Q) E { s with heap := h, toks := tk })
    (done : ∀ m news h tk, J X.cps.size m news → Fr h₀ L h m → News h₀ L h news → Q .next { s with heap := h, toks := tk })
    (hE : PassesOwn (model prog w) A env E := by passes_own) :
    wpAny (model prog w) A (pyIter (.str X tX)) (fun it s₂ => codeAny (model prog w) A (.forLoop (.Name x px) it body [] env) (fun r s' => match r with | .ok f => Q f s' | .error e => cameBackBy (model prog w) A env E e s') s₂) E s := by
  have core : ∀ (o : Obj) (St : Nat → Heap → Prop), Walks prog w A s.heap.objs.size [s.heap.objs.size] [s.heap.objs.size] X.cps.size (SignAt X) St → St 0 (s.heap.push o) → (∀ i h, St i h → ∃ o, h.get? s.heap.objs.size = some o) →
      codeAny (model prog w) A (.forLoop (.Name x px) (.ref s.heap.objs.size) body [] env) (fun r s' => match r with | .ok f => Q f s' | .error e => cameBackBy (model prog w) A env E e s') { s with heap := s.heap.push o } := by
    intro o St W hst hobj
    have up : ∀ (d : Addr) (o' : Obj), s.heap.get? d = some o' → (s.heap.push o).get? d = some o' := fun d o e => Heap.get?_push_of_some _ e
    refine for_walk (s := { s with heap := s.heap.push o }) W hx hloc hp J (fun b hb => .inl (List.mem_singleton.mp hb)) (fresh_base F) (Nat.ne_of_gt F.ns.lt) (fun q hq => Nat.ne_of_lt (Heap.lt_size (N q (hrest q hq)).1)) hst hobj (F.keeps up) (fun q hq => (N.grown up) q (hrest q hq)) hJ ?_ ?_ hE
    · rintro i v m news h tk oI hi ⟨c, u, hc, rfl⟩ hJ hne F' N'
      exact turn i m news h tk _ oI c u hc hJ hne F' N'
    · intro m news h tk hJ F' N'
      exact done m news h tk hJ F' N'
  cases ha : X.cps.all (· < 128)
  · exact wpAny_pyIter_wide ha (core _ _ (Walks.strWide hh _ X tX) ⟨_, Heap.get?_push_size _ rfl, rfl, rfl⟩ (fun i h st => let ⟨o, e, _⟩ := st; ⟨o, e⟩))
  · exact wpAny_pyIter_ascii ha (core _ _ (Walks.strAscii hh _ X tX) ⟨_, Heap.get?_push_size _ rfl, rfl, rfl⟩ (fun i h st => let ⟨o, e, _⟩ := st; ⟨o, e⟩))

theorem for_walkA {target : Expr} {body : List Stmt} {I : Addr} {fp : List Addr} {n : Nat} {P : Nat → Value → Prop} {St : Nat → Heap → Prop} {m : Str → Option Value} {news : List (Addr × Obj)}
    (W : Walks prog w A I fp [I] n P St)
    (J : Nat → (Str → Option Value) → List (Addr × Obj) → Prop) (hfp : ∀ b ∈ fp, b = I ∨ (∃ o, h₀.get? b = some o) ∨ (∃ o, ∀ i m nw, J i m nw → (b, o) ∈ nw))
    (ht : 0 < s.toks) (hI₀ : h₀.get? I = none) (hIL : I ≠ L) (hne : ∀ q ∈ news, q.1 ≠ I) (hst : St 0 s.heap) (hobj : ∀ i h, St i h → ∃ o, h.get? I = some o)
    (F : Fr h₀ L s.heap m) (N : News h₀ L s.heap news) (hJ : J 0 m news)
    (turn : ∀ i v m news h tk oI, i < n → 0 < tk → P i v → J i m news → (∀ q ∈ news, q.1 ≠ I) → Fr h₀ L h m → News h₀ L h ((I, oI) :: news) →
      wpAny (model prog w) A (assign target env v) (fun _ s₂ => wpAny (model prog w) A (execs body env) (TurnEnd h₀ L I oI s J i Q) E s₂) E { s with heap := h, toks := tk })
    (done : ∀ m news h tk, 0 < tk → J n m news → Fr h₀ L h m → News h₀ L h news → Q .next { s with heap := h, toks := tk })
    (hE : PassesOwn (model prog w) A env E := by passes_own) (hot : ∀ v, letOwnedTupleGo target (.ref I) v = pure () := by intro _; rfl) :
    codeAny (model prog w) A (.forLoop target (.ref I) body [] env) (fun r s' => match r with | .ok f => Q f s' | .error e => cameBackBy (model prog w) A env E e s') s := by
  refine codeAny_forLoop (fun k s' => ∃ i h tk m news, s' = { s with heap := h, toks := tk } ∧ Fr h₀ L h m ∧ News h₀ L h news ∧ (∀ q ∈ news, q.1 ≠ I) ∧ St i h ∧ J i m news ∧ i ≤ n ∧ k = n + 1 - i ∧ 0 < tk) ?_ (n + 1)
    ⟨0, s.heap, s.toks, m, news, rfl, F, N, hne, hst, hJ, Nat.zero_le _, rfl, ht⟩ hot
  rintro k s' ⟨i, h, tk, m, news, rfl, F, N, hne, hst, hJ, hi, rfl, htk⟩
  have stepF : ∀ {h' : Heap}, (∀ b o, b ∉ [I] → h.get? b = some o → h'.get? b = some o) → Fr h₀ L h' m ∧ News h₀ L h' news := fun {h'} hk => by
    refine ⟨⟨F.ns.at' fun o e => hk _ o (by simpa using Ne.symm hIL) e, fun b o e => hk b o (fun hm => ?_) (F.keep b o e), F.above⟩, fun q hq => ⟨hk _ _ (by simpa using hne q hq) (N q hq).1, (N q hq).2⟩⟩
    rw [List.mem_singleton.mp hm, hI₀] at e; cases e
  by_cases hlt : i < n
  · refine wpAny_with_toks (n := 1) htk (W.item i _ _ _ hlt hst fun v h₁ tk₁ hP hst₁ hk₁ htk₁ => ?_)
    obtain ⟨F₁, N₁⟩ := stepF hk₁
    obtain ⟨oI, hoI⟩ := hobj _ _ hst₁
    have N₂ : News h₀ L h₁ ((I, oI) :: news) := fun q hq => by
      rcases List.mem_cons.mp hq with rfl | hq
      · exact ⟨hoI, hIL, hI₀⟩
      · exact N₁ q hq
    refine wpAny_with_toks (n := 1) htk₁ (wpAny_mono (turn i v m news h₁ tk₁ oI hlt htk₁ hP hJ hne F₁ N₂) (fun _ s₂ h₂ htk₂ => wpAny_with_toks (n := 1) htk₂ (wpAny_mono h₂ (fun f s₃ h₃ htk₃ => ?_) (fun e s he _ => hE e s he))) (fun e s he _ => hE e s he))
    have fin : (∃ h' tk m₂ news₂ rest, s₃ = { s with heap := h', toks := tk } ∧ Fr h₀ L h' m₂ ∧ News h₀ L h' news₂ ∧ (I, oI) ∈ news₂ ∧ (∀ q ∈ rest, q ∈ news₂ ∧ q.1 ≠ I) ∧ J (i + 1) m₂ rest) →
        ∃ k, k < n + 1 - i ∧ ∃ i h tk m news, s₃ = { s with heap := h, toks := tk } ∧ Fr h₀ L h m ∧ News h₀ L h news ∧ (∀ q ∈ news, q.1 ≠ I) ∧ St i h ∧ J i m news ∧ i ≤ n ∧ k = n + 1 - i ∧ 0 < tk := by
      rintro ⟨h₄, tk₃, m₃, news₃, rest, rfl, F₃, N₃, hI₃, hr, hJ₃⟩
      refine ⟨n + 1 - (i + 1), by omega, i + 1, h₄, tk₃, m₃, rest, rfl, F₃, fun q hq => N₃ q (hr q hq).1, fun q hq => (hr q hq).2, ?_, hJ₃, hlt, rfl, htk₃⟩
      refine W.frame _ _ _ hst₁ fun b hb o e => ?_
      rcases hfp b hb with rfl | ⟨o', e'⟩ | ⟨o', e'⟩
      · rw [hoI] at e; cases e; exact (N₃ _ hI₃).1
      · have := F₁.keep _ _ e'
        rw [this] at e; cases e
        exact F₃.keep _ _ e'
      · have := (N₁ _ (e' _ _ _ hJ)).1
        rw [this] at e; cases e
        exact (N₃ _ (hr _ (e' _ _ _ hJ₃)).1).1
    cases f with
    | next => exact fin h₃
    | cont => exact fin h₃
    | brk => exact h₃
    | ret v => exact h₃
  · have hin : i = n := by omega
    subst hin
    refine wpAny_with_toks (n := 1) htk (W.done _ _ _ hst fun h₁ tk₁ hk₁ htk₁ => wpAny_execs_nil ?_)
    obtain ⟨F₁, N₁⟩ := stepF hk₁
    exact done m news h₁ tk₁ htk₁ hJ F₁ N₁

/-- the loop over a range, the store of its letter left to the walk -/
theorem for_rangeA {x : Str} {px : Pos} {body : List Stmt} {r : Addr} {a b c : Int} {t u v : Tok} {n : Nat} {m : Str → Option Value} {news : List (Addr × Obj)}
    (F : Fr h₀ L s.heap m) (N : News h₀ L s.heap news) (hr : IsRange s.heap r a b c t u v) (hsm : Builtin.Range.small a b c = true) (hn : Builtin.Range.rangeSize a b c = (n : Int))
    (J : Nat → (Str → Option Value) → List (Addr × Obj) → Prop) (rest : List (Addr × Obj)) (hrest : ∀ q ∈ rest, q ∈ news) (hJ : J 0 m rest) (hh : A.handled = none) (ht : 0 < s.toks)
    (turn : ∀ i m news h tk I oI tv, i < n → 0 < tk → J i m news → (∀ q ∈ news, q.1 ≠ I) → Fr h₀ L h m → News h₀ L h ((I, oI) :: news) →
      wpAny (model prog w) A (assign (.Name x px) env (.int (a + i * c) tv)) (fun _ s₂ => wpAny (model prog w) A (execs body env) (TurnEnd h₀ L I oI { s with heap := h } J i Q) E s₂) E { s with heap := h, toks := tk })
    (done : ∀ m news h tk, 0 < tk → J n m news → Fr h₀ L h m → News h₀ L h news → Q .next { s with heap := h, toks := tk })
    (hE : PassesOwn (model prog w) A env E := by passes_own) :
    wpAny (model prog w) A (pyIter (.ref r)) (fun it s₂ => codeAny (model prog w) A (.forLoop (.Name x px) it body [] env) (fun r s' => match r with | .ok f => Q f s' | .error e => cameBackBy (model prog w) A env E e s') s₂) E s := by
  refine wpAny_pyIter_range hr hsm ?_
  have up : ∀ (d : Addr) (o : Obj), s.heap.get? d = some o → (s.heap.push { cls := .type "range_iterator", data := .fields #[rawInt a, rawInt (Builtin.Range.rangeSize a b c), rawInt c] }).get? d = some o := fun d o e => Heap.get?_push_of_some _ e
  have hLlt := F.ns.lt
  refine for_walkA (s := { s with heap := s.heap.push { cls := .type "range_iterator", data := .fields #[rawInt a, rawInt (Builtin.Range.rangeSize a b c), rawInt c] } }) (Walks.range hh _ a c n) J (fun b hb => .inl (List.mem_singleton.mp hb)) ht (fresh_base F) (Nat.ne_of_gt hLlt) (fun q hq => Nat.ne_of_lt (Heap.lt_size (N q (hrest q hq)).1)) ?_
    (fun i h st => ⟨_, st⟩) (F.keeps up) (fun q hq => (N.grown up) q (hrest q hq)) hJ ?_ ?_ hE
  · show IsRangeIter _ _ _ _ _
    rw [hn]
    simpa using Heap.get?_push_size s.heap (o := { cls := .type "range_iterator", data := .fields #[rawInt a, rawInt (n : Int), rawInt c] }) rfl
  · rintro i v m news h tk oI hi htk ⟨tv, rfl⟩ hJ hne F' N'
    exact turn i m news h tk _ oI tv hi htk hJ hne F' N'
  · intro m news h tk htk hJ F' N'
    exact done m news h tk htk hJ F' N'

theorem for_rangeB {x : Str} {px : Pos} {body : List Stmt} {r : Addr} {a b c : Int} {t u v : Tok} {n : Nat} {m : Str → Option Value} {news : List (Addr × Obj)}
    (F : Fr h₀ L s.heap m) (N : News h₀ L s.heap news) (hr : IsRange s.heap r a b c t u v) (hsm : Builtin.Range.small a b c = true) (hn : Builtin.Range.rangeSize a b c = (n : Int))
    (J : Nat → (Str → Option Value) → List (Addr × Obj) → Prop) (hJ : ∃ rest, J 0 m rest ∧ ∀ q ∈ rest, q ∈ news) (hh : A.handled = none) (ht : 0 < s.toks)
    (turn : ∀ i m news h tk I oI tv, i < n → 0 < tk → J i m news → (∀ q ∈ news, q.1 ≠ I) → Fr h₀ L h m → News h₀ L h ((I, oI) :: news) →
      wpAny (model prog w) A (assign (.Name x px) env (.int (a + i * c) tv)) (fun _ s₂ => wpAny (model prog w) A (execs body env) (TurnEnd h₀ L I oI { s with heap := h } J i Q) E s₂) E { s with heap := h, toks := tk })
    (done : ∀ m news h tk, 0 < tk → J n m news → Fr h₀ L h m → News h₀ L h news → Q .next { s with heap := h, toks := tk })
    (hE : PassesOwn (model prog w) A env E := by passes_own) :
    wpAny (model prog w) A (pyIter (.ref r)) (fun it s₂ => codeAny (model prog w) A (.forLoop (.Name x px) it body [] env) (fun r s' => match r with | .ok f => Q f s' | .error e => cameBackBy (model prog w) A env E e s') s₂) E s :=
  let ⟨rest, h1, h2⟩ := hJ
  for_rangeA F N hr hsm hn J rest h2 h1 hh ht turn done hE
end
end
section
noncomputable def CompOut (h₀ : Heap) (L : Addr) (hp : Heap) (gn : Array GenState) (dr : Drawn) (ost : OsState) (m : Str → Option Value) (news : List (Addr × Obj)) (p : Value → Bool) (G : Value → Value → Prop) (n : Nat) (P : Nat → Value → Prop) (Q : Value → Shared → Prop) : Prop :=
  ∀ D h' tk ep ys (vs : List Value), Fr h₀ L h' m → News h₀ L h' ((D, W.listOf ys ep) :: news) → (∀ b o, hp.get? b = some o → h'.get? b = some o) → (∀ q ∈ news, q.1 ≠ D) → vs.length = n → (∀ j v, vs[j]? = some v → P j v) → Paired G (vs.filter p) ys.toList →
        Q (.ref D) ⟨h', gn, dr, tk, ost⟩
section
variable {prog : Program} {w : World} {A : Around} {E : Value → Shared → Prop} {hp : Heap} {gn : Array GenState} {dr : Drawn} {tk0 : Nat} {ost : OsState} {h₀ : Heap} {L : Addr} {env : Env} {m : Str → Option Value} {news : List (Addr × Obj)}

/-- a comprehension of one clause, in the frame's words -/
theorem comp_FN {elt iter : Expr} {x : Str} {px : Pos} {ifs : List Expr} {scope : Scope} {cl : List (Str × Addr)} {pos : Pos} {Q : Value → Shared → Prop} (p : Value → Bool) (G : Value → Value → Prop)
    (F : Fr h₀ L hp m) (N : News h₀ L hp news) (hclos : closureFor scope env = pure cl) (hcell : ∀ y ∈ scope.names, y.2 ≠ .cell) (hkind : scope.kind = .function)
    (hnames : ∀ y ∈ scope.names, y.2 = .local → scope.names.lookup y.1 = some .local) (hx : scope.names.lookup x = some .local)
    (h : wpAny (model prog w) A (eval iter env) (fun xv s₁ => wpAny (model prog w) A (pyIter xv) (fun it s₂ => ∃ I fp n P St, it = .ref I ∧ Walks prog w A I fp [I] n P St ∧ n ≤ sizeLine ∧ St 0 s₂.heap ∧ (∀ b ∈ fp, b < s₂.heap.objs.size) ∧
      hp.get? I = none ∧ (∀ b o, hp.get? b = some o → s₂.heap.get? b = some o) ∧ (∃ hh tt, s₂ = ⟨hh, gn, dr, tt, ost⟩) ∧ QuietOnC prog w A env scope cl x ifs elt [I] P p G s₂ ∧
      CompOut h₀ L hp gn dr ost m news p G n P Q) E s₁) E ⟨hp, gn, dr, tk0, ost⟩)
    (hs : ∀ x, foldedSetIterable iter env x = pure x := by intro _; rfl) :
    wpAny (model prog w) A (eval (.ListComp elt [⟨.Name x px, iter, ifs, 0⟩] scope pos) env) Q E ⟨hp, gn, dr, tk0, ost⟩ := by
  refine wpAny_ListComp_free p G hclos hcell hkind hnames hx (wpAny_mono h (fun xv s₁ h₁ => wpAny_mono h₁ (fun it s₂ h₂ => ?_) fun _ _ e => e) fun _ _ e => e) hs
  obtain ⟨I, fp, n, P, St, rfl, W, hn, hst, hfp, hI, hk, ⟨hh, tt, rfl⟩, hq, hQ⟩ := h₂
  refine ⟨I, fp, [I], n, P, St, rfl, W, hn, hst, hfp, hq, fun D h' tk ys vs hD hl hpl hlen hP hpair hk' => ?_⟩
  have up : ∀ b o, hp.get? b = some o → h'.get? b = some o := fun b o e => hk' b o (fun hb => by rw [List.mem_singleton.mp hb, hI] at e; cases e) (hk b o e)
  obtain ⟨ep, hep⟩ := hpl
  have hDs : hp.get? D = none := by
    cases q : hp.get? D with
    | none => rfl
    | some o => rw [hk _ _ q] at hD; cases hD
  refine hQ D h' tk ep ys vs (F.grownK up) (fun q hq => ?_) up (fun q hq e => ?_) hlen hP hpair
  · rcases List.mem_cons.mp hq with rfl | hq
    · refine ⟨hep, fun e => ?_, ?_⟩
      · obtain ⟨oL, _, _, e1, _⟩ := F.ns
        rw [← e, hDs] at e1; cases e1
      · cases q : h₀.get? D with
        | none => rfl
        | some o => rw [F.keep _ _ q] at hDs; cases hDs
    · exact (N.grown up) q hq
  · have := (N q hq).1
    rw [e, hDs] at this; cases this

theorem toks_of {a c : Int} (vs : List Value) (h : ∀ (j : Nat) v, vs[j]? = some v → ∃ t, v = .int (a + j * c) t) : ∃ ts : List Tok, vs.length = ts.length ∧ vs = ts.mapIdx fun i tk => Value.int (a + i * c) tk := by
  refine ⟨vs.map fun v => match v with | .int _ t => t | _ => 0, by simp, ?_⟩
  apply List.ext_getElem?
  intro j
  rw [List.getElem?_mapIdx, List.getElem?_map]
  cases e : vs[j]? with
  | none => rfl
  | some v =>
    obtain ⟨t, rfl⟩ := h j v e
    rfl
theorem quiet_one {c : Expr} {env' : Env} {b : Bool} {s₃ : Shared} (h : wpAny (model prog w) A (isTrue c env' (eval c env')) (fun ok s₄ => ok = b ∧ Keeps s₃ s₄) E s₃) :
    wpAny (model prog w) A (forIn [c] true fun c r => if r = true then do let ok ← isTrue c env' (eval c env'); pure (ForInStep.yield ok) else pure (ForInStep.yield r)) (fun ok s₄ => ok = b ∧ Keeps s₃ s₄) E s₃ := by
  rw [List.forIn_cons]
  simp only [if_true]
  refine wpAny_bind (wpAny_bind (wpAny_mono h (fun ok s₄ h₄ => wpAny_pure ?_) fun _ _ e => e))
  exact wpAny_pure h₄
theorem quiet_none {env' : Env} {s₃ : Shared} :
    wpAny (model prog w) A (forIn ([] : List Expr) true fun c r => if r = true then do let ok ← isTrue c env' (eval c env'); pure (ForInStep.yield ok) else pure (ForInStep.yield r)) (fun ok s₄ => ok = true ∧ Keeps s₃ s₄) E s₃ :=
  wpAny_pure ⟨rfl, _, _, rfl, fun _ _ e => e⟩

/-- the end of the clause over a range -/
theorem comp_range {elt : Expr} {x : Str} {ifs : List Expr} {scope : Scope} {cl : List (Str × Addr)} {Q : Value → Shared → Prop} {p : Value → Bool} {G : Value → Value → Prop} {s₁ : Shared} {r : Addr} {a b c : Int} {t u v : Tok} {n : Nat}
    (hh : A.handled = none) (hs₁ : ∃ h1 t1, s₁ = ⟨h1, gn, dr, t1, ost⟩) (hk : ∀ b o, hp.get? b = some o → s₁.heap.get? b = some o) (hr : IsRange s₁.heap r a b c t u v) (hsm : Builtin.Range.small a b c = true) (hn : Builtin.Range.rangeSize a b c = (n : Int)) (hnz : n ≤ 100000)
    (htest : ∀ C (i : Nat) tv s₃ m₃ E', i < n → s₃.heap.Ns C m₃ → m₃ x = some (.int (a + i * c) tv) → (∀ b o, hp.get? b = some o → s₃.heap.get? b = some o) →
      wpAny (model prog w) A (forIn ifs true fun c r => if r = true then do let ok ← isTrue c (compEnvC scope cl C env) (eval c (compEnvC scope cl C env)); pure (ForInStep.yield ok) else pure (ForInStep.yield r)) (fun ok s₄ => ok = p (.int (a + i * c) tv) ∧ Keeps s₃ s₄) E' s₃)
    (helt : ∀ C (i : Nat) tv s₃ m₃ E', i < n → s₁.toks ≤ s₃.toks → p (.int (a + i * c) tv) = true → s₃.heap.Ns C m₃ → m₃ x = some (.int (a + i * c) tv) → (∀ b o, hp.get? b = some o → s₃.heap.get? b = some o) →
      wpAny (model prog w) A (eval elt (compEnvC scope cl C env)) (fun y s₄ => G (.int (a + i * c) tv) y ∧ Keeps s₃ s₄) E' s₃)
    (hQ : ∀ D h' tk ep ys (ts : List Tok), ts.length = n → Fr h₀ L h' m → News h₀ L h' ((D, W.listOf ys ep) :: news) → (∀ b o, hp.get? b = some o → h'.get? b = some o) → (∀ q ∈ news, q.1 ≠ D) →
      Paired G ((ts.mapIdx fun i tk => Value.int (a + i * c) tk).filter p) ys.toList → Q (.ref D) ⟨h', gn, dr, tk, ost⟩) :
    wpAny (model prog w) A (pyIter (.ref r)) (fun it s₂ => ∃ I fp n P St, it = .ref I ∧ Walks prog w A I fp [I] n P St ∧ n ≤ sizeLine ∧ St 0 s₂.heap ∧ (∀ b ∈ fp, b < s₂.heap.objs.size) ∧
      hp.get? I = none ∧ (∀ b o, hp.get? b = some o → s₂.heap.get? b = some o) ∧ (∃ hh tt, s₂ = ⟨hh, gn, dr, tt, ost⟩) ∧ QuietOnC prog w A env scope cl x ifs elt [I] P p G s₂ ∧
      CompOut h₀ L hp gn dr ost m news p G n P Q) E s₁ := by
  obtain ⟨h1, t1, rfl⟩ := hs₁
  refine wpAny_pyIter_range hr hsm ?_
  have up : ∀ (d : Addr) (o : Obj), h1.get? d = some o → (h1.push { cls := .type "range_iterator", data := .fields #[rawInt a, rawInt (Builtin.Range.rangeSize a b c), rawInt c] }).get? d = some o := fun d o e => Heap.get?_push_of_some _ e
  have hI : hp.get? h1.objs.size = none := by
    cases q : hp.get? h1.objs.size with
    | none => rfl
    | some o => exact absurd (Heap.lt_size (hk _ _ q)) (Nat.lt_irrefl _)
  refine ⟨h1.objs.size, [h1.objs.size], n, fun i v => i < n ∧ ∃ t, v = .int (a + i * c) t, _, rfl, (Walks.range hh _ a c n).bound, by rw [sizeLine_eq]; omega, ?_, ?_, hI, fun b o e => up b o (hk b o e), ⟨_, _, rfl⟩, ⟨?_, ?_⟩, ?_⟩
  · show IsRangeIter _ _ _ _ _
    rw [hn]
    simpa using Heap.get?_push_size h1 (o := { cls := .type "range_iterator", data := .fields #[rawInt a, rawInt (n : Int), rawInt c] }) rfl
  · intro b hb
    rw [List.mem_singleton.mp hb]
    show h1.objs.size < (h1.push _).objs.size
    rw [Heap.size_push]; exact Nat.lt_succ_self _
  · rintro C i v s₃ m₃ E' _ ⟨hi, tv, rfl⟩ hn hm hkk _
    exact htest C i tv s₃ m₃ E' hi hn hm fun b o e => hkk b o (fun hb => by rw [List.mem_singleton.mp hb, hI] at e; cases e) (up b o (hk b o e))
  · rintro C i v s₃ m₃ E' _ ⟨hi, tv, rfl⟩ hp hn hm hkk htt
    exact helt C i tv s₃ m₃ E' hi htt hp hn hm fun b o e => hkk b o (fun hb => by rw [List.mem_singleton.mp hb, hI] at e; cases e) (up b o (hk b o e))
  · intro D h' tk ep ys vs F' N' up' hne hlen hP hpair
    obtain ⟨ts, h1, h2⟩ := toks_of (a := a) (c := c) vs (fun j v e => (hP j v e).2)
    refine hQ D h' tk ep ys ts (by rw [← hlen, ← h1]) F' N' up' hne ?_
    rw [h2] at hpair
    exact hpair
end
end
section
-- needs L2
section
variable {prog : Program} {w : World} {A : Around} {E : Value → Shared → Prop} {s : Shared}
theorem booked {P : Params} {h : Heap} (X : (hd.heap_1 P).In h) (hl : h.NoLimit) : NoneBooked h := by
  obtain ⟨mc, hns, _⟩ := hl
  refine ⟨mc, hns, ?_⟩
  obtain ⟨o, es, ep, ho, hd', hk, hf⟩ := hns
  rw [← hf]
  have e := X 2 _ rfl
  rw [show cStatics = 2 from rfl, e] at ho
  cases ho
  cases hd'
  kernel_rfl
theorem bookedF {P : Params} {h₀ h : Heap} {L : Addr} {m : Str → Option Value} {p : Program} {loose : List Str} {mg mb : Str → Option Value} (F : Fr h₀ L h m) (X : (hd.heap_1 P).In h₀) (T : TopRead p loose mg mb h₀) : NoneBooked h := booked (X.keeps F.keep) (T.nolimit.keeps F.keep)
theorem isSame_float {M : Model} {y z : UInt64} {u v : Tok} {Q : Bool → Shared → Prop}
    (h0 : (u == 0 || v == 0) = false) (hb : NoneBooked s.heap) (hq : ∀ b, Q b s) : wpAny M A (isSame (.float y u) (.float z v)) Q E s := by
  show wpAny M A (isSame.created (y == z && !Float64.isNaN y) u v) Q E s
  unfold isSame.created
  refine wpAny_ite ?_
  split
  · rename_i h; rw [h0] at h; exact absurd h Bool.false_ne_true
  refine wpAny_ite ?_
  split
  · exact wpAny_pure (hq _)
  refine wpAny_ite ?_
  split
  · exact wpAny_pure (hq _)
  refine wpAny_bind (wpAny_sharingNotTold_none hb ?_)
  first | rw [if_neg Bool.false_ne_true] | simp only [Bool.false_eq_true, if_false]
  refine wpAny_bind (wpAny_sharingNotTold_none hb ?_)
  first | rw [if_neg Bool.false_ne_true] | simp only [Bool.false_eq_true, if_false]
  exact wpAny_bind (wpAny_rule (wpAny_bind (wpAny_askSetting (wpAny_pure (hq _)))))
theorem eqF_at {a b : UInt64} {t u : Tok} (ht : t ≠ 0) (hu : u ≠ 0) (hb : NoneBooked s.heap) (h1 : (Float64.cmp a b == some Ordering.eq) = true) : SeqAt.EqAt A s (.float a t) (.float b u) true := fun prog w E Q h => by
  unfold eqBool
  show wpAny _ _ (if (Value.float a t == Value.float b u) = true then _ else _) Q E s
  by_cases hab : (Value.float a t == Value.float b u) = true
  · rw [if_pos hab]
    exact wpAny_bind (wpAny_rule (wpAny_pure h))
  · rw [if_neg hab]
    refine wpAny_bind (isSame_float (by simp [ht, hu]) hb fun b' => ?_)
    cases b'
    · simp only [Bool.false_eq_true, if_false]
      refine wpAny_bind (m := richCompare .Eq (.float a t) (.float b u)) (AutoFloatOps.eq_0 ?_)
      rw [h1]
      exact wpAny_truthy_bool h
    · exact wpAny_pure h
theorem eqI_at {a b : Int} {t u : Tok} {r : Bool} (h1 : (a == b) = r) : SeqAt.EqAt A s (.int a t) (.int b u) r := fun prog w E Q h => by
  refine wpAny_eqBool_int ?_
  rw [h1]; exact h
theorem ne_t3 {a b : Addr} {x0 x1 x2 y0 y1 y2 : Value} {e0 e1 e2 : Bool} {Q : Value → Shared → Prop} (h1 : s.heap.IsTuple a #[x0, x1, x2]) (h2 : s.heap.IsTuple b #[y0, y1, y2]) (hu : A.units < cLine)
    (q0 : SeqAt.EqAt A.in1 s x0 y0 e0) (q1 : SeqAt.EqAt A.in1 s x1 y1 e1) (q2 : SeqAt.EqAt A.in1 s x2 y2 e2) (h : Q (.bool (!(e0 && (e1 && e2)))) s) : wpAny (model prog w) A (compareOp .NotEq (.ref a) (.ref b)) Q E s :=
  SeqAt.RcNeAt.tuples (e := fun j => match j with | 0 => e0 | 1 => e1 | _ => e2) h1 h2 hu (fun j j1 j2 => match j, j1 with
    | 0, _ => q0
    | 1, _ => q1
    | 2, _ => q2) prog w E Q (by simpa [List.range, List.range.loop] using h)
theorem ne_t2 {a b : Addr} {x0 x1 y0 y1 : Value} {e0 e1 : Bool} {Q : Value → Shared → Prop} (h1 : s.heap.IsTuple a #[x0, x1]) (h2 : s.heap.IsTuple b #[y0, y1]) (hu : A.units < cLine)
    (q0 : SeqAt.EqAt A.in1 s x0 y0 e0) (q1 : SeqAt.EqAt A.in1 s x1 y1 e1) (h : Q (.bool (!(e0 && e1))) s) : wpAny (model prog w) A (compareOp .NotEq (.ref a) (.ref b)) Q E s :=
  SeqAt.RcNeAt.tuples (e := fun j => match j with | 0 => e0 | _ => e1) h1 h2 hu (fun j j1 j2 => match j, j1 with
    | 0, _ => q0
    | 1, _ => q1) prog w E Q (by simpa [List.range, List.range.loop] using h)
theorem index_reads {l : Addr} {x : Value} {xs : List PyData} {d : PyData} {as bs : List Addr} {j : Nat} {Q : Value → Shared → Prop} (rc : Reads s.heap (.ref l) (.list xs) as) (rx : Reads s.heap x d bs) (hxs : PyData.canLayAll0 xs = true) (hd : d.canLay0 = true)
    (hu : A.units + 1 + min (PyData.depthAll xs) d.depth < cLine) (hj : (xs.findIdx? fun y => PyData.eqv y d) = some j) (hs : xs.length ≤ sizeLine) (h : Q (.int j s.toks) { s with toks := s.toks + 1 }) :
    wpAny (model prog w) A (call (.builtin "list.index") [.ref l, x]) Q E s := by
  cases rc with
  | @list l o vs n xs as h1 h2 h3 h4 =>
    obtain ⟨cls, dd, data, sl⟩ := o
    simp only at h2 h3
    subst h2 h3
    have hm := SeqAt.readsAll_map xs _ _ hxs h4
    have hlen : vs.toList.length = xs.length := SeqAt.ReadsAll.length _ _ _ h4
    obtain ⟨hjl, hit, hno⟩ := List.findIdx?_eq_some_iff_getElem.mp hj
    have hget : ∀ i (hi : i < vs.size), SeqAt.readOf s.heap vs[i] = xs[i]'(by rw [← hlen]; simpa using hi) := fun i hi => by
      subst hm
      simp
    rw [sizeLine_eq] at hs
    refine call_meets PySem.F.slot_list_index ⟨_, h1, rfl⟩ PySem.F.entry_list_index (PySem.F.args_list_index_2 _ _)
      (SeqAt.list_indexAt l vs n dd sl x (fun y => PyData.eqv (SeqAt.readOf s.heap y) d) j (by rw [← Array.length_toList, hlen]; exact hjl) (by omega) (by simp only [hget]; exact hit) (fun i hi hlt => by simp only [hget]; simpa using hno i hlt)) ⟨h1, SeqAt.items_eqAt h4 rx hxs hd hu, h⟩
theorem call_backT {P : Value → Heap → Prop} {h₀ : Heap} {L : Addr} {m : Str → Option Value} {news : List (Addr × Obj)} {Q : Value → Shared → Prop} {fv : Value} {pos : List Value} {kw : List (Str × Value)} (hp : 0 < s.toks)
    (F : Fr h₀ L s.heap m) (N : News h₀ L s.heap news) (hc : codeAny (model prog w) A (.call fv ⟨pos, kw⟩) (Back P s) s)
    (h : ∀ v h' tk, 0 < tk → Fr h₀ L h' m → News h₀ L h' news → P v h' → Q v { s with heap := h', toks := tk }) :
    wpAny (model prog w) A (call fv pos kw) Q E s :=
  wpAny_with_toks (n := 1) hp (call_back F N hc fun v h' tk F N p ht => h v h' tk ht F N p)
end
end
section
-- needs L2 L1
section
variable {prog : Program} {w : World} {A : Around} {E : Value → Shared → Prop} {hp : Heap} {gn : Array GenState} {dr : Drawn} {tk0 : Nat} {ost : OsState} {h₀ : Heap} {L : Addr} {env : Env} {m : Str → Option Value} {news : List (Addr × Obj)}
/-- the end of the clause over a list -/
theorem comp_list {elt : Expr} {x : Str} {ifs : List Expr} {scope : Scope} {cl : List (Str × Addr)} {Q : Value → Shared → Prop} {p : Value → Bool} {G : Value → Value → Prop} {s₁ : Shared} {a : Addr} {items : Array Value}
    (hh : A.handled = none) (hs₁ : ∃ h1 t1, s₁ = ⟨h1, gn, dr, t1, ost⟩) (hk : ∀ b o, hp.get? b = some o → s₁.heap.get? b = some o) (hl : s₁.heap.IsList a items) (hnz : items.size ≤ 100000)
    (htest : ∀ C (i : Nat) v s₃ m₃ E', items[i]? = some v → s₃.heap.Ns C m₃ → m₃ x = some v → (∀ b o, hp.get? b = some o → s₃.heap.get? b = some o) →
      wpAny (model prog w) A (forIn ifs true fun c r => if r = true then do let ok ← isTrue c (compEnvC scope cl C env) (eval c (compEnvC scope cl C env)); pure (ForInStep.yield ok) else pure (ForInStep.yield r)) (fun ok s₄ => ok = p v ∧ Keeps s₃ s₄) E' s₃)
    (helt : ∀ C (i : Nat) v s₃ m₃ E', items[i]? = some v → s₁.toks ≤ s₃.toks → p v = true → s₃.heap.Ns C m₃ → m₃ x = some v → (∀ b o, hp.get? b = some o → s₃.heap.get? b = some o) →
      wpAny (model prog w) A (eval elt (compEnvC scope cl C env)) (fun y s₄ => G v y ∧ Keeps s₃ s₄) E' s₃)
    (hQ : ∀ D h' tk ep ys, Fr h₀ L h' m → News h₀ L h' ((D, W.listOf ys ep) :: news) → (∀ b o, hp.get? b = some o → h'.get? b = some o) → (∀ q ∈ news, q.1 ≠ D) →
      Paired G (items.toList.filter p) ys.toList → Q (.ref D) ⟨h', gn, dr, tk, ost⟩) :
    wpAny (model prog w) A (pyIter (.ref a)) (fun it s₂ => ∃ I fp n P St, it = .ref I ∧ Walks prog w A I fp [I] n P St ∧ n ≤ sizeLine ∧ St 0 s₂.heap ∧ (∀ b ∈ fp, b < s₂.heap.objs.size) ∧
      hp.get? I = none ∧ (∀ b o, hp.get? b = some o → s₂.heap.get? b = some o) ∧ (∃ hh tt, s₂ = ⟨hh, gn, dr, tt, ost⟩) ∧ QuietOnC prog w A env scope cl x ifs elt [I] P p G s₂ ∧
      CompOut h₀ L hp gn dr ost m news p G n P Q) E s₁ := by
  obtain ⟨h1, t1, rfl⟩ := hs₁
  refine wpAny_pyIter_list hl ?_
  have up : ∀ (d : Addr) (o : Obj), h1.get? d = some o → (h1.push { cls := .type "list_iterator", data := .fields #[.ref a, .int 0 0] }).get? d = some o := fun d o e => Heap.get?_push_of_some _ e
  have hax : a < h1.objs.size := by obtain ⟨o, ho, _⟩ := hl; exact Heap.lt_size ho
  have hI : hp.get? h1.objs.size = none := by
    cases q : hp.get? h1.objs.size with
    | none => rfl
    | some o => exact absurd (Heap.lt_size (hk _ _ q)) (Nat.lt_irrefl _)
  refine ⟨h1.objs.size, [h1.objs.size, a], items.size, fun i v => items[i]? = some v, _, rfl, Walks.list hh _ a (Nat.ne_of_lt hax) items, by rw [sizeLine_eq]; omega, ?_, ?_, hI, fun b o e => up b o (hk b o e), ⟨_, _, rfl⟩, ⟨?_, ?_⟩, ?_⟩
  · exact ⟨⟨_, Heap.get?_push_size _ rfl, rfl, rfl⟩, hl.push _⟩
  · intro b hb
    show b < (h1.push _).objs.size
    rw [Heap.size_push]
    rcases List.mem_cons.mp hb with rfl | hb
    · exact Nat.lt_succ_self _
    · rw [List.mem_singleton.mp hb]; exact Nat.lt_succ_of_lt hax
  · rintro C i v s₃ m₃ E' _ hv hn hm hkk _
    exact htest C i v s₃ m₃ E' hv hn hm fun b o e => hkk b o (fun hb => by rw [List.mem_singleton.mp hb, hI] at e; cases e) (up b o (hk b o e))
  · rintro C i v s₃ m₃ E' _ hv hp hn hm hkk htt
    exact helt C i v s₃ m₃ E' hv htt hp hn hm fun b o e => hkk b o (fun hb => by rw [List.mem_singleton.mp hb, hI] at e; cases e) (up b o (hk b o e))
  · intro D h' tk ep ys vs F' N' up' hne hlen hP hpair
    have hvs : vs = items.toList := by
      apply List.ext_getElem?
      intro j
      cases e : vs[j]? with
      | none =>
        have : vs.length ≤ j := List.getElem?_eq_none_iff.mp e
        rw [hlen] at this
        simp [this]
      | some v =>
        have := hP j v e
        simpa using this.symm
    rw [hvs] at hpair
    exact hQ D h' tk ep ys F' N' up' hne hpair
end
end
section
-- needs L4
noncomputable def CompOutG (h₀ : Heap) (L : Addr) (hp : Heap) (gn : Array GenState) (dr : Drawn) (ost : OsState) (fm : Value → Str → Option Value) (news : List (Addr × Obj)) (p : Value → Bool) (G : Value → Value → Prop) (n : Nat) (P : Nat → Value → Prop) (Q : Value → Shared → Prop) : Prop :=
  ∀ D h' tk ep ys (vs : List Value), Fr h₀ L h' (fm (.ref D)) → News h₀ L h' ((D, W.listOf ys ep) :: news) → (∀ b o, b ≠ L → hp.get? b = some o → h'.get? b = some o) → (∀ q ∈ news, q.1 ≠ D) → vs.length = n → (∀ j v, vs[j]? = some v → P j v) → Paired G (vs.filter p) ys.toList →
        Q (.ref D) ⟨h', gn, dr, tk, ost⟩
section
variable {prog : Program} {w : World} {A : Around} {E : Value → Shared → Prop} {hp : Heap} {gn : Array GenState} {dr : Drawn} {tk0 : Nat} {ost : OsState} {h₀ : Heap} {L : Addr} {env : Env} {m : Str → Option Value} {fm : Value → Str → Option Value} {news : List (Addr × Obj)}
/-- a comprehension of one clause handed straight to a local name -/
theorem acomp_FN {elt iter : Expr} {x y : Str} {px py : Pos} {ifs : List Expr} {scope : Scope} {cl : List (Str × Addr)} {pos spos : Pos} {Q : Flow → Shared → Prop} (p : Value → Bool) (G : Value → Value → Prop)
    (F : Fr h₀ L hp m) (N : News h₀ L hp news) (hL : env.locals = L) (hsw : swapsWith (.ListComp elt [⟨.Name x px, iter, ifs, 0⟩] scope pos) (some (.Name y py)) spos.line env = pure true) (hclos : closureFor scope env = pure cl) (hcell : ∀ y ∈ scope.names, y.2 ≠ .cell) (hkind : scope.kind = .function)
    (hnames : ∀ y ∈ scope.names, y.2 = .local → scope.names.lookup y.1 = some .local) (hx : scope.names.lookup x = some .local) (hy : env.kindOf y = some .local) (hpp : (env.scope.kind == .class || (env.scope.kind == .module && env.locals != env.globals)) = false)
    (h : wpAny (model prog w) A (eval iter env) (fun xv s₁ => wpAny (model prog w) A (pyIter xv) (fun it s₂ => ∃ I fp n P St, it = .ref I ∧ Walks prog w A I fp [I] n P St ∧ n ≤ sizeLine ∧ St 0 s₂.heap ∧ (∀ b ∈ fp, b < s₂.heap.objs.size) ∧
      hp.get? I = none ∧ (∀ b o, hp.get? b = some o → s₂.heap.get? b = some o) ∧ (∃ hh tt, s₂ = ⟨hh, gn, dr, tt, ost⟩) ∧ QuietOnC prog w A env scope cl x ifs elt [I] P p G s₂ ∧
      CompOutG h₀ L hp gn dr ost (fun D z => if z = y then some D else m z) news p G n P (fun _ s => Q .next s)) E s₁) E ⟨hp, gn, dr, tk0, ost⟩)
    (hs : ∀ x, foldedSetIterable iter env x = pure x := by intro _; rfl) :
    wpAny (model prog w) A (exec (.Assign [.Name y py] (.ListComp elt [⟨.Name x px, iter, ifs, 0⟩] scope pos) spos) env) Q E ⟨hp, gn, dr, tk0, ost⟩ := by
  subst hL
  refine wpAny_Assign_ListComp_free p G hsw hclos hcell hkind hnames hx hy hpp (wpAny_mono h (fun xv s₁ h₁ => wpAny_mono h₁ (fun it s₂ h₂ => ?_) fun _ _ e => e) fun _ _ e => e) hs
  obtain ⟨I, fp, n, P, St, rfl, W, hn, hst, hfp, hI, hk, ⟨hh, tt, rfl⟩, hq, hQ⟩ := h₂
  have hLI : env.locals ≠ I := by
    intro e
    obtain ⟨oL, _, _, e1, _⟩ := F.ns
    rw [e, hI] at e1; cases e1
  refine ⟨I, fp, [I], n, P, St, m, rfl, W, hn, hst, hfp, fun hm => hLI (List.mem_singleton.mp hm), F.ns.at' fun o e => hk _ o e, hq, fun D h' tk ys vs hD hl hpl hlen hP hpair hns hk' => ?_⟩
  have up : ∀ b o, b ≠ env.locals → hp.get? b = some o → h'.get? b = some o := fun b o hb e => hk' b o hb (fun hb => by rw [List.mem_singleton.mp hb, hI] at e; cases e) (hk b o e)
  obtain ⟨ep, hep⟩ := hpl
  have hDs : hp.get? D = none := by
    cases q : hp.get? D with
    | none => rfl
    | some o => rw [hk _ _ q] at hD; cases hD
  refine hQ D h' tk ep ys vs ⟨hns, fun b o e => up b o (Nat.ne_of_lt (Nat.lt_of_lt_of_le (Heap.lt_size e) F.above)) (F.keep b o e), F.above⟩ (fun q hq => ?_) up (fun q hq e => ?_) hlen hP hpair
  · rcases List.mem_cons.mp hq with rfl | hq
    · refine ⟨hep, fun e => ?_, ?_⟩
      · obtain ⟨oL, _, _, e1, _⟩ := F.ns
        rw [← e, hDs] at e1; cases e1
      · cases q : h₀.get? D with
        | none => rfl
        | some o => rw [F.keep _ _ q] at hDs; cases hDs
    · exact ⟨up _ _ (N q hq).2.1 (N q hq).1, (N q hq).2⟩
  · have := (N q hq).1
    rw [e, hDs] at this; cases this

/-- the end of the clause over a range -/
theorem comp_rangeG {elt : Expr} {x : Str} {ifs : List Expr} {scope : Scope} {cl : List (Str × Addr)} {Q : Value → Shared → Prop} {p : Value → Bool} {G : Value → Value → Prop} {s₁ : Shared} {r : Addr} {a b c : Int} {t u v : Tok} {n : Nat}
    (hh : A.handled = none) (hs₁ : ∃ h1 t1, s₁ = ⟨h1, gn, dr, t1, ost⟩) (hk : ∀ b o, hp.get? b = some o → s₁.heap.get? b = some o) (hr : IsRange s₁.heap r a b c t u v) (hsm : Builtin.Range.small a b c = true) (hn : Builtin.Range.rangeSize a b c = (n : Int)) (hnz : n ≤ 100000)
    (htest : ∀ C (i : Nat) tv s₃ m₃ E', i < n → s₃.heap.Ns C m₃ → m₃ x = some (.int (a + i * c) tv) → (∀ b o, hp.get? b = some o → s₃.heap.get? b = some o) →
      wpAny (model prog w) A (forIn ifs true fun c r => if r = true then do let ok ← isTrue c (compEnvC scope cl C env) (eval c (compEnvC scope cl C env)); pure (ForInStep.yield ok) else pure (ForInStep.yield r)) (fun ok s₄ => ok = p (.int (a + i * c) tv) ∧ Keeps s₃ s₄) E' s₃)
    (helt : ∀ C (i : Nat) tv s₃ m₃ E', i < n → s₁.toks ≤ s₃.toks → p (.int (a + i * c) tv) = true → s₃.heap.Ns C m₃ → m₃ x = some (.int (a + i * c) tv) → (∀ b o, hp.get? b = some o → s₃.heap.get? b = some o) →
      wpAny (model prog w) A (eval elt (compEnvC scope cl C env)) (fun y s₄ => G (.int (a + i * c) tv) y ∧ Keeps s₃ s₄) E' s₃)
    (hQ : ∀ D h' tk ep ys (ts : List Tok), ts.length = n → Fr h₀ L h' (fm (.ref D)) → News h₀ L h' ((D, W.listOf ys ep) :: news) → (∀ b o, b ≠ L → hp.get? b = some o → h'.get? b = some o) → (∀ q ∈ news, q.1 ≠ D) →
      Paired G ((ts.mapIdx fun i tk => Value.int (a + i * c) tk).filter p) ys.toList → Q (.ref D) ⟨h', gn, dr, tk, ost⟩) :
    wpAny (model prog w) A (pyIter (.ref r)) (fun it s₂ => ∃ I fp n P St, it = .ref I ∧ Walks prog w A I fp [I] n P St ∧ n ≤ sizeLine ∧ St 0 s₂.heap ∧ (∀ b ∈ fp, b < s₂.heap.objs.size) ∧
      hp.get? I = none ∧ (∀ b o, hp.get? b = some o → s₂.heap.get? b = some o) ∧ (∃ hh tt, s₂ = ⟨hh, gn, dr, tt, ost⟩) ∧ QuietOnC prog w A env scope cl x ifs elt [I] P p G s₂ ∧
      CompOutG h₀ L hp gn dr ost fm news p G n P Q) E s₁ := by
  obtain ⟨h1, t1, rfl⟩ := hs₁
  refine wpAny_pyIter_range hr hsm ?_
  have up : ∀ (d : Addr) (o : Obj), h1.get? d = some o → (h1.push { cls := .type "range_iterator", data := .fields #[rawInt a, rawInt (Builtin.Range.rangeSize a b c), rawInt c] }).get? d = some o := fun d o e => Heap.get?_push_of_some _ e
  have hI : hp.get? h1.objs.size = none := by
    cases q : hp.get? h1.objs.size with
    | none => rfl
    | some o => exact absurd (Heap.lt_size (hk _ _ q)) (Nat.lt_irrefl _)
  refine ⟨h1.objs.size, [h1.objs.size], n, fun i v => i < n ∧ ∃ t, v = .int (a + i * c) t, _, rfl, (Walks.range hh _ a c n).bound, by rw [sizeLine_eq]; omega, ?_, ?_, hI, fun b o e => up b o (hk b o e), ⟨_, _, rfl⟩, ⟨?_, ?_⟩, ?_⟩
  · show IsRangeIter _ _ _ _ _
    rw [hn]
    simpa using Heap.get?_push_size h1 (o := { cls := .type "range_iterator", data := .fields #[rawInt a, rawInt (n : Int), rawInt c] }) rfl
  · intro b hb
    rw [List.mem_singleton.mp hb]
    show h1.objs.size < (h1.push _).objs.size
    rw [Heap.size_push]; exact Nat.lt_succ_self _
  · rintro C i v s₃ m₃ E' _ ⟨hi, tv, rfl⟩ hn hm hkk _
    exact htest C i tv s₃ m₃ E' hi hn hm fun b o e => hkk b o (fun hb => by rw [List.mem_singleton.mp hb, hI] at e; cases e) (up b o (hk b o e))
  · rintro C i v s₃ m₃ E' _ ⟨hi, tv, rfl⟩ hp hn hm hkk htt
    exact helt C i tv s₃ m₃ E' hi htt hp hn hm fun b o e => hkk b o (fun hb => by rw [List.mem_singleton.mp hb, hI] at e; cases e) (up b o (hk b o e))
  · intro D h' tk ep ys vs F' N' up' hne hlen hP hpair
    obtain ⟨ts, h1, h2⟩ := toks_of (a := a) (c := c) vs (fun j v e => (hP j v e).2)
    refine hQ D h' tk ep ys ts (by rw [← hlen, ← h1]) F' N' up' hne ?_
    rw [h2] at hpair
    exact hpair
/-- the end of the clause over a list -/
theorem comp_listG {elt : Expr} {x : Str} {ifs : List Expr} {scope : Scope} {cl : List (Str × Addr)} {Q : Value → Shared → Prop} {p : Value → Bool} {G : Value → Value → Prop} {s₁ : Shared} {a : Addr} {items : Array Value}
    (hh : A.handled = none) (hs₁ : ∃ h1 t1, s₁ = ⟨h1, gn, dr, t1, ost⟩) (hk : ∀ b o, hp.get? b = some o → s₁.heap.get? b = some o) (hl : s₁.heap.IsList a items) (hnz : items.size ≤ 100000)
    (htest : ∀ C (i : Nat) v s₃ m₃ E', items[i]? = some v → s₃.heap.Ns C m₃ → m₃ x = some v → (∀ b o, hp.get? b = some o → s₃.heap.get? b = some o) →
      wpAny (model prog w) A (forIn ifs true fun c r => if r = true then do let ok ← isTrue c (compEnvC scope cl C env) (eval c (compEnvC scope cl C env)); pure (ForInStep.yield ok) else pure (ForInStep.yield r)) (fun ok s₄ => ok = p v ∧ Keeps s₃ s₄) E' s₃)
    (helt : ∀ C (i : Nat) v s₃ m₃ E', items[i]? = some v → s₁.toks ≤ s₃.toks → p v = true → s₃.heap.Ns C m₃ → m₃ x = some v → (∀ b o, hp.get? b = some o → s₃.heap.get? b = some o) →
      wpAny (model prog w) A (eval elt (compEnvC scope cl C env)) (fun y s₄ => G v y ∧ Keeps s₃ s₄) E' s₃)
    (hQ : ∀ D h' tk ep ys, Fr h₀ L h' (fm (.ref D)) → News h₀ L h' ((D, W.listOf ys ep) :: news) → (∀ b o, b ≠ L → hp.get? b = some o → h'.get? b = some o) → (∀ q ∈ news, q.1 ≠ D) →
      Paired G (items.toList.filter p) ys.toList → Q (.ref D) ⟨h', gn, dr, tk, ost⟩) :
    wpAny (model prog w) A (pyIter (.ref a)) (fun it s₂ => ∃ I fp n P St, it = .ref I ∧ Walks prog w A I fp [I] n P St ∧ n ≤ sizeLine ∧ St 0 s₂.heap ∧ (∀ b ∈ fp, b < s₂.heap.objs.size) ∧
      hp.get? I = none ∧ (∀ b o, hp.get? b = some o → s₂.heap.get? b = some o) ∧ (∃ hh tt, s₂ = ⟨hh, gn, dr, tt, ost⟩) ∧ QuietOnC prog w A env scope cl x ifs elt [I] P p G s₂ ∧
      CompOutG h₀ L hp gn dr ost fm news p G n P Q) E s₁ := by
  obtain ⟨h1, t1, rfl⟩ := hs₁
  refine wpAny_pyIter_list hl ?_
  have up : ∀ (d : Addr) (o : Obj), h1.get? d = some o → (h1.push { cls := .type "list_iterator", data := .fields #[.ref a, .int 0 0] }).get? d = some o := fun d o e => Heap.get?_push_of_some _ e
  have hax : a < h1.objs.size := by obtain ⟨o, ho, _⟩ := hl; exact Heap.lt_size ho
  have hI : hp.get? h1.objs.size = none := by
    cases q : hp.get? h1.objs.size with
    | none => rfl
    | some o => exact absurd (Heap.lt_size (hk _ _ q)) (Nat.lt_irrefl _)
  refine ⟨h1.objs.size, [h1.objs.size, a], items.size, fun i v => items[i]? = some v, _, rfl, Walks.list hh _ a (Nat.ne_of_lt hax) items, by rw [sizeLine_eq]; omega, ?_, ?_, hI, fun b o e => up b o (hk b o e), ⟨_, _, rfl⟩, ⟨?_, ?_⟩, ?_⟩
  · exact ⟨⟨_, Heap.get?_push_size _ rfl, rfl, rfl⟩, hl.push _⟩
  · intro b hb
    show b < (h1.push _).objs.size
    rw [Heap.size_push]
    rcases List.mem_cons.mp hb with rfl | hb
    · exact Nat.lt_succ_self _
    · rw [List.mem_singleton.mp hb]; exact Nat.lt_succ_of_lt hax
  · rintro C i v s₃ m₃ E' _ hv hn hm hkk _
    exact htest C i v s₃ m₃ E' hv hn hm fun b o e => hkk b o (fun hb => by rw [List.mem_singleton.mp hb, hI] at e; cases e) (up b o (hk b o e))
  · rintro C i v s₃ m₃ E' _ hv hp hn hm hkk htt
    exact helt C i v s₃ m₃ E' hv htt hp hn hm fun b o e => hkk b o (fun hb => by rw [List.mem_singleton.mp hb, hI] at e; cases e) (up b o (hk b o e))
  · intro D h' tk ep ys vs F' N' up' hne hlen hP hpair
    have hvs : vs = items.toList := by
      apply List.ext_getElem?
      intro j
      cases e : vs[j]? with
      | none =>
        have : vs.length ≤ j := List.getElem?_eq_none_iff.mp e
        rw [hlen] at this
        simp [this]
      | some v =>
        have := hP j v e
        simpa using this.symm
    rw [hvs] at hpair
    exact hQ D h' tk ep ys F' N' up' hne hpair
end
end
section
-- needs L5
noncomputable def AfterIter (h₀ : Heap) (L : Addr) (gn : Array GenState) (dr : Drawn) (ost : OsState) (K : Heap → (Str → Option Value) → List (Addr × Obj) → Prop) (s₁ : Shared) : Prop :=
  ∃ hp t m news, s₁ = ⟨hp, gn, dr, t, ost⟩ ∧ Fr h₀ L hp m ∧ News h₀ L hp news ∧ K hp m news
section
variable {prog : Program} {w : World} {A : Around} {E : Value → Shared → Prop} {s : Shared} {gn : Array GenState} {dr : Drawn} {ost : OsState} {h₀ : Heap} {L : Addr} {env : Env}
theorem AfterIter.mk {K : Heap → (Str → Option Value) → List (Addr × Obj) → Prop} {hp : Heap} {t : Nat} {m : Str → Option Value} {news : List (Addr × Obj)} (F : Fr h₀ L hp m) (N : News h₀ L hp news) (h : K hp m news) : AfterIter h₀ L gn dr ost K ⟨hp, gn, dr, t, ost⟩ := ⟨hp, t, m, news, rfl, F, N, h⟩
/-- a comprehension of one clause, in the frame's words -/
theorem comp_FN2 {elt iter : Expr} {x : Str} {px : Pos} {ifs : List Expr} {scope : Scope} {cl : List (Str × Addr)} {pos : Pos} {Q : Value → Shared → Prop} (p : Value → Bool) (G : Value → Value → Prop)
    (hclos : closureFor scope env = pure cl) (hcell : ∀ y ∈ scope.names, y.2 ≠ .cell) (hkind : scope.kind = .function)
    (hnames : ∀ y ∈ scope.names, y.2 = .local → scope.names.lookup y.1 = some .local) (hx : scope.names.lookup x = some .local)
    (h : wpAny (model prog w) A (eval iter env) (fun xv s₁ => AfterIter h₀ L gn dr ost (fun hp m news => wpAny (model prog w) A (pyIter xv) (fun it s₂ => ∃ I fp n P St, it = .ref I ∧ Walks prog w A I fp [I] n P St ∧ n ≤ sizeLine ∧ St 0 s₂.heap ∧ (∀ b ∈ fp, b < s₂.heap.objs.size) ∧
      hp.get? I = none ∧ (∀ b o, hp.get? b = some o → s₂.heap.get? b = some o) ∧ (∃ hh tt, s₂ = ⟨hh, gn, dr, tt, ost⟩) ∧ QuietOnC prog w A env scope cl x ifs elt [I] P p G s₂ ∧
      CompOut h₀ L hp gn dr ost m news p G n P Q) E s₁) s₁) E s)
    (hs : ∀ x, foldedSetIterable iter env x = pure x := by intro _; rfl) :
    wpAny (model prog w) A (eval (.ListComp elt [⟨.Name x px, iter, ifs, 0⟩] scope pos) env) Q E s := by
  refine wpAny_ListComp_free p G hclos hcell hkind hnames hx (wpAny_mono h (fun xv s₁ ⟨hp, t, m, news, hs1, F, N, h₁⟩ => wpAny_mono h₁ (fun it s₂ h₂ => ?_) fun _ _ e => e) fun _ _ e => e) hs
  obtain ⟨I, fp, n, P, St, rfl, W, hn, hst, hfp, hI, hk, ⟨hh, tt, rfl⟩, hq, hQ⟩ := h₂
  refine ⟨I, fp, [I], n, P, St, rfl, W, hn, hst, hfp, hq, fun D h' tk ys vs hD hl hpl hlen hP hpair hk' => ?_⟩
  have up : ∀ b o, hp.get? b = some o → h'.get? b = some o := fun b o e => hk' b o (fun hb => by rw [List.mem_singleton.mp hb, hI] at e; cases e) (hk b o e)
  obtain ⟨ep, hep⟩ := hpl
  have hDs : hp.get? D = none := by
    cases q : hp.get? D with
    | none => rfl
    | some o => rw [hk _ _ q] at hD; cases hD
  refine hQ D h' tk ep ys vs (F.grownK up) (fun q hq => ?_) up (fun q hq e => ?_) hlen hP hpair
  · rcases List.mem_cons.mp hq with rfl | hq
    · refine ⟨hep, fun e => ?_, ?_⟩
      · obtain ⟨oL, _, _, e1, _⟩ := F.ns
        rw [← e, hDs] at e1; cases e1
      · cases q : h₀.get? D with
        | none => rfl
        | some o => rw [F.keep _ _ q] at hDs; cases hDs
    · exact (N.grown up) q hq
  · have := (N q hq).1
    rw [e, hDs] at this; cases this

/-- a comprehension of one clause handed straight to a local name -/
theorem acomp_FN2 {elt iter : Expr} {x y : Str} {px py : Pos} {ifs : List Expr} {scope : Scope} {cl : List (Str × Addr)} {pos spos : Pos} {Q : Flow → Shared → Prop} (p : Value → Bool) (G : Value → Value → Prop)
    (hL : env.locals = L) (hsw : swapsWith (.ListComp elt [⟨.Name x px, iter, ifs, 0⟩] scope pos) (some (.Name y py)) spos.line env = pure true) (hclos : closureFor scope env = pure cl) (hcell : ∀ y ∈ scope.names, y.2 ≠ .cell) (hkind : scope.kind = .function)
    (hnames : ∀ y ∈ scope.names, y.2 = .local → scope.names.lookup y.1 = some .local) (hx : scope.names.lookup x = some .local) (hy : env.kindOf y = some .local) (hpp : (env.scope.kind == .class || (env.scope.kind == .module && env.locals != env.globals)) = false)
    (h : wpAny (model prog w) A (eval iter env) (fun xv s₁ => AfterIter h₀ L gn dr ost (fun hp m news => wpAny (model prog w) A (pyIter xv) (fun it s₂ => ∃ I fp n P St, it = .ref I ∧ Walks prog w A I fp [I] n P St ∧ n ≤ sizeLine ∧ St 0 s₂.heap ∧ (∀ b ∈ fp, b < s₂.heap.objs.size) ∧
      hp.get? I = none ∧ (∀ b o, hp.get? b = some o → s₂.heap.get? b = some o) ∧ (∃ hh tt, s₂ = ⟨hh, gn, dr, tt, ost⟩) ∧ QuietOnC prog w A env scope cl x ifs elt [I] P p G s₂ ∧
      CompOutG h₀ L hp gn dr ost (fun D z => if z = y then some D else m z) news p G n P (fun _ s => Q .next s)) E s₁) s₁) E s)
    (hs : ∀ x, foldedSetIterable iter env x = pure x := by intro _; rfl) :
    wpAny (model prog w) A (exec (.Assign [.Name y py] (.ListComp elt [⟨.Name x px, iter, ifs, 0⟩] scope pos) spos) env) Q E s := by
  subst hL
  refine wpAny_Assign_ListComp_free p G hsw hclos hcell hkind hnames hx hy hpp (wpAny_mono h (fun xv s₁ ⟨hp, t, m, news, hs1, F, N, h₁⟩ => wpAny_mono h₁ (fun it s₂ h₂ => ?_) fun _ _ e => e) fun _ _ e => e) hs
  obtain ⟨I, fp, n, P, St, rfl, W, hn, hst, hfp, hI, hk, ⟨hh, tt, rfl⟩, hq, hQ⟩ := h₂
  have hLI : env.locals ≠ I := by
    intro e
    obtain ⟨oL, _, _, e1, _⟩ := F.ns
    rw [e, hI] at e1; cases e1
  refine ⟨I, fp, [I], n, P, St, m, rfl, W, hn, hst, hfp, fun hm => hLI (List.mem_singleton.mp hm), F.ns.at' fun o e => hk _ o e, hq, fun D h' tk ys vs hD hl hpl hlen hP hpair hns hk' => ?_⟩
  have up : ∀ b o, b ≠ env.locals → hp.get? b = some o → h'.get? b = some o := fun b o hb e => hk' b o hb (fun hb => by rw [List.mem_singleton.mp hb, hI] at e; cases e) (hk b o e)
  obtain ⟨ep, hep⟩ := hpl
  have hDs : hp.get? D = none := by
    cases q : hp.get? D with
    | none => rfl
    | some o => rw [hk _ _ q] at hD; cases hD
  refine hQ D h' tk ep ys vs ⟨hns, fun b o e => up b o (Nat.ne_of_lt (Nat.lt_of_lt_of_le (Heap.lt_size e) F.above)) (F.keep b o e), F.above⟩ (fun q hq => ?_) up (fun q hq e => ?_) hlen hP hpair
  · rcases List.mem_cons.mp hq with rfl | hq
    · refine ⟨hep, fun e => ?_, ?_⟩
      · obtain ⟨oL, _, _, e1, _⟩ := F.ns
        rw [← e, hDs] at e1; cases e1
      · cases q : h₀.get? D with
        | none => rfl
        | some o => rw [F.keep _ _ q] at hDs; cases hDs
    · exact ⟨up _ _ (N q hq).2.1 (N q hq).1, (N q hq).2⟩
  · have := (N q hq).1
    rw [e, hDs] at this; cases this

end
end
section
-- needs L6
section
variable {prog : Program} {w : World} {A : Around} {E : Value → Shared → Prop}
theorem leN {a b : Nat} (h : @LE.le Nat _ a b) : @LE.le Addr _ a b := h
theorem newEnv_1 {s : Shared} {env : Env} {scope : Scope} {globals : Addr} {cl : List (Str × Addr)} {x qual : Str} {Q : Env → Shared → Prop}
    (hcf : ∀ n acc, cellsFrom n scope.names acc = (x, n) :: acc) (hpc : ∀ h, pushCells h scope.names = h.push { cls := .type "cell", data := .cell none })
    (h : Q { scope, locals := s.heap.objs.size, globals, cells := (x, s.heap.objs.size + 1) :: cl, qual, func := none, code := env.code, frame := env.frame, builtins := env.builtins }
      { s with heap := (s.heap.push { cls := .type "dict", data := .dict #[] }).push { cls := .type "cell", data := .cell none } }) :
    wpAny (model prog w) A (newFunctionEnv scope globals cl [] qual none .none (some env)) Q E s := by
  simp only [newFunctionEnv, Option.isSome_some, if_true]
  refine wpAny_bind (wpAny_alloc ?_)
  refine wpAny_bind (wpAny_layCells _ (fun name kind cells => by cases hkc : kind == NameKind.cell <;> simp [hkc]) _ _ _ _ ?_)
  rw [hcf, hpc]
  refine wpAny_bind ?_
  rw [List.forIn_nil]
  refine wpAny_pure (wpAny_pure ?_)
  dsimp only
  rw [Heap.size_push]
  exact h
end
section
variable {prog : Program} {w : World} {A : Around} {E : Value → Shared → Prop} {hp : Heap} {gn : Array GenState} {dr : Drawn} {tk0 : Nat} {ost : OsState} {h₀ : Heap} {L : Addr} {env : Env} {m : Str → Option Value} {news : List (Addr × Obj)}
/-- a comprehension whose own name is a cell -/
theorem comp_cell {elt iter : Expr} {x : Str} {px : Pos} {scope : Scope} {cl : List (Str × Addr)} {pos : Pos} {Q : Value → Shared → Prop} (G : Value → Value → Prop)
    (F : Fr h₀ L hp m) (N : News h₀ L hp news) (hclos : closureFor scope env = pure cl) (hkind : scope.kind = .function)
    (hnames : ∀ y ∈ scope.names, y.2 = .local → scope.names.lookup y.1 = some .local) (hx : (relabel scope env).names.lookup x = some .cell) (hcf : ∀ n acc, cellsFrom n scope.names acc = (x, n) :: acc) (hpc : ∀ h, pushCells h scope.names = h.push { cls := .type "cell", data := .cell none })
    (h : wpAny (model prog w) A (eval iter env) (fun xv s₁ => wpAny (model prog w) A (pyIter xv) (fun it s₂ => ∃ I fp n P St, it = .ref I ∧ Walks prog w A I fp [I] n P St ∧ n ≤ sizeLine ∧ St 0 s₂.heap ∧ (∀ b ∈ fp, b < s₂.heap.objs.size) ∧
      hp.get? I = none ∧ (∀ b o, hp.get? b = some o → s₂.heap.get? b = some o) ∧ (∃ hh tt, s₂ = ⟨hh, gn, dr, tt, ost⟩) ∧
      (∀ C c i v s₃ E', P i v → s₃.heap.IsCell c (some v) → (∀ b o, hp.get? b = some o → s₃.heap.get? b = some o) → wpAny (model prog w) A (eval elt (compEnvC scope ((x, c) :: cl) C env)) (fun y s₄ => G v y ∧ Keeps s₃ s₄) E' s₃) ∧
      CompOut h₀ L hp gn dr ost m news (fun _ => true) G n P Q) E s₁) E ⟨hp, gn, dr, tk0, ost⟩)
    (hs : ∀ x, foldedSetIterable iter env x = pure x := by intro _; rfl) :
    wpAny (model prog w) A (eval (.ListComp elt [⟨.Name x px, iter, [], 0⟩] scope pos) env) Q E ⟨hp, gn, dr, tk0, ost⟩ := by
  rw [eval_ListComp]
  refine wpAny_comprehension_free (use := none) rfl hs hclos hkind hnames (wpAny_mono h (fun xv s₁ h₁ => wpAny_mono h₁ (fun it s₂ h₂ => ?_) fun _ _ e => e) fun _ _ e => e)
  obtain ⟨I, fp, n, P, St, rfl, W, hn, hst, hfp, hI, hk, ⟨hh, tt, rfl⟩, helt, hQ⟩ := h₂
  refine wpAny_newObj_type (newEnv_1 hcf hpc ?_)
  dsimp only at hst hfp hk ⊢
  have hIl : I < hh.objs.size := hfp I (W.sub I (.head _))
  generalize hD : hh.objs.size = D at *
  generalize hH2 : hh.push { cls := .type "list", dict := none, data := .seq ([] : List Value).toArray } = H2 at *
  have hC : H2.objs.size = D + 1 := by rw [← hH2, Heap.size_push, hD]
  generalize hH4 : (H2.push { cls := .type "dict", data := .dict #[] }).push { cls := .type "cell", data := .cell none } = H4 at *
  rw [hC]
  have old : ∀ b o, hp.get? b = some o → @LT.lt Nat _ b D := fun b o e => hD ▸ Heap.lt_size (hk b o e)
  have up2 : ∀ b o, hh.get? b = some o → H4.get? b = some o := fun b o e => by
    rw [← hH4, ← hH2]; exact Heap.get?_push_of_some _ (Heap.get?_push_of_some _ (Heap.get?_push_of_some _ e))
  have up4 : ∀ b o, hp.get? b = some o → H4.get? b = some o := fun b o e => up2 b o (hk b o e)
  have hD4 : H4.PlainList D #[] := ⟨_, by rw [← hH4, ← hH2]; exact Heap.get?_push_of_some _ (Heap.get?_push_of_some _ (hD ▸ Heap.get?_push_size _ rfl))⟩
  have hC4 : H4.Ns (D + 1) (fun _ => none) := by
    have q := Heap.Ns.new H2 (.type "dict")
    rw [hC] at q
    rw [← hH4]
    exact q.keeps fun b o e => Heap.get?_push_of_some _ e
  have hc4 : H4.IsCell (D + 1 + 1) none := ⟨_, by
    rw [← hH4]
    have : (H2.push { cls := .type "dict", data := .dict #[] }).objs.size = D + 1 + 1 := by rw [Heap.size_push, hC]
    exact this ▸ Heap.get?_push_size _ rfl, rfl⟩
  have hst4 : St 0 H4 := W.frame _ _ _ hst fun b _ o e => up2 b o e
  have hDf : D ∉ fp := fun hm => Nat.lt_irrefl _ (hfp _ hm)
  have hCf : D + 1 ∉ fp := fun hm => by have := ltN (hfp _ hm); omega
  have hcf' : D + 1 + 1 ∉ fp := fun hm => by have := ltN (hfp _ hm); omega
  have hcC : D + 1 + 1 ≠ D + 1 := by omega
  generalize hcv : compEnvC scope ((x, D + 1 + 1) :: cl) (D + 1) env = cenv
  have e1 : ({ scope := relabel scope env, locals := D + 1, globals := env.globals, cells := (x, D + 1 + 1) :: cl, qual := env.qual, func := none, code := env.code, frame := env.frame, builtins := env.builtins } : Env) = cenv := by rw [← hcv]; rfl
  have eS : cenv.scope.kind = .function := by rw [← hcv]; exact hkind
  have eX : cenv.kindOf x = some .cell := by rw [← hcv]; exact hx
  have eC : cenv.cells.lookup x = some (D + 1 + 1) := by rw [← hcv]; simp [compEnvC]
  show codeAny (model prog w) A (.compStart (.ListComp elt [⟨.Name x px, iter, [], 0⟩] scope pos) 0 (.ref I) (.ref D) { scope := relabel scope env, locals := D + 1, globals := env.globals, cells := (x, D + 1 + 1) :: cl, qual := env.qual, func := none, code := env.code, frame := env.frame, builtins := env.builtins }) (compPost (model prog w) A E none Q (.ref D) (D + 1)) ⟨H4, gn, dr, tt, ost⟩
  rw [e1]
  have loop : codeAny (model prog w) A (.compLoop (.ListComp elt [⟨.Name x px, iter, [], 0⟩] scope pos) 0 (.ref I) (.ref D) cenv) (compPost (model prog w) A E none Q (.ref D) (D + 1)) ⟨H4, gn, dr, tt, ost⟩ := by
    refine codeAny_compLoop_list
      (fun k s' => ∃ h' tk ys, ∃ vs : List Value, ∃ v₀ mC, s' = ⟨h', gn, dr, tk, ost⟩ ∧ St vs.length h' ∧ h'.PlainList D ys ∧ h'.Ns (D + 1) mC ∧ h'.IsCell (D + 1 + 1) v₀ ∧ (∀ j v, vs[j]? = some v → P j v) ∧
        Paired G vs ys.toList ∧ vs.length ≤ n ∧ k = n + 1 - vs.length ∧ (∀ b o, hp.get? b = some o → h'.get? b = some o)) ?_ (n + 1)
      ⟨H4, tt, #[], [], none, _, rfl, hst4, hD4, hC4, hc4, by simp, .nil, Nat.zero_le _, rfl, up4⟩
    rintro k s' ⟨H, tk, ys, vs, v₀, mC, rfl, hst', hacc', hn', hc', hP, hF, hi, rfl, hk'⟩
    have hnI : ∀ b, D ≤ b → b ∉ [I] := fun b hb hm => by rw [List.mem_singleton.mp hm] at hb; exact Nat.lt_irrefl _ (Nat.lt_of_lt_of_le hIl hb)
    by_cases hlt : vs.length < n
    · refine W.item vs.length _ _ _ hlt hst' fun v h₁ tk₁ hPv hst₁ hk₁ => ?_
      obtain ⟨oc, hoc, hocd⟩ := hc'
      refine wpAny_assign_Name (wpAny_storeName_cell eS eX eC ⟨oc, hk₁ _ _ (hnI _ (leN (by omega))) hoc, hocd⟩ fun h₂ hv₂ hs₂ => ?_)
      have up₂ : ∀ b o, b ≠ D + 1 + 1 → b ∉ [I] → H.get? b = some o → h₂.get? b = some o := fun b o hbc hbI e => hs₂.extBut b o hbc (hk₁ b o hbI e)
      have upp : ∀ b o, hp.get? b = some o → h₂.get? b = some o := fun b o e => up₂ b o (neN (by have := old b o e; omega)) (fun hm => by rw [List.mem_singleton.mp hm, hI] at e; cases e) (hk' b o e)
      have hst₂ : St (vs.length + 1) h₂ := W.frame _ _ _ hst₁ fun b hb o e => hs₂.extBut b o (fun hh => hcf' (hh ▸ hb)) e
      refine wpAny_mono (hcv ▸ helt (D + 1) (D + 1 + 1) vs.length v ⟨h₂, gn, dr, _, ost⟩ _ hPv hv₂ upp) (fun y s₄ h₄ => ?_) fun _ _ e => e
      obtain ⟨hGy, h₄, tk₄, rfl, hk₄⟩ := h₄
      have hys : ys.size ≤ sizeLine := by
        have e1 := hF.length
        have e4 : ys.toList.length = ys.size := by simp
        omega
      have hacc₄ : h₄.PlainList D ys := by
        obtain ⟨ep, e⟩ := hacc'
        exact ⟨ep, hk₄ _ _ (up₂ D _ (neN (by omega)) (hnI _ (Nat.le_refl _)) e)⟩
      refine wpAny_list_append_plain (hsz := hys) hacc₄ fun h₅ hl₅ hs₅ => ?_
      refine ⟨n + 1 - (vs.length + 1), by omega, h₅, tk₄, ys.push y, vs ++ [v], some v, mC, rfl, ?_, hl₅, ?_, ?_, ?_, ?_, ?_, ?_, ?_⟩
      · have := W.frame _ _ h₅ hst₂ fun b hb o e => hs₅.extBut b o (fun hh => hDf (hh ▸ hb)) (hk₄ b o e)
        simpa using this
      · exact ((hn'.at' fun o e => up₂ _ o (neN (by omega)) (hnI _ (leN (by omega))) e).keeps hk₄).sameBut hs₅ (neN (by omega))
      · obtain ⟨o, ho, hod⟩ := hv₂
        exact ⟨o, hs₅.extBut _ _ (neN (by omega)) (hk₄ _ _ ho), hod⟩
      · intro j u hj
        rcases Nat.lt_trichotomy j vs.length with hh | hh | hh
        · exact hP j u (by rwa [List.getElem?_append_left hh] at hj)
        · subst hh; simp at hj; subst hj; exact hPv
        · have hnone : (vs ++ [v])[j]? = none := List.getElem?_eq_none (by rw [List.length_append, List.length_singleton]; omega)
          rw [hnone] at hj; cases hj
      · simpa using Paired.snoc hF hGy
      · rw [List.length_append, List.length_singleton]; exact hlt
      · rw [List.length_append, List.length_singleton]
      · exact fun b o e => hs₅.extBut b o (neN (by have := old b o e; omega)) (hk₄ b o (upp b o e))
    · have hin : vs.length = n := by omega
      refine W.done _ _ _ (hin ▸ hst') fun h₁ tk₁ hk₁ => ?_
      refine ⟨mC, hn'.at' fun o e => hk₁ _ o (hnI _ (leN (by omega))) e, fun h₅ hs₅ => ?_⟩
      obtain ⟨ep, hep⟩ := hacc'
      have up : ∀ b o, hp.get? b = some o → h₅.get? b = some o := fun b o e => hs₅.extBut b o (neN (by have := old b o e; omega)) (hk₁ b o (fun hm => by rw [List.mem_singleton.mp hm, hI] at e; cases e) (hk' b o e))
      have hDs : hp.get? D = none := by
        cases q : hp.get? D with
        | none => rfl
        | some o => exact absurd (old _ _ q) (Nat.lt_irrefl _)
      refine hQ D h₅ _ ep ys vs (F.grownK up) (fun q hq => ?_) up (fun q hq e => ?_) hin hP (by rw [List.filter_eq_self.mpr fun _ _ => rfl]; exact hF)
      · rcases List.mem_cons.mp hq with rfl | hq
        · refine ⟨hs₅.extBut _ _ (neN (by omega)) (hk₁ _ _ (hnI _ (Nat.le_refl _)) hep), fun e => ?_, ?_⟩
          · obtain ⟨oL, _, _, e1, _⟩ := F.ns
            rw [← e, hDs] at e1; cases e1
          · cases q : h₀.get? D with
            | none => rfl
            | some o => rw [F.keep _ _ q] at hDs; cases hDs
        · exact (N.grown up) q hq
      · have := (N q hq).1
        rw [e, hDs] at this; cases this
  exact codeAny_compStart_list loop (W.self 0 _ _ _ hst4 loop)

theorem range_cell {elt : Expr} {x : Str} {scope : Scope} {cl : List (Str × Addr)} {Q : Value → Shared → Prop} {G : Value → Value → Prop} {s₁ : Shared} {r : Addr} {a b c : Int} {t u v : Tok} {n : Nat}
    (hh : A.handled = none) (hs₁ : ∃ h1 t1, s₁ = ⟨h1, gn, dr, t1, ost⟩) (hk : ∀ b o, hp.get? b = some o → s₁.heap.get? b = some o) (hr : IsRange s₁.heap r a b c t u v) (hsm : Builtin.Range.small a b c = true) (hn : Builtin.Range.rangeSize a b c = (n : Int)) (hnz : n ≤ 100000)
    (helt : ∀ C c' (i : Nat) tv s₃ E', i < n → s₃.heap.IsCell c' (some (.int (a + i * c) tv)) → (∀ b o, hp.get? b = some o → s₃.heap.get? b = some o) →
      wpAny (model prog w) A (eval elt (compEnvC scope ((x, c') :: cl) C env)) (fun y s₄ => G (.int (a + i * c) tv) y ∧ Keeps s₃ s₄) E' s₃)
    (hQ : ∀ D h' tk ep ys (ts : List Tok), ts.length = n → Fr h₀ L h' m → News h₀ L h' ((D, W.listOf ys ep) :: news) → (∀ b o, hp.get? b = some o → h'.get? b = some o) → (∀ q ∈ news, q.1 ≠ D) →
      Paired G (ts.mapIdx fun i tk => Value.int (a + i * c) tk) ys.toList → Q (.ref D) ⟨h', gn, dr, tk, ost⟩) :
    wpAny (model prog w) A (pyIter (.ref r)) (fun it s₂ => ∃ I fp n P St, it = .ref I ∧ Walks prog w A I fp [I] n P St ∧ n ≤ sizeLine ∧ St 0 s₂.heap ∧ (∀ b ∈ fp, b < s₂.heap.objs.size) ∧
      hp.get? I = none ∧ (∀ b o, hp.get? b = some o → s₂.heap.get? b = some o) ∧ (∃ hh tt, s₂ = ⟨hh, gn, dr, tt, ost⟩) ∧
      (∀ C c i v s₃ E', P i v → s₃.heap.IsCell c (some v) → (∀ b o, hp.get? b = some o → s₃.heap.get? b = some o) → wpAny (model prog w) A (eval elt (compEnvC scope ((x, c) :: cl) C env)) (fun y s₄ => G v y ∧ Keeps s₃ s₄) E' s₃) ∧
      CompOut h₀ L hp gn dr ost m news (fun _ => true) G n P Q) E s₁ := by
  obtain ⟨h1, t1, rfl⟩ := hs₁
  refine wpAny_pyIter_range hr hsm ?_
  have up : ∀ (d : Addr) (o : Obj), h1.get? d = some o → (h1.push { cls := .type "range_iterator", data := .fields #[rawInt a, rawInt (Builtin.Range.rangeSize a b c), rawInt c] }).get? d = some o := fun d o e => Heap.get?_push_of_some _ e
  have hI : hp.get? h1.objs.size = none := by
    cases q : hp.get? h1.objs.size with
    | none => rfl
    | some o => exact absurd (Heap.lt_size (hk _ _ q)) (Nat.lt_irrefl _)
  refine ⟨h1.objs.size, [h1.objs.size], n, fun i v => i < n ∧ ∃ t, v = .int (a + i * c) t, _, rfl, (Walks.range hh _ a c n).bound, by rw [sizeLine_eq]; omega, ?_, ?_, hI, fun b o e => up b o (hk b o e), ⟨_, _, rfl⟩, ?_, ?_⟩
  · show IsRangeIter _ _ _ _ _
    rw [hn]
    simpa using Heap.get?_push_size h1 (o := { cls := .type "range_iterator", data := .fields #[rawInt a, rawInt (n : Int), rawInt c] }) rfl
  · intro b hb
    rw [List.mem_singleton.mp hb]
    show h1.objs.size < (h1.push _).objs.size
    rw [Heap.size_push]; exact Nat.lt_succ_self _
  · rintro C c' i v s₃ E' ⟨hi, tv, rfl⟩ hc hkk
    exact helt C c' i tv s₃ E' hi hc hkk
  · intro D h' tk ep ys vs F' N' up' hne hlen hP hpair
    obtain ⟨ts, h1, h2⟩ := toks_of (a := a) (c := c) vs (fun j v e => (hP j v e).2)
    refine hQ D h' tk ep ys ts (by rw [← hlen, ← h1]) F' N' up' hne ?_
    rw [List.filter_eq_self.mpr fun _ _ => rfl, h2] at hpair
    exact hpair
end
end
section
-- needs C4 L1
section
variable {prog : Program} {w : World} {A : Around} {E : Value → Shared → Prop} {s : Shared} {h₀ : Heap} {L : Addr} {m : Str → Option Value} {news : List (Addr × Obj)}
theorem split_FN {x y : Str} {t u : Tok} {ps : List Str} {Q : Value → Shared → Prop} (F : Fr h₀ L s.heap m) (N : News h₀ L s.heap news) (h1 : (decide (x.length < y.length) || decide (Builtin.Str.strKind x < Builtin.Str.strKind y)) = false) (hy : (y.length == 0) = false)
    (hf : (Builtin.Str.occurrences x y 0 x.length (x.length + 1)).isEmpty = false) (hps : Builtin.Str.partsBetween x (Builtin.Str.occurrences x y 0 x.length (x.length + 1)) y.length = ps) (hx : x.length ≤ sizeLine) (hn : ps.length ≤ sizeLine)
    (h : ∀ D h' k k', Fr h₀ L h' m → News h₀ L h' ((D, { cls := .type "list", data := .seq (strsFrom k ps).toArray }) :: news) → Q (.ref D) { s with heap := h', toks := k' }) :
    wpAny (model prog w) A (call (.builtin "str.split") [.str x t, .str y u]) Q E s := by
  subst hps
  refine call_meets PySem.F.slot_str_split (typeIs_str _ _ _) PySem.F.entry_str_split (PySem.F.args_str_split_2 _ _) (meets_str_split_sep x y t u h1 hy hf hx hn) ?_
  exact h _ _ s.toks _ (F.push _) (N.push F _)
theorem gives_find4 (x y : Str) (i j : Int) (t u v z : Tok) : Gives (Builtin.«str.find» ⟨[.str x t, .str y u, .int i v, .int j z], []⟩) (.int (match Builtin.Str.occurrences x y (fromIndex x.length i) (min (fromIndex x.length j) x.length) 1 with | k :: _ => (k : Int) | [] => -1)) := by
  show Gives (match Builtin.Str.occurrences x y (fromIndex x.length i) (min (fromIndex x.length j) x.length) 1 with | k :: _ => retInt k | [] => (do rule "str.find.not-found"; retInt (-1))) _
  cases Builtin.Str.occurrences x y (fromIndex x.length i) (min (fromIndex x.length j) x.length) 1 with
  | nil => exact .rule (.of_eq rfl)
  | cons k _ => exact .of_eq rfl
theorem find_end {x y : Str} {p : Nat} {t u v z : Tok} {Q : Value → Shared → Prop}
    (h : Q (.int (match Builtin.Str.occurrences x y p x.length 1 with | k :: _ => (k : Int) | [] => -1) s.toks) { s with toks := s.toks + 1 }) :
    wpAny (model prog w) A (call (.builtin "str.find") [.str x t, .str y u, .int (p : Int) v, .int (x.length : Int) z]) Q E s := by
  have e1 : fromIndex x.length (p : Int) = p := by unfold fromIndex; rw [if_neg (by omega)]; omega
  have e2 : min (fromIndex x.length (x.length : Int)) x.length = x.length := by unfold fromIndex; rw [if_neg (by omega)]; omega
  have g := gives_find4 x y p x.length t u v z
  rw [e1, e2] at g
  exact call_gives PySem.F.slot_str_find (typeIs_str _ _ _) PySem.F.entry_str_find (PySem.F.args_str_find_4 _ _ _ _) g h
end
theorem item_list_neg {prog : Program} {w : World} {A : Around} {E : Value → Shared → Prop} {s : Shared} {a : Addr} {items : Array Value} {value slice : Expr} {k : Int} {u : Tok} {v : Value} {Q : Value → Shared → Prop} (hl : s.heap.IsList a items)
    (h0 : k < 0) (h1 : -(items.size : Int) ≤ k) (hfit : -(2 ^ 63) ≤ k) (hx : items[(k + items.size).toNat]? = some v) (h : Q v s)
    (hs : subscripted slice false (.ref a) (.int k u) = operate [.ref a, .int k u] (getItem (.ref a) (.int k u)) := by with_unfolding_all rfl) :
    wpAny (model prog w) A (subscriptTail value slice (.ref a) (.int k u)) Q E s :=
  tail_any hl.typeIs slot_list_getitem.lookup (wpAny_getItem_list_neg hl h0 h1 hfit hx h) hs
theorem strsFrom_get : ∀ (ps : List Str) (k i : Nat) (x : Str), ps[i]? = some x → (strsFrom k ps)[i]? = some (.str x (k + i))
  | [], _, _, _, h => by simp at h
  | y :: ps, k, 0, x, h => by simp at h; simp [strsFrom, h]
  | y :: ps, k, i + 1, x, h => by
    simp at h
    have := strsFrom_get ps (k + 1) i x h
    rw [show k + (i + 1) = k + 1 + i from by omega]
    simpa [strsFrom] using this
theorem strsFrom_at : ∀ (ps : List Str) (k i : Nat) (v : Value), (strsFrom k ps)[i]? = some v → ∃ x, ps[i]? = some x ∧ v = .str x (k + i)
  | [], _, _, _, h => by simp [strsFrom] at h
  | x :: ps, k, 0, v, h => by simp [strsFrom] at h; exact ⟨x, rfl, by rw [← h]; rfl⟩
  | x :: ps, k, i + 1, v, h => by
    simp [strsFrom] at h
    obtain ⟨y, h1, h2⟩ := strsFrom_at ps (k + 1) i v h
    exact ⟨y, by simpa using h1, by rw [h2, Nat.add_assoc, Nat.add_comm 1]⟩

/-- the search, text by text -/
noncomputable def goF (G : Str) : List Str → Nat → Bool
  | [], _ => true
  | x :: r, p => match Builtin.Str.occurrences G x p G.length 1 with
    | k :: _ => goF G r (k + x.length)
    | [] => false

example : True := by
 k_with_none
 k_with "call builtin:str.find" => (refine stop ?_)
 k_with "call builtin:str.split" => (refine stop ?_)
 k_with "exec For Name Name cons nil" => (refine stop ?_)
 k_with "pyIter ref" => (refine stop ?_)
 k_with "subscriptTail" => (refine stop ?_)
 k_with "call builtin:len" => (((with_reducible show wpAny _ _ (call _ [Value.ref _]) _ _ _); refine stop ?_))
 k_with "eval Name" => ((k_here; k_dflt (refine' nameX_L ?zhF ?zhv ?_ ?zha ?zhb; (case zha => rfl); (case zhb => rfl); (case zhF => k_asm); (case zhv => first | exact rfl | assumption); k_whole)))
 trivial
set_option pp.maxSteps 1500
theorem ell_c (prog : Program) (w : World) (A : Around) (s : Shared) (p : Program) (loose : List Str) (mg mb : Str → Option Value)
  (X : (hd.heap_1 w.params).In s.heap) (T : TopRead p loose mg mb s.heap) (hA : A.handled = none) (hdp : A.depth + 20 < recursionLimit) (W G : Str) (t1 t2 : Tok) (mid : List Str)
  (hW : W.length ≤ 100000) (hG : G.length ≤ 100000)
  (q1 : (Builtin.Str.occurrences W "..." 0 W.length 1).isEmpty = false) (q2 : (decide (W.length < Str.length "...") || decide (Builtin.Str.strKind W < Builtin.Str.strKind "...")) = false)
  (q3 : (Builtin.Str.occurrences W "..." 0 W.length (W.length + 1)).isEmpty = false) (q4 : Builtin.Str.partsBetween W (Builtin.Str.occurrences W "..." 0 W.length (W.length + 1)) (Str.length "...") = Str.empty :: (mid ++ [Str.empty])) (q5 : mid.length ≤ 100000) (q6 : ∀ x ∈ mid, x.length ≤ 100000)
  : codeAny (model prog w) A (.call (.ref 28) ⟨[.str W t1, .str G t2], []⟩) (Back (fun v _ => v = .bool (goF G (Str.empty :: (mid ++ [Str.empty])) 0)) s) s := by
  obtain ⟨_, dA, fr, gs, u⟩ := A
  cases hA
  refine' enterP [("want", .str W t1), ("got", .str G t2)] X T ?k6 ?k7 (by omega) ?k9 ?kB ?c5 ?c2 ?c3 ?c4 ?_
  case k6 => k_is
  case k7 => k_is
  case k9 => first | exact BindsTo.of_eq rfl | exact binds_K X rfl (by k_is) rfl rfl rfl
  case kB => exact locs rfl
  case c5 => decide
  case c2 => exact rfl
  case c3 => exact rfl
  case c4 => exact rfl
  intro h1 F N
  k_steps
  refine stop_ ?_
  rename Fr _ _ _ _ => F1
  rename News _ _ _ _ => N1
  refine split_FN F1 N1 q2 (by decide) q3 q4 (by rw [sizeLine_eq]; omega) (by rw [sizeLine_eq]; simp; omega) ?_
  intro ax h2 k k' F2 N2
  have hsz := q5
  k_steps
  refine stop_ ?_
  rename News _ _ _ _ => N3
  refine len_list (items := (strsFrom k (Str.empty :: (mid ++ [Str.empty]))).toArray) ⟨_, (N3 _ (.head _)).1, rfl, _, rfl⟩ (by simp [strsFrom_length]; omega) ?_
  have hs2 : (2 : Int) ≤ ((strsFrom k (Str.empty :: (mid ++ [Str.empty]))).toArray.size : Int) := by rw [List.size_toArray, strsFrom_length]; simp; omega
  k_steps
  refine stop_ ?_
  rename News _ _ _ _ => N4
  have hl4 : Heap.IsList _ ax (strsFrom k (Str.empty :: (mid ++ [Str.empty]))).toArray := ⟨_, (N4 _ (.tail _ (.head _))).1, rfl, _, rfl⟩
  refine item_listM hl4 (by decide) (by decide) (v := .str Str.empty k) (by simp [strsFrom]) ?_
  k_steps
  refine stop_ ?_
  rename News _ _ _ _ => N5
  have hl5 : Heap.IsList _ ax (strsFrom k (Str.empty :: (mid ++ [Str.empty]))).toArray := ⟨_, (N5 _ (.tail _ (.head _))).1, rfl, _, rfl⟩
  refine item_list_neg hl5 (by decide) (by rw [List.size_toArray, strsFrom_length]; simp; omega) (by decide) (v := .str Str.empty (k + (mid.length + 1))) ?_ ?_
  · rw [List.getElem?_toArray, List.size_toArray, strsFrom_length]
    have e : ((-1 : Int) + ((Str.empty :: (mid ++ [Str.empty])).length : Int)).toNat = mid.length + 1 := by simp; omega
    rw [e]
    exact strsFrom_get _ _ _ _ (by simp)
  k_steps
  refine stop_ ?_
  refine wpAny_For ?_
  k_steps
  refine stop_ ?_
  generalize hps : Str.empty :: (mid ++ [Str.empty]) = ps at *
  rename Fr _ _ _ _ => F6
  rename News _ _ _ _ => N6
  refine' for_list ?F ?N (ax := ax) (items := (strsFrom k ps).toArray) (ob := { cls := Value.type "list", data := Data.seq (strsFrom k ps).toArray }) ?hm ?hcl ?hdt
    (fun i m nw => (∃ (pos : Nat) (tp te : Tok), m "startpos" = some (.int (pos : Int) tp) ∧ m "endpos" = some (.int (G.length : Int) te) ∧ m "got" = some (.str G t2) ∧ goF G ps 0 = goF G (ps.drop i) pos) ∧ (ax, ({ cls := Value.type "list", data := Data.seq (strsFrom k ps).toArray } : Obj)) ∈ nw)
    [(ax, { cls := Value.type "list", data := Data.seq (strsFrom k ps).toArray })] ?hrest ?hJm ?hJ ?hh ?hx ?hloc ?hp ?turn ?done PassesOwn.never
  case F => exact F6
  case N => exact N6
  case hm => exact .tail _ (.head _)
  case hcl => rfl
  case hdt => exact ⟨_, rfl⟩
  case hrest => simp
  case hJm => exact fun i m nw h => h.2
  case hJ => exact ⟨⟨0, _, _, rfl, rfl, rfl, rfl⟩, .head _⟩
  case hh => rfl
  case hx => rfl
  case hloc => rfl
  case hp => rfl
  · rintro i m nw h tk I oI v hv ⟨⟨pos, tp, te, e1, e2, e3, e4⟩, hnw⟩ hne F7 N7
    obtain ⟨x, hx, rfl⟩ := strsFrom_at ps k i v (by simpa using hv)
    have hxl : x.length ≤ 100000 := by
      have hm := List.mem_of_getElem? hx
      rw [← hps] at hm
      simp only [List.mem_cons, List.mem_append, List.mem_nil_iff, or_false] at hm
      rcases hm with rfl | hm | rfl
      · decide
      · exact q6 x hm
      · decide
    have hdr : ps.drop i = x :: ps.drop (i + 1) := by
      rw [List.drop_eq_getElem_cons (List.getElem?_eq_some_iff.mp hx).1, (List.getElem?_eq_some_iff.mp hx).2]
    k_steps
    refine stop_ ?_
    refine find_end ?_
    cases hoc : Builtin.Str.occurrences G x pos G.length 1 with
    | nil =>
      dsimp only
      have e5 : goF G ps 0 = false := by rw [e4, hdr, goF, hoc]
      k_steps
      exact ⟨_, _, _, rfl, rfl, (by rename Fr _ _ _ _ => F8; exact F8.keep), by rw [e5]⟩
    | cons kk r =>
      dsimp only
      have e5 : goF G ps 0 = goF G (ps.drop (i + 1)) (kk + x.length) := by rw [e4, hdr, goF, hoc]
      k_steps
      refine TurnEnd.next (rest := nw) (by assumption) (by assumption) (.head _) (fun q hq => ⟨.tail _ hq, hne q hq⟩) ?_
      exact ⟨⟨kk + x.length, _, te, rfl, e2, e3, e5⟩, hnw⟩
  · rintro m nw h tk ⟨⟨pos, tp, te, e1, e2, e3, e4⟩, hnw⟩ F7 N7
    have e5 : goF G ps 0 = true := by
      rw [e4, List.drop_of_length_le (by simp [strsFrom_length])]
      rfl
    k_steps
    exact ⟨_, _, _, rfl, rfl, F7.keep, by rw [e5]⟩

example : True := by
 k_with_none
 trivial
end
section
-- needs C4 L1
section
variable {prog : Program} {w : World} {A : Around} {s : Shared} {R : Result → Shared → Prop} {K : Frag} {p : Program} {loose : List Str} {mg mb : Str → Option Value} {h₀ : Heap} {nws : List (Addr × Obj)}
  {name qual : Str} {params : Arguments} {body : List Stmt} {scope : Scope} {dV kV doc pm cdv ct oc : Value} {an od : Option Addr} {osl : Array (Option Value)} {f : Addr} {args : Args} {binds : List (Str × Value)}
/-- the call's own things known as new: nws stand outside the base -/
theorem enterN (binds : List (Str × Value)) (X : K.In h₀) (T : TopRead p loose mg mb h₀) (hk : ∀ b o, h₀.get? b = some o → s.heap.get? b = some o) (hN : ∀ q ∈ nws, s.heap.get? q.1 = some q.2 ∧ h₀.get? q.1 = none)
    (ho : K.lookup f = some ⟨oc, od, .func (fnOf name qual params body scope dV kV doc pm an cdv ct), osl⟩) (hcd : codeIn K cdv qual = true) (hroom : A.depth < recursionLimit)
    (hbind : BindsTo s (fnOf name qual params body scope dV kV doc pm an cdv ct) args binds) (hloc : ∀ y ∈ binds, scope.names.lookup y.1 = some .local)
    (hcell : ∀ x ∈ scope.names, x.2 ≠ .cell) (hco : scope.isCoroutine = false) (hgen : scope.isGenerator = false) (hkd : scope.kind = .function)
    (h : ∀ g h₁, (∀ b o, b ∉ nws.map (·.1) → s.heap.get? b = some o → g.get? b = some o) → (∀ b o, h₀.get? b = some o → g.get? b = some o) → g.objs.size = s.heap.objs.size → Fr g s.heap.objs.size h₁ (fun y => binds.reverse.lookup y) → News g s.heap.objs.size h₁ nws →
      wpAny (model prog w) (A.deeper (envOf qual scope s.heap.objs.size f cdv)) (execs body (envOf qual scope s.heap.objs.size f cdv))
        (fun fl s' => R (.ok (.ret (match fl with | .ret v => v | _ => .none))) s') (fun _ _ => False) { s with heap := h₁, toks := s.toks + binds.length }) :
    codeAny (model prog w) A (.call (.ref f) args) R s := by
  refine codeAny_call_def (fd := fnOf name qual params body scope dV kV doc pm an cdv ct) (body := body) (binds := binds) hroom (hk _ _ (X _ _ ho)) rfl (T.nolimit.keeps hk) ((codeRec_of X hcd).keeps hk) rfl hbind hcell hloc (fun h₁ hns hk₁ => ?_) hco hgen hkd
  have hold : ∀ b o, h₀.get? b = some o → b ∉ nws.map (·.1) := fun b o e q => by
    obtain ⟨q', hq, rfl⟩ := List.mem_map.mp q
    rw [(hN q' hq).2] at e; cases e
  exact wpAny_mono (h (hideAll s.heap (nws.map (·.1))) h₁ (fun b o hb e => hideAll_get _ e hb) (fun b o e => hideAll_get _ (hk b o e) (hold b o e)) (hideAll_size _ _) ⟨hns, fun b o e => hk₁ b o (of_hideAll _ e), Nat.le_of_eq (hideAll_size _ _)⟩
    (fun q hq => ⟨hk₁ _ _ (hN q hq).1, Nat.ne_of_lt (Heap.lt_size (hN q hq).1), hideAll_none _ (List.mem_map_of_mem hq)⟩)) (fun _ _ x => x) (fun _ _ x => x.elim)
end

noncomputable def bump (cs : List Int) (b : Nat) : List Int := (if cs.length ≤ b then cs ++ List.replicate (b - cs.length + 1) 0 else cs).set b ((if cs.length ≤ b then cs ++ List.replicate (b - cs.length + 1) 0 else cs).getD b 0 + 1)
noncomputable def wsGo : List Nat → List Int → Nat → Nat → Nat → List Int × Nat × Nat × Nat
  | [], cs, b, n, nt => (cs, b, n, nt)
  | c :: r, cs, b, n, nt => if c = 32 then wsGo r cs (b + 1) (n + 1) nt else if c = 9 then wsGo r (bump cs b) 0 (n + 1) (nt + 1) else (cs, b, n, nt)
noncomputable def rawE (P : Params) (G : Str) (t k : Tok) : DictEntry := { hash := PyData.keyHash P "raw", key := .str "raw" k, val := .str G t }

noncomputable def WsI (P : Params) (x dx : Addr) (G : Str) (t kx : Tok) (m : Str → Option Value) (nw : List (Addr × Obj)) (cs : List Int) (b n nt : Nat) : Prop :=
  ∃ (c : Addr) (ep : Nat) (vs : List Value) (k1 k2 k3 : Tok), m "S" = some (.str " " 320) ∧ m "T" = some (.str "\t" 321) ∧ m "self" = some (.ref x) ∧ m "count" = some (.ref c) ∧ m "b" = some (.int (b : Int) k1) ∧ m "n" = some (.int (n : Int) k2) ∧ m "nt" = some (.int (nt : Int) k3) ∧
    IntsAre vs cs ∧ nw = [(c, W.listOf vs.toArray ep), (x, instObj 140 dx), (dx, dictOf [rawE P G t kx] 1)] ∧ @LT.lt Nat _ x c

theorem ch_sp {c : Nat} : (({ cps := #[c] } : Str) == Str.ofString " ") = decide (c = 32) := by
  have e : Str.ofString " " = { cps := #[32] } := by decide +kernel
  rw [e]
  by_cases h : c = 32 <;> simp [h]
theorem ch_tab {c : Nat} : (({ cps := #[c] } : Str) == Str.ofString "\t") = decide (c = 9) := by
  have e : Str.ofString "\t" = { cps := #[9] } := by decide +kernel
  rw [e]
  by_cases h : c = 9 <;> simp [h]
theorem News_tl {h₀ h : Heap} {L : Addr} {q : Addr × Obj} {nw : List (Addr × Obj)} (N : News h₀ L h (q :: nw)) : News h₀ L h nw := fun p hp => N p (.tail _ hp)
theorem News_neC {h₀ h : Heap} {L a b : Addr} {o1 o2 : Obj} {nw : List (Addr × Obj)} (N : News h₀ L h nw) (h1 : (a, o1) ∈ nw) (h2 : (b, o2) ∈ nw) (hc : o1.cls ≠ o2.cls) : @Ne Nat a b := fun e => by
  have q1 := (N _ h1).1
  have q2 := (N _ h2).1
  dsimp only at q1 q2
  rw [show (a : Addr) = b from e, q2] at q1
  cases q1
  exact hc rfl
theorem fresh_of {g hh h' : Heap} {L x dx T : Addr} {oT ox od ox0 od0 : Obj} {nw : List (Addr × Obj)} (N : News g L h' nw) (hT : (T, oT) ∈ nw) (hx : (x, ox) ∈ nw) (hdx : (dx, od) ∈ nw) (c1 : oT.cls ≠ ox.cls) (c2 : oT.cls ≠ od.cls)
    (hg : ∀ b o, b ∉ [(x, ox0), (dx, od0)].map (·.1) → hh.get? b = some o → g.get? b = some o) : hh.get? T = none := by
  cases q : hh.get? T with
  | none => rfl
  | some o' =>
    exfalso
    have e1 : T ≠ x := News_neC N hT hx c1
    have e2 : T ≠ dx := News_neC N hT hdx c2
    have := (N _ hT).2.2
    rw [hg T o' (by simp [e1, e2]) q] at this
    cases this
theorem flat_rep (k : Nat) : (List.replicate k [(0 : Int)]).flatten = List.replicate k 0 := by
  induction k with
  | zero => rfl
  | succ k ih => rw [List.replicate_succ, List.flatten_cons, ih]; rfl
example : True := by
 k_with_none
 k_with "eval Name" => ((k_here; k_dflt (refine' nameX_L ?zhF ?zhv ?_ ?zha ?zhb; (case zha => rfl); (case zhb => rfl); (case zhF => k_asm); (case zhv => first | exact rfl | assumption); k_whole)))
 k_with "call builtin:len" => (((with_reducible show wpAny _ _ (call _ [Value.ref _]) _ _ _); (with_reducible rename News _ _ _ _ => N'); refine len_list ⟨_, (N' _ (by k_mem)).1, rfl, _, rfl⟩ (by rw [List.size_toArray]; omega) ?_; try dsimp only))
 k_with "pyIter str" => (refine stop ?_)
 k_with "exec For Name Attribute cons nil" => (refine stop ?_)
 trivial
set_option pp.maxSteps 2000
noncomputable def IsLead (P : Params) (h h' : Heap) (dx : Addr) (G : Str) (t : Tok) (r : List Int × Nat × Nat × Nat) : Prop :=
  ∃ (T T2 : Addr) (vs : List Value) (a0 a1 a2 a3 a4 a5 a6 k1 : Tok) (bs : Bool) (z : Nat), h'.get? dx = some (dictOf [⟨PyData.keyHash P "raw", .str "raw" a0, .str G t⟩, ⟨PyData.keyHash P "n", .str "n" a1, .int (r.2.2.1 : Int) a2⟩, ⟨PyData.keyHash P "nt", .str "nt" a3, .int (r.2.2.2 : Int) a4⟩,
      ⟨PyData.keyHash P "norm", .str "norm" a5, .ref T⟩, ⟨PyData.keyHash P "is_simple", .str "is_simple" a6, .bool bs⟩] z) ∧
    h'.get? T = some { cls := .type "tuple", data := .seq #[.ref T2, .int (r.2.1 : Int) k1] } ∧ h'.get? T2 = some { cls := .type "tuple", data := .seq vs.toArray } ∧ IntsAre vs r.1 ∧ h.get? T = none ∧ h.get? T2 = none
theorem wsI_c (prog : Program) (w : World) (A : Around) (s : Shared) (p : Program) (loose : List Str) (mg mb : Str → Option Value) (h₀ : Heap)
  (X : (hd.heap_1 w.params).In h₀) (T : TopRead p loose mg mb h₀) (hA : A.handled = none) (hdp : A.depth + 20 < recursionLimit) (hk : ∀ b o, h₀.get? b = some o → s.heap.get? b = some o)
  (x dx : Addr) (hxd : dx < x) (hx : s.heap.get? x = some (instObj 140 dx) ∧ h₀.get? x = none) (hdx : s.heap.get? dx = some (dictOf [] 0) ∧ h₀.get? dx = none) (G : Str) (t : Tok)
  (hG : G.length ≤ 10000)
  : codeAny (model prog w) A (.call (.ref 95) ⟨[.ref x, .str G t], []⟩) (BackBut dx (fun v h' => v = .none ∧ IsLead w.params s.heap h' dx G t (wsGo G.cps.toList [] 0 0 0)) s) s := by
  obtain ⟨_, dA, fr, gs, u⟩ := A
  cases hA
  refine' enterN (nws := [(x, instObj 140 dx), (dx, dictOf [] 0)]) [("self", .ref x), ("ws", .str G t)] X T hk ?kN ?k6 ?k7 (Nat.lt_of_le_of_lt (Nat.le_add_right _ 20) hdp) ?k9 ?kB ?c5 ?c2 ?c3 ?c4 ?_
  case kN => simp [hx, hdx]
  case k6 => k_is
  case k7 => k_is
  case k9 => first | exact BindsTo.of_eq rfl | exact binds_K X rfl (by k_is) rfl rfl rfl
  case kB => exact locs rfl
  case c5 => decide
  case c2 => exact rfl
  case c3 => exact rfl
  case c4 => exact rfl
  intro g h1 hg hg0 hgs F N
  have X' := X.keeps hg0
  have T' := T.keeps hg0
  clear X T
  replace hxd := ltN hxd
  k_steps
  refine stop_ ?_
  rename Fr _ _ _ _ => F1
  rename News _ _ _ _ => N1
  generalize hkx : (_ : Nat) + 1 = kx at N1
  rename (_ ∧ x < _ ∧ dx < _) => ql
  rename_i lc _ _ _ _ _
  refine wpAny_mono (Q := fun f s' => f = .next ∧ ∃ h' tk m nw cs b n nt, s' = { s with heap := h', toks := tk } ∧ Fr g s.heap.objs.size h' m ∧ News g s.heap.objs.size h' nw ∧ WsI w.params x dx G t kx m nw cs b n nt ∧ wsGo G.cps.toList [] 0 0 0 = (cs, b, n, nt) ∧ cs.length ≤ 10000) ?_ ?_ (fun _ _ e => e)
  · refine wpAny_For ?_
    k_steps
    refine stop_ ?_
    rename Fr _ _ _ _ => F2
    rename News _ _ _ _ => N2
    refine' for_str ?F ?N (X := G) (fun i m nw => ∃ cs b n nt, WsI w.params x dx G t kx m nw cs b n nt ∧ wsGo G.cps.toList [] 0 0 0 = wsGo (G.cps.toList.drop i) cs b n nt ∧ b ≤ i ∧ cs.length ≤ i)
      [(lc, W.listOf #[] 0), (x, instObj 140 dx), (dx, dictOf [rawE w.params G t kx] 1)] ?hrest ?hJ ?hh ?hx ?hloc ?hp ?turn ?done PassesOwn.never
    case F => exact F2
    case N => exact N2
    case hJ => exact ⟨[], 0, 0, 0, ⟨_, 0, [], _, _, _, rfl, rfl, rfl, rfl, rfl, rfl, rfl, .nil, rfl, ql.2.1⟩, rfl, Nat.le_refl _, Nat.le_refl _⟩
    case hrest =>
      intro q hq
      rcases List.mem_cons.mp hq with rfl | hq
      · exact .head _
      · exact .tail _ (.tail _ hq)
    case hh => rfl
    case hx => rfl
    case hloc => rfl
    case hp => rfl
    · rintro i m nw h tk I oI c0 u0 hc0 ⟨cs, b, n, nt, ⟨c, ep, vs, k1, k2, k3, e1, e2, e3, e4, e5, e6, e7, hvs, rfl, hcx⟩, hgo, hb, hcs⟩ hne F3 N3
      have hvl : vs.length = cs.length := hvs.length
      have hil : i < G.cps.size := by have := (Array.getElem?_eq_some_iff.mp hc0).1; exact this
      have hGs : G.cps.size ≤ 10000 := hG
      have hIc := neN (Ne.symm (hne _ (.head _)))
      have hIx := neN (Ne.symm (hne _ (.tail _ (.head _))))
      have hId := neN (Ne.symm (hne _ (.tail _ (.tail _ (.head _)))))
      dsimp only at hIc hIx hId
      have hdr : G.cps.toList.drop i = c0 :: G.cps.toList.drop (i + 1) := by
        have hl : i < G.cps.toList.length := by simpa using hil
        rw [List.drop_eq_getElem_cons hl]
        congr 1
        have := (Array.getElem?_eq_some_iff.mp hc0).2
        simpa using this
      k_steps
      · rename (_ == _) = true => hs1
        rw [ch_sp, decide_eq_true_eq] at hs1
        refine TurnEnd.next (rest := [(c, W.listOf vs.toArray ep), (x, instObj 140 dx), (dx, dictOf [rawE w.params G t kx] 1)]) (by assumption) (by assumption) (by k_mem) (fun q hq => ⟨.tail _ hq, hne q hq⟩) ?_
        refine ⟨cs, b + 1, n + 1, nt, ⟨c, ep, vs, _, _, _, e1, e2, e3, e4, rfl, rfl, e7, hvs, rfl, hcx⟩, ?_, by omega, by omega⟩
        rw [hgo, hdr, wsGo, if_pos hs1]
      · rename (_ == Str.ofString "\t") = true => hs2
        rename (_ == Str.ofString " ") = false => hs1
        rename (_ : Int) ≤ (b : Int) => hle
        rw [ch_sp, decide_eq_false_iff_not] at hs1
        rw [ch_tab, decide_eq_true_eq] at hs2
        refine TurnEnd.nextJ (by assumption) (by assumption) (by k_mem) ?_
        refine ⟨_, ⟨_, 0, n + 1, nt + 1, ⟨_, 0, _, _, _, _, e1, e2, e3, rfl, rfl, rfl, rfl, by assumption, rfl, by omega⟩, ?_, by omega, ?_⟩, ?_⟩
        · rw [hgo, hdr, wsGo, if_neg hs1, if_pos hs2]
          congr 1
          have hk : ((b : Int) - (cs.length : Int) + 1).toNat = b - cs.length + 1 := by omega
          rw [hk, flat_rep, bump, if_pos (by omega)]
          rfl
        · rw [flat_rep]; simp; omega
        · intro q hq
          simp only [List.mem_cons, List.not_mem_nil, or_false] at hq
          rcases hq with rfl | rfl | rfl
          · exact ⟨by k_mem, by k_ne⟩
          · exact ⟨by k_mem, by k_ne⟩
          · exact ⟨by k_mem, by k_ne⟩
      · rename (_ == Str.ofString "\t") = true => hs2
        rename (_ == Str.ofString " ") = false => hs1
        rename ¬ (_ : Int) ≤ (b : Int) => hle
        rw [ch_sp, decide_eq_false_iff_not] at hs1
        rw [ch_tab, decide_eq_true_eq] at hs2
        refine TurnEnd.nextJ (by assumption) (by assumption) (by k_mem) ?_
        refine ⟨_, ⟨_, 0, n + 1, nt + 1, ⟨_, ep, _, _, _, _, e1, e2, e3, e4, rfl, rfl, rfl, by assumption, rfl, by omega⟩, ?_, by omega, ?_⟩, ?_⟩
        · rw [hgo, hdr, wsGo, if_neg hs1, if_pos hs2]
          congr 1
          rw [bump, if_neg (by omega)]
          rfl
        · simp; omega
        · intro q hq
          simp only [List.mem_cons, List.not_mem_nil, or_false] at hq
          rcases hq with rfl | rfl | rfl
          · exact ⟨by k_mem, by k_ne⟩
          · exact ⟨by k_mem, by k_ne⟩
          · exact ⟨by k_mem, by k_ne⟩
      · rename (_ == Str.ofString "\t") = false => hs2
        rename (_ == Str.ofString " ") = false => hs1
        rw [ch_sp, decide_eq_false_iff_not] at hs1
        rw [ch_tab, decide_eq_false_iff_not] at hs2
        refine ⟨rfl, _, _, _, _, cs, b, n, nt, rfl, by assumption, News_tl (by assumption : News _ _ _ ((I, oI) :: _)), ?_, ?_, by omega⟩
        · exact ⟨c, ep, vs, k1, k2, k3, e1, e2, e3, e4, e5, e6, e7, hvs, rfl, hcx⟩
        rw [hgo, hdr, wsGo, if_neg hs1, if_neg hs2]
    · rintro m nw h tk ⟨cs, b, n, nt, hI, hgo, hb, hcs⟩ F3 N3
      refine ⟨rfl, h, tk, m, nw, cs, b, n, nt, rfl, F3, N3, hI, ?_, Nat.le_trans hcs hG⟩
      rw [hgo, List.drop_of_length_le (by simp)]
      rfl
  · rintro f s' ⟨rfl, h, tk, m, nw, cs, b, n, nt, rfl, F3, N3, ⟨c, ep, vs, k1, k2, k3, e1, e2, e3, e4, e5, e6, e7, hvs, rfl, hcx⟩, hgo, hcl⟩
    have hvl : vs.length = cs.length := hvs.length
    k_steps
    rename News _ _ _ _ => N4
    have hD := News_neC N4 (.tail _ (.head _)) (.tail _ (.tail _ (.tail _ (.tail _ (.head _))))) (by simp)
    k_steps
    rename Fr _ _ _ _ => F5
    rename News _ _ _ _ => N5
    have hm : ∀ q ∈ [(x, instObj 140 dx), (dx, dictOf [] 0)], s.heap.get? q.1 = some q.2 := by simp [hx.1, hdx.1]
    refine ⟨_, _, _, rfl, rfl, fun d o hd e => ?_, rfl, ?_⟩
    · by_cases hdx' : d = x
      · subst hdx'
        rw [hx.1] at e; cases e
        exact (N5 _ (.tail _ (.tail _ (.tail _ (.head _))))).1
      · exact F5.keep _ _ (hg d o (by simp [hd, hdx']) e)
    · rw [hgo]
      refine ⟨_, _, vs, _, _, _, _, _, _, _, _, _, _, (N5 _ (.tail _ (.tail _ (.tail _ (.tail _ (.head _)))))).1, (N5 _ (.head _)).1, (N5 _ (.tail _ (.head _))).1, hvs, ?_, ?_⟩
      · exact fresh_of N5 (.head _) (.tail _ (.tail _ (.tail _ (.head _)))) (.tail _ (.tail _ (.tail _ (.tail _ (.head _))))) (by simp) (by simp) hg
      · exact fresh_of N5 (.tail _ (.head _)) (.tail _ (.tail _ (.tail _ (.head _)))) (.tail _ (.tail _ (.tail _ (.tail _ (.head _))))) (by simp) (by simp) hg

example : True := by
 k_with_none
 trivial
end
section
noncomputable abbrev tupOf (its : Array Value) : Obj := { cls := .type "tuple", data := .seq its }
/-- written out -/
noncomputable def leadN (P : Params) (x dx T T2 : Addr) (G : Str) (t : Tok) (b n nt : Nat) (vs : List Value) (a0 a1 a2 a3 a4 a5 a6 k1 : Tok) (bs : Bool) (z : Nat) : List (Addr × Obj) :=
  [(x, instObj 140 dx), (dx, dictOf [⟨PyData.keyHash P "raw", .str "raw" a0, .str G t⟩, ⟨PyData.keyHash P "n", .str "n" a1, .int (n : Int) a2⟩, ⟨PyData.keyHash P "nt", .str "nt" a3, .int (nt : Int) a4⟩,
      ⟨PyData.keyHash P "norm", .str "norm" a5, .ref T⟩, ⟨PyData.keyHash P "is_simple", .str "is_simple" a6, .bool bs⟩] z), (T, tupOf #[.ref T2, .int (b : Int) k1]), (T2, tupOf vs.toArray)]
example : True := by
 k_with_none
 k_with "call builtin:len" => (((with_reducible show wpAny _ _ (call _ [Value.ref _]) _ _ _); refine stop ?_))
 k_with "exec For Name Call cons nil" => (refine stop ?_)
 k_with "pyIter ref" => (refine stop ?_)
 k_with "eval Name" => ((k_here; k_dflt (refine' nameX_L ?zhF ?zhv ?_ ?zha ?zhb; (case zha => rfl); (case zhb => rfl); (case zhF => k_asm); (case zhv => first | exact rfl | assumption); k_whole)))
 trivial
set_option pp.maxSteps 2000
theorem back_N {s : Shared} {g h' : Heap} {L : Addr} {m : Str → Option Value} {nws nw : List (Addr × Obj)} {v : Value} {P : Value → Heap → Prop} {s' : Shared} (F : Fr g L h' m) (N : News g L h' nw)
    (hg : ∀ b o, b ∉ nws.map (·.1) → s.heap.get? b = some o → g.get? b = some o) (hs : ∀ q ∈ nws, s.heap.get? q.1 = some q.2) (hm : ∀ q ∈ nws, q ∈ nw) (hs' : ∃ tk, s' = { s with heap := h', toks := tk }) (hP : P v h') : Back P s (.ok (.ret v)) s' := by
  obtain ⟨tk, rfl⟩ := hs'
  refine ⟨v, h', tk, rfl, rfl, fun b o e => ?_, hP⟩
  by_cases hb : b ∈ nws.map (·.1)
  · obtain ⟨q, hq, rfl⟩ := List.mem_map.mp hb
    rw [hs q hq] at e; cases e
    exact (N q (hm q hq)).1
  · exact F.keep _ _ (hg b o hb e)

theorem long_c (prog : Program) (w : World) (A : Around) (s : Shared) (p : Program) (loose : List Str) (mg mb : Str → Option Value) (h₀ : Heap)
  (X : (hd.heap_1 w.params).In h₀) (T' : TopRead p loose mg mb h₀) (hA : A.handled = none) (hdp : A.depth + 20 < recursionLimit) (hk : ∀ b o, h₀.get? b = some o → s.heap.get? b = some o)
  (x dx T T2 : Addr) (G : Str) (t : Tok) (b n nt : Nat) (vs : List Value) (cs : List Int) (a0 a1 a2 a3 a4 a5 a6 k1 : Tok) (bs : Bool) (z : Nat) (hvs : IntsAre vs cs) (hcs : cs.length ≤ 10000)
  (hN : ∀ q ∈ leadN w.params x dx T T2 G t b n nt vs a0 a1 a2 a3 a4 a5 a6 k1 bs z, s.heap.get? q.1 = some q.2 ∧ h₀.get? q.1 = none)
  : codeAny (model prog w) A (.call (.ref 102) ⟨[.ref x], []⟩) (Back (fun v _ => ∃ k, v = .int (max ((cs.length : Int) - 1) b) k) s) s := by
  obtain ⟨_, dA, fr, gs, u⟩ := A
  cases hA
  refine' enterN (nws := leadN w.params x dx T T2 G t b n nt vs a0 a1 a2 a3 a4 a5 a6 k1 bs z) [("self", .ref x)] X T' hk hN ?k6 ?k7 (Nat.lt_of_le_of_lt (Nat.le_add_right _ 20) hdp) ?k9 ?kB ?c5 ?c2 ?c3 ?c4 ?_
  case k6 => k_is
  case k7 => k_is
  case k9 => first | exact BindsTo.of_eq rfl | exact binds_K X rfl (by k_is) rfl rfl rfl
  case kB => exact locs rfl
  case c5 => decide
  case c2 => exact rfl
  case c3 => exact rfl
  case c4 => exact rfl
  intro g h1 hg hg0 hgs F N
  have X' := X.keeps hg0
  have T'' := T'.keeps hg0
  have hm := fun q hq => (hN q hq).1
  clear X T' hN
  have hvl := hvs.length
  unfold leadN at N
  k_steps
  refine stop_ ?_
  rename News _ _ _ _ => N2
  refine len_tuple ⟨_, (N2 _ (.tail _ (.tail _ (.tail _ (.head _))))).1, rfl, _, rfl⟩ (by rw [List.size_toArray]; omega) ?_
  k_steps
  refine back_N (by assumption) (by assumption) hg hm (fun q hq => hq) ⟨_, rfl⟩ ⟨_, congrArg (fun z => Value.int z _) ?_⟩
  rw [List.size_toArray, hvl]
  split <;> omega

/-- the sum over the runs, by the tab size -/
noncomputable def ilF (cs : List Int) (t : Int) : Nat → Nat → Int
  | _, 0 => 0
  | a, k + 1 => (a : Int) / t * cs.getD a 0 + ilF cs t (a + 1) k

theorem ilF_succ (cs : List Int) (t : Int) : ∀ (k a : Nat), ilF cs t a (k + 1) = ilF cs t a k + ((a : Int) + (k : Int)) / t * cs.getD (a + k) 0
  | 0, a => by simp [ilF]
  | k + 1, a => by
    rw [ilF, ilF_succ cs t k (a + 1), ilF, Int.add_assoc]
    have e1 : ((a + 1 : Nat) : Int) + (k : Int) = (a : Int) + ((k + 1 : Nat) : Int) := by omega
    have e2 : a + 1 + k = a + (k + 1) := by omega
    rw [e1, e2]
theorem ind_c (prog : Program) (w : World) (A : Around) (s : Shared) (p : Program) (loose : List Str) (mg mb : Str → Option Value) (h₀ : Heap)
  (X : (hd.heap_1 w.params).In h₀) (T' : TopRead p loose mg mb h₀) (hA : A.handled = none) (hdp : A.depth + 20 < recursionLimit) (hk : ∀ b o, h₀.get? b = some o → s.heap.get? b = some o)
  (x dx T T2 : Addr) (G : Str) (t : Tok) (b n nt : Nat) (vs : List Value) (cs : List Int) (a0 a1 a2 a3 a4 a5 a6 k1 : Tok) (bs : Bool) (z : Nat) (hvs : IntsAre vs cs) (hcs : cs.length ≤ 10000)
  (hN : ∀ q ∈ leadN w.params x dx T T2 G t b n nt vs a0 a1 a2 a3 a4 a5 a6 k1 bs z, s.heap.get? q.1 = some q.2 ∧ h₀.get? q.1 = none) (ts : Nat) (ks : Tok) (hts : 0 < ts ∧ ts ≤ 9) (hcb : ∀ v ∈ cs, 0 ≤ v ∧ v ≤ 10000) (hnt : nt ≤ 10000)
  : codeAny (model prog w) A (.call (.ref 109) ⟨[.ref x, .int (ts : Int) ks], []⟩) (Back (fun v _ => ∃ k, v = .int ((b : Int) + ts * (ilF cs ts ts (cs.length - ts) + nt)) k) s) s := by
  obtain ⟨_, dA, fr, gs, u⟩ := A
  cases hA
  refine' enterN (nws := leadN w.params x dx T T2 G t b n nt vs a0 a1 a2 a3 a4 a5 a6 k1 bs z) [("self", .ref x), ("tabsize", .int (ts : Int) ks)] X T' hk hN ?k6 ?k7 (Nat.lt_of_le_of_lt (Nat.le_add_right _ 20) hdp) ?k9 ?kB ?c5 ?c2 ?c3 ?c4 ?_
  case k6 => k_is
  case k7 => k_is
  case k9 => first | exact BindsTo.of_eq rfl | exact binds_K X rfl (by k_is) rfl rfl rfl
  case kB => exact locs rfl
  case c5 => decide
  case c2 => exact rfl
  case c3 => exact rfl
  case c4 => exact rfl
  intro g h1 hg hg0 hgs F N
  have X' := X.keeps hg0
  have T'' := T'.keeps hg0
  have hm := fun q hq => (hN q hq).1
  clear X T' hN
  have hvl := hvs.length
  unfold leadN at N
  k_steps
  refine stop_ ?_
  refine wpAny_For ?_
  k_steps
  refine stop_ ?_
  rename News _ _ _ _ => N2
  refine len_tuple ⟨_, (N2 _ (.tail _ (.tail _ (.tail _ (.head _))))).1, rfl, _, rfl⟩ (by rw [List.size_toArray]; omega) ?_
  k_steps
  refine stop_ ?_
  rename Fr _ _ _ _ => F3
  rename News _ _ _ _ => N3
  rename IsRange _ _ _ _ _ _ _ _ => R3
  have hsz : Builtin.Range.rangeSize (ts : Int) (cs.length : Int) 1 = ((cs.length - ts : Nat) : Int) := by
    rw [rangeSize_one]; split <;> omega
  refine' for_range (n := cs.length - ts) (a := (ts : Int)) (b := (cs.length : Int)) (c := 1) ?F ?N ?R ?hsm ?hn
    (fun i m nw => (∃ k, m "il" = some (.int (ilF cs ts ts i) k)) ∧ m "self" = some (.ref x) ∧ m "tabsize" = some (.int (ts : Int) ks) ∧ m "count" = some (.ref T2) ∧ m "trailing" = some (.int (b : Int) k1) ∧ nw = leadN w.params x dx T T2 G t b n nt vs a0 a1 a2 a3 a4 a5 a6 k1 bs z)
    (leadN w.params x dx T T2 G t b n nt vs a0 a1 a2 a3 a4 a5 a6 k1 bs z) ?hrest ?hJ ?hh ?hx ?hloc ?hp ?turn ?done PassesOwn.never
  case F => exact F3
  case N => exact N3
  case R => exact R3
  case hsm => exact small_one (by omega) (by omega) (by omega) (by omega)
  case hn => exact hsz
  case hrest => exact fun q hq => hq
  case hJ => exact ⟨⟨_, rfl⟩, rfl, rfl, rfl, rfl, rfl⟩
  case hh => rfl
  case hx => rfl
  case hloc => rfl
  case hp => rfl
  case turn =>
    rintro i m nw h tk I oI tv hi ⟨⟨k, e1⟩, e2, e3, e4, e5, rfl⟩ hne F4 N4
    have hfd : ((ts : Int) + (i : Int) * 1).fdiv (ts : Int) = ((ts : Int) + (i : Int) * 1) / (ts : Int) := Int.fdiv_eq_ediv_of_nonneg _ (by omega)
    have hf1 : 0 ≤ ((ts : Int) + (i : Int) * 1).fdiv (ts : Int) := by rw [hfd]; exact Int.ediv_nonneg (by omega) (by omega)
    have hf2 : ((ts : Int) + (i : Int) * 1).fdiv (ts : Int) ≤ 20000 := by rw [hfd]; exact Int.le_trans (Int.ediv_le_self _ (by omega)) (by omega)
    k_steps
    refine TurnEnd.nextJ (by assumption) (by assumption) (by k_mem) ?_
    refine ⟨_, ⟨⟨_, congrArg (fun z => some (Value.int z _)) ?_⟩, e2, e3, e4, e5, rfl⟩, fun q hq => ⟨.tail _ hq, hne q hq⟩⟩
    have e : ((ts : Int) + (i : Int) * 1).toNat = ts + i := by omega
    rw [ilF_succ, hfd, e, Int.mul_one]
  case done =>
    rintro m nw h tk ⟨⟨k, e1⟩, e2, e3, e4, e5, rfl⟩ F4 N4
    k_steps
    exact back_N F4 N4 hg hm (fun q hq => hq) ⟨_, rfl⟩ ⟨_, rfl⟩

example : True := by
 k_with_none
 trivial
end
section
-- needs C7 C2 C5 L2 L3
noncomputable def fdAt (P : Params) (a : Nat) : FuncData := match (hd.heap_1 P).lookup a with | some ⟨_, _, .func fd, _⟩ => fd | _ => default
noncomputable def bodyAt (P : Params) (a : Nat) : List Stmt := match (fdAt P a).body with | .stmts b => b | _ => []
noncomputable def scopeAt (P : Params) (a : Nat) : Scope := (fdAt P a).scope
noncomputable def forAt (b : List Stmt) (i : Nat) : List Stmt := match b.drop i with | .For _ _ b _ _ :: _ => b | _ => []
noncomputable def flB (b : Bool) : UInt64 := if b then 4607182418800017408 else 0
noncomputable def memV : Bool → Bool → Bool → Tok → Tok → Tok → List Value
  | false, false, false, _, _, _ => []
  | false, false, true, _, _, tc => [.int 2 tc]
  | false, true, false, _, tb, _ => [.int 1 tb]
  | false, true, true, _, tb, tc => [.int 1 tb, .int 2 tc]
  | true, false, false, ta, _, _ => [.int 0 ta]
  | true, false, true, ta, _, tc => [.int 0 ta, .int 2 tc]
  | true, true, false, ta, tb, _ => [.int 0 ta, .int 1 tb]
  | true, true, true, ta, tb, tc => [.int 0 ta, .int 1 tb, .int 2 tc]
/-- the sixth of the wheel -/
noncomputable def sixB : Bool → Bool → Bool → Option Int
  | true, false, false => some 0
  | true, true, false => some 1
  | false, true, false => some 2
  | false, true, true => some 3
  | false, false, true => some 4
  | true, false, true => some 5
  | _, _, _ => none
noncomputable def intF (x : UInt64) : Option Int := match Float64.decode x with | .fin sg m e => some (Float64.truncOf sg m e) | _ => none
section
variable {prog : Program} {w : World} {A : Around} {E : Value → Shared → Prop} {s : Shared} {Q : Value → Shared → Prop}
theorem intF_ok {x : UInt64} {t : Tok} (hf : (intF x).isSome = true) (h : Q (.int ((intF x).getD 0) s.toks) { s with toks := s.toks + 1 }) : wpAny (model prog w) A (call (.type "int") [.float x t]) Q E s := by
  unfold intF at hf h
  split at hf
  · rename_i sg m e hd
    rw [hd] at h
    exact call_int_float hd h
  · cases hf
theorem mulIF_ok {n : Int} {a : UInt64} {t u : Tok} (hA : A.handled = none) (hz : Float64.isInf (Float64.ofInt n) = false)
    (h : Q (.float (Float64.mul (Float64.ofInt n) a) s.toks) { s with toks := s.toks + 1 }) : wpAny (model prog w) A (binaryOp .Mult (.int n u) (.float a t)) Q E s :=
  mul_if_or hA (fun q => by rw [hz] at q; cases q) fun _ => h
theorem in_intsM {l : Addr} {vs : List Value} {ns : List Int} {k : Int} {t : Tok} (hl : s.heap.IsList l ⟨vs⟩) (hi : IntsAre vs ns)
    (h : Q (.bool (ns.any (· == k))) s) : wpAny (model prog w) A (compareOp .In (.int k t) (.ref l)) Q E s := in_list_ints hl hi h
end
theorem last_push {vs : List Value} {v : Value} : (vs.toArray.push v)[(-1 + ((vs.toArray.push v).size : Int)).toNat]? = some v := by
  have h : (-1 + ((vs.toArray.push v).size : Int)).toNat = vs.toArray.size := by simp; omega
  rw [h]; simp
example : True := by
 k_with_none
 k_with "exec For Name Call cons nil" => (refine stop ?_)
 k_with "pyIter ref" => (refine stop ?_)
 k_with "eval ListComp" => (refine stop ?_)
 k_with "exec Assign cons ListComp" => (refine stop ?_)
 k_with "eval Name" => ((k_here; k_dflt (refine' nameX_L ?zhF ?zhv ?_ ?zha ?zhb; (case zha => rfl); (case zhb => rfl); (case zhF => k_asm); (case zhv => first | exact rfl | assumption); k_whole)))
 k_with "subscriptTail" => ((k_dflt ((rename News _ _ _ _ => N'); (refine' item_list_neg ?zha ?zhb ?zhc ?zhd ?zhe ?_; (case zha => exact News.isList N' (by k_mem)); (case zhb => decide); (case zhc => simp only [Array.size_push]; omega); (case zhd => decide); (case zhe => exact last_push); try dsimp only))))
 k_with "call ref" => (((with_reducible show wpAny _ _ (call (Value.ref 78) _ _) _ _ _); refine stop ?_))
 k_with "call ref" => (((with_reducible show wpAny _ _ (call (Value.ref 71) _ _) _ _ _); refine stop ?_))
 trivial
local macro_rules | `(tactic| walk_at "m_reads") => `(tactic| first
  | exact Reads.int _ _
  | exact ReadsAll.nil
  | (refine' ReadsAll.cons ?a ?b; (case a => walk_at "m_reads"); (case b => walk_at "m_reads"))
  | (refine' reads_list_at (News.get ?N ?m) ?c ?d ?r; (case N => k_asm); (case m => k_mem); (case c => rfl); (case d => rfl); (case r => walk_at "m_reads")))
example : True := by
 k_with "compareOp In ref ref" => ((k_dflt (refine' SeqAt.in_list_reads ?zha ?zhb ?zhc ?zhd ?zhe ?_; (case zha => walk_at "m_reads"); (case zhb => walk_at "m_reads"); (case zhc => rfl); (case zhd => rfl); (case zhe => exact Nat.le_of_ble_eq_true rfl); try dsimp only)))
 k_with "m_tok" => (first | with_reducible assumption | ((with_reducible show @Ne Nat _ _); omega))
 k_with "m_eq" => (first
  | ((with_reducible refine' eqI_at ?zha); (case zha => decide +kernel))
  | ((with_reducible refine' eqF_at ?zha ?zhb ?zhc ?zhd); (case zha => walk_at "m_tok"); (case zhb => walk_at "m_tok"); (case zhc => exact bookedF (by k_asm) (by with_reducible assumption) (by with_reducible assumption)); (case zhd => decide +kernel)))
 k_with "compareOp NotEq ref ref" => ((k_dflt ((rename News _ _ _ _ => N'); (refine' ne_t3 (e0 := true) (e1 := true) (e2 := true) ?zha ?zhb ?zhc ?zhd ?zhe ?zhf ?_); (case zha => exact News.isTup N' (by k_mem)); (case zhb => exact News.isTup N' (by k_mem)); (case zhc => exact Nat.le_of_ble_eq_true rfl); (case zhd => walk_at "m_eq"); (case zhe => walk_at "m_eq"); (case zhf => walk_at "m_eq"); try dsimp only)))
 k_with "compareOp NotEq ref ref" => ((k_dflt (refine' SeqAt.compareNe_reads ?zha ?zhb ?zhc ?zhd ?zhe ?_; (case zha => walk_at "m_reads"); (case zhb => walk_at "m_reads"); (case zhc => rfl); (case zhd => rfl); (case zhe => exact Nat.le_of_ble_eq_true rfl); try dsimp only)))
 k_with "call builtin:len" => (((with_reducible show wpAny _ _ (call _ [Value.ref _]) _ _ _); k_dflt ((rename News _ _ _ _ => N'); (refine' len_list ?zha ?zhb ?_); (case zha => exact News.isList N' (by k_mem)); (case zhb => first | decide | omega)); try dsimp only))
 k_with "m_idx" => (((case zha => walk_at "m_reads"); (case zhb => walk_at "m_reads"); (case zhc => rfl); (case zhd => rfl); (case zhe => exact Nat.le_of_ble_eq_true rfl); (case zhf => decide +kernel); (case zhg => rw [sizeLine_eq]; decide)))
 k_with "call builtin:list.index" => (k_dflt (first
  | (refine' index_reads (j := 0) ?zha ?zhb ?zhc ?zhd ?zhe ?zhf ?zhg ?_; walk_at "m_idx")
  | (refine' index_reads (j := 1) ?zha ?zhb ?zhc ?zhd ?zhe ?zhf ?zhg ?_; walk_at "m_idx")
  | (refine' index_reads (j := 2) ?zha ?zhb ?zhc ?zhd ?zhe ?zhf ?zhg ?_; walk_at "m_idx")
  | (refine' index_reads (j := 3) ?zha ?zhb ?zhc ?zhd ?zhe ?zhf ?zhg ?_; walk_at "m_idx")
  | (refine' index_reads (j := 4) ?zha ?zhb ?zhc ?zhd ?zhe ?zhf ?zhg ?_; walk_at "m_idx")
  | (refine' index_reads (j := 5) ?zha ?zhb ?zhc ?zhd ?zhe ?zhf ?zhg ?_; walk_at "m_idx")))
 k_with "call builtin:list.append" => (refine stop ?_)
 k_with "binaryOp Mult int float" => ((refine mulIF_ok (by first | rfl | assumption) (by decide +kernel) ?_; try dsimp only))
 k_with "call type:int" => (((with_reducible show wpAny _ _ (call _ [Value.float _ _]) _ _ _); refine intF_ok (by decide +kernel) ?_; try dsimp only))
 k_with "execs cons" => (first
  | ((try dsimp only); (with_reducible refine gen_pos ?_); intro tk' hp')
  | dsimp only)
 k_with "execs nil" => (first
  | ((try dsimp only); (with_reducible refine gen_pos ?_); intro tk' hp')
  | dsimp only)
 k_with "ite" => ((k_closed; first | refine ite_pos (by decide +kernel) ?_ | refine ite_neg (by decide +kernel) ?_))
 trivial
set_option pp.maxSteps 3000
/-- what stands behind (q0 apart): the members, the iterator, the corners, the cells -/
noncomputable abbrev restN (b0 b1 b2 : Bool) (D I q1 a0 a1 a2 a3 a4 a5 L : Addr) (oI om ov ot : Obj) (ta tb tc y0 y1 y2 y3 y4 y5 y6 y7 y8 : Tok) (ep' : Nat) : List (Addr × Obj) :=
  [(D, W.listOf ⟨memV b0 b1 b2 ta tb tc⟩ ep'), (I, oI), (q1, W.listOf #[.ref a0, .ref a1, .ref a2, .ref a3, .ref a4, .ref a5] 0), (a5, W.listOf #[.int 0 y7, .int 2 y8] 0), (a4, W.listOf #[.int 2 y6] 0),
   (a3, W.listOf #[.int 1 y4, .int 2 y5] 0), (a2, W.listOf #[.int 1 y3] 0), (a1, W.listOf #[.int 0 y1, .int 1 y2] 0), (a0, W.listOf #[.int 0 y0] 0), (L + 1 + 1 + 1, om), (L + 1 + 1, ov), (L + 1, ot)]
theorem tail_c (prog : Program) (w : World) (p : Program) (loose : List Str) (mg mb : Str → Option Value) (g : Heap) (L : Addr) (dA : Nat) (fr : Option (List Env)) (gs : Option (List Code))
    (X : (hd.heap_1 w.params).In g) (T : TopRead p loose mg mb g) (hdp : dA + 30 < recursionLimit) (body : List Stmt) (sc : Scope) (hb : body = (forAt (bodyAt w.params 156) 4).drop 3) (hsc : sc = scopeAt w.params 156)
    (b0 b1 b2 : Bool) (D I q0 q1 a0 a1 a2 a3 a4 a5 : Addr) (oI om ov ot : Obj) (ta tb tc y0 y1 y2 y3 y4 y5 y6 y7 y8 tp0 tp1 tp2 k1 k2 : Tok) (ep ep' : Nat) (vs : List Value) (S Fu : Int)
    (h : Heap) (gn : Array GenState) (dr : Drawn) (tk : Nat) (os : OsState) (m : Str → Option Value) (E : Value → Shared → Prop) (Q : Flow → Shared → Prop) (hvs : vs.length ≤ 1000) (htk : 0 < tk) (ht0 : tp0 ≠ 0) (ht1 : tp1 ≠ 0) (ht2 : tp2 ≠ 0)
    (F : Fr g L h m) (N : News g L h ((q0, W.listOf vs.toArray ep) :: restN b0 b1 b2 D I q1 a0 a1 a2 a3 a4 a5 L oI om ov ot ta tb tc y0 y1 y2 y3 y4 y5 y6 y7 y8 ep'))
    (hne : ∀ q ∈ restN b0 b1 b2 D I q1 a0 a1 a2 a3 a4 a5 L oI om ov ot ta tb tc y0 y1 y2 y3 y4 y5 y6 y7 y8 ep', q.1 ≠ q0) (cM : om.data = .cell (some (.ref D)))
    (e1 : m "some" = some (.int S k1)) (e2 : m "full" = some (.int Fu k2)) (e3 : m "sixths" = some (.ref q0)) (e4 : m "corners" = some (.ref q1))
    (e5 : m "hue" = some (.float (hsvF (flB b0) (flB b1) (flB b2)).1 tp0)) (e6 : m "share" = some (.float (hsvF (flB b0) (flB b1) (flB b2)).2.1 tp1)) (e7 : m "value" = some (.float (hsvF (flB b0) (flB b1) (flB b2)).2.2 tp2))
    (hQ : ∀ h' tk' m' ep2 vs', 0 < tk' → Fr g L h' m' → (∃ k, m' "some" = some (.int (if b0 || b1 || b2 then S + 1 else S) k)) → (∃ k, m' "full" = some (.int (if b0 && b1 && b2 then Fu + 1 else Fu) k)) → m' "sixths" = some (.ref q0) → m' "corners" = some (.ref q1) →
      (match sixB b0 b1 b2 with | some c => ∃ t, vs' = vs ++ [.int c t] | none => vs' = vs) → News g L h' ((q0, W.listOf vs'.toArray ep2) :: restN b0 b1 b2 D I q1 a0 a1 a2 a3 a4 a5 L oI om ov ot ta tb tc y0 y1 y2 y3 y4 y5 y6 y7 y8 ep') → Q .next ⟨h', gn, dr, tk', os⟩) :
    wpAny (model prog w) (({ handled := none, depth := dA, frames := fr, guards := gs, units := 1000 } : Around).deeper (envOfC (Str.ofString "_law_colour_by_its_layers") sc L 156 (.ref 155)))
      (execs body (envOfC (Str.ofString "_law_colour_by_its_layers") sc L 156 (.ref 155))) Q E ⟨h, gn, dr, tk, os⟩ := by
  conv at hb => rhs; whnf
  conv at hsc => rhs; whnf
  subst hb hsc
  cases b0 <;> cases b1 <;> cases b2
  all_goals
    unfold restN at *
    dsimp only [memV] at *
  all_goals k_steps
  all_goals try
    refine stop_ ?_
    rename Fr _ _ _ _ => F2
    rename News _ _ _ _ => N2
    refine append_K F2 N2 (.head hne) (fun h2 F3 N3 => ?_) (by rw [List.size_toArray, sizeLine_eq]; omega)
    k_steps
  all_goals
    rename Fr _ _ _ _ => F9
    rename News _ _ _ _ => N9
    refine hQ _ _ _ _ _ (by assumption) F9 ?_ ?_ ?_ ?_ ?_ (fun q hq => N9 q (by repeat (first | exact hq | apply List.Mem.tail)))
    · first | exact ⟨_, e1⟩ | exact ⟨_, rfl⟩
    · first | exact ⟨_, e2⟩ | exact ⟨_, rfl⟩
    · first | exact e3 | rfl
    · first | exact e4 | rfl
    · first | exact rfl | exact ⟨_, List.concat_eq_append⟩

example : True := by
 k_with_none
 trivial
end
section
noncomputable def dOf (d0 d1 d2 : Nat) (k : Int) : Nat := if k = 0 then d0 else if k = 1 then d1 else d2
noncomputable def memP (d0 d1 d2 v : Nat) : Value → Bool
  | .int k _ => decide (v ≤ dOf d0 d1 d2 k)
  | _ => false
noncomputable def memI : Bool → Bool → Bool → List Int
  | false, false, false => []
  | false, false, true => [2]
  | false, true, false => [1]
  | false, true, true => [1, 2]
  | true, false, false => [0]
  | true, false, true => [0, 2]
  | true, true, false => [0, 1]
  | true, true, true => [0, 1, 2]
theorem memV_ints (b0 b1 b2 : Bool) (ta tb tc : Tok) : IntsAre (memV b0 b1 b2 ta tb tc) (memI b0 b1 b2) := by
  cases b0 <;> cases b1 <;> cases b2 <;> repeat (first | exact IntsAre.nil | apply IntsAre.cons)
theorem memV_of (d0 d1 d2 v : Nat) (ta tb tc : Tok) : List.filter (memP d0 d1 d2 v) [.int (0 + (0 : Nat) * 1) ta, .int (0 + (1 : Nat) * 1) tb, .int (0 + (2 : Nat) * 1) tc] = memV (decide (v ≤ d0)) (decide (v ≤ d1)) (decide (v ≤ d2)) ta tb tc := by
  by_cases g0 : v ≤ d0 <;> by_cases g1 : v ≤ d1 <;> by_cases g2 : v ≤ d2 <;> simp [memP, dOf, memV, g0, g1, g2]
noncomputable def Away (d : Nat) (l : List Nat) : Prop := ∀ x ∈ l, x ≠ d
theorem Away.cons {d x : Nat} {l : List Nat} (h : x ≠ d) (r : Away d l) : Away d (x :: l) := fun y hy => by
  rcases List.mem_cons.mp hy with rfl | hy
  · exact h
  · exact r y hy
theorem Away.nil {d : Nat} : Away d [] := fun _ h => nomatch h
theorem updF_of {d : Addr} {o : Obj} {post : List (Addr × Obj)} (h2 : Away d (post.map (·.1))) : ∀ {pre : List (Addr × Obj)}, Away d (pre.map (·.1)) → UpdF d o (pre ++ (d, o) :: post) (fun o' => pre ++ (d, o') :: post)
  | [], _ => .head fun p hp => h2 _ (List.mem_map.mpr ⟨p, hp, rfl⟩)
  | p :: _, h => .tail (h _ (.head _)) (updF_of h2 fun x hx => h x (.tail _ hx))
theorem news_swap {g h : Heap} {L : Addr} {x a b : Addr × Obj} {r : List (Addr × Obj)} (N : News g L h (x :: a :: b :: r)) : News g L h (b :: a :: r) := fun q hq => by
  rcases List.mem_cons.mp hq with rfl | hq
  · exact N _ (.tail _ (.tail _ (.head _)))
  · rcases List.mem_cons.mp hq with rfl | hq
    · exact N _ (.tail _ (.head _))
    · exact N _ (.tail _ (.tail _ (.tail _ hq)))
theorem news_drop2 {g h : Heap} {L : Addr} {x a : Addr × Obj} {r : List (Addr × Obj)} (N : News g L h (x :: a :: r)) : News g L h (x :: r) := fun q hq => by
  rcases List.mem_cons.mp hq with rfl | hq
  · exact N _ (.head _)
  · exact N _ (.tail _ (.tail _ hq))
theorem paired_eq : ∀ {l l' : List Value}, Paired (fun a b => b = a) l l' → l' = l
  | _, _, .nil => rfl
  | _, _, .cons h r => by rw [h, paired_eq r]
noncomputable def bOf (b0 b1 b2 : Bool) (k : Int) : Bool := if k = 0 then b0 else if k = 1 then b1 else b2
theorem memI_any (b0 b1 b2 : Bool) : ∀ j : Nat, j < 3 → (memI b0 b1 b2).any (· == (0 + (j : Int) * 1)) = bOf b0 b1 b2 (0 + (j : Int) * 1)
  | 0, _ => by cases b0 <;> cases b1 <;> cases b2 <;> rfl
  | 1, _ => by cases b0 <;> cases b1 <;> cases b2 <;> rfl
  | 2, _ => by cases b0 <;> cases b1 <;> cases b2 <;> rfl
  | _ + 3, h => by omega
noncomputable def flG (b0 b1 b2 : Bool) (a b : Value) : Prop := ∃ (k : Int) (u t : Nat), a = .int k u ∧ b = .float (flB (bOf b0 b1 b2 k)) t ∧ t ≠ 0
theorem hz_1 : ∀ b0 b1 b2 : Bool, eqF (mn3 (flB b0) (flB b1) (flB b2)) (mx3 (flB b0) (flB b1) (flB b2)) = false → Float64.isZero (mx3 (flB b0) (flB b1) (flB b2)) = false := by decide +kernel
theorem hz_2 : ∀ b0 b1 b2 : Bool, eqF (mn3 (flB b0) (flB b1) (flB b2)) (mx3 (flB b0) (flB b1) (flB b2)) = false → Float64.isZero (Float64.sub (mx3 (flB b0) (flB b1) (flB b2)) (mn3 (flB b0) (flB b1) (flB b2))) = false := by decide +kernel
example : True := by
 k_with_none
 k_with "exec For Name Call cons nil" => (refine stop ?_)
 k_with "pyIter ref" => (refine stop ?_)
 k_with "eval ListComp" => (refine stop ?_)
 k_with "exec Assign cons ListComp" => (refine stop ?_)
 k_with "exec If Compare cons nil" => (refine stop ?_)
 k_with "eval Name" => ((k_here; k_dflt (refine' nameX_L ?zhF ?zhv ?_ ?zha ?zhb; (case zha => rfl); (case zhb => rfl); (case zhF => k_asm); (case zhv => first | exact rfl | assumption); k_whole)))
 k_with "eval Name" => ((k_here; k_dflt (first
  | (refine wpAny_Name (wpAny_loadName_local (env := compEnvC _ _ _ _) rfl rfl (by assumption) (by assumption) ?_) (by decide))
  | (refine wpAny_Name (wpAny_loadName_cell (env := compEnvC _ _ _ _) rfl rfl rfl (by assumption) ?_) (by decide)))))
 k_with "subscriptTail" => (refine stop ?_)
 k_with "compareOp In int ref" => ((refine in_intsM (by assumption) (by first | exact memV_ints _ _ _ _ _ _ | repeat (first | exact IntsAre.nil | apply IntsAre.cons)) ?_; try dsimp only))
 k_with "call ref" => (((with_reducible show wpAny _ _ (call (Value.ref 78) _ _) _ _ _); refine stop ?_))
 k_with "execs cons" => (first
  | ((try dsimp only); (with_reducible refine gen_pos ?_); intro tk' hp')
  | dsimp only)
 k_with "execs nil" => (first
  | ((try dsimp only); (with_reducible refine gen_pos ?_); intro tk' hp')
  | dsimp only)
 k_with "storeName" => ((with_reducible show wpAny _ _ (storeName _ (Str.ofString "members") _) _ _ _; refine stop ?_))
 k_with "execs cons" => (((with_reducible show wpAny _ _ (execs (Stmt.If _ _ _ _ :: _) _) _ _ _); refine stop ?_))
 trivial
set_option pp.maxSteps 3000
noncomputable abbrev restC (I q1 a0 a1 a2 a3 a4 a5 L : Addr) (oI om ov ot : Obj) (y0 y1 y2 y3 y4 y5 y6 y7 y8 : Tok) : List (Addr × Obj) :=
  [(I, oI), (q1, W.listOf #[.ref a0, .ref a1, .ref a2, .ref a3, .ref a4, .ref a5] 0), (a5, W.listOf #[.int 0 y7, .int 2 y8] 0), (a4, W.listOf #[.int 2 y6] 0),
   (a3, W.listOf #[.int 1 y4, .int 2 y5] 0), (a2, W.listOf #[.int 1 y3] 0), (a1, W.listOf #[.int 0 y1, .int 1 y2] 0), (a0, W.listOf #[.int 0 y0] 0), (L + 1 + 1 + 1, om), (L + 1 + 1, ov), (L + 1, ot)]
theorem turn_c (prog : Program) (w : World) (p : Program) (loose : List Str) (mg mb : Str → Option Value) (g : Heap) (L : Addr) (dA : Nat) (fr : Option (List Env)) (gs : Option (List Code))
    (X : (hd.heap_1 w.params).In g) (T : TopRead p loose mg mb g) (hdp : dA + 30 < recursionLimit) (body : List Stmt) (sc : Scope) (hb : body = forAt (bodyAt w.params 156) 4) (hsc : sc = scopeAt w.params 156)
    (d0 d1 d2 v : Nat) (I q0 q1 a0 a1 a2 a3 a4 a5 l3 : Addr) (oI om ov ot : Obj) (t0 t1 t2 y0 y1 y2 y3 y4 y5 y6 y7 y8 k1 k2 tv : Tok) (ep : Nat) (vs : List Value) (mv : Option Value) (S Fu : Int)
    (h : Heap) (gn : Array GenState) (dr : Drawn) (tk : Nat) (os : OsState) (m : Str → Option Value) (E : Value → Shared → Prop) (Q : Flow → Shared → Prop) (hvs : vs.length ≤ 1000) (htk : 0 < tk)
    (F : Fr g L h m) (N : News g L h ((q0, W.listOf vs.toArray ep) :: restC I q1 a0 a1 a2 a3 a4 a5 L oI om ov ot y0 y1 y2 y3 y4 y5 y6 y7 y8))
    (hne : ∀ q ∈ restC I q1 a0 a1 a2 a3 a4 a5 L oI om ov ot y0 y1 y2 y3 y4 y5 y6 y7 y8, q.1 ≠ q0) (cM : om.data = .cell mv) (cV : ov.data = .cell (some (.int (v : Int) tv))) (cT : ot.data = .cell (some (.ref l3)))
    (hmn : Away (L + 1 + 1 + 1) [q0, I, q1, a5, a4, a3, a2, a1, a0])
    (hl : g.IsList l3 #[.int (d0 : Int) t0, .int (d1 : Int) t1, .int (d2 : Int) t2])
    (e1 : m "some" = some (.int S k1)) (e2 : m "full" = some (.int Fu k2)) (e3 : m "sixths" = some (.ref q0)) (e4 : m "corners" = some (.ref q1))
    (hQ : ∀ h' tk' m' ep2 vs' om', 0 < tk' → Fr g L h' m' → (∃ k, m' "some" = some (.int (if decide (v ≤ d0) || decide (v ≤ d1) || decide (v ≤ d2) then S + 1 else S) k)) → (∃ k, m' "full" = some (.int (if decide (v ≤ d0) && decide (v ≤ d1) && decide (v ≤ d2) then Fu + 1 else Fu) k)) →
      m' "sixths" = some (.ref q0) → m' "corners" = some (.ref q1) → (∃ mv, om'.data = .cell mv) →
      (match sixB (decide (v ≤ d0)) (decide (v ≤ d1)) (decide (v ≤ d2)) with | some c => ∃ t, vs' = vs ++ [.int c t] | none => vs' = vs) → News g L h' ((q0, W.listOf vs'.toArray ep2) :: restC I q1 a0 a1 a2 a3 a4 a5 L oI om' ov ot y0 y1 y2 y3 y4 y5 y6 y7 y8) → Q .next ⟨h', gn, dr, tk', os⟩) :
    wpAny (model prog w) (({ handled := none, depth := dA, frames := fr, guards := gs, units := 1000 } : Around).deeper (envOfC (Str.ofString "_law_colour_by_its_layers") sc L 156 (.ref 155)))
      (execs body (envOfC (Str.ofString "_law_colour_by_its_layers") sc L 156 (.ref 155))) Q E ⟨h, gn, dr, tk, os⟩ := by
  conv at hb => rhs; whnf
  conv at hsc => rhs; whnf
  subst hb hsc
  unfold restC at *
  refine gen_pos0 htk ?_
  intro tk1 htk1
  k_steps
  refine stop_ ?_
  rename Fr _ _ _ _ => F5
  rename News _ _ _ _ => N5
  refine wpAny_Assign_Name ?_ (by rfl)
  have hl5 := isList_keeps hl F5.keep
  have cT0 := (N5 (L + 1, ot) (by k_mem)).1
  have cV0 := (N5 (L + 1 + 1, ov) (by k_mem)).1
  refine wpAny_with_toks (n := 1) (by first | assumption | exact Nat.succ_pos _) ?_
  refine comp_FN (memP d0 d1 d2 v) (fun a b => b = a) F5 N5 (by rfl) (by decide) (by rfl) (by decide) (by rfl) ?_
  k_steps
  refine stop_ ?_
  rename IsRange _ _ _ _ _ _ _ _ => R6
  rename (∀ b o, _ → _) => up6
  refine' comp_range (n := 3) ?hh ?hs1 ?hk ?hr ?hsm ?hn ?hnz ?htest ?helt ?hQ
  case hh => rfl
  case hs1 => exact ⟨_, _, rfl⟩
  case hk => exact up6
  case hr => exact R6
  case hsm => decide +kernel
  case hn => decide +kernel
  case hnz => decide
  · intro C j tv' s₃ m₃ E' hj hn hm hkk
    have cTx : s₃.heap.IsCell (L + 1) (some (.ref l3)) := ⟨ot, hkk _ _ cT0, cT⟩
    have cVx : s₃.heap.IsCell (L + 1 + 1) (some (.int (v : Int) tv)) := ⟨ov, hkk _ _ cV0, cV⟩
    have hl6 := isList_keeps hl5 hkk
    refine quiet_one ?_
    k_steps
    · obtain rfl | rfl | rfl : j = 0 ∨ j = 1 ∨ j = 2 := by omega
      all_goals (simp [memP, dOf]; try omega)
    · exact ⟨_, _, rfl, fun _ _ e => e⟩
  · intro C j tv' s₃ m₃ E' hj _ hp hn hm hkk
    k_steps
    exact ⟨_, _, rfl, fun _ _ e => e⟩
  · intro D h' tk' ep' ys ts hts F6 N6 up hneD hpair htk6
    have hys := paired_eq hpair
    match ts, hts with
    | [ta, tb, tc], _ =>
    simp only [List.mapIdx_cons, List.mapIdx_nil] at hys
    have hys2 := hys.trans (memV_of d0 d1 d2 v ta tb tc)
    obtain ⟨ys⟩ := ys
    simp only at hys2
    subst hys2
    generalize hb0 : decide (v ≤ d0) = b0 at *
    generalize hb1 : decide (v ≤ d1) = b1 at *
    generalize hb2 : decide (v ≤ d2) = b2 at *
    have hpost : Away (L + 1 + 1 + 1) [L + 1 + 1, L + 1] := .cons (by omega) (.cons (by omega) .nil)
    have hDm : @Ne Nat D (L + 1 + 1 + 1) := fun e => hneD (L + 1 + 1 + 1, om) (by k_mem) e.symm
    k_steps
    refine stop_ ?_
    refine' storeX_C F6 N6 ?c (updF_of (pre := [_, _, _, _, _, _, _, _, _, _]) (o := om) (post := [_, _]) hpost (.cons hDm hmn)) cM ?_ ?a ?b
    case c => rfl
    case a => rfl
    case b => rfl
    intro h7 om' F7 N7 cM1
    simp only [List.cons_append, List.nil_append] at N7
    k_steps
    refine stop_ ?_
    refine Assign_Tuple ?_
    have hM0 := (N7 (D, _) (by k_mem)).1
    have cM0 := (N7 (L + 1 + 1 + 1, _) (by k_mem)).1
    refine wpAny_with_toks (n := 1) (by first | assumption | exact Nat.succ_pos _) ?_
    refine comp_FN (fun _ => true) (flG b0 b1 b2) F7 N7 (by rfl) (by decide) (by rfl) (by decide) (by rfl) ?_
    refine wpAny_with_toks (n := 1) (by first | assumption | exact Nat.succ_pos _) ?_
    k_steps
    refine stop_ ?_
    rename IsRange _ _ _ _ _ _ _ _ => R8
    rename (∀ b o, _ → _) => up8
    refine' comp_range (n := 3) ?zhh ?zhs1 ?zhk ?zhr ?zhsm ?zhn ?zhnz ?zhtest ?zhelt ?zhQ
    case zhh => rfl
    case zhs1 => exact ⟨_, _, rfl⟩
    case zhk => exact up8
    case zhr => exact R8
    case zhsm => decide +kernel
    case zhn => decide +kernel
    case zhnz => decide
    case zhtest => intros; exact quiet_none
    case zhelt =>
      intro C j tv' s₃ m₃ E' hj htt _ hn hm hkk
      have htt2 : 0 < s₃.toks := Nat.lt_of_lt_of_le (by first | assumption | exact Nat.succ_pos _ | (dsimp only; first | assumption | exact Nat.succ_pos _)) htt
      have cMx : s₃.heap.IsCell (L + 1 + 1 + 1) (some (.ref D)) := ⟨om', hkk _ _ cM0, cM1⟩
      have hMl : s₃.heap.IsList D ⟨memV b0 b1 b2 ta tb tc⟩ := ⟨_, hkk _ _ hM0, rfl, _, rfl⟩
      have hany := memI_any b0 b1 b2 j hj
      k_steps
      all_goals first
        | exact ⟨_, _, rfl, fun _ _ e => e⟩
        | ((rename (List.any _ _ = _) => ha); rw [ha] at hany; exact ⟨_, _, _, rfl, by rw [← hany]; rfl, Nat.ne_of_gt htt2⟩)
    case zhQ =>
      intro D2 h2 tk2 ep2 ys2 ts2 hts2 F8 N8 up9 hneD2 hpair2 htk8
      match ts2, hts2 with
      | [tx, ty, tz], _ =>
      obtain ⟨ys2⟩ := ys2
      simp only [List.mapIdx_cons, List.mapIdx_nil] at hpair2
      cases hpair2 with | cons f0 hpair2 => ?_
      cases hpair2 with | cons f1 hpair2 => ?_
      cases hpair2 with | cons f2 hpair2 => ?_
      cases hpair2
      obtain ⟨kf0, uf0, tf0, hk0, hf0, hft0⟩ := f0
      obtain ⟨kf1, uf1, tf1, hk1, hf1, hft1⟩ := f1
      obtain ⟨kf2, uf2, tf2, hk2, hf2, hft2⟩ := f2
      cases hk0
      cases hk1
      cases hk2
      have hf0 := hf0.trans (show _ = Value.float (flB b0) tf0 from rfl)
      have hf1 := hf1.trans (show _ = Value.float (flB b1) tf1 from rfl)
      have hf2 := hf2.trans (show _ = Value.float (flB b2) tf2 from rfl)
      subst hf0 hf1 hf2
      k_steps
      refine stop_ ?_
      rename Fr _ _ _ _ => F9
      rename News _ _ _ _ => N9
      refine call_backT (by first | assumption | exact Nat.succ_pos _) F9 N9 (hsv_c prog w _ _ p loose mg mb (X.keeps F9.keep) (T.keeps F9.keep) rfl (by have : dA + 30 < recursionLimit := hdp; show dA + 1 + 3 < recursionLimit; omega) _ _ _ _ _ _ (by first | assumption | exact Nat.succ_pos _) hft0 hft1 hft2 (hz_1 b0 b1 b2) (hz_2 b0 b1 b2)) ?_
      rintro v9 h9 tk9 htk9 F10 N10 ⟨tp, tp0, tp1, tp2, rfl, hfr, htup, hpt0, hpt1, hpt2⟩
      k_steps
      refine stop_ ?_
      rename Fr _ _ _ _ => F11
      rename News _ _ _ _ => N11
      refine' tail_c prog w p loose mg mb g L dA fr gs X T hdp _ _ ?ahb ?ahsc b0 b1 b2 D I q0 q1 a0 a1 a2 a3 a4 a5 oI om' ov ot ta tb tc y0 y1 y2 y3 y4 y5 y6 y7 y8 tp0 tp1 tp2 k1 k2 ep ep' vs S Fu _ _ _ _ _ _ _ _ hvs ?atk hpt0 hpt1 hpt2 F11 ?aN ?ane cM1 ?ae1 ?ae2 ?ae3 ?ae4 ?ae5 ?ae6 ?ae7 ?aQ
      case ahb => rfl
      case ahsc => rfl
      case atk => first | assumption | exact Nat.succ_pos _ | (dsimp only; first | assumption | exact Nat.succ_pos _)
      case aN => exact news_swap N11
      case ane =>
        intro q hq
        rcases List.mem_cons.mp hq with rfl | hq
        · exact fun e => hneD _ (.head _) e.symm
        · simp only [List.mem_cons, List.not_mem_nil, or_false] at hq
          rcases hq with rfl | rfl | rfl | rfl | rfl | rfl | rfl | rfl | rfl | rfl | rfl
          all_goals first
            | exact hne (L + 1 + 1 + 1, om) (by k_mem)
            | exact hne _ (by k_mem)
      case ae1 => first | exact e1 | rfl
      case ae2 => first | exact e2 | rfl
      case ae3 => first | exact e3 | rfl
      case ae4 => first | exact e4 | rfl
      case ae5 => rfl
      case ae6 => rfl
      case ae7 => rfl
      case aQ =>
        intro h' tk' m' ep2 vs' c0 c1 c2 c3 c4 c5 c6 c7
        exact hQ h' tk' m' ep2 vs' om' c0 c1 c2 c3 c4 c5 ⟨_, cM1⟩ c6 (news_drop2 c7)

example : True := by
 k_with_none
 trivial
end
section
-- needs D2 L4
noncomputable def divF (k : Int) : UInt64 := Float64.ofFrac (decide (k < 0) != decide ((8 : Int) < 0)) k.natAbs (8 : Int).natAbs
section
variable {prog : Program} {w : World} {A : Around} {E : Value → Shared → Prop} {s : Shared} {Q : Value → Shared → Prop}
theorem div8_ok {a : Int} {t u : Tok} (hA : A.handled = none) (hi : Float64.isInf (divF a) = false) (h : Q (.float (divF a) s.toks) { s with toks := s.toks + 1 }) : wpAny (model prog w) A (binaryOp .Div (.int a t) (.int 8 u)) Q E s :=
  div_ii hA (fun e => by cases e) (fun _ q => by unfold divF at hi; rw [hi] at q; cases q) fun _ _ => h
theorem intF_is {x : UInt64} {t : Tok} {k : Int} (hf : intF x = some k) (h : Q (.int k s.toks) { s with toks := s.toks + 1 }) : wpAny (model prog w) A (call (.type "int") [.float x t]) Q E s :=
  intF_ok (by rw [hf]; rfl) (by rw [hf]; exact h)
theorem mulFI_ok {n : Int} {a : UInt64} {t u : Tok} (hA : A.handled = none) (hz : Float64.isInf (Float64.ofInt n) = false)
    (h : Q (.float (Float64.mul a (Float64.ofInt n)) s.toks) { s with toks := s.toks + 1 }) : wpAny (model prog w) A (binaryOp .Mult (.float a t) (.int n u)) Q E s :=
  mul_fi_or hA (fun q => by rw [hz] at q; cases q) fun _ => h
theorem neFI_is {n : Int} {a : UInt64} {t u : Tok} (hc : Float64.cmpInt a n = some .eq) (h : Q (.bool false) s) : wpAny (model prog w) A (compareOp .NotEq (.float a t) (.int n u)) Q E s := ne_fi (by rw [hc]; exact h)
theorem neII_is {n : Int} {t u : Tok} (h : Q (.bool false) s) : wpAny (model prog w) A (compareOp .NotEq (.int n t) (.int n u)) Q E s := by
  refine ne_int ?_
  simpa using h
theorem eqII_is {n : Int} {t u : Tok} (h : Q (.bool true) s) : wpAny (model prog w) A (compareOp .Eq (.int n t) (.int n u)) Q E s := by
  refine eq_int ?_
  simpa using h
end
example : True := by
 k_with_none
 k_with "exec For Name Call cons nil" => (refine stop ?_)
 k_with "pyIter ref" => (refine stop ?_)
 k_with "eval ListComp" => (refine stop ?_)
 k_with "exec Assign cons ListComp" => (refine stop ?_)
 k_with "eval Name" => ((k_here; k_dflt (refine' nameX_L ?zhF ?zhv ?_ ?zha ?zhb; (case zha => rfl); (case zhb => rfl); (case zhF => k_asm); (case zhv => first | exact rfl | assumption); k_whole)))
 k_with "eval Name" => ((k_here; k_dflt (first
  | (refine wpAny_Name (wpAny_loadName_local (env := compEnvC _ _ _ _) rfl rfl (by assumption) (by assumption) ?_) (by decide))
  | (refine wpAny_Name (wpAny_loadName_cell (env := compEnvC _ _ _ _) rfl rfl rfl (by assumption) ?_) (by decide)))))
 k_with "call ref" => (((with_reducible show wpAny _ _ (call (Value.ref 78) _ _) _ _ _); refine stop ?_))
 k_with "call ref" => (((with_reducible show wpAny _ _ (call (Value.ref 71) _ _) _ _ _); refine stop ?_))
 k_with "execs cons" => (first
  | ((try dsimp only); (with_reducible refine gen_pos ?_); intro tk' hp')
  | dsimp only)
 k_with "execs nil" => (first
  | ((try dsimp only); (with_reducible refine gen_pos ?_); intro tk' hp')
  | dsimp only)
 k_with "binaryOp Mult int float" => (k_dflt (refine mulIF_ok (by first | rfl | assumption) (by first | assumption | decide +kernel) ?_; try dsimp only))
 k_with "binaryOp Mult float int" => (k_dflt (refine mulFI_ok (by first | rfl | assumption) (by first | assumption | decide +kernel) ?_; try dsimp only))
 k_with "call type:int" => (((with_reducible show wpAny _ _ (call _ [Value.float _ _]) _ _ _); k_dflt (refine intF_is (by assumption) ?_; try dsimp only)))
 k_with "compareOp NotEq float int" => (k_dflt (refine neFI_is (by assumption) ?_; try dsimp only))
 k_with "compareOp NotEq int int" => (k_dflt (refine neII_is ?_; try dsimp only))
 k_with "compareOp Eq int int" => (k_dflt (refine eqII_is ?_; try dsimp only))
 k_with "binaryOp Div int int" => (k_dflt (refine div8_ok (by first | rfl | assumption) (by assumption) ?_; try dsimp only))
 k_with "call builtin:sum" => (refine stop ?_)
 k_with "call builtin:min" => (refine stop ?_)
 trivial
set_option pp.maxSteps 3000
noncomputable def flD (a b : Value) : Prop := ∃ (k : Int) (u t : Nat), a = .int k u ∧ b = .float (divF k) t ∧ t ≠ 0
theorem rest2_c (prog : Program) (w : World) (p : Program) (loose : List Str) (mg mb : Str → Option Value) (g : Heap) (L : Addr) (dA : Nat) (fr : Option (List Env)) (gs : Option (List Code))
    (X : (hd.heap_1 w.params).In g) (T : TopRead p loose mg mb g) (hdp : dA + 30 < recursionLimit) (body : List Stmt) (sc : Scope) (hb : body = (bodyAt w.params 156).drop 7) (hsc : sc = scopeAt w.params 156)
    (d0 d1 d2 : Int) (l3 q0 : Addr) (ot : Obj) (t0 t1 t2 k1 k2 k3 : Tok) (ep : Nat) (vs : List Value) (ys : List Int) (S Fu n : Int) (rest : List (Addr × Obj))
    (h : Heap) (gn : Array GenState) (dr : Drawn) (tk : Nat) (os : OsState) (m : Str → Option Value) (E : Value → Shared → Prop) (Q : Flow → Shared → Prop) (hvs : IntsAre vs ys) (htk : 0 < tk)
    (F : Fr g L h m) (N : News g L h ((L + 1, ot) :: (q0, W.listOf vs.toArray ep) :: rest)) (cT : ot.data = .cell (some (.ref l3)))
    (hl : g.IsList l3 #[.int d0 t0, .int d1 t1, .int d2 t2])
    (e1 : m "some" = some (.int S k1)) (e2 : m "full" = some (.int Fu k2)) (e3 : m "sixths" = some (.ref q0)) (e4 : m "tinted" = some (.int n k3))
    (w0 : Float64.isInf (divF d0) = false) (w1 : Float64.isInf (divF d1) = false) (w2 : Float64.isInf (divF d2) = false) (wS : Float64.isInf (Float64.ofInt S) = false) (wn : Float64.isInf (Float64.ofInt n) = false) (room : Int)
    (hroom : (if 16 - S - Fu < S + Fu then 16 - S - Fu else S + Fu) = room) (wr : Float64.isInf (Float64.ofInt room) = false) (r0 r1 r2 : UInt64) (hr0 : divF d0 = r0) (hr1 : divF d1 = r1) (hr2 : divF d2 = r2)
    (z1 : eqF (mn3 r0 r1 r2) (mx3 r0 r1 r2) = false → Float64.isZero (mx3 r0 r1 r2) = false) (z2 : eqF (mn3 r0 r1 r2) (mx3 r0 r1 r2) = false → Float64.isZero (Float64.sub (mx3 r0 r1 r2) (mn3 r0 r1 r2)) = false)
    (z3 : eqF (mn3 r0 r1 r2) (mx3 r0 r1 r2) = false → Float64.isZero (Float64.add (mx3 r0 r1 r2) (mn3 r0 r1 r2)) = false)
    (z4 : eqF (mn3 r0 r1 r2) (mx3 r0 r1 r2) = false → Float64.isZero (Float64.sub (Float64.sub 4611686018427387904 (mx3 r0 r1 r2)) (mn3 r0 r1 r2)) = false)
    (c1 : Float64.cmpInt (Float64.mul (Float64.ofInt 8) (hsvF r0 r1 r2).2.2) S = some .eq)
    (c2 : intF (Float64.add (Float64.mul (Float64.ofInt S) (hsvF r0 r1 r2).2.1) 4602678819172646912) = some n)
    (c3 : intF (Float64.add (Float64.mul (Float64.mul (Float64.ofInt 6) (hsvF r0 r1 r2).1) (Float64.ofInt n)) 4602678819172646912) = some ys.sum)
    (c4 : Float64.cmpInt (Float64.mul (Float64.ofInt 16) (hlsF r0 r1 r2).2.1) (S + Fu) = some .eq)
    (c5 : intF (Float64.add (Float64.mul (Float64.ofInt room) (hlsF r0 r1 r2).2.2) 4602678819172646912) = some n)
    (c6 : intF (Float64.add (Float64.mul (Float64.mul (Float64.ofInt 6) (hlsF r0 r1 r2).1) (Float64.ofInt n)) 4602678819172646912) = some ys.sum)
    (hQ : ∀ h' tk', (∀ b o, g.get? b = some o → h'.get? b = some o) → Q (.ret (.bool true)) ⟨h', gn, dr, tk', os⟩) :
    wpAny (model prog w) (({ handled := none, depth := dA, frames := fr, guards := gs, units := 1000 } : Around).deeper (envOfC (Str.ofString "_law_colour_by_its_layers") sc L 156 (.ref 155)))
      (execs body (envOfC (Str.ofString "_law_colour_by_its_layers") sc L 156 (.ref 155))) Q E ⟨h, gn, dr, tk, os⟩ := by
  conv at hb => rhs; whnf
  conv at hsc => rhs; whnf
  subst hb hsc
  refine gen_pos0 htk ?_
  intro tk1 htk1
  k_steps
  refine stop_ ?_
  refine Assign_Tuple ?_
  rename Fr _ _ _ _ => F7
  rename News _ _ _ _ => N7
  have hl5 := isList_keeps hl F7.keep
  have cT0 := (N7 (L + 1, ot) (by k_mem)).1
  refine wpAny_with_toks (n := 1) (by first | assumption | exact Nat.succ_pos _) ?_
  refine comp_FN (fun _ => true) flD F7 N7 (by rfl) (by decide) (by rfl) (by decide) (by rfl) ?_
  refine wpAny_with_toks (n := 1) (by first | assumption | exact Nat.succ_pos _) ?_
  k_steps
  refine stop_ ?_
  refine' comp_list ?zhh ?zhs1 ?zhk ?zhl ?zhnz ?zhtest ?zhelt ?zhQ
  case zhh => rfl
  case zhs1 => exact ⟨_, _, rfl⟩
  case zhk => exact fun _ _ e => e
  case zhl => exact hl5
  case zhnz => exact Nat.le_of_ble_eq_true rfl
  case zhtest => intros; exact quiet_none
  case zhelt =>
    intro C j v s₃ m₃ E' hj htt _ hn hm hkk
    have htt2 : 0 < s₃.toks := Nat.lt_of_lt_of_le (by first | assumption | exact Nat.succ_pos _ | (dsimp only; first | assumption | exact Nat.succ_pos _)) htt
    have hv : ∃ (k : Int) (u : Tok), v = .int k u ∧ Float64.isInf (divF k) = false := by
      match j, hj with
      | 0, hj => cases hj; exact ⟨_, _, rfl, w0⟩
      | 1, hj => cases hj; exact ⟨_, _, rfl, w1⟩
      | 2, hj => cases hj; exact ⟨_, _, rfl, w2⟩
      | _ + 3, hj => simp at hj
    obtain ⟨k, u, rfl, hw⟩ := hv
    k_steps
    all_goals first
      | exact ⟨_, _, rfl, fun _ _ e => e⟩
      | exact ⟨_, _, _, rfl, rfl, by first | exact Nat.ne_of_gt htt2 | exact Nat.succ_ne_zero _⟩
  case zhQ =>
    intro D2 h2 tk2 ep2 ys2 F8 N8 up9 hneD2 hpair2 htk8
    obtain ⟨ys2⟩ := ys2
    replace hpair2 : Paired flD [.int d0 t0, .int d1 t1, .int d2 t2] ys2 := hpair2
    cases hpair2 with | cons f0 hpair2 => ?_
    cases hpair2 with | cons f1 hpair2 => ?_
    cases hpair2 with | cons f2 hpair2 => ?_
    cases hpair2
    obtain ⟨kf0, uf0, tf0, hk0, hf0, hft0⟩ := f0
    obtain ⟨kf1, uf1, tf1, hk1, hf1, hft1⟩ := f1
    obtain ⟨kf2, uf2, tf2, hk2, hf2, hft2⟩ := f2
    cases hk0
    cases hk1
    cases hk2
    rw [hr0] at hf0
    rw [hr1] at hf1
    rw [hr2] at hf2
    subst hf0 hf1 hf2
    k_steps
    refine stop_ ?_
    rename Fr _ _ _ _ => F9
    rename News _ _ _ _ => N9
    refine call_backT (by first | assumption | exact Nat.succ_pos _) F9 N9 (hsv_c prog w _ _ p loose mg mb (X.keeps F9.keep) (T.keeps F9.keep) rfl (by have : dA + 30 < recursionLimit := hdp; show dA + 1 + 3 < recursionLimit; omega) _ _ _ _ _ _ (by first | assumption | exact Nat.succ_pos _) hft0 hft1 hft2 z1 z2) ?_
    rintro v9 h9 tk9 htk9 F10 N10 ⟨tp, tp0, tp1, tp2, rfl, hfr, htup, hpt0, hpt1, hpt2⟩
    k_steps
    refine stop_ ?_
    rename Fr _ _ _ _ => F12
    rename News _ _ _ _ => N12
    refine' sumK (l := q0) (vs := vs) rfl F12 N12 ?za12 hvs ?_
    case za12 => exact News.isList N12 (by k_mem)
    intro h13 tk13 t13 F13 N13
    k_steps
    refine stop_ ?_
    rename Fr _ _ _ _ => F14
    rename News _ _ _ _ => N14
    refine call_back F14 N14 (hls_c prog w _ _ p loose mg mb (X.keeps F14.keep) (T.keeps F14.keep) rfl (by have : dA + 30 < recursionLimit := hdp; show dA + 1 + 3 < recursionLimit; omega) _ _ _ _ _ _ z3 z2 z4) ?_
    rintro v15 h15 tk15 F15 N15 ⟨tq, tq0, tq1, tq2, rfl, hfr2, htup2⟩
    k_steps
    refine stop_ ?_
    rename Fr _ _ _ _ => F16
    rename News _ _ _ _ => N16
    refine min_two_N rfl F16 N16 ?_
    intro h17 tk17 F17 N17
    rw [hroom]
    generalize (if 16 - S - Fu < S + Fu then _ else _ : Tok) = tr
    k_steps
    refine stop_ ?_
    rename Fr _ _ _ _ => F18
    rename News _ _ _ _ => N18
    refine' sumK (l := q0) (vs := vs) rfl F18 N18 ?za18 hvs ?_
    case za18 => exact News.isList N18 (by k_mem)
    intro h19 tk19 t19 F19 N19
    k_steps
    exact hQ _ _ (fun b o e => F19.keep b o e)

example : True := by
 k_with_none
 trivial
end
section
-- needs D3 L5
noncomputable def sxF (one : Int) : Int := if one = 0 then 6 else one
noncomputable def flS (a b : Value) : Prop := ∃ (k : Int) (u t : Nat), a = .int k u ∧ b = .int (sxF k) t
theorem flS_ints : ∀ {vs bs : List Value} {xs : List Int}, IntsAre vs xs → Paired flS vs bs → IntsAre bs (xs.map sxF)
  | _, _, _, .nil, .nil => .nil
  | _, _, _, .cons _ _ r, .cons h q => by
    obtain ⟨k, u, t, e, rfl⟩ := h
    cases e
    exact .cons _ _ (flS_ints r q)
theorem ints_at : ∀ {vs : List Value} {xs : List Int}, IntsAre vs xs → ∀ (i : Nat) (v : Value), vs[i]? = some v → ∃ k u, v = .int k u ∧ xs[i]? = some k
  | _, _, .nil, i, v, h => by simp at h
  | _, _, .cons n t r, 0, v, h => by simp at h; subst h; exact ⟨_, _, rfl, rfl⟩
  | _, _, .cons n t r, i + 1, v, h => by
    simp only [List.getElem?_cons_succ] at h ⊢
    exact ints_at r i v h
example : True := by
 k_with_none
 k_with "exec For Name Call cons nil" => (refine stop ?_)
 k_with "pyIter ref" => (refine stop ?_)
 k_with "eval ListComp" => (refine stop ?_)
 k_with "exec Assign cons ListComp" => (refine stop ?_)
 k_with "eval Name" => ((k_here; k_dflt (refine' nameX_L ?zhF ?zhv ?_ ?zha ?zhb; (case zha => rfl); (case zhb => rfl); (case zhF => k_asm); (case zhv => first | exact rfl | assumption); k_whole)))
 k_with "eval Name" => ((k_here; k_dflt (first
  | (refine wpAny_Name (wpAny_loadName_local (env := compEnvC _ _ _ _) rfl rfl (by assumption) (by assumption) ?_) (by decide))
  | (refine wpAny_Name (wpAny_loadName_cell (env := compEnvC _ _ _ _) rfl rfl rfl (by assumption) ?_) (by decide)))))
 k_with "compareOp In int ref" => (k_dflt ((rename News _ _ _ _ => N'); refine in_intsM (News.isList N' (by k_mem)) (by assumption) ?_; try dsimp only))
 k_with "call builtin:len" => (((with_reducible show wpAny _ _ (call _ [Value.ref _]) _ _ _); k_dflt ((rename News _ _ _ _ => N'); (refine' len_list ?zha ?zhb ?_); (case zha => exact News.isList N' (by k_mem)); (case zhb => rw [List.size_toArray]; omega)); try dsimp only))
 k_with "execs cons" => (first
  | ((try dsimp only); (with_reducible refine gen_pos ?_); intro tk' hp')
  | dsimp only)
 k_with "execs nil" => (first
  | ((try dsimp only); (with_reducible refine gen_pos ?_); intro tk' hp')
  | dsimp only)
 k_with "execs cons" => (((with_reducible show wpAny _ _ (execs (Stmt.Assign [Expr.Tuple _ _ _] _ _ :: _) _) _ _ _); refine stop ?_))
 trivial
set_option pp.maxSteps 3000
theorem rest1_c (prog : Program) (w : World) (p : Program) (loose : List Str) (mg mb : Str → Option Value) (g : Heap) (L : Addr) (dA : Nat) (fr : Option (List Env)) (gs : Option (List Code))
    (X : (hd.heap_1 w.params).In g) (T : TopRead p loose mg mb g) (hdp : dA + 30 < recursionLimit) (body : List Stmt) (sc : Scope) (hb : body = (bodyAt w.params 156).drop 5) (hsc : sc = scopeAt w.params 156)
    (d0 d1 d2 : Int) (l3 q0 : Addr) (ot : Obj) (t0 t1 t2 k1 k2 : Tok) (ep : Nat) (vs : List Value) (xs ys : List Int) (S Fu : Int) (rest : List (Addr × Obj))
    (h : Heap) (gn : Array GenState) (dr : Drawn) (tk : Nat) (os : OsState) (m : Str → Option Value) (E : Value → Shared → Prop) (Q : Flow → Shared → Prop) (hvs : IntsAre vs xs) (hxs : xs.length ≤ 1000) (hys : (if xs.any (· == 5) = true then xs.map sxF else xs) = ys) (htk : 0 < tk)
    (F : Fr g L h m) (N : News g L h ((L + 1, ot) :: (q0, W.listOf vs.toArray ep) :: rest)) (cT : ot.data = .cell (some (.ref l3)))
    (hl : g.IsList l3 #[.int d0 t0, .int d1 t1, .int d2 t2])
    (e1 : m "some" = some (.int S k1)) (e2 : m "full" = some (.int Fu k2)) (e3 : m "sixths" = some (.ref q0))
    (hN2 : ∀ h tk m k3 q0 vs ep rest, IntsAre vs ys → 0 < tk → Fr g L h m → News g L h ((L + 1, ot) :: (q0, W.listOf vs.toArray ep) :: rest) → m "some" = some (.int S k1) → m "full" = some (.int Fu k2) → m "sixths" = some (.ref q0) → m "tinted" = some (.int (xs.length : Int) k3) → ∀ body2, body2 = (bodyAt w.params 156).drop 7 →
      wpAny (model prog w) (({ handled := none, depth := dA, frames := fr, guards := gs, units := 1000 } : Around).deeper (envOfC (Str.ofString "_law_colour_by_its_layers") sc L 156 (.ref 155)))
      (execs body2 (envOfC (Str.ofString "_law_colour_by_its_layers") sc L 156 (.ref 155))) Q E ⟨h, gn, dr, tk, os⟩) :
    wpAny (model prog w) (({ handled := none, depth := dA, frames := fr, guards := gs, units := 1000 } : Around).deeper (envOfC (Str.ofString "_law_colour_by_its_layers") sc L 156 (.ref 155)))
      (execs body (envOfC (Str.ofString "_law_colour_by_its_layers") sc L 156 (.ref 155))) Q E ⟨h, gn, dr, tk, os⟩ := by
  conv at hb => rhs; whnf
  conv at hsc => rhs; whnf
  subst hb hsc
  have hvl := hvs.length
  refine gen_pos0 htk ?_
  intro tk1 htk1
  k_steps
  · refine stop_ ?_
    rename Fr _ _ _ _ => F5
    rename News _ _ _ _ => N5
    rename (List.any _ _ = true) => hany
    rw [if_pos hany] at hys
    subst hys
    refine wpAny_with_toks (n := 1) (by first | assumption | exact Nat.succ_pos _) ?_
    refine acomp_FN (fun _ => true) flS F5 N5 (by rfl) (by rfl) (by rfl) (by decide) (by rfl) (by decide) (by rfl) (by rfl) (by rfl) ?_
    refine wpAny_with_toks (n := 1) (by first | assumption | exact Nat.succ_pos _) ?_
    k_steps
    refine stop_ ?_
    refine' comp_listG (items := vs.toArray) ?zhh ?zhs1 ?zhk ?zhl ?zhnz ?zhtest ?zhelt ?zhQ
    case zhh => rfl
    case zhs1 => exact ⟨_, _, rfl⟩
    case zhk => exact fun _ _ e => e
    case zhl => exact News.isList N5 (by k_mem)
    case zhnz => rw [List.size_toArray]; omega
    case zhtest => intros; exact quiet_none
    case zhelt =>
      intro C j v s₃ m₃ E' hj htt _ hn hm hkk
      obtain ⟨k, u, rfl, _⟩ := ints_at hvs j v (by simpa using hj)
      k_steps
      all_goals first
        | exact ⟨_, _, rfl, fun _ _ e => e⟩
        | exact ⟨k, u, _, rfl, congrArg (fun z => Value.int z _) (by unfold sxF; first | exact (if_pos (by assumption)).symm | exact (if_neg (by assumption)).symm)⟩
    case zhQ =>
      intro D2 h2 tk2 ep2 ys2 F8 N8 up9 hneD2 hpair2 htk8
      obtain ⟨ys2⟩ := ys2
      have hfil : List.filter (fun _ : Value => true) vs.toArray.toList = vs := List.filter_eq_self.mpr fun _ _ => rfl
      rw [hfil] at hpair2
      have hvs2 := flS_ints hvs hpair2
      k_steps
      refine stop_ ?_
      rename Fr _ _ _ _ => F9
      rename News _ _ _ _ => N9
      refine hN2 _ _ _ _ D2 ys2 ep2 ((q0, W.listOf vs.toArray ep) :: rest) hvs2 (by first | assumption | exact Nat.succ_pos _) F9 (fun q hq => N9 q ?_) ?_ ?_ rfl (show (_ : Option Value) = _ from by rw [← hvl]; rfl) _ rfl
      · rcases List.mem_cons.mp hq with rfl | hq
        · exact .tail _ (.head _)
        · rcases List.mem_cons.mp hq with rfl | hq
          · exact .head _
          · exact .tail _ (.tail _ hq)
      · first | exact e1 | rfl
      · first | exact e2 | rfl
  · refine stop_ ?_
    rename Fr _ _ _ _ => F5
    rename News _ _ _ _ => N5
    rename (List.any _ _ = false) => hany
    rw [hany, if_neg Bool.false_ne_true] at hys
    subst hys
    refine hN2 _ _ _ _ q0 vs ep rest hvs (by first | assumption | exact Nat.succ_pos _) F5 N5 ?_ ?_ ?_ (show (_ : Option Value) = _ from by rw [← hvl]; rfl) _ rfl
    · first | exact e1 | rfl
    · first | exact e2 | rfl
    · first | exact e3 | rfl

example : True := by
 k_with_none
 trivial
end
section
-- needs D4
noncomputable def stS (d0 d1 d2 : Nat) : Nat → Int
  | 0 => 0
  | i + 1 => if decide (i + 1 ≤ d0) || decide (i + 1 ≤ d1) || decide (i + 1 ≤ d2) then stS d0 d1 d2 i + 1 else stS d0 d1 d2 i
noncomputable def stF (d0 d1 d2 : Nat) : Nat → Int
  | 0 => 0
  | i + 1 => if decide (i + 1 ≤ d0) && decide (i + 1 ≤ d1) && decide (i + 1 ≤ d2) then stF d0 d1 d2 i + 1 else stF d0 d1 d2 i
noncomputable def stX (d0 d1 d2 : Nat) : Nat → List Int
  | 0 => []
  | i + 1 => match sixB (decide (i + 1 ≤ d0)) (decide (i + 1 ≤ d1)) (decide (i + 1 ≤ d2)) with
    | some c => stX d0 d1 d2 i ++ [c]
    | none => stX d0 d1 d2 i
noncomputable def ysOf (xs : List Int) : List Int := if xs.any (· == 5) = true then xs.map sxF else xs
noncomputable def roomOf (S Fu : Int) : Int := if 16 - S - Fu < S + Fu then 16 - S - Fu else S + Fu
noncomputable abbrev Chk2 (r0 r1 r2 : UInt64) (S Fu n sm room : Int) : Prop :=
  Float64.isInf r0 = false ∧ Float64.isInf r1 = false ∧ Float64.isInf r2 = false ∧ Float64.isInf (Float64.ofInt S) = false ∧ Float64.isInf (Float64.ofInt n) = false ∧ Float64.isInf (Float64.ofInt room) = false ∧
  (eqF (mn3 r0 r1 r2) (mx3 r0 r1 r2) = false → Float64.isZero (mx3 r0 r1 r2) = false) ∧ (eqF (mn3 r0 r1 r2) (mx3 r0 r1 r2) = false → Float64.isZero (Float64.sub (mx3 r0 r1 r2) (mn3 r0 r1 r2)) = false) ∧
  (eqF (mn3 r0 r1 r2) (mx3 r0 r1 r2) = false → Float64.isZero (Float64.add (mx3 r0 r1 r2) (mn3 r0 r1 r2)) = false) ∧
  (eqF (mn3 r0 r1 r2) (mx3 r0 r1 r2) = false → Float64.isZero (Float64.sub (Float64.sub 4611686018427387904 (mx3 r0 r1 r2)) (mn3 r0 r1 r2)) = false) ∧
  Float64.cmpInt (Float64.mul (Float64.ofInt 8) (hsvF r0 r1 r2).2.2) S = some .eq ∧
  intF (Float64.add (Float64.mul (Float64.ofInt S) (hsvF r0 r1 r2).2.1) 4602678819172646912) = some n ∧
  intF (Float64.add (Float64.mul (Float64.mul (Float64.ofInt 6) (hsvF r0 r1 r2).1) (Float64.ofInt n)) 4602678819172646912) = some sm ∧
  Float64.cmpInt (Float64.mul (Float64.ofInt 16) (hlsF r0 r1 r2).2.1) (S + Fu) = some .eq ∧
  intF (Float64.add (Float64.mul (Float64.ofInt room) (hlsF r0 r1 r2).2.2) 4602678819172646912) = some n ∧
  intF (Float64.add (Float64.mul (Float64.mul (Float64.ofInt 6) (hlsF r0 r1 r2).1) (Float64.ofInt n)) 4602678819172646912) = some sm
noncomputable abbrev ChkP (d0 d1 d2 : Nat) : Prop := Chk2 (divF d0) (divF d1) (divF d2) (stS d0 d1 d2 7) (stF d0 d1 d2 7) ((stX d0 d1 d2 7).length : Int) (ysOf (stX d0 d1 d2 7)).sum (roomOf (stS d0 d1 d2 7) (stF d0 d1 d2 7))
noncomputable def fc (x : UInt64) (k : UInt64 → Bool) : Bool := @Nat.rec (fun _ => Bool) (k (UInt64.ofNat 0)) (fun n _ => k (UInt64.ofNat (n + 1))) x.toNat
theorem fc_eq (x : UInt64) (k : UInt64 → Bool) : fc x k = k x := by
  have h : k x = k (UInt64.ofNat x.toNat) := by rw [UInt64.ofNat_toNat]
  rw [h]; unfold fc
  cases x.toNat <;> rfl
/-- the hue, each step worked out before it is handed on (the kernel would work it out again at every use) -/
noncomputable def hueC (r g b : UInt64) (k : UInt64 → Bool) : Bool :=
  fc (mx3 r g b) fun M => fc (mn3 r g b) fun m => bif eqF m M then k 0 else
    fc (Float64.sub M m) fun d => fc (Float64.sub M r) fun t1 => fc (Float64.div t1 d) fun rc => fc (Float64.sub M g) fun t2 => fc (Float64.div t2 d) fun gc => fc (Float64.sub M b) fun t3 => fc (Float64.div t3 d) fun bc =>
    fc (bif eqF r M then Float64.sub bc gc else bif eqF g M then Float64.sub (Float64.add 4611686018427387904 rc) bc else Float64.sub (Float64.add 4616189618054758400 gc) rc) fun a =>
    fc (Float64.div a 4618441417868443648) fun q => fc (Float64.divmod q 4607182418800017408).2 k
theorem hueC_eq (r g b : UInt64) (k : UInt64 → Bool) : hueC r g b k = k (hsvF r g b).1 := by
  unfold hueC hsvF hueF
  simp only [fc_eq, cond_eq_ite]
  split <;> rfl
theorem hls_hue (r g b : UInt64) : (hlsF r g b).1 = (hsvF r g b).1 := by
  unfold hlsF hsvF
  dsimp only
  split <;> rfl
noncomputable def chkH (r0 r1 r2 : UInt64) (n sm : Int) : Bool :=
  fc r0 fun r => fc r1 fun g => fc r2 fun b => hueC r g b fun h => fc (Float64.mul (Float64.ofInt 6) h) fun x => fc (Float64.mul x (Float64.ofInt n)) fun y => fc (Float64.add y 4602678819172646912) fun z => decide (intF z = some sm)
theorem chkH_eq {r0 r1 r2 : UInt64} {n sm : Int} (h : chkH r0 r1 r2 n sm = true) : intF (Float64.add (Float64.mul (Float64.mul (Float64.ofInt 6) (hsvF r0 r1 r2).1) (Float64.ofInt n)) 4602678819172646912) = some sm := by
  unfold chkH at h
  simp only [fc_eq, hueC_eq] at h
  exact of_decide_eq_true h
noncomputable abbrev Chk3 (r0 r1 r2 : UInt64) (S Fu n room : Int) : Prop :=
  Float64.isInf r0 = false ∧ Float64.isInf r1 = false ∧ Float64.isInf r2 = false ∧ Float64.isInf (Float64.ofInt S) = false ∧ Float64.isInf (Float64.ofInt n) = false ∧ Float64.isInf (Float64.ofInt room) = false ∧
  (eqF (mn3 r0 r1 r2) (mx3 r0 r1 r2) = false → Float64.isZero (mx3 r0 r1 r2) = false) ∧ (eqF (mn3 r0 r1 r2) (mx3 r0 r1 r2) = false → Float64.isZero (Float64.sub (mx3 r0 r1 r2) (mn3 r0 r1 r2)) = false) ∧
  (eqF (mn3 r0 r1 r2) (mx3 r0 r1 r2) = false → Float64.isZero (Float64.add (mx3 r0 r1 r2) (mn3 r0 r1 r2)) = false) ∧
  (eqF (mn3 r0 r1 r2) (mx3 r0 r1 r2) = false → Float64.isZero (Float64.sub (Float64.sub 4611686018427387904 (mx3 r0 r1 r2)) (mn3 r0 r1 r2)) = false) ∧
  Float64.cmpInt (Float64.mul (Float64.ofInt 8) (hsvF r0 r1 r2).2.2) S = some .eq ∧
  intF (Float64.add (Float64.mul (Float64.ofInt S) (hsvF r0 r1 r2).2.1) 4602678819172646912) = some n ∧
  Float64.cmpInt (Float64.mul (Float64.ofInt 16) (hlsF r0 r1 r2).2.1) (S + Fu) = some .eq ∧
  intF (Float64.add (Float64.mul (Float64.ofInt room) (hlsF r0 r1 r2).2.2) 4602678819172646912) = some n
noncomputable def intC (f q : UInt64) (n : Int) : Bool := fc (Float64.mul f q) fun x => fc (Float64.add x 4602678819172646912) fun y => decide (intF y = some n)
noncomputable def chkR (r0 r1 r2 : UInt64) (S Fu n room : Int) : Bool :=
  fc r0 fun r => fc r1 fun g => fc r2 fun b => fc (mx3 r g b) fun M => fc (mn3 r g b) fun m => fc (Float64.ofInt S) fun fS => fc (Float64.ofInt n) fun fn => fc (Float64.ofInt room) fun fr =>
    (!Float64.isInf r && (!Float64.isInf g && (!Float64.isInf b && (!Float64.isInf fS && (!Float64.isInf fn && !Float64.isInf fr))))) &&
    ((fc (Float64.mul (Float64.ofInt 8) M) fun x => decide (Float64.cmpInt x S = some .eq)) &&
    (fc (Float64.add M m) fun sm => fc (Float64.div sm 4611686018427387904) fun l => (fc (Float64.mul (Float64.ofInt 16) l) fun x => decide (Float64.cmpInt x (S + Fu) = some .eq)) &&
      (bif eqF m M then intC fS 0 n && intC fr 0 n else
        fc (Float64.sub M m) fun d => fc (Float64.sub (Float64.sub 4611686018427387904 M) m) fun e => (!Float64.isZero M && (!Float64.isZero d && (!Float64.isZero sm && !Float64.isZero e))) &&
          ((fc (Float64.div d M) fun q => intC fS q n) && (fc (bif leF l 4602678819172646912 then Float64.div d sm else Float64.div d e) fun q => intC fr q n)))))
theorem chkR_eq {r0 r1 r2 : UInt64} {S Fu n room : Int} (h : chkR r0 r1 r2 S Fu n room = true) : Chk3 r0 r1 r2 S Fu n room := by
  unfold chkR intC at h
  simp only [fc_eq, Bool.and_eq_true, Bool.not_eq_true', decide_eq_true_eq, cond_eq_ite] at h
  obtain ⟨⟨a1, a2, a3, a4, a5, a6⟩, c1, c4, h⟩ := h
  unfold Chk3 hsvF hlsF
  dsimp only
  by_cases q : eqF (mn3 r0 r1 r2) (mx3 r0 r1 r2) = true
  · rw [if_pos q] at h ⊢
    simp only [Bool.and_eq_true, decide_eq_true_eq] at h
    rw [if_pos q]
    exact ⟨a1, a2, a3, a4, a5, a6, fun e => (by rw [q] at e; cases e), fun e => (by rw [q] at e; cases e), fun e => (by rw [q] at e; cases e), fun e => (by rw [q] at e; cases e), c1, h.1, c4, h.2⟩
  · rw [if_neg q] at h ⊢
    simp only [Bool.and_eq_true, Bool.not_eq_true', decide_eq_true_eq] at h
    obtain ⟨⟨z1, z2, z3, z4⟩, c2, c5⟩ := h
    rw [if_neg q]
    exact ⟨a1, a2, a3, a4, a5, a6, fun _ => z1, fun _ => z2, fun _ => z3, fun _ => z4, c1, c2, c4, c5⟩
theorem chk_join {r0 r1 r2 : UInt64} {S Fu n sm room : Int} (h : chkR r0 r1 r2 S Fu n room = true ∧ chkH r0 r1 r2 n sm = true) : Chk2 r0 r1 r2 S Fu n sm room := by
  obtain ⟨h0, h⟩ := h
  obtain ⟨a1, a2, a3, a4, a5, a6, a7, a8, a9, a10, c1, c2, c4, c5⟩ := chkR_eq h0
  have c3 := chkH_eq h
  exact ⟨a1, a2, a3, a4, a5, a6, a7, a8, a9, a10, c1, c2, c3, c4, c5, by rw [hls_hue]; exact c3⟩
noncomputable abbrev ChkQ (d0 d1 d2 : Nat) : Prop := chkR (divF d0) (divF d1) (divF d2) (stS d0 d1 d2 7) (stF d0 d1 d2 7) ((stX d0 d1 d2 7).length : Int) (roomOf (stS d0 d1 d2 7) (stF d0 d1 d2 7)) = true ∧
  chkH (divF d0) (divF d1) (divF d2) ((stX d0 d1 d2 7).length : Int) (ysOf (stX d0 d1 d2 7)).sum = true
theorem chk_0 : ∀ d1 d2 : Fin 8, ChkQ 0 d1 d2 := by decide +kernel
theorem chk_1 : ∀ d1 d2 : Fin 8, ChkQ 1 d1 d2 := by decide +kernel
theorem chk_2 : ∀ d1 d2 : Fin 8, ChkQ 2 d1 d2 := by decide +kernel
theorem chk_3 : ∀ d1 d2 : Fin 8, ChkQ 3 d1 d2 := by decide +kernel
theorem chk_4 : ∀ d1 d2 : Fin 8, ChkQ 4 d1 d2 := by decide +kernel
theorem chk_5 : ∀ d1 d2 : Fin 8, ChkQ 5 d1 d2 := by decide +kernel
theorem chk_6 : ∀ d1 d2 : Fin 8, ChkQ 6 d1 d2 := by decide +kernel
theorem chk_7 : ∀ d1 d2 : Fin 8, ChkQ 7 d1 d2 := by decide +kernel
theorem chk_all (d0 d1 d2 : Nat) (h0 : d0 < 8) (h1 : d1 < 8) (h2 : d2 < 8) : ChkP d0 d1 d2 := by
  refine chk_join (?_ : ChkQ d0 d1 d2)
  match d0, h0 with
  | 0, _ => exact chk_0 ⟨d1, h1⟩ ⟨d2, h2⟩
  | 1, _ => exact chk_1 ⟨d1, h1⟩ ⟨d2, h2⟩
  | 2, _ => exact chk_2 ⟨d1, h1⟩ ⟨d2, h2⟩
  | 3, _ => exact chk_3 ⟨d1, h1⟩ ⟨d2, h2⟩
  | 4, _ => exact chk_4 ⟨d1, h1⟩ ⟨d2, h2⟩
  | 5, _ => exact chk_5 ⟨d1, h1⟩ ⟨d2, h2⟩
  | 6, _ => exact chk_6 ⟨d1, h1⟩ ⟨d2, h2⟩
  | 7, _ => exact chk_7 ⟨d1, h1⟩ ⟨d2, h2⟩
end
section
theorem news_swap2 {g h : Heap} {L : Addr} {a b : Addr × Obj} {r : List (Addr × Obj)} (N : News g L h (a :: b :: r)) : News g L h (b :: a :: r) := fun q hq => by
  rcases List.mem_cons.mp hq with rfl | hq
  · exact N _ (.tail _ (.head _))
  · rcases List.mem_cons.mp hq with rfl | hq
    · exact N _ (.head _)
    · exact N _ (.tail _ (.tail _ hq))
theorem stX_len (d0 d1 d2 : Nat) : ∀ i, (stX d0 d1 d2 i).length ≤ i
  | 0 => Nat.le_refl _
  | i + 1 => by
    rw [stX]
    have := stX_len d0 d1 d2 i
    split
    · rw [List.length_append, List.length_singleton]; omega
    · omega
theorem ints_snoc {vs : List Value} {ns : List Int} (h : IntsAre vs ns) (c : Int) (t : Tok) : IntsAre (vs ++ [.int c t]) (ns ++ [c]) := IntsAre.append h (.cons _ _ .nil)
example : True := by
 k_with_none
 k_with "exec For Name Call cons nil" => (refine stop ?_)
 k_with "pyIter ref" => (refine stop ?_)
 k_with "execs cons" => (first
  | ((try dsimp only); (with_reducible refine gen_pos ?_); intro tk' hp')
  | dsimp only)
 k_with "execs nil" => (first
  | ((try dsimp only); (with_reducible refine gen_pos ?_); intro tk' hp')
  | dsimp only)
 trivial
set_option pp.maxSteps 3000
/-- the loop over the heights and what follows -/
theorem loop_c (prog : Program) (w : World) (p : Program) (loose : List Str) (mg mb : Str → Option Value) (g : Heap) (L : Addr) (dA : Nat) (fr : Option (List Env)) (gs : Option (List Code))
    (X : (hd.heap_1 w.params).In g) (T : TopRead p loose mg mb g) (hdp : dA + 30 < recursionLimit) (body : List Stmt) (sc : Scope) (hb : body = (bodyAt w.params 156).drop 4) (hsc : sc = scopeAt w.params 156)
    (d0 d1 d2 : Nat) (h0 : d0 < 8) (h1 : d1 < 8) (h2 : d2 < 8) (q0 q1 a0 a1 a2 a3 a4 a5 l3 : Addr) (om ov ot : Obj) (t0 t1 t2 y0 y1 y2 y3 y4 y5 y6 y7 y8 k1 k2 : Tok) (ep : Nat) (mv vv : Option Value)
    (h : Heap) (gn : Array GenState) (dr : Drawn) (tk : Nat) (os : OsState) (m : Str → Option Value) (E : Value → Shared → Prop) (Q : Flow → Shared → Prop) (htk : 0 < tk)
    (F : Fr g L h m) (N : News g L h [(q0, W.listOf #[] ep), (q1, W.listOf #[.ref a0, .ref a1, .ref a2, .ref a3, .ref a4, .ref a5] 0), (a5, W.listOf #[.int 0 y7, .int 2 y8] 0), (a4, W.listOf #[.int 2 y6] 0),
      (a3, W.listOf #[.int 1 y4, .int 2 y5] 0), (a2, W.listOf #[.int 1 y3] 0), (a1, W.listOf #[.int 0 y1, .int 1 y2] 0), (a0, W.listOf #[.int 0 y0] 0), (L + 1 + 1 + 1, om), (L + 1 + 1, ov), (L + 1, ot)])
    (hq0 : Away q0 [q1, a5, a4, a3, a2, a1, a0, L + 1 + 1 + 1, L + 1 + 1, L + 1]) (hmn : Away (L + 1 + 1 + 1) [q1, a5, a4, a3, a2, a1, a0]) (hvn : Away (L + 1 + 1) [q1, a5, a4, a3, a2, a1, a0])
    (cM : om.data = .cell mv) (cV : ov.data = .cell vv) (cT : ot.data = .cell (some (.ref l3)))
    (hl : g.IsList l3 #[.int (d0 : Int) t0, .int (d1 : Int) t1, .int (d2 : Int) t2])
    (e1 : m "some" = some (.int 0 k1)) (e2 : m "full" = some (.int 0 k2)) (e3 : m "sixths" = some (.ref q0)) (e4 : m "corners" = some (.ref q1))
    (hE : PassesOwn (model prog w) (({ handled := none, depth := dA, frames := fr, guards := gs, units := 1000 } : Around).deeper (envOfC (Str.ofString "_law_colour_by_its_layers") sc L 156 (.ref 155))) (envOfC (Str.ofString "_law_colour_by_its_layers") sc L 156 (.ref 155)) E)
    (hQ : ∀ h' tk', (∀ b o, g.get? b = some o → h'.get? b = some o) → Q (.ret (.bool true)) ⟨h', gn, dr, tk', os⟩) :
    wpAny (model prog w) (({ handled := none, depth := dA, frames := fr, guards := gs, units := 1000 } : Around).deeper (envOfC (Str.ofString "_law_colour_by_its_layers") sc L 156 (.ref 155)))
      (execs body (envOfC (Str.ofString "_law_colour_by_its_layers") sc L 156 (.ref 155))) Q E ⟨h, gn, dr, tk, os⟩ := by
  conv at hb => rhs; whnf
  conv at hsc => rhs; whnf
  subst hb hsc
  refine gen_pos0 htk ?_
  intro tk1 htk1
  k_steps
  refine stop_ ?_
  refine wpAny_For ?_
  refine wpAny_with_toks (n := 1) (by first | assumption | exact Nat.succ_pos _) ?_
  k_steps
  refine stop_ ?_
  rename Fr _ _ _ _ => F3
  rename News _ _ _ _ => N3
  rename IsRange _ _ _ _ _ _ _ _ => R3
  refine' for_rangeB (n := 7) (a := 1) (b := 8) (c := 1) ?F ?N ?R ?hsm ?hn
    (fun i m nw => ∃ (ep : Nat) (vs : List Value) (om ov : Obj) (k1 k2 : Tok) (mv vv : Option Value), m "some" = some (.int (stS d0 d1 d2 i) k1) ∧ m "full" = some (.int (stF d0 d1 d2 i) k2) ∧ m "sixths" = some (.ref q0) ∧ m "corners" = some (.ref q1) ∧ IntsAre vs (stX d0 d1 d2 i) ∧
      om.data = .cell mv ∧ ov.data = .cell vv ∧ nw = [(q0, W.listOf vs.toArray ep), (q1, W.listOf #[.ref a0, .ref a1, .ref a2, .ref a3, .ref a4, .ref a5] 0), (a5, W.listOf #[.int 0 y7, .int 2 y8] 0), (a4, W.listOf #[.int 2 y6] 0),
      (a3, W.listOf #[.int 1 y4, .int 2 y5] 0), (a2, W.listOf #[.int 1 y3] 0), (a1, W.listOf #[.int 0 y1, .int 1 y2] 0), (a0, W.listOf #[.int 0 y0] 0), (L + 1 + 1 + 1, om), (L + 1 + 1, ov), (L + 1, ot)])
    ?hJ ?hh ?hpos ?turn ?done ?hE
  case F => exact F3
  case N => exact N3
  case R => exact R3
  case hsm => decide +kernel
  case hn => decide +kernel
  case hh => rfl
  case hE => exact hE
  case hpos => first | assumption | exact Nat.succ_pos _ | (dsimp only; first | assumption | exact Nat.succ_pos _ | omega)
  case hJ => exact ⟨_, ⟨ep, [], om, ov, k1, k2, mv, vv, e1, e2, e3, e4, .nil, cM, cV, rfl⟩, fun q hq => hq⟩
  case turn =>
    clear F3 N3 e1 e2 e3 e4 cM cV
    rintro i m nw h tk I oI tv hi hp0 ⟨ep, vs, om, ov, k1, k2, mv, vv, e1, e2, e3, e4, hvs, cM, cV, rfl⟩ hne F4 N4
    have hIA : Away I [q0, q1, a5, a4, a3, a2, a1, a0, L + 1 + 1 + 1, L + 1 + 1, L + 1] := fun x hx => by
      obtain ⟨q, hq, rfl⟩ := List.mem_map.mp (show x ∈ List.map (·.1) [(q0, W.listOf vs.toArray ep), (q1, W.listOf #[.ref a0, .ref a1, .ref a2, .ref a3, .ref a4, .ref a5] 0), (a5, W.listOf #[.int 0 y7, .int 2 y8] 0), (a4, W.listOf #[.int 2 y6] 0),
        (a3, W.listOf #[.int 1 y4, .int 2 y5] 0), (a2, W.listOf #[.int 1 y3] 0), (a1, W.listOf #[.int 0 y1, .int 1 y2] 0), (a0, W.listOf #[.int 0 y0] 0), (L + 1 + 1 + 1, om), (L + 1 + 1, ov), (L + 1, ot)] from hx)
      exact hne q hq
    have hpost : Away (L + 1 + 1) [L + 1] := .cons (by omega) .nil
    have hpre : Away (L + 1 + 1) [I, q0, q1, a5, a4, a3, a2, a1, a0, L + 1 + 1 + 1] := .cons (fun e => hIA (L + 1 + 1) (by simp) e.symm) (.cons (fun e => hq0 (L + 1 + 1) (by simp) e.symm) (fun x hx => by
      simp only [List.mem_cons, List.not_mem_nil, or_false] at hx
      rcases hx with rfl | rfl | rfl | rfl | rfl | rfl | rfl | rfl
      all_goals first | omega | exact hvn _ (by simp)))
    refine wpAny_assign_Name ?_
    refine' storeX_C F4 N4 ?cc (updF_of (pre := [_, _, _, _, _, _, _, _, _, _]) (o := ov) (post := [_]) hpost hpre) cV ?_ ?aa ?bb
    case cc => rfl
    case aa => rfl
    case bb => rfl
    intro h5 ov' F5 N5 cV5
    simp only [List.cons_append, List.nil_append] at N5
    have N5 := news_swap2 N5
    have hvv : (1 : Int) + (i : Int) * 1 = ((i + 1 : Nat) : Int) := by omega
    rw [hvv] at cV5
    have hvl := hvs.length
    have hxl := stX_len d0 d1 d2 i
    refine' turn_c prog w p loose mg mb g L dA fr gs X T hdp _ _ ?ahb ?ahsc d0 d1 d2 (i + 1) I q0 q1 a0 a1 a2 a3 a4 a5 l3 oI om ov' ot t0 t1 t2 y0 y1 y2 y3 y4 y5 y6 y7 y8 k1 k2 tv ep vs mv (stS d0 d1 d2 i) (stF d0 d1 d2 i) _ _ _ _ _ _ _ _ (by omega) hp0 F5 N5 ?ane cM cV5 cT ?amn hl e1 e2 e3 e4 ?aQ
    case ahb => rfl
    case ahsc => rfl
    case ane =>
      intro q hq
      simp only [List.mem_cons, List.not_mem_nil, or_false] at hq
      rcases hq with rfl | rfl | rfl | rfl | rfl | rfl | rfl | rfl | rfl | rfl | rfl
      · exact fun e => hIA q0 (by simp) e.symm
      all_goals exact hq0 _ (by simp)
    case amn => exact .cons (fun e => hq0 (L + 1 + 1 + 1) (by simp) e.symm) (.cons (fun e => hIA (L + 1 + 1 + 1) (by simp) e.symm) hmn)
    case aQ =>
      rintro h6 tk6 m6 ep6 vs6 om6 htk6 F6 ⟨k6, f1⟩ ⟨k7, f2⟩ f3 f4 ⟨mv6, f5⟩ f6 N6
      refine TurnEnd.nextJ F6 N6 (.tail _ (.head _)) ⟨_, ⟨ep6, vs6, om6, ov', k6, k7, mv6, _, f1, f2, f3, f4, ?_, f5, cV5, rfl⟩, fun q hq => ⟨?_, hIA q.1 (List.mem_map.mpr ⟨q, hq, rfl⟩)⟩⟩
      · rw [stX]
        revert f6
        cases sixB (decide (i + 1 ≤ d0)) (decide (i + 1 ≤ d1)) (decide (i + 1 ≤ d2)) with
        | none => rintro rfl; exact hvs
        | some c => rintro ⟨t, rfl⟩; exact ints_snoc hvs c t
      · rcases List.mem_cons.mp hq with rfl | hq
        · exact .head _
        · exact .tail _ (.tail _ hq)
  case done =>
    clear F3 N3 e1 e2 e3 e4 cM cV
    rintro m nw h tk hp0 ⟨ep, vs, om, ov, k1, k2, mv, vv, e1, e2, e3, e4, hvs, cM, cV, rfl⟩ F4 N4
    have hxl := stX_len d0 d1 d2 7
    obtain ⟨w0, w1, w2, wS, wn, wr, z1, z2, z3, z4, c1, c2, c3, c4, c5, c6⟩ := chk_all d0 d1 d2 h0 h1 h2
    refine' rest1_c prog w p loose mg mb g L dA fr gs X T hdp _ _ ?ahb ?ahsc d0 d1 d2 l3 q0 ot t0 t1 t2 k1 k2 ep vs (stX d0 d1 d2 7) (ysOf (stX d0 d1 d2 7)) (stS d0 d1 d2 7) (stF d0 d1 d2 7) [] _ _ _ _ _ _ _ _ hvs (by omega) rfl hp0 F4 (fun q hq => N4 q ?amem) cT hl e1 e2 e3 ?aN
    case ahb => rfl
    case ahsc => rfl
    case amem =>
      simp only [List.mem_cons, List.not_mem_nil, or_false] at hq
      rcases hq with rfl | rfl
      all_goals k_mem
    case aN =>
      intro h tk m k3 q0 vs ep rest hvs htk F N f1 f2 f3 f4 body2 hb2
      exact rest2_c prog w p loose mg mb g L dA fr gs X T hdp body2 _ hb2 rfl d0 d1 d2 l3 q0 ot t0 t1 t2 k1 k2 k3 ep vs (ysOf (stX d0 d1 d2 7)) (stS d0 d1 d2 7) (stF d0 d1 d2 7) ((stX d0 d1 d2 7).length : Int) rest h gn dr tk os m E Q hvs htk F N cT hl f1 f2 f3 f4
        w0 w1 w2 wS wn (roomOf (stS d0 d1 d2 7) (stF d0 d1 d2 7)) rfl wr _ _ _ rfl rfl rfl z1 z2 z3 z4 c1 c2 c3 c4 c5 c6 hQ

example : True := by
 k_with_none
 trivial
end
section
-- needs D5
section
variable {prog : Program} {w : World} {A : Around} {s : Shared} {R : Result → Shared → Prop} {K : Frag} {p : Program} {loose : List Str} {mg mb : Str → Option Value}
  {name qual : Str} {params : Arguments} {body : List Stmt} {scope : Scope} {dV kV doc pm cdv ct oc : Value} {an od : Option Addr} {osl : Array (Option Value)} {f : Addr} {args : Args} {binds : List (Str × Value)}
theorem enterC (ht : 0 < s.toks) (binds : List (Str × Value)) (X : K.In s.heap) (T : TopRead p loose mg mb s.heap)
    (ho : K.lookup f = some ⟨oc, od, .func (fnOf name qual params body scope dV kV doc pm an cdv ct), osl⟩) (hcd : codeIn K cdv qual = true) (hroom : A.depth < recursionLimit)
    (hbind : BindsTo s (fnOf name qual params body scope dV kV doc pm an cdv ct) args binds) (hkind : (binds.all fun y => scope.names.lookup y.1 == some .local || scope.names.lookup y.1 == some .cell) = true)
    (hnd : ((cellsFrom 0 scope.names []).map (·.1)).Nodup) (hco : scope.isCoroutine = false) (hgen : scope.isGenerator = false) (hk : scope.kind = .function)
    (h : ∀ h₁ tk cells, 0 < tk → Fr s.heap s.heap.objs.size h₁ (bindL (envOfC qual scope s.heap.objs.size f cdv).kindOf binds fun _ => none) → News s.heap s.heap.objs.size h₁ cells →
      CellsAre (bindC (envOfC qual scope s.heap.objs.size f cdv).kindOf binds fun _ => none) (cellsFrom (s.heap.objs.size + 1) scope.names []) cells →
      wpAny (model prog w) (A.deeper (envOfC qual scope s.heap.objs.size f cdv)) (execs body (envOfC qual scope s.heap.objs.size f cdv))
        (fun fl s' => R (.ok (.ret (match fl with | .ret v => v | _ => .none))) s') (fun _ _ => False) { s with heap := h₁, toks := tk }) :
    codeAny (model prog w) A (.call (.ref f) args) R s := by
  refine codeAny_call_function (fd := fnOf name qual params body scope dV kV doc pm an cdv ct) hroom (X _ _ ho) rfl hco hgen rfl (codeRec_of X hcd) (hbind _ _ _ _ ?_)
  refine wpAny_with_toks (n := 1) ht (wpAny_newFunctionEnv_cells hk (kindsX hkind _) fun env' he s' x hpt => ?_)
  subst he
  refine ⟨T.nolimit.keeps x.toInCall.keep, codeAny_func ?_⟩
  obtain ⟨h₁, tk, rfl, _⟩ := x.done
  have hk₁ := x.toInCall.keep
  obtain ⟨cells, NC, Y⟩ := Cl.news (h₀ := s.heap) (Nat.le_refl _) fun n c hm => ⟨x.cell n c (lookup_of_mem_nodup (cellsFrom_names scope.names 0 (s.heap.objs.size + 1) [] [] rfl ▸ hnd) hm), x.above n c hm⟩
  exact wpAny_mono (h h₁ tk cells hpt ⟨x.toInCall.ns, hk₁, Nat.le_refl _⟩ NC Y) (fun _ _ x => x) (fun _ _ x => x.elim)
end

example : True := by
 k_with_none
 k_with "execs cons" => (first
  | ((with_reducible show wpAny _ _ (execs (Stmt.For _ _ _ _ _ :: _) _) _ _ _); refine stop ?_)
  | ((try dsimp only); (with_reducible refine gen_pos ?_); intro tk' hp')
  | dsimp only)
 k_with "execs nil" => (first
  | ((try dsimp only); (with_reducible refine gen_pos ?_); intro tk' hp')
  | dsimp only)
 trivial
set_option pp.maxSteps 3000
theorem col_c (prog : Program) (w : World) (A : Around) (s : Shared) (p : Program) (loose : List Str) (mg mb : Str → Option Value)
  (X : (hd.heap_1 w.params).In s.heap) (T : TopRead p loose mg mb s.heap) (hA : A.handled = none) (hdp : A.depth + 30 < recursionLimit) (hun : A.units ≤ 1000) (l3 : Addr) (d0 d1 d2 : Nat) (t0 t1 t2 : Tok)
  (ht : 0 < s.toks) (hl : s.heap.IsList l3 #[.int (d0 : Int) t0, .int (d1 : Int) t1, .int (d2 : Int) t2]) (h0 : d0 < 8) (h1 : d1 < 8) (h2 : d2 < 8)
  : codeAny (model prog w) A (.call (.ref 156) ⟨[.ref l3], []⟩) (Back (fun v _ => v = .bool true) s) s := by
  obtain ⟨_, dA, fr, gs, u⟩ := A
  cases hA
  refine codeAny_units_le (A := ⟨none, dA, fr, gs, 1000⟩) ?_ hun
  refine' enterC ht [("three", .ref l3)] X T ?k6 ?k7 (Nat.lt_of_le_of_lt (Nat.le_add_right _ 30) hdp) ?k9 ?kB ?kD ?c2 ?c3 ?c4 ?_
  case k6 => k_is
  case k7 => k_is
  case k9 => first | exact BindsTo.of_eq rfl | exact binds_K X rfl (by k_is) rfl rfl rfl
  case kB => exact rfl
  case kD => decide +kernel
  case c2 => exact rfl
  case c3 => exact rfl
  case c4 => exact rfl
  intro hh tk cells htk F N Y
  k_cells Y
  k_steps
  refine stop_ ?_
  rename Fr _ _ _ _ => F3
  rename News _ _ _ _ => N3
  refine' loop_c prog w p loose mg mb s.heap s.heap.objs.size dA fr gs X T hdp _ _ ?ahb ?ahsc d0 d1 d2 h0 h1 h2 _ _ _ _ _ _ _ _ l3 _ _ _ t0 t1 t2 _ _ _ _ _ _ _ _ _ _ _ _ _ _ _ _ _ _ _ _ _ _ ?atk F3 N3 ?aq0 ?amn ?avn ?acM ?acV ?acT hl ?ae1 ?ae2 ?ae3 ?ae4 PassesOwn.never ?aQ
  case ahb => rfl
  case ahsc => rfl
  case atk => first | assumption | exact Nat.succ_pos _ | (dsimp only; first | assumption | exact Nat.succ_pos _)
  case acM => assumption
  case acV => assumption
  case acT => assumption
  case ae1 => rfl
  case ae2 => rfl
  case ae3 => rfl
  case ae4 => rfl
  case aq0 => exact .cons (by omega) (.cons (by omega) (.cons (by omega) (.cons (by omega) (.cons (by omega) (.cons (by omega) (.cons (by omega) (.cons (by omega) (.cons (by omega) (.cons (by omega) .nil)))))))))
  case amn => exact .cons (by omega) (.cons (by omega) (.cons (by omega) (.cons (by omega) (.cons (by omega) (.cons (by omega) (.cons (by omega) .nil))))))
  case avn => exact .cons (by omega) (.cons (by omega) (.cons (by omega) (.cons (by omega) (.cons (by omega) (.cons (by omega) (.cons (by omega) .nil))))))
  case aQ => exact fun h' tk' hk => ⟨_, h', tk', rfl, rfl, hk, rfl⟩

example : True := by
 k_with_none
 trivial
end
section
-- needs D6 L6
theorem paired_ints {f : Int → Int} : ∀ {vs bs : List Value} {xs : List Int}, IntsAre vs xs → Paired (fun a b => ∃ (k : Int) (u t : Tok), a = .int k u ∧ b = .int (f k) t) vs bs → IntsAre bs (xs.map f)
  | _, _, _, .nil, .nil => .nil
  | _, _, _, .cons _ _ r, .cons h q => by
    obtain ⟨k, u, t, e, rfl⟩ := h
    cases e
    exact .cons _ _ (paired_ints r q)
section
variable {prog : Program} {w : World} {A : Around} {E : Value → Shared → Prop} {s : Shared} {h₀ : Heap} {L : Addr} {m : Str → Option Value} {news : List (Addr × Obj)}
/-- a slice of a list, whatever stands ahead of the bracket -/
theorem slice_any {value slice : Expr} {l : Addr} {items : Array Value} {vl vu vk : Value} {lo hi st : Option Int} {ops : List Value} {Q : Value → Shared → Prop}
    (F : Fr h₀ L s.heap m) (N : News h₀ L s.heap news) (hl : s.heap.IsList l items) (pl : IsPart vl lo) (pu : IsPart vu hi) (pk : IsPart vk st) (h0 : st ≠ some 0)
    (h : ∀ D h', Fr h₀ L h' m → News h₀ L h' ((D, W.listOf (slicePick items lo hi st) 0) :: news) → (∀ p ∈ news, p.1 < D) → Q (.ref D) { s with heap := h' })
    (hs : subscripted slice false (.ref l) (.ref s.heap.objs.size) = operate ops (getItem (.ref l) (.ref s.heap.objs.size)))
    (hsz : items.size ≤ sizeLine) :
    wpAny (model prog w) A (subscriptTail value slice (.ref l) (.ref s.heap.objs.size)) Q E { s with heap := s.heap.push { cls := .type "slice", data := .fields #[vl, vu, vk] } } := by
  refine tail_any (Heap.IsList.typeIs (s := { s with heap := s.heap.push { cls := .type "slice", data := .fields #[vl, vu, vk] } }) (hl.push _)) list_getitem_lookup
    (wpAny_getItem_list_slice (hl.push _) (Heap.IsSliceOf.new ..) pl pu pk h0 ?_ hsz) hs
  have N1 := News.push (F.push { cls := .type "slice", data := .fields #[vl, vu, vk] }) (N.grown fun _ _ e => Heap.get?_push_of_some _ e) { cls := .type "list", data := .seq (slicePick items lo hi st) }
  rw [Heap.size_push] at N1
  show Q (.ref (s.heap.push _).objs.size) _
  rw [Heap.size_push]
  exact h _ _ ((F.push _).push _) N1 fun p hp => Nat.lt_succ_of_lt (Heap.lt_size (N p hp).1)
end

noncomputable def dsI (ns : List Int) : List Int := (ns.take 6).map (fun k => Int.fmod k 8) ++ ([6, 1, 4] : List Int).drop (((ns.take 6).map fun k => Int.fmod k 8).length % 3)
noncomputable def tlI (ns : List Int) : Int := Int.fmod ((ns.take 20).sum + 2) 9

theorem nameG_B {M : Model} {A : Around} {E : Value → Shared → Prop} {s : Shared} {h₀ : Heap} {L : Addr} {m : Str → Option Value} {env : Env} {K : Frag} {mg mb : Str → Option Value} {p : Program} {loose : List Str} {x : Str} {pos : Pos} {v : Value} {Q : Value → Shared → Prop} (F : Fr h₀ L s.heap m) (X : K.In h₀) (T : TopRead p loose mg mb h₀)
    (e : nsIn K mainGlobals x = some none) (hv : bootBuiltins x = some v) (hn : x ≠ "__name__") (h : Q v s) (hg : env.globals = mainGlobals) (hb : env.builtins = builtinsNs) (hk : env.scope.kind = .function) (hx : env.kindOf x = some .globalImplicit) (hd : (x == ("__debug__" : Str)) = false) :
    wpAny M A (eval (.Name x pos) env) Q E s :=
  Name_function_global hk hx (loadGlobal_builtin (env := env) (by rw [hg]; exact T.g.keeps F.keep) (mg_none_of X T.g e) (by rw [hb]; exact T.b.keeps F.keep) ((T.builtins x hn).trans hv) h) hd

theorem ints_get : ∀ {vs : List Value} {xs : List Int}, IntsAre vs xs → ∀ (i : Nat) (k : Int), xs[i]? = some k → ∃ u, vs[i]? = some (.int k u)
  | _, _, .nil, i, v, h => by simp at h
  | _, _, .cons n t r, 0, v, h => by simp at h; subst h; exact ⟨_, rfl⟩
  | _, _, .cons n t r, i + 1, v, h => by
    simp only [List.getElem?_cons_succ] at h ⊢
    exact ints_get r i v h
end
section
-- needs A0
example : True := by
 k_with_none
 k_with "exec For Name Call cons nil" => (refine stop ?_)
 k_with "pyIter ref" => (refine stop ?_)
 k_with "eval ListComp" => (refine stop ?_)
 k_with "exec Assign cons ListComp" => (refine stop ?_)
 k_with "eval Name" => ((k_here; k_dflt (refine' nameX_L ?zhF ?zhv ?_ ?zha ?zhb; (case zha => rfl); (case zhb => rfl); (case zhF => k_asm); (case zhv => first | exact rfl | assumption); k_whole)))
 k_with "eval Name" => ((k_here; k_dflt (first
  | (refine wpAny_Name (wpAny_loadName_local (env := compEnvC _ _ _ _) rfl rfl (by assumption) (by assumption) ?_) (by decide))
  | (refine wpAny_Name (wpAny_loadName_cell (env := compEnvC _ _ _ _) rfl rfl rfl (by assumption) ?_) (by decide)))))
 k_with "execs cons" => (first
  | ((try dsimp only); (with_reducible refine gen_pos ?_); intro tk' hp')
  | dsimp only)
 k_with "subscriptTail" => (((with_reducible show wpAny _ _ (subscriptTail (Expr.List _ _) _ _ _) _ _ _); refine stop ?_))
 k_with "execs cons" => (((with_reducible show wpAny _ _ (execs (Stmt.Assign [Expr.Name (Str.ofString "reach") _] _ _ :: _) _) _ _ _); refine stop ?_))
 k_with "call builtin:len" => (((with_reducible show wpAny _ _ (call _ [Value.ref _]) _ _ _); k_dflt ((rename News _ _ _ _ => N'); (refine' len_list ?zha ?zhb ?_); (case zha => exact News.isList N' (by k_mem)); (case zhb => rw [List.size_toArray]; omega)); try dsimp only))
 trivial
set_option pp.maxSteps 3000
theorem lawA (prog : Program) (w : World) (p : Program) (loose : List Str) (mg mb : Str → Option Value) (g : Heap) (L : Addr) (dA : Nat) (fr : Option (List Env)) (gs : Option (List Code)) (un : Nat) (cd : Value) (fa : Addr)
    (X : (hd.heap_1 w.params).In g) (T : TopRead p loose mg mb g) (hdp : dA + 60 < recursionLimit) (hun : un ≤ 900) (body : List Stmt) (sc : Scope) (hb : body = bodyAt w.params 161) (hsc : sc = scopeAt w.params 161)
    (aS : Addr) (vs : List Value) (ns : List Int) (oD oS oR : Obj) (v1 v2 v3 : Option Value) (h : Heap) (gn : Array GenState) (dr : Drawn) (tk : Nat) (os : OsState) (m : Str → Option Value) (E : Value → Shared → Prop) (Q : Flow → Shared → Prop)
    (hl : g.IsList aS vs.toArray) (hvs : IntsAre vs ns) (hns : ns.length ≤ 63) (F : Fr g L h m) (N : News g L h [(L + 1 + 1 + 1, oR), (L + 1 + 1, oS), (L + 1, oD)]) (cD : oD.data = .cell v1) (cS : oS.data = .cell v2) (cR : oR.data = .cell v3)
    (e1 : m "script" = some (.ref aS))
    (hN : ∀ h tk m aD vs oD oS oR ep kS kT v3, 0 < tk → Fr g L h m → m "tail" = some (.int (tlI ns) kT) → IntsAre vs (dsI ns) → oD.data = .cell (some (.ref aD)) → oS.data = .cell (some (.int ((dsI ns).length : Int) kS)) → oR.data = .cell v3 → @Ne Nat aD (L + 1 + 1 + 1) →
      News g L h [(aD, W.listOf vs.toArray ep), (L + 1 + 1 + 1, oR), (L + 1 + 1, oS), (L + 1, oD)] → ∀ body2, body2 = (bodyAt w.params 161).drop 4 →
      wpAny (model prog w) (({ handled := none, depth := dA, frames := fr, guards := gs, units := un } : Around).deeper (envOfC (Str.ofString "law") sc L fa cd))
      (execs body2 (envOfC (Str.ofString "law") sc L fa cd)) Q E ⟨h, gn, dr, tk, os⟩) :
    wpAny (model prog w) (({ handled := none, depth := dA, frames := fr, guards := gs, units := un } : Around).deeper (envOfC (Str.ofString "law") sc L fa cd))
      (execs body (envOfC (Str.ofString "law") sc L fa cd)) Q E ⟨h, gn, dr, tk, os⟩ := by
  conv at hb => rhs; whnf
  conv at hsc => rhs; whnf
  subst hb hsc
  k_steps
  refine stop_ ?_
  refine wpAny_Assign_Name ?_ (by rfl)
  refine comp_FN2 (h₀ := g) (L := L) (gn := gn) (dr := dr) (ost := os) (fun _ => true) (fun a b => ∃ (k : Int) (u t : Tok), a = .int k u ∧ b = .int (Int.fmod k 8) t) (by rfl) (by decide) (by rfl) (by decide) (by rfl) ?_
  k_steps
  rename Fr _ _ _ _ => F6
  rename News _ _ _ _ => N6
  rename IntsAre _ (List.take 6 ns) => hI6
  have hvl6 := hI6.length
  refine AfterIter.mk F6 N6 ?_
  refine' comp_list ?zhh ?zhs1 ?zhk ?zhl ?zhnz ?zhtest ?zhelt ?zhQ
  case zhh => rfl
  case zhs1 => exact ⟨_, _, rfl⟩
  case zhk => exact fun _ _ e => e
  case zhl => exact News.isList N6 (by k_mem)
  case zhnz => rw [List.size_toArray]; omega
  case zhtest => intros; exact quiet_none
  case zhelt =>
    intro C j v s₃ m₃ E' hj htt _ hn hm hkk
    obtain ⟨k, u, rfl, _⟩ := ints_at hI6 j v (by simpa using hj)
    k_steps
    all_goals first
      | exact ⟨_, _, rfl, fun _ _ e => e⟩
      | exact ⟨_, _, _, rfl, rfl⟩
  case zhQ =>
    intro D2 h2 tk2 ep2 ys2 F8 N8 up9 hneD2 hpair2
    obtain ⟨ys2⟩ := ys2
    rw [List.filter_eq_self.mpr fun _ _ => rfl] at hpair2
    have hI8 := paired_ints hI6 hpair2
    have hD1 : @Ne Nat D2 (L + 1) := fun e => hneD2 (L + 1, oD) (by k_mem) e.symm
    k_steps
    refine stop_ ?_
    dsimp only
    rename Fr _ _ _ _ => F9
    rename News _ _ _ _ => N9
    have hc3 : IntsAre [.int 6 tk2, .int 1 (tk2 + 1), .int 4 (tk2 + 1 + 1)] [6, 1, 4] := .cons _ _ (.cons _ _ (.cons _ _ .nil))
    have hlen0 : (List.map (fun k => Int.fmod k 8) (List.take 6 ns)).length ≤ 6 := by rw [List.length_map, List.length_take]; omega
    have hmod : ∀ n : Nat, Int.fmod (n : Int) 3 = ((n % 3 : Nat) : Int) := fun n => by rw [Int.fmod_eq_emod_of_nonneg _ (by omega)]; omega
    rw [hmod] 
    refine' slice_any (s := ⟨_, gn, dr, _, os⟩) F9 N9 ?l (.int _ _) .none .none (fun e => nomatch e) ?_ ?s ?z
    case l => exact News.isList N9 (by k_mem)
    case s => with_unfolding_all rfl
    case z => exact Nat.le_of_ble_eq_true rfl
    intro D5 h5 F10 N10 lt10
    have hI5 : IntsAre (slicePick [Value.int 6 tk2, .int 1 (tk2 + 1), .int 4 (tk2 + 1 + 1)].toArray (some (((List.map (fun k => Int.fmod k 8) (List.take 6 ns)).length % 3 : Nat) : Int)) none none).toList (([6, 1, 4] : List Int).drop ((List.map (fun k => Int.fmod k 8) (List.take 6 ns)).length % 3)) :=
      kmk_from (x := (((List.map (fun k => Int.fmod k 8) (List.take 6 ns)).length % 3 : Nat) : Int)) hc3 (Int.natCast_nonneg _)
    refine' add_arrays_ints (hsz := ?z1) (s := ⟨_, gn, dr, _, os⟩) F10 N10 (News.isList N10 (by k_mem)) (News.isList N10 (by k_mem)) hI8 hI5 ?_
    case z1 => rw [sizeLine_eq, List.length_drop]; simp only [List.length_cons, List.length_nil]; omega
    intro h6 F11 N11 hI6
    have hlt6 : L + 1 < h5.objs.size := Heap.lt_size (N10 (L + 1, _) (by k_mem)).1
    have hlt7 : L + 1 + 1 + 1 < h5.objs.size := Heap.lt_size (N10 (L + 1 + 1 + 1, _) (by k_mem)).1
    dsimp only at N11 ⊢
    generalize h5.objs.size = D6 at N11 hlt6 hlt7 ⊢
    clear hI5 hI8 hpair2
    have hI7 : IntsAre _ (dsI ns) := hI6
    clear hI6
    generalize slicePick _ _ _ _ = sp at N10 N11 hI7
    generalize (ys2 ++ sp.toList : List Value) = ws at *
    have hwl : ws.length ≤ 9 := by
      rw [hI7.length, dsI, List.length_append, List.length_drop]; simp only [List.length_cons, List.length_nil]; omega
    have N12 : News g L h6 [(D6, W.listOf ws.toArray 0), (L + 1 + 1 + 1, oR), (L + 1 + 1, oS), (L + 1, _)] := fun q hq => N11 q (by
      rcases List.mem_cons.mp hq with rfl | hq
      · exact .head _
      · exact .tail _ (.tail _ (.tail _ (.tail _ (.tail _ hq)))))
    clear N11 N10 F10 lt10 N9 F9
    k_steps
    refine stop_ ?_
    rename Fr _ _ _ _ => F13
    rename News _ _ _ _ => N13
    refine' hN _ _ _ D6 ws _ _ _ 0 _ _ v3 ?p1 F13 ?p2 hI7 ?p3 ?p4 cR ?p5 (fun q hq => N13 q ?p6) _ ?p7
    case p1 => first | assumption | exact Nat.succ_pos _ | (dsimp only; first | assumption | exact Nat.succ_pos _)
    case p2 => rfl
    case p3 => assumption
    case p4 =>
      rw [← hI7.length]
      assumption
    case p5 => exact fun e => absurd e (Nat.ne_of_gt hlt7)
    case p6 => exact .tail _ hq
    case p7 => rfl

example : True := by
 k_with_none
 trivial
end
section
-- needs A0 L7
noncomputable def rcF (ds : List Int) (v : Int) : Nat := (ds.filter fun d => decide (v ≤ d)).length
noncomputable def geP (v : Int) : Value → Bool
  | .int k _ => decide (v ≤ k)
  | _ => false
theorem filter_ge (v : Int) : ∀ {vs : List Value} {ds : List Int}, IntsAre vs ds → (vs.filter (geP v)).length = rcF ds v
  | _, _, .nil => rfl
  | _, _, .cons n t r => by
    have ih := filter_ge v r
    unfold rcF at ih ⊢
    by_cases h : v ≤ n
    · rw [List.filter_cons_of_pos (by simpa [geP] using h), List.filter_cons_of_pos (by simpa using h), List.length_cons, List.length_cons, ih]
    · rw [List.filter_cons_of_neg (by simpa [geP] using h), List.filter_cons_of_neg (by simpa using h), ih]
theorem reach_ints {ds : List Int} {ts : List Tok} {rs : List Value} (hts : ts.length = 10) (h : Paired (fun a b => ∃ (k : Int) (u t : Tok), a = .int k u ∧ b = .int ((rcF ds k : Nat) : Int) t) (ts.mapIdx fun i tk => Value.int (0 + (i : Int) * 1) tk) rs) :
    IntsAre rs ((List.range 10).map fun (v : Nat) => ((rcF ds v : Nat) : Int)) := by
  have hi : IntsAre (ts.mapIdx fun i tk => Value.int (0 + (i : Int) * 1) tk) ((List.range 10).map fun (v : Nat) => (v : Int)) := by
    match ts, hts with
    | [a, b, c, d, e, f, g, h, i, j], _ =>
      simp only [List.mapIdx_cons, List.mapIdx_nil]
      repeat (first | exact IntsAre.nil | apply IntsAre.cons)
  have := paired_ints (f := fun k => ((rcF ds k : Nat) : Int)) hi h
  rw [List.map_map] at this
  exact this
example : True := by
 k_with_none
 k_with "exec For Name Call cons nil" => (refine stop ?_)
 k_with "pyIter ref" => (refine stop ?_)
 k_with "eval ListComp" => (refine stop ?_)
 k_with "exec Assign cons ListComp" => (refine stop ?_)
 k_with "eval Name" => ((k_here; k_dflt (refine' nameX_L ?zhF ?zhv ?_ ?zha ?zhb; (case zha => rfl); (case zhb => rfl); (case zhF => k_asm); (case zhv => first | exact rfl | assumption); k_whole)))
 k_with "eval Name" => ((k_here; k_dflt (first
  | (refine wpAny_Name (wpAny_loadName_local (env := compEnvC _ _ _ _) rfl rfl (by assumption) (by assumption) ?_) (by decide))
  | (refine wpAny_Name (wpAny_loadName_cell (env := compEnvC _ _ _ _) rfl rfl rfl (by assumption) ?_) (by decide)))))
 k_with "eval Name" => ((k_here; k_dflt (refine' nameG_B (env := compEnvC _ _ _ _) ?zhF ?zhX ?zhT ?zhe ?zhv ?zhn ?_ ?zhg ?zhb ?zhk ?zhx ?zhd; (case zhF => k_asm); (case zhX => k_asm); (case zhT => k_asm); (case zhe => k_is); (case zhv => rfl); (case zhn => decide); (case zhg => rfl); (case zhb => rfl); (case zhk => rfl); (case zhx => rfl); (case zhd => decide); k_whole)))
 k_with "execs cons" => (first
  | ((try dsimp only); (with_reducible refine gen_pos ?_); intro tk' hp')
  | dsimp only)
 k_with "execs cons" => (((with_reducible show wpAny _ _ (execs (Stmt.Assign [Expr.Name (Str.ofString "row") _] _ _ :: _) _) _ _ _); refine stop ?_))
 k_with "call builtin:len" => (((with_reducible show wpAny _ _ (call _ [Value.ref _]) _ _ _); refine stop ?_))
 k_with "storeName" => ((with_reducible show wpAny _ _ (storeName _ (Str.ofString "reach") _) _ _ _; refine stop ?_))
 trivial
set_option pp.maxSteps 3000
theorem lawB (prog : Program) (w : World) (p : Program) (loose : List Str) (mg mb : Str → Option Value) (g : Heap) (L : Addr) (dA : Nat) (fr : Option (List Env)) (gs : Option (List Code)) (un : Nat) (cd : Value) (fa : Addr)
    (X : (hd.heap_1 w.params).In g) (T : TopRead p loose mg mb g) (hdp : dA + 60 < recursionLimit) (hun : un ≤ 900) (body : List Stmt) (sc : Scope) (hb : body = (bodyAt w.params 161).drop 4) (hsc : sc = scopeAt w.params 161)
    (aD : Addr) (vs : List Value) (ds : List Int) (oD oS oR : Obj) (v3 : Option Value) (n tl : Int) (ep : Nat) (kS kT : Tok) (h : Heap) (gn : Array GenState) (dr : Drawn) (tk : Nat) (os : OsState) (m : Str → Option Value) (E : Value → Shared → Prop) (Q : Flow → Shared → Prop)
    (hvs : IntsAre vs ds) (hds : ds.length ≤ 9) (htk : 0 < tk) (F : Fr g L h m) (N : News g L h [(aD, W.listOf vs.toArray ep), (L + 1 + 1 + 1, oR), (L + 1 + 1, oS), (L + 1, oD)]) (hne : @Ne Nat aD (L + 1 + 1 + 1)) (cD : oD.data = .cell (some (.ref aD))) (cS : oS.data = .cell (some (.int n kS))) (cR : oR.data = .cell v3)
    (e1 : m "tail" = some (.int tl kT))
    (hN : ∀ h tk m aR rs oR epR, 0 < tk → Fr g L h m → m "tail" = some (.int tl kT) → IntsAre rs ((List.range 10).map fun (v : Nat) => ((rcF ds v : Nat) : Int)) → oR.data = .cell (some (.ref aR)) →
      News g L h [(aR, W.listOf rs.toArray epR), (aD, W.listOf vs.toArray ep), (L + 1 + 1 + 1, oR), (L + 1 + 1, oS), (L + 1, oD)] → ∀ body2, body2 = (bodyAt w.params 161).drop 5 →
      wpAny (model prog w) (({ handled := none, depth := dA, frames := fr, guards := gs, units := un } : Around).deeper (envOfC (Str.ofString "law") sc L fa cd))
      (execs body2 (envOfC (Str.ofString "law") sc L fa cd)) Q E ⟨h, gn, dr, tk, os⟩) :
    wpAny (model prog w) (({ handled := none, depth := dA, frames := fr, guards := gs, units := un } : Around).deeper (envOfC (Str.ofString "law") sc L fa cd))
      (execs body (envOfC (Str.ofString "law") sc L fa cd)) Q E ⟨h, gn, dr, tk, os⟩ := by
  conv at hb => rhs; whnf
  conv at hsc => rhs; whnf
  subst hb hsc
  have hvl := hvs.length
  refine gen_pos0 htk ?_
  intro tk1 htk1
  k_steps
  refine stop_ ?_
  rename Fr _ _ _ _ => F5
  rename News _ _ _ _ => N5
  refine wpAny_Assign_Name ?_ (by rfl)
  have FN5 := And.intro F5 N5
  have cD0 := (N5 (L + 1, oD) (by k_mem)).1
  have hl5 := News.isList N5 (show (aD, W.listOf vs.toArray ep) ∈ _ by k_mem)
  refine wpAny_with_toks (n := 1) (by first | assumption | exact Nat.succ_pos _) ?_
  refine comp_cell (fun a b => ∃ (k : Int) (u t : Tok), a = .int k u ∧ b = .int ((rcF ds k : Nat) : Int) t) F5 N5 (by rfl) (by rfl) (by decide) (by rfl) (fun _ _ => rfl) (fun _ => rfl) ?_
  k_steps
  refine stop_ ?_
  rename IsRange _ _ _ _ _ _ _ _ => R6
  rename (∀ b o, _ → _) => up6
  refine' range_cell (n := 10) ?hh ?hs1 ?hk ?hr ?hsm ?hn ?hnz ?helt ?hQ
  case hh => rfl
  case hs1 => exact ⟨_, _, rfl⟩
  case hk => exact up6
  case hr => exact R6
  case hsm => decide +kernel
  case hn => decide +kernel
  case hnz => decide
  case helt =>
    intro C c i tv s₃ E' hi hcell hkk
    obtain ⟨h3, g3, r3, t3, o3⟩ := s₃
    have cDx : h3.IsCell (L + 1) (some (.ref aD)) := ⟨oD, hkk _ _ cD0, cD⟩
    have hl6 : h3.IsList aD vs.toArray := isList_keeps hl5 hkk
    have F6 := FN5.1.grownK hkk
    have N6 := FN5.2.grown hkk
    k_steps
    refine stop_ ?_
    rename Fr _ _ _ _ => F7
    rename News _ _ _ _ => N7
    refine comp_FN (geP (0 + (i : Int) * 1)) (fun a b => b = a) F7 N7 (by rfl) (by decide) (by rfl) (by decide) (by rfl) ?_
    k_steps
    refine stop_ ?_
    refine' comp_list (items := vs.toArray) ?zhh ?zhs1 ?zhk ?zhl ?zhnz ?zhtest ?zhelt ?zhQ
    case zhh => rfl
    case zhs1 => exact ⟨_, _, rfl⟩
    case zhk => exact fun _ _ e => e
    case zhl => exact hl6
    case zhnz => rw [List.size_toArray]; omega
    case zhtest =>
      intro C' j v s₄ m₄ E'' hj hn hm hk4
      have hcell4 : s₄.heap.IsCell c (some (.int (0 + (i : Int) * 1) tv)) := by
        obtain ⟨oc, h1, h2⟩ := hcell
        exact ⟨oc, hk4 _ _ h1, h2⟩
      obtain ⟨k, u, rfl, _⟩ := ints_at hvs j v (by simpa using hj)
      refine quiet_one ?_
      k_steps
      all_goals first | exact ⟨_, _, rfl, fun _ _ e => e⟩ | rfl
    case zhelt =>
      intro C' j v s₄ m₄ E'' hj htt hp hn hm hk4
      obtain ⟨k, u, rfl, _⟩ := ints_at hvs j v (by simpa using hj)
      k_steps
      exact ⟨_, _, rfl, fun _ _ e => e⟩
    case zhQ =>
      intro D' h8 tk8 ep8 ys8 F8 N8 up8 hneD8 hpair8
      have hys := paired_eq hpair8
      k_steps
      refine stop_ ?_
      refine len_list (items := ys8) ⟨_, (N8 _ (.head _)).1, rfl, _, rfl⟩ ?_ ?_
      · rw [← Array.length_toList, hys]
        have : (vs.toArray.toList.filter (geP (0 + (i : Int) * 1))).length ≤ vs.length := List.length_filter_le _ _
        omega
      · refine ⟨⟨_, _, _, rfl, congrArg (fun z => Value.int z _) ?_⟩, _, _, rfl, up8⟩
        rw [← Array.length_toList, hys]
        exact congrArg _ (filter_ge _ hvs)
  case hQ =>
    intro D h' tk' ep' ys ts hts F6 N6 up hneD hpair htk6
    obtain ⟨ys⟩ := ys
    have hI := reach_ints hts hpair
    k_steps
    refine stop_ ?_
    have hpost : Away (L + 1 + 1 + 1) [L + 1 + 1, L + 1] := .cons (by omega) (.cons (by omega) .nil)
    have hDm : @Ne Nat D (L + 1 + 1 + 1) := fun e => hneD (L + 1 + 1 + 1, oR) (by k_mem) e.symm
    refine' storeX_C F6 N6 ?c (updF_of (pre := [_, _]) (o := oR) (post := [_, _]) ?upost ?upre) cR ?_ ?a ?b
    case c => rfl
    case a => rfl
    case b => rfl
    case upost => exact hpost
    case upre => exact .cons hDm (.cons hne .nil)
    intro h7 oR' F7 N7 cR'
    simp only [List.cons_append, List.nil_append] at N7
    k_steps
    refine stop_ ?_
    rename Fr _ _ _ _ => F9
    rename News _ _ _ _ => N9
    refine hN _ _ _ D ys oR' ep' ?_ F9 e1 hI cR' N9 _ rfl
    first | assumption | exact Nat.succ_pos _ | (dsimp only; first | assumption | exact Nat.succ_pos _)

example : True := by
 k_with_none
 trivial
end
section
-- needs A0
/-- the blocks f a, f (a + 1), .. in a row -/
noncomputable def duFrom {α : Type} (f : Nat → List α) : Nat → Nat → List α
  | _, 0 => []
  | a, n + 1 => f a ++ duFrom f (a + 1) n
theorem duFrom_add {α : Type} (f : Nat → List α) : ∀ (m n a : Nat), duFrom f a (m + n) = duFrom f a m ++ duFrom f (a + m) n
  | 0, n, a => by simp [duFrom]
  | m + 1, n, a => by
    rw [Nat.succ_add, duFrom, duFrom, duFrom_add f m n (a + 1), List.append_assoc, Nat.succ_add_eq_add_succ]
theorem duFrom_congr {α : Type} {f g : Nat → List α} : ∀ (n a : Nat), (∀ v, a ≤ v → v < a + n → f v = g v) → duFrom f a n = duFrom g a n
  | 0, _, _ => rfl
  | n + 1, a, h => by
    rw [duFrom, duFrom, h a (Nat.le_refl _) (by omega), duFrom_congr n (a + 1) fun v h1 h2 => h v (by omega) (by omega)]
theorem duFrom_mem {α : Type} {f : Nat → List α} {q : α} : ∀ {n a : Nat}, q ∈ duFrom f a n → ∃ v, a ≤ v ∧ v < a + n ∧ q ∈ f v
  | 0, _, h => nomatch h
  | n + 1, a, h => by
    rw [duFrom, List.mem_append] at h
    rcases h with h | h
    · exact ⟨a, Nat.le_refl _, by omega, h⟩
    · obtain ⟨v, h1, h2, h3⟩ := duFrom_mem h
      exact ⟨v, by omega, by omega, h3⟩
/-- pairs by their numbers, like ones as they stand -/
noncomputable def blk (l : List (Int × Int)) (v : Nat) : List (Int × Int) := l.filter fun q => q.1 == (v : Int)
noncomputable def dueL (l : List (Int × Int)) : List (Int × Int) := duFrom (blk l) 0 8
theorem blk_fst {l : List (Int × Int)} {v : Nat} {q : Int × Int} (h : q ∈ blk l v) : q.1 = (v : Int) := by simpa using (List.mem_filter.mp h).2
theorem duFrom_fst {l : List (Int × Int)} {a n : Nat} {q : Int × Int} (h : q ∈ duFrom (blk l) a n) : (a : Int) ≤ q.1 ∧ q.1 < (a : Int) + n := by
  obtain ⟨v, h1, h2, h3⟩ := duFrom_mem h
  rw [blk_fst h3]; omega
theorem up_app {A B : List (Int × Int)} (hA : Up A) (hB : Up B) (h : ∀ a ∈ A, ∀ b ∈ B, a.1 ≤ b.1) : Up (A ++ B) := by
  intro i j p q hij hi hj
  by_cases h1 : j < A.length
  · rw [List.getElem?_append_left h1] at hj
    rw [List.getElem?_append_left (by omega)] at hi
    exact hA i j p q hij hi hj
  · rw [List.getElem?_append_right (by omega)] at hj
    by_cases h2 : i < A.length
    · rw [List.getElem?_append_left h2] at hi
      exact h p (List.mem_of_getElem? hi) q (List.mem_of_getElem? hj)
    · rw [List.getElem?_append_right (by omega)] at hi
      exact hB _ _ p q (by omega) hi hj
theorem up_blk (l : List (Int × Int)) (v : Nat) : Up (blk l v) := by
  intro i j p q _ hi hj
  rw [blk_fst (List.mem_of_getElem? hi), blk_fst (List.mem_of_getElem? hj)]; exact Int.le_refl _
theorem up_duFrom (l : List (Int × Int)) : ∀ n a, Up (duFrom (blk l) a n)
  | 0, _ => by intro i j p q _ hi; simp [duFrom] at hi
  | n + 1, a => up_app (up_blk l a) (up_duFrom l n (a + 1)) fun x hx y hy => by
    have h1 := blk_fst hx
    have h2 := duFrom_fst hy
    omega
theorem up_due (l : List (Int × Int)) : Up (dueL l) := up_duFrom l 8 0
theorem split_pos {α : Type} {P : α → Prop} {A B : List α} {k : Nat} (hk : k ≤ (A ++ B).length) (h : ∀ i p, (A ++ B)[i]? = some p → (i < k ↔ P p)) (hA : ∀ p ∈ A, P p) (hB : ∀ p ∈ B, ¬ P p) : k = A.length := by
  rcases Nat.lt_trichotomy k A.length with h1 | h1 | h1
  · have e : (A ++ B)[k]? = some A[k] := by rw [List.getElem?_append_left h1]; simp
    exact absurd ((h k _ e).mpr (hA _ (List.getElem_mem h1))) (Nat.lt_irrefl _)
  · exact h1
  · rw [List.length_append] at hk
    have h2 : 0 < B.length := by omega
    have e : (A ++ B)[A.length]? = some B[0] := by rw [List.getElem?_append_right (Nat.le_refl _)]; simp [h2]
    exact absurd ((h _ _ e).mp h1) (hB _ (List.getElem_mem h2))
theorem due_split (l : List (Int × Int)) (x : Nat) (hx : x ≤ 8) : dueL l = duFrom (blk l) 0 x ++ duFrom (blk l) x (8 - x) := by
  have := duFrom_add (blk l) x (8 - x) 0
  rw [Nat.zero_add, show x + (8 - x) = 8 by omega] at this
  exact this
theorem ins_right {l : List (Int × Int)} {x : Nat} {k : Int} {q : Int × Int} (hx : x < 8) (hq : q.1 = (x : Int)) (h : PosR (dueL l) x k) : (dueL l).take k.toNat ++ q :: (dueL l).drop k.toNat = dueL (l ++ [q]) := by
  have e := due_split l (x + 1) hx
  have hk : k.toNat = (duFrom (blk l) 0 (x + 1)).length := by
    refine split_pos (P := fun p => p.1 ≤ (x : Int)) (B := duFrom (blk l) (x + 1) (8 - (x + 1))) ?_ ?_ ?_ ?_
    · rw [← e]; have := h.2.1; omega
    · intro i p hp
      rw [← e] at hp
      have h3 := h.2.2 i p hp
      have h4 := h.1
      exact ⟨fun z => h3.mp (by omega), fun z => by have := h3.mpr z; omega⟩
    · intro p hp
      have := duFrom_fst hp
      omega
    · intro p hp
      have := duFrom_fst hp
      omega
  rw [hk, e, List.take_left, List.drop_left, due_split _ (x + 1) hx]
  have hb : ∀ v, v ≠ x → blk (l ++ [q]) v = blk l v := fun v hv => by
    unfold blk
    rw [List.filter_append]
    have : (q.1 == (v : Int)) = false := by rw [hq]; simp; omega
    simp [List.filter, this]
  have hbx : blk (l ++ [q]) x = blk l x ++ [q] := by
    unfold blk
    rw [List.filter_append]
    simp [List.filter, hq]
  rw [duFrom_add _ x 1 0, duFrom_add _ x 1 0, duFrom_congr (f := blk (l ++ [q])) (g := blk l) x 0 fun v _ h2 => hb v (by omega)]
  rw [duFrom_congr (f := blk (l ++ [q])) (g := blk l) (8 - (x + 1)) (x + 1) fun v h1 _ => hb v (by omega)]
  simp only [duFrom, Nat.zero_add, hbx, List.append_nil, List.append_assoc, List.cons_append, List.nil_append]
theorem ins_left {l : List (Int × Int)} {x : Nat} {k : Int} {q : Int × Int} (hx : x < 8) (hq : q.1 = (x : Int)) (h : PosL (dueL l) x k) : (dueL l).take k.toNat ++ q :: (dueL l).drop k.toNat = dueL (q :: l) := by
  have e := due_split l x (Nat.le_of_lt hx)
  have hk : k.toNat = (duFrom (blk l) 0 x).length := by
    refine split_pos (P := fun p => p.1 < (x : Int)) (B := duFrom (blk l) x (8 - x)) ?_ ?_ ?_ ?_
    · rw [← e]; have := h.2.1; omega
    · intro i p hp
      rw [← e] at hp
      have h3 := h.2.2 i p hp
      have h4 := h.1
      exact ⟨fun z => h3.mp (by omega), fun z => by have := h3.mpr z; omega⟩
    · intro p hp
      have := duFrom_fst hp
      omega
    · intro p hp
      have := duFrom_fst hp
      omega
  rw [hk, e, List.take_left, List.drop_left, due_split _ x (Nat.le_of_lt hx)]
  have hb : ∀ v, v ≠ x → blk (q :: l) v = blk l v := fun v hv => by
    unfold blk
    have : (q.1 == (v : Int)) = false := by rw [hq]; simp; omega
    rw [List.filter_cons, this]; rfl
  have hbx : blk (q :: l) x = q :: blk l x := by
    unfold blk
    have : (q.1 == (x : Int)) = true := by rw [hq]; simp
    rw [List.filter_cons, this]; rfl
  obtain ⟨y, hy⟩ : ∃ y, 8 - x = y + 1 := ⟨7 - x, by omega⟩
  rw [hy, duFrom, duFrom, hbx, duFrom_congr (f := blk (q :: l)) (g := blk l) x 0 fun v _ h2 => hb v (by omega)]
  rw [duFrom_congr (f := blk (q :: l)) (g := blk l) y (x + 1) fun v h1 _ => hb v (by omega)]
  rfl
end
section
-- needs A0 P1
noncomputable def prs (D : List Nat) : List (Int × Int) := D.mapIdx fun (p d : Nat) => (((d : Nat) : Int), ((p : Nat) : Int))
theorem prs_get (D : List Nat) (i d : Nat) (h : D[i]? = some d) : (prs D)[i]? = some ((d : Int), (i : Int)) := by
  unfold prs
  rw [List.getElem?_mapIdx, h]; rfl
theorem prs_len (D : List Nat) : (prs D).length = D.length := by unfold prs; rw [List.length_mapIdx]
/-- the rows of a list of pairs, told by the ledger -/
noncomputable def RowsN (TS : List (Addr × Obj)) (lr : List Value) (ps : List (Int × Int)) : Prop :=
  lr.length = ps.length ∧ ∀ (i : Nat) (p : Int × Int), ps[i]? = some p → ∃ (t : Addr) (t1 t2 : Tok), lr[i]? = some (.ref t) ∧ (t, tupOf #[.int p.1 t1, .int p.2 t2]) ∈ TS
theorem RowsN.rows {TS : List (Addr × Obj)} {lr : List Value} {ps : List (Int × Int)} {g h : Heap} {L : Addr} {nws : List (Addr × Obj)} (R : RowsN TS lr ps) (N : News g L h nws) (hs : ∀ q ∈ TS, q ∈ nws) : Rows h lr.toArray ps :=
  ⟨by rw [List.size_toArray]; exact R.1, fun i p e => by
    obtain ⟨t, t1, t2, h1, h2⟩ := R.2 i p e
    exact ⟨t, t1, t2, by simpa using h1, News.isTup N (hs _ h2)⟩⟩
theorem RowsN.ins {TS : List (Addr × Obj)} {lr : List Value} {ps : List (Int × Int)} {t : Addr} {q : Int × Int} {t1 t2 : Tok} (R : RowsN TS lr ps) (k : Nat) :
    RowsN ((t, tupOf #[.int q.1 t1, .int q.2 t2]) :: TS) (lr.take k ++ .ref t :: lr.drop k) (ps.take k ++ q :: ps.drop k) := by
  have hl := R.1
  refine ⟨by simp only [List.length_append, List.length_take, List.length_cons, List.length_drop, hl], fun i p e => ?_⟩
  have hm : (ps.take k).length = (lr.take k).length := by rw [List.length_take, List.length_take, hl]
  by_cases h1 : i < (ps.take k).length
  · rw [List.getElem?_append_left h1] at e
    rw [List.getElem?_append_left (hm ▸ h1)]
    rw [List.length_take] at h1
    have h2 : i < k := by omega
    rw [List.getElem?_take_of_lt h2] at e ⊢
    obtain ⟨t', a, b, c, d⟩ := R.2 i p e
    exact ⟨t', a, b, c, .tail _ d⟩
  · rw [List.getElem?_append_right (by omega)] at e
    rw [List.getElem?_append_right (by omega)]
    rw [hm] at e
    generalize hj : i - (lr.take k).length = j at e ⊢
    match j with
    | 0 =>
      simp only [List.getElem?_cons_zero, Option.some.injEq] at e ⊢
      subst e
      exact ⟨t, t1, t2, rfl, .head _⟩
    | j + 1 =>
      simp only [List.getElem?_cons_succ] at e ⊢
      rw [List.getElem?_drop] at e ⊢
      obtain ⟨t', a, b, c, d⟩ := R.2 _ p e
      exact ⟨t', a, b, c, .tail _ d⟩
theorem RowsN.more {TS : List (Addr × Obj)} {lr : List Value} {ps : List (Int × Int)} {q : Addr × Obj} (R : RowsN TS lr ps) : RowsN (q :: TS) lr ps :=
  ⟨R.1, fun i p e => let ⟨t, a, b, c, d⟩ := R.2 i p e; ⟨t, a, b, c, .tail _ d⟩⟩
noncomputable def TupsOnly (TS : List (Addr × Obj)) : Prop := ∀ q ∈ TS, ∃ its, q.2 = tupOf its
theorem tups_ne {TS nws : List (Addr × Obj)} {g h : Heap} {L a : Addr} {its : Array Value} {ep : Nat} (T : TupsOnly TS) (N : News g L h nws) (hs : ∀ q ∈ TS, q ∈ nws) (ha : (a, W.listOf its ep) ∈ nws) : ∀ q ∈ TS, q.1 ≠ a := fun q hq e => by
  obtain ⟨is, hi⟩ := T q hq
  have h1 := (N q (hs q hq)).1
  have h2 := (N _ ha).1
  rw [e, h2, hi] at h1
  exact absurd (congrArg Obj.cls (Option.some.inj h1)) (by simp)
section
variable {prog : Program} {w : World} {A : Around} {E : Value → Shared → Prop} {s : Shared}
theorem call_but {P : Value → Heap → Prop} {g : Heap} {L a : Addr} {ob : Obj} {m : Str → Option Value} {nws : List (Addr × Obj)} {Q : Value → Shared → Prop} {fv : Value} {pos : List Value} {kw : List (Str × Value)} (hp : 0 < s.toks)
    (F : Fr g L s.heap m) (N : News g L s.heap nws) (ha : (a, ob) ∈ nws) (rest : List (Addr × Obj)) (hr : ∀ q ∈ rest, q ∈ nws ∧ q.1 ≠ a) (hc : codeAny (model prog w) A (.call fv ⟨pos, kw⟩) (BackBut a P s) s)
    (h : ∀ v h' tk, 0 < tk → Fr g L h' m → P v h' → (∀ ob', h'.get? a = some ob' → News g L h' ((a, ob') :: rest)) → Q v { s with heap := h', toks := tk }) :
    wpAny (model prog w) A (call fv pos kw) Q E s := by
  refine wpAny_with_toks (n := 1) hp (wpAny_call (codeAny_mono hc fun r s' hr' => ?_))
  obtain ⟨v, h', tk, rfl, rfl, hk, hP⟩ := hr'
  have hz := N _ ha
  intro ht
  refine h v h' tk ht ⟨F.ns.at' fun o e => hk _ o (Ne.symm hz.2.1) e, fun b o e => hk b o (fun q => ?_) (F.keep b o e), F.above⟩ hP fun ob' e q hq => ?_
  · rw [q, hz.2.2] at e; cases e
  · rcases List.mem_cons.mp hq with rfl | hq
    · exact ⟨e, hz.2⟩
    · exact ⟨hk _ _ (hr q hq).2 (N q (hr q hq).1).1, (N q (hr q hq).1).2⟩
end
end
section
-- needs A3 C4
theorem withRB {g h : Heap} {L a b : Addr} {oa ob : Obj} {e1 e2 e3 e4 e5 : Addr × Obj} {motive : Prop} (_N : News g L h [(b, ob), (a, oa), e1, e2, e3, e4, e5]) (k : ∀ x y : Addr, x = a → y = b → motive) : motive := k _ _ rfl rfl
theorem prs_take {D : List Nat} {i d : Nat} (h : D[i]? = some d) : (prs D).take (i + 1) = (prs D).take i ++ [((d : Int), (i : Int))] := by
  rw [List.take_add_one, prs_get D i d h]; rfl
theorem prs_drop {D : List Nat} {i d : Nat} (h : D[i]? = some d) : (prs D).drop i = ((d : Int), (i : Int)) :: (prs D).drop (i + 1) := by
  have e := prs_get D i d h
  have hl : i < (prs D).length := by
    rcases Nat.lt_or_ge i (prs D).length with q | q
    · exact q
    · rw [List.getElem?_eq_none q] at e; cases e
  rw [List.drop_eq_getElem_cons hl]
  congr 1
  rw [List.getElem?_eq_getElem hl] at e
  exact Option.some.inj e
theorem due_len (D : List Nat) (k : Nat) : ∀ l : List (Int × Int), (dueL l).length ≤ 8 * l.length := by
  intro l
  have hb : ∀ v, (blk l v).length ≤ l.length := fun v => List.length_filter_le _ _
  have hd : ∀ n a, (duFrom (blk l) a n).length ≤ n * l.length := by
    intro n
    induction n with
    | zero => intro a; simp [duFrom]
    | succ n ih =>
      intro a
      rw [duFrom, List.length_append, Nat.succ_mul]
      have := hb a
      have := ih (a + 1)
      omega
  exact hd 8 0
example : True := by
 k_with_none
 k_with "exec For Name Call cons nil" => (refine stop ?_)
 k_with "pyIter ref" => (refine stop ?_)
 k_with "eval ListComp" => (refine stop ?_)
 k_with "exec Assign cons ListComp" => (refine stop ?_)
 k_with "eval Name" => ((k_here; k_dflt (refine' nameX_L ?zhF ?zhv ?_ ?zha ?zhb; (case zha => rfl); (case zhb => rfl); (case zhF => k_asm); (case zhv => first | exact rfl | assumption); k_whole)))
 k_with "execs cons" => (first
  | ((try dsimp only); (with_reducible refine gen_pos ?_); intro tk' hp')
  | dsimp only)
 k_with "execs nil" => (first
  | ((try dsimp only); (with_reducible refine gen_pos ?_); intro tk' hp')
  | dsimp only)
 k_with "subscriptTail" => (refine stop ?_)
 k_with "subscriptTail Name Name ref int" => (refine stop ?_)
 k_with "call ref" => (((with_reducible show wpAny _ _ (call (Value.ref 37) _ _) _ _ _); refine stop ?_))
 k_with "call ref" => (((with_reducible show wpAny _ _ (call (Value.ref 55) _ _) _ _ _); refine stop ?_))
 trivial
set_option pp.maxSteps 3000
theorem lawC (prog : Program) (w : World) (p : Program) (loose : List Str) (mg mb : Str → Option Value) (g : Heap) (L : Addr) (dA : Nat) (fr : Option (List Env)) (gs : Option (List Code)) (un : Nat) (cd : Value) (fa : Addr)
    (X : (hd.heap_1 w.params).In g) (T : TopRead p loose mg mb g) (hdp : dA + 60 < recursionLimit) (hun : un ≤ 900) (body : List Stmt) (sc : Scope) (hb : body = (bodyAt w.params 161).drop 5) (hsc : sc = scopeAt w.params 161)
    (aD aR : Addr) (vs rs : List Value) (D : List Nat) (oD oS oR : Obj) (tl : Int) (ep epR : Nat) (kS kT : Tok) (h : Heap) (gn : Array GenState) (dr : Drawn) (tk : Nat) (os : OsState) (m : Str → Option Value) (E : Value → Shared → Prop) (Q : Flow → Shared → Prop)
    (hvs : IntsAre vs (D.map fun d => ((d : Nat) : Int))) (hds : D.length ≤ 9) (hlt : ∀ d ∈ D, d < 8) (htk : 0 < tk) (F : Fr g L h m) (N : News g L h [(aR, W.listOf rs.toArray epR), (aD, W.listOf vs.toArray ep), (L + 1 + 1 + 1, oR), (L + 1 + 1, oS), (L + 1, oD)])
    (cD : oD.data = .cell (some (.ref aD))) (cS : oS.data = .cell (some (.int (D.length : Int) kS)))
    (e1 : m "tail" = some (.int tl kT)) (hE : PassesOwn (model prog w) (({ handled := none, depth := dA, frames := fr, guards := gs, units := un } : Around).deeper (envOfC (Str.ofString "law") sc L fa cd)) (envOfC (Str.ofString "law") sc L fa cd) E)
    (hN : ∀ h tk m aRow aBack lr lb epr epb TS, 0 < tk → Fr g L h m → m "tail" = some (.int tl kT) → m "row" = some (.ref aRow) → m "back" = some (.ref aBack) → RowsN TS lr (dueL (prs D)) → RowsN TS lb (dueL (prs D)) → TupsOnly TS →
      News g L h ((aRow, W.listOf lr.toArray epr) :: (aBack, W.listOf lb.toArray epb) :: (aR, W.listOf rs.toArray epR) :: (aD, W.listOf vs.toArray ep) :: (L + 1 + 1 + 1, oR) :: (L + 1 + 1, oS) :: (L + 1, oD) :: TS) → ∀ body2, body2 = (bodyAt w.params 161).drop 8 →
      wpAny (model prog w) (({ handled := none, depth := dA, frames := fr, guards := gs, units := un } : Around).deeper (envOfC (Str.ofString "law") sc L fa cd))
      (execs body2 (envOfC (Str.ofString "law") sc L fa cd)) Q E ⟨h, gn, dr, tk, os⟩) :
    wpAny (model prog w) (({ handled := none, depth := dA, frames := fr, guards := gs, units := un } : Around).deeper (envOfC (Str.ofString "law") sc L fa cd))
      (execs body (envOfC (Str.ofString "law") sc L fa cd)) Q E ⟨h, gn, dr, tk, os⟩ := by
  conv at hb => rhs; whnf
  conv at hsc => rhs; whnf
  subst hb hsc
  refine gen_pos0 htk ?_
  intro tk1 htk1
  k_steps
  refine stop_ ?_
  refine wpAny_For ?_
  refine wpAny_with_toks (n := 1) (by first | assumption | exact Nat.succ_pos _) ?_
  k_steps
  refine stop_ ?_
  rename Fr _ _ _ _ => F3
  rename News _ _ _ _ => N3
  rename IsRange _ _ _ _ _ _ _ _ => R3
  refine withRB N3 fun aRow aBack hRow hBack => ?_
  have hRowA : Away aRow [aBack, aR, aD, L + 1 + 1 + 1, L + 1 + 1, L + 1] := by
    subst hRow hBack
    exact .cons (by omega) (.cons (by omega) (.cons (by omega) (.cons (by omega) (.cons (by omega) (.cons (by omega) .nil)))))
  have hBackA : Away aBack [aRow, aR, aD, L + 1 + 1 + 1, L + 1 + 1, L + 1] := by
    subst hRow hBack
    exact .cons (by omega) (.cons (by omega) (.cons (by omega) (.cons (by omega) (.cons (by omega) (.cons (by omega) .nil)))))
  refine' for_rangeB (n := D.length) (a := 0) (b := (D.length : Int)) (c := 1) ?F ?N ?R ?hsm ?hn
    (fun i m nw => m "tail" = some (.int tl kT) ∧ m "row" = some (.ref aRow) ∧ m "back" = some (.ref aBack) ∧ ∃ lr lb epr epb TS, RowsN TS lr (dueL ((prs D).take i)) ∧ RowsN TS lb (dueL ((prs D).drop (D.length - i))) ∧ TupsOnly TS ∧
      nw = (aRow, W.listOf lr.toArray epr) :: (aBack, W.listOf lb.toArray epb) :: (aR, W.listOf rs.toArray epR) :: (aD, W.listOf vs.toArray ep) :: (L + 1 + 1 + 1, oR) :: (L + 1 + 1, oS) :: (L + 1, oD) :: TS)
    ?hJ ?hh ?hpos ?turn ?done ?hE
  case F => exact F3
  case N => exact N3
  case R => exact R3
  case hsm => exact small_one (by omega) (by omega) (by omega) (by omega)
  case hn => rw [rangeSize_one]; split <;> omega
  case hh => rfl
  case hE => exact hE
  case hpos => first | assumption | exact Nat.succ_pos _ | (dsimp only; first | assumption | exact Nat.succ_pos _ | omega)
  case hJ =>
    subst hRow hBack
    refine ⟨_, ⟨e1, rfl, rfl, [], [], 0, 0, [], ⟨rfl, fun i p e => ?_⟩, ⟨?_, fun i p e => ?_⟩, (fun _ h => nomatch h), rfl⟩, fun q hq => ?_⟩
    · simp [dueL, duFrom, blk] at e
    · rw [List.drop_of_length_le (by rw [prs_len]; omega)]; rfl
    · rw [List.drop_of_length_le (by rw [prs_len]; omega)] at e
      simp [dueL, duFrom, blk] at e
    · simp only [List.mem_cons, List.not_mem_nil, or_false] at hq
      rcases hq with rfl | rfl | rfl | rfl | rfl | rfl | rfl
      all_goals k_mem
  case turn =>
    clear F3 N3 e1 R3
    rintro i m nw h tk I oI tv hi hp0 ⟨e1, e2, e3, lr, lb, epr, epb, TS, hr, hb, hT, rfl⟩ hne F4 N4
    obtain ⟨d, hd⟩ : ∃ d, D[i]? = some d := ⟨_, List.getElem?_eq_getElem hi⟩
    have hdl : d < 8 := hlt d (List.mem_of_getElem? hd)
    dsimp only
    have hii : (0 : Int) + (i : Int) * 1 = (i : Int) := by omega
    rw [hii]
    k_steps
    refine stop_ ?_
    rename News _ _ _ _ => N5
    have hidx : ∀ (j d : Nat), D[j]? = some d → ∃ u, vs.toArray[j]? = some (.int ((d : Nat) : Int) u) := fun j d hj => by
      obtain ⟨u, hu⟩ := ints_get hvs j ((d : Nat) : Int) (by rw [List.getElem?_map, hj]; rfl)
      exact ⟨u, by simpa using hu⟩
    obtain ⟨u5, hu5⟩ := hidx i d hd
    refine' item_listM (v := .int ((d : Nat) : Int) u5) (News.isList N5 (show (aD, W.listOf vs.toArray ep) ∈ _ by k_mem)) ?h0 ?h1 ?h2 ?_
    case h0 => omega
    case h1 => omega
    case h2 => rw [Int.toNat_natCast]; exact hu5
    k_steps
    refine stop_ ?_
    show wpAny _ _ (call (.ref 37) [_, _] [(Str.ofString "key", .ref 151)]) _ _ _
    rename News _ _ _ _ => N6
    rename Fr _ _ _ _ => F6
    rename (_ ∧ _) => lt6
    rename_i t6 h6
    refine' call_but (a := aRow) (ob := W.listOf lr.toArray epr) ?p1 F6 N6 (by k_mem) (_ :: (I, oI) :: (aBack, W.listOf lb.toArray epb) :: (aR, W.listOf rs.toArray epR) :: (aD, W.listOf vs.toArray ep) :: (L + 1 + 1 + 1, oR) :: (L + 1 + 1, oS) :: (L + 1, oD) :: TS) ?p2
      (insR_c prog w _ _ p loose mg mb (X.keeps F6.keep) (T.keeps F6.keep) (by simp only [depth_deeper]; omega) aRow _ lr epr (dueL ((prs D).take i)) ((d : Nat) : Int) ((i : Nat) : Int) _ _ (N6 (aRow, W.listOf lr.toArray epr) (by k_mem)).1 (hr.rows N6 (fun q hq => by repeat (first | exact hq | apply List.Mem.tail))) (up_due _) ?p3 (News.isTup N6 (.head _))) ?p4
    case p1 => first | assumption | exact Nat.succ_pos _
    case p2 =>
      intro q hq
      have hTr := tups_ne hT N6 (fun q hq => by repeat (first | exact hq | apply List.Mem.tail)) (show (aRow, W.listOf lr.toArray epr) ∈ _ by k_mem)
      simp only [List.mem_cons] at hq
      rcases hq with rfl | rfl | rfl | rfl | rfl | rfl | rfl | rfl | hq
      · exact ⟨by k_mem, neN (Nat.ne_of_gt lt6.2.1)⟩
      · exact ⟨by k_mem, fun e => hne (aRow, W.listOf lr.toArray epr) (.head _) e.symm⟩
      · exact ⟨by k_mem, hRowA aBack (by simp)⟩
      · exact ⟨by k_mem, hRowA aR (by simp)⟩
      · exact ⟨by k_mem, hRowA aD (by simp)⟩
      · exact ⟨by k_mem, hRowA (L + 1 + 1 + 1) (by simp)⟩
      · exact ⟨by k_mem, hRowA (L + 1 + 1) (by simp)⟩
      · exact ⟨by k_mem, hRowA (L + 1) (by simp)⟩
      · exact ⟨by repeat (first | exact hq | apply List.Mem.tail), hTr q hq⟩
    case p3 =>
      have h1 := due_len D 0 ((prs D).take i)
      rw [List.length_take, prs_len] at h1
      omega
    case p4 =>
      rintro v7 h7 tk7 htk7 F7 ⟨k7, hk7, hl7⟩ N7
      have N8 := N7 _ hl7
      clear N7 N6 F6
      have hr7 := hr.ins (t := t6) (q := (((d : Nat) : Int), ((i : Nat) : Int))) (t1 := u5) (t2 := tv) k7.toNat
      rw [ins_right hdl rfl hk7, ← prs_take hd] at hr7
      generalize (List.take k7.toNat lr ++ Value.ref t6 :: List.drop k7.toNat lr) = lr7 at hr7 N8
      have hb7 : RowsN ((t6, tupOf #[.int ((d : Nat) : Int) u5, .int ((i : Nat) : Int) tv]) :: TS) lb _ := hb.more
      have hT7 : TupsOnly ((t6, tupOf #[.int ((d : Nat) : Int) u5, .int ((i : Nat) : Int) tv]) :: TS) := fun q hq => by
        rcases List.mem_cons.mp hq with rfl | hq
        · exact ⟨_, rfl⟩
        · exact hT q hq
      have hne7 : ∀ q ∈ (t6, tupOf #[.int ((d : Nat) : Int) u5, .int ((i : Nat) : Int) tv]) :: TS, q.1 ≠ I := fun q hq => by
        rcases List.mem_cons.mp hq with rfl | hq
        · exact neN (Nat.ne_of_gt lt6.1)
        · exact hne q (by repeat (first | exact hq | apply List.Mem.tail))
      have N9 : News g L h7 ((I, oI) :: (aRow, W.listOf lr7.toArray (epr + 1)) :: (aBack, W.listOf lb.toArray epb) :: (aR, W.listOf rs.toArray epR) :: (aD, W.listOf vs.toArray ep) :: (L + 1 + 1 + 1, oR) :: (L + 1 + 1, oS) :: (L + 1, oD) :: (t6, tupOf #[.int ((d : Nat) : Int) u5, .int ((i : Nat) : Int) tv]) :: TS) := fun q hq => N8 q (by
        simp only [List.mem_cons] at hq
        rcases hq with rfl | rfl | rfl | rfl | rfl | rfl | rfl | rfl | rfl | hq
        all_goals first | k_mem | (repeat (first | exact hq | apply List.Mem.tail)))
      have hAr : ∀ q : Addr × Obj, q.1 = aRow → q.1 ≠ I := fun q e => by rw [e]; exact hne (aRow, W.listOf lr.toArray epr) (.head _)
      have hIs : Away I [aRow, aBack, aR, aD, L + 1 + 1 + 1, L + 1 + 1, L + 1] :=
        .cons (hne (aRow, W.listOf lr.toArray epr) (.head _)) (.cons (hne (aBack, W.listOf lb.toArray epb) (by k_mem)) (.cons (hne (aR, W.listOf rs.toArray epR) (by k_mem)) (.cons (hne (aD, W.listOf vs.toArray ep) (by k_mem)) (.cons (hne (L + 1 + 1 + 1, oR) (by k_mem)) (.cons (hne (L + 1 + 1, oS) (by k_mem)) (.cons (hne (L + 1, oD) (by k_mem)) .nil))))))
      generalize (t6, tupOf #[.int ((d : Nat) : Int) u5, .int ((i : Nat) : Int) tv]) :: TS = TS7 at hr7 hb7 hT7 hne7 N9
      clear N8 hr hb hT hne lt6 hk7 hl7 hAr
      k_steps
      refine stop_ ?_
      dsimp only
      rename News _ _ _ _ => N10
      rename Fr _ _ _ _ => F10
      dsimp only at F10
      obtain ⟨o, hoo⟩ : ∃ o, o = D.length - 1 - i := ⟨_, rfl⟩
      obtain ⟨e, he⟩ : ∃ e, D[o]? = some e := ⟨_, List.getElem?_eq_getElem (by omega)⟩
      have hel : e < 8 := hlt e (List.mem_of_getElem? he)
      have ho : (D.length : Int) - 1 - (i : Int) = ((o : Nat) : Int) := by omega
      rw [ho] at F10 ⊢
      obtain ⟨u8, hu8⟩ := hidx _ e he
      refine' item_listM (v := .int ((e : Nat) : Int) u8) (News.isList N10 (show (aD, W.listOf vs.toArray ep) ∈ _ by k_mem)) ?h0 ?h1 ?h2 ?_
      case h0 => omega
      case h1 => omega
      case h2 => rw [Int.toNat_natCast]; exact hu8
      k_steps
      refine stop_ ?_
      show wpAny _ _ (call (.ref 55) [_, _] [(Str.ofString "key", .ref 151)]) _ _ _
      rename News _ _ _ _ => N11
      rename Fr _ _ _ _ => F11
      rename (_ < _ ∧ _) => lt11
      rename_i t11 h11
      refine' call_but (a := aBack) (ob := W.listOf lb.toArray epb) ?q1 F11 N11 (by k_mem) (_ :: (I, oI) :: (aRow, W.listOf lr7.toArray (epr + 1)) :: (aR, W.listOf rs.toArray epR) :: (aD, W.listOf vs.toArray ep) :: (L + 1 + 1 + 1, oR) :: (L + 1 + 1, oS) :: (L + 1, oD) :: TS7) ?q2
        (insL_c prog w _ _ p loose mg mb (X.keeps F11.keep) (T.keeps F11.keep) (by simp only [depth_deeper]; omega) aBack _ lb epb (dueL ((prs D).drop (D.length - i))) ((e : Nat) : Int) ((o : Nat) : Int) _ _ (N11 (aBack, W.listOf lb.toArray epb) (by k_mem)).1 (hb7.rows N11 (fun q hq => by repeat (first | exact hq | apply List.Mem.tail))) (up_due _) ?q3 (News.isTup N11 (.head _))) ?q4
      case q1 => first | assumption | exact Nat.succ_pos _
      case q2 =>
        intro q hq
        have hTr := tups_ne hT7 N11 (fun q hq => by repeat (first | exact hq | apply List.Mem.tail)) (show (aBack, W.listOf lb.toArray epb) ∈ _ by k_mem)
        simp only [List.mem_cons] at hq
        rcases hq with rfl | rfl | rfl | rfl | rfl | rfl | rfl | rfl | hq
        · exact ⟨by k_mem, neN (Nat.ne_of_gt lt11.2.2.1)⟩
        · exact ⟨by k_mem, fun e => hIs aBack (by simp) e.symm⟩
        · exact ⟨by k_mem, hBackA aRow (by simp)⟩
        · exact ⟨by k_mem, hBackA aR (by simp)⟩
        · exact ⟨by k_mem, hBackA aD (by simp)⟩
        · exact ⟨by k_mem, hBackA (L + 1 + 1 + 1) (by simp)⟩
        · exact ⟨by k_mem, hBackA (L + 1 + 1) (by simp)⟩
        · exact ⟨by k_mem, hBackA (L + 1) (by simp)⟩
        · exact ⟨by repeat (first | exact hq | apply List.Mem.tail), hTr q hq⟩
      case q3 =>
        have h1 := due_len D 0 ((prs D).drop (D.length - i))
        rw [List.length_drop, prs_len] at h1
        omega
      case q4 =>
        rintro v12 h12 tk12 htk12 F12 ⟨k12, hk12, hl12⟩ N12
        have N13 := N12 _ hl12
        clear N12 N11 F11
        have hb12 := hb7.ins (t := t11) (q := (((e : Nat) : Int), ((o : Nat) : Int))) (t1 := u8) (t2 := tk7 + 1 + 1) k12.toNat
        rw [ins_left hel rfl hk12, show D.length - i = o + 1 by omega, ← prs_drop he] at hb12
        k_steps
        rename Fr _ _ _ _ => F14
        rename News _ _ _ _ => N14
        refine TurnEnd.nextJ F14 N14 (by k_mem) ⟨_, ⟨e1, e2, e3, lr7, _, epr + 1, epb + 1, _, hr7.more, (by rw [show D.length - (i + 1) = o by omega]; exact hb12), ?_, rfl⟩, ?_⟩
        · intro q hq
          rcases List.mem_cons.mp hq with rfl | hq
          · exact ⟨_, rfl⟩
          · exact hT7 q hq
        · intro q hq
          simp only [List.mem_cons] at hq
          rcases hq with rfl | rfl | rfl | rfl | rfl | rfl | rfl | rfl | hq
          · exact ⟨by k_mem, hIs aRow (by simp)⟩
          · exact ⟨by k_mem, hIs aBack (by simp)⟩
          · exact ⟨by k_mem, hIs aR (by simp)⟩
          · exact ⟨by k_mem, hIs aD (by simp)⟩
          · exact ⟨by k_mem, hIs (L + 1 + 1 + 1) (by simp)⟩
          · exact ⟨by k_mem, hIs (L + 1 + 1) (by simp)⟩
          · exact ⟨by k_mem, hIs (L + 1) (by simp)⟩
          · exact ⟨by k_mem, neN (Nat.ne_of_gt lt11.1)⟩
          · exact ⟨by repeat (first | exact hq | apply List.Mem.tail), hne7 q hq⟩
  case done =>
    rintro m nw h tk hp0 ⟨e1, e2, e3, lr, lb, epr, epb, TS, hr, hb, hT, rfl⟩ F4 N4
    rw [List.take_of_length_le (by rw [prs_len]; exact Nat.le_refl _)] at hr
    rw [Nat.sub_self, List.drop_zero] at hb
    exact hN h tk m aRow aBack lr lb epr epb TS hp0 F4 e1 e2 e3 hr hb hT N4 _ rfl

example : True := by
 k_with_none
 trivial
end
section
-- needs L7 P1 A3 C3
theorem compTurn_2a (elt it1 it2 test : Expr) (x y : Str) (px py : Pos) (scope : Scope) (pos : Pos) (it acc : Value) (env : Env) :
    compTurn (.ListComp elt [⟨.Name x px, it1, [], 0⟩, ⟨.Name y py, it2, [test], 0⟩] scope pos) 0 it acc env = (do
      standAt it1.pos
      match ← pyNext it with
      | none => pure (.done .next)
      | some v =>
        letOwnedTupleGo (.Name x px) it v
        assign (.Name x px) env v
        let mut ok := true
        for c in ([] : List Expr) do
          if ok then ok ← isTrue c env (eval c env)
        if ok then
          let z ← eval it2 env
          standAt it2.pos
          let z ← foldedSetIterable it2 env z
          let _ ← runOwn (.compStart (.ListComp elt [⟨.Name x px, it1, [], 0⟩, ⟨.Name y py, it2, [test], 0⟩] scope pos) 1 (← holding [z] (pyIter z)) acc env) env
        again (.compLoop (.ListComp elt [⟨.Name x px, it1, [], 0⟩, ⟨.Name y py, it2, [test], 0⟩] scope pos) 0 it acc env)) := by rfl
theorem compTurn_2b (elt it1 it2 test : Expr) (x y : Str) (px py : Pos) (scope : Scope) (pos : Pos) (it acc : Value) (env : Env) :
    compTurn (.ListComp elt [⟨.Name x px, it1, [], 0⟩, ⟨.Name y py, it2, [test], 0⟩] scope pos) 1 it acc env = (do
      standAt it2.pos
      match ← pyNext it with
      | none => pure (.done .next)
      | some v =>
        letOwnedTupleGo (.Name y py) it v
        assign (.Name y py) env v
        let mut ok := true
        for c in [test] do
          if ok then ok ← isTrue c env (eval c env)
        if ok then
          (do let _ ← call (.builtin "list.append") [acc, ← eval elt env])
        again (.compLoop (.ListComp elt [⟨.Name x px, it1, [], 0⟩, ⟨.Name y py, it2, [test], 0⟩] scope pos) 1 it acc env)) := by rfl
section
variable {prog : Program} {w : World} {A : Around} {R : Result → Shared → Prop} {s : Shared}
theorem compStart_1 {elt it1 it2 test : Expr} {x y : Str} {px py : Pos} {scope : Scope} {pos : Pos} {it acc : Value} {env : Env}
    (h0 : codeAny (model prog w) A (.compLoop (.ListComp elt [⟨.Name x px, it1, [], 0⟩, ⟨.Name y py, it2, [test], 0⟩] scope pos) 1 it acc env) R s)
    (h : wpAny (model prog w) A (pyIter it) (fun it' s' => codeAny (model prog w) A (.compLoop (.ListComp elt [⟨.Name x px, it1, [], 0⟩, ⟨.Name y py, it2, [test], 0⟩] scope pos) 1 it' acc env) R s')
      (notedBy (model prog w) A env fun x s' => R (.error x) s') s) :
    codeAny (model prog w) A (.compStart (.ListComp elt [⟨.Name x px, it1, [], 0⟩, ⟨.Name y py, it2, [test], 0⟩] scope pos) 1 it acc env) R s := by
  refine codeAny_of_tree ?_
  show wpAny _ _ ((compStart (.ListComp elt [⟨.Name x px, it1, [], 0⟩, ⟨.Name y py, it2, [test], 0⟩] scope pos) 1 it acc env).onRaise (fun x => do noteFrame x env; standAt theWindowsPlace)) _ _ s
  refine wpAny_notedAt ?_
  unfold compStart
  show wpAny _ _ (ask >>= _) _ _ s
  refine wpAny_bind (wpAny_askSetting (wpAny_ite ?_))
  split
  · first
      | exact wpAny_bind (wpAny_pure (wpAny_pure (And.intro rfl h0)))
      | exact wpAny_pure (And.intro rfl h0)
  · first
      | exact wpAny_bind (wpAny_rule (wpAny_bind (wpAny_standAt (wpAny_bind (wpAny_mono h (fun it' s' h' => wpAny_pure (And.intro rfl h')) fun _ _ x => x)))))
      | (refine wpAny_bind (wpAny_rule ?_); show wpAny _ _ (standAt it2.pos >>= _) _ _ s; exact wpAny_bind (wpAny_standAt (wpAny_bind (wpAny_mono h (fun it' s' h' => wpAny_pure (And.intro rfl h')) fun _ _ x => x))))
theorem loop_2b {elt it1 it2 test : Expr} {x y : Str} {px py : Pos} {scope : Scope} {pos : Pos} {it acc : Value} {env : Env} (I : Nat → Shared → Prop)
    (turn : ∀ n s, I n s → wpAny (model prog w) A (pyNext it) (fun r s₁ => match r with
      | none => R (.ok .next) s₁
      | some v => wpAny (model prog w) A (assign (.Name y py) env v) (fun _ s₂ =>
          wpAny (model prog w) A (forIn [test] true fun c r => if r = true then do let ok ← isTrue c env (eval c env); pure (ForInStep.yield ok) else pure (ForInStep.yield r)) (fun ok s₃ =>
            if ok = true then wpAny (model prog w) A (eval elt env) (fun x s₄ =>
              wpAny (model prog w) A (call (.builtin "list.append") [acc, x]) (fun _ s₅ => ∃ m, m < n ∧ I m s₅) (notedBy (model prog w) A env fun e s' => R (.error e) s') s₄) (notedBy (model prog w) A env fun e s' => R (.error e) s') s₃
            else ∃ m, m < n ∧ I m s₃) (notedBy (model prog w) A env fun e s' => R (.error e) s') s₂) (notedBy (model prog w) A env fun e s' => R (.error e) s') s₁) (notedBy (model prog w) A env fun e s' => R (.error e) s') s)
    (n : Nat) (h : I n s) :
    codeAny (model prog w) A (.compLoop (.ListComp elt [⟨.Name x px, it1, [], 0⟩, ⟨.Name y py, it2, [test], 0⟩] scope pos) 1 it acc env) R s := by
  refine codeAny_loop rfl I (fun n s hI => ?_) n h
  show wpAny _ A ((compTurn (.ListComp elt [⟨.Name x px, it1, [], 0⟩, ⟨.Name y py, it2, [test], 0⟩] scope pos) 1 it acc env).onRaise (fun x => do noteFrame x env; theTreesLotGoes x)) _ _ s
  refine wpAny_noted ?_
  rw [compTurn_2b]
  refine wpAny_bind (wpAny_standAt (wpAny_bind (wpAny_mono (turn n s hI) (fun r s₁ h₁ => ?_) fun _ _ h' => h')))
  cases r with
  | none => exact wpAny_pure h₁
  | some v =>
    refine wpAny_bind (wpAny_of_eq (by rfl) ?_)
    refine wpAny_bind (wpAny_mono h₁ (fun _ s₂ h₂ => wpAny_bind (wpAny_mono h₂ (fun ok s₃ h₃ => ?_) fun _ _ h' => h')) fun _ _ h' => h')
    cases ok with
    | false => exact wpAny_pure ⟨rfl, h₃⟩
    | true =>
      exact wpAny_bind (wpAny_bind (wpAny_mono h₃ (fun x s₄ h₄ => wpAny_bind (wpAny_mono h₄ (fun _ s₅ h₅ => wpAny_pure (wpAny_pure ⟨rfl, h₅⟩)) fun _ _ h' => h')) fun _ _ h' => h'))
theorem loop_2a {elt it1 it2 test : Expr} {x y : Str} {px py : Pos} {scope : Scope} {pos : Pos} {it acc : Value} {env : Env} (I : Nat → Shared → Prop)
    (turn : ∀ n s, I n s → wpAny (model prog w) A (pyNext it) (fun r s₁ => match r with
      | none => R (.ok .next) s₁
      | some v => wpAny (model prog w) A (assign (.Name x px) env v) (fun _ s₂ =>
          wpAny (model prog w) A (eval it2 env) (fun z s₃ => wpAny (model prog w) A (pyIter z) (fun it' s₄ =>
            codeAny (model prog w) A (.compStart (.ListComp elt [⟨.Name x px, it1, [], 0⟩, ⟨.Name y py, it2, [test], 0⟩] scope pos) 1 it' acc env) (fun r s' => match r with | .ok _ => ∃ m, m < n ∧ I m s' | .error e => cameBackBy (model prog w) A env (notedBy (model prog w) A env fun e s' => R (.error e) s') e s') s₄)
            (notedBy (model prog w) A env fun e s' => R (.error e) s') s₃) (notedBy (model prog w) A env fun e s' => R (.error e) s') s₂) (notedBy (model prog w) A env fun e s' => R (.error e) s') s₁) (notedBy (model prog w) A env fun e s' => R (.error e) s') s)
    (n : Nat) (h : I n s) (hs : ∀ x, foldedSetIterable it2 env x = pure x) :
    codeAny (model prog w) A (.compLoop (.ListComp elt [⟨.Name x px, it1, [], 0⟩, ⟨.Name y py, it2, [test], 0⟩] scope pos) 0 it acc env) R s := by
  refine codeAny_loop rfl I (fun n s hI => ?_) n h
  show wpAny _ A ((compTurn (.ListComp elt [⟨.Name x px, it1, [], 0⟩, ⟨.Name y py, it2, [test], 0⟩] scope pos) 0 it acc env).onRaise (fun x => do noteFrame x env; theTreesLotGoes x)) _ _ s
  refine wpAny_noted ?_
  rw [compTurn_2a]
  refine wpAny_bind (wpAny_standAt (wpAny_bind (wpAny_mono (turn n s hI) (fun r s₁ h₁ => ?_) fun _ _ h' => h')))
  cases r with
  | none => exact wpAny_pure h₁
  | some v =>
    refine wpAny_bind (wpAny_of_eq (by rfl) ?_)
    refine wpAny_bind (wpAny_mono h₁ (fun _ s₂ h₂ => ?_) fun _ _ h' => h')
    dsimp only
    rw [List.forIn_nil]
    refine wpAny_bind (wpAny_pure ?_)
    rw [if_pos rfl]
    refine wpAny_bind (wpAny_mono h₂ (fun z s₃ h₃ => wpAny_bind (wpAny_standAt (wpAny_bind (wpAny_of_eq (hs z) (wpAny_bind (wpAny_holding (wpAny_mono h₃ (fun it' s₄ h₄ => ?_) fun _ _ h' => h'))))))) fun _ _ h' => h')
    refine wpAny_bind (wpAny_runOwn (codeAny_mono h₄ fun r s' hr => ?_))
    cases r with
    | ok f => exact wpAny_pure ⟨rfl, hr⟩
    | error e => exact hr
end
end
section
-- needs L8
theorem Rows.but {h h' : Heap} {a : Addr} {items : Array Value} {ds : List (Int × Int)} (R : Rows h items ds) (hk : ∀ b o, b ≠ a → h.get? b = some o → h'.get? b = some o) (ha : ∀ its, ¬ IsTup h a its) : Rows h' items ds :=
  ⟨R.1, fun i p e => by
    obtain ⟨t, t1, t2, h1, o, ho, r⟩ := R.2 i p e
    exact ⟨t, t1, t2, h1, o, hk t o (fun q => ha _ ⟨o, q ▸ ho, r⟩) ho, r⟩⟩
theorem notTup_list {h : Heap} {a : Addr} {ys its : Array Value} (x : h.PlainList a ys) : ¬ IsTup h a its := fun ⟨o, ho, hc, _⟩ => by
  obtain ⟨n, e⟩ := x
  rw [e] at ho
  cases ho
  exact absurd hc (by simp)
theorem notTup_ns {h : Heap} {a : Addr} {m : Str → Option Value} {its : Array Value} (x : h.Ns a m) : ¬ IsTup h a its := fun ⟨o, ho, _, n, hd⟩ => by
  obtain ⟨o', es, ep, e, hd', _⟩ := x
  rw [e] at ho
  cases ho
  rw [hd'] at hd
  cases hd
theorem notTup_iter {h : Heap} {a : Addr} {x l c : Int} {its : Array Value} (q : IsRangeIter h a x l c) : ¬ IsTup h a its := fun ⟨o, ho, hc, _⟩ => by
  have ho' : h.get? a = some o := ho
  rw [q] at ho'
  cases ho'
  exact absurd hc (by simp)
theorem iter_ne_list {h : Heap} {a b : Addr} {x l c : Int} {ys : Array Value} (q : IsRangeIter h a x l c) (p : h.PlainList b ys) : a ≠ b := fun e => by
  obtain ⟨n, e1⟩ := p
  have q' : h.get? a = _ := q
  rw [e, e1] at q'
  exact absurd (congrArg Obj.cls (Option.some.inj q')) (by simp)
theorem iter_ne_ns {h : Heap} {a b : Addr} {x l c : Int} {m : Str → Option Value} (q : IsRangeIter h a x l c) (p : h.Ns b m) : a ≠ b := fun e => by
  obtain ⟨o, es, ep, e1, hd, _⟩ := p
  have q' : h.get? a = _ := q
  rw [e, e1] at q'
  rw [Option.some.inj q'] at hd
  cases hd
theorem list_ne_ns {h : Heap} {a b : Addr} {ys : Array Value} {m : Str → Option Value} (q : h.PlainList a ys) (p : h.Ns b m) : a ≠ b := fun e => by
  obtain ⟨o, es, ep, e1, hd, _⟩ := p
  obtain ⟨n, q'⟩ := q
  rw [e, e1] at q'
  rw [Option.some.inj q'] at hd
  cases hd
theorem Rows.push {h : Heap} {ys : Array Value} {ds : List (Int × Int)} {t : Addr} {a b : Int} {t1 t2 : Tok} (R : Rows h ys ds) (ht : IsTup h t #[.int a t1, .int b t2]) : Rows h (ys.push (.ref t)) (ds ++ [(a, b)]) := by
  have hl := R.1
  refine ⟨by simp [hl], fun i p e => ?_⟩
  by_cases h1 : i < ds.length
  · rw [List.getElem?_append_left h1] at e
    obtain ⟨t', a1, a2, h2, h3⟩ := R.2 i p e
    refine ⟨t', a1, a2, ?_, h3⟩
    rw [Array.getElem?_push_lt (by omega)]
    rw [Array.getElem?_eq_getElem (by omega)] at h2
    exact h2
  · rw [List.getElem?_append_right (by omega)] at e
    have h3 : i = ds.length := by
      rcases Nat.lt_or_ge (i - ds.length) 1 with h | h
      · omega
      · rw [List.getElem?_eq_none (by simpa using h)] at e; cases e
    subst h3
    simp at e
    subst e
    exact ⟨t, t1, t2, by rw [← hl]; simp, ht⟩
theorem prs_take1 {D : List Nat} {i d : Nat} (h : D[i]? = some d) : (prs D).take (i + 1) = (prs D).take i ++ [((d : Int), (i : Int))] := by
  rw [List.take_add_one, prs_get D i d h]; rfl
theorem due_len1 (l : List (Int × Int)) : ∀ n a, (duFrom (blk l) a n).length ≤ n * l.length := by
  intro n
  induction n with
  | zero => intro a; simp [duFrom]
  | succ n ih =>
    intro a
    rw [duFrom, List.length_append, Nat.succ_mul]
    have := List.length_filter_le (fun q : Int × Int => q.1 == (a : Int)) l
    have := ih (a + 1)
    unfold blk at *
    omega
noncomputable def EltOut (i j : Nat) (s₃ : Shared) (yv : Value) (s₄ : Shared) : Prop := (∃ t a b, yv = .ref t ∧ IsTup s₄.heap t #[.int (i : Int) a, .int (j : Int) b]) ∧ Keeps s₃ s₄
noncomputable def DueInv (hp : Heap) (gn : Array GenState) (dr : Drawn) (ost : OsState) (I D : Addr) (D0 : List Nat) (k : Nat) (s' : Shared) : Prop :=
  ∃ (i : Nat) (h : Heap) (tk : Nat) (ys : Array Value) (mC : Str → Option Value), s' = ⟨h, gn, dr, tk, ost⟩ ∧ i ≤ 8 ∧ k = 9 - i ∧ IsRangeIter h I (0 + (i : Int) * 1) (((8 : Nat) : Int) - (i : Int)) 1 ∧ h.PlainList D ys ∧
      Rows h ys (duFrom (blk (prs D0)) 0 i) ∧ h.Ns (D + 1) mC ∧ (∀ b o, hp.get? b = some o → h.get? b = some o)
section
variable {prog : Program} {w : World} {A : Around} {E : Value → Shared → Prop} {hp : Heap} {gn : Array GenState} {dr : Drawn} {tk0 : Nat} {ost : OsState} {h₀ : Heap} {L : Addr} {env : Env} {m : Str → Option Value} {news : List (Addr × Obj)}
theorem due_rule {elt it1 it2 test : Expr} {x y z : Str} {px py pz : Pos} {scope : Scope} {cl : List (Str × Addr)} {pos spos : Pos} {Q : Flow → Shared → Prop} (D0 : List Nat) (hD0 : D0.length ≤ 9) (hh : A.handled = none)
    (F : Fr h₀ L hp m) (N : News h₀ L hp news) (hL : env.locals = L) (hsw : swapsWith (.ListComp elt [⟨.Name x px, it1, [], 0⟩, ⟨.Name y py, it2, [test], 0⟩] scope pos) (some (.Name z pz)) spos.line env = pure true) (hclos : closureFor scope env = pure cl) (hcell : ∀ y ∈ scope.names, y.2 ≠ .cell) (hkind : scope.kind = .function)
    (hnames : ∀ y ∈ scope.names, y.2 = .local → scope.names.lookup y.1 = some .local) (hx : scope.names.lookup x = some .local) (hy : scope.names.lookup y = some .local) (hxy : x ≠ y) (hz : env.kindOf z = some .local) (hpp : (env.scope.kind == .class || (env.scope.kind == .module && env.locals != env.globals)) = false)
    (h : wpAny (model prog w) A (eval it1 env) (fun xv s₁ => wpAny (model prog w) A (pyIter xv) (fun it s₂ => ∃ I, it = .ref I ∧ IsRangeIter s₂.heap I (0 + ((0 : Nat) : Int) * 1) (((8 : Nat) : Int) - ((0 : Nat) : Int)) 1 ∧ hp.get? I = none ∧ (∀ b o, hp.get? b = some o → s₂.heap.get? b = some o) ∧ ∃ hh tt, s₂ = ⟨hh, gn, dr, tt, ost⟩) E s₁) E ⟨hp, gn, dr, tk0, ost⟩)
    (hs : ∀ x, foldedSetIterable it1 env x = pure x) (hs2 : ∀ C x, foldedSetIterable it2 (compEnvC scope cl C env) x = pure x)
    (hit2 : ∀ C s₃ m₃ E' (Q' : Value → Shared → Prop), s₃.heap.Ns C m₃ → (∀ b o, hp.get? b = some o → s₃.heap.get? b = some o) →
      (∀ h' tk r t u v, IsRange h' r 0 (D0.length : Int) 1 t u v → (∀ b o, s₃.heap.get? b = some o → h'.get? b = some o) → Q' (.ref r) { s₃ with heap := h', toks := tk }) → wpAny (model prog w) A (eval it2 (compEnvC scope cl C env)) Q' E' s₃)
    (htest : ∀ C (i j d : Nat) tv t2 s₃ m₃ E', D0[j]? = some d → s₃.heap.Ns C m₃ → m₃ x = some (.int (0 + (i : Int) * 1) tv) → m₃ y = some (.int (0 + (j : Int) * 1) t2) → (∀ b o, hp.get? b = some o → s₃.heap.get? b = some o) →
      wpAny (model prog w) A (forIn [test] true fun c r => if r = true then do let ok ← isTrue c (compEnvC scope cl C env) (eval c (compEnvC scope cl C env)); pure (ForInStep.yield ok) else pure (ForInStep.yield r)) (fun ok s₄ => ok = decide (d = i) ∧ Keeps s₃ s₄) E' s₃)
    (helt : ∀ C (i j : Nat) tv t2 s₃ m₃ E', s₃.heap.Ns C m₃ → m₃ x = some (.int (0 + (i : Int) * 1) tv) → m₃ y = some (.int (0 + (j : Int) * 1) t2) → (∀ b o, hp.get? b = some o → s₃.heap.get? b = some o) →
      wpAny (model prog w) A (eval elt (compEnvC scope cl C env)) (EltOut i j s₃) E' s₃)
    (hQ : ∀ D h' tk ep ys, Fr h₀ L h' (fun q => if q = z then some (.ref D) else m q) → News h₀ L h' ((D, W.listOf ys ep) :: news) → Rows h' ys (dueL (prs D0)) → Q .next ⟨h', gn, dr, tk, ost⟩) :
    wpAny (model prog w) A (exec (.Assign [.Name z pz] (.ListComp elt [⟨.Name x px, it1, [], 0⟩, ⟨.Name y py, it2, [test], 0⟩] scope pos) spos) env) Q E ⟨hp, gn, dr, tk0, ost⟩ := by
  subst hL
  rw [exec_Assign_Name_used _ _ _ _ hsw]
  refine wpAny_bind (wpAny_standAt (wpAny_bind ?_))
  show wpAny _ A (do let _ ← comprehension (.ListComp elt [⟨.Name x px, it1, [], 0⟩, ⟨.Name y py, it2, [test], 0⟩] scope pos) scope env _ (newList []) false (eval it1 env) (some (assign (.Name z pz) env))) _ _ _
  refine wpAny_bind (wpAny_mono (wpAny_comprehension_free (use := some (assign (.Name z pz) env)) (Q := fun _ s' => Q .next s') rfl hs hclos hkind hnames
    (wpAny_mono h (fun xv s₁ h₁ => wpAny_mono h₁ (fun it s₂ h₂ => ?_) fun _ _ e => e) fun _ _ e => e)) (fun _ s' hq => wpAny_pure (wpAny_pure hq)) fun _ _ e => e)
  obtain ⟨I, rfl, hI, hIn, hk, hH, tt, rfl⟩ := h₂
  refine wpAny_newObj_type (wpAny_newFunctionEnv hcell (by intro y hy; simp at hy) (fun h₁ hns₁ hsb₁ => ?_) hkind)
  dsimp only at hns₁ hsb₁ hI hk ⊢
  have hIl : I < hH.objs.size := Heap.lt_size hI
  generalize hD : hH.objs.size = D at *
  generalize hH2 : hH.push { cls := .type "list", dict := none, data := .seq ([] : List Value).toArray } = H2 at *
  have hC : H2.objs.size = D + 1 := by rw [← hH2, Heap.size_push, hD]
  have old : ∀ b o, hp.get? b = some o → @LT.lt Nat _ b D := fun b o e => hD ▸ Heap.lt_size (hk b o e)
  have up1 : ∀ b o, hH.get? b = some o → h₁.get? b = some o := fun b o e => by
    have hb : @LT.lt Nat _ b D := hD ▸ Heap.lt_size e
    refine hsb₁.extBut b o (neN (by omega)) (Heap.get?_push_of_some _ ?_)
    rw [← hH2]; exact Heap.get?_push_of_some _ e
  have upp1 : ∀ b o, hp.get? b = some o → h₁.get? b = some o := fun b o e => up1 b o (hk b o e)
  have hD1 : h₁.PlainList D #[] := ⟨_, hsb₁.extBut _ _ (neN (by omega)) (Heap.get?_push_of_some _ (by rw [← hH2]; exact hD ▸ Heap.get?_push_size _ rfl))⟩
  have hI1 : IsRangeIter h₁ I (0 + ((0 : Nat) : Int) * 1) (((8 : Nat) : Int) - ((0 : Nat) : Int)) 1 := up1 _ _ hI
  generalize hcv : compEnvC scope cl (D + 1) env = cenv
  rw [hC] at hns₁ hsb₁ ⊢
  have hs2c := hs2 (D + 1)
  have hit2c := hit2 (D + 1)
  have htestc := htest (D + 1)
  have heltc := helt (D + 1)
  rw [hcv] at hs2c hit2c htestc heltc
  have hLd : env.locals ≠ D + 1 := by
    obtain ⟨oL, _, _, e1, _⟩ := F.ns
    exact neN (by have := old _ _ e1; omega)
  have eX : cenv.kindOf x = some .local := by rw [← hcv]; exact lookup_relabel_local hx
  have eY : cenv.kindOf y = some .local := by rw [← hcv]; exact lookup_relabel_local hy
  have eP : (cenv.scope.kind == .class || (cenv.scope.kind == .module && cenv.locals != cenv.globals)) = false := by rw [← hcv]; simp [compEnvC, relabel, hkind]
  have eL : cenv.locals = D + 1 := by rw [← hcv]; rfl
  have hDC : D ≠ D + 1 := by omega
  have blen : ∀ i j, i < 8 → (duFrom (blk (prs D0)) 0 i ++ blk ((prs D0).take j) i).length ≤ sizeLine := fun i j hi => by
    have h1 := due_len1 (prs D0) i 0
    have h2 := List.length_filter_le (fun q : Int × Int => q.1 == (i : Int)) ((prs D0).take j)
    rw [List.length_take, prs_len] at h2
    rw [prs_len] at h1
    have h3 : i * D0.length ≤ 8 * 9 := Nat.mul_le_mul (by omega) hD0
    rw [List.length_append, sizeLine_eq]
    unfold blk at *
    omega
  suffices hs : ∀ tt, codeAny (model prog w) A (.compStart (.ListComp elt [⟨.Name x px, it1, [], 0⟩, ⟨.Name y py, it2, [test], 0⟩] scope pos) 0 (.ref I) (.ref D) cenv) (compPost (model prog w) A E (some (assign (.Name z pz) env)) (fun _ s' => Q .next s') (.ref D) (D + 1)) ⟨h₁, gn, dr, tt, ost⟩ by
    rw [← hcv] at hs
    exact hs _
  intro tt
  have W1 := Walks.range (prog := prog) (w := w) hh I 0 1 8
  have loop : codeAny (model prog w) A (.compLoop (.ListComp elt [⟨.Name x px, it1, [], 0⟩, ⟨.Name y py, it2, [test], 0⟩] scope pos) 0 (.ref I) (.ref D) cenv) (compPost (model prog w) A E (some (assign (.Name z pz) env)) (fun _ s' => Q .next s') (.ref D) (D + 1)) ⟨h₁, gn, dr, tt, ost⟩ := by
    refine loop_2a (DueInv hp gn dr ost I D D0) ?_ 9 ⟨0, h₁, tt, #[], _, rfl, by omega, rfl, hI1, hD1, ⟨rfl, fun i p e => by simp [duFrom] at e⟩, hns₁, upp1⟩ hs2c
    rintro k s' ⟨i, H, tk, ys, mC, rfl, hi8, rfl, hIt, hacc, hR, hn, hup⟩
    by_cases hlt : i < 8
    · refine W1.item i _ _ _ hlt hIt fun v g1 tk1 hPv hst1 hk1 => ?_
      obtain ⟨tv, rfl⟩ := hPv
      have hk1' : ∀ b o, b ≠ I → H.get? b = some o → g1.get? b = some o := fun b o hb e => hk1 b o (by simpa using hb) e
      have nIC := iter_ne_ns hIt hn
      have nID := iter_ne_list hIt hacc
      have hacc1 : g1.PlainList D ys := let ⟨n, e⟩ := hacc; ⟨n, hk1' _ _ (Ne.symm nID) e⟩
      have hR1 := hR.but hk1' (fun its => notTup_iter hIt)
      have hn1 := hn.at' fun o e => hk1' _ o (Ne.symm nIC) e
      have hup1 : ∀ b o, hp.get? b = some o → g1.get? b = some o := fun b o e => hk1' b o (fun q => by rw [q, hIn] at e; cases e) (hup b o e)
      refine wpAny_assign_Name (wpAny_storeName_local eX (eL.symm ▸ hn1) (fun g2 hn2 hs2 => ?_) eP)
      rw [eL] at hn2 hs2
      have hk2 : ∀ b o, b ≠ D + 1 → g1.get? b = some o → g2.get? b = some o := fun b o hb e => hs2.extBut b o hb e
      have hacc2 : g2.PlainList D ys := let ⟨n, e⟩ := hacc1; ⟨n, hk2 _ _ (neN (by omega)) e⟩
      have hR2 := hR1.but hk2 (fun its => notTup_ns hn1)
      have hst2 : IsRangeIter g2 I (0 + ((i + 1 : Nat) : Int) * 1) (((8 : Nat) : Int) - ((i + 1 : Nat) : Int)) 1 := hk2 _ _ nIC hst1
      have hup2 : ∀ b o, hp.get? b = some o → g2.get? b = some o := fun b o e => hk2 b o (neN (by have := old b o e; omega)) (hup1 b o e)
      refine hit2c ⟨g2, gn, dr, _, ost⟩ _ _ _ hn2 hup2 fun g3 tk3 r t u v hr hk3 => ?_
      refine wpAny_pyIter_range hr ?_ ?_
      · exact small_one (by omega) (by omega) (by omega) (by omega)
      dsimp only
      generalize hI2 : g3.objs.size = I2
      have hsz : Builtin.Range.rangeSize 0 (D0.length : Int) 1 = ((D0.length : Nat) : Int) := by rw [rangeSize_one]; split <;> omega
      rw [hsz]
      have hIt4 : IsRangeIter (g3.push { cls := .type "range_iterator", data := .fields #[rawInt 0, rawInt ((D0.length : Nat) : Int), rawInt 1] }) I2 (0 + ((0 : Nat) : Int) * 1) (((D0.length : Nat) : Int) - ((0 : Nat) : Int)) 1 := by
        show Heap.get? _ _ = _
        rw [← hI2]
        simpa using Heap.get?_push_size g3 (o := { cls := .type "range_iterator", data := .fields #[rawInt 0, rawInt ((D0.length : Nat) : Int), rawInt 1] }) rfl
      have up4 : ∀ b o, g2.get? b = some o → (g3.push { cls := .type "range_iterator", data := .fields #[rawInt 0, rawInt ((D0.length : Nat) : Int), rawInt 1] }).get? b = some o := fun b o e => Heap.get?_push_of_some _ (hk3 b o e)
      have hII : I ≠ I2 := neN (by
        have h1 : I < g3.objs.size := Heap.lt_size (hk3 _ _ hst2)
        have h2 := ltN h1
        omega)
      have hDI : @LT.lt Nat _ D I2 := by
        obtain ⟨n, e⟩ := hacc2
        have := ltN (Heap.lt_size (hk3 _ _ e))
        omega
      generalize g3.push { cls := .type "range_iterator", data := .fields #[rawInt 0, rawInt ((D0.length : Nat) : Int), rawInt 1] } = g4 at hIt4 up4 ⊢
      have hacc4 : g4.PlainList D ys := let ⟨n, e⟩ := hacc2; ⟨n, up4 _ _ e⟩
      have hR4 := hR2.keeps up4
      have hn4 := hn2.keeps up4
      have hst4 : IsRangeIter g4 I (0 + ((i + 1 : Nat) : Int) * 1) (((8 : Nat) : Int) - ((i + 1 : Nat) : Int)) 1 := up4 _ _ hst2
      have hup4 : ∀ b o, hp.get? b = some o → g4.get? b = some o := fun b o e => up4 b o (hup2 b o e)
      have W2 := Walks.range (prog := prog) (w := w) hh I2 0 1 D0.length
      have loop2 : codeAny (model prog w) A (.compLoop (.ListComp elt [⟨.Name x px, it1, [], 0⟩, ⟨.Name y py, it2, [test], 0⟩] scope pos) 1 (.ref I2) (.ref D) cenv) (fun r s' => match r with
          | .ok _ => ∃ m, m < 9 - i ∧ DueInv hp gn dr ost I D D0 m s'
          | .error e => cameBackBy (model prog w) A cenv (notedBy (model prog w) A cenv fun e s' => compPost (model prog w) A E (some (assign (.Name z pz) env)) (fun _ s' => Q .next s') (.ref D) (D + 1) (.error e) s') e s') ⟨g4, gn, dr, tk3, ost⟩ := by
        refine loop_2b (fun k s' => ∃ (j : Nat) (h : Heap) (tk : Nat) (ys : Array Value) (mC : Str → Option Value), s' = ⟨h, gn, dr, tk, ost⟩ ∧ j ≤ D0.length ∧ k = D0.length + 1 - j ∧ IsRangeIter h I2 (0 + (j : Int) * 1) (((D0.length : Nat) : Int) - (j : Int)) 1 ∧
          IsRangeIter h I (0 + ((i + 1 : Nat) : Int) * 1) (((8 : Nat) : Int) - ((i + 1 : Nat) : Int)) 1 ∧ h.PlainList D ys ∧ Rows h ys (duFrom (blk (prs D0)) 0 i ++ blk ((prs D0).take j) i) ∧ h.Ns (D + 1) mC ∧ mC x = some (.int (0 + (i : Int) * 1) tv) ∧ (∀ b o, hp.get? b = some o → h.get? b = some o)) ?_ (D0.length + 1)
          ⟨0, g4, tk3, ys, _, rfl, Nat.zero_le _, rfl, hIt4, hst4, hacc4, by simpa [blk] using hR4, hn4, by simp, hup4⟩
        clear hIt4 hst4 hacc4 hR4 hn4 hup4 up4 hst2 hacc2 hR2 hn2 hup2 hk3 hR1 hn1 hup1 hacc1 hst1 hR hn hacc hIt hup
        rintro k s' ⟨j, H, tk, ys, mC, rfl, hj, rfl, hIt, hIo, hacc, hR, hn, hmx, hup⟩
        have nIC := iter_ne_ns hIt hn
        have nID := iter_ne_list hIt hacc
        have nOC := iter_ne_ns hIo hn
        have nOD := iter_ne_list hIo hacc
        by_cases hltj : j < D0.length
        · obtain ⟨d, hd⟩ : ∃ d, D0[j]? = some d := ⟨_, List.getElem?_eq_getElem hltj⟩
          refine W2.item j _ _ _ hltj hIt fun v g5 tk5 hPv hst5 hk5 => ?_
          obtain ⟨t2, rfl⟩ := hPv
          have hk5' : ∀ b o, b ≠ I2 → H.get? b = some o → g5.get? b = some o := fun b o hb e => hk5 b o (by simpa using hb) e
          refine wpAny_assign_Name (wpAny_storeName_local eY (eL.symm ▸ hn.at' fun o e => hk5' _ o (Ne.symm nIC) e) (fun g6 hn6 hs6 => ?_) eP)
          rw [eL] at hn6 hs6
          have hk6 : ∀ b o, b ≠ D + 1 → g5.get? b = some o → g6.get? b = some o := fun b o hb e => hs6.extBut b o hb e
          have hR6 : Rows g6 ys (duFrom (blk (prs D0)) 0 i ++ blk ((prs D0).take j) i) := (hR.but hk5' (fun its => notTup_iter hIt)).but hk6 (fun its => notTup_ns (hn.at' fun o e => hk5' _ o (Ne.symm nIC) e))
          have hacc6 : g6.PlainList D ys := let ⟨n, e⟩ := hacc; ⟨n, hk6 _ _ (neN (by omega)) (hk5' _ _ (Ne.symm nID) e)⟩
          have hIt6 : IsRangeIter g6 I2 (0 + ((j + 1 : Nat) : Int) * 1) (((D0.length : Nat) : Int) - ((j + 1 : Nat) : Int)) 1 := hk6 _ _ nIC hst5
          have hIo6 : IsRangeIter g6 I (0 + ((i + 1 : Nat) : Int) * 1) (((8 : Nat) : Int) - ((i + 1 : Nat) : Int)) 1 := hk6 _ _ nOC (hk5' _ _ hII hIo)
          have hup6 : ∀ b o, hp.get? b = some o → g6.get? b = some o := fun b o e => hk6 b o (neN (by have := old b o e; omega)) (hk5' b o (fun q => by
            have h1 := old b o e
            rw [q] at h1
            omega) (hup b o e))
          have hmx6 : (fun q => if q = y then some (Value.int (0 + (j : Int) * 1) t2) else mC q) x = some (.int (0 + (i : Int) * 1) tv) := by
            show (if x = y then _ else mC x) = _
            rw [if_neg hxy]; exact hmx
          have hmy6 : (fun q => if q = y then some (Value.int (0 + (j : Int) * 1) t2) else mC q) y = some (.int (0 + (j : Int) * 1) t2) := if_pos rfl
          refine wpAny_mono (htestc i j d tv t2 ⟨g6, gn, dr, _, ost⟩ _ _ hd hn6 hmx6 hmy6 hup6) (fun ok s₇ h₇ => ?_) fun _ _ e => e
          obtain ⟨rfl, g7, tk7, rfl, hk7⟩ := h₇
          have hR7 := hR6.keeps hk7
          have hacc7 : g7.PlainList D ys := let ⟨n, e⟩ := hacc6; ⟨n, hk7 _ _ e⟩
          have hup7 : ∀ b o, hp.get? b = some o → g7.get? b = some o := fun b o e => hk7 b o (hup6 b o e)
          have hblk : blk ((prs D0).take (j + 1)) i = blk ((prs D0).take j) i ++ (if d = i then [((i : Int), (j : Int))] else []) := by
            rw [prs_take1 hd]
            unfold blk
            rw [List.filter_append]
            by_cases q : d = i
            · subst q; simp [List.filter]
            · have : (((d : Nat) : Int) == (i : Int)) = false := by simp; omega
              simp [List.filter, this, q]
          by_cases q : d = i
          · simp only [q, decide_true, if_true]
            refine wpAny_mono (heltc i j tv t2 ⟨g7, gn, dr, tk7, ost⟩ _ _ (hn6.keeps hk7) hmx6 hmy6 hup7) (fun yv s₈ h₈ => ?_) fun _ _ e => e
            obtain ⟨⟨t8, a8, b8, rfl, ht8⟩, g8, tk8, rfl, hk8⟩ := h₈
            have hacc8 : g8.PlainList D ys := let ⟨n, e⟩ := hacc7; ⟨n, hk8 _ _ e⟩
            have hR8 := (hR7.keeps hk8).push ht8
            have hys : ys.size ≤ sizeLine := by rw [hR7.1]; exact blen i j hlt
            refine wpAny_list_append_plain (hsz := hys) hacc8 fun g9 hl9 hs9 => ?_
            refine ⟨D0.length + 1 - (j + 1), by omega, j + 1, g9, tk8, ys.push (.ref t8), _, rfl, hltj, rfl, hs9.extBut _ _ nID (hk8 _ _ (hk7 _ _ hIt6)), hs9.extBut _ _ nOD (hk8 _ _ (hk7 _ _ hIo6)), hl9, ?_, ((hn6.keeps hk7).keeps hk8).sameBut hs9 (neN (by omega)), hmx6, fun b o e => hs9.extBut b o (neN (by have := old b o e; omega)) (hk8 b o (hup7 b o e))⟩
            rw [hblk, if_pos q, ← List.append_assoc]
            exact hR8.but (fun b o hb e => hs9.extBut b o hb e) (fun its => notTup_list hacc8)
          · simp only [q, decide_false, Bool.false_eq_true, if_false]
            refine ⟨D0.length + 1 - (j + 1), by omega, j + 1, g7, tk7, ys, _, rfl, hltj, rfl, hk7 _ _ hIt6, hk7 _ _ hIo6, hacc7, ?_, hn6.keeps hk7, hmx6, hup7⟩
            rw [hblk, if_neg q, List.append_nil]
            exact hR7
        · have hj : j = D0.length := by omega
          subst hj
          refine W2.done _ _ _ hIt fun g5 tk5 hk5 => ?_
          have hk5' : ∀ b o, b ≠ I2 → H.get? b = some o → g5.get? b = some o := fun b o hb e => hk5 b o (by simpa using hb) e
          refine ⟨9 - (i + 1), by omega, i + 1, g5, tk5, ys, mC, rfl, hlt, rfl, hk5' _ _ hII hIo, (let ⟨n, e⟩ := hacc; ⟨n, hk5' _ _ (Ne.symm nID) e⟩), ?_, hn.at' fun o e => hk5' _ o (Ne.symm nIC) e, fun b o e => hk5' b o (fun q => by have h1 := old b o e; rw [q] at h1; omega) (hup b o e)⟩
          have hR5 := hR.but hk5' (fun its => notTup_iter hIt)
          rw [List.take_of_length_le (by rw [prs_len]; exact Nat.le_refl _)] at hR5
          rw [duFrom_add (blk (prs D0)) i 1 0, Nat.zero_add]
          simpa [duFrom] using hR5
      exact compStart_1 loop2 (W2.self 0 _ _ _ hIt4 loop2)
    · have hi : i = 8 := by omega
      subst hi
      refine W1.done _ _ _ hIt fun g1 tk1 hk1 => ?_
      have hk1' : ∀ b o, b ≠ I → H.get? b = some o → g1.get? b = some o := fun b o hb e => hk1 b o (by simpa using hb) e
      have nIC := iter_ne_ns hIt hn
      have nID := iter_ne_list hIt hacc
      have hup1 : ∀ b o, hp.get? b = some o → g1.get? b = some o := fun b o e => hk1' b o (fun q => by rw [q, hIn] at e; cases e) (hup b o e)
      have hn1 := hn.at' fun o e => hk1' _ o (Ne.symm nIC) e
      have hR1 := hR.but hk1' (fun its => notTup_iter hIt)
      obtain ⟨ep, hep⟩ := hacc
      have hep1 := hk1' _ _ (Ne.symm nID) hep
      show wpAny _ A (assign (.Name z pz) env (.ref D)) _ _ _
      have hLD : env.locals ≠ D := by
        obtain ⟨oL, _, _, e1, _⟩ := F.ns
        exact neN (by have := old _ _ e1; omega)
      have hnL : g1.Ns env.locals m := F.ns.at' fun o e => hup1 _ o e
      refine wpAny_assign_Name (wpAny_storeName_local hz hnL (fun g2 hn2 hs2 => ?_) hpp)
      refine ⟨mC, hn1.sameBut hs2 (Ne.symm hLd), fun g3 hs3 => ?_⟩
      have upL : ∀ b o, b ≠ env.locals → hp.get? b = some o → g3.get? b = some o := fun b o hb e => hs3.extBut b o (neN (by have := old b o e; omega)) (hs2.extBut b o hb (hup1 b o e))
      have hDs : hp.get? D = none := by
        cases q : hp.get? D with
        | none => rfl
        | some o => exact absurd (old _ _ q) (Nat.lt_irrefl _)
      refine hQ D g3 _ ep ys ⟨hn2.sameBut hs3 hLd, fun b o e => upL b o (Nat.ne_of_lt (Nat.lt_of_lt_of_le (Heap.lt_size e) F.above)) (F.keep b o e), F.above⟩ (fun q hq => ?_) ?_
      · rcases List.mem_cons.mp hq with rfl | hq
        · refine ⟨hs3.extBut _ _ (neN (by omega)) (hs2.extBut _ _ (Ne.symm hLD) hep1), Ne.symm hLD, ?_⟩
          cases q : h₀.get? D with
          | none => rfl
          | some o => rw [F.keep _ _ q] at hDs; cases hDs
        · exact ⟨upL _ _ (N q hq).2.1 (N q hq).1, (N q hq).2⟩
      · exact (hR1.but (fun b o hb e => hs2.extBut b o hb e) (fun its => notTup_ns hnL)).but (fun b o hb e => hs3.extBut b o hb e) (fun its => notTup_ns (hn1.sameBut hs2 (Ne.symm hLd)))
  exact codeAny_compStart_list loop (W1.self 0 _ _ _ hI1 loop)
end
end
section
-- needs A4 L9
noncomputable def pairD (p : Int × Int) : PyData := .tuple [.int p.1, .int p.2]
theorem readsAll_rows {h : Heap} : ∀ (ps : List (Int × Int)) (lr : List Value), lr.length = ps.length → (∀ (i : Nat) (p : Int × Int), ps[i]? = some p → ∃ t t1 t2, lr[i]? = some (.ref t) ∧ IsTup h t #[.int p.1 t1, .int p.2 t2]) → ReadsAll h lr (ps.map pairD) []
  | [], [], _, _ => .nil
  | p :: ps, [], hl, _ => by cases hl
  | [], _ :: _, hl, _ => by cases hl
  | p :: ps, v :: lr, hl, hi => by
    obtain ⟨t, t1, t2, h1, o, ho, hc, n, hd⟩ := hi 0 p rfl
    simp at h1
    subst h1
    refine readsAll_cons_val (reads_tuple_at ho hc hd (.cons (as := []) (bs := []) (.int _ _) (.cons (as := []) (bs := []) (.int _ _) .nil))) (readsAll_rows ps lr (by simpa using hl) fun i q e => ?_)
    obtain ⟨t', a, b, c, d⟩ := hi (i + 1) q (by simpa using e)
    exact ⟨t', a, b, by simpa using c, d⟩
theorem reads_rows {h : Heap} {a : Addr} {o : Obj} {items : Array Value} {n : Nat} {ps : List (Int × Int)} (ho : h.get? a = some o) (hc : o.cls = .type "list") (hd : o.data = .seq items n) (R : Rows h items ps) : Reads h (.ref a) (.list (ps.map pairD)) [a] :=
  reads_list_at ho hc hd (readsAll_rows ps items.toList (by rw [Array.length_toList]; exact R.1) fun i p e => by
    obtain ⟨t, t1, t2, h1, h2⟩ := R.2 i p e
    exact ⟨t, t1, t2, by simpa using h1, h2⟩)
theorem lay_rows : ∀ ps : List (Int × Int), PyData.canLayAll0 (ps.map pairD) = true
  | [] => rfl
  | p :: ps => by
    rw [List.map_cons, PyData.canLayAll0, lay_rows ps]
    rfl
theorem depth_rows : ∀ ps : List (Int × Int), PyData.depthAll (ps.map pairD) ≤ 1
  | [] => Nat.zero_le _
  | p :: ps => by
    rw [List.map_cons, PyData.depthAll]
    have := depth_rows ps
    have h2 : (pairD p).depth = 1 := rfl
    omega
section
variable {prog : Program} {w : World} {A : Around} {E : Value → Shared → Prop} {s : Shared} {Q : Value → Shared → Prop}
theorem ne_rows {a b : Addr} {ps : List (Int × Int)} (ra : Reads s.heap (.ref a) (.list (ps.map pairD)) [a]) (rb : Reads s.heap (.ref b) (.list (ps.map pairD)) [b]) (hu : A.units ≤ 1000) (h : Q (.bool false) s) :
    wpAny (model prog w) A (compareOp .NotEq (.ref a) (.ref b)) Q E s := by
  have hl : PyData.canLay0 (.list (ps.map pairD)) = true := lay_rows ps
  refine SeqAt.compareNe_reads ra rb hl hl ?_ ?_
  · have h1 := depth_rows ps
    have h2 : PyData.depth (.list (ps.map pairD)) = PyData.depthAll (ps.map pairD) + 1 := rfl
    have h3 := cLine_is
    omega
  · rw [show PyData.eqv (.list (ps.map pairD)) (.list (ps.map pairD)) = true from SeqAt.eqvAll_refl _ (lay_rows ps)]
    exact h
end
end
section
-- needs A5
example : True := by
 k_with_none
 k_with "exec For Name Call cons nil" => (refine stop ?_)
 k_with "pyIter ref" => (refine stop ?_)
 k_with "eval ListComp" => (refine stop ?_)
 k_with "exec Assign cons ListComp" => (refine stop ?_)
 k_with "eval Name" => ((k_here; k_dflt (refine' nameX_L ?zhF ?zhv ?_ ?zha ?zhb; (case zha => rfl); (case zhb => rfl); (case zhF => k_asm); (case zhv => first | exact rfl | assumption); k_whole)))
 k_with "eval Name" => ((k_here; k_dflt (first
  | (refine wpAny_Name (wpAny_loadName_local (env := compEnvC _ _ _ _) rfl rfl (by assumption) (by assumption) ?_) (by decide))
  | (refine wpAny_Name (wpAny_loadName_cell (env := compEnvC _ _ _ _) rfl rfl rfl (by assumption) ?_) (by decide)))))
 k_with "eval Name" => ((k_here; k_dflt (refine' nameG_B (env := compEnvC _ _ _ _) ?zhF ?zhX ?zhT ?zhe ?zhv ?zhn ?_ ?zhg ?zhb ?zhk ?zhx ?zhd; (case zhF => k_asm); (case zhX => k_asm); (case zhT => k_asm); (case zhe => k_is); (case zhv => rfl); (case zhn => decide); (case zhg => rfl); (case zhb => rfl); (case zhk => rfl); (case zhx => rfl); (case zhd => decide); k_whole)))
 k_with "eval Name" => ((k_here; k_dflt (refine' nameG_B (v := Value.type "range") (env := compEnvC _ _ _ _) ?zhF ?zhX ?zhT ?zhe ?zhv ?zhn ?_ ?zhg ?zhb ?zhk ?zhx ?zhd; (case zhF => k_asm); (case zhX => k_asm); (case zhT => k_asm); (case zhe => k_is); (case zhv => rfl); (case zhn => decide); (case zhg => rfl); (case zhb => rfl); (case zhk => rfl); (case zhx => rfl); (case zhd => decide); k_whole)))
 k_with "execs cons" => (first
  | ((try dsimp only); (with_reducible refine gen_pos ?_); intro tk' hp')
  | dsimp only)
 k_with "execs nil" => (first
  | ((try dsimp only); (with_reducible refine gen_pos ?_); intro tk' hp')
  | dsimp only)
 k_with "execs cons" => (((with_reducible show wpAny _ _ (execs (Stmt.Assign [Expr.Name (Str.ofString "text") _] _ _ :: _) _) _ _ _); refine stop ?_))
 k_with "subscriptTail" => (refine stop ?_)
 k_with "subscriptTail Name Name ref int" => (refine stop ?_)
 k_with "newTuple" => ((refine wpAny_newTuple (hsz := Nat.le_of_ble_eq_true rfl) ?_; try dsimp only))
 k_with "compareOp NotEq ref ref" => (refine stop ?_)
 trivial
set_option pp.maxSteps 3000
theorem lawD (prog : Program) (w : World) (p : Program) (loose : List Str) (mg mb : Str → Option Value) (g : Heap) (L : Addr) (dA : Nat) (fr : Option (List Env)) (gs : Option (List Code)) (un : Nat) (cd : Value) (fa : Addr)
    (X : (hd.heap_1 w.params).In g) (T : TopRead p loose mg mb g) (hdp : dA + 60 < recursionLimit) (hun : un ≤ 900) (body : List Stmt) (sc : Scope) (hb : body = (bodyAt w.params 161).drop 8) (hsc : sc = scopeAt w.params 161)
    (aD aR aRow aBack : Addr) (vs rs lr lb : List Value) (D : List Nat) (oD oS oR : Obj) (TS : List (Addr × Obj)) (tl : Int) (ep epR epr epb : Nat) (kS kT : Tok) (h : Heap) (gn : Array GenState) (dr : Drawn) (tk : Nat) (os : OsState) (m : Str → Option Value) (E : Value → Shared → Prop) (Q : Flow → Shared → Prop)
    (hvs : IntsAre vs (D.map fun d => ((d : Nat) : Int))) (hds : D.length ≤ 9) (htk : 0 < tk) (F : Fr g L h m)
    (N : News g L h ((aRow, W.listOf lr.toArray epr) :: (aBack, W.listOf lb.toArray epb) :: (aR, W.listOf rs.toArray epR) :: (aD, W.listOf vs.toArray ep) :: (L + 1 + 1 + 1, oR) :: (L + 1 + 1, oS) :: (L + 1, oD) :: TS))
    (hr : RowsN TS lr (dueL (prs D))) (hbk : RowsN TS lb (dueL (prs D)))
    (cD : oD.data = .cell (some (.ref aD))) (cS : oS.data = .cell (some (.int (D.length : Int) kS)))
    (e1 : m "tail" = some (.int tl kT)) (e2 : m "row" = some (.ref aRow)) (e3 : m "back" = some (.ref aBack))
    (hN : ∀ h tk m, 0 < tk → Fr g L h m → m "tail" = some (.int tl kT) → m "row" = some (.ref aRow) →
      News g L h ((aRow, W.listOf lr.toArray epr) :: (aR, W.listOf rs.toArray epR) :: (aD, W.listOf vs.toArray ep) :: (L + 1 + 1 + 1, oR) :: (L + 1 + 1, oS) :: (L + 1, oD) :: TS) → ∀ body2, body2 = (bodyAt w.params 161).drop 10 →
      wpAny (model prog w) (({ handled := none, depth := dA, frames := fr, guards := gs, units := un } : Around).deeper (envOfC (Str.ofString "law") sc L fa cd))
      (execs body2 (envOfC (Str.ofString "law") sc L fa cd)) Q E ⟨h, gn, dr, tk, os⟩) :
    wpAny (model prog w) (({ handled := none, depth := dA, frames := fr, guards := gs, units := un } : Around).deeper (envOfC (Str.ofString "law") sc L fa cd))
      (execs body (envOfC (Str.ofString "law") sc L fa cd)) Q E ⟨h, gn, dr, tk, os⟩ := by
  conv at hb => rhs; whnf
  conv at hsc => rhs; whnf
  subst hb hsc
  refine gen_pos0 htk ?_
  intro tk1 htk1
  have FN := And.intro F N
  have cD0 := (N (L + 1, oD) (by k_mem)).1
  have cS0 := (N (L + 1 + 1, oS) (by k_mem)).1
  have hlD := News.isList N (show (aD, W.listOf vs.toArray ep) ∈ _ by k_mem)
  have hidx : ∀ (j d : Nat), D[j]? = some d → ∃ u, vs.toArray[j]? = some (.int ((d : Nat) : Int) u) := fun j d hj => by
    obtain ⟨u, hu⟩ := ints_get hvs j ((d : Nat) : Int) (by rw [List.getElem?_map, hj]; rfl)
    exact ⟨u, by simpa using hu⟩
  k_steps
  refine stop_ ?_
  refine wpAny_with_toks (n := 1) (by first | assumption | exact Nat.succ_pos _) ?_
  refine' due_rule D hds rfl FN.1 FN.2 ?aL ?asw ?aclos ?acell ?akind ?anames ?ax ?ay ?axy ?az ?app ?ah ?ahs ?ahs2 ?ait2 ?atest ?aelt ?aQ
  case aL => rfl
  case asw => rfl
  case aclos => rfl
  case acell => decide
  case akind => rfl
  case anames => decide
  case ax => rfl
  case ay => rfl
  case axy => decide
  case az => rfl
  case app => rfl
  case ahs => exact fun _ => rfl
  case ahs2 => exact fun _ _ => rfl
  case ah =>
    k_steps
    refine stop_ ?_
    rename IsRange _ _ _ _ _ _ _ _ => R3
    rename (∀ b o, _ → _) => up3
    refine wpAny_pyIter_range R3 (by decide +kernel) ?_
    dsimp only at up3 ⊢
    refine ⟨_, rfl, ?_, ?_, fun b o e => Heap.get?_push_of_some _ (up3 b o e), _, _, rfl⟩
    · exact Heap.get?_push_size _ rfl
    · cases q : h.get? _ with
      | none => rfl
      | some o => exact absurd (Heap.lt_size (up3 _ _ q)) (Nat.lt_irrefl _)
  case ait2 =>
    intro C s₃ m₃ E' Q' hn hup hq
    obtain ⟨h3, g3, r3, t3, o3⟩ := s₃
    have F6 := FN.1.grownK hup
    have N6 := FN.2.grown hup
    have cSx : h3.IsCell (L + 1 + 1) (some (.int (D.length : Int) kS)) := ⟨oS, hup _ _ cS0, cS⟩
    k_steps
    rename IsRange _ _ _ _ _ _ _ _ => R3
    rename (∀ b o, _ → _) => up3
    exact hq _ _ _ _ _ _ R3 up3
  case atest =>
    intro C i j d tv t2 s₃ m₃ E' hd hn hmx hmy hup
    obtain ⟨h3, g3, r3, t3, o3⟩ := s₃
    have F6 := FN.1.grownK hup
    have N6 := FN.2.grown hup
    have cDx : h3.IsCell (L + 1) (some (.ref aD)) := ⟨oD, hup _ _ cD0, cD⟩
    have hl6 : h3.IsList aD vs.toArray := isList_keeps hlD hup
    obtain ⟨u5, hu5⟩ := hidx j d hd
    refine quiet_one ?_
    k_steps
    refine stop_ ?_
    have hj0 : (0 : Int) + (j : Int) * 1 = (j : Int) := by omega
    have hjl : j < D.length := (List.getElem?_eq_some_iff.mp hd).1
    rw [hj0]
    refine' item_listM (v := .int ((d : Nat) : Int) u5) hl6 ?h0 ?h1 ?h2 ?_
    case h0 => omega
    case h1 => omega
    case h2 => rw [Int.toNat_natCast]; exact hu5
    k_steps
    all_goals first
      | exact ⟨_, _, rfl, fun _ _ e => e⟩
      | (apply Bool.eq_iff_iff.mpr; simp only [beq_iff_eq, decide_eq_true_eq]; omega)
  case aelt =>
    intro C i j tv t2 s₃ m₃ E' hn hmx hmy hup
    obtain ⟨h3, g3, r3, t3, o3⟩ := s₃
    have hi0 : (0 : Int) + (i : Int) * 1 = (i : Int) := by omega
    have hj0 : (0 : Int) + (j : Int) * 1 = (j : Int) := by omega
    rw [hi0] at hmx
    rw [hj0] at hmy
    k_steps
    exact ⟨⟨_, _, _, rfl, _, Heap.get?_push_size _ rfl, rfl, 0, rfl⟩, _, _, rfl, fun b o e => Heap.get?_push_of_some _ e⟩
  case aQ =>
    intro Du h7 tk7 ep7 ys7 F7 N7 hR7 htk7
    have hrow : h7.get? aRow = some (W.listOf lr.toArray epr) := (N7 (aRow, W.listOf lr.toArray epr) (by k_mem)).1
    have hback : h7.get? aBack = some (W.listOf lb.toArray epb) := (N7 (aBack, W.listOf lb.toArray epb) (by k_mem)).1
    have hdue : h7.get? Du = some (W.listOf ys7 ep7) := (N7 (Du, W.listOf ys7 ep7) (by k_mem)).1
    have hRr := hr.rows N7 (fun q hq => by repeat (first | exact hq | apply List.Mem.tail))
    have hRb := hbk.rows N7 (fun q hq => by repeat (first | exact hq | apply List.Mem.tail))
    k_steps
    refine stop_ ?_
    refine ne_rows (ps := dueL (prs D)) (reads_rows hrow rfl rfl hRr) (reads_rows hdue rfl rfl hR7) (by show un + 3 ≤ 1000; omega) ?_
    k_steps
    refine stop_ ?_
    refine ne_rows (ps := dueL (prs D)) (reads_rows hback rfl rfl hRb) (reads_rows hdue rfl rfl hR7) (by show un + 3 ≤ 1000; omega) ?_
    k_steps
    refine stop_ ?_
    rename Fr _ _ _ _ => F9
    rename News _ _ _ _ => N9
    refine hN _ _ _ ?_ F9 ?_ ?_ (fun q hq => N9 q ?_) _ rfl
    · first | assumption | exact Nat.succ_pos _ | (dsimp only; first | assumption | exact Nat.succ_pos _)
    · first | exact e1 | rfl
    · first | exact e2 | rfl
    · rcases List.mem_cons.mp hq with rfl | hq
      · k_mem
      · repeat (first | exact hq | apply List.Mem.tail)

example : True := by
 k_with_none
 trivial
end
section
-- needs A5
/-- a text by its signs' numbers -/
noncomputable def S (l : List Nat) : Str := ⟨l.toArray⟩
theorem S_len (l : List Nat) : (S l).length = l.length := by simp [S, Str.length]
theorem S_app (a b : List Nat) : S a ++ S b = S (a ++ b) := by
  apply Str.ext'
  rw [Str.cps_append]
  simp [S]
theorem foldl_app (n : Nat) (l : List Nat) : ∀ acc : Array Nat, (List.replicate n l.toArray).foldl (· ++ ·) acc = acc ++ ((List.replicate n l).flatten).toArray := by
  induction n with
  | zero => intro acc; simp
  | succ n ih => intro acc; rw [List.replicate_succ, List.foldl_cons, ih, List.replicate_succ, List.flatten_cons]; simp
theorem S_mul (l : List Nat) (n : Nat) : Txt.mul (S l) (n : Int) = S ((List.replicate n l).flatten) := by
  unfold Txt.mul
  rcases Nat.lt_or_ge n 1 with h | h
  · have : n = 0 := by omega
    subst this
    rfl
  · rw [if_neg (by omega)]
    by_cases h2 : (((n : Int) == 1) || (S l).length == 0) = true
    · rw [if_pos h2]
      rw [Bool.or_eq_true] at h2
      rcases h2 with h2 | h2
      · have : n = 1 := by have := beq_iff_eq.mp h2; omega
        subst this
        simp [List.replicate]
      · have : l = [] := by rw [S_len] at h2; simpa using h2
        subst this
        have : (List.replicate n ([] : List Nat)).flatten = [] := by
          induction n with
          | zero => rfl
          | succ n ih => simp
        rw [this]
    · rw [if_neg h2]
      have := foldl_app n l #[]
      rw [Int.toNat_natCast]
      show (⟨(List.replicate n l.toArray).foldl (· ++ ·) #[]⟩ : Str) = _
      rw [this]
      simp [S]
theorem mulOk_S {l : List Nat} {n : Nat} (h : l.length * n ≤ 100000) (hn : n ≤ 100000) : MulOk (S l) (n : Int) := by
  refine ⟨Bool.or_eq_false_iff.mpr ⟨decide_eq_false (by omega), decide_eq_false (by omega)⟩, fun h1 h2 => ?_, fun h1 h2 => ?_⟩
  · rw [S_len]
    have hp : 0 < (n : Int) := by omega
    intro hgt
    have h3 : ((l.length * n : Nat) : Int) ≤ 100000 := by omega
    rw [Int.natCast_mul] at h3
    have : ((2 ^ 63 - 1 : Int) / n) * n + n > 2 ^ 63 - 1 := by
      have := Int.lt_ediv_add_one_mul_self (2 ^ 63 - 1) hp
      rw [Int.add_mul, Int.one_mul] at this
      omega
    have h5 : ((2 ^ 63 - 1 : Int) / n) * n ≤ (l.length : Int) * n := Int.mul_le_mul_of_nonneg_right (Int.le_of_lt hgt) (Int.le_of_lt hp)
    omega
  · rw [S_len, Int.toNat_natCast]
    exact decide_eq_false (by rw [sizeLine_eq]; omega)
theorem S_join : ∀ ls : List (List Nat), Txt.join (S []) (ls.map S) = S ls.flatten := by
  intro ls
  show Builtin.Str.glued _ _ = _
  rw [StrLaws.glued_eq_join]
  induction ls with
  | nil => rfl
  | cons a r ih =>
    cases r with
    | nil => simp [Str.join, List.flatten]
    | cons b r =>
      rw [List.map_cons, List.map_cons] at *
      show S a ++ S [] ++ Str.join (S []) (S b :: List.map S r) = _
      rw [ih, S_app, S_app, List.append_nil]
      rfl
theorem lit_sp : Str.ofString " " = S [32] := by decide +kernel
theorem lit_tab : Str.ofString "\t" = S [9] := by decide +kernel
theorem lit_xy : Str.ofString "x y" = S [120, 32, 121] := by decide +kernel
theorem lit_emp : Str.ofString "" = S [] := by decide +kernel
theorem lit_dots : Str.ofString "..." = S [46, 46, 46] := by decide +kernel
theorem lit_td : Str.ofString "\t..." = S [9, 46, 46, 46] := by decide +kernel
section
variable {prog : Program} {w : World} {A : Around} {E : Value → Shared → Prop} {s : Shared} {Q : Value → Shared → Prop}
theorem add_S {a b : List Nat} {t u : Tok} (h : ∀ t' tk, Q (.str (S (a ++ b)) t') { s with toks := tk }) (hz : a.length + b.length ≤ 1000000) : wpAny (model prog w) A (binaryOp .Add (.str (S a) t) (.str (S b) u)) Q E s :=
  PyProof.Rows.add_str (fun t' tk => by rw [S_app]; exact h t' tk) (by rw [S_len, S_len, sizeLine_eq]; omega)
theorem mul_S {l : List Nat} {n : Nat} {t u : Tok} (hz : l.length * n ≤ 100000) (hn : n ≤ 100000) (h : ∀ t' tk, Q (.str (S ((List.replicate n l).flatten)) t') { s with toks := tk }) : wpAny (model prog w) A (binaryOp .Mult (.str (S l) t) (.int (n : Int) u)) Q E s :=
  SB.mul (mulOk_S hz hn) fun t' tk => by rw [S_mul]; exact h t' tk
end
/-- the text of the law -/
noncomputable def pieceL (d : Nat) : List Nat := List.replicate d 32 ++ [9]
noncomputable def leadL (D : List Nat) (tl : Nat) : List Nat := (D.map pieceL).flatten ++ List.replicate tl 32
noncomputable def textL (D : List Nat) (tl : Nat) : List Nat := leadL D tl ++ [120, 32, 121]
theorem flat_sp (n : Nat) : (List.replicate n ([32] : List Nat)).flatten = List.replicate n 32 := by
  induction n with
  | zero => rfl
  | succ n ih => rw [List.replicate_succ, List.flatten_cons, ih]; rfl
end
section
-- needs P2
example : True := by
 k_with_none
 k_with "eval ListComp" => (refine stop ?_)
 k_with "pyIter ref" => (refine stop ?_)
 k_with "eval Name" => ((k_here; k_dflt (refine' nameX_L ?zhF ?zhv ?_ ?zha ?zhb; (case zha => rfl); (case zhb => rfl); (case zhF => k_asm); (case zhv => first | exact rfl | assumption); k_whole)))
 k_with "eval Name" => ((k_here; k_dflt (first
  | (refine wpAny_Name (wpAny_loadName_local (env := compEnvC _ _ _ _) rfl rfl (by assumption) (by assumption) ?_) (by decide))
  | (refine wpAny_Name (wpAny_loadName_cell (env := compEnvC _ _ _ _) rfl rfl rfl (by assumption) ?_) (by decide)))))
 k_with "execs cons" => (first
  | ((try dsimp only); (with_reducible refine gen_pos ?_); intro tk' hp')
  | dsimp only)
 k_with "execs cons" => (((with_reducible show wpAny _ _ (execs (Stmt.Assign [Expr.Name (Str.ofString "lead") _] _ _ :: _) _) _ _ _); refine stop ?_))
 k_with "binaryOp Mult str int" => (refine stop ?_)
 k_with "binaryOp Add str str" => (refine stop ?_)
 k_with "call builtin:str.join" => (refine stop ?_)
 trivial
set_option pp.maxSteps 3000
theorem strs_of : ∀ {vs bs : List Value} {D : List Nat}, IntsAre vs (D.map fun d => ((d : Nat) : Int)) → Paired (fun a b => ∃ (d : Nat) (u t : Tok), a = .int (d : Int) u ∧ b = .str (S (pieceL d)) t) vs bs → StrsAre bs (D.map fun d => S (pieceL d))
  | _, _, [], .nil, .nil => .nil
  | _, _, d :: D, .cons _ _ r, .cons h q => by
    obtain ⟨k, u, t, e, rfl⟩ := h
    injection e with e1 _
    have e1 : ((d : Nat) : Int) = ((k : Nat) : Int) := e1
    have : d = k := by omega
    subst this
    exact .cons _ _ (strs_of r q)
theorem pieces_len : ∀ D : List Nat, (∀ d ∈ D, d < 8) → (((D.map fun d => S (pieceL d)).map (·.length)).sum ≤ 9 * D.length) ∧ ((D.map pieceL).flatten.length ≤ 9 * D.length)
  | [], _ => ⟨Nat.le_refl _, Nat.le_refl _⟩
  | d :: D, h => by
    have ih := pieces_len D fun d hd => h d (.tail _ hd)
    have hd := h d (.head _)
    simp only [List.map_cons, List.sum_cons, List.flatten_cons, List.length_append, List.length_cons, S_len, pieceL, List.length_replicate, List.length_nil]
    simp only [pieceL] at ih
    omega
theorem lawF (prog : Program) (w : World) (p : Program) (loose : List Str) (mg mb : Str → Option Value) (g : Heap) (L : Addr) (dA : Nat) (fr : Option (List Env)) (gs : Option (List Code)) (un : Nat) (cd : Value) (fa : Addr)
    (X : (hd.heap_1 w.params).In g) (T : TopRead p loose mg mb g) (hdp : dA + 60 < recursionLimit) (hun : un ≤ 900) (body : List Stmt) (sc : Scope) (hb : body = (bodyAt w.params 161).drop 10) (hsc : sc = scopeAt w.params 161)
    (aD aR aRow : Addr) (vs rs lr : List Value) (D : List Nat) (oD oS oR : Obj) (TS : List (Addr × Obj)) (tl : Nat) (ep epR epr : Nat) (kT : Tok) (h : Heap) (gn : Array GenState) (dr : Drawn) (tk : Nat) (os : OsState) (m : Str → Option Value) (E : Value → Shared → Prop) (Q : Flow → Shared → Prop)
    (hvs : IntsAre vs (D.map fun d => ((d : Nat) : Int))) (hds : D.length ≤ 9) (hlt : ∀ d ∈ D, d < 8) (htl : tl ≤ 8) (htk : 0 < tk) (F : Fr g L h m)
    (N : News g L h ((aRow, W.listOf lr.toArray epr) :: (aR, W.listOf rs.toArray epR) :: (aD, W.listOf vs.toArray ep) :: (L + 1 + 1 + 1, oR) :: (L + 1 + 1, oS) :: (L + 1, oD) :: TS))
    (cD : oD.data = .cell (some (.ref aD)))
    (e1 : m "tail" = some (.int (tl : Int) kT)) (e2 : m "row" = some (.ref aRow))
    (hN : ∀ h tk m tX, 0 < tk → Fr g L h m → m "tail" = some (.int (tl : Int) kT) → m "row" = some (.ref aRow) → m "text" = some (.str (S (textL D tl)) tX) →
      News g L h ((aRow, W.listOf lr.toArray epr) :: (aR, W.listOf rs.toArray epR) :: (aD, W.listOf vs.toArray ep) :: (L + 1 + 1 + 1, oR) :: (L + 1 + 1, oS) :: (L + 1, oD) :: TS) → ∀ body2, body2 = (bodyAt w.params 161).drop 11 →
      wpAny (model prog w) (({ handled := none, depth := dA, frames := fr, guards := gs, units := un } : Around).deeper (envOfC (Str.ofString "law") sc L fa cd))
      (execs body2 (envOfC (Str.ofString "law") sc L fa cd)) Q E ⟨h, gn, dr, tk, os⟩) :
    wpAny (model prog w) (({ handled := none, depth := dA, frames := fr, guards := gs, units := un } : Around).deeper (envOfC (Str.ofString "law") sc L fa cd))
      (execs body (envOfC (Str.ofString "law") sc L fa cd)) Q E ⟨h, gn, dr, tk, os⟩ := by
  conv at hb => rhs; whnf
  conv at hsc => rhs; whnf
  subst hb hsc
  refine gen_pos0 htk ?_
  intro tk1 htk1
  have hlD := News.isList N (show (aD, W.listOf vs.toArray ep) ∈ _ by k_mem)
  have hvl := hvs.length
  rw [List.length_map] at hvl
  k_steps
  refine stop_ ?_
  rename Fr _ _ _ _ => F5
  rename News _ _ _ _ => N5
  refine wpAny_with_toks (n := 1) (by first | assumption | exact Nat.succ_pos _) ?_
  refine comp_FN (fun _ => true) (fun a b => ∃ (d : Nat) (u t : Tok), a = .int (d : Int) u ∧ b = .str (S (pieceL d)) t) F5 N5 (by rfl) (by decide) (by rfl) (by decide) (by rfl) ?_
  k_steps
  refine stop_ ?_
  refine' comp_list (items := vs.toArray) ?zhh ?zhs1 ?zhk ?zhl ?zhnz ?zhtest ?zhelt ?zhQ
  case zhh => rfl
  case zhs1 => exact ⟨_, _, rfl⟩
  case zhk => exact fun _ _ e => e
  case zhl => exact hlD
  case zhnz => rw [List.size_toArray]; omega
  case zhtest => intros; exact quiet_none
  case zhelt =>
    intro C j v s₃ m₃ E' hj htt _ hn hm hkk
    obtain ⟨k, u, rfl, hk⟩ := ints_at hvs j v (by simpa using hj)
    rw [List.getElem?_map] at hk
    obtain ⟨d, hd, rfl⟩ : ∃ d, D[j]? = some d ∧ ((d : Nat) : Int) = k := by
      cases q : D[j]? with
      | none => rw [q] at hk; cases hk
      | some d => rw [q] at hk; exact ⟨d, rfl, Option.some.inj hk⟩
    have hd8 := hlt d (List.mem_of_getElem? hd)
    k_steps
    refine stop_ ?_
    rw [lit_sp]
    refine mul_S (by simp; omega) (by omega) fun t1 k1 => ?_
    rw [flat_sp]
    k_steps
    refine stop_ ?_
    rw [lit_tab]
    refine add_S (fun t2 k2 => ?_) (by simp; omega)
    exact ⟨⟨d, _, _, rfl, rfl⟩, _, _, rfl, fun _ _ e => e⟩
  case zhQ =>
    intro D2 h2 tk2 ep2 ys2 F8 N8 up9 hneD2 hpair2 htk8
    obtain ⟨ys2⟩ := ys2
    rw [List.filter_eq_self.mpr fun _ _ => rfl] at hpair2
    have hS := strs_of hvs hpair2
    k_steps
    refine stop_ ?_
    rename News _ _ _ _ => N9
    have hpl := pieces_len D hlt
    rw [lit_emp]
    clear htk1
    refine wpAny_with_toks (n := 1) (by first | assumption | exact Nat.succ_pos _ | (dsimp only; first | assumption | exact Nat.succ_pos _)) ?_
    refine join_listW (News.isList N9 (show (D2, W.listOf ⟨ys2⟩ ep2) ∈ _ by k_mem)) hS (by rw [S_len]; decide) (by rw [List.length_map]; omega) ?_
    intro t3 k3 hk3
    rw [show (D.map fun d => S (pieceL d)) = (D.map pieceL).map S by rw [List.map_map]; rfl, S_join]
    k_steps
    refine stop_ ?_
    rw [lit_sp]
    refine wpAny_with_toks (n := 1) (by first | assumption | exact Nat.succ_pos _ | (dsimp only; first | assumption | exact Nat.succ_pos _)) ?_
    refine mul_S (by simp; omega) (by omega) fun t4 k4 hk4 => ?_
    rw [flat_sp]
    k_steps
    refine stop_ ?_
    refine wpAny_with_toks (n := 1) (by first | assumption | exact Nat.succ_pos _ | (dsimp only; first | assumption | exact Nat.succ_pos _)) ?_
    refine add_S (fun t5 k5 hk5 => ?_) (by simp only [List.length_replicate]; omega)
    k_steps
    refine stop_ ?_
    rw [lit_xy]
    refine wpAny_with_toks (n := 1) (by first | assumption | exact Nat.succ_pos _ | (dsimp only; first | assumption | exact Nat.succ_pos _)) ?_
    refine add_S (fun t6 k6 hk6 => ?_) (by simp only [List.length_append, List.length_replicate, List.length_cons, List.length_nil]; omega)
    k_steps
    refine stop_ ?_
    rename Fr _ _ _ _ => F12
    rename News _ _ _ _ => N12
    refine hN _ _ _ _ ?_ F12 ?_ ?_ rfl (fun q hq => N12 q (.tail _ hq)) _ rfl
    · first | assumption | exact Nat.succ_pos _ | (dsimp only; first | assumption | exact Nat.succ_pos _)
    · first | exact e1 | rfl
    · first | exact e2 | rfl

example : True := by
 k_with_none
 trivial
end
section
-- needs A7 C7
theorem call_lead {prog : Program} {w : World} {A : Around} {E : Value → Shared → Prop} {s : Shared} {Q : Value → Shared → Prop} {g : Heap} {L : Addr} {m mg mb : Str → Option Value} {nws : List (Addr × Obj)} {p : Program} {loose : List Str} {G : Str} {t : Tok}
    (F : Fr g L s.heap m) (N : News g L s.heap nws) (X : (hd.heap_1 w.params).In g) (T : TopRead p loose mg mb g) (hA : A.handled = none) (hdp : A.depth + 30 < recursionLimit) (hG : G.length ≤ 10000) (htk : 0 < s.toks)
    (h : ∀ x dx T T2 vs a0 a1 a2 a3 a4 a5 a6 k1 bs z h' tk, 0 < tk → Fr g L h' m → IntsAre vs (wsGo G.cps.toList [] 0 0 0).1 →
      News g L h' (leadN w.params x dx T T2 G t (wsGo G.cps.toList [] 0 0 0).2.1 (wsGo G.cps.toList [] 0 0 0).2.2.1 (wsGo G.cps.toList [] 0 0 0).2.2.2 vs a0 a1 a2 a3 a4 a5 a6 k1 bs z ++ nws) → Q (.ref x) { s with heap := h', toks := tk }) :
    wpAny (model prog w) A (call (.ref 140) [.str G t] []) Q E s := by
  refine wpAny_with_toks (n := 1) htk ?_
  refine' call_cls F X N ?hm ?hi ?hf ?_
  case hm => k_is
  case hi => k_is
  case hf => k_is
  intro x dx h₁ F1 N1 l1 l2
  have hx := N1 (x, instObj 140 dx) (.head _)
  have hdx := N1 (dx, dictOf [] 0) (.tail _ (.head _))
  refine codeAny_mono (wsI_c prog w (A.under (.builtin "type.__call__" ⟨.ref 140 :: [.str G t], []⟩)) ⟨h₁, s.gens, s.drawn, s.toks, s.os⟩ p loose mg mb g X T hA (by rw [depth_under_make]; omega) F1.keep x dx l2 ⟨hx.1, hx.2.2⟩ ⟨hdx.1, hdx.2.2⟩ G t hG) fun r s' hr => ?_
  obtain ⟨v, h', tk, rfl, rfl, hk, rfl, Ta, T2, vs, a0, a1, a2, a3, a4, a5, a6, k1, bs, z, q1, q2, q3, q4, q5, q6⟩ := hr
  refine ⟨rfl, fun hpt => ?_⟩
  refine h x dx Ta T2 vs a0 a1 a2 a3 a4 a5 a6 k1 bs z h' tk hpt ?_ q4 ?_
  · refine ⟨F1.ns.at' fun o e => hk _ o (Ne.symm hdx.2.1) e, fun b o e => hk b o (fun q => ?_) (F1.keep b o e), F1.above⟩
    rw [q, hdx.2.2] at e; cases e
  · have fresh : ∀ a, h₁.get? a = none → a ≠ L ∧ g.get? a = none := fun a ha => by
      refine ⟨fun e => ?_, ?_⟩
      · obtain ⟨oL, _, _, e1, _⟩ := F1.ns
        rw [← e, ha] at e1; cases e1
      · cases q : g.get? a with
        | none => rfl
        | some o => rw [F1.keep _ _ q] at ha; cases ha
    intro q hq
    unfold leadN at hq
    simp only [List.cons_append, List.nil_append] at hq
    rcases List.mem_cons.mp hq with rfl | hq
    · exact ⟨hk _ _ (neN (Nat.ne_of_gt (ltN l2))) hx.1, hx.2⟩
    · rcases List.mem_cons.mp hq with rfl | hq
      · exact ⟨q1, hdx.2⟩
      · rcases List.mem_cons.mp hq with rfl | hq
        · exact ⟨q2, fresh _ q5⟩
        · rcases List.mem_cons.mp hq with rfl | hq
          · exact ⟨q3, fresh _ q6⟩
          · have hz := N1 q (.tail _ (.tail _ hq))
            exact ⟨hk _ _ (neN (Nat.ne_of_lt (ltN (l1 q hq)))) hz.1, hz.2⟩
end
section
-- needs A8 A2
theorem wsGo_sp (k : Nat) : ∀ (r : List Nat) (cs : List Int) (b n nt : Nat), wsGo (List.replicate k 32 ++ r) cs b n nt = wsGo r cs (b + k) (n + k) nt := by
  induction k with
  | zero => intros; rfl
  | succ k ih =>
    intro r cs b n nt
    rw [List.replicate_succ, List.cons_append, wsGo, if_pos rfl, ih]
    congr 1 <;> omega
theorem wsGo_pieces : ∀ (D r : List Nat) (cs : List Int) (n nt : Nat), wsGo ((D.map pieceL).flatten ++ r) cs 0 n nt = wsGo r (D.foldl bump cs) 0 (n + D.sum + D.length) (nt + D.length)
  | [], r, cs, n, nt => rfl
  | d :: D, r, cs, n, nt => by
    rw [List.map_cons, List.flatten_cons, List.append_assoc]
    unfold pieceL
    rw [List.append_assoc, wsGo_sp, List.cons_append, List.nil_append, wsGo, if_neg (by decide), if_pos rfl]
    have := wsGo_pieces D r (bump cs d) (n + d + 1) (nt + 1)
    unfold pieceL at this
    rw [Nat.zero_add, this, List.foldl_cons, List.sum_cons, List.length_cons]
    congr 1 <;> omega
theorem wsGo_text (D : List Nat) (tl : Nat) : wsGo (textL D tl) [] 0 0 0 = (D.foldl bump [], tl, D.sum + D.length + tl, D.length) := by
  unfold textL leadL
  rw [List.append_assoc, wsGo_pieces, wsGo_sp, wsGo, if_neg (by decide), if_neg (by decide)]
  simp
theorem bump_len (cs : List Int) (b : Nat) : (bump cs b).length = max cs.length (b + 1) := by
  unfold bump
  rw [List.length_set]
  split
  · rw [List.length_append, List.length_replicate]; omega
  · omega
theorem getD_pad (cs : List Int) (k v : Nat) : (cs ++ List.replicate k 0).getD v 0 = cs.getD v 0 := by
  rw [List.getD_eq_getElem?_getD, List.getD_eq_getElem?_getD]
  by_cases h : v < cs.length
  · rw [List.getElem?_append_left h]
  · rw [List.getElem?_append_right (by omega), List.getElem?_eq_none (l := cs) (by omega)]
    by_cases h2 : v - cs.length < k
    · rw [List.getElem?_replicate]; simp [h2]
    · rw [List.getElem?_replicate]; simp [h2]
theorem bump_get (cs : List Int) (b v : Nat) : (bump cs b).getD v 0 = cs.getD v 0 + (if v = b then 1 else 0) := by
  unfold bump
  generalize hp : (if cs.length ≤ b then cs ++ List.replicate (b - cs.length + 1) 0 else cs) = ps
  have hl : b < ps.length := by
    rw [← hp]; split
    · rw [List.length_append, List.length_replicate]; omega
    · omega
  have hg : ∀ v, ps.getD v 0 = cs.getD v 0 := fun v => by
    rw [← hp]; split
    · exact getD_pad _ _ _
    · rfl
  rw [List.getD_eq_getElem?_getD, List.getElem?_set]
  by_cases h : b = v
  · subst h
    rw [if_pos rfl, if_pos hl, if_pos rfl, ← hg]; rfl
  · rw [if_neg h, if_neg (fun e => h e.symm), ← List.getD_eq_getElem?_getD, hg, Int.add_zero]
noncomputable def cntF (D : List Nat) (v : Nat) : Nat := (D.filter fun d => d == v).length
theorem cntF_cons (d : Nat) (D : List Nat) (v : Nat) : cntF (d :: D) v = (if d = v then 1 else 0) + cntF D v := by
  unfold cntF
  rw [List.filter_cons]
  by_cases h : d = v
  · simp [h]; omega
  · simp [h]
theorem fold_get : ∀ (D : List Nat) (cs : List Int) (v : Nat), (D.foldl bump cs).getD v 0 = cs.getD v 0 + (cntF D v : Nat)
  | [], cs, v => by simp [cntF]
  | d :: D, cs, v => by
    rw [List.foldl_cons, fold_get D, bump_get, cntF_cons]
    by_cases h : v = d
    · subst h; simp; omega
    · rw [if_neg h, if_neg (fun e => h e.symm)]; simp
theorem fold_len : ∀ (D : List Nat) (cs : List Int), cs.length ≤ (D.foldl bump cs).length ∧ (∀ d ∈ D, d < (D.foldl bump cs).length) ∧ ((D.foldl bump cs).length = cs.length ∨ ∃ d ∈ D, (D.foldl bump cs).length = d + 1)
  | [], cs => ⟨Nat.le_refl _, (fun _ h => nomatch h), .inl rfl⟩
  | d :: D, cs => by
    rw [List.foldl_cons]
    obtain ⟨h1, h2, h3⟩ := fold_len D (bump cs d)
    rw [bump_len] at h1 h3
    refine ⟨by omega, fun e he => ?_, ?_⟩
    · rcases List.mem_cons.mp he with rfl | he
      · omega
      · exact h2 e he
    · rcases h3 with h3 | ⟨e, he, h3⟩
      · by_cases h : cs.length ≤ d + 1
        · exact .inr ⟨d, .head _, by omega⟩
        · exact .inl (by omega)
      · exact .inr ⟨e, .tail _ he, h3⟩
/-- how many numbers reach v -/
noncomputable def rcN (D : List Nat) (v : Nat) : Nat := (D.filter fun d => decide (v ≤ d)).length
theorem rcN_cons (d : Nat) (D : List Nat) (v : Nat) : rcN (d :: D) v = (if v ≤ d then 1 else 0) + rcN D v := by
  unfold rcN
  rw [List.filter_cons]
  by_cases h : v ≤ d
  · simp [h]; omega
  · simp [h]
theorem rcF_eq (D : List Nat) (v : Nat) : rcF (D.map fun d => ((d : Nat) : Int)) (v : Int) = rcN D v := by
  induction D with
  | nil => rfl
  | cons d D ih =>
    rw [rcN_cons, ← ih]
    unfold rcF
    rw [List.map_cons, List.filter_cons]
    by_cases h : v ≤ d
    · have h2 : decide ((v : Int) ≤ ((d : Nat) : Int)) = true := decide_eq_true (by omega)
      rw [if_pos h2, if_pos h, List.length_cons]; omega
    · have h2 : decide ((v : Int) ≤ ((d : Nat) : Int)) = false := decide_eq_false (by omega)
      rw [h2, if_neg h]; simp
theorem cnt_rc : ∀ (D : List Nat) (v : Nat), cntF D v + rcN D (v + 1) = rcN D v
  | [], _ => rfl
  | d :: D, v => by
    have := cnt_rc D v
    rw [cntF_cons, rcN_cons, rcN_cons]
    by_cases h1 : d = v
    · subst h1; rw [if_pos rfl, if_pos (Nat.le_refl _), if_neg (by omega)]; omega
    · by_cases h2 : v ≤ d
      · rw [if_neg h1, if_pos h2, if_pos (by omega)]; omega
      · rw [if_neg h1, if_neg h2, if_neg (by omega)]; omega
theorem rc_pos {D : List Nat} {v : Nat} : 0 < rcN D v ↔ ∃ d ∈ D, v ≤ d := by
  unfold rcN
  rw [List.length_pos_iff_exists_mem]
  constructor
  · rintro ⟨d, hd⟩
    have := List.mem_filter.mp hd
    exact ⟨d, this.1, by simpa using this.2⟩
  · rintro ⟨d, h1, h2⟩
    exact ⟨d, List.mem_filter.mpr ⟨h1, by simpa using h2⟩⟩
noncomputable def csOf (D : List Nat) : List Int := D.foldl bump []
theorem cs_len {D : List Nat} (hne : D ≠ []) (v : Nat) : 0 < rcN D v ↔ v < (csOf D).length := by
  obtain ⟨_, h2, h3⟩ := fold_len D []
  rw [rc_pos]
  constructor
  · rintro ⟨d, h4, h5⟩
    exact Nat.lt_of_le_of_lt h5 (h2 d h4)
  · intro h
    rcases h3 with h3 | ⟨d, h4, h5⟩
    · unfold csOf at h; rw [h3] at h; simp at h
    · exact ⟨d, h4, by unfold csOf at h; omega⟩
theorem cs_pos {D : List Nat} (hne : D ≠ []) : 0 < (csOf D).length := by
  refine (cs_len hne 0).mp (rc_pos.mpr ?_)
  match D, hne with
  | d :: D, _ => exact ⟨d, .head _, Nat.zero_le _⟩
theorem cs_le {D : List Nat} (hlt : ∀ d ∈ D, d < 8) : (csOf D).length ≤ 8 := by
  obtain ⟨_, h2, h3⟩ := fold_len D []
  unfold csOf
  rcases h3 with h3 | ⟨d, h4, h5⟩
  · rw [h3]; exact Nat.zero_le _
  · rw [h5]; exact hlt d h4
theorem cs_eq (D : List Nat) : csOf D = (List.range (csOf D).length).map fun v => ((rcN D v : Nat) : Int) - ((rcN D (v + 1) : Nat) : Int) := by
  apply List.ext_getElem?
  intro v
  by_cases h : v < (csOf D).length
  · rw [List.getElem?_map, List.getElem?_range h, Option.map_some]
    have h1 := fold_get D [] v
    have h2 := cnt_rc D v
    have h3 : (csOf D)[v]? = some ((csOf D).getD v 0) := by
      rw [List.getD_eq_getElem?_getD, List.getElem?_eq_getElem h]; rfl
    rw [h3]
    unfold csOf
    rw [h1]
    simp
    omega
  · rw [List.getElem?_eq_none (by omega), List.getElem?_eq_none (by simp; omega)]
theorem cs_rc : ∀ (D : List Nat), (∀ d ∈ D, d < 8) → ((List.range 10).map fun v => ((rcN D v : Nat) : Int)).sum = ((D.sum + D.length : Nat) : Int)
  | [], _ => by decide
  | d :: D, h => by
    have ih := cs_rc D fun e he => h e (.tail _ he)
    have hd := h d (.head _)
    simp only [List.range, List.range.loop, List.map_cons, List.map_nil, List.sum_cons, List.sum_nil, rcN_cons] at ih ⊢
    obtain rfl | rfl | rfl | rfl | rfl | rfl | rfl | rfl : d = 0 ∨ d = 1 ∨ d = 2 ∨ d = 3 ∨ d = 4 ∨ d = 5 ∨ d = 6 ∨ d = 7 := by omega
    all_goals (simp only [List.length_cons] at ih ⊢; simp at ih ⊢; omega)
end
section
-- needs P3
noncomputable def hiP (D : List Nat) : Value → Bool
  | .int k _ => decide (0 < rcN D k.toNat)
  | _ => false
theorem hi_len {D : List Nat} (hne : D ≠ []) (hlt : ∀ d ∈ D, d < 8) {ts : List Tok} (hts : ts.length = 9) : ((ts.mapIdx fun i tk => Value.int (1 + (i : Int) * 1) tk).filter (hiP D)).length = (csOf D).length - 1 := by
  have h1 := cs_pos hne
  have h2 := cs_le hlt
  match ts, hts with
  | [a, b, c, d, e, f, g, h, i], _ =>
    have hP : ∀ (v : Nat) (t : Tok), hiP D (.int ((v : Nat) : Int) t) = decide (v < (csOf D).length) := fun v t => by
      show decide (0 < rcN D ((v : Nat) : Int).toNat) = _
      rw [Int.toNat_natCast]
      exact decide_eq_decide.mpr (cs_len hne v)
    generalize hK : (csOf D).length = K at *
    have h3 : (List.mapIdx (fun i tk => Value.int (1 + (i : Int) * 1) tk) [a, b, c, d, e, f, g, h, i]) = [.int ((1 : Nat) : Int) a, .int ((2 : Nat) : Int) b, .int ((3 : Nat) : Int) c, .int ((4 : Nat) : Int) d, .int ((5 : Nat) : Int) e, .int ((6 : Nat) : Int) f, .int ((7 : Nat) : Int) g, .int ((8 : Nat) : Int) h, .int ((9 : Nat) : Int) i] := rfl
    rw [h3]
    simp only [List.filter_cons, hP, List.filter_nil]
    obtain rfl | rfl | rfl | rfl | rfl | rfl | rfl | rfl : K = 1 ∨ K = 2 ∨ K = 3 ∨ K = 4 ∨ K = 5 ∨ K = 6 ∨ K = 7 ∨ K = 8 := by omega
    all_goals rfl
example : True := by
 k_with_none
 k_with "exec For Name Call cons nil" => (refine stop ?_)
 k_with "pyIter ref" => (refine stop ?_)
 k_with "eval ListComp" => (refine stop ?_)
 k_with "eval Name" => ((k_here; k_dflt (refine' nameX_L ?zhF ?zhv ?_ ?zha ?zhb; (case zha => rfl); (case zhb => rfl); (case zhF => k_asm); (case zhv => first | exact rfl | assumption); k_whole)))
 k_with "eval Name" => ((k_here; k_dflt (first
  | (refine wpAny_Name (wpAny_loadName_local (env := compEnvC _ _ _ _) rfl rfl (by assumption) (by assumption) ?_) (by decide))
  | (refine wpAny_Name (wpAny_loadName_cell (env := compEnvC _ _ _ _) rfl rfl rfl (by assumption) ?_) (by decide)))))
 k_with "execs cons" => (first
  | ((try dsimp only); (with_reducible refine gen_pos ?_); intro tk' hp')
  | dsimp only)
 k_with "execs cons" => (((with_reducible show wpAny _ _ (execs (Stmt.If _ _ _ _ :: _) _) _ _ _); refine stop ?_))
 k_with "subscriptTail" => (refine stop ?_)
 k_with "subscriptTail Name Name ref int" => (refine stop ?_)
 k_with "call builtin:len" => (((with_reducible show wpAny _ _ (call _ [Value.ref _]) _ _ _); refine stop ?_))
 k_with "call ref" => (((with_reducible show wpAny _ _ (call (Value.ref 140) _ _) _ _ _); refine stop ?_))
 trivial
set_option pp.maxSteps 3000
theorem lawG (prog : Program) (w : World) (p : Program) (loose : List Str) (mg mb : Str → Option Value) (g : Heap) (L : Addr) (dA : Nat) (fr : Option (List Env)) (gs : Option (List Code)) (un : Nat) (cd : Value) (fa : Addr)
    (X : (hd.heap_1 w.params).In g) (T : TopRead p loose mg mb g) (hdp : dA + 60 < recursionLimit) (hun : un ≤ 900) (body : List Stmt) (sc : Scope) (hb : body = (bodyAt w.params 161).drop 11) (hsc : sc = scopeAt w.params 161)
    (aD aR aRow : Addr) (vs rs lr : List Value) (D : List Nat) (oD oS oR : Obj) (TS : List (Addr × Obj)) (tl : Nat) (ep epR epr : Nat) (kT tX : Tok) (h : Heap) (gn : Array GenState) (dr : Drawn) (tk : Nat) (os : OsState) (m : Str → Option Value) (E : Value → Shared → Prop) (Q : Flow → Shared → Prop)
    (hrs : IntsAre rs ((List.range 10).map fun (v : Nat) => ((rcN D v : Nat) : Int))) (hne : D ≠ []) (hds : D.length ≤ 9) (hlt : ∀ d ∈ D, d < 8) (htl : tl ≤ 8) (htk : 0 < tk) (F : Fr g L h m)
    (N : News g L h ((aRow, W.listOf lr.toArray epr) :: (aR, W.listOf rs.toArray epR) :: (aD, W.listOf vs.toArray ep) :: (L + 1 + 1 + 1, oR) :: (L + 1 + 1, oS) :: (L + 1, oD) :: TS))
    (cR : oR.data = .cell (some (.ref aR)))
    (e1 : m "tail" = some (.int (tl : Int) kT)) (e2 : m "row" = some (.ref aRow)) (e3 : m "text" = some (.str (S (textL D tl)) tX))
    (hN : ∀ h tk m x dx T T2 cs a0 a1 a2 a3 a4 a5 a6 k1 bs z kH, 0 < tk → Fr g L h m → m "tail" = some (.int (tl : Int) kT) → m "row" = some (.ref aRow) → m "text" = some (.str (S (textL D tl)) tX) → m "lead" = some (.ref x) → m "high" = some (.int (((csOf D).length - 1 : Nat) : Int) kH) → IntsAre cs (csOf D) →
      News g L h (leadN w.params x dx T T2 (S (textL D tl)) tX tl (D.sum + D.length + tl) D.length cs a0 a1 a2 a3 a4 a5 a6 k1 bs z ++ (aRow, W.listOf lr.toArray epr) :: (aR, W.listOf rs.toArray epR) :: (aD, W.listOf vs.toArray ep) :: (L + 1 + 1 + 1, oR) :: (L + 1 + 1, oS) :: (L + 1, oD) :: TS) → ∀ body2, body2 = (bodyAt w.params 161).drop 13 →
      wpAny (model prog w) (({ handled := none, depth := dA, frames := fr, guards := gs, units := un } : Around).deeper (envOfC (Str.ofString "law") sc L fa cd))
      (execs body2 (envOfC (Str.ofString "law") sc L fa cd)) Q E ⟨h, gn, dr, tk, os⟩) :
    wpAny (model prog w) (({ handled := none, depth := dA, frames := fr, guards := gs, units := un } : Around).deeper (envOfC (Str.ofString "law") sc L fa cd))
      (execs body (envOfC (Str.ofString "law") sc L fa cd)) Q E ⟨h, gn, dr, tk, os⟩ := by
  conv at hb => rhs; whnf
  conv at hsc => rhs; whnf
  subst hb hsc
  refine gen_pos0 htk ?_
  intro tk1 htk1
  k_steps
  refine stop_ ?_
  rename Fr _ _ _ _ => F5
  rename News _ _ _ _ => N5
  refine call_lead F5 N5 X T rfl (by simp only [depth_deeper]; omega) ?_ (by first | assumption | exact Nat.succ_pos _) ?_
  · rw [S_len]
    have := (pieces_len D hlt).2
    unfold textL leadL
    simp only [List.length_append, List.length_replicate, List.length_cons, List.length_nil]
    omega
  intro x dx Ta T2 cs a0 a1 a2 a3 a4 a5 a6 k1 bs z h6 tk6 htk6 F6 hcs N6
  have hgo : wsGo (S (textL D tl)).cps.toList [] 0 0 0 = (csOf D, tl, D.sum + D.length + tl, D.length) := wsGo_text D tl
  rw [hgo] at hcs N6
  dsimp only at hcs N6
  generalize hLN : leadN w.params x dx Ta T2 (S (textL D tl)) tX tl (D.sum + D.length + tl) D.length cs a0 a1 a2 a3 a4 a5 a6 k1 bs z = LN at N6
  have cR0 := (N6 (L + 1 + 1 + 1, oR) (List.mem_append_right _ (by k_mem))).1
  have hlR := News.isList N6 (show (aR, W.listOf rs.toArray epR) ∈ _ from List.mem_append_right _ (by k_mem))
  k_steps
  refine stop_ ?_
  rename Fr _ _ _ _ => F7
  rename News _ _ _ _ => N7
  have cR1 := (N7 (L + 1 + 1 + 1, oR) (List.mem_append_right _ (by k_mem))).1
  have hlR1 := News.isList N7 (show (aR, W.listOf rs.toArray epR) ∈ _ from List.mem_append_right _ (by k_mem))
  refine wpAny_with_toks (n := 1) (by first | assumption | exact Nat.succ_pos _) ?_
  refine comp_FN (hiP D) (fun a b => b = a) F7 N7 (by rfl) (by decide) (by rfl) (by decide) (by rfl) ?_
  k_steps
  refine stop_ ?_
  rename IsRange _ _ _ _ _ _ _ _ => R8
  rename (∀ b o, _ → _) => up8
  refine' comp_range (n := 9) ?zhh ?zhs1 ?zhk ?zhr ?zhsm ?zhn ?zhnz ?zhtest ?zhelt ?zhQ
  case zhh => rfl
  case zhs1 => exact ⟨_, _, rfl⟩
  case zhk => exact up8
  case zhr => exact R8
  case zhsm => decide +kernel
  case zhn => decide +kernel
  case zhnz => decide
  case zhtest =>
    intro C j tv' s₃ m₃ E' hj hn hm hkk
    have cRx : s₃.heap.IsCell (L + 1 + 1 + 1) (some (.ref aR)) := ⟨oR, hkk _ _ cR1, cR⟩
    have hl3 := isList_keeps hlR1 hkk
    have hj1 : (1 : Int) + (j : Int) * 1 = ((j + 1 : Nat) : Int) := by omega
    rw [hj1] at hm ⊢
    obtain ⟨u5, hu5⟩ := ints_get hrs (j + 1) ((rcN D (j + 1) : Nat) : Int) (by rw [List.getElem?_map, List.getElem?_range (by omega)]; rfl)
    refine quiet_one ?_
    k_steps
    refine stop_ ?_
    refine' item_listM (v := .int ((rcN D (j + 1) : Nat) : Int) u5) hl3 ?h0 ?h1 ?h2 ?_
    case h0 => omega
    case h1 => omega
    case h2 => rw [Int.toNat_natCast]; simpa using hu5
    k_steps
    all_goals first
      | exact ⟨_, _, rfl, fun _ _ e => e⟩
      | (show _ = decide (0 < rcN D ((j + 1 : Nat) : Int).toNat); rw [Int.toNat_natCast]; apply Bool.eq_iff_iff.mpr; simp only [decide_eq_true_eq]; omega)
  case zhelt =>
    intro C j tv' s₃ m₃ E' hj htt hp hn hm hkk
    k_steps
    exact ⟨_, _, rfl, fun _ _ e => e⟩
  case zhQ =>
    intro D2 h2 tk2 ep2 ys2 ts2 hts2 F8 N8 up9 hneD2 hpair2 htk8
    have hys := paired_eq hpair2
    have hlen := hi_len hne hlt hts2
    rw [← hys] at hlen
    k_steps
    refine stop_ ?_
    have hK := cs_le hlt
    rw [Array.length_toList] at hlen
    refine len_list (items := ys2) ⟨_, (N8 _ (.head _)).1, rfl, _, rfl⟩ (by omega) ?_
    rw [hlen]
    k_steps
    refine stop_ ?_
    rename Fr _ _ _ _ => F12
    rename News _ _ _ _ => N12
    subst hLN
    refine hN _ _ _ x dx Ta T2 cs a0 a1 a2 a3 a4 a5 a6 k1 bs z _ ?_ F12 ?_ ?_ ?_ ?_ rfl hcs (fun q hq => N12 q (.tail _ hq)) _ rfl
    · first | assumption | exact Nat.succ_pos _ | (dsimp only; first | assumption | exact Nat.succ_pos _)
    · first | exact e1 | rfl
    · first | exact e2 | rfl
    · first | exact e3 | rfl
    · rfl

example : True := by
 k_with_none
 trivial
end
section
-- needs A9
theorem readsAll_ints {h : Heap} : ∀ {vs : List Value} {ns : List Int}, IntsAre vs ns → ReadsAll h vs (ns.map PyData.int) []
  | _, _, .nil => .nil
  | _, _, .cons n t r => readsAll_cons_val (.int _ _) (readsAll_ints r)
theorem lay_ints : ∀ ns : List Int, PyData.canLayAll0 (ns.map PyData.int) = true
  | [] => rfl
  | n :: ns => by
    rw [List.map_cons, PyData.canLayAll0, lay_ints ns]
    rfl
theorem depth_ints : ∀ ns : List Int, PyData.depthAll (ns.map PyData.int) = 0
  | [] => rfl
  | n :: ns => by
    rw [List.map_cons, PyData.depthAll, depth_ints ns]
    rfl
theorem ints_mapIdxF : ∀ (ts : List Tok) (k : Nat), IntsAre (ts.mapIdx fun i tk => Value.int (((i + k : Nat)) : Int) tk) ((List.range' k ts.length).map fun (v : Nat) => (v : Int))
  | [], _ => .nil
  | t :: ts, k => by
    rw [List.mapIdx_cons, List.length_cons, List.range'_succ, List.map_cons, Nat.zero_add]
    refine .cons _ _ ?_
    have := ints_mapIdxF ts (k + 1)
    simpa [Nat.add_assoc, Nat.add_comm 1] using this
theorem ints_mapIdx (ts : List Tok) : IntsAre (ts.mapIdx fun i tk => Value.int (0 + (i : Int) * 1) tk) ((List.range ts.length).map fun (v : Nat) => (v : Int)) := by
  have h := ints_mapIdxF ts 0
  rw [List.range_eq_range']
  simpa using h
section
variable {prog : Program} {w : World} {A : Around} {E : Value → Shared → Prop} {s : Shared} {Q : Value → Shared → Prop}
theorem ne_norm {a b a2 b2 : Addr} {vs ws : List Value} {ns : List Int} {k : Int} {t1 t2 : Tok} {e1 e2 e3 e4 : Nat} (h1 : s.heap.get? a = some { cls := .type "tuple", data := .seq #[.ref a2, .int k t1] e1 }) (h2 : s.heap.get? a2 = some { cls := .type "tuple", data := .seq vs.toArray e2 })
    (h3 : s.heap.get? b = some { cls := .type "tuple", data := .seq #[.ref b2, .int k t2] e3 }) (h4 : s.heap.get? b2 = some { cls := .type "tuple", data := .seq ws.toArray e4 }) (hv : IntsAre vs ns) (hw : IntsAre ws ns) (hu : A.units ≤ 1000) (h : Q (.bool false) s) :
    wpAny (model prog w) A (compareOp .NotEq (.ref a) (.ref b)) Q E s := by
  have r1 : Reads s.heap (.ref a) (.tuple [.tuple (ns.map PyData.int), .int k]) [] := reads_tuple_at h1 rfl rfl (readsAll_cons_val (reads_tuple_at h2 rfl rfl (readsAll_ints hv)) (readsAll_cons_val (.int _ _) .nil))
  have r2 : Reads s.heap (.ref b) (.tuple [.tuple (ns.map PyData.int), .int k]) [] := reads_tuple_at h3 rfl rfl (readsAll_cons_val (reads_tuple_at h4 rfl rfl (readsAll_ints hw)) (readsAll_cons_val (.int _ _) .nil))
  have hl : PyData.canLay0 (.tuple [.tuple (ns.map PyData.int), .int k]) = true := by
    show PyData.canLayAll0 _ = true
    rw [PyData.canLayAll0, show PyData.canLay0 (.tuple (ns.map PyData.int)) = true from lay_ints ns]
    rfl
  refine SeqAt.compareNe_reads r1 r2 hl hl ?_ ?_
  · have h2 : PyData.depth (.tuple [.tuple (ns.map PyData.int), .int k]) = max (PyData.depthAll (ns.map PyData.int) + 1) (max 0 0) + 1 := rfl
    rw [h2, depth_ints]
    have h3 := cLine_is
    omega
  · rw [show PyData.eqv _ _ = true from SeqAt.eqv_refl _ hl]
    exact h
theorem ne_t3i {a b : Addr} {x y z : Int} {t1 t2 t3 u1 u2 u3 : Tok} {e1 e2 : Nat} (h1 : s.heap.get? a = some { cls := .type "tuple", data := .seq #[.int x t1, .int y t2, .int z t3] e1 }) (h2 : s.heap.get? b = some { cls := .type "tuple", data := .seq #[.int x u1, .int y u2, .int z u3] e2 }) (hu : A.units ≤ 1000) (h : Q (.bool false) s) :
    wpAny (model prog w) A (compareOp .NotEq (.ref a) (.ref b)) Q E s := by
  have r1 : Reads s.heap (.ref a) (.tuple [.int x, .int y, .int z]) [] := reads_tuple_at h1 rfl rfl (readsAll_cons_val (.int _ _) (readsAll_cons_val (.int _ _) (readsAll_cons_val (.int _ _) .nil)))
  have r2 : Reads s.heap (.ref b) (.tuple [.int x, .int y, .int z]) [] := reads_tuple_at h2 rfl rfl (readsAll_cons_val (.int _ _) (readsAll_cons_val (.int _ _) (readsAll_cons_val (.int _ _) .nil)))
  refine SeqAt.compareNe_reads r1 r2 rfl rfl ?_ ?_
  · have h2 : PyData.depth (.tuple [.int x, .int y, .int z]) = 1 := rfl
    rw [h2]
    have h3 := cLine_is
    omega
  · rw [show PyData.eqv _ _ = true from SeqAt.eqv_refl _ rfl]
    exact h
end
example : True := by
 k_with_none
 k_with "pyIter ref" => (refine stop ?_)
 k_with "eval ListComp" => (refine stop ?_)
 k_with "eval Name" => ((k_here; k_dflt (refine' nameX_L ?zhF ?zhv ?_ ?zha ?zhb; (case zha => rfl); (case zhb => rfl); (case zhF => k_asm); (case zhv => first | exact rfl | assumption); k_whole)))
 k_with "eval Name" => ((k_here; k_dflt (first
  | (refine wpAny_Name (wpAny_loadName_local (env := compEnvC _ _ _ _) rfl rfl (by assumption) (by assumption) ?_) (by decide))
  | (refine wpAny_Name (wpAny_loadName_cell (env := compEnvC _ _ _ _) rfl rfl rfl (by assumption) ?_) (by decide)))))
 k_with "execs cons" => (first
  | ((try dsimp only); (with_reducible refine gen_pos ?_); intro tk' hp')
  | dsimp only)
 k_with "execs nil" => (first
  | ((try dsimp only); (with_reducible refine gen_pos ?_); intro tk' hp')
  | dsimp only)
 k_with "execs cons" => (((with_reducible show wpAny _ _ (execs (Stmt.For _ _ _ _ _ :: _) _) _ _ _); refine stop ?_))
 k_with "subscriptTail" => (refine stop ?_)
 k_with "subscriptTail Name Name ref int" => (refine stop ?_)
 k_with "call type:tuple" => (refine stop ?_)
 k_with "compareOp NotEq ref ref" => (refine stop ?_)
 k_with "call builtin:sum" => (refine stop ?_)
 k_with "call builtin:max" => (refine stop ?_)
 k_with "call ref" => (((with_reducible show wpAny _ _ (call (Value.ref 102) _ _) _ _ _); refine stop ?_))
 trivial
set_option pp.maxSteps 3000
theorem lawH (prog : Program) (w : World) (p : Program) (loose : List Str) (mg mb : Str → Option Value) (g : Heap) (L : Addr) (dA : Nat) (fr : Option (List Env)) (gs : Option (List Code)) (un : Nat) (cd : Value) (fa : Addr)
    (X : (hd.heap_1 w.params).In g) (T : TopRead p loose mg mb g) (hdp : dA + 60 < recursionLimit) (hun : un ≤ 900) (body : List Stmt) (sc : Scope) (hb : body = (bodyAt w.params 161).drop 13) (hsc : sc = scopeAt w.params 161)
    (aD aR aRow x dx Ta T2 : Addr) (vs rs lr cs : List Value) (D : List Nat) (oD oS oR : Obj) (TS : List (Addr × Obj)) (tl : Nat) (ep epR epr z : Nat) (kS kT tX kH a0 a1 a2 a3 a4 a5 a6 k1 : Tok) (bs : Bool) (h : Heap) (gn : Array GenState) (dr : Drawn) (tk : Nat) (os : OsState) (m : Str → Option Value) (E : Value → Shared → Prop) (Q : Flow → Shared → Prop)
    (hrs : IntsAre rs ((List.range 10).map fun (v : Nat) => ((rcN D v : Nat) : Int))) (hcs : IntsAre cs (csOf D)) (hne : D ≠ []) (hds : D.length ≤ 9) (hlt : ∀ d ∈ D, d < 8) (htl : tl ≤ 8) (htk : 0 < tk) (F : Fr g L h m)
    (N : News g L h (leadN w.params x dx Ta T2 (S (textL D tl)) tX tl (D.sum + D.length + tl) D.length cs a0 a1 a2 a3 a4 a5 a6 k1 bs z ++ (aRow, W.listOf lr.toArray epr) :: (aR, W.listOf rs.toArray epR) :: (aD, W.listOf vs.toArray ep) :: (L + 1 + 1 + 1, oR) :: (L + 1 + 1, oS) :: (L + 1, oD) :: TS))
    (cR : oR.data = .cell (some (.ref aR))) (cS : oS.data = .cell (some (.int (D.length : Int) kS)))
    (e1 : m "tail" = some (.int (tl : Int) kT)) (e2 : m "row" = some (.ref aRow)) (e3 : m "text" = some (.str (S (textL D tl)) tX)) (e4 : m "lead" = some (.ref x)) (e5 : m "high" = some (.int (((csOf D).length - 1 : Nat) : Int) kH))
    (hN : ∀ h tk m, 0 < tk → Fr g L h m → m "tail" = some (.int (tl : Int) kT) → m "row" = some (.ref aRow) → m "text" = some (.str (S (textL D tl)) tX) → m "lead" = some (.ref x) →
      News g L h (leadN w.params x dx Ta T2 (S (textL D tl)) tX tl (D.sum + D.length + tl) D.length cs a0 a1 a2 a3 a4 a5 a6 k1 bs z ++ (aRow, W.listOf lr.toArray epr) :: (aR, W.listOf rs.toArray epR) :: (aD, W.listOf vs.toArray ep) :: (L + 1 + 1 + 1, oR) :: (L + 1 + 1, oS) :: (L + 1, oD) :: TS) → ∀ body2, body2 = (bodyAt w.params 161).drop 15 →
      wpAny (model prog w) (({ handled := none, depth := dA, frames := fr, guards := gs, units := un } : Around).deeper (envOfC (Str.ofString "law") sc L fa cd))
      (execs body2 (envOfC (Str.ofString "law") sc L fa cd)) Q E ⟨h, gn, dr, tk, os⟩) :
    wpAny (model prog w) (({ handled := none, depth := dA, frames := fr, guards := gs, units := un } : Around).deeper (envOfC (Str.ofString "law") sc L fa cd))
      (execs body (envOfC (Str.ofString "law") sc L fa cd)) Q E ⟨h, gn, dr, tk, os⟩ := by
  conv at hb => rhs; whnf
  conv at hsc => rhs; whnf
  subst hb hsc
  unfold leadN at N
  simp only [List.cons_append, List.nil_append] at N
  refine gen_pos0 htk ?_
  intro tk1 htk1
  have hK1 := cs_pos hne
  have hK2 := cs_le hlt
  k_steps
  refine stop_ ?_
  rename Fr _ _ _ _ => F7
  rename News _ _ _ _ => N7
  have cR1 := (N7 (L + 1 + 1 + 1, oR) (by k_mem)).1
  have hlR1 := News.isList N7 (show (aR, W.listOf rs.toArray epR) ∈ _ from by k_mem)
  refine wpAny_with_toks (n := 1) (by first | assumption | exact Nat.succ_pos _) ?_
  refine comp_FN (fun _ => true) (fun a b => ∃ (k : Int) (u t : Tok), a = .int k u ∧ b = .int (((rcN D k.toNat : Nat) : Int) - ((rcN D (k.toNat + 1) : Nat) : Int)) t) F7 N7 (by rfl) (by decide) (by rfl) (by decide) (by rfl) ?_
  k_steps
  refine stop_ ?_
  rename IsRange _ _ _ _ _ _ _ _ => R8
  rename (∀ b o, _ → _) => up8
  refine' comp_range (n := (csOf D).length) ?zhh ?zhs1 ?zhk ?zhr ?zhsm ?zhn ?zhnz ?zhtest ?zhelt ?zhQ
  case zhh => rfl
  case zhs1 => exact ⟨_, _, rfl⟩
  case zhk => exact up8
  case zhr => exact R8
  case zhsm => exact small_one (by omega) (by omega) (by omega) (by omega)
  case zhn => rw [rangeSize_one]; split <;> omega
  case zhnz => omega
  case zhtest => intros; exact quiet_none
  case zhelt =>
    intro C j tv' s₃ m₃ E' hj htt hp hn hm hkk
    have cRx : s₃.heap.IsCell (L + 1 + 1 + 1) (some (.ref aR)) := ⟨oR, hkk _ _ cR1, cR⟩
    have hl3 := isList_keeps hlR1 hkk
    have hj1 : (0 : Int) + (j : Int) * 1 = ((j : Nat) : Int) := by omega
    rw [hj1] at hm ⊢
    obtain ⟨u5, hu5⟩ := ints_get hrs j ((rcN D j : Nat) : Int) (by rw [List.getElem?_map, List.getElem?_range (by omega)]; rfl)
    obtain ⟨u6, hu6⟩ := ints_get hrs (j + 1) ((rcN D (j + 1) : Nat) : Int) (by rw [List.getElem?_map, List.getElem?_range (by omega)]; rfl)
    k_steps
    refine stop_ ?_
    refine' item_listM (v := .int ((rcN D j : Nat) : Int) u5) hl3 ?h0 ?h1 ?h2 ?_
    case h0 => omega
    case h1 => omega
    case h2 => rw [Int.toNat_natCast]; simpa using hu5
    k_steps
    refine stop_ ?_
    refine' item_listM (v := .int ((rcN D (j + 1) : Nat) : Int) u6) hl3 ?h3 ?h4 ?h5 ?_
    case h3 => omega
    case h4 => omega
    case h5 =>
      have : ((j : Int) + 1).toNat = j + 1 := by omega
      rw [this]; simpa using hu6
    k_steps
    all_goals first
      | exact ⟨_, _, rfl, fun _ _ e => e⟩
      | exact ⟨_, _, _, rfl, by rw [Int.toNat_natCast]⟩
  case zhQ =>
    intro D2 h2 tk2 ep2 ys2 ts2 hts2 F8 N8 up9 hneD2 hpair2 htk8
    obtain ⟨ys2⟩ := ys2
    have hI2 : IntsAre ys2 (csOf D) := by
      rw [List.filter_eq_self.mpr fun _ _ => rfl] at hpair2
      have h1 : IntsAre (ts2.mapIdx fun i tk => Value.int (0 + (i : Int) * 1) tk) ((List.range (csOf D).length).map fun (v : Nat) => (v : Int)) := by
        rw [← hts2]
        exact ints_mapIdx ts2
      have h2 := paired_ints (f := fun k => ((rcN D k.toNat : Nat) : Int) - ((rcN D (k.toNat + 1) : Nat) : Int)) h1 hpair2
      rw [List.map_map] at h2
      rw [cs_eq D]
      exact h2
    k_steps
    refine stop_ ?_
    rename Fr _ _ _ _ => F9
    rename News _ _ _ _ => N9
    have hyl := hI2.length
    refine call_tuple_list (items := ⟨ys2⟩) (News.isList N9 (show (D2, W.listOf ⟨ys2⟩ ep2) ∈ _ by k_mem)) (fun h10 hk10 => ?_) (by rw [sizeLine_eq]; show ys2.length ≤ _; omega)
    have F10 := (F9.grownK hk10).push { cls := .type "tuple", data := .seq ⟨ys2⟩ }
    have N10 := News.push (F9.grownK hk10) (N9.grown hk10) { cls := .type "tuple", data := .seq ⟨ys2⟩ }
    generalize h10.objs.size = T10 at N10 ⊢
    generalize h10.push { cls := .type "tuple", data := .seq ⟨ys2⟩ } = h11 at F10 N10 ⊢
    clear F9 N9
    k_steps
    refine stop_ ?_
    rename Fr _ _ _ _ => F11
    rename News _ _ _ _ => N11
    refine ne_norm (N11 (Ta, _) (by k_mem)).1 (N11 (T2, _) (by k_mem)).1 (N11 _ (.head _)).1 (N11 (T10, _) (by k_mem)).1 hcs hI2 (by show un + 3 ≤ 1000; omega) ?_
    k_steps
    refine stop_ ?_
    show wpAny _ _ (call (.ref 102) [.ref x] []) _ _ _
    rename Fr _ _ _ _ => F12
    rename News _ _ _ _ => N12
    refine wpAny_with_toks (n := 1) (by first | assumption | exact Nat.succ_pos _) ?_
    refine call_back F12 N12 (long_c prog w _ _ p loose mg mb g X T rfl (by simp only [depth_deeper]; omega) F12.keep x dx Ta T2 (S (textL D tl)) tX tl (D.sum + D.length + tl) D.length cs (csOf D) a0 a1 a2 a3 a4 a5 a6 k1 bs z hcs (by omega) ?aLN) ?_
    case aLN =>
      intro q hq
      unfold leadN at hq
      simp only [List.mem_cons, List.not_mem_nil, or_false] at hq
      rcases hq with rfl | rfl | rfl | rfl
      · have := N12 (x, _) (by k_mem); exact ⟨this.1, this.2.2⟩
      · have := N12 (dx, _) (by k_mem); exact ⟨this.1, this.2.2⟩
      · have := N12 (Ta, _) (by k_mem); exact ⟨this.1, this.2.2⟩
      · have := N12 (T2, _) (by k_mem); exact ⟨this.1, this.2.2⟩
    rintro v13 h13 tk13 F13 N13 ⟨k13, rfl⟩ hk13
    have hmax : max (((csOf D).length : Int) - 1) (tl : Int) = (if (tl : Int) > (((csOf D).length - 1 : Nat) : Int) then (tl : Int) else (((csOf D).length - 1 : Nat) : Int)) := by
      split <;> omega
    rw [hmax]
    k_steps
    refine stop_ ?_
    rename Fr _ _ _ _ => F14
    rename News _ _ _ _ => N14
    refine' sumK (l := aR) (vs := rs) rfl F14 N14 ?zl hrs ?_
    case zl => exact News.isList N14 (by k_mem)
    intro h15 tk15 t15 F15 N15
    rw [cs_rc D hlt]
    k_steps
    refine stop_ ?_
    rename Fr _ _ _ _ => F16
    rename News _ _ _ _ => N16
    rw [show ((D.sum + D.length : Nat) : Int) + (tl : Int) = ((D.sum + D.length + tl : Nat) : Int) from (by omega)]
    refine wpAny_with_toks (n := 1) (by first | assumption | exact Nat.succ_pos _) ?_
    refine max_two_N rfl F16 N16 ?_
    intro h17 tk17 F17 N17 hk17
    generalize (if (tl : Int) > (((csOf D).length - 1 : Nat) : Int) then kT else kH) = t17
    k_steps
    refine stop_ ?_
    rename Fr _ _ _ _ => F18
    rename News _ _ _ _ => N18
    refine ne_t3i (N18 _ (.tail _ (.head _))).1 (N18 _ (.head _)).1 (by show un + 3 ≤ 1000; omega) ?_
    k_steps
    refine stop_ ?_
    rename Fr _ _ _ _ => F19
    rename News _ _ _ _ => N19
    refine hN _ _ _ ?_ F19 ?_ ?_ ?_ ?_ (fun q hq => N19 q (by
      unfold leadN at hq
      simp only [List.cons_append, List.nil_append] at hq
      repeat (first | exact hq | apply List.Mem.tail))) _ rfl
    · first | assumption | exact Nat.succ_pos _ | (dsimp only; first | assumption | exact Nat.succ_pos _)
    · first | exact e1 | rfl
    · first | exact e2 | rfl
    · first | exact e3 | rfl
    · first | exact e4 | rfl

example : True := by
 k_with_none
 trivial
end
section
-- needs P3 C7
theorem ilF_more (cs : List Int) (t : Int) (a k : Nat) (h : ∀ i, a + k ≤ i → cs.getD i 0 = 0) : ∀ j, ilF cs t a (k + j) = ilF cs t a k
  | 0 => rfl
  | j + 1 => by
    rw [← Nat.add_assoc, ilF_succ, ilF_more cs t a k h j, h (a + (k + j)) (by omega), Int.mul_zero, Int.add_zero]
theorem cs_get (D : List Nat) (i : Nat) : (csOf D).getD i 0 = ((cntF D i : Nat) : Int) := by
  have := fold_get D [] i
  unfold csOf
  rw [this]; simp
theorem cs_out (D : List Nat) (i : Nat) (h : (csOf D).length ≤ i) : (csOf D).getD i 0 = 0 := by
  rw [List.getD_eq_getElem?_getD, List.getElem?_eq_none h]; rfl
theorem il_eight {D : List Nat} (hlt : ∀ d ∈ D, d < 8) (t : Nat) : ilF (csOf D) (t : Int) t ((csOf D).length - t) = ilF (csOf D) (t : Int) t (8 - t) := by
  have hK := cs_le hlt
  have := ilF_more (csOf D) (t : Int) t ((csOf D).length - t) (fun i hi => cs_out D i (by omega)) (8 - t - ((csOf D).length - t))
  rw [show (csOf D).length - t + (8 - t - ((csOf D).length - t)) = 8 - t by omega] at this
  exact this.symm
/-- the steps by t -/
noncomputable def stepsF (D : List Nat) (t : Nat) : List Int := pickNums ((List.range 10).map fun v => ((rcN D v : Nat) : Int)) none none (some (t : Int))
theorem rc_zero (D : List Nat) : rcN D 0 = D.length := by
  unfold rcN
  rw [List.filter_eq_self.mpr fun d _ => by simp]
theorem rc_eight {D : List Nat} (hlt : ∀ d ∈ D, d < 8) (v : Nat) (hv : 8 ≤ v) : rcN D v = 0 := by
  rcases Nat.eq_zero_or_pos (rcN D v) with h | h
  · exact h
  · obtain ⟨d, h1, h2⟩ := rc_pos.mp h
    have := hlt d h1
    omega
theorem il_rc (D : List Nat) (hlt : ∀ d ∈ D, d < 8) (t : Nat) (hds : D.length ≤ 9) (h0 : 0 < t) (h9 : t ≤ 9) : ilF (csOf D) (t : Int) t (8 - t) + (D.length : Int) = (stepsF D t).sum ∧ 0 ≤ (stepsF D t).sum ∧ (stepsF D t).sum ≤ 100 := by
  have hg := cs_get D
  have c0 : cntF D 0 + rcN D 1 = rcN D 0 := cnt_rc D 0
  have c1 : cntF D 1 + rcN D 2 = rcN D 1 := cnt_rc D 1
  have c2 : cntF D 2 + rcN D 3 = rcN D 2 := cnt_rc D 2
  have c3 : cntF D 3 + rcN D 4 = rcN D 3 := cnt_rc D 3
  have c4 : cntF D 4 + rcN D 5 = rcN D 4 := cnt_rc D 4
  have c5 : cntF D 5 + rcN D 6 = rcN D 5 := cnt_rc D 5
  have c6 : cntF D 6 + rcN D 7 = rcN D 6 := cnt_rc D 6
  have c7 : cntF D 7 + rcN D 8 = rcN D 7 := cnt_rc D 7
  have z8 := rc_eight hlt 8 (by omega)
  have z9 := rc_eight hlt 9 (by omega)
  have r0 := rc_zero D
  generalize csOf D = cs at hg
  obtain rfl | rfl | rfl | rfl | rfl | rfl | rfl | rfl | rfl : t = 1 ∨ t = 2 ∨ t = 3 ∨ t = 4 ∨ t = 5 ∨ t = 6 ∨ t = 7 ∨ t = 8 ∨ t = 9 := by omega
  · have hi : sliceRange (sliceBounds none none (some ((1 : Nat) : Int)) 10).1 (sliceBounds none none (some ((1 : Nat) : Int)) 10).2.1 (sliceBounds none none (some ((1 : Nat) : Int)) 10).2.2 = [0, 1, 2, 3, 4, 5, 6, 7, 8, 9] := by decide +kernel
    have e : stepsF D 1 = [((rcN D 0 : Nat) : Int), ((rcN D 1 : Nat) : Int), ((rcN D 2 : Nat) : Int), ((rcN D 3 : Nat) : Int), ((rcN D 4 : Nat) : Int), ((rcN D 5 : Nat) : Int), ((rcN D 6 : Nat) : Int), ((rcN D 7 : Nat) : Int), ((rcN D 8 : Nat) : Int), ((rcN D 9 : Nat) : Int)] := by
      unfold stepsF pickNums
      rw [List.length_map, List.length_range, hi]
      rfl
    rw [e]
    simp only [ilF, hg, List.sum_cons, List.sum_nil]
    simp
    omega
  · have hi : sliceRange (sliceBounds none none (some ((2 : Nat) : Int)) 10).1 (sliceBounds none none (some ((2 : Nat) : Int)) 10).2.1 (sliceBounds none none (some ((2 : Nat) : Int)) 10).2.2 = [0, 2, 4, 6, 8] := by decide +kernel
    have e : stepsF D 2 = [((rcN D 0 : Nat) : Int), ((rcN D 2 : Nat) : Int), ((rcN D 4 : Nat) : Int), ((rcN D 6 : Nat) : Int), ((rcN D 8 : Nat) : Int)] := by
      unfold stepsF pickNums
      rw [List.length_map, List.length_range, hi]
      rfl
    rw [e]
    simp only [ilF, hg, List.sum_cons, List.sum_nil]
    simp
    omega
  · have hi : sliceRange (sliceBounds none none (some ((3 : Nat) : Int)) 10).1 (sliceBounds none none (some ((3 : Nat) : Int)) 10).2.1 (sliceBounds none none (some ((3 : Nat) : Int)) 10).2.2 = [0, 3, 6, 9] := by decide +kernel
    have e : stepsF D 3 = [((rcN D 0 : Nat) : Int), ((rcN D 3 : Nat) : Int), ((rcN D 6 : Nat) : Int), ((rcN D 9 : Nat) : Int)] := by
      unfold stepsF pickNums
      rw [List.length_map, List.length_range, hi]
      rfl
    rw [e]
    simp only [ilF, hg, List.sum_cons, List.sum_nil]
    simp
    omega
  · have hi : sliceRange (sliceBounds none none (some ((4 : Nat) : Int)) 10).1 (sliceBounds none none (some ((4 : Nat) : Int)) 10).2.1 (sliceBounds none none (some ((4 : Nat) : Int)) 10).2.2 = [0, 4, 8] := by decide +kernel
    have e : stepsF D 4 = [((rcN D 0 : Nat) : Int), ((rcN D 4 : Nat) : Int), ((rcN D 8 : Nat) : Int)] := by
      unfold stepsF pickNums
      rw [List.length_map, List.length_range, hi]
      rfl
    rw [e]
    simp only [ilF, hg, List.sum_cons, List.sum_nil]
    simp
    omega
  · have hi : sliceRange (sliceBounds none none (some ((5 : Nat) : Int)) 10).1 (sliceBounds none none (some ((5 : Nat) : Int)) 10).2.1 (sliceBounds none none (some ((5 : Nat) : Int)) 10).2.2 = [0, 5] := by decide +kernel
    have e : stepsF D 5 = [((rcN D 0 : Nat) : Int), ((rcN D 5 : Nat) : Int)] := by
      unfold stepsF pickNums
      rw [List.length_map, List.length_range, hi]
      rfl
    rw [e]
    simp only [ilF, hg, List.sum_cons, List.sum_nil]
    simp
    omega
  · have hi : sliceRange (sliceBounds none none (some ((6 : Nat) : Int)) 10).1 (sliceBounds none none (some ((6 : Nat) : Int)) 10).2.1 (sliceBounds none none (some ((6 : Nat) : Int)) 10).2.2 = [0, 6] := by decide +kernel
    have e : stepsF D 6 = [((rcN D 0 : Nat) : Int), ((rcN D 6 : Nat) : Int)] := by
      unfold stepsF pickNums
      rw [List.length_map, List.length_range, hi]
      rfl
    rw [e]
    simp only [ilF, hg, List.sum_cons, List.sum_nil]
    simp
    omega
  · have hi : sliceRange (sliceBounds none none (some ((7 : Nat) : Int)) 10).1 (sliceBounds none none (some ((7 : Nat) : Int)) 10).2.1 (sliceBounds none none (some ((7 : Nat) : Int)) 10).2.2 = [0, 7] := by decide +kernel
    have e : stepsF D 7 = [((rcN D 0 : Nat) : Int), ((rcN D 7 : Nat) : Int)] := by
      unfold stepsF pickNums
      rw [List.length_map, List.length_range, hi]
      rfl
    rw [e]
    simp only [ilF, hg, List.sum_cons, List.sum_nil]
    simp
    omega
  · have hi : sliceRange (sliceBounds none none (some ((8 : Nat) : Int)) 10).1 (sliceBounds none none (some ((8 : Nat) : Int)) 10).2.1 (sliceBounds none none (some ((8 : Nat) : Int)) 10).2.2 = [0, 8] := by decide +kernel
    have e : stepsF D 8 = [((rcN D 0 : Nat) : Int), ((rcN D 8 : Nat) : Int)] := by
      unfold stepsF pickNums
      rw [List.length_map, List.length_range, hi]
      rfl
    rw [e]
    simp only [ilF, hg, List.sum_cons, List.sum_nil]
    simp [ilF]
    omega
  · have hi : sliceRange (sliceBounds none none (some ((9 : Nat) : Int)) 10).1 (sliceBounds none none (some ((9 : Nat) : Int)) 10).2.1 (sliceBounds none none (some ((9 : Nat) : Int)) 10).2.2 = [0, 9] := by decide +kernel
    have e : stepsF D 9 = [((rcN D 0 : Nat) : Int), ((rcN D 9 : Nat) : Int)] := by
      unfold stepsF pickNums
      rw [List.length_map, List.length_range, hi]
      rfl
    rw [e]
    simp only [ilF, hg, List.sum_cons, List.sum_nil]
    simp [ilF]
    omega
theorem cs_bound (D : List Nat) : ∀ v ∈ csOf D, 0 ≤ v ∧ v ≤ (D.length : Int) := by
  intro v hv
  rw [cs_eq D] at hv
  obtain ⟨i, _, rfl⟩ := List.mem_map.mp hv
  have h1 := cnt_rc D i
  have h2 : rcN D i ≤ D.length := List.length_filter_le _ _
  omega
end
section
-- needs A10 P4
example : True := by
 k_with_none
 k_with "exec For Name Call cons nil" => (refine stop ?_)
 k_with "pyIter ref" => (refine stop ?_)
 k_with "eval Name" => ((k_here; k_dflt (refine' nameX_L ?zhF ?zhv ?_ ?zha ?zhb; (case zha => rfl); (case zhb => rfl); (case zhF => k_asm); (case zhv => first | exact rfl | assumption); k_whole)))
 k_with "execs cons" => (first
  | ((try dsimp only); (with_reducible refine gen_pos ?_); intro tk' hp')
  | dsimp only)
 k_with "execs nil" => (first
  | ((try dsimp only); (with_reducible refine gen_pos ?_); intro tk' hp')
  | dsimp only)
 k_with "subscriptTail" => (refine stop ?_)
 k_with "subscriptTail Name Slice ref ref" => (refine stop ?_)
 k_with "compareOp NotEq int int" => (refine stop ?_)
 k_with "call builtin:sum" => (refine stop ?_)
 k_with "call ref" => (((with_reducible show wpAny _ _ (call (Value.ref 109) _ _) _ _ _); refine stop ?_))
 trivial
set_option pp.maxSteps 3000
theorem lawI (prog : Program) (w : World) (p : Program) (loose : List Str) (mg mb : Str → Option Value) (g : Heap) (L : Addr) (dA : Nat) (fr : Option (List Env)) (gs : Option (List Code)) (un : Nat) (cd : Value) (fa : Addr)
    (X : (hd.heap_1 w.params).In g) (T : TopRead p loose mg mb g) (hdp : dA + 60 < recursionLimit) (hun : un ≤ 900) (body : List Stmt) (sc : Scope) (hb : body = (bodyAt w.params 161).drop 15) (hsc : sc = scopeAt w.params 161)
    (aD aR aRow x dx Ta T2 : Addr) (vs rs lr cs : List Value) (D : List Nat) (oD oS oR : Obj) (TS : List (Addr × Obj)) (tl : Nat) (ep epR epr z : Nat) (kT tX a0 a1 a2 a3 a4 a5 a6 k1 : Tok) (bs : Bool) (h : Heap) (gn : Array GenState) (dr : Drawn) (tk : Nat) (os : OsState) (m : Str → Option Value) (E : Value → Shared → Prop) (Q : Flow → Shared → Prop)
    (hrs : IntsAre rs ((List.range 10).map fun (v : Nat) => ((rcN D v : Nat) : Int))) (hcs : IntsAre cs (csOf D)) (hds : D.length ≤ 9) (hlt : ∀ d ∈ D, d < 8) (htl : tl ≤ 8) (htk : 0 < tk) (F : Fr g L h m)
    (N : News g L h (leadN w.params x dx Ta T2 (S (textL D tl)) tX tl (D.sum + D.length + tl) D.length cs a0 a1 a2 a3 a4 a5 a6 k1 bs z ++ (aRow, W.listOf lr.toArray epr) :: (aR, W.listOf rs.toArray epR) :: (aD, W.listOf vs.toArray ep) :: (L + 1 + 1 + 1, oR) :: (L + 1 + 1, oS) :: (L + 1, oD) :: TS))
    (cR : oR.data = .cell (some (.ref aR)))
    (e1 : m "tail" = some (.int (tl : Int) kT)) (e2 : m "row" = some (.ref aRow)) (e3 : m "text" = some (.str (S (textL D tl)) tX)) (e4 : m "lead" = some (.ref x))
    (hE : PassesOwn (model prog w) (({ handled := none, depth := dA, frames := fr, guards := gs, units := un } : Around).deeper (envOfC (Str.ofString "law") sc L fa cd)) (envOfC (Str.ofString "law") sc L fa cd) E)
    (hN : ∀ h tk m, 0 < tk → Fr g L h m → m "row" = some (.ref aRow) → m "text" = some (.str (S (textL D tl)) tX) →
      News g L h ((aRow, W.listOf lr.toArray epr) :: (aR, W.listOf rs.toArray epR) :: (aD, W.listOf vs.toArray ep) :: (L + 1 + 1 + 1, oR) :: (L + 1 + 1, oS) :: (L + 1, oD) :: TS) → ∀ body2, body2 = (bodyAt w.params 161).drop 16 →
      wpAny (model prog w) (({ handled := none, depth := dA, frames := fr, guards := gs, units := un } : Around).deeper (envOfC (Str.ofString "law") sc L fa cd))
      (execs body2 (envOfC (Str.ofString "law") sc L fa cd)) Q E ⟨h, gn, dr, tk, os⟩) :
    wpAny (model prog w) (({ handled := none, depth := dA, frames := fr, guards := gs, units := un } : Around).deeper (envOfC (Str.ofString "law") sc L fa cd))
      (execs body (envOfC (Str.ofString "law") sc L fa cd)) Q E ⟨h, gn, dr, tk, os⟩ := by
  conv at hb => rhs; whnf
  conv at hsc => rhs; whnf
  subst hb hsc
  unfold leadN at N
  simp only [List.cons_append, List.nil_append] at N
  refine gen_pos0 htk ?_
  intro tk1 htk1
  have hK2 := cs_le hlt
  k_steps
  refine stop_ ?_
  refine wpAny_For ?_
  refine wpAny_with_toks (n := 1) (by first | assumption | exact Nat.succ_pos _) ?_
  k_steps
  refine stop_ ?_
  rename Fr _ _ _ _ => F3
  rename News _ _ _ _ => N3
  rename IsRange _ _ _ _ _ _ _ _ => R3
  refine' for_rangeB (n := 9) (a := 1) (b := 10) (c := 1) ?F ?N ?R ?hsm ?hn
    (fun i m nw => m "tail" = some (.int (tl : Int) kT) ∧ m "row" = some (.ref aRow) ∧ m "text" = some (.str (S (textL D tl)) tX) ∧ m "lead" = some (.ref x) ∧
      nw = leadN w.params x dx Ta T2 (S (textL D tl)) tX tl (D.sum + D.length + tl) D.length cs a0 a1 a2 a3 a4 a5 a6 k1 bs z ++ (aRow, W.listOf lr.toArray epr) :: (aR, W.listOf rs.toArray epR) :: (aD, W.listOf vs.toArray ep) :: (L + 1 + 1 + 1, oR) :: (L + 1 + 1, oS) :: (L + 1, oD) :: TS)
    ?hJ ?hh ?hpos ?turn ?done ?hE
  case F => exact F3
  case N => exact N3
  case R => exact R3
  case hsm => decide +kernel
  case hn => decide +kernel
  case hh => rfl
  case hE => exact hE
  case hpos => first | assumption | exact Nat.succ_pos _ | (dsimp only; first | assumption | exact Nat.succ_pos _ | omega)
  case hJ => exact ⟨_, ⟨e1, e2, e3, e4, rfl⟩, fun q hq => by
    unfold leadN at hq
    simpa only [List.cons_append, List.nil_append] using hq⟩
  case turn =>
    clear F3 N3 e1 e2 e3 e4 R3
    rintro i m nw h tk I oI tv hi hp0 ⟨e1, e2, e3, e4, rfl⟩ hne F4 N4
    unfold leadN at N4 hne
    simp only [List.cons_append, List.nil_append] at N4 hne
    have hii : (1 : Int) + (i : Int) * 1 = ((i + 1 : Nat) : Int) := by omega
    rw [hii]
    obtain ⟨t, ht⟩ : ∃ t, t = i + 1 := ⟨_, rfl⟩
    rw [← ht]
    dsimp only
    k_steps
    refine stop_ ?_
    rename Fr _ _ _ _ => F5
    rename News _ _ _ _ => N5
    refine wpAny_with_toks (n := 1) (by first | assumption | exact Nat.succ_pos _) ?_
    refine call_back F5 N5 (ind_c prog w _ _ p loose mg mb g X T rfl (by simp only [depth_deeper]; omega) F5.keep x dx Ta T2 (S (textL D tl)) tX tl (D.sum + D.length + tl) D.length cs (csOf D) a0 a1 a2 a3 a4 a5 a6 k1 bs z hcs (by omega) ?aLN t tv (by omega) (fun v hv => by have := cs_bound D v hv; omega) (by omega)) ?_
    case aLN =>
      intro q hq
      unfold leadN at hq
      simp only [List.mem_cons, List.not_mem_nil, or_false] at hq
      rcases hq with rfl | rfl | rfl | rfl
      · have := N5 (x, _) (by k_mem); exact ⟨this.1, this.2.2⟩
      · have := N5 (dx, _) (by k_mem); exact ⟨this.1, this.2.2⟩
      · have := N5 (Ta, _) (by k_mem); exact ⟨this.1, this.2.2⟩
      · have := N5 (T2, _) (by k_mem); exact ⟨this.1, this.2.2⟩
    rintro v6 h6 tk6 F6 N6 ⟨k6, rfl⟩ hk6
    have hil := il_rc D hlt t hds (by omega) (by omega)
    rw [← il_eight hlt t] at hil
    rw [hil.1]
    k_steps
    refine stop_ ?_
    rename Fr _ _ _ _ => F7
    rename News _ _ _ _ => N7
    dsimp only
    refine' slice_any (s := ⟨_, gn, dr, _, os⟩) F7 N7 ?zl .none .none (.int _ _) ?z0 ?_ ?zs ?zz
    case zl => exact News.isList N7 (show (aR, W.listOf rs.toArray epR) ∈ _ by k_mem)
    case zs => with_unfolding_all rfl
    case zz =>
      have := hrs.length
      rw [List.size_toArray, this, sizeLine_eq]; simp
    case z0 => intro e; injection e with e; omega
    intro D8 h8 F8 N8 l8
    have hI8 := hrs.pick none none (some (t : Int))
    k_steps
    refine stop_ ?_
    rename Fr _ _ _ _ => F9
    rename News _ _ _ _ => N9
    refine wpAny_with_toks (n := 1) (by first | assumption | exact Nat.succ_pos _ | (dsimp only; first | assumption | exact Nat.succ_pos _)) ?_
    refine' sumK (l := D8) (vs := (slicePick rs.toArray none none (some (t : Int))).toList) rfl F9 N9 ?zl2 hI8 ?_
    case zl2 => exact News.isList N9 (by k_mem)
    intro h10 tk10 t10 F10 N10 hk10
    have hst : (pickNums ((List.range 10).map fun v => ((rcN D v : Nat) : Int)) none none (some (t : Int))).sum = (stepsF D t).sum := rfl
    rw [hst]
    generalize (stepsF D t).sum = sS at hil ⊢
    have hs0 : 0 ≤ sS := hil.2.1
    have hs1 : sS ≤ 100 := hil.2.2
    clear hil hst
    have htt : t ≤ 9 := by omega
    clear ht hii
    k_steps
    refine stop_ ?_
    refine neII_is ?_
    k_steps
    rename Fr _ _ _ _ => F11
    rename News _ _ _ _ => N11
    refine TurnEnd.nextJ F11 N11 (by k_mem) ⟨_, ⟨e1, e2, e3, e4, rfl⟩, fun q hq => ?_⟩
    unfold leadN at hq
    simp only [List.cons_append, List.nil_append] at hq
    exact ⟨by repeat (first | exact hq | apply List.Mem.tail), hne q hq⟩
  case done =>
    rintro m nw h tk hp0 ⟨e1, e2, e3, e4, rfl⟩ F4 N4
    exact hN h tk m hp0 F4 e2 e3 (fun q hq => N4 q (List.mem_append_right _ hq)) _ rfl

example : True := by
 k_with_none
 trivial
end
section
-- needs A11 D6
example : True := by
 k_with_none
 k_with "exec For Name Call cons nil" => (refine stop ?_)
 k_with "pyIter ref" => (refine stop ?_)
 k_with "eval Name" => ((k_here; k_dflt (refine' nameX_L ?zhF ?zhv ?_ ?zha ?zhb; (case zha => rfl); (case zhb => rfl); (case zhF => k_asm); (case zhv => first | exact rfl | assumption); k_whole)))
 k_with "execs cons" => (first
  | ((try dsimp only); (with_reducible refine gen_pos ?_); intro tk' hp')
  | dsimp only)
 k_with "execs nil" => (first
  | ((try dsimp only); (with_reducible refine gen_pos ?_); intro tk' hp')
  | dsimp only)
 k_with "subscriptTail" => (refine stop ?_)
 k_with "subscriptTail Name Slice ref ref" => (refine stop ?_)
 k_with "call ref" => (((with_reducible show wpAny _ _ (call (Value.ref 156) _ _) _ _ _); refine stop ?_))
 trivial
set_option pp.maxSteps 3000
theorem three_of {l : List Value} {d0 d1 d2 : Nat} (h : IntsAre l [((d0 : Nat) : Int), ((d1 : Nat) : Int), ((d2 : Nat) : Int)]) : ∃ t0 t1 t2, l = [.int ((d0 : Nat) : Int) t0, .int ((d1 : Nat) : Int) t1, .int ((d2 : Nat) : Int) t2] := by
  cases h with | cons _ t0 h => ?_
  cases h with | cons _ t1 h => ?_
  cases h with | cons _ t2 h => ?_
  cases h
  exact ⟨t0, t1, t2, rfl⟩
theorem drop_three {D : List Nat} {i q : Nat} (hq : D.length = 3 * q) (hi : i < q) : ∃ d0 d1 d2, d0 ∈ D ∧ d1 ∈ D ∧ d2 ∈ D ∧ ((D.map fun d => ((d : Nat) : Int)).drop (3 * i)).take 3 = [((d0 : Nat) : Int), ((d1 : Nat) : Int), ((d2 : Nat) : Int)] := by
  have h0 : 3 * i < D.length := by omega
  have h1 : 3 * i + 1 < D.length := by omega
  have h2 : 3 * i + 2 < D.length := by omega
  refine ⟨D[3 * i], D[3 * i + 1], D[3 * i + 2], List.getElem_mem h0, List.getElem_mem h1, List.getElem_mem h2, ?_⟩
  rw [← List.map_drop, ← List.map_take]
  rw [List.drop_eq_getElem_cons h0, List.drop_eq_getElem_cons h1, List.drop_eq_getElem_cons h2]
  rfl
theorem lawK (prog : Program) (w : World) (p : Program) (loose : List Str) (mg mb : Str → Option Value) (g : Heap) (L : Addr) (dA : Nat) (fr : Option (List Env)) (gs : Option (List Code)) (un : Nat) (cd : Value) (fa : Addr)
    (X : (hd.heap_1 w.params).In g) (T : TopRead p loose mg mb g) (hdp : dA + 60 < recursionLimit) (hun : un ≤ 900) (body : List Stmt) (sc : Scope) (hb : body = (bodyAt w.params 161).drop 17) (hsc : sc = scopeAt w.params 161)
    (aD : Addr) (vs : List Value) (D : List Nat) (q : Nat) (oD oS : Obj) (TS : List (Addr × Obj)) (ep : Nat) (kS : Tok) (h : Heap) (gn : Array GenState) (dr : Drawn) (tk : Nat) (os : OsState) (m : Str → Option Value) (E : Value → Shared → Prop) (Q : Flow → Shared → Prop)
    (hvs : IntsAre vs (D.map fun d => ((d : Nat) : Int))) (hq : D.length = 3 * q) (hq3 : q ≤ 3) (hlt : ∀ d ∈ D, d < 8) (htk : 0 < tk) (F : Fr g L h m)
    (N : News g L h ((aD, W.listOf vs.toArray ep) :: (L + 1 + 1, oS) :: (L + 1, oD) :: TS))
    (cD : oD.data = .cell (some (.ref aD))) (cS : oS.data = .cell (some (.int (D.length : Int) kS)))
    (hE : PassesOwn (model prog w) (({ handled := none, depth := dA, frames := fr, guards := gs, units := un } : Around).deeper (envOfC (Str.ofString "law") sc L fa cd)) (envOfC (Str.ofString "law") sc L fa cd) E)
    (hQ : ∀ h' tk' m', 0 < tk' → Fr g L h' m' → Q (.ret (.bool true)) ⟨h', gn, dr, tk', os⟩) :
    wpAny (model prog w) (({ handled := none, depth := dA, frames := fr, guards := gs, units := un } : Around).deeper (envOfC (Str.ofString "law") sc L fa cd))
      (execs body (envOfC (Str.ofString "law") sc L fa cd)) Q E ⟨h, gn, dr, tk, os⟩ := by
  conv at hb => rhs; whnf
  conv at hsc => rhs; whnf
  subst hb hsc
  refine gen_pos0 htk ?_
  intro tk1 htk1
  k_steps
  refine stop_ ?_
  refine wpAny_For ?_
  refine wpAny_with_toks (n := 1) (by first | assumption | exact Nat.succ_pos _) ?_
  k_steps
  refine stop_ ?_
  rename Fr _ _ _ _ => F3
  rename News _ _ _ _ => N3
  rename IsRange _ _ _ _ _ _ _ _ => R3
  have hq9 : D.length = 0 ∨ D.length = 3 ∨ D.length = 6 ∨ D.length = 9 := by omega
  refine' for_rangeB (n := q) (a := 0) (b := (D.length : Int)) (c := 3) ?F ?N ?R ?hsm ?hn
    (fun i m nw => nw = (aD, W.listOf vs.toArray ep) :: (L + 1 + 1, oS) :: (L + 1, oD) :: TS)
    ?hJ ?hh ?hpos ?turn ?done ?hE
  case F => exact F3
  case N => exact N3
  case R => exact R3
  case hsm => rcases hq9 with e | e | e | e <;> rw [e] <;> decide +kernel
  case hn =>
    rcases hq9 with e | e | e | e
    · have : q = 0 := by omega
      rw [e, this]; decide +kernel
    · have : q = 1 := by omega
      rw [e, this]; decide +kernel
    · have : q = 2 := by omega
      rw [e, this]; decide +kernel
    · have : q = 3 := by omega
      rw [e, this]; decide +kernel
  case hh => rfl
  case hE => exact hE
  case hpos => first | assumption | exact Nat.succ_pos _ | (dsimp only; first | assumption | exact Nat.succ_pos _ | omega)
  case hJ => exact ⟨_, rfl, fun q hq => hq⟩
  case turn =>
    clear F3 N3 R3
    rintro i m nw h tk I oI tv hi hp0 rfl hne F4 N4
    have hii : (0 : Int) + (i : Int) * 3 = ((3 * i : Nat) : Int) := by omega
    rw [hii]
    dsimp only
    k_steps
    refine stop_ ?_
    dsimp only
    rename Fr _ _ _ _ => F7
    rename News _ _ _ _ => N7
    refine' slice_any (s := ⟨_, gn, dr, _, os⟩) F7 N7 ?zl (.int _ _) (.int _ _) .none (fun e => nomatch e) ?_ ?zs ?zz
    case zl => exact News.isList N7 (show (aD, W.listOf vs.toArray ep) ∈ _ by k_mem)
    case zs => with_unfolding_all rfl
    case zz =>
      have := hvs.length
      rw [List.size_toArray, this, List.length_map, sizeLine_eq]; omega
    intro D8 h8 F8 N8 l8
    obtain ⟨d0, d1, d2, m0, m1, m2, hd⟩ := drop_three hq hi
    have hI8 := kmk_run (x := ((3 * i : Nat) : Int)) (y := ((3 * i : Nat) : Int) + 3) hvs (by omega) (by omega)
    rw [Int.toNat_natCast, show (((3 * i : Nat) : Int) + 3).toNat = 3 * i + 3 by omega, List.length_map, show min (3 * i + 3) D.length - 3 * i = 3 by omega, hd] at hI8
    obtain ⟨t0, t1, t2, h3⟩ := three_of hI8
    have h3' : slicePick vs.toArray (some ((3 * i : Nat) : Int)) (some (((3 * i : Nat) : Int) + 3)) none = #[.int ((d0 : Nat) : Int) t0, .int ((d1 : Nat) : Int) t1, .int ((d2 : Nat) : Int) t2] := by
      rw [← Array.toArray_toList (xs := slicePick _ _ _ _), h3]
    rw [h3'] at N8
    clear h3 h3' hI8
    k_steps
    refine stop_ ?_
    rename Fr _ _ _ _ => F9
    rename News _ _ _ _ => N9
    refine call_backT (by first | assumption | exact Nat.succ_pos _ | (dsimp only; first | assumption | exact Nat.succ_pos _)) F9 N9 (col_c prog w _ _ p loose mg mb (X.keeps F9.keep) (T.keeps F9.keep) rfl (by simp only [depth_deeper]; omega) (by show un + 3 ≤ 1000; omega) D8 d0 d1 d2 t0 t1 t2 (by first | assumption | exact Nat.succ_pos _ | (dsimp only; first | assumption | exact Nat.succ_pos _)) (News.isList N9 (by k_mem)) (hlt _ m0) (hlt _ m1) (hlt _ m2)) ?_
    rintro v10 h10 tk10 htk10 F10 N10 rfl
    k_steps
    rename Fr _ _ _ _ => F11
    rename News _ _ _ _ => N11
    refine TurnEnd.nextJ F11 N11 (by k_mem) ⟨_, rfl, fun q hq => ?_⟩
    exact ⟨by repeat (first | exact hq | apply List.Mem.tail), hne q hq⟩
  case done =>
    rintro m nw h tk hp0 rfl F4 N4
    k_steps
    exact hQ h tk m hp0 F4

example : True := by
 k_with_none
 trivial
end
section
-- needs P3 C5
theorem at_iff {l x : List Nat} {i : Nat} : StrLaws.At (S l) (S x) (S l).length i ↔ i + x.length ≤ l.length ∧ (l.drop i).take x.length = x := by
  unfold StrLaws.At
  rw [StrLaws.subAt_eq, S_len, S_len]
  show _ ∧ (((l.drop i).take x.length == x) = true) ↔ _
  rw [beq_iff_eq]
theorem occ1_some {l x : List Nat} {p i : Nat} (h1 : p ≤ i) (h2 : i + x.length ≤ l.length ∧ (l.drop i).take x.length = x) (h3 : ∀ k, p ≤ k → k < i → ¬ (k + x.length ≤ l.length ∧ (l.drop k).take x.length = x)) :
    ∃ r, Builtin.Str.occurrences (S l) (S x) p (S l).length 1 = i :: r := by
  rcases StrLaws.occ_head_from (S l) (S x) p 1 (Nat.le_refl _) with ⟨_, hn⟩ | ⟨j, r, e, h4, h5, h6⟩
  · exact absurd (at_iff.mpr h2) (hn i h1)
  · rcases Nat.lt_trichotomy i j with h | h | h
    · exact absurd (at_iff.mpr h2) (h6 i h1 h)
    · exact ⟨r, h ▸ e⟩
    · exact absurd (at_iff.mp h5) (h3 j h4 h)
theorem occ1_none {l x : List Nat} {p : Nat} (h3 : ∀ k, p ≤ k → ¬ (k + x.length ≤ l.length ∧ (l.drop k).take x.length = x)) : Builtin.Str.occurrences (S l) (S x) p (S l).length 1 = [] := by
  rcases StrLaws.occ_head_from (S l) (S x) p 1 (Nat.le_refl _) with ⟨e, _⟩ | ⟨j, r, e, h4, h5, h6⟩
  · exact e
  · exact absurd (at_iff.mp h5) (h3 j h4)
/-- v blanks and a tab -/
noncomputable def spT (v : Nat) : List Nat := List.replicate v 32 ++ [9]
theorem spT_len (v : Nat) : (spT v).length = v + 1 := by simp [spT]
theorem spT_at {v : Nat} {T : List Nat} : T.take (v + 1) = spT v ↔ (∀ j, j < v → T[j]? = some 32) ∧ T[v]? = some 9 := by
  constructor
  · intro h
    have hg : ∀ j, j < v + 1 → T[j]? = (spT v)[j]? := fun j hj => by rw [← h, List.getElem?_take_of_lt hj]
    refine ⟨fun j hj => ?_, ?_⟩
    · rw [hg j (by omega)]; unfold spT
      rw [List.getElem?_append_left (by simpa using hj), List.getElem?_replicate]; simp [hj]
    · rw [hg v (by omega)]; unfold spT
      rw [List.getElem?_append_right (by simp)]; simp
  · rintro ⟨h1, h2⟩
    apply List.ext_getElem?
    intro j
    by_cases hj : j < v + 1
    · rw [List.getElem?_take_of_lt hj]
      unfold spT
      by_cases hv : j < v
      · rw [h1 j hv, List.getElem?_append_left (by simpa using hv), List.getElem?_replicate]; simp [hv]
      · have : j = v := by omega
        subst this
        rw [h2, List.getElem?_append_right (by simp)]; simp
    · rw [List.getElem?_eq_none (by rw [List.length_take]; omega), List.getElem?_eq_none (by rw [spT_len]; omega)]
theorem sp_get {d : Nat} {T : List Nat} {j : Nat} : (List.replicate d 32 ++ 9 :: T)[j]? = if j < d then some 32 else if j = d then some 9 else T[j - d - 1]? := by
  by_cases h : j < d
  · rw [if_pos h, List.getElem?_append_left (by simpa using h), List.getElem?_replicate]; simp [h]
  · rw [if_neg h, List.getElem?_append_right (by simp; omega), List.length_replicate]
    by_cases h2 : j = d
    · subst h2; simp
    · rw [if_neg h2]
      obtain ⟨e, he⟩ : ∃ e, j - d = e + 1 := ⟨j - d - 1, by omega⟩
      rw [he, List.getElem?_cons_succ]
      congr 1
theorem goF_emp {l : List Nat} {p : Nat} (hp : p ≤ l.length) : goF (S l) [Str.empty] p = true := by
  have e : Str.empty = S [] := rfl
  rw [e]
  obtain ⟨r, h⟩ := occ1_some (l := l) (x := []) (p := p) (i := p) (Nat.le_refl _) ⟨by simpa using hp, by simp⟩ (fun k h1 h2 => by omega)
  rw [goF, h]
  rfl
theorem go_pieces (v : Nat) (rest : List Nat) (hrest : ∀ j : Nat, rest[j]? ≠ some 9) : ∀ (D : List Nat) (k : Nat) (pre : List Nat), goF (S (pre ++ ((D.map pieceL).flatten ++ rest))) (List.replicate k (S (spT v)) ++ [Str.empty]) pre.length = decide (k ≤ rcN D v)
  | D, 0, pre => by
    rw [List.replicate, List.nil_append, goF_emp (by rw [List.length_append]; omega)]
    simp
  | [], k + 1, pre => by
    rw [List.replicate_succ, List.cons_append, goF, occ1_none (x := spT v)]
    · simp [rcN]
    · rintro i hi ⟨h1, h2⟩
      rw [spT_len, spT_at] at h2
      have h3 := h2.2
      rw [List.getElem?_drop, List.getElem?_append_right (by omega)] at h3
      exact hrest _ (by simpa using h3)
  | d :: D, k + 1, pre => by
    have hT : ∀ j, (pre ++ (((d :: D).map pieceL).flatten ++ rest))[pre.length + j]? = (List.replicate d 32 ++ 9 :: ((D.map pieceL).flatten ++ rest))[j]? := fun j => by
      rw [List.getElem?_append_right (by omega), Nat.add_sub_cancel_left, List.map_cons, List.flatten_cons]
      unfold pieceL
      simp only [List.append_assoc, List.cons_append, List.nil_append]
    have hpre : pre ++ (((d :: D).map pieceL).flatten ++ rest) = (pre ++ pieceL d) ++ ((D.map pieceL).flatten ++ rest) := by
      rw [List.map_cons, List.flatten_cons]; simp only [List.append_assoc]
    have hpl : (pre ++ pieceL d).length = pre.length + d + 1 := by simp [pieceL]; omega
    by_cases hv : v ≤ d
    · obtain ⟨r, h⟩ := occ1_some (l := pre ++ (((d :: D).map pieceL).flatten ++ rest)) (x := spT v) (p := pre.length) (i := pre.length + (d - v)) (by omega) ⟨by
          rw [hpre, List.length_append, hpl, spT_len]; omega, by
          rw [spT_len, spT_at]
          refine ⟨fun j hj => ?_, ?_⟩
          · rw [List.getElem?_drop, Nat.add_assoc, hT, sp_get, if_pos (by omega)]
          · rw [List.getElem?_drop, Nat.add_assoc, hT, sp_get, if_neg (by omega), if_pos (by omega)]⟩ (fun j h1 h2 => by
          rintro ⟨_, h3⟩
          rw [spT_len, spT_at] at h3
          have h4 := h3.2
          obtain ⟨e, rfl⟩ : ∃ e, j = pre.length + e := ⟨j - pre.length, by omega⟩
          rw [List.getElem?_drop, Nat.add_assoc, hT, sp_get, if_pos (by omega)] at h4
          cases h4)
      rw [List.replicate_succ, List.cons_append, goF, h]
      dsimp only
      rw [S_len, spT_len, show pre.length + (d - v) + (v + 1) = (pre ++ pieceL d).length by rw [hpl]; omega, hpre, go_pieces v rest hrest D k (pre ++ pieceL d), rcN_cons, if_pos hv]
      exact decide_eq_decide.mpr (by omega)
    · have hno : ∀ j, pre.length ≤ j → j < (pre ++ pieceL d).length → ¬ (j + (spT v).length ≤ (pre ++ (((d :: D).map pieceL).flatten ++ rest)).length ∧ ((pre ++ (((d :: D).map pieceL).flatten ++ rest)).drop j).take (spT v).length = spT v) := by
        rintro j h1 h2 ⟨_, h3⟩
        rw [hpl] at h2
        rw [spT_len, spT_at] at h3
        obtain ⟨e, rfl⟩ : ∃ e, j = pre.length + e := ⟨j - pre.length, by omega⟩
        have h4 := h3.1 (d - e) (by omega)
        rw [List.getElem?_drop, Nat.add_assoc, hT, sp_get, if_neg (by omega), if_pos (by omega)] at h4
        cases h4
      have ih := go_pieces v rest hrest D (k + 1) (pre ++ pieceL d)
      rw [← hpre] at ih
      rw [rcN_cons, if_neg hv, Nat.zero_add, ← ih]
      rw [List.replicate_succ, List.cons_append, goF, goF]
      rcases StrLaws.occ_head_from (S (pre ++ (((d :: D).map pieceL).flatten ++ rest))) (S (spT v)) (pre ++ pieceL d).length 1 (Nat.le_refl _) with ⟨e, hn⟩ | ⟨i, r, e, h4, h5, h6⟩
      · rw [e, occ1_none fun j hj hh => ?_]
        by_cases hj2 : j < (pre ++ pieceL d).length
        · exact hno j hj hj2 hh
        · exact hn j (by omega) (at_iff.mpr hh)
      · obtain ⟨r', e'⟩ := occ1_some (l := pre ++ (((d :: D).map pieceL).flatten ++ rest)) (x := spT v) (p := pre.length) (i := i) (by rw [List.length_append] at h4; omega) (at_iff.mp h5) (fun j h1 h2 hh => by
          by_cases hj2 : j < (pre ++ pieceL d).length
          · exact hno j h1 hj2 hh
          · exact h6 j (by omega) h2 (at_iff.mpr hh))
        rw [e, e']
end
section
-- needs P5
/-- the places of a text in a text, none within another -/
noncomputable def occL (sub : List Nat) : List Nat → Nat → Nat → List Nat
  | [], _, _ => []
  | c :: r, i, free => if free ≤ i ∧ (c :: r).take sub.length = sub then i :: occL sub r (i + 1) (i + sub.length) else occL sub r (i + 1) free
theorem occL_run (l sub : List Nat) (hs : sub ≠ []) (limit : Nat) : ∀ (n i : Nat) (st : Array Nat × Nat), i + n = l.length + 1 → st.1.size + n ≤ limit →
    (forIn (List.range' i n) st (StrLaws.occBody (S l) (S sub) l.length limit)).run.1.toList = st.1.toList ++ occL sub (l.drop i) i st.2
  | 0, i, st, hi, _ => by
    rw [List.drop_of_length_le (by omega)]
    simp [occL, List.range', Id.run]
    rfl
  | n + 1, i, st, hi, hl => by
    rw [List.range'_succ, List.forIn_cons]
    have hsl : 0 < sub.length := List.length_pos_iff.mpr hs
    have hsub : Builtin.Str.subAt (S l) (S sub) i = true ↔ (l.drop i).take sub.length = sub := by
      rw [StrLaws.subAt_eq, S_len]
      show ((l.drop i).take sub.length == sub) = true ↔ _
      rw [beq_iff_eq]
    by_cases hil : i < l.length
    · have hd : l.drop i = l[i] :: l.drop (i + 1) := List.drop_eq_getElem_cons hil
      have hfit : (l.drop i).take sub.length = sub → i + sub.length ≤ l.length := fun h => by
        have := congrArg List.length h
        rw [List.length_take, List.length_drop] at this
        omega
      by_cases hc : st.2 ≤ i ∧ (l.drop i).take sub.length = sub
      · have hb : StrLaws.occBody (S l) (S sub) l.length limit i st = pure (ForInStep.yield (st.fst.push i, i + (S sub).length)) := by
          unfold StrLaws.occBody
          rw [if_pos ⟨⟨⟨by omega, hc.1⟩, by rw [S_len]; exact hfit hc.2⟩, hsub.mpr hc.2⟩]
        rw [hb]
        have ih := occL_run l sub hs limit n (i + 1) (st.fst.push i, i + sub.length) (by omega) (by simp; omega)
        rw [S_len]
        refine Eq.trans ih ?_
        rw [hd] at hc
        rw [hd, occL, if_pos hc]
        simp
      · have hb : StrLaws.occBody (S l) (S sub) l.length limit i st = pure (ForInStep.yield (st.fst, st.snd)) := by
          unfold StrLaws.occBody
          rw [if_neg fun h => hc ⟨h.1.1.2, hsub.mp h.2⟩]
        rw [hb]
        refine Eq.trans (occL_run l sub hs limit n (i + 1) (st.fst, st.snd) (by omega) (by show st.fst.size + n ≤ limit; omega)) ?_
        rw [hd] at hc
        rw [hd, occL, if_neg hc]
    · have hd : l.drop i = [] := List.drop_of_length_le (by omega)
      have hb : StrLaws.occBody (S l) (S sub) l.length limit i st = pure (ForInStep.yield (st.fst, st.snd)) := by
        unfold StrLaws.occBody
        rw [if_neg fun h => by
          have := hsub.mp h.2
          rw [hd] at this
          exact hs (by simpa using this.symm)]
      rw [hb]
      refine Eq.trans (occL_run l sub hs limit n (i + 1) (st.fst, st.snd) (by omega) (by show st.fst.size + n ≤ limit; omega)) ?_
      rw [hd, List.drop_of_length_le (by omega)]
      rfl
theorem occ_list (l sub : List Nat) (hs : sub ≠ []) : Builtin.Str.occurrences (S l) (S sub) 0 (S l).length ((S l).length + 1) = occL sub l 0 0 := by
  rw [StrLaws.occ_eq]
  have := occL_run l sub hs (l.length + 1) (l.length + 1) 0 (#[], 0) (by omega) (by simp)
  rw [S_len]
  simpa using this
/-- the pattern: dots, and k times v blanks, a tab and dots -/
noncomputable def patL (v k : Nat) : List Nat := [46, 46, 46] ++ (List.replicate k (spT v ++ [46, 46, 46])).flatten
noncomputable def partsL (l : List Nat) (cuts : List Nat) : List (List Nat) := ((0 :: cuts.map (· + 3)).zip (cuts ++ [l.length])).map fun q => (l.drop q.1).take (q.2 - q.1)
theorem parts_list (l cuts : List Nat) : Builtin.Str.partsBetween (S l) cuts 3 = (partsL l cuts).map S := by
  unfold Builtin.Str.partsBetween partsL
  rw [List.map_map, S_len]
  apply List.map_congr_left
  rintro ⟨i, j⟩ _
  apply Str.ext'
  apply Array.toList_inj.mp
  rw [StrLaws.strSub_toList]
  simp [S]
noncomputable def patOk (v k : Nat) : Bool := partsL (patL v k) (occL [46, 46, 46] (patL v k) 0 0) == [] :: (List.replicate k (spT v) ++ [[]])
theorem pat_all : ∀ (v : Fin 9) (k : Fin 11), patOk v k = true := by decide +kernel
theorem patL_len (v k : Nat) : (patL v k).length = 3 + k * (v + 4) := by
  unfold patL
  induction k with
  | zero => simp
  | succ k ih =>
    rw [List.replicate_succ, List.flatten_cons]
    simp only [List.length_append, spT_len, List.length_cons, List.length_nil] at ih ⊢
    rw [Nat.succ_mul]
    omega
theorem occ_isE {l x : List Nat} {limit : Nat} (hl : 1 ≤ limit) (h : 0 + x.length ≤ l.length ∧ (l.drop 0).take x.length = x) : (Builtin.Str.occurrences (S l) (S x) 0 (S l).length limit).isEmpty = false := by
  rcases StrLaws.occ_head (S l) (S x) limit hl with ⟨_, hn⟩ | ⟨i, r, e, _⟩
  · exact absurd (at_iff.mpr h) (hn 0)
  · rw [e]; rfl
theorem ell_piece (prog : Program) (w : World) (A : Around) (s : Shared) (p : Program) (loose : List Str) (mg mb : Str → Option Value)
    (X : (hd.heap_1 w.params).In s.heap) (T : TopRead p loose mg mb s.heap) (hA : A.handled = none) (hdp : A.depth + 20 < recursionLimit) (v k tl : Nat) (D : List Nat) (t1 t2 : Tok) (hv : v < 9) (hk : k < 11) (htl : tl ≤ 8) (hds : D.length ≤ 9) (hlt : ∀ d ∈ D, d < 8)
    : codeAny (model prog w) A (.call (.ref 28) ⟨[.str (S (patL v k)) t1, .str (S (textL D tl)) t2], []⟩) (Back (fun r _ => r = .bool (decide (k ≤ rcN D v))) s) s := by
  have hpk : k * (v + 4) ≤ 10 * 12 := Nat.mul_le_mul (by omega) (by omega)
  have hpl := patL_len v k
  have hhead : 0 + ([46, 46, 46] : List Nat).length ≤ (patL v k).length ∧ ((patL v k).drop 0).take ([46, 46, 46] : List Nat).length = [46, 46, 46] := by
    refine ⟨by rw [hpl]; simp, ?_⟩
    rw [List.drop_zero]
    unfold patL
    rfl
  have hgo : goF (S (textL D tl)) (Str.empty :: (List.replicate k (S (spT v)) ++ [Str.empty])) 0 = decide (k ≤ rcN D v) := by
    have e : Str.empty = S [] := rfl
    obtain ⟨r, h⟩ := occ1_some (l := textL D tl) (x := []) (p := 0) (i := 0) (Nat.le_refl _) ⟨Nat.zero_le _, by simp⟩ (fun k h1 h2 => by omega)
    rw [goF, show Builtin.Str.occurrences (S (textL D tl)) Str.empty 0 (S (textL D tl)).length 1 = 0 :: r from h]
    have hg := go_pieces v (List.replicate tl 32 ++ [120, 32, 121]) (fun j => by
      rw [List.getElem?_append]
      split
      · rw [List.getElem?_replicate]; split <;> simp
      · rename_i hj
        generalize j - (List.replicate tl 32).length = n
        match n with
        | 0 => simp
        | 1 => simp
        | 2 => simp
        | n + 3 => simp) D k []
    rw [← hg]
    have et : textL D tl = [] ++ ((D.map pieceL).flatten ++ (List.replicate tl 32 ++ [120, 32, 121])) := by
      unfold textL leadL
      simp only [List.append_assoc, List.nil_append]
    rw [← et]
    rfl
  rw [← hgo]
  have hd3 : (("..." : String) : Str) = S [46, 46, 46] := lit_dots
  refine ell_c prog w A s p loose mg mb X T hA hdp (S (patL v k)) (S (textL D tl)) t1 t2 (List.replicate k (S (spT v))) ?_ ?_ ?_ ?_ ?_ ?_ ?_ ?_
  · rw [S_len, hpl]; omega
  · rw [S_len]
    have := (pieces_len D hlt).2
    unfold textL leadL
    simp only [List.length_append, List.length_replicate, List.length_cons, List.length_nil]
    omega
  · rw [hd3]; exact occ_isE (Nat.le_refl _) hhead
  · rw [hd3, S_len, S_len, hpl, show Builtin.Str.strKind (S [46, 46, 46]) = 1 from by decide +kernel]
    have : 1 ≤ Builtin.Str.strKind (S (patL v k)) := by unfold Builtin.Str.strKind; split <;> (try split) <;> omega
    simp; omega
  · rw [hd3]; exact occ_isE (by omega) hhead
  · rw [hd3, occ_list _ _ (by simp), S_len]
    show Builtin.Str.partsBetween _ _ 3 = _
    rw [parts_list]
    have := pat_all ⟨v, hv⟩ ⟨k, hk⟩
    unfold patOk at this
    rw [beq_iff_eq.mp this]
    simp [List.map_replicate]
    rfl
  · rw [List.length_replicate]; omega
  · intro x hx
    rw [List.eq_of_mem_replicate hx, S_len, spT_len]; omega
end
section
-- needs P6 A4 P4
theorem blk_len : ∀ (D : List Nat) (v s : Nat), ((D.mapIdx fun (p d : Nat) => (((d : Nat) : Int), ((p + s : Nat) : Int))).filter fun q => q.1 == (v : Int)).length = cntF D v
  | [], _, _ => rfl
  | d :: D, v, s => by
    rw [List.mapIdx_cons, List.filter_cons, cntF_cons]
    have ih := blk_len D v (s + 1)
    have e : (fun (p d : Nat) => (((d : Nat) : Int), ((p + (s + 1) : Nat) : Int))) = fun (p d : Nat) => (((d : Nat) : Int), ((p + 1 + s : Nat) : Int)) := by
      funext p d
      rw [show p + (s + 1) = p + 1 + s by omega]
    rw [e] at ih
    by_cases h : d = v
    · subst h
      simp only [beq_self_eq_true, if_true, List.length_cons]
      rw [ih]; omega
    · have : (((d : Nat) : Int) == (v : Int)) = false := by simp; omega
      simp only [this, Bool.false_eq_true, if_false]
      rw [ih, if_neg h, Nat.zero_add]
theorem blk_prs (D : List Nat) (v : Nat) : (blk (prs D) v).length = cntF D v := by
  have := blk_len D v 0
  unfold blk prs
  simpa using this
theorem du_rc (D : List Nat) : ∀ v, (duFrom (blk (prs D)) 0 v).length + rcN D v = D.length
  | 0 => by rw [rc_zero]; simp [duFrom]
  | v + 1 => by
    have ih := du_rc D v
    have hc := cnt_rc D v
    rw [duFrom_add (blk (prs D)) v 1 0, List.length_append, Nat.zero_add]
    simp only [duFrom, List.append_nil]
    rw [blk_prs]
    omega
theorem due_all {D : List Nat} (hlt : ∀ d ∈ D, d < 8) : (dueL (prs D)).length = D.length := by
  have := du_rc D 8
  rw [rc_eight hlt 8 (by omega)] at this
  exact this
theorem posL_rc {D : List Nat} {v : Nat} {k : Int} (hlt : ∀ d ∈ D, d < 8) (hv : v ≤ 8) (h : PosL (dueL (prs D)) (v : Int) k) : (D.length : Int) - k = ((rcN D v : Nat) : Int) := by
  have e := due_split (prs D) v hv
  have hk : k.toNat = (duFrom (blk (prs D)) 0 v).length := by
    refine split_pos (P := fun p => p.1 < (v : Int)) (B := duFrom (blk (prs D)) v (8 - v)) ?_ ?_ ?_ ?_
    · rw [← e]; have := h.2.1; omega
    · intro i p hp
      rw [← e] at hp
      have h3 := h.2.2 i p hp
      have h4 := h.1
      exact ⟨fun z => h3.mp (by omega), fun z => by have := h3.mpr z; omega⟩
    · intro p hp
      have := duFrom_fst hp
      omega
    · intro p hp
      have := duFrom_fst hp
      omega
  have h1 := du_rc D v
  have h4 := h.1
  omega
theorem posR_rc {D : List Nat} {v : Nat} {k : Int} (hlt : ∀ d ∈ D, d < 8) (hv : v ≤ 8) (h : PosR (dueL (prs D)) (v : Int) k) : (D.length : Int) - k = ((rcN D (v + 1) : Nat) : Int) := by
  have h4 := h.1
  by_cases hv8 : v < 8
  · have e := due_split (prs D) (v + 1) hv8
    have hk : k.toNat = (duFrom (blk (prs D)) 0 (v + 1)).length := by
      refine split_pos (P := fun p => p.1 ≤ (v : Int)) (B := duFrom (blk (prs D)) (v + 1) (8 - (v + 1))) ?_ ?_ ?_ ?_
      · rw [← e]; have := h.2.1; omega
      · intro i p hp
        rw [← e] at hp
        have h3 := h.2.2 i p hp
        exact ⟨fun z => h3.mp (by omega), fun z => by have := h3.mpr z; omega⟩
      · intro p hp
        have := duFrom_fst hp
        omega
      · intro p hp
        have := duFrom_fst hp
        omega
    have h1 := du_rc D (v + 1)
    omega
  · have hk : k.toNat = (dueL (prs D)).length := by
      refine split_pos (A := dueL (prs D)) (P := fun p => p.1 ≤ (v : Int)) (B := []) ?_ ?_ ?_ (fun _ h => nomatch h)
      · rw [List.append_nil]; have := h.2.1; omega
      · intro i p hp
        rw [List.append_nil] at hp
        have h3 := h.2.2 i p hp
        exact ⟨fun z => h3.mp (by omega), fun z => by have := h3.mpr z; omega⟩
      · intro p hp
        have := duFrom_fst hp
        omega
    rw [due_all hlt] at hk
    rw [rc_eight hlt (v + 1) (by omega)]
    omega
end
section
-- needs P7 A12
example : True := by
 k_with_none
 k_with "exec For Name Call cons nil" => (refine stop ?_)
 k_with "pyIter ref" => (refine stop ?_)
 k_with "eval Name" => ((k_here; k_dflt (refine' nameX_L ?zhF ?zhv ?_ ?zha ?zhb; (case zha => rfl); (case zhb => rfl); (case zhF => k_asm); (case zhv => first | exact rfl | assumption); k_whole)))
 k_with "execs cons" => (first
  | ((try dsimp only); (with_reducible refine gen_pos ?_); intro tk' hp')
  | dsimp only)
 k_with "execs nil" => (first
  | ((try dsimp only); (with_reducible refine gen_pos ?_); intro tk' hp')
  | dsimp only)
 k_with "subscriptTail" => (refine stop ?_)
 k_with "subscriptTail Name Name ref int" => (refine stop ?_)
 k_with "compareOp NotEq int int" => (refine stop ?_)
 k_with "binaryOp Mult str int" => (refine stop ?_)
 k_with "binaryOp Add str str" => (refine stop ?_)
 k_with "call ref" => (((with_reducible show wpAny _ _ (call (Value.ref 64) _ _) _ _ _); refine stop ?_))
 k_with "call ref" => (((with_reducible show wpAny _ _ (call (Value.ref 46) _ _) _ _ _); refine stop ?_))
 k_with "call ref" => (((with_reducible show wpAny _ _ (call (Value.ref 28) _ _) _ _ _); refine stop ?_))
 trivial
set_option pp.maxSteps 3000
theorem lawJ (prog : Program) (w : World) (p : Program) (loose : List Str) (mg mb : Str → Option Value) (g : Heap) (L : Addr) (dA : Nat) (fr : Option (List Env)) (gs : Option (List Code)) (un : Nat) (cd : Value) (fa : Addr)
    (X : (hd.heap_1 w.params).In g) (T : TopRead p loose mg mb g) (hdp : dA + 60 < recursionLimit) (hun : un ≤ 900) (body : List Stmt) (sc : Scope) (hb : body = (bodyAt w.params 161).drop 16) (hsc : sc = scopeAt w.params 161)
    (aD aR aRow : Addr) (vs rs lr : List Value) (D : List Nat) (oD oS oR : Obj) (TS : List (Addr × Obj)) (tl : Nat) (ep epR epr : Nat) (kS tX : Tok) (h : Heap) (gn : Array GenState) (dr : Drawn) (tk : Nat) (os : OsState) (m : Str → Option Value) (E : Value → Shared → Prop) (Q : Flow → Shared → Prop)
    (hrs : IntsAre rs ((List.range 10).map fun (v : Nat) => ((rcN D v : Nat) : Int))) (hr : RowsN TS lr (dueL (prs D))) (hds : D.length ≤ 9) (hlt : ∀ d ∈ D, d < 8) (htl : tl ≤ 8) (htk : 0 < tk) (F : Fr g L h m)
    (N : News g L h ((aRow, W.listOf lr.toArray epr) :: (aR, W.listOf rs.toArray epR) :: (aD, W.listOf vs.toArray ep) :: (L + 1 + 1 + 1, oR) :: (L + 1 + 1, oS) :: (L + 1, oD) :: TS))
    (cR : oR.data = .cell (some (.ref aR))) (cS : oS.data = .cell (some (.int (D.length : Int) kS)))
    (e2 : m "row" = some (.ref aRow)) (e3 : m "text" = some (.str (S (textL D tl)) tX))
    (hE : PassesOwn (model prog w) (({ handled := none, depth := dA, frames := fr, guards := gs, units := un } : Around).deeper (envOfC (Str.ofString "law") sc L fa cd)) (envOfC (Str.ofString "law") sc L fa cd) E)
    (hN : ∀ h tk m, 0 < tk → Fr g L h m → News g L h ((aD, W.listOf vs.toArray ep) :: (L + 1 + 1, oS) :: (L + 1, oD) :: TS) → ∀ body2, body2 = (bodyAt w.params 161).drop 17 →
      wpAny (model prog w) (({ handled := none, depth := dA, frames := fr, guards := gs, units := un } : Around).deeper (envOfC (Str.ofString "law") sc L fa cd))
      (execs body2 (envOfC (Str.ofString "law") sc L fa cd)) Q E ⟨h, gn, dr, tk, os⟩) :
    wpAny (model prog w) (({ handled := none, depth := dA, frames := fr, guards := gs, units := un } : Around).deeper (envOfC (Str.ofString "law") sc L fa cd))
      (execs body (envOfC (Str.ofString "law") sc L fa cd)) Q E ⟨h, gn, dr, tk, os⟩ := by
  conv at hb => rhs; whnf
  conv at hsc => rhs; whnf
  subst hb hsc
  refine gen_pos0 htk ?_
  intro tk1 htk1
  k_steps
  refine stop_ ?_
  refine wpAny_For ?_
  refine wpAny_with_toks (n := 1) (by first | assumption | exact Nat.succ_pos _) ?_
  k_steps
  refine stop_ ?_
  rename Fr _ _ _ _ => F3
  rename News _ _ _ _ => N3
  rename IsRange _ _ _ _ _ _ _ _ => R3
  refine' for_rangeB (n := 9) (a := 0) (b := 9) (c := 1) ?F ?N ?R ?hsm ?hn
    (fun i m nw => m "row" = some (.ref aRow) ∧ m "text" = some (.str (S (textL D tl)) tX) ∧
      nw = (aRow, W.listOf lr.toArray epr) :: (aR, W.listOf rs.toArray epR) :: (aD, W.listOf vs.toArray ep) :: (L + 1 + 1 + 1, oR) :: (L + 1 + 1, oS) :: (L + 1, oD) :: TS)
    ?hJ ?hh ?hpos ?turn ?done ?hE
  case F => exact F3
  case N => exact N3
  case R => exact R3
  case hsm => decide +kernel
  case hn => decide +kernel
  case hh => rfl
  case hE => exact hE
  case hpos => first | assumption | exact Nat.succ_pos _ | (dsimp only; first | assumption | exact Nat.succ_pos _ | omega)
  case hJ => exact ⟨_, ⟨e2, e3, rfl⟩, fun q hq => hq⟩
  case turn =>
    clear F3 N3 e2 e3 R3
    rintro v m nw h tk I oI tv hi hp0 ⟨e2, e3, rfl⟩ hne F4 N4
    have hii : (0 : Int) + (v : Int) * 1 = (v : Int) := by omega
    rw [hii]
    dsimp only
    have hrl := hrs.length
    have hdl := due_all hlt
    obtain ⟨u5, hu5⟩ := ints_get hrs v ((rcN D v : Nat) : Int) (by rw [List.getElem?_map, List.getElem?_range (by omega)]; rfl)
    obtain ⟨u6, hu6⟩ := ints_get hrs (v + 1) ((rcN D (v + 1) : Nat) : Int) (by rw [List.getElem?_map, List.getElem?_range (by omega)]; rfl)
    have hrc : rcN D v ≤ 9 := Nat.le_trans (List.length_filter_le _ _) hds
    k_steps
    refine stop_ ?_
    show wpAny _ _ (call (.ref 64) [_, _] [(Str.ofString "key", .ref 151)]) _ _ _
    rename Fr _ _ _ _ => F5
    rename News _ _ _ _ => N5
    have hRr := hr.rows N5 (fun q hq => by repeat (first | exact hq | apply List.Mem.tail))
    have hsub : ∀ q ∈ TS, q ∈ ((aRow, W.listOf lr.toArray epr) :: (aR, W.listOf rs.toArray epR) :: (aD, W.listOf vs.toArray ep) :: (L + 1 + 1 + 1, oR) :: (L + 1 + 1, oS) :: (L + 1, oD) :: TS) := fun q hq => by repeat (first | exact hq | apply List.Mem.tail)
    refine call_back F5 N5 (bisL_c prog w _ _ p loose mg mb (X.keeps F5.keep) (T.keeps F5.keep) (by simp only [depth_deeper]; omega) aRow lr.toArray (dueL (prs D)) (v : Int) _ _ (News.isList N5 (by k_mem)) hRr (up_due _) (by omega) _ (fun oc od fd osl e => by refine' bindB ?ba1 ?bb1 e; (case ba1 => k_is); (case bb1 => first | exact BindsTo.of_eq rfl | exact binds_K (X.keeps F5.keep) rfl (by k_is) rfl rfl rfl))) ?_
    rintro v7 h7 tk7 F7 N7 ⟨k7, t7, rfl, hk7⟩
    have hL := posL_rc hlt (by omega) hk7
    clear hRr
    k_steps
    refine stop_ ?_
    rw [hL]
    rename News _ _ _ _ => N8
    refine' item_listM (v := .int ((rcN D v : Nat) : Int) u5) (News.isList N8 (show (aR, W.listOf rs.toArray epR) ∈ _ by k_mem)) ?h0 ?h1 ?h2 ?_
    case h0 => omega
    case h1 => omega
    case h2 => rw [Int.toNat_natCast]; simpa using hu5
    clear hL hk7
    k_steps
    refine stop_ ?_
    refine neII_is ?_
    k_steps
    refine stop_ ?_
    show wpAny _ _ (call (.ref 46) [_, _] [(Str.ofString "key", .ref 151)]) _ _ _
    rename Fr _ _ _ _ => F9
    rename News _ _ _ _ => N9
    have hRr := hr.rows N9 (fun q hq => by repeat (first | exact hq | apply List.Mem.tail))
    refine call_back F9 N9 (bisR_c prog w _ _ p loose mg mb (X.keeps F9.keep) (T.keeps F9.keep) (by simp only [depth_deeper]; omega) aRow lr.toArray (dueL (prs D)) (v : Int) _ _ (News.isList N9 (by k_mem)) hRr (up_due _) (by omega) _ (fun oc od fd osl e => by refine' bindB ?ba2 ?bb2 e; (case ba2 => k_is); (case bb2 => first | exact BindsTo.of_eq rfl | exact binds_K (X.keeps F9.keep) rfl (by k_is) rfl rfl rfl))) ?_
    rintro v11 h11 tk11 F11 N11 ⟨k11, t11, rfl, hk11⟩
    have hR := posR_rc hlt (by omega) hk11
    clear hRr
    k_steps
    refine stop_ ?_
    rw [hR]
    rename News _ _ _ _ => N12
    refine' item_listM (v := .int ((rcN D (v + 1) : Nat) : Int) u6) (News.isList N12 (show (aR, W.listOf rs.toArray epR) ∈ _ by k_mem)) ?h3 ?h4 ?h5 ?_
    case h3 => omega
    case h4 => omega
    case h5 =>
      have : ((v : Int) + 1).toNat = v + 1 := by omega
      rw [this]; simpa using hu6
    clear hR hk11
    k_steps
    refine stop_ ?_
    refine neII_is ?_
    k_steps
    refine stop_ ?_
    rw [lit_sp]
    refine mul_S (by simp; omega) (by omega) fun t13 k13 => ?_
    rw [flat_sp]
    k_steps
    refine stop_ ?_
    rw [lit_td]
    refine add_S (fun t14 k14 => ?_) (by simp; omega)
    rw [show List.replicate v 32 ++ [9, 46, 46, 46] = spT v ++ [46, 46, 46] by unfold spT; simp]
    k_steps
    refine stop_ ?_
    rename News _ _ _ _ => N2a
    refine' item_listM (v := .int ((rcN D v : Nat) : Int) u5) (News.isList N2a (show (aR, W.listOf rs.toArray epR) ∈ _ by k_mem)) ?i0a ?i1a ?i2a ?_
    case i0a => omega
    case i1a => omega
    case i2a => rw [Int.toNat_natCast]; simpa using hu5
    k_steps
    refine stop_ ?_
    refine mul_S (l := spT v ++ [46, 46, 46]) (n := rcN D v) (by have h1 : (spT v ++ [46, 46, 46]).length = v + 4 := (by simp [spT]); have h2 : (v + 4) * (rcN D v) ≤ 12 * 10 := Nat.mul_le_mul (by omega) (by omega); rw [h1]; omega) (by omega) fun taa kaa => ?_
    k_steps
    refine stop_ ?_
    rw [lit_dots]
    refine add_S (fun tba kba => ?_) (by have h1 := patL_len v (rcN D v); unfold patL at h1; rw [List.length_append] at h1; have h2 : (rcN D v) * (v + 4) ≤ 10 * 12 := Nat.mul_le_mul (by omega) (by omega); omega)
    rw [show [46, 46, 46] ++ (List.replicate (rcN D v) (spT v ++ [46, 46, 46])).flatten = patL v (rcN D v) from rfl]
    k_steps
    refine stop_ ?_
    show wpAny _ _ (call (.ref 28) [_, _] []) _ _ _
    rename Fr _ _ _ _ => F2a
    rename News _ _ _ _ => N3a
    refine call_back F2a N3a (ell_piece prog w _ _ p loose mg mb (X.keeps F2a.keep) (T.keeps F2a.keep) rfl (by simp only [depth_deeper]; omega) v (rcN D v) tl D _ _ hi (by omega) htl hds hlt) ?_
    rintro _ h3a tk3a F3a N4a rfl
    rw [show decide (rcN D v ≤ rcN D v) = true from decide_eq_true (Nat.le_refl _)]
    k_steps
    refine stop_ ?_
    rename News _ _ _ _ => N2b
    refine' item_listM (v := .int ((rcN D v : Nat) : Int) u5) (News.isList N2b (show (aR, W.listOf rs.toArray epR) ∈ _ by k_mem)) ?i0b ?i1b ?i2b ?_
    case i0b => omega
    case i1b => omega
    case i2b => rw [Int.toNat_natCast]; simpa using hu5
    k_steps
    refine stop_ ?_
    rw [show ((rcN D v : Nat) : Int) + 1 = ((rcN D v + 1 : Nat) : Int) from rfl]
    refine mul_S (l := spT v ++ [46, 46, 46]) (n := rcN D v + 1) (by have h1 : (spT v ++ [46, 46, 46]).length = v + 4 := (by simp [spT]); have h2 : (v + 4) * (rcN D v + 1) ≤ 12 * 10 := Nat.mul_le_mul (by omega) (by omega); rw [h1]; omega) (by omega) fun tab kab => ?_
    k_steps
    refine stop_ ?_
    try rw [lit_dots]
    refine add_S (fun tbb kbb => ?_) (by have h1 := patL_len v (rcN D v + 1); unfold patL at h1; rw [List.length_append] at h1; have h2 : (rcN D v + 1) * (v + 4) ≤ 10 * 12 := Nat.mul_le_mul (by omega) (by omega); omega)
    rw [show [46, 46, 46] ++ (List.replicate (rcN D v + 1) (spT v ++ [46, 46, 46])).flatten = patL v (rcN D v + 1) from rfl]
    k_steps
    refine stop_ ?_
    show wpAny _ _ (call (.ref 28) [_, _] []) _ _ _
    rename Fr _ _ _ _ => F2b
    rename News _ _ _ _ => N3b
    refine call_back F2b N3b (ell_piece prog w _ _ p loose mg mb (X.keeps F2b.keep) (T.keeps F2b.keep) rfl (by simp only [depth_deeper]; omega) v (rcN D v + 1) tl D _ _ hi (by omega) htl hds hlt) ?_
    rintro _ h3b tk3b F3b N4b rfl
    rw [show decide (rcN D v + 1 ≤ rcN D v) = false from decide_eq_false (by omega)]
    k_steps
    rename Fr _ _ _ _ => F50
    rename News _ _ _ _ => N50
    refine TurnEnd.nextJ F50 N50 (by k_mem) ⟨_, ⟨e2, e3, rfl⟩, fun q hq => ?_⟩
    exact ⟨by repeat (first | exact hq | apply List.Mem.tail), hne q hq⟩
  case done =>
    rintro m nw h tk hp0 ⟨e2, e3, rfl⟩ F4 N4
    refine hN h tk m hp0 F4 (fun q hq => N4 q ?_) _ rfl
    rcases List.mem_cons.mp hq with rfl | hq
    · k_mem
    · rcases List.mem_cons.mp hq with rfl | hq
      · k_mem
      · repeat (first | exact hq | apply List.Mem.tail)

example : True := by
 k_with_none
 trivial
end
section
-- needs A13 A1 A2 A4 A6 A7 A9 A10 A11 A12
theorem ds_nat (ns : List Int) : ∃ (D : List Nat) (q : Nat), dsI ns = D.map (fun d => ((d : Nat) : Int)) ∧ (∀ d ∈ D, d < 8) ∧ D.length = 3 * q ∧ 1 ≤ q ∧ q ≤ 3 := by
  have hall : ∀ x ∈ dsI ns, 0 ≤ x ∧ x < 8 := by
    intro x hx
    unfold dsI at hx
    rcases List.mem_append.mp hx with h | h
    · obtain ⟨y, _, rfl⟩ := List.mem_map.mp h
      exact ⟨Int.fmod_nonneg_of_pos _ (by decide), Int.fmod_lt_of_pos _ (by decide)⟩
    · have := List.mem_of_mem_drop h
      simp only [List.mem_cons, List.not_mem_nil, or_false] at this
      omega
  refine ⟨(dsI ns).map Int.toNat, (dsI ns).length / 3, ?_, ?_, ?_, ?_, ?_⟩
  · rw [List.map_map]
    conv => lhs; rw [← List.map_id (dsI ns)]
    apply List.map_congr_left
    intro x hx
    have := hall x hx
    show x = ((x.toNat : Nat) : Int)
    omega
  · intro d hd
    obtain ⟨x, hx, rfl⟩ := List.mem_map.mp hd
    have := hall x hx
    omega
  · rw [List.length_map]
    unfold dsI
    simp only [List.length_append, List.length_map, List.length_drop, List.length_take, List.length_cons, List.length_nil]
    omega
  · unfold dsI
    simp only [List.length_append, List.length_map, List.length_drop, List.length_take, List.length_cons, List.length_nil]
    omega
  · unfold dsI
    simp only [List.length_append, List.length_map, List.length_drop, List.length_take, List.length_cons, List.length_nil]
    omega
theorem tl_nat (ns : List Int) : ∃ tl : Nat, tlI ns = (tl : Int) ∧ tl ≤ 8 := by
  have h1 : 0 ≤ tlI ns := Int.fmod_nonneg_of_pos _ (by decide)
  have h2 : tlI ns < 9 := Int.fmod_lt_of_pos _ (by decide)
  exact ⟨(tlI ns).toNat, by omega, by omega⟩
theorem law_all (prog : Program) (w : World) (p : Program) (loose : List Str) (mg mb : Str → Option Value) (g : Heap) (L : Addr) (dA : Nat) (fr : Option (List Env)) (gs : Option (List Code)) (un : Nat) (cd : Value) (fa : Addr)
    (X : (hd.heap_1 w.params).In g) (T : TopRead p loose mg mb g) (hdp : dA + 60 < recursionLimit) (hun : un ≤ 900) (body : List Stmt) (sc : Scope) (hb : body = bodyAt w.params 161) (hsc : sc = scopeAt w.params 161)
    (aS : Addr) (vs : List Value) (ns : List Int) (oD oS oR : Obj) (v1 v2 v3 : Option Value) (h : Heap) (gn : Array GenState) (dr : Drawn) (tk : Nat) (os : OsState) (m : Str → Option Value) (E : Value → Shared → Prop) (Q : Flow → Shared → Prop)
    (hl : g.IsList aS vs.toArray) (hvs : IntsAre vs ns) (hns : ns.length ≤ 63) (F : Fr g L h m) (N : News g L h [(L + 1 + 1 + 1, oR), (L + 1 + 1, oS), (L + 1, oD)]) (cD : oD.data = .cell v1) (cS : oS.data = .cell v2) (cR : oR.data = .cell v3)
    (e1 : m "script" = some (.ref aS))
    (hE : PassesOwn (model prog w) (({ handled := none, depth := dA, frames := fr, guards := gs, units := un } : Around).deeper (envOfC (Str.ofString "law") sc L fa cd)) (envOfC (Str.ofString "law") sc L fa cd) E)
    (hQ : ∀ h' tk' m', 0 < tk' → Fr g L h' m' → Q (.ret (.bool true)) ⟨h', gn, dr, tk', os⟩) :
    wpAny (model prog w) (({ handled := none, depth := dA, frames := fr, guards := gs, units := un } : Around).deeper (envOfC (Str.ofString "law") sc L fa cd))
      (execs body (envOfC (Str.ofString "law") sc L fa cd)) Q E ⟨h, gn, dr, tk, os⟩ := by
  obtain ⟨D, q, hD, hlt, hq, hq1, hq3⟩ := ds_nat ns
  obtain ⟨tl, htl, htl8⟩ := tl_nat ns
  have hds : D.length ≤ 9 := by omega
  have hne : D ≠ [] := fun e => by rw [e] at hq; simp at hq; omega
  refine lawA prog w p loose mg mb g L dA fr gs un cd fa X T hdp hun body sc hb hsc aS vs ns oD oS oR v1 v2 v3 h gn dr tk os m E Q hl hvs hns F N cD cS cR e1 ?_
  clear F N cD cS cR e1 hb
  intro h tk m aD vD oD oS oR ep kS kT v3 htk F e1 hI cD cS cR hnD N body hb
  rw [hD] at hI cS
  rw [List.length_map] at cS
  rw [htl] at e1
  refine lawB prog w p loose mg mb g L dA fr gs un cd fa X T hdp hun body sc hb hsc aD vD (D.map fun d => ((d : Nat) : Int)) oD oS oR v3 (D.length : Int) (tl : Int) ep kS kT h gn dr tk os m E Q hI (by rw [List.length_map]; exact hds) htk F N hnD cD cS cR e1 ?_
  clear htk F N cR e1 hb hnD
  intro h tk m aR rs oR epR htk F e1 hrs cR N body hb
  simp only [rcF_eq] at hrs
  refine lawC prog w p loose mg mb g L dA fr gs un cd fa X T hdp hun body sc hb hsc aD aR vD rs D oD oS oR (tl : Int) ep epR kS kT h gn dr tk os m E Q hI hds hlt htk F N cD cS e1 hE ?_
  clear htk F N e1 hb
  intro h tk m aRow aBack lr lb epr epb TS htk F e1 e2 e3 hr hbk hT N body hb
  refine lawD prog w p loose mg mb g L dA fr gs un cd fa X T hdp hun body sc hb hsc aD aR aRow aBack vD rs lr lb D oD oS oR TS (tl : Int) ep epR epr epb kS kT h gn dr tk os m E Q hI hds htk F N hr hbk cD cS e1 e2 e3 ?_
  clear htk F N e1 e2 e3 hb hbk hT
  intro h tk m htk F e1 e2 N body hb
  refine lawF prog w p loose mg mb g L dA fr gs un cd fa X T hdp hun body sc hb hsc aD aR aRow vD rs lr D oD oS oR TS tl ep epR epr kT h gn dr tk os m E Q hI hds hlt htl8 htk F N cD e1 e2 ?_
  clear htk F N e1 e2 hb
  intro h tk m tX htk F e1 e2 e3 N body hb
  refine lawG prog w p loose mg mb g L dA fr gs un cd fa X T hdp hun body sc hb hsc aD aR aRow vD rs lr D oD oS oR TS tl ep epR epr kT tX h gn dr tk os m E Q hrs hne hds hlt htl8 htk F N cR e1 e2 e3 ?_
  clear htk F N e1 e2 e3 hb
  intro h tk m x dx Ta T2 cs a0 a1 a2 a3 a4 a5 a6 k1 bs z kH htk F e1 e2 e3 e4 e5 hcs N body hb
  refine lawH prog w p loose mg mb g L dA fr gs un cd fa X T hdp hun body sc hb hsc aD aR aRow x dx Ta T2 vD rs lr cs D oD oS oR TS tl ep epR epr z kS kT tX kH a0 a1 a2 a3 a4 a5 a6 k1 bs h gn dr tk os m E Q hrs hcs hne hds hlt htl8 htk F N cR cS e1 e2 e3 e4 e5 ?_
  clear htk F N e1 e2 e3 e4 e5 hb
  intro h tk m htk F e1 e2 e3 e4 N body hb
  refine lawI prog w p loose mg mb g L dA fr gs un cd fa X T hdp hun body sc hb hsc aD aR aRow x dx Ta T2 vD rs lr cs D oD oS oR TS tl ep epR epr z kT tX a0 a1 a2 a3 a4 a5 a6 k1 bs h gn dr tk os m E Q hrs hcs hds hlt htl8 htk F N cR e1 e2 e3 e4 hE ?_
  clear htk F N e1 e2 e3 e4 hb
  intro h tk m htk F e2 e3 N body hb
  refine lawJ prog w p loose mg mb g L dA fr gs un cd fa X T hdp hun body sc hb hsc aD aR aRow vD rs lr D oD oS oR TS tl ep epR epr kS tX h gn dr tk os m E Q hrs hr hds hlt htl8 htk F N cR cS e2 e3 hE ?_
  clear htk F N e2 e3 hb
  intro h tk m htk F N body hb
  exact lawK prog w p loose mg mb g L dA fr gs un cd fa X T hdp hun body sc hb hsc aD vD D q oD oS TS ep kS h gn dr tk os m E Q hI hq hq3 hlt htk F N cD cS hE hQ
end
section
-- needs A14 H1
set_option pp.maxSteps 200
local macro_rules | `(tactic| k_qdec) => `(tactic| decide +kernel)
theorem law_holds : PySem.Challenge.rw_sc0098_01.Holds := by
  w_on
  refine holds_law said_ fun said => ?_
  refine holds_open (Xt := fun s => xlAt view [] s && recOk (RowW.records PySem.Challenge.rw_sc0098_01.row.toRowW) s) (XP := XL view []) (Yf := Hook.obs (kHook hd.heap_1 addrs addrs_ok)) (Ya := Hook.val (kHook hd.heap_1 addrs addrs_ok)) (YP := Hook.says (kHook hd.heap_1 addrs addrs_ok)) (N := 1988)
    left_ (Hook.of (kHook hd.heap_1 addrs addrs_ok)) (Hook.keeps (kHook hd.heap_1 addrs addrs_ok)) (fun s e => xl_of s (Bool.and_eq_true_iff.mp e).1) XL.keeps (by rfl) (by rfl) (by rfl) (fun s e => recFacts_of (Bool.and_eq_true_iff.mp e).2) (by rfl) (by first | assumption | decide +kernel) (by decide +kernel) ⟨rfl, rfl, rfl, rfl, rfl, by decide +kernel⟩ ?hw ?hc
  case hw => w_witness2
  case hc =>
    clear said
    k_go0
    rename Fr _ _ _ _ => F0
    rename News _ _ _ _ => N0
    rename IntsAre _ _ => hI0
    rename (hd.heap_1 _).In _ => KX0
    rename Top _ _ _ _ _ _ => T0
    unfold callerA
    refine' law_all (hb := ?hb) (hsc := ?hsc) _ _ _ _ _ _ _ _ _ _ _ _ _ _ KX0 (topRead_of T0) ?hdp ?hun _ _ _ _ _ _ _ _ _ _ _ _ _ _ _ _ _ _ _ ?hl hI0 ?hns F0 N0 ?cD ?cS ?cR ?e1 ?hE ?hQ
    case hb => rfl
    case hsc => rfl
    case hdp => decide
    case hun => decide
    case hl => assumption
    case hns => omega
    case cD => rename_i _ _ _ _; assumption
    case cS => assumption
    case cR => assumption
    case e1 => rfl
    case hE => passes_own
    case hQ =>
      intro h' tk' m' htk' F'
      k_steps
end
end Mine
theorem PySem.Challenge.cw_sc0098_01_holds : PySem.Challenge.rw_sc0098_01.Holds := by
  exact Mine.law_holds
