import PyProof.Rows.All
import Wide.All
import OpenK.AllK
import Wide.FinOn
import Lean
import PySem.Challenge.RW_yi0040_01
set_option Elab.async false
-- part Head
namespace Mine
open PySem PySem.W PyProof.Rows
/-! THE HEAD BY HAND. `open_top` would do, but its compiled file is over the lid (66 MB): the top in pieces writes its states out.
Here the top is run once, over the tree, with nothing written out but the fragment. -/
theorem beside {A B C G : Prop} (_ : A) (_ : B) (_ : C) (main : G) : G := main
set_option maxRecDepth 100000 in
set_option maxHeartbeats 8000000 in
/-- an empty theorem (its premise is absurd; nothing leans on it): it is here so that k_head lays the two constants hd.heap_1 (the fragment) and hd.view_1 (the view) -/
theorem hd (h : ∀ P : Prop, P) : PySem.Challenge.rw_yi0040_01.row.Holds := by
  w_on
  have said : PySem.Challenge.rw_yi0040_01.row.wellSaid = true := h _
  refine' beside ?hl ?hw ?hc ?main
  case main => k_head
  all_goals exact h _
def runT (tb : String → Option Builtin) (p : Program) (w : World) (n₀ : Nat) (ann : Option Value) : Nat → SharedT → Thread → Option SharedT
  | 0, _, _ => none
  | n + 1, s, t => match through t with
    | true => some s
    | false => match stepOk n₀ ann t with
      | false => none
      | true => match stepT (denote tb) p w s t with
        | some (s', t') => runT tb p w n₀ ann n s' t'
        | none => none
theorem runT_of {tb : String → Option Builtin} {p : Program} {w : World} {n₀ : Nat} {ann : Option Value} : ∀ {n : Nat} {s s' : SharedT} {t : Thread}, runT tb p w n₀ ann n s t = some s' → topRun tb p w n₀ ann n s.abs t = some s'.abs
  | 0, _, _, _, h => by cases h
  | n + 1, s, s', t, h => by
    unfold runT at h
    unfold topRun
    cases he : through t with
    | true => rw [he] at h; cases h; rfl
    | false =>
      rw [he] at h
      cases hk : stepOk n₀ ann t with
      | false => rw [hk] at h; cases h
      | true =>
        rw [hk] at h
        cases hs : stepT (denote tb) p w s t with
        | none => rw [hs] at h; cases h
        | some r => obtain ⟨s₂, t₂⟩ := r; rw [hs] at h; rw [stepT_spec hs]; exact runT_of h
/-- the same run by the library's quick twins of stepOk, stepT, denote, treeTable -/
noncomputable def runQ (p : Program) (w : World) (n₀ : Nat) (ann : Option Value) : Nat → SharedT → Thread → Option SharedT
  | 0, _, _ => none
  | n + 1, s, t => match through t with
    | true => some s
    | false => match PySem.W.Fast.tw6613529449190102663 n₀ ann t with
      | false => none
      | true => match PySem.W.Fast.tw10156331382660048174 (PySem.W.Fast.tw11892475500146522536 PySem.W.Fast.tw14364793385576792824) p w s t with
        | some (s', t') => runQ p w n₀ ann n s' t'
        | none => none
theorem runQ_eq {p : Program} {w : World} {n₀ : Nat} {ann : Option Value} : ∀ (n : Nat) (s : SharedT) (t : Thread), runT treeTable p w n₀ ann n s t = runQ p w n₀ ann n s t
  | 0, _, _ => rfl
  | n + 1, s, t => by
    unfold runT runQ
    rw [← PySem.W.Fast.te6613529449190102663, ← PySem.W.Fast.te10156331382660048174, ← PySem.W.Fast.te11892475500146522536, ← PySem.W.Fast.te14364793385576792824]
    cases through t with
    | true => rfl
    | false =>
      cases stepOk n₀ ann t with
      | false => rfl
      | true =>
        cases stepT (denote treeTable) p w s t with
        | none => rfl
        | some r => obtain ⟨s₂, t₂⟩ := r; exact runQ_eq n s₂ t₂
theorem left_tree {p q : Program} {loose : List Str} {Xt : Shared → Bool} {α : Type} {Yf : Shared → α} {Ya : World → α} {N : Nat} {g0 : Bool} {H₀ : Params → Heap} {T₀ : Params → BT} {n₀ : Nat} {l₀ : Life} {gs₀ : Array GenState} {d₀ : Drawn} {k₀ : Nat} {m₀ : Nat} {ann : Option Value}
    (open_ : ∀ w : World, (fencedOpening treeTable p w N).map (fun s => (s.heap, s.gens, s.drawn, s.toks)) = some (H₀ w.params, gs₀, d₀, k₀))
    (size : ∀ w : World, ((H₀ w.params).isNs mainGlobals && gs₀.size == 0, (H₀ w.params).objs.size, (H₀ w.params).nsMap mainGlobals "__annotations__") = (true, m₀, ann))
    (tree : ∀ w : World, H₀ w.params = absHeap (T₀ w.params) n₀ l₀)
    (run : ∀ w : World, (fun os : OsState => (runQ p w m₀ ann N ⟨T₀ w.params, n₀, l₀, gs₀, d₀, k₀, os⟩ (topStub p)).map fun s =>
      (staticsOk (PySem.W.Fast.tw5923862056798008813 p.main.body) (H₀ w.params) s.abs.heap && namesBound p s.abs.heap && gensDone s.abs && laidKept (H₀ w.params) s.abs.heap, PySem.W.Fast.tw4187177175401517315 q loose (PySem.W.Fast.tw5923862056798008813 p.main.body) Xt g0 s.abs, Yf s.abs)) =
      fun _ => some (true, openGood q loose, Ya w)) : LeftO p q loose Xt Yf Ya N g0 := fun w => by
  obtain ⟨⟨h, gs, d, k, os⟩, e, e'⟩ := Option.map_eq_some_iff.mp (open_ w)
  obtain ⟨rfl, rfl, rfl, rfl⟩ : h = H₀ w.params ∧ gs = gs₀ ∧ d = d₀ ∧ k = k₀ := by simpa using e'
  obtain ⟨z1, z2, z3⟩ : _ ∧ _ ∧ _ := by simpa only [Prod.mk.injEq] using size w
  obtain ⟨sT, r, x⟩ := Option.map_eq_some_iff.mp (congrFun (run w) os)
  obtain ⟨l1, l2, l3⟩ : _ ∧ _ ∧ _ := by simpa only [Prod.mk.injEq] using x
  rw [← PySem.W.Fast.te5923862056798008813] at l1 l2
  rw [← PySem.W.Fast.te4187177175401517315] at l2
  rw [← runQ_eq] at r
  have r' := runT_of r
  have hs : (SharedT.mk (T₀ w.params) n₀ l₀ gs d k os).abs = ⟨H₀ w.params, gs, d, k, os⟩ := by rw [tree w]; rfl
  rw [hs] at r'
  have t : topFrom treeTable p w N ⟨H₀ w.params, gs, d, k, os⟩ = some sT.abs := by
    unfold topFrom
    dsimp only
    rw [z1, z2, z3, r']
    show (match staticsOk (importedModules p.main.body) (H₀ w.params) sT.abs.heap && namesBound p sT.abs.heap && gensDone sT.abs && laidKept (H₀ w.params) sT.abs.heap with | true => _ | false => _) = _
    rw [l1]
  unfold openEnds
  rw [e]
  show (topFrom treeTable p w N _).map _ = _
  rw [t]
  exact congrArg some (Prod.ext l2 l3)
noncomputable def bootTree (P : Params) : BT := (boot_heap P).objs.toList.zipIdx.foldl (fun T x => T.ins x.2 x.1) .nil
theorem boot_tree (w : World) : boot_heap w.params = absHeap (bootTree w.params) 11 {} := by kernel_rfl
theorem boot_size : ∀ w : World, ((boot_heap w.params).isNs mainGlobals && (#[] : Array GenState).size == 0, (boot_heap w.params).objs.size, (boot_heap w.params).nsMap mainGlobals "__annotations__") = (true, 11, some (Value.ref 6)) := fun w => by kernel_rfl
theorem pw_open : ∀ w : World, (fencedOpening treeTable PySem.Challenge.pw_yi0040_01 w 6406).map (fun s => (s.heap, s.gens, s.drawn, s.toks)) = some (boot_heap w.params, #[], boot_drawn, boot_toks) :=
  boot_open (by kernel_rfl) (by decide) (fun s => by kernel_rfl)
def asK : List Addr := [2, 3, 15, 17, 18, 20, 21, 29, 31, 32, 34, 35, 36, 38, 39, 41, 42, 43, 45, 46, 48, 49, 50, 52, 53, 55, 56, 57, 58, 59, 60, 61, 71, 73, 74, 76, 77, 78, 80, 81, 83, 84, 85, 87, 88, 90, 91, 92, 95, 96, 97, 99, 100, 102, 103, 104, 106, 107, 109, 110, 111, 113, 114, 116, 117, 118, 121, 122, 123, 126, 127, 128, 131, 132, 133, 135, 136, 138, 139, 140, 142, 143, 145, 146, 147, 149, 150, 152, 153, 154, 157, 158, 159, 161, 162, 164, 165, 166, 168, 169, 171, 172, 173, 175, 176, 178, 179, 180, 183, 184, 185, 187, 188, 190, 191, 192, 194, 195, 197, 198, 199, 201, 202, 204, 205, 206, 208, 209, 211, 212, 213, 215, 216, 218, 219, 220, 221, 222, 223, 224, 227, 234, 237, 238, 239, 241, 242, 244, 245, 246, 247, 248, 249, 251, 252, 254, 255, 256, 257, 259, 260, 262, 263, 264, 265, 267, 268, 270, 271, 272, 273, 275, 276, 278, 279, 280, 281, 282, 285, 292, 294, 295, 297, 298, 299, 301, 302, 304, 305, 306, 308, 309, 311, 312, 313, 315, 316, 318, 319, 320, 322, 323, 325, 326, 327, 329, 330, 332, 333, 334, 336, 337, 339, 340, 341, 343, 344, 346, 347, 348, 349, 350, 353, 360, 362, 363, 365, 366, 367, 369, 370, 372, 373, 374, 376, 377, 379, 380, 381, 383, 384, 386, 387, 388, 389, 390, 391, 393, 394, 396, 397, 398, 400, 401, 403, 404, 405, 407, 408, 410, 411, 412, 414, 415, 417, 418, 419, 422, 423, 424, 425, 426, 429, 432, 433, 434, 436, 437, 439, 440, 441, 443, 444, 446, 447, 448, 450, 451, 453, 454, 455, 457, 458, 460, 461]
theorem asK_eq (P : Params) : asK = (hd.heap_1 P).map (·.1) := by kernel_rfl
set_option maxRecDepth 100000 in
set_option maxHeartbeats 8000000 in
theorem left : LeftO PySem.Challenge.pw_yi0040_01 hd.view_1 [Str.ofString "PolynomialRing", Str.ofString "PolynomialNTT"]
    (fun s => xlAt hd.view_1 [] s && recOk (RowW.records (OpenRow.toRowW PySem.Challenge.rw_yi0040_01.row)) s) (Hook.obs (kHook hd.heap_1 asK asK_eq)) (Hook.val (kHook hd.heap_1 asK asK_eq)) 6406 :=
  left_tree pw_open boot_size boot_tree (fun w => by kernel_rfl)
theorem said_all : PySem.Challenge.rw_yi0040_01.wellSaid = true := by kernel_rfl
end Mine
-- part Base
namespace Mine
open PySem PySem.W PyProof.Rows PyProof.V PySem.Calls
abbrev Led := List (Addr × Obj)

/-- the walk stands still at what this wraps -/
def Hold (P : Prop) : Prop := P
theorem hold {P : Prop} (h : Hold P) : P := h
theorem unhold {P : Prop} (h : P) : Hold P := h

theorem upd_new {d : Addr} {o o' : Obj} {l l' : Led} (U : Upd d o o' l l') : ∀ p ∈ l', p = (d, o') ∨ (p ∈ l ∧ p.1 ≠ d) := by
  obtain ⟨pre, post, rfl, rfl, a, b⟩ := U.split
  intro p hp
  rcases List.mem_append.mp hp with h | h
  · exact .inr ⟨List.mem_append.mpr (.inl h), a p h⟩
  · rcases List.mem_cons.mp h with h | h
    · exact .inl h
    · exact .inr ⟨List.mem_append.mpr (.inr (.tail _ h)), b p h⟩
theorem upd_old {d : Addr} {o o' : Obj} {l l' : Led} (U : Upd d o o' l l') : (d, o) ∈ l := by
  obtain ⟨pre, post, rfl, rfl, a, b⟩ := U.split
  exact List.mem_append.mpr (.inr (.head _))
theorem upd_has {d : Addr} {o o' : Obj} {l l' : Led} (U : Upd d o o' l l') : (d, o') ∈ l' := by
  obtain ⟨pre, post, rfl, rfl, a, b⟩ := U.split
  exact List.mem_append.mpr (.inr (.head _))

theorem off_nil {adr : List Addr} : OwnOff [] adr := fun _ h => nomatch h
theorem off2_cons {p : Addr × Obj} {rest : Led} {S C : Addr} (h1 : @Ne Nat p.1 S) (h2 : @Ne Nat p.1 C) (r : OwnOff rest [S, C]) : OwnOff (p :: rest) [S, C] := by
  intro q hq b hb
  rcases List.mem_cons.mp hq with rfl | hq
  · rcases List.mem_cons.mp hb with rfl | hb
    · exact h1
    · rw [List.mem_singleton.mp hb]; exact h2
  · exact r q hq b hb
theorem pick7 {h₀ h : Heap} {L : Addr} {z c1 c2 x d S C : Addr × Obj} (N : News h₀ L h [z, c1, c2, x, d, S, C]) : News h₀ L h (S :: C :: [z, x, d]) :=
  kst_newsOf N fun p hp => by
    simp only [List.mem_cons, List.not_mem_nil, or_false] at hp ⊢
    rcases hp with h | h | h | h | h <;> simp [h]
theorem pick6 {h₀ h : Heap} {L : Addr} {z x d S C D : Addr × Obj} (N : News h₀ L h (D :: S :: C :: [z, x, d])) : News h₀ L h (D :: [z, x, d]) :=
  kst_newsOf N fun p hp => by
    simp only [List.mem_cons, List.not_mem_nil, or_false] at hp ⊢
    rcases hp with h | h | h | h <;> simp [h]

theorem put_keys {d : List (Int × Int)} {k v : Int} (h : ∀ p ∈ d, 0 ≤ p.1 ∧ p.1 < 256) (h0 : 0 ≤ k ∧ k < 256) : ∀ p ∈ kdfPut d k v, 0 ≤ p.1 ∧ p.1 < 256 := by
  unfold kdfPut
  split
  · intro p hp
    obtain ⟨q, hq, rfl⟩ := List.mem_map.mp hp
    split
    · exact h q hq
    · exact h q hq
  · intro p hp
    rcases List.mem_append.mp hp with hp | hp
    · exact h p hp
    · rw [List.mem_singleton.mp hp]; exact h0
theorem menu_deg {x y : Int} (hx : 0 ≤ x) (hx2 : x < 256) (hy : 0 ≤ y) (hy2 : y < 256) : ∀ n : Nat, 0 ≤ [0, 255, 1, 128, x, y].getD n 0 ∧ [0, 255, 1, 128, x, y].getD n 0 < 256
  | 0 => by simp
  | 1 => by simp
  | 2 => by simp
  | 3 => by simp
  | 4 => by simp; omega
  | 5 => by simp; omega
  | n + 6 => by simp

theorem flat_keys : ∀ {c : List (Int × Int)} {kvs : List (Int × Value)}, FlatPairs PyData.int kvs (kdfD c) → kvs.map (·.1) = c.map (·.1)
  | [], _, h => by cases h; rfl
  | (k, v) :: c, _, h => by
    have h' : FlatPairs PyData.int _ ((PyData.int k, PyData.int v) :: kdfD c) := h
    cases h' with
    | cons _ h2 => rw [List.map_cons, List.map_cons, flat_keys h2]
theorem has_of_mem {c : List (Int × Int)} {n : Int} (h : n ∈ c.map (·.1)) : kdfHas c n = true := by
  obtain ⟨p, hp, rfl⟩ := List.mem_map.mp h
  exact List.any_eq_true.mpr ⟨p, hp, by simp⟩

theorem int_of_kind {prog : Program} {w : World} {k : Int} {v : Value} (h : (PySem.intKind prog w).is k v = true) : ∃ t, v = .int k t := by
  simp only [PySem.intKind] at h
  cases v <;> simp [Value.isInt] at h
  exact ⟨_, by rw [h]⟩

section
variable {prog : Program} {w : World} {A : Around} {E : Value → Shared → Prop} {s : Shared} {env : Env} {h₀ : Heap} {x : Str} {body : List Stmt} {Q : Flow → Shared → Prop}

theorem iter_invND {d : Addr} {od : Obj} {kvs : List (Int × Value)} {ns : List Int} {m₀ : Str → Option Value} {news : Led} (J : Nat → (Str → Option Value) → Led → Prop)
    (hh : A.handled = none) (hl : (d, od) ∈ news) (lo : (d == sysModules) = false) (hdo : od.IsDictOf (PySem.intKind prog w) kvs) (hi : kvs.map (·.1) = ns) (F : Fr h₀ env.locals s.heap m₀) (N : News h₀ env.locals s.heap news) (hj : J 0 m₀ news)
    (turn : ∀ i n t m₁ news₁ h tk own, ns[i]? = some n → news₁.map (·.1) = news.map (·.1) → OwnOff own (news.map (·.1)) → (d, od) ∈ news₁ → J i m₁ news₁ → Fr h₀ env.locals h (fun y => if y = x then some (.int n t) else m₁ y) → News h₀ env.locals h (news₁ ++ own) →
      wpAny (model prog w) A (execs body env) (InvPostN h₀ env.locals (fun m' nx => (d, od) ∈ nx ∧ J (i + 1) m' nx) own (news.map (·.1)) { s with heap := h, toks := tk } Q) E { s with heap := h, toks := tk })
    (done : ∀ m₁ news₁ h tk, (d, od) ∈ news₁ → J ns.length m₁ news₁ → Fr h₀ env.locals h m₁ → News h₀ env.locals h news₁ → Q .next { s with heap := h, toks := tk }) :
    wpAny (model prog w) A (pyIter (.ref d)) (fun it s₂ => LoopAtV prog w A h₀ env x body Q E it s₂) E s := by
  have hol : s.heap.get? d = some od := (N _ hl).1
  obtain ⟨ep, hat⟩ := (kda_dict N hl hdo).dictAt
  have hne : d ≠ s.heap.objs.size := Nat.ne_of_lt (Heap.lt_size hol)
  refine wpAny_pyIter_dict lo hat ?_
  have W := Walks.dictKeys (prog := prog) (w := w) (knd := PySem.intKind prog w) hh s.heap.objs.size d hne kvs ep
  have hlen : kvs.length = ns.length := by rw [← hi, List.length_map]
  refine ⟨_, _, _, kvs.length, _, _, m₀, news, (fun i m nx => nx.map (·.1) = news.map (·.1) ∧ (d, od) ∈ nx ∧ J i m nx), rfl, W, ?_, ?_, ?_, ⟨⟨_, Heap.get?_push_size _ rfl, rfl, rfl⟩, hat.push _⟩, F.push _, (fun p hp => ⟨Heap.get?_push_of_some _ (N p hp).1, (N p hp).2⟩), ⟨rfl, hl, hj⟩, ?_, ?_⟩
  · intro hm
    rcases List.mem_cons.mp hm with e | hm
    · exact absurd F.ns.lt (e ▸ Nat.lt_irrefl _)
    · exact (N _ hl).2.1 ((List.mem_singleton.mp hm).symm)
  · intro b hb
    rw [List.mem_singleton.mp hb]
    exact next_is_new F
  · intro p hp hI
    exact absurd (Heap.lt_size (N p hp).1) ((List.mem_singleton.mp hI) ▸ Nat.lt_irrefl _)
  · rintro i v m₁ news₁ s₁ own ⟨hh', tk', rfl⟩ hin hP ⟨hadr, hl₁, hJ⟩ hoff hown hget hfp _ F₁ N₁
    have hsep : OwnOff (own.filter fun p => decide (p.1 = s.heap.objs.size)) (news.map (·.1)) := by
      intro p hp b hb e
      obtain ⟨q, hq, rfl⟩ := List.mem_map.mp hb
      have h1 : p.1 = s.heap.objs.size := by simpa using (List.mem_filter.mp hp).2
      exact absurd (Heap.lt_size (N q hq).1) (by rw [← e, h1]; exact Nat.lt_irrefl _)
    obtain ⟨k, xv, hx, hk⟩ := hP
    obtain ⟨t, rfl⟩ := int_of_kind hk
    have hn : ns[i]? = some k := by rw [← hi, List.getElem?_map, hx]; rfl
    have N₂ : News h₀ env.locals hh' (news₁ ++ own.filter fun p => decide (p.1 = s.heap.objs.size)) := fun p hp => N₁ p ((List.mem_append.mp hp).elim (fun h => List.mem_append.mpr (.inr h)) fun h => List.mem_append.mpr (.inl ((List.mem_filter.mp h).1)))
    have hlo : hh'.get? d = some od := (N₁ _ (List.mem_append.mpr (.inr hl₁))).1
    refine wpAny_mono (turn i k t m₁ news₁ hh' tk' _ hn hadr hsep hl₁ hJ F₁ N₂) (fun f s₂ p => ?_) fun _ _ e => e
    have fin : InvEndN h₀ env.locals (fun m' nx => (d, od) ∈ nx ∧ J (i + 1) m' nx) (own.filter fun p => decide (p.1 = s.heap.objs.size)) (news.map (·.1)) { s with heap := hh', toks := tk' } s₂ →
        LoopStepU h₀ env.locals [s.heap.objs.size] own (fun m nx => nx.map (·.1) = news.map (·.1) ∧ (d, od) ∈ nx ∧ J (i + 1) m nx) { s with heap := hh', toks := tk' } .next s₂ := by
      rintro ⟨h', tk, m', news', nx, e, F', N', hn, ho, ha, hm⟩
      refine ⟨rfl, h', tk, m', nx, e, F', fun p hp => ?_, fun p hp => ?_, ha, hm⟩
      · rcases List.mem_append.mp hp with h | h
        · by_cases hI : p.1 = s.heap.objs.size
          · exact N' p (ho p (List.mem_filter.mpr ⟨h, by simpa using hI⟩))
          · have h1 : p.1 = d := by
              rcases List.mem_cons.mp (hown p h) with h2 | h2
              · exact absurd h2 hI
              · exact List.mem_singleton.mp h2
            have h2 : hh'.get? p.1 = some p.2 := hget p h
            rw [h1, hlo] at h2
            have h3 : p = (d, od) := Prod.ext h1 (Option.some.inj h2).symm
            rw [h3]
            exact N' _ (hn _ hm.1)
        · exact N' p (hn p h)
      · have h1 : p.1 ∈ nx.map (·.1) := List.mem_map.mpr ⟨p, hp, rfl⟩
        rw [ha] at h1
        obtain ⟨q, hq, e⟩ := List.mem_map.mp h1
        intro hI
        exact absurd (Heap.lt_size (N q hq).1) (by rw [e, List.mem_singleton.mp hI]; exact Nat.lt_irrefl _)
    cases f with
    | ret v => exact .ret p
    | brk => exact .brk p
    | next => exact .next (fin p)
    | cont => exact .cont (fin p)
  · rintro h' tk m' news' F' N' _ ⟨_, hl', hJ⟩
    exact done m' news' h' tk hl' (hlen ▸ hJ) F' N'

theorem kst_dict {σ : Type} {d : Addr} {od : Obj} {kvs : List (Int × Value)} {ns : List Int} {m₀ : Str → Option Value} (Led : σ → List (Addr × Obj)) (ps : σ → List (Str × Value)) (Facts : σ → Prop) (stored : List Str) (P : List Int → σ → Prop) (c₀ : σ)
    (hh : A.handled = none) (hl : ∀ c : σ, (d, od) ∈ Led c) (lo : (d == sysModules) = false) (hdo : od.IsDictOf (PySem.intKind prog w) kvs) (hi : kvs.map (·.1) = ns) (F : Fr h₀ env.locals s.heap m₀) (N : News h₀ env.locals s.heap (Led c₀)) (hf : Facts c₀) (hk : ∀ p ∈ ps c₀, m₀ p.1 = some p.2) (hp : P [] c₀)
    (turn : ∀ (c : σ) pre post n t (u : Str → Option Value) h tk own, ns = pre ++ n :: post → n ∈ ns → OwnOff own ((Led c₀).map (·.1)) → Facts c → P pre c →
      Fr h₀ env.locals h (fun y => if y = x then some (.int n t) else kstB (fun z => if stored.contains z then u z else m₀ z) (ps c) y) → News h₀ env.locals h (Led c ++ own) →
      wpAny (model prog w) A (execs body env) (InvPostN h₀ env.locals (KstS Led ps Facts x stored m₀ P (pre ++ [n])) own ((Led c₀).map (·.1)) { s with heap := h, toks := tk } Q) E { s with heap := h, toks := tk })
    (done : ∀ (c : σ) (u : Str → Option Value) h tk, Facts c → P ns c → Fr h₀ env.locals h (fun y => if y = x then u y else kstB (fun z => if stored.contains z then u z else m₀ z) (ps c) y) → News h₀ env.locals h (Led c) → Q .next { s with heap := h, toks := tk }) :
    wpAny (model prog w) A (pyIter (.ref d)) (fun it s₂ => LoopAtV prog w A h₀ env x body Q E it s₂) E s := by
  refine iter_invND (fun i m nx => KstS Led ps Facts x stored m₀ P (ns.take i) m nx) hh (hl c₀) lo hdo hi F N ⟨c₀, rfl, hf, hk, fun _ _ _ _ => rfl, by simpa using hp⟩ ?_ ?_
  · rintro i n t m₁ nx h tk own hn _ hoff _ ⟨c, rfl, hf', h1, h2, hp'⟩ F₁ N₁
    have hs : ns.take (i + 1) = ns.take i ++ [n] := by simp [List.take_add_one, hn]
    have e : ns = ns.take i ++ n :: ns.drop (i + 1) := by
      have ht := List.take_append_drop (i + 1) ns
      rw [hs, List.append_assoc] at ht
      exact ht.symm
    rw [hs]
    refine wpAny_mono (turn c _ _ n t m₁ h tk own e (List.mem_of_getElem? hn) hoff hf' hp' (kst_fr h1 h2 F₁) N₁) (fun f s₂ p => ?_) fun _ _ x => x
    have up : InvEndN h₀ env.locals (KstS Led ps Facts x stored m₀ P (ns.take i ++ [n])) own ((Led c₀).map (·.1)) { s with heap := h, toks := tk } s₂ →
        InvEndN h₀ env.locals (fun m' nx => (d, od) ∈ nx ∧ KstS Led ps Facts x stored m₀ P (ns.take i ++ [n]) m' nx) own ((Led c₀).map (·.1)) { s with heap := h, toks := tk } s₂ := by
      rintro ⟨h', tk', m', news', nx', e', F', N', hn', ho', ha, hS⟩
      refine ⟨h', tk', m', news', nx', e', F', N', hn', ho', ha, ?_, hS⟩
      obtain ⟨c', rfl, _⟩ := hS
      exact hl c'
    cases f with
    | ret v => exact p
    | brk => exact p
    | next => exact up p
    | cont => exact up p
  · rintro m₁ nx h tk _ ⟨c, rfl, hf', h1, h2, hp'⟩ F₁ N₁
    rw [List.take_length] at hp'
    exact done c m₁ h tk hf' hp' (kst_frOut h1 h2 F₁) N₁
end
section
variable {prog : Program} {w : World} {A : Around} {E : Value → Shared → Prop} {s : Shared} {h₀ : Heap} {L : Addr} {m : Str → Option Value} {news : Led} {Q : Value → Shared → Prop}
theorem list_copy_x {l : Addr} {vs : List Value} {n : Nat} (F : Fr h₀ L s.heap m) (N : News h₀ L s.heap news) (hm : (l, listOf vs.toArray n) ∈ news) (hz : vs.length ≤ sizeLine)
    (h : ∀ D c h', Fr h₀ L h' m → News h₀ L h' ((D, listOf vs.toArray c) :: news) → (∀ q ∈ news, q.1 < D) → Q (.ref D) { s with heap := h' }) :
    wpAny (model prog w) A (call (.type "list") [.ref l]) Q E s :=
  list_copyK F N (News.isList N hm) h (by rw [List.size_toArray]; exact hz)
end
section
variable {prog : Program} {w : World} {A : Around} {E : Value → Shared → Prop} {s : Shared} {env : Env} {h₀ : Heap} {x : Str} {body : List Stmt} {Q : Flow → Shared → Prop}
theorem kst_rangeX {σ : Type} {r : Addr} {a₀ b₀ : Int} {t₀ u₀ v₀ : Tok} {n : Nat} {m₀ : Str → Option Value} (Led : σ → List (Addr × Obj)) (ps : σ → List (Str × Value)) (Facts : σ → Prop) (stored : List Str) (P : List Int → σ → Prop) (c₀ : σ)
    (hh : A.handled = none) (hr : IsRange s.heap r a₀ b₀ 1 t₀ u₀ v₀) (hsmall : Builtin.Range.small a₀ b₀ 1 = true) (hn : Builtin.Range.rangeSize a₀ b₀ 1 = (n : Int)) (hn0 : 0 < n) (F : Fr h₀ env.locals s.heap m₀) (N : News h₀ env.locals s.heap (Led c₀)) (hf : Facts c₀) (hk : ∀ p ∈ ps c₀, m₀ p.1 = some p.2) (hp : P [] c₀)
    (turn : ∀ (c : σ) (pre : List Int) (k : Int) t (u : Str → Option Value) h tk own, k = a₀ + (pre.length : Int) → pre.length < n → OwnOff own ((Led c₀).map (·.1)) → Facts c → P pre c →
      Fr h₀ env.locals h (fun y => if y = x then some (.int k t) else kstB (fun z => if stored.contains z then u z else m₀ z) (ps c) y) → News h₀ env.locals h (Led c ++ own) →
      wpAny (model prog w) A (execs body env) (InvPostN h₀ env.locals (fun m nx => KstS Led ps Facts x stored m₀ P (pre ++ [k]) m nx ∧ ∃ t, m x = some (.int k t)) own ((Led c₀).map (·.1)) { s with heap := h, toks := tk } Q) E { s with heap := h, toks := tk })
    (done : ∀ (c : σ) (u : Str → Option Value) t h tk, Facts c → P (rangeKs a₀ n) c → Fr h₀ env.locals h (fun y => if y = x then some (.int (a₀ + (n : Int) - 1) t) else kstB (fun z => if stored.contains z then u z else m₀ z) (ps c) y) → News h₀ env.locals h (Led c) → Q .next { s with heap := h, toks := tk }) :
    wpAny (model prog w) A (pyIter (.ref r)) (fun it s₂ => LoopAtV prog w A h₀ env x body Q E it s₂) E s := by
  refine wpAny_pyIter_range hr hsmall ?_
  have W : Walks prog w A s.heap.objs.size [s.heap.objs.size] [s.heap.objs.size] n (fun i v => i < n ∧ ∃ t, v = .int (a₀ + i * 1) t)
      (fun i h => IsRangeIter h s.heap.objs.size (a₀ + (i : Nat) * 1) ((n : Int) - (i : Nat)) 1) := (Walks.range hh _ a₀ 1 n).bound
  refine loop_invN (fun i m nx => KstS Led ps Facts x stored m₀ P ((rangeKs a₀ n).take i) m nx ∧ (0 < i → ∃ t, m x = some (.int (a₀ + (i : Int) - 1) t))) W ?_ ?_ ?_ ?_ (by show IsRangeIter _ _ _ _ _; rw [hn]; simpa using Heap.get?_push_size _ rfl) (F.push _) (fun p hp => ⟨Heap.get?_push_of_some _ (N p hp).1, (N p hp).2⟩) ⟨⟨c₀, rfl, hf, hk, fun _ _ _ _ => rfl, by simpa using hp⟩, fun h => absurd h (Nat.lt_irrefl _)⟩ ?_ ?_
  · intro hm
    exact absurd F.ns.lt ((List.mem_singleton.mp hm) ▸ Nat.lt_irrefl _)
  · intro b hb
    rw [List.mem_singleton.mp hb]
    exact next_is_new F
  · intro p hp hI
    exact absurd (Heap.lt_size (N p hp).1) ((List.mem_singleton.mp hI) ▸ Nat.lt_irrefl _)
  · intro p hp hI
    exact absurd (Heap.lt_size (N p hp).1) ((List.mem_singleton.mp hI) ▸ Nat.lt_irrefl _)
  · rintro i v m₁ nx h tk own hi ⟨_, t, rfl⟩ _ hoff ⟨⟨c, rfl, hf', h1, h2, hp'⟩, _⟩ F₁ N₁
    have e1 : a₀ + (i : Int) * 1 = a₀ + (i : Int) := by omega
    rw [e1] at F₁
    have hk' : (rangeKs a₀ n)[i]? = some (a₀ + (i : Int)) := by simp [rangeKs, hi]
    have hs : (rangeKs a₀ n).take (i + 1) = (rangeKs a₀ n).take i ++ [a₀ + (i : Int)] := by simp [List.take_add_one, hk']
    have hlen : ((rangeKs a₀ n).take i).length = i := by rw [List.length_take, rangeKs_length]; omega
    rw [hs]
    have e2 : a₀ + ((i + 1 : Nat) : Int) - 1 = a₀ + (i : Int) := by omega
    refine wpAny_mono (turn c _ _ t m₁ h tk own (by rw [hlen]) (by rw [hlen]; exact hi) hoff hf' hp' (kst_fr h1 h2 F₁) N₁) (fun f s₂ p => ?_) fun _ _ x => x
    have up : InvEndN h₀ env.locals (fun m nx => KstS Led ps Facts x stored m₀ P ((rangeKs a₀ n).take i ++ [a₀ + (i : Int)]) m nx ∧ ∃ t, m x = some (.int (a₀ + (i : Int)) t)) own ((Led c₀).map (·.1)) { s with heap := h, toks := tk } s₂ →
        InvEndN h₀ env.locals (fun m nx => KstS Led ps Facts x stored m₀ P ((rangeKs a₀ n).take i ++ [a₀ + (i : Int)]) m nx ∧ (0 < i + 1 → ∃ t, m x = some (.int (a₀ + ((i + 1 : Nat) : Int) - 1) t))) own ((Led c₀).map (·.1)) { s with heap := h, toks := tk } s₂ := by
      rintro ⟨h', tk', m', news', nx', e', F', N', hn', ho', ha, hS, hx⟩
      exact ⟨h', tk', m', news', nx', e', F', N', hn', ho', ha, hS, fun _ => by rw [e2]; exact hx⟩
    cases f with
    | ret v => exact p
    | brk => exact p
    | next => exact up p
    | cont => exact up p
  · rintro m₁ nx h tk ⟨⟨c, rfl, hf', h1, h2, hp'⟩, hx⟩ F₁ N₁
    have hl : (rangeKs a₀ n).take n = rangeKs a₀ n := List.take_of_length_le (Nat.le_of_eq (rangeKs_length _ _))
    rw [hl] at hp'
    obtain ⟨t, hx⟩ := hx hn0
    refine done c m₁ t h tk hf' hp' ?_ N₁
    have F₂ := kst_frOut (x := x) h1 h2 F₁
    have e : (fun y => if y = x then m₁ y else kstB (fun z => if stored.contains z then m₁ z else m₀ z) (ps c) y) = fun y => if y = x then some (.int (a₀ + (n : Int) - 1) t) else kstB (fun z => if stored.contains z then m₁ z else m₀ z) (ps c) y := by
      funext y
      by_cases hy : y = x
      · rw [if_pos hy, if_pos hy, hy, hx]
      · rw [if_neg hy, if_neg hy]
    rw [e] at F₂
    exact F₂
end
theorem kstX_end {σ : Type} {h₀ : Heap} {x : Str} {Led : σ → List (Addr × Obj)} {ps : σ → List (Str × Value)} {Facts : σ → Prop} {stored : List Str} {m₀ : Str → Option Value} {P : List Int → σ → Prop} {pre : List Int} {k : Int} (c : σ) {L : Addr} {m' : Str → Option Value} {own news' : List (Addr × Obj)} {adr : List Addr} {s₁ : Shared} {h' : Heap} {tk : Nat}
    (F : Fr h₀ L h' m') (N : News h₀ L h' news') (hn : ∀ p ∈ Led c, p ∈ news') (ho : ∀ p ∈ own, p ∈ news') (ha : (Led c).map (·.1) = adr) (hf : Facts c) (hk : ∀ p ∈ ps c, m' p.1 = some p.2) (hr : ∀ z, z ≠ x → (∀ p ∈ ps c, z ≠ p.1) → stored.contains z = false → m' z = m₀ z) (hp : P pre c) (hx : ∃ t, m' x = some (.int k t)) :
    InvEndN h₀ L (fun m nx => KstS Led ps Facts x stored m₀ P pre m nx ∧ ∃ t, m x = some (.int k t)) own adr s₁ { s₁ with heap := h', toks := tk } :=
  InvEndN.intro F N ⟨⟨c, rfl, hf, hk, hr, hp⟩, hx⟩ ha hn ho
theorem half_fdiv {l : Int} (h : 0 ≤ l) : l.fdiv (2 ^ Int.toNat 1) = l / 2 := by
  show l.fdiv 2 = l / 2
  rw [Int.fdiv_eq_ediv_of_nonneg _ (by decide)]
section
variable {M : Model} {A : Around} {E : Value → Shared → Prop} {s : Shared} {K : Frag} {env : Env} {pos : Pos} {x C : Addr} {ox : Obj} {od : Option Obj} {first : List Value} {Q : Value → Shared → Prop}
theorem inst_KW {f : Addr} {e : Expr} {rest : List Expr} {kws : List Keyword} (_X : K.In s.heap) (_I : InstAt s.heap x ox C od) (hd : ox.data = .plain) (_hs : findIn K (.ref C) "__call__" = some (some (.ref f))) (hall : (backToKw pos (keywordEach kws env)).all (·.1.isSome) = true)
    (h : wpAny M A (spliced (backTo pos (starEach (e :: rest) env))) (fun vs s₁ => wpAny M A (evalAll ((backToKw pos (keywordEach kws env)).map (·.2)))
      (fun ks s₂ => kco_P K x C ox od s₂.heap ∧ wpAny M A (call (.ref x) (first ++ vs) (((backToKw pos (keywordEach kws env)).filterMap (·.1)).zip ks)) Q E s₂) E s₁) E s)
    (hplain : ((backTo pos (starEach (e :: rest) env)).any (·.1) || (backToKw pos (keywordEach kws env)).any (·.1.isNone)) = false := by rfl) (he : starEach (e :: rest) env = (false, eval e env) :: starEach rest env := by rfl) :
    wpAny M A (callWith pos (.ref x) first (backTo pos (starEach (e :: rest) env)) (backToKw pos (keywordEach kws env))) Q E s :=
  kco_callWith_of hplain hd (evalArgs_kw2 hall h he)
end
end Mine
-- part Take
namespace Mine
open PySem PySem.W PyProof.Rows
set_option maxRecDepth 100000 in
set_option maxHeartbeats 8000000 in
theorem take_spec {w : World} {mean : ExcName → Option Value} {mg mb : Str → Option Value} {dp un : Nat} {gd : Option (List Code)} {cn : Str} {cs : Scope} {a : Addr} {ccd : Value} {cl : List (Str × Addr)} {outer : List Env} {A₀ : Around} {base h₀ : Heap} {L : Addr} {m : Str → Option Value} {s : Shared} {Q E : Value → Shared → Prop}
    {S C : Addr} {i : Int} {ti tm : Tok} {vs : List Value} {ns : List Int} {c1 c2 : Nat} {most : Int} {rest : Led}
    (B : Below A₀ base outer h₀) (F : Fr h₀ L s.heap m) (X : (hd.heap_1 w.params).In h₀) (N : News h₀ L s.heap ((S, listOf [Value.int i ti, Value.ref C].toArray c1) :: (C, listOf vs.toArray c2) :: rest)) (T : Top hd.view_1 (looseW hd.view_1 [Str.ofString "PolynomialRing", Str.ofString "PolynomialNTT"]) mean mg mb h₀) (hk : cs.kind = .function)
    (hd : dp + 1 < recursionLimit) (hu : un + 8 < cLine)
    (hoff : OwnOff rest [S, C]) (hSC : @Ne Nat S C) (hI : IntsAre vs ns) (hlen : 0 < ns.length) (hlen2 : ns.length ≤ 63) (hi : 0 ≤ i) (hm : 1 ≤ most) (hm2 : most ≤ 10000000)
    (hret : ∀ (r : Int) (t : Tok) (i' : Int) (ti' : Tok) (vs' : List Value) (ns' : List Int) (h' : Heap) (tk' : Nat), 0 ≤ r → r < most → i ≤ i' → i' ≤ i + 1 → IntsAre vs' ns' → ns'.length = ns.length → Fr h₀ L h' m → News h₀ L h' ((S, listOf [Value.int i' ti', Value.ref C].toArray c1) :: (C, listOf vs'.toArray c2) :: rest) → Q (.int r t) { s with heap := h', toks := tk' }) :
    wpAny (model PySem.Challenge.rw_yi0040_01.row.prog w) (ktrTop dp un gd cn cs L a ccd cl outer) (call (.ref 440) [.ref S, .int most tm]) Q E s := by
  have kMark := kstMark
  refine wpAny_call ?_
  k_dflt cell_enter
  k_steps
  all_goals (
    refine' hret _ _ _ _ _ _ _ _ ?e1 ?e2 ?e3 ?e4 ?e5 ?e6 ?e7 ?e8
    (case e8 => assumption)
    (case e7 => assumption)
    (case e5 => assumption)
    (case e6 => first | rfl | assumption)
    (case e1 => exact Int.fmod_nonneg_of_pos _ (by omega))
    (case e2 => exact Int.fmod_lt_of_pos _ (by omega))
    (case e3 => omega)
    (case e4 => omega))

theorem take_use {w : World} {mean : ExcName → Option Value} {mg mb : Str → Option Value} {dp un : Nat} {gd : Option (List Code)} {cn : Str} {cs : Scope} {a : Addr} {ccd : Value} {cl : List (Str × Addr)} {outer : List Env} {A₀ : Around} {base h₀ : Heap} {L : Addr} {m : Str → Option Value} {s : Shared} {Q E : Value → Shared → Prop}
    {S C : Addr} {i : Int} {ti tm : Tok} {vs : List Value} {ns : List Int} {c1 c2 : Nat} {most : Int} {news : Led} {new1 : Int → Tok → Led} {new2 : Int → Tok → List Value → Led}
    (B : Below A₀ base outer h₀) (F : Fr h₀ L s.heap m) (X : (hd.heap_1 w.params).In h₀) (N : News h₀ L s.heap news) (T : Top hd.view_1 (looseW hd.view_1 [Str.ofString "PolynomialRing", Str.ofString "PolynomialNTT"]) mean mg mb h₀) (hk : cs.kind = .function)
    (U1 : ∀ i' ti', Upd S (listOf [Value.int i ti, Value.ref C].toArray c1) (listOf [Value.int i' ti', Value.ref C].toArray c1) news (new1 i' ti'))
    (U2 : ∀ i' ti' vs', Upd C (listOf vs.toArray c2) (listOf (List.toArray vs') c2) (new1 i' ti') (new2 i' ti' vs'))
    (hd : dp + 1 < recursionLimit) (hu : un + 8 < cLine)
    (hSC : @Ne Nat S C) (hI : IntsAre vs ns) (hlen : 0 < ns.length) (hlen2 : ns.length ≤ 63) (hi : 0 ≤ i) (hm : 1 ≤ most) (hm2 : most ≤ 10000000)
    (hret : ∀ (r : Int) (t : Tok) (i' : Int) (ti' : Tok) (vs' : List Value) (ns' : List Int) (h' : Heap) (tk' : Nat), 0 ≤ r → r < most → 0 ≤ i' → IntsAre vs' ns' → ns'.length = ns.length → Fr h₀ L h' m → News h₀ L h' (new2 i' ti' vs') → Q (.int r t) { s with heap := h', toks := tk' }) :
    wpAny (model PySem.Challenge.rw_yi0040_01.row.prog w) (ktrTop dp un gd cn cs L a ccd cl outer) (call (.ref 440) [.ref S, .int most tm]) Q E s := by
  have hS := upd_old (U1 0 0)
  have hC : (C, listOf vs.toArray c2) ∈ news := by
    rcases upd_new (U1 0 0) _ (upd_old (U2 0 0 [])) with h | h
    · exact absurd (congrArg Prod.fst h).symm hSC
    · exact h.1
  refine take_spec (ti := ti) (c1 := c1) (c2 := c2) (rest := news.filter fun p => decide (p.1 ≠ S) && decide (p.1 ≠ C)) B F X ?_ T hk hd hu ?_ hSC hI hlen hlen2 hi hm hm2 ?_
  · intro p hp
    rcases List.mem_cons.mp hp with h | hp
    · exact N p (h ▸ hS)
    rcases List.mem_cons.mp hp with h | hp
    · exact N p (h ▸ hC)
    · exact N p (List.mem_filter.mp hp).1
  · intro p hp b hb e
    have h := (List.mem_filter.mp hp).2
    simp only [Bool.and_eq_true, decide_eq_true_eq] at h
    rcases List.mem_cons.mp hb with h1 | hb
    · exact h.1 (e.trans h1)
    · exact h.2 (e.trans (List.mem_singleton.mp hb))
  · intro r t i' ti' vs' ns' h' tk' a1 a2 a3 a4 a5 a6 F' N'
    refine hret r t i' ti' vs' ns' h' tk' a1 a2 (by omega) a5 a6 F' fun p hp => N' p ?_
    rcases upd_new (U2 i' ti' vs') p hp with h | ⟨h, n2⟩
    · exact h ▸ .tail _ (.head _)
    rcases upd_new (U1 i' ti') p h with h | ⟨h, n1⟩
    · exact h ▸ .head _
    · exact .tail _ (.tail _ (List.mem_filter.mpr ⟨h, by simp [n1, n2]⟩))
end Mine
-- part Terms
namespace Mine
open PySem PySem.W PyProof.Rows PyProof.V PySem.Calls
local macro_rules | `(tactic| walk_at "call ref") => `(tactic| k_extra "call ref")
local macro_rules | `(tactic| walk_at "pyIter ref") => `(tactic| k_extra "pyIter ref")
set_option maxRecDepth 100000 in
set_option maxHeartbeats 8000000 in
theorem terms_spec {w : World} {mean : ExcName → Option Value} {mg mb : Str → Option Value} {dp un : Nat} {gd : Option (List Code)} {cn : Str} {cs : Scope} {a : Addr} {ccd : Value} {cl : List (Str × Addr)} {outer : List Env} {A₀ : Around} {base h₀ : Heap} {L : Addr} {m : Str → Option Value} {s : Shared} {Q E : Value → Shared → Prop}
    {S C : Addr} {i : Int} {ti tm : Tok} {vs : List Value} {ns : List Int} {c1 c2 : Nat} {rest : Led}
    (B : Below A₀ base outer h₀) (F : Fr h₀ L s.heap m) (X : (hd.heap_1 w.params).In h₀) (N : News h₀ L s.heap ((S, listOf [Value.int i ti, Value.ref C].toArray c1) :: (C, listOf vs.toArray c2) :: rest)) (T : Top hd.view_1 (looseW hd.view_1 [Str.ofString "PolynomialRing", Str.ofString "PolynomialNTT"]) mean mg mb h₀) (hk : cs.kind = .function)
    (hd : dp + 2 < recursionLimit) (hu : un + 16 < cLine)
    (hoff : OwnOff rest [S, C]) (hSC : @Ne Nat S C) (hI : IntsAre vs ns) (hlen : 0 < ns.length) (hlen2 : ns.length ≤ 63) (hi : 0 ≤ i)
    (hret : ∀ (D : Addr) (o : Obj) (kvs : List (Int × Value)) (c : List (Int × Int)) (i' : Int) (ti' : Tok) (vs' : List Value) (h' : Heap) (tk' : Nat), (@LT.lt Nat _ S D) → (@LT.lt Nat _ C D) → (∀ p ∈ rest, p.1 < D) → (D == sysModules) = false → o.IsDictOf (PySem.intKind PySem.Challenge.rw_yi0040_01.row.prog w) kvs → FlatPairs PyData.int kvs (kdfD c) → (∀ p ∈ c, 0 ≤ p.1 ∧ p.1 < 256) → c.length ≤ 4 →
      Fr h₀ L h' m → News h₀ L h' ((D, o) :: (S, listOf [Value.int i' ti', Value.ref C].toArray c1) :: (C, listOf vs'.toArray c2) :: rest) → Q (.ref D) { s with heap := h', toks := tk' }) :
    wpAny (model PySem.Challenge.rw_yi0040_01.row.prog w) (ktrTop dp un gd cn cs L a ccd cl outer) (call (.ref 447) [.ref S, .int 4 tm]) Q E s := by
  have kMark := kstMark
  k_with "call ref" => ((refine' take_use ?k1 ?k2 ?k3 ?k4 ?k5 ?kK ?u1 ?u2 ?kd ?ku ?ks ?ki ?kl ?kl2 ?ki0 ?km ?km2 ?_); (case k1 => k_asm); (case k2 => k_asm); (case k3 => k_asm); (case k4 => k_asm); (case k5 => k_asm); (case kK => first | exact rfl | assumption); (case u1 => (intro i9 t9; k_upd)); (case u2 => (intro i9 t9 v9; k_upd)); (case kd => ktr_room); (case ku => ktr_units); (case ks => first | assumption | omega); (case ki => assumption); (case kl => omega); (case kl2 => omega); (case ki0 => omega); (case km => decide); (case km2 => decide); (intro r9 t9 i9 ti9 vs9 ns9 h9 tk9 a1 a2 a3 hI9 hL9 F9 N9); (try dsimp only at N9); (try dsimp only); (try k_fold))
  k_with "pyIter ref" => (refine hold ?_)
  refine wpAny_call ?_
  k_dflt cell_enter
  k_steps
  refine unhold ?_
  (rename Fr _ _ _ _ => lF'); (rename News _ _ _ _ => lN'); (rename IsRange _ _ _ _ _ _ _ _ => rgX)
  with_unfolding_all refine' kst_range (σ := (Obj × List (Int × Value) × List (Int × Int)) × Int × Tok × List Value × List Int)
                        (fun c => [(_, c.1.1), (S, listOf [Value.int c.2.1 c.2.2.1, Value.ref C].toArray c1), (C, listOf c.2.2.2.1.toArray c2)] ++ rest)
                        (fun _ => [])
                        (fun c => Obj.IsDictOf (PySem.intKind PySem.Challenge.rw_yi0040_01.row.prog w) c.1.1 c.1.2.1 ∧ FlatPairs PyData.int c.1.2.1 (kdfD c.1.2.2) ∧ IntsAre c.2.2.2.1 c.2.2.2.2)
                        [Str.ofString "degree", Str.ofString "number"]
                        (fun pre c => 0 ≤ c.2.1 ∧ c.2.2.2.2.length = ns.length ∧ c.1.2.2.length ≤ pre.length ∧ ∀ p ∈ c.1.2.2, 0 ≤ p.1 ∧ p.1 < 256)
                        ((_, _, []), _, _, _, _) (by rfl) (by exact rgX) (by exact small_one (by omega) (by omega) (by omega) (by omega)) (by exact rangeSize_nat _ _) lF' lN' ?kf ?kk ?kp ?turn ?done
  (case kf => exact ⟨by assumption, by assumption, by assumption⟩)
  (case kk => exact List.forall_mem_nil _)
  (case kp => exact ⟨by assumption, by assumption, by simp, fun p hp => nomatch hp⟩)
  (all_goals (try clear lF' lN'))
  (case' turn => (
      rintro ⟨⟨o, kvs, d⟩, i, ti, vs, ns2⟩ pre k t u h tk own hkk hlt hown ⟨f1, f2, f3⟩ ⟨p1, p2, p3, p4⟩ lF' lN'
      dsimp only [kstB] at lF'
      dsimp only at lN' f1 f2 f3 p1 p2 p3 p4 hown
      simp only [List.nil_append, List.cons_append, List.append_nil] at lN'))
  (case' done => (
      rintro ⟨⟨o, kvs, d⟩, i, ti, vs, ns2⟩ u h tk ⟨f1, f2, f3⟩ ⟨p1, p2, p3, p4⟩ lF' lN'
      dsimp only [kstB] at lF'
      dsimp only at lN' f1 f2 f3 p1 p2 p3 p4
      simp only [List.nil_append, List.cons_append, List.append_nil] at lN'))
  all_goals (try k_fold)
  k_steps
  all_goals first
    | (refine' hret _ o kvs d _ _ _ _ _ ?e1 ?e2 ?e3 ?e4 ?e5 ?e6 ?e7 ?e8 ?e9 ?e10
       (case e9 => assumption)
       (case e10 => assumption)
       (case e1 => omega)
       (case e2 => omega)
       (case e3 => exact kst_ltOf (And.right (And.right (by assumption))))
       (case e4 => assumption)
       (case e5 => assumption)
       (case e6 => assumption)
       (case e7 => assumption)
       (case e8 => (rw [rangeKs_length] at p3; omega)))
    | (refine kst_end ((_, _, _), _, _, _, _) (by assumption) (by assumption) (by first | kst_in | kst_inAny) (by first | (intro p hp; kst_mem) | kst_anyIn) (by rfl) ⟨by assumption, by assumption, by assumption⟩ (by exact List.forall_mem_nil _) (by kst_same) ⟨?q1, ?q2, ?q3, ?q4⟩
       (case q1 => assumption)
       (case q2 => (dsimp only; omega))
       (case q3 => (refine Nat.le_trans (kdfPut_len _ _ _) ?_; rw [List.length_append]; exact Nat.add_le_add_right p3 1))
       (case q4 => exact put_keys p4 (menu_deg (by assumption) (by assumption) (by assumption) (by assumption) _)))
    | skip
end Mine
-- part Row
namespace Mine
open PySem PySem.W PyProof.Rows PyProof.V PySem.Calls
def rowOf (c : List (Int × Int)) (ks : List Int) (r : List Int) : List Int := ks.foldl (fun r k => r.set k.toNat (kdfLook c k 0)) r
theorem rowOf_len (c : List (Int × Int)) : ∀ (ks : List Int) (r : List Int), (rowOf c ks r).length = r.length
  | [], _ => rfl
  | k :: ks, r => by
    show (rowOf c ks (r.set k.toNat (kdfLook c k 0))).length = _
    rw [rowOf_len, List.length_set]
theorem rowOf_snoc (c : List (Int × Int)) (ks : List Int) (k : Int) (r : List Int) : rowOf c (ks ++ [k]) r = (rowOf c ks r).set k.toNat (kdfLook c k 0) := by
  unfold rowOf
  rw [List.foldl_append]
  rfl
local macro_rules | `(tactic| walk_at "call ref") => `(tactic| k_extra "call ref")
local macro_rules | `(tactic| walk_at "pyIter ref") => `(tactic| k_extra "pyIter ref")
local macro_rules | `(tactic| walk_at "exec For Name Name cons nil") => `(tactic| (k_here; (rename Fr _ _ _ _ => lF'); (with_unfolding_all refine' For_invVF lF' ?k1 ?k2 ?_; (case k1 => exact rfl); (case k2 => exact rfl); k_whole)))
set_option maxRecDepth 100000 in
set_option maxHeartbeats 8000000 in
theorem row_spec {w : World} {mean : ExcName → Option Value} {mg mb : Str → Option Value} {dp un : Nat} {gd : Option (List Code)} {cn : Str} {cs : Scope} {a : Addr} {ccd : Value} {cl : List (Str × Addr)} {outer : List Env} {A₀ : Around} {base h₀ : Heap} {L : Addr} {m : Str → Option Value} {s : Shared} {Q E : Value → Shared → Prop}
    {D : Addr} {o : Obj} {kvs : List (Int × Value)} {c : List (Int × Int)} {rest : Led}
    (B : Below A₀ base outer h₀) (F : Fr h₀ L s.heap m) (X : (hd.heap_1 w.params).In h₀) (N : News h₀ L s.heap ((D, o) :: rest)) (T : Top hd.view_1 (looseW hd.view_1 [Str.ofString "PolynomialRing", Str.ofString "PolynomialNTT"]) mean mg mb h₀) (hk : cs.kind = .function)
    (hd : dp + 1 < recursionLimit) (hu : un + 8 < cLine)
    (lo : (D == sysModules) = false) (hdo : o.IsDictOf (PySem.intKind PySem.Challenge.rw_yi0040_01.row.prog w) kvs) (hdf : FlatPairs PyData.int kvs (kdfD c)) (hks : ∀ p ∈ c, 0 ≤ p.1 ∧ p.1 < 256)
    (hret : ∀ (R : Addr) (vs : List Value) (n2 : Nat) (h' : Heap) (tk' : Nat), (∀ p ∈ (D, o) :: rest, p.1 < R) → IntsAre vs (rowOf c (c.map (·.1)) (List.replicate 256 0)) →
      Fr h₀ L h' m → News h₀ L h' ((R, listOf vs.toArray n2) :: (D, o) :: rest) → Q (.ref R) { s with heap := h', toks := tk' }) :
    wpAny (model PySem.Challenge.rw_yi0040_01.row.prog w) (ktrTop dp un gd cn cs L a ccd cl outer) (call (.ref 454) [.ref D]) Q E s := by
  have kMark := kstMark
  k_with_none
  k_with "pyIter ref" => (refine hold ?_)
  refine wpAny_call ?_
  k_dflt cell_enter
  k_steps
  refine unhold ?_
  (rename Fr _ _ _ _ => lF'); (rename News _ _ _ _ => lN'); (rename IntsAre _ _ => i1)
  have er : (List.replicate (Int.toNat 256) [(0 : Int)]).flatten = List.replicate 256 0 := by decide +kernel
  rw [er] at i1
  with_unfolding_all refine' kst_dict (σ := List Value × List Int × Nat) (ns := c.map (·.1))
                        (fun z => [(_, listOf z.1.toArray z.2.2), (_, _), (D, o)] ++ rest)
                        (fun _ => [])
                        (fun z => IntsAre z.1 z.2.1)
                        []
                        (fun pre z => z.2.1 = rowOf c pre (List.replicate 256 0))
                        (_, _, _) (by rfl) (by intro z; exact .tail _ (.tail _ (.head _))) lo hdo (flat_keys hdf) lF' lN' ?kf ?kk ?kp ?turn ?done
  (case kf => exact i1)
  (case kk => exact List.forall_mem_nil _)
  (case kp => rfl)
  (all_goals (try clear lF' lN'))
  (case' turn => (
      rintro ⟨vs, ns, n2⟩ pre post k t u h tk own hsp hmem hown f1 p1 lF' lN'
      dsimp only [kstB] at lF'
      dsimp only at lN' f1 p1 hown
      simp only [List.nil_append, List.cons_append, List.append_nil] at lN'
      have hhas := has_of_mem hmem
      obtain ⟨q, hq, hqk⟩ := List.mem_map.mp hmem
      have hq2 := hks q hq
      rw [hqk] at hq2
      have hl : ns.length = 256 := by rw [p1, rowOf_len, List.length_replicate]))
  (case' done => (
      rintro ⟨vs, ns, n2⟩ u h tk f1 p1 lF' lN'
      dsimp only [kstB] at lF'
      dsimp only at lN' f1 p1
      simp only [List.nil_append, List.cons_append, List.append_nil] at lN'))
  all_goals (try k_fold)
  k_steps
  all_goals first
    | (refine' hret _ vs n2 _ _ ?e1 ?e2 ?e3 ?e4
       (case e3 => assumption)
       (case e4 => exact kst_newsOf (by assumption) (by kst_inAny))
       (case e2 => exact p1 ▸ f1)
       (case e1 => exact kst_ltOf (And.right (by assumption))))
    | (refine kst_end (_, _, _) (by assumption) (by assumption) (by first | kst_in | kst_inAny) (by first | (intro p hp; kst_mem) | kst_anyIn) (by rfl) (by assumption) (by exact List.forall_mem_nil _) (by kst_same) ?q1
       (case q1 => (dsimp only; rw [rowOf_snoc, ← p1])))
end Mine
-- part Pow
namespace Mine
open PySem PySem.W PyProof.Rows PyProof.V PySem.Calls
set_option maxRecDepth 100000 in
theorem gives_powB (a : Int) (t : Tok) (b : Int) (u v : Tok) (hb : ¬ b < 0) : Gives (Builtin.«int.__pow__» ⟨[.int a t, .int b u, .int 3329 v], []⟩) (.int ((Builtin.powMod (a % 3329).toNat b.natAbs 3329 : Nat) : Int)) :=
  .of_wp fun M A E s Q h => by
    obtain ⟨hp, g, d, tk, os⟩ := s
    wp_walk
    rw [if_neg (by simp)]
    exact ⟨_, rfl, h⟩
set_option maxRecDepth 100000 in
theorem gives_powI (t u v : Tok) : Gives (Builtin.«int.__pow__» ⟨[.int 128 t, .int (-1) u, .int 3329 v], []⟩) (.int 3303) :=
  .of_wp fun M A E s Q h => by
    obtain ⟨hp, g, d, tk, os⟩ := s
    wp_walk
    exact ⟨_, congrArg (fun z => Fin.done (Flow.ret (Value.int z tk))) (a₂ := 3303) (by decide +kernel), h⟩
theorem pow_kind : builtinKind "pow" = none := by decide +kernel
theorem pow_plain : plainId "pow" = true := by decide +kernel
theorem pow_entry : entryFor table "pow" = some Builtin.«pow» := entryFor_of_fast (by kernel_rfl)
theorem pow_args3 (a b c : Value) : argsOk "pow" ⟨[a, b, c], []⟩ := by unfold argsOk; kernel_rfl
theorem ipow_args3 (a b c : Value) : argsOk "int.__pow__" ⟨[a, b, c], []⟩ := by unfold argsOk; kernel_rfl
theorem dunder_pow : PySem.dunder "pow" = Str.ofString "__pow__" := by decide +kernel
section
variable {prog : Program} {w : World} {A : Around} {E : Value → Shared → Prop} {s : Shared} {Q : Value → Shared → Prop}
set_option maxHeartbeats 4000000 in
set_option maxRecDepth 100000 in
theorem call_pow3 {a b c r : Int} {t u v : Tok} (G : Gives (Builtin.«int.__pow__» ⟨[.int a t, .int b u, .int c v], []⟩) (.int r)) (h : ∀ t' k, Q (.int r t') { s with toks := k }) : wpAny (model prog w) A (call (.builtin "pow") [.int a t, .int b u, .int c v]) Q E s := by
  refine call_function_entry pow_kind pow_plain pow_entry (pow_args3 _ _ _) ?_
  obtain ⟨hp, g, d, tk, os⟩ := s
  have hT : (⟨hp, g, d, tk, os⟩ : Shared).TypeIs (.int a t) "int" := rfl
  have f3 := F.slot_int_pow.lookup
  have f4 := F.slot_int_pow.bind (.int a t)
  rw [dunder_pow] at f3
  repeat (any_goals (first | assumption | ((with_reducible show wpAny _ _ (call (Value.builtin "int.__pow__") _ _) _ _ _); refine call_gives F.slot_int_pow hT F.entry_int_pow (ipow_args3 _ _ _) G ?_; dsimp only [Made.post]) | wp_step))
  all_goals first | exact ⟨_, rfl, h _ _⟩ | exact h _ _ | skip
def zetaP (e : Int) : Int := ((Builtin.powMod ((17 : Int) % 3329).toNat e.natAbs 3329 : Nat) : Int)
theorem call_powB {a b : Int} {t u v : Tok} (hb : ¬ b < 0) (h : ∀ t' k, Q (.int ((Builtin.powMod (a % 3329).toNat b.natAbs 3329 : Nat) : Int) t') { s with toks := k }) : wpAny (model prog w) A (call (.builtin "pow") [.int a t, .int b u, .int 3329 v]) Q E s := call_pow3 (gives_powB a t b u v hb) h
theorem call_powZ {b : Int} {t u v : Tok} (hb : ¬ b < 0) (h : ∀ t' k, Q (.int (zetaP b) t') { s with toks := k }) : wpAny (model prog w) A (call (.builtin "pow") [.int 17 t, .int b u, .int 3329 v]) Q E s := call_powB hb (by unfold zetaP at h; exact h)
theorem call_powI {t u v : Tok} (h : ∀ t' k, Q (.int 3303 t') { s with toks := k }) : wpAny (model prog w) A (call (.builtin "pow") [.int 128 t, .int (-1) u, .int 3329 v]) Q E s := call_pow3 (gives_powI t u v) h
end
end Mine
-- part Text
namespace Mine
open PySem PySem.W PyProof.Rows PyProof.V PySem.Calls
def revS (x : Str) : Str := ⟨((Builtin.Str.strSliceIndices none none (-1) x.length).filterMap (x.cps[·]?)).toArray⟩
section
variable {prog : Program} {w : World} {A : Around} {E : Value → Shared → Prop} {s : Shared} {h₀ : Heap} {L : Addr} {m : Str → Option Value} {news : List (Addr × Obj)} {x : Str} {t ui : Tok} {value slice : Expr}
theorem rev_str {Q : Value → Shared → Prop} (hF : Fr h₀ L s.heap m) (hN : News h₀ L s.heap news) (hsz : (revS x).length ≤ sizeLine) (h : ∀ h' t' k, Fr h₀ L h' m → News h₀ L h' news → Q (.str (revS x) t') { s with heap := h', toks := k })
    (hs : subscripted slice false (.str x t) (.ref s.heap.objs.size) = operate [.ref s.heap.objs.size, .str x t] (getItem (.str x t) (.ref s.heap.objs.size)) := by with_unfolding_all rfl)
    (ht : ∀ r, letTemporaryGo value (.str x t) r = pure () := by intro _; with_unfolding_all rfl) :
    wpAny (model prog w) A (subscriptTail value slice (.str x t) (.ref s.heap.objs.size)) Q E { s with heap := s.heap.push { cls := .type "slice", data := .fields #[.none, .none, .int (-1) ui] } } := by
  refine tail_of_ItemOn ⟨"str", _, F.slot_str_getitem.lookup, typeIs_str _ _ _, wpAny_getItem_str_slice (l := none) (u := none) (st := some (-1, ui)) ⟨_, Heap.get?_push_size _ rfl, rfl, rfl⟩ rfl ?_⟩ hs ht
  have e : sliceMade x t none none (some (-1, ui)) = .str (revS x) := rfl
  rw [e]
  exact ⟨hsz, h _ _ _ (hF.push _) (News.grown hN fun b o e => Heap.get?_push_of_some _ e)⟩
end
section
variable {prog : Program} {w : World} {A : Around} {E : Value → Shared → Prop} {s : Shared} {h₀ : Heap} {L : Addr} {m : Str → Option Value} {news : List (Addr × Obj)} {x : Str} {t ui u : Tok} {value slice : Expr} {i : Int}
theorem bin_x {Q : Value → Shared → Prop} (hl : (baseText "0b" 2 i).length ≤ sizeLine) (h : ∀ y t' k, KIN.Hid (y = baseText "0b" 2 i) → Q (.str y t') { s with toks := k }) : wpAny (model prog w) A (call (.builtin "bin") [.int i t]) Q E s := P.bin_of_int (h _ _ _ ⟨rfl⟩) hl
theorem slice_x {Q : Value → Shared → Prop} (hF : Fr h₀ L s.heap m) (hN : News h₀ L s.heap news) (hl : x.length ≤ sizeLine) (h : ∀ y h' t' k, KIN.Hid (y = Txt.slice x (some i) none) → Fr h₀ L h' m → News h₀ L h' news → Q (.str y t') { s with heap := h', toks := k })
    (hs : subscripted slice false (.str x t) (.ref s.heap.objs.size) = operate [.ref s.heap.objs.size, .str x t] (getItem (.str x t) (.ref s.heap.objs.size)) := by with_unfolding_all rfl)
    (ht : ∀ r, letTemporaryGo value (.str x t) r = pure () := by intro _; with_unfolding_all rfl) :
    wpAny (model prog w) A (subscriptTail value slice (.str x t) (.ref s.heap.objs.size)) Q E { s with heap := s.heap.push { cls := .type "slice", data := .fields #[.int i ui, .none, .none] } } :=
  slice_strN_sn hF hN (fun h' t' k a b => h _ h' t' k ⟨rfl⟩ a b) hs ht hl
theorem rev_x {Q : Value → Shared → Prop} (hF : Fr h₀ L s.heap m) (hN : News h₀ L s.heap news) (hl : (revS x).length ≤ sizeLine) (h : ∀ y h' t' k, KIN.Hid (y = revS x) → Fr h₀ L h' m → News h₀ L h' news → Q (.str y t') { s with heap := h', toks := k })
    (hs : subscripted slice false (.str x t) (.ref s.heap.objs.size) = operate [.ref s.heap.objs.size, .str x t] (getItem (.str x t) (.ref s.heap.objs.size)) := by with_unfolding_all rfl)
    (ht : ∀ r, letTemporaryGo value (.str x t) r = pure () := by intro _; with_unfolding_all rfl) :
    wpAny (model prog w) A (subscriptTail value slice (.str x t) (.ref s.heap.objs.size)) Q E { s with heap := s.heap.push { cls := .type "slice", data := .fields #[.none, .none, .int (-1) ui] } } :=
  rev_str hF hN hl (fun h' t' k a b => h _ h' t' k ⟨rfl⟩ a b) hs ht
theorem zfill_x {Q : Value → Shared → Prop} (hp : PadOk i = true) (h : ∀ y t' k, KIN.Hid (y = Txt.zfill x i) → Q (.str y t') { s with toks := k }) : wpAny (model prog w) A (call (.builtin "str.zfill") [.str x t, .int i u]) Q E s := SC.zfill hp fun t' k => h _ t' k ⟨rfl⟩
end
theorem typeCall_int_2 (a b : Value) : checkTypeCall "int" ⟨[a, b], []⟩ = pure () := by kernel_rfl
theorem newCall_int_2 (a b : Value) : checkBuiltinCall "int.__new__" ⟨[.type "int", a, b], []⟩ = pure () := by kernel_rfl
theorem args_obj_init_3 (a b c : Value) : argsOk "object.__init__" ⟨[a, b, c], []⟩ := by unfold argsOk; kernel_rfl
theorem wp_text2 {M : Model} {A : Around} {E : Value → Shared → Prop} {s : Shared} {Q : Value → Shared → Prop} {v : Value} {text : List Nat} {n : Int}
    (hs : (text.takeWhile (· != 0)).length ≤ 640) (hr : (int_private% "readNumeral") 0 2 (text.takeWhile (· != 0)) = (int_private% "Numeral.value") n)
    (ha : ((text.takeWhile (· != 0)).length == text.length) = true) (h : Q (.int n s.toks) { s with toks := s.toks + 1 }) :
    wpAny M A ((int_private% "intFromText") v text 2) Q E s := by
  obtain ⟨hp, g, d, tk, os⟩ := s
  repeat (any_goals (first
    | assumption
    | (with_reducible refine wpAny_ite_true (decide_eq_true hs) ?_)
    | (with_reducible refine wpAny_ite_true (decide_eq_true ha) ?_)
    | wp_step))
  all_goals (try rw [hr])
  all_goals (try dsimp only)
  repeat (any_goals (first
    | assumption
    | (with_reducible refine wpAny_ite_true (decide_eq_true hs) ?_)
    | (with_reducible refine wpAny_ite_true (decide_eq_true ha) ?_)
    | wp_step))
set_option maxHeartbeats 4000000 in
theorem gives_text2 {x : PySem.Str} {u t2 : Tok} {n : Int} (hk : KIN.Hid ((numSeenOf x).length ≤ 640 ∧ (int_private% "readNumeral") 0 2 (numSeenOf x) = (int_private% "Numeral.value") n ∧ ((numSeenOf x).length == (numTextOf x).length) = true) ) : Gives (Builtin.«int.__new__» ⟨[.type "int", .str x u, .int 2 t2], []⟩) (.int n) :=
  .of_wp fun M A E s Q h => by
    obtain ⟨hp, g, d, tk, os⟩ := s
    have f1 := F.conv_sub_int
    have f2 := F.madeHere_int
    have f3 := KIN.str_int
    have f4 := KIN.str_idx
    have f5 := KIN.str_trunc
    have f6 : typeOf (.str x u) = pure (.type "str") := rfl
    repeat (any_goals (first
      | assumption
      | ((with_reducible show wpAny _ _ ((int_private% "intFromText") _ _ _) _ _ _); refine wp_text2 hk.out.1 hk.out.2.1 hk.out.2.2 ?_)
      | wp_step))
    exact ⟨_, rfl, h⟩
section
variable {prog : Program} {w : World} {A : Around} {E : Value → Shared → Prop} {s : Shared} {Q : Value → Shared → Prop} {x : PySem.Str} {t t2 : Tok} {n : Int}
theorem call_int2 (hk : KIN.Hid ((numSeenOf x).length ≤ 640 ∧ (int_private% "readNumeral") 0 2 (numSeenOf x) = (int_private% "Numeral.value") n ∧ ((numSeenOf x).length == (numTextOf x).length) = true)) (h : Q (.int n s.toks) { s with toks := s.toks + 1 }) : wpAny (model prog w) A (call (.type "int") [.str x t, .int 2 t2]) Q E s :=
  callType_new F.called_int F.newNe_int (typeCall_int_2 _ _) (newCall_int_2 _ _) (fun obj => args_obj_init_3 obj _ _) F.entry_int_new (gives_text2 hk).meets (show (Made.int n).post _ s from ⟨rfl, h⟩)
end
def brT1 (k : Int) : Str := baseText "0b" 2 (Builtin.bitAnd k (2 ^ Int.toNat 7 - 1))
def brT2 (k : Int) : Str := Txt.slice (brT1 k) (some 2) none
def brT3 (k : Int) : Str := Txt.zfill (brT2 k) 7
def brT4 (k : Int) : Str := revS (brT3 k)
def brv (k : Int) : Int := k % 2 * 64 + k / 2 % 2 * 32 + k / 4 % 2 * 16 + k / 8 % 2 * 8 + k / 16 % 2 * 4 + k / 32 % 2 * 2 + k / 64 % 2
theorem br_lens : ∀ n : Fin 128, (brT1 (n.1 : Int)).length ≤ 9 ∧ (brT2 (n.1 : Int)).length ≤ 7 ∧ (brT3 (n.1 : Int)).length = 7 ∧ (brT4 (n.1 : Int)).length = 7 ∧ (numSeenOf (brT4 (n.1 : Int))).length = 7 ∧ (numTextOf (brT4 (n.1 : Int))).length = 7 := by decide +kernel
theorem br_reads : (List.range 128).map (fun n => (int_private% "readNumeral") 0 2 (numSeenOf (brT4 ((n : Nat) : Int)))) = (List.range 128).map (fun n => (int_private% "Numeral.value") (brv ((n : Nat) : Int))) := by kernel_rfl
theorem br_facts {k : Int} (h0 : 0 ≤ k) (h1 : k < 128) : (brT1 k).length ≤ 9 ∧ (brT2 k).length ≤ 7 ∧ (brT3 k).length = 7 ∧ (brT4 k).length = 7 ∧ KIN.Hid ((numSeenOf (brT4 k)).length ≤ 640 ∧ (int_private% "readNumeral") 0 2 (numSeenOf (brT4 k)) = (int_private% "Numeral.value") (brv k) ∧ ((numSeenOf (brT4 k)).length == (numTextOf (brT4 k)).length) = true) := by
  obtain ⟨n, rfl⟩ := Int.eq_ofNat_of_zero_le h0
  have hn : n < 128 := by omega
  obtain ⟨a, b, c, d, e, f⟩ := br_lens ⟨n, hn⟩
  refine ⟨a, b, c, d, ⟨by dsimp only at e; omega, ?_, by dsimp only at e f; rw [e, f]; rfl⟩⟩
  exact List.map_inj_left.mp br_reads n (List.mem_range.mpr hn)
theorem brv_range {k : Int} (h0 : 0 ≤ k) (h1 : k < 128) : 0 ≤ brv k ∧ brv k < 128 := by unfold brv; omega
end Mine
-- part Br
namespace Mine
open PySem PySem.W PyProof.Rows PyProof.V PySem.Calls
local macro_rules | `(tactic| walk_at "call builtin:bin") => `(tactic| k_extra "call builtin:bin")
local macro_rules | `(tactic| walk_at "subscriptTail Name Slice str ref") => `(tactic| k_extra "slice")
local macro_rules | `(tactic| walk_at "call builtin:str.zfill") => `(tactic| k_extra "zfill")
local macro_rules | `(tactic| walk_at "call type:int") => `(tactic| k_extra "int")
set_option maxRecDepth 100000 in
set_option maxHeartbeats 8000000 in
theorem br_spec {w : World} {mean : ExcName → Option Value} {mg mb : Str → Option Value} {dp un : Nat} {gd : Option (List Code)} {cn : Str} {cs : Scope} {a : Addr} {ccd : Value} {cl : List (Str × Addr)} {outer : List Env} {A₀ : Around} {base h₀ : Heap} {L : Addr} {m : Str → Option Value} {s : Shared} {Q E : Value → Shared → Prop}
    {k : Int} {t t2 : Tok} {rest : Led}
    (B : Below A₀ base outer h₀) (F : Fr h₀ L s.heap m) (X : (hd.heap_1 w.params).In h₀) (N : News h₀ L s.heap rest) (T : Top hd.view_1 (looseW hd.view_1 [Str.ofString "PolynomialRing", Str.ofString "PolynomialNTT"]) mean mg mb h₀) (hk : cs.kind = .function)
    (hd : dp + 1 < recursionLimit) (hu : un + 8 < cLine)
    (h0 : 0 ≤ k) (h1 : k < 128)
    (hret : ∀ (t' : Tok) (h' : Heap) (tk' : Nat), Fr h₀ L h' m → News h₀ L h' rest → Q (.int (brv k) t') { s with heap := h', toks := tk' }) :
    wpAny (model PySem.Challenge.rw_yi0040_01.row.prog w) (ktrTop dp un gd cn cs L a ccd cl outer) (call (.ref 245) [.int k t, .int 7 t2]) Q E s := by
  k_with_none
  k_with "call builtin:bin" => (refine bin_x (Nat.le_trans (br_facts h0 h1).1 (by decide)) ?_; intro x1 t9 k9 hx1)
  k_with "slice" => (first
    | ((rename Fr _ _ _ _ => lF'); (rename News _ _ _ _ => lN'); (refine slice_x lF' lN' (by rw [hx1.out]; exact Nat.le_trans (br_facts h0 h1).1 (by decide)) ?_ (by rfl) (by intro _; rfl)); intro x2 h9 t9 k9 hx2 F9 N9)
    | ((rename Fr _ _ _ _ => lF'); (rename News _ _ _ _ => lN'); (refine rev_x lF' lN' (by rw [hx3.out, hx2.out, hx1.out]; exact Nat.le_trans (Nat.le_of_eq (br_facts h0 h1).2.2.2.1) (by decide)) ?_ (by rfl) (by intro _; rfl)); intro x4 h9 t9 k9 hx4 F9 N9))
  k_with "zfill" => (refine zfill_x (by decide) ?_; intro x3 t9 k9 hx3)
  k_with "int" => (refine call_int2 (by rw [hx4.out, hx3.out, hx2.out, hx1.out]; exact (br_facts h0 h1).2.2.2.2) ?_)
  refine wpAny_call ?_
  k_dflt cell_enter
  k_steps
  exact hret _ _ _ (by assumption) (by assumption)
end Mine
-- part Defs
namespace Mine
open PySem PySem.W PyProof.Rows PyProof.V PySem.Calls
abbrev polyD (P : Params) (t1 t2 : Tok) (r W : Addr) : Obj := dictOf [⟨PyData.keyHash P (Str.ofString "parent"), Value.str (Str.ofString "parent") t1, Value.ref r⟩, ⟨PyData.keyHash P (Str.ofString "coeffs"), Value.str (Str.ofString "coeffs") t2, Value.ref W⟩] 2
abbrev ringD (P : Params) (t3 t4 t5 t6 t7 t8 t9 : Tok) (z : Addr) : Obj := dictOf [⟨PyData.keyHash P (Str.ofString "q"), Value.str (Str.ofString "q") t3, Value.int 3329 t4⟩, ⟨PyData.keyHash P (Str.ofString "n"), Value.str (Str.ofString "n") t5, Value.int 256 t6⟩, ⟨PyData.keyHash P (Str.ofString "ntt_zetas"), Value.str (Str.ofString "ntt_zetas") t7, Value.ref z⟩, ⟨PyData.keyHash P (Str.ofString "ntt_f"), Value.str (Str.ofString "ntt_f") t8, Value.int 3303 t9⟩] 4
def bfI (z l : Int) (c : List Int) (j : Int) : List Int :=
  (c.set (j + l).toNat (c.getD j.toNat 0 - z * c.getD (j + l).toNat 0)).set j.toNat ((c.set (j + l).toNat (c.getD j.toNat 0 - z * c.getD (j + l).toNat 0)).getD j.toNat 0 + z * c.getD (j + l).toNat 0)
theorem bfI_len (z l : Int) (c : List Int) (j : Int) : (bfI z l c j).length = c.length := by unfold bfI; rw [List.length_set, List.length_set]
def loop3 (z l st : Int) (c : List Int) : List Int := (rangeKs st l.toNat).foldl (bfI z l) c
theorem foldl_len {α : Type} {f : List Int → α → List Int} (hf : ∀ c a, (f c a).length = c.length) : ∀ (ks : List α) (c : List Int), (ks.foldl f c).length = c.length
  | [], _ => rfl
  | k :: ks, c => by rw [List.foldl_cons, foldl_len hf ks, hf]
theorem loop3_len (z l st : Int) (c : List Int) : (loop3 z l st c).length = c.length := foldl_len (bfI_len z l) _ _
def blockF (zs : List Int) (l : Int) (k0 : Nat) (c0 : List Int) (b : Nat) : List Int := (List.range b).foldl (fun c i => loop3 (zs.getD (k0 + i) 0) l (2 * l * (i : Int)) c) c0
theorem blockF_len (zs : List Int) (l : Int) (k0 : Nat) (c0 : List Int) (b : Nat) : (blockF zs l k0 c0 b).length = c0.length := foldl_len (fun _ _ => loop3_len _ _ _ _) _ _
theorem blockF_succ (zs : List Int) (l : Int) (k0 : Nat) (c0 : List Int) (b : Nat) : blockF zs l k0 c0 (b + 1) = loop3 (zs.getD (k0 + b) 0) l (2 * l * (b : Int)) (blockF zs l k0 c0 b) := by
  unfold blockF
  rw [List.range_succ, List.foldl_append]
  rfl
def lv : Nat → Int
  | 0 => 128 | 1 => 64 | 2 => 32 | 3 => 16 | 4 => 8 | 5 => 4 | 6 => 2 | _ => 1
def kv : Nat → Nat
  | 0 => 1 | 1 => 2 | 2 => 4 | 3 => 8 | 4 => 16 | 5 => 32 | 6 => 64 | _ => 128
def layersF (zs : List Int) : Nat → List Int → List Int
  | 0, c => c
  | m + 1, c => blockF zs (lv m) (kv m) (layersF zs m c) (kv m)
theorem layersF_len (zs : List Int) : ∀ (m : Nat) (c : List Int), (layersF zs m c).length = c.length
  | 0, _ => rfl
  | m + 1, c => by rw [layersF, blockF_len, layersF_len zs m c]
def Inv1 (zs cc : List Int) (l k : Int) (c : List Int) : Prop := ∃ m : Nat, m ≤ 7 ∧ l = lv m ∧ k = (kv m : Nat) ∧ c = layersF zs m cc
def Inv2 (zs : List Int) (l k0 : Int) (c0 : List Int) (start k : Int) (c : List Int) : Prop := ∃ b : Nat, start = 2 * l * (b : Int) ∧ k = k0 + (b : Int) ∧ c = blockF zs l k0.toNat c0 b
theorem inv1_start (zs cc : List Int) : Inv1 zs cc 128 1 cc := ⟨0, by omega, rfl, rfl, rfl⟩
theorem m_cases {m : Nat} (h : m ≤ 7) : m = 0 ∨ m = 1 ∨ m = 2 ∨ m = 3 ∨ m = 4 ∨ m = 5 ∨ m = 6 ∨ m = 7 := by omega
theorem inv1_facts {zs cc c : List Int} {l k : Int} (h : Inv1 zs cc l k c) : 1 ≤ l ∧ l ≤ 128 ∧ 1 ≤ k ∧ k ≤ 128 ∧ c.length = cc.length ∧ (2 ≤ l → k < 128 ∧ 2 * l ≤ 256) := by
  obtain ⟨m, hm, rfl, rfl, rfl⟩ := h
  refine ⟨?_, ?_, ?_, ?_, layersF_len _ _ _, ?_⟩ <;> rcases m_cases hm with rfl | rfl | rfl | rfl | rfl | rfl | rfl | rfl <;> simp [lv, kv]
theorem inv2_start (zs : List Int) (l k0 : Int) (c0 : List Int) : Inv2 zs l k0 c0 0 k0 c0 := ⟨0, by simp, by simp, rfl⟩
theorem inv2_step {zs cc c0 c : List Int} {l k0 start k : Int} (h1 : Inv1 zs cc l k0 c0) (hl : 2 ≤ l) (h2 : Inv2 zs l k0 c0 start k c) (hs : start < 256) :
    0 ≤ start ∧ 0 ≤ k ∧ k < 128 ∧ start + 2 * l ≤ 256 ∧ (l + (start + l - 1 + 1) ≤ 256) ∧ Inv2 zs l k0 c0 (l + (start + l - 1 + 1)) (k + 1) (loop3 (zs.getD k.toNat 0) l start c) := by
  obtain ⟨m, hm, rfl, rfl, rfl⟩ := h1
  obtain ⟨b, rfl, rfl, rfl⟩ := h2
  refine ⟨?_, ?_, ?_, ?_, ?_, b + 1, ?_, ?_, ?_⟩
  · rcases m_cases hm with rfl | rfl | rfl | rfl | rfl | rfl | rfl | rfl <;> simp only [lv] at hl ⊢ <;> omega
  · omega
  · rcases m_cases hm with rfl | rfl | rfl | rfl | rfl | rfl | rfl | rfl <;> simp only [lv, kv] at hl hs ⊢ <;> omega
  · rcases m_cases hm with rfl | rfl | rfl | rfl | rfl | rfl | rfl | rfl <;> simp only [lv] at hl hs ⊢ <;> omega
  · rcases m_cases hm with rfl | rfl | rfl | rfl | rfl | rfl | rfl | rfl <;> simp only [lv] at hl hs ⊢ <;> omega
  · rcases m_cases hm with rfl | rfl | rfl | rfl | rfl | rfl | rfl | rfl <;> simp only [lv] at hl hs ⊢ <;> omega
  · omega
  · rw [blockF_succ]
    have e : (((kv m : Nat) : Int) + (b : Int)).toNat = (((kv m : Nat) : Int)).toNat + b := by omega
    rw [e]
theorem inv1_step {zs cc c0 c : List Int} {l k0 start k : Int} (h1 : Inv1 zs cc l k0 c0) (hl : 2 ≤ l) (h2 : Inv2 zs l k0 c0 start k c) (hs : ¬ start < 256) (hs2 : start ≤ 256) : Inv1 zs cc (l / 2) k c := by
  obtain ⟨m, hm, rfl, rfl, rfl⟩ := h1
  obtain ⟨b, rfl, rfl, rfl⟩ := h2
  have hb : b = kv m ∧ m ≤ 6 := by
    rcases m_cases hm with rfl | rfl | rfl | rfl | rfl | rfl | rfl | rfl <;> simp only [lv, kv] at hl hs hs2 ⊢ <;> omega
  obtain ⟨rfl, hm6⟩ := hb
  refine ⟨m + 1, by omega, ?_, ?_, ?_⟩
  · rcases m_cases hm with rfl | rfl | rfl | rfl | rfl | rfl | rfl | rfl <;> first | rfl | omega
  · rcases m_cases hm with rfl | rfl | rfl | rfl | rfl | rfl | rfl | rfl <;> first | rfl | omega
  · rw [layersF]
    rfl
theorem inv1_done {zs cc c : List Int} {l k : Int} (h1 : Inv1 zs cc l k c) (hl : ¬ 2 ≤ l) : c = layersF zs 7 cc := by
  obtain ⟨m, hm, rfl, rfl, rfl⟩ := h1
  have hm7 : m = 7 := by
    rcases m_cases hm with rfl | rfl | rfl | rfl | rfl | rfl | rfl | rfl <;> first | rfl | (exfalso; simp only [lv] at hl; omega)
  rw [hm7]
def setF (f : Int → Int) (c : List Int) (j : Int) : List Int := c.set j.toNat (f (c.getD j.toNat 0))
theorem setF_len (f : Int → Int) (c : List Int) (j : Int) : (setF f c j).length = c.length := by unfold setF; rw [List.length_set]
theorem rangeKs_succ (n : Nat) : rangeKs 0 (n + 1) = rangeKs 0 n ++ [(n : Int)] := by
  unfold rangeKs
  rw [List.range_succ, List.map_append]
  simp
theorem setAll (f : Int → Int) : ∀ (n : Nat) (c : List Int), n ≤ c.length → (rangeKs 0 n).foldl (setF f) c = (c.take n).map f ++ c.drop n
  | 0, c, _ => by simp [rangeKs]
  | n + 1, c, h => by
    rw [rangeKs_succ, List.foldl_append, setAll f n c (by omega), List.foldl_cons, List.foldl_nil]
    unfold setF
    have hlt : n < c.length := by omega
    have h1 : ((c.take n).map f).length = n := by rw [List.length_map, List.length_take]; omega
    have h2 : c.drop n = c[n] :: c.drop (n + 1) := List.drop_eq_getElem_cons hlt
    have h3 : ((n : Int)).toNat = n := by omega
    rw [h3, h2]
    have h4 : ((c.take n).map f ++ c[n] :: c.drop (n + 1)).getD n 0 = c[n] := by
      rw [List.getD_eq_getElem?_getD, List.getElem?_append_right (by omega), h1, Nat.sub_self]
      rfl
    rw [h4]
    rw [List.set_append_right _ _ (by omega), h1, Nat.sub_self, List.set_cons_zero, List.take_succ_eq_append_getElem hlt, List.map_append, List.append_assoc]
    rfl
theorem setAll_full (f : Int → Int) (c : List Int) : (rangeKs 0 c.length).foldl (setF f) c = c.map f := by
  rw [setAll f c.length c (Nat.le_refl _), List.take_length, List.drop_length, List.append_nil]
end Mine
-- part Defs2
namespace Mine
open PySem PySem.W PyProof.Rows PyProof.V PySem.Calls
def gfI (z l : Int) (c : List Int) (j : Int) : List Int :=
  (((c.set j.toNat (c.getD j.toNat 0 + c.getD (j + l).toNat 0)).set (j + l).toNat ((c.set j.toNat (c.getD j.toNat 0 + c.getD (j + l).toNat 0)).getD (j + l).toNat 0 - c.getD j.toNat 0))).set (j + l).toNat
    (z * (((c.set j.toNat (c.getD j.toNat 0 + c.getD (j + l).toNat 0)).set (j + l).toNat ((c.set j.toNat (c.getD j.toNat 0 + c.getD (j + l).toNat 0)).getD (j + l).toNat 0 - c.getD j.toNat 0))).getD (j + l).toNat 0)
theorem gfI_len (z l : Int) (c : List Int) (j : Int) : (gfI z l c j).length = c.length := by unfold gfI; rw [List.length_set, List.length_set, List.length_set]
def loopG (z l st : Int) (c : List Int) : List Int := (rangeKs st l.toNat).foldl (gfI z l) c
theorem loopG_len (z l st : Int) (c : List Int) : (loopG z l st c).length = c.length := foldl_len (gfI_len z l) _ _
def blockG (zs : List Int) (l : Int) (k0 : Nat) (c0 : List Int) (b : Nat) : List Int := (List.range b).foldl (fun c i => loopG (zs.getD (k0 - i) 0) l (2 * l * (i : Int)) c) c0
theorem blockG_len (zs : List Int) (l : Int) (k0 : Nat) (c0 : List Int) (b : Nat) : (blockG zs l k0 c0 b).length = c0.length := foldl_len (fun _ _ => loopG_len _ _ _ _) _ _
theorem blockG_succ (zs : List Int) (l : Int) (k0 : Nat) (c0 : List Int) (b : Nat) : blockG zs l k0 c0 (b + 1) = loopG (zs.getD (k0 - b) 0) l (2 * l * (b : Int)) (blockG zs l k0 c0 b) := by
  unfold blockG
  rw [List.range_succ, List.foldl_append]
  rfl
def lw : Nat → Int
  | 0 => 2 | 1 => 4 | 2 => 8 | 3 => 16 | 4 => 32 | 5 => 64 | 6 => 128 | _ => 256
def kw : Nat → Nat
  | 0 => 127 | 1 => 63 | 2 => 31 | 3 => 15 | 4 => 7 | 5 => 3 | 6 => 1 | _ => 0
def nb : Nat → Nat
  | 0 => 64 | 1 => 32 | 2 => 16 | 3 => 8 | 4 => 4 | 5 => 2 | _ => 1
def layersG (zs : List Int) : Nat → List Int → List Int
  | 0, c => c
  | m + 1, c => blockG zs (lw m) (kw m) (layersG zs m c) (nb m)
theorem layersG_len (zs : List Int) : ∀ (m : Nat) (c : List Int), (layersG zs m c).length = c.length
  | 0, _ => rfl
  | m + 1, c => by rw [layersG, blockG_len, layersG_len zs m c]
def Jnv1 (zs cc : List Int) (l k : Int) (c : List Int) : Prop := ∃ m : Nat, m ≤ 7 ∧ l = lw m ∧ k = (kw m : Nat) ∧ c = layersG zs m cc
def Jnv2 (zs : List Int) (l k0 : Int) (c0 : List Int) (start k : Int) (c : List Int) : Prop := ∃ b : Nat, start = 2 * l * (b : Int) ∧ k = k0 - (b : Int) ∧ c = blockG zs l k0.toNat c0 b
theorem jnv1_start (zs cc : List Int) : Jnv1 zs cc 2 127 cc := ⟨0, by omega, rfl, rfl, rfl⟩
theorem jnv1_facts {zs cc c : List Int} {l k : Int} (h : Jnv1 zs cc l k c) : 2 ≤ l ∧ l ≤ 256 ∧ 0 ≤ k ∧ k ≤ 127 ∧ c.length = cc.length ∧ (l ≤ 128 → 1 ≤ k ∧ 2 * l ≤ 256) := by
  obtain ⟨m, hm, rfl, rfl, rfl⟩ := h
  refine ⟨?_, ?_, ?_, ?_, layersG_len _ _ _, ?_⟩ <;> rcases m_cases hm with rfl | rfl | rfl | rfl | rfl | rfl | rfl | rfl <;> simp [lw, kw]
theorem jnv2_start (zs : List Int) (l k0 : Int) (c0 : List Int) : Jnv2 zs l k0 c0 0 k0 c0 := ⟨0, by simp, by simp, rfl⟩
theorem jnv2_step {zs cc c0 c : List Int} {l k0 start k : Int} (h1 : Jnv1 zs cc l k0 c0) (hl : l ≤ 128) (h2 : Jnv2 zs l k0 c0 start k c) (hs : start < 256) :
    0 ≤ start ∧ 0 ≤ k ∧ k < 128 ∧ start + 2 * l ≤ 256 ∧ (start + l - 1 + l + 1 ≤ 256) ∧ Jnv2 zs l k0 c0 (start + l - 1 + l + 1) (k - 1) (loopG (zs.getD k.toNat 0) l start c) := by
  obtain ⟨m, hm, rfl, rfl, rfl⟩ := h1
  obtain ⟨b, rfl, rfl, rfl⟩ := h2
  refine ⟨?_, ?_, ?_, ?_, ?_, b + 1, ?_, ?_, ?_⟩
  · rcases m_cases hm with rfl | rfl | rfl | rfl | rfl | rfl | rfl | rfl <;> simp only [lw] at hl ⊢ <;> omega
  · rcases m_cases hm with rfl | rfl | rfl | rfl | rfl | rfl | rfl | rfl <;> simp only [lw, kw] at hl hs ⊢ <;> omega
  · rcases m_cases hm with rfl | rfl | rfl | rfl | rfl | rfl | rfl | rfl <;> simp only [lw, kw] at hl hs ⊢ <;> omega
  · rcases m_cases hm with rfl | rfl | rfl | rfl | rfl | rfl | rfl | rfl <;> simp only [lw] at hl hs ⊢ <;> omega
  · rcases m_cases hm with rfl | rfl | rfl | rfl | rfl | rfl | rfl | rfl <;> simp only [lw] at hl hs ⊢ <;> omega
  · rcases m_cases hm with rfl | rfl | rfl | rfl | rfl | rfl | rfl | rfl <;> simp only [lw] at hl hs ⊢ <;> omega
  · omega
  · rw [blockG_succ]
    have e : (((kw m : Nat) : Int) - (b : Int)).toNat = (((kw m : Nat) : Int)).toNat - b := by omega
    rw [e]
theorem jnv1_step {zs cc c0 c : List Int} {l k0 start k : Int} (h1 : Jnv1 zs cc l k0 c0) (hl : l ≤ 128) (h2 : Jnv2 zs l k0 c0 start k c) (hs : ¬ start < 256) (hs2 : start ≤ 256) : Jnv1 zs cc (l * 2) k c := by
  obtain ⟨m, hm, rfl, rfl, rfl⟩ := h1
  obtain ⟨b, rfl, rfl, rfl⟩ := h2
  have hb : b = nb m ∧ m ≤ 6 := by
    rcases m_cases hm with rfl | rfl | rfl | rfl | rfl | rfl | rfl | rfl <;> simp only [lw, nb] at hl hs hs2 ⊢ <;> omega
  obtain ⟨rfl, hm6⟩ := hb
  refine ⟨m + 1, by omega, ?_, ?_, ?_⟩
  · rcases m_cases hm with rfl | rfl | rfl | rfl | rfl | rfl | rfl | rfl <;> first | rfl | omega
  · rcases m_cases hm with rfl | rfl | rfl | rfl | rfl | rfl | rfl | rfl <;> first | rfl | omega
  · rw [layersG]
    rfl
theorem jnv1_done {zs cc c : List Int} {l k : Int} (h1 : Jnv1 zs cc l k c) (hl : ¬ l ≤ 128) : c = layersG zs 7 cc := by
  obtain ⟨m, hm, rfl, rfl, rfl⟩ := h1
  have hm7 : m = 7 := by
    rcases m_cases hm with rfl | rfl | rfl | rfl | rfl | rfl | rfl | rfl <;> first | rfl | (exfalso; simp only [lw] at hl; omega)
  rw [hm7]
theorem twice_pow (l : Int) : l * 2 ^ Int.toNat 1 = l * 2 := by rw [show (2 : Int) ^ Int.toNat 1 = 2 from by decide]
end Mine
-- part Ntt
namespace Mine
open PySem PySem.W PyProof.Rows PyProof.V PySem.Calls
local macro_rules | `(tactic| walk_at "callWith ref") => `(tactic| (k_here; k_dflt (refine' inst_KW ?k1 ?k2 ?k3 ?k4 ?k5 ?_; (case k1 => k_in); (case k2 => k_inst); (case k3 => rfl); (case k4 => k_is); (case k5 => exact rfl); k_whole)))
local macro_rules | `(tactic| k_room) => `(tactic| ktr_room)
local macro_rules | `(tactic| k_units) => `(tactic| ktr_units)
local macro_rules | `(tactic| walk_at "pyIter ref") => `(tactic| k_extra "pyIter ref")
local macro_rules | `(tactic| walk_at "exec While Compare cons nil") => `(tactic| k_extra "while")
local macro_rules | `(tactic| walk_at "exec For Name Call cons nil") => `(tactic| (k_here; (rename Fr _ _ _ _ => lF'); (with_unfolding_all refine' For_invVF lF' ?k1 ?k2 ?_; (case k1 => exact rfl); (case k2 => exact rfl); k_whole)))
set_option maxRecDepth 100000 in
set_option maxHeartbeats 8000000 in
theorem ntt_spec {w : World} {mean : ExcName → Option Value} {mg mb : Str → Option Value} {dp un : Nat} {gd : Option (List Code)} {cn : Str} {cs : Scope} {a : Addr} {ccd : Value} {cl : List (Str × Addr)} {outer : List Env} {A₀ : Around} {base h₀ : Heap} {L : Addr} {m : Str → Option Value} {s : Shared} {Q E : Value → Shared → Prop}
    {p pd W R D z r rd : Addr} {oR oD : Obj} {vs zvs : List Value} {ns zs : List Int} {cW cz : Nat} {t1 t2 t3 t4 t5 t6 t7 t8 t9 : Tok}
    (B : Below A₀ base outer h₀) (F : Fr h₀ L s.heap m) (X : (hd.heap_1 w.params).In h₀)
    (N : News h₀ L s.heap [(p, instObj 350 pd), (pd, dictOf [⟨PyData.keyHash w.params (Str.ofString "parent"), Value.str (Str.ofString "parent") t1, Value.ref r⟩, ⟨PyData.keyHash w.params (Str.ofString "coeffs"), Value.str (Str.ofString "coeffs") t2, Value.ref W⟩] 2),
      (W, listOf vs.toArray cW), (R, oR), (D, oD), (z, listOf zvs.toArray cz), (r, instObj 282 rd),
      (rd, dictOf [⟨PyData.keyHash w.params (Str.ofString "q"), Value.str (Str.ofString "q") t3, Value.int 3329 t4⟩, ⟨PyData.keyHash w.params (Str.ofString "n"), Value.str (Str.ofString "n") t5, Value.int 256 t6⟩, ⟨PyData.keyHash w.params (Str.ofString "ntt_zetas"), Value.str (Str.ofString "ntt_zetas") t7, Value.ref z⟩, ⟨PyData.keyHash w.params (Str.ofString "ntt_f"), Value.str (Str.ofString "ntt_f") t8, Value.int 3303 t9⟩] 4)])
    (T : Top hd.view_1 (looseW hd.view_1 [Str.ofString "PolynomialRing", Str.ofString "PolynomialNTT"]) mean mg mb h₀) (hk : cs.kind = .function)
    (hd : dp + 10 < recursionLimit) (hu : un + 80 < cLine)
    (o1 : @LT.lt Nat _ rd r) (o2 : @LT.lt Nat _ r D) (o3 : @LT.lt Nat _ z D) (o4 : @LT.lt Nat _ D R) (o5 : @LT.lt Nat _ R W) (o6 : @LT.lt Nat _ W pd) (o7 : @LT.lt Nat _ pd p)
    (hI : IntsAre vs ns) (hlen : ns.length = 256) (hZ : IntsAre zvs zs) (hzlen : zs.length = 128) (hzb : ∀ i : Nat, 0 ≤ zs.getD i 0 ∧ zs.getD i 0 < 3329)
    (hret : ∀ (Y Yd : Addr) (t1' t2' : Tok) (vs' : List Value) (cW' : Nat) (h' : Heap) (tk' : Nat), (@LT.lt Nat _ p Yd) → (@LT.lt Nat _ Yd Y) → IntsAre vs' ((layersF zs 7 ns).map (fun x => x.fmod 3329)) → Fr h₀ L h' m →
      News h₀ L h' [(Y, instObj 426 Yd), (Yd, dictOf [⟨PyData.keyHash w.params (Str.ofString "parent"), Value.str (Str.ofString "parent") t1', Value.ref r⟩, ⟨PyData.keyHash w.params (Str.ofString "coeffs"), Value.str (Str.ofString "coeffs") t2', Value.ref W⟩] 2),
      (W, listOf vs'.toArray cW'), (R, oR), (D, oD), (z, listOf zvs.toArray cz), (r, instObj 282 rd),
      (rd, dictOf [⟨PyData.keyHash w.params (Str.ofString "q"), Value.str (Str.ofString "q") t3, Value.int 3329 t4⟩, ⟨PyData.keyHash w.params (Str.ofString "n"), Value.str (Str.ofString "n") t5, Value.int 256 t6⟩, ⟨PyData.keyHash w.params (Str.ofString "ntt_zetas"), Value.str (Str.ofString "ntt_zetas") t7, Value.ref z⟩, ⟨PyData.keyHash w.params (Str.ofString "ntt_f"), Value.str (Str.ofString "ntt_f") t8, Value.int 3303 t9⟩] 4)] → Q (.ref Y) { s with heap := h', toks := tk' }) :
    wpAny (model PySem.Challenge.rw_yi0040_01.row.prog w) (ktrTop dp un gd cn cs L a ccd cl outer) (call (.ref 340) [.ref p]) Q E s := by
  k_with_none
  k_with "pyIter ref" => (refine hold ?_)
  k_with "while" => (refine hold ?_)
  have kMark := kstMark
  refine wpAny_call ?_
  k_dflt cell_enter
  k_steps
  refine unhold ?_
  (rename Fr _ _ _ _ => lF'); (rename News _ _ _ _ => lN')
  with_unfolding_all refine' ksw_while (σ := (Int × Tok) × (Int × Tok) × (List Value × List Int × Nat))
                            (fun c => [(W, listOf c.2.2.1.toArray c.2.2.2.2), (p, instObj 350 pd), (pd, polyD w.params t1 t2 r W), (R, oR), (D, oD), (z, listOf zvs.toArray cz), (r, instObj 282 rd), (rd, ringD w.params t3 t4 t5 t6 t7 t8 t9 z)])
                            (fun c => [(Str.ofString "l", Value.int c.1.1 c.1.2), (Str.ofString "k", Value.int c.2.1.1 c.2.1.2)])
                            (fun c => IntsAre c.2.2.1 c.2.2.2.1)
                            [Str.ofString "start", Str.ofString "zeta", Str.ofString "k", Str.ofString "j", Str.ofString "t", Str.ofString "l"]
                            (fun c => KIN.Hid (Inv1 zs ns c.1.1 c.2.1.1 c.2.2.2.1)) (fun c => c.1.1.toNat)
                            ((128, _), (1, _), (vs, ns, cW)) lF' ?kn ?kf ?kk ?kp ?turn ?hE
  (case hE => first | passes_own | with_unfolding_all passes_own)
  (case kn => exact kst_newsOf lN' (by kst_inAny))
  (case kf => exact hI)
  (case kk => kst_all)
  (case kp => exact ⟨inv1_start zs ns⟩)
  (all_goals (try clear lF' lN'))
  rintro ⟨⟨l, tl⟩, ⟨k, tk1⟩, vs, ns1, cW⟩ u h tk f1 p1 lF' lN'
  dsimp only [kstB] at lF'
  dsimp only [polyD, ringD] at lN' f1 p1
  have p2 := inv1_facts p1.out
  obtain ⟨l0, l1, k0, k1, hlen1, hlk⟩ := p2
  rw [hlen] at hlen1
  all_goals (try k_fold)
  k_steps
  · refine unhold ?_
    (rename Fr _ _ _ _ => lF'); (rename News _ _ _ _ => lN')
    have hl2 : 2 ≤ l := by omega
    with_unfolding_all refine' ksw_while (σ := (Int × Tok) × (Int × Tok) × (List Value × List Int × Nat))
                            (fun c => [(W, listOf c.2.2.1.toArray c.2.2.2.2), (p, instObj 350 pd), (pd, polyD w.params t1 t2 r W), (R, oR), (D, oD), (z, listOf zvs.toArray cz), (r, instObj 282 rd), (rd, ringD w.params t3 t4 t5 t6 t7 t8 t9 z)])
                            (fun c => [(Str.ofString "start", Value.int c.1.1 c.1.2), (Str.ofString "k", Value.int c.2.1.1 c.2.1.2)])
                            (fun c => IntsAre c.2.2.1 c.2.2.2.1)
                            [Str.ofString "start", Str.ofString "zeta", Str.ofString "k", Str.ofString "j", Str.ofString "t"]
                            (fun c => 0 ≤ c.1.1 ∧ c.1.1 ≤ 256 ∧ c.2.2.2.1.length = 256 ∧ KIN.Hid (Inv2 zs l k ns1 c.1.1 c.2.1.1 c.2.2.2.1)) (fun c => (256 - c.1.1).toNat)
                            ((0, _), (k, tk1), (vs, ns1, cW)) lF' ?kn2 ?kf2 ?kk2 ?kp2 ?turn2 ?hE2
    (case hE2 => first | passes_own | with_unfolding_all passes_own)
    (case kn2 => exact kst_newsOf lN' (by kst_inAny))
    (case kf2 => exact f1)
    (case kk2 => kst_all)
    (case kp2 => exact ⟨by dsimp only; omega, by dsimp only; omega, hlen1, ⟨inv2_start zs l k ns1⟩⟩)
    (all_goals (try clear lF' lN'))
    rintro ⟨⟨st, tst⟩, ⟨kk, tk2⟩, vs2, ns2, cW2⟩ u2 h2 tkk f2 ⟨s0, s1, hlen2, q1⟩ lF' lN'
    dsimp only [kstB] at lF'
    dsimp only [polyD, ringD] at lN' f2 s0 s1 hlen2 q1
    have q2 : 256 ≤ st ∨ (0 ≤ kk ∧ kk < 128 ∧ st + 2 * l ≤ 256) := by
      by_cases hs : st < 256
      · have q3 := inv2_step p1.out hl2 q1.out hs
        exact .inr ⟨q3.2.1, q3.2.2.1, q3.2.2.2.1⟩
      · exact .inl (by omega)
    have hz1 := hzb kk.toNat
    all_goals (try k_fold)
    k_steps
    · refine unhold ?_
      (rename Fr _ _ _ _ => lF'); (rename News _ _ _ _ => lN'); (rename IsRange _ _ _ _ _ _ _ _ => rgX)
      obtain ⟨n, hn⟩ : ∃ n : Nat, l = (n : Int) := ⟨l.toNat, by omega⟩
      with_unfolding_all refine' kst_rangeX (σ := List Value × List Int × Nat) (n := n)
                              (fun c => [(W, listOf c.1.toArray c.2.2), (p, instObj 350 pd), (pd, polyD w.params t1 t2 r W), (R, oR), (D, oD), (z, listOf zvs.toArray cz), (r, instObj 282 rd), (rd, ringD w.params t3 t4 t5 t6 t7 t8 t9 z)])
                              (fun _ => [])
                              (fun c => IntsAre c.1 c.2.1)
                              [Str.ofString "t"]
                              (fun pre c => c.2.1.length = 256 ∧ KIN.Hid (c.2.1 = pre.foldl (bfI (zs.getD kk.toNat 0) l) ns2))
                              (vs2, ns2, cW2) (by rfl) (by exact rgX) (by exact small_one (by omega) (by omega) (by omega) (by omega)) (by rw [hn]; exact (by simp [Builtin.Range.rangeSize]; omega)) (by omega) lF' ?kn3 ?kf3 ?kk3 ?kp3 ?turn3 ?done3
      (case kn3 => exact kst_newsOf lN' (by kst_inAny))
      (case kf3 => (show IntsAre vs2 ns2; assumption))
      (case kk3 => exact List.forall_mem_nil _)
      (case kp3 => exact ⟨hlen2, ⟨rfl⟩⟩)
      (all_goals (try clear lF' lN'))
      (case' turn3 =>
        rintro ⟨vs3, ns3, cW3⟩ pre j tj u3 h3 tk3 own hj hpre hown f3 ⟨hlen3, q3⟩ lF' lN'
        dsimp only [kstB] at lF'
        dsimp only [polyD, ringD] at lN' f3 hlen3 q3 hown
        simp only [List.nil_append, List.cons_append, List.append_nil] at lN'
        have hj2 : st ≤ j ∧ j < st + l := by omega)
      (case' done3 =>
        rintro ⟨vs3, ns3, cW3⟩ u3 tj h3 tk3 f3 ⟨hlen3, q3⟩ lF' lN'
        dsimp only [kstB] at lF'
        dsimp only [polyD, ringD] at lN' f3 hlen3 q3
        (try simp only [List.nil_append, List.cons_append, List.append_nil] at lN'))
      all_goals (try k_fold)
      k_steps
      · -- the inner loop's turn of the while
        have q5 := inv2_step p1.out hl2 q1.out (by omega)
        have hl' : l.toNat = n := by omega
        have e3 : (rangeKs st n).foldl (bfI (zs.getD kk.toNat 0) l) ns2 = loop3 (zs.getD kk.toNat 0) l st ns2 := by unfold loop3; rw [hl']
        refine ksw_end ((_, _), (_, _), (_, _, _)) (by assumption) (by assumption) (by kst_in) (by assumption) (by kst_all) (by ksw_same) ⟨?g1, ?g2, ?g3, ⟨?g4⟩⟩ ?g5
        (case g1 => (dsimp only; omega))
        (case g2 => (dsimp only; omega))
        (case g3 => exact hlen3)
        (case g4 => (dsimp only; rw [← hn, q3.out, e3]; exact q5.2.2.2.2.2))
        (case g5 => (dsimp only; omega))
      · refine kstX_end (_, _, _) (by assumption) (by assumption) (by first | kst_in | kst_inAny) (by first | (intro p hp; kst_mem) | kst_anyIn) (by rfl) (by assumption) (by exact List.forall_mem_nil _) (by kst_same) ⟨?v1, ⟨?v2⟩⟩ ⟨_, by rfl⟩
        (case v1 => (dsimp only; rw [List.length_set, List.length_set]; exact hlen3))
        (case v2 => (dsimp only; rw [List.foldl_append, ← q3.out]; rfl))
    · have q5 := inv1_step p1.out hl2 q1.out (by omega) s1
      refine ksw_end ((_, _), (_, _), (_, _, _)) (by assumption) (by assumption) (by kst_in) (by assumption) (by kst_all) (by ksw_same) ⟨?y1⟩ ?y2
      (case y1 => (dsimp only; rw [half_fdiv (by omega)]; exact q5))
      (case y2 => (dsimp only; rw [half_fdiv (by omega)]; omega))
  · refine unhold ?_
    (rename Fr _ _ _ _ => lF'); (rename News _ _ _ _ => lN'); (rename IsRange _ _ _ _ _ _ _ _ => rgX)
    have hdone := inv1_done p1.out (by omega)
    with_unfolding_all refine' kst_range (σ := List Value × List Int × Nat) (n := 256)
                            (fun c => [(W, listOf c.1.toArray c.2.2), (p, instObj 350 pd), (pd, polyD w.params t1 t2 r W), (R, oR), (D, oD), (z, listOf zvs.toArray cz), (r, instObj 282 rd), (rd, ringD w.params t3 t4 t5 t6 t7 t8 t9 z)])
                            (fun _ => [])
                            (fun c => IntsAre c.1 c.2.1)
                            []
                            (fun pre c => c.2.1.length = 256 ∧ KIN.Hid (c.2.1 = pre.foldl (setF (fun x => x.fmod 3329)) ns1))
                            (vs, ns1, cW) (by rfl) (by exact rgX) (by decide) (by rfl) lF' ?kn4 ?kf4 ?kk4 ?kp4 ?turn4 ?done4
    (case kn4 => exact kst_newsOf lN' (by kst_inAny))
    (case kf4 => (show IntsAre vs ns1; assumption))
    (case kk4 => exact List.forall_mem_nil _)
    (case kp4 => exact ⟨hlen1, ⟨rfl⟩⟩)
    (all_goals (try clear lF' lN'))
    (case' turn4 =>
      rintro ⟨vs3, ns3, cW3⟩ pre j tj u3 h3 tk3 own hj hpre hown f3 ⟨hlen3, q3⟩ lF' lN'
      dsimp only [kstB] at lF'
      dsimp only [polyD, ringD] at lN' f3 hlen3 q3 hown
      (try simp only [List.nil_append, List.cons_append, List.append_nil] at lN'))
    (case' done4 =>
      rintro ⟨vs3, ns3, cW3⟩ u3 h3 tk3 f3 ⟨hlen3, q3⟩ lF' lN'
      dsimp only [kstB] at lF'
      dsimp only [polyD, ringD] at lN' f3 hlen3 q3
      (try simp only [List.nil_append, List.cons_append, List.append_nil] at lN'))
    all_goals (try k_fold)
    k_steps
    rotate_right
    · refine kst_end (_, _, _) (by assumption) (by assumption) (by first | kst_in | kst_inAny) (by first | (intro p hp; kst_mem) | kst_anyIn) (by rfl) (by assumption) (by exact List.forall_mem_nil _) (by kst_same) ⟨?v1, ⟨?v2⟩⟩
      (case v1 => (dsimp only; rw [List.length_set]; exact hlen3))
      (case v2 => (dsimp only; rw [List.foldl_append, ← q3.out]; rfl))
    have e9 : ns3 = (layersF zs 7 ns).map (fun x => x.fmod 3329) := by
      rw [← hdone, ← setAll_full, hlen1]
      exact q3.out
    refine' hret _ _ _ _ vs3 cW3 _ _ ?z1 ?z2 ?z3 ?z4 ?z5
    (case z5 => exact kst_newsOf (by assumption) (by kst_inAny))
    (case z4 => assumption)
    (case z3 => exact e9 ▸ f3)
    (case z1 => omega)
    (case z2 => omega)
end Mine
-- part Inv
namespace Mine
open PySem PySem.W PyProof.Rows PyProof.V PySem.Calls
local macro_rules | `(tactic| walk_at "callWith ref") => `(tactic| (k_here; k_dflt (refine' inst_KW ?k1 ?k2 ?k3 ?k4 ?k5 ?_; (case k1 => k_in); (case k2 => k_inst); (case k3 => rfl); (case k4 => k_is); (case k5 => exact rfl); k_whole)))
local macro_rules | `(tactic| k_room) => `(tactic| ktr_room)
local macro_rules | `(tactic| k_units) => `(tactic| ktr_units)
local macro_rules | `(tactic| walk_at "pyIter ref") => `(tactic| k_extra "pyIter ref")
local macro_rules | `(tactic| walk_at "exec While Compare cons nil") => `(tactic| k_extra "while")
local macro_rules | `(tactic| walk_at "exec For Name Call cons nil") => `(tactic| (k_here; (rename Fr _ _ _ _ => lF'); (with_unfolding_all refine' For_invVF lF' ?k1 ?k2 ?_; (case k1 => exact rfl); (case k2 => exact rfl); k_whole)))
set_option maxRecDepth 100000 in
set_option maxHeartbeats 8000000 in
theorem inv_spec {w : World} {mean : ExcName → Option Value} {mg mb : Str → Option Value} {dp un : Nat} {gd : Option (List Code)} {cn : Str} {cs : Scope} {a : Addr} {ccd : Value} {cl : List (Str × Addr)} {outer : List Env} {A₀ : Around} {base h₀ : Heap} {L : Addr} {m : Str → Option Value} {s : Shared} {Q E : Value → Shared → Prop}
    {p pd W R D z r rd : Addr} {oR oD : Obj} {vs zvs : List Value} {ns zs : List Int} {cW cz : Nat} {t1 t2 t3 t4 t5 t6 t7 t8 t9 : Tok}
    (B : Below A₀ base outer h₀) (F : Fr h₀ L s.heap m) (X : (hd.heap_1 w.params).In h₀)
    (N : News h₀ L s.heap [(p, instObj 426 pd), (pd, dictOf [⟨PyData.keyHash w.params (Str.ofString "parent"), Value.str (Str.ofString "parent") t1, Value.ref r⟩, ⟨PyData.keyHash w.params (Str.ofString "coeffs"), Value.str (Str.ofString "coeffs") t2, Value.ref W⟩] 2),
      (W, listOf vs.toArray cW), (R, oR), (D, oD), (z, listOf zvs.toArray cz), (r, instObj 282 rd),
      (rd, dictOf [⟨PyData.keyHash w.params (Str.ofString "q"), Value.str (Str.ofString "q") t3, Value.int 3329 t4⟩, ⟨PyData.keyHash w.params (Str.ofString "n"), Value.str (Str.ofString "n") t5, Value.int 256 t6⟩, ⟨PyData.keyHash w.params (Str.ofString "ntt_zetas"), Value.str (Str.ofString "ntt_zetas") t7, Value.ref z⟩, ⟨PyData.keyHash w.params (Str.ofString "ntt_f"), Value.str (Str.ofString "ntt_f") t8, Value.int 3303 t9⟩] 4)])
    (T : Top hd.view_1 (looseW hd.view_1 [Str.ofString "PolynomialRing", Str.ofString "PolynomialNTT"]) mean mg mb h₀) (hk : cs.kind = .function)
    (hd : dp + 10 < recursionLimit) (hu : un + 80 < cLine)
    (o1 : @LT.lt Nat _ rd r) (o2 : @LT.lt Nat _ r D) (o3 : @LT.lt Nat _ z D) (o4 : @LT.lt Nat _ D R) (o5 : @LT.lt Nat _ R W) (o6 : @LT.lt Nat _ W pd) (o7 : @LT.lt Nat _ pd p)
    (hI : IntsAre vs ns) (hlen : ns.length = 256) (hZ : IntsAre zvs zs) (hzlen : zs.length = 128) (hzb : ∀ i : Nat, 0 ≤ zs.getD i 0 ∧ zs.getD i 0 < 3329)
    (hret : ∀ (Y Yd : Addr) (t1' t2' : Tok) (vs' : List Value) (cW' : Nat) (h' : Heap) (tk' : Nat), (@LT.lt Nat _ p Yd) → (@LT.lt Nat _ Yd Y) → IntsAre vs' ((layersG zs 7 ns).map (fun x => (x * 3303).fmod 3329)) → Fr h₀ L h' m →
      News h₀ L h' [(Y, instObj 350 Yd), (Yd, dictOf [⟨PyData.keyHash w.params (Str.ofString "parent"), Value.str (Str.ofString "parent") t1', Value.ref r⟩, ⟨PyData.keyHash w.params (Str.ofString "coeffs"), Value.str (Str.ofString "coeffs") t2', Value.ref W⟩] 2),
      (W, listOf vs'.toArray cW'), (R, oR), (D, oD), (z, listOf zvs.toArray cz), (r, instObj 282 rd),
      (rd, dictOf [⟨PyData.keyHash w.params (Str.ofString "q"), Value.str (Str.ofString "q") t3, Value.int 3329 t4⟩, ⟨PyData.keyHash w.params (Str.ofString "n"), Value.str (Str.ofString "n") t5, Value.int 256 t6⟩, ⟨PyData.keyHash w.params (Str.ofString "ntt_zetas"), Value.str (Str.ofString "ntt_zetas") t7, Value.ref z⟩, ⟨PyData.keyHash w.params (Str.ofString "ntt_f"), Value.str (Str.ofString "ntt_f") t8, Value.int 3303 t9⟩] 4)] → Q (.ref Y) { s with heap := h', toks := tk' }) :
    wpAny (model PySem.Challenge.rw_yi0040_01.row.prog w) (ktrTop dp un gd cn cs L a ccd cl outer) (call (.ref 380) [.ref p]) Q E s := by
  k_with_none
  k_with "pyIter ref" => (refine hold ?_)
  k_with "while" => (refine hold ?_)
  have kMark := kstMark
  refine wpAny_call ?_
  k_dflt cell_enter
  k_steps
  refine unhold ?_
  (rename Fr _ _ _ _ => lF'); (rename News _ _ _ _ => lN')
  with_unfolding_all refine' ksw_while (σ := (Int × Tok) × (Int × Tok) × (List Value × List Int × Nat))
                            (fun c => [(W, listOf c.2.2.1.toArray c.2.2.2.2), (p, instObj 426 pd), (pd, polyD w.params t1 t2 r W), (R, oR), (D, oD), (z, listOf zvs.toArray cz), (r, instObj 282 rd), (rd, ringD w.params t3 t4 t5 t6 t7 t8 t9 z)])
                            (fun c => [(Str.ofString "l", Value.int c.1.1 c.1.2), (Str.ofString "k", Value.int c.2.1.1 c.2.1.2)])
                            (fun c => IntsAre c.2.2.1 c.2.2.2.1)
                            [Str.ofString "start", Str.ofString "zeta", Str.ofString "k", Str.ofString "j", Str.ofString "t", Str.ofString "l"]
                            (fun c => KIN.Hid (Jnv1 zs ns c.1.1 c.2.1.1 c.2.2.2.1)) (fun c => (256 - c.1.1).toNat)
                            ((2, _), (127, _), (vs, ns, cW)) lF' ?kn ?kf ?kk ?kp ?turn ?hE
  (case hE => first | passes_own | with_unfolding_all passes_own)
  (case kn => exact kst_newsOf lN' (by kst_inAny))
  (case kf => exact hI)
  (case kk => kst_all)
  (case kp => exact ⟨jnv1_start zs ns⟩)
  (all_goals (try clear lF' lN'))
  rintro ⟨⟨l, tl⟩, ⟨k, tk1⟩, vs, ns1, cW⟩ u h tk f1 p1 lF' lN'
  dsimp only [kstB] at lF'
  dsimp only [polyD, ringD] at lN' f1 p1
  have p2 := jnv1_facts p1.out
  obtain ⟨l0, l1, k0, k1, hlen1, hlk⟩ := p2
  rw [hlen] at hlen1
  all_goals (try k_fold)
  k_steps
  · refine unhold ?_
    (rename Fr _ _ _ _ => lF'); (rename News _ _ _ _ => lN')
    have hl2 : l ≤ 128 := by omega
    with_unfolding_all refine' ksw_while (σ := (Int × Tok) × (Int × Tok) × (List Value × List Int × Nat))
                            (fun c => [(W, listOf c.2.2.1.toArray c.2.2.2.2), (p, instObj 426 pd), (pd, polyD w.params t1 t2 r W), (R, oR), (D, oD), (z, listOf zvs.toArray cz), (r, instObj 282 rd), (rd, ringD w.params t3 t4 t5 t6 t7 t8 t9 z)])
                            (fun c => [(Str.ofString "start", Value.int c.1.1 c.1.2), (Str.ofString "k", Value.int c.2.1.1 c.2.1.2)])
                            (fun c => IntsAre c.2.2.1 c.2.2.2.1)
                            [Str.ofString "start", Str.ofString "zeta", Str.ofString "k", Str.ofString "j", Str.ofString "t"]
                            (fun c => 0 ≤ c.1.1 ∧ c.1.1 ≤ 256 ∧ c.2.2.2.1.length = 256 ∧ KIN.Hid (Jnv2 zs l k ns1 c.1.1 c.2.1.1 c.2.2.2.1)) (fun c => (256 - c.1.1).toNat)
                            ((0, _), (k, tk1), (vs, ns1, cW)) lF' ?kn2 ?kf2 ?kk2 ?kp2 ?turn2 ?hE2
    (case hE2 => first | passes_own | with_unfolding_all passes_own)
    (case kn2 => exact kst_newsOf lN' (by kst_inAny))
    (case kf2 => exact f1)
    (case kk2 => kst_all)
    (case kp2 => exact ⟨by dsimp only; omega, by dsimp only; omega, hlen1, ⟨jnv2_start zs l k ns1⟩⟩)
    (all_goals (try clear lF' lN'))
    rintro ⟨⟨st, tst⟩, ⟨kk, tk2⟩, vs2, ns2, cW2⟩ u2 h2 tkk f2 ⟨s0, s1, hlen2, q1⟩ lF' lN'
    dsimp only [kstB] at lF'
    dsimp only [polyD, ringD] at lN' f2 s0 s1 hlen2 q1
    have q2 : 256 ≤ st ∨ (0 ≤ kk ∧ kk < 128 ∧ st + 2 * l ≤ 256) := by
      by_cases hs : st < 256
      · have q3 := jnv2_step p1.out hl2 q1.out hs
        exact .inr ⟨q3.2.1, q3.2.2.1, q3.2.2.2.1⟩
      · exact .inl (by omega)
    have hz1 := hzb kk.toNat
    all_goals (try k_fold)
    k_steps
    · refine unhold ?_
      (rename Fr _ _ _ _ => lF'); (rename News _ _ _ _ => lN'); (rename IsRange _ _ _ _ _ _ _ _ => rgX)
      obtain ⟨n, hn⟩ : ∃ n : Nat, l = (n : Int) := ⟨l.toNat, by omega⟩
      with_unfolding_all refine' kst_rangeX (σ := List Value × List Int × Nat) (n := n)
                              (fun c => [(W, listOf c.1.toArray c.2.2), (p, instObj 426 pd), (pd, polyD w.params t1 t2 r W), (R, oR), (D, oD), (z, listOf zvs.toArray cz), (r, instObj 282 rd), (rd, ringD w.params t3 t4 t5 t6 t7 t8 t9 z)])
                              (fun _ => [])
                              (fun c => IntsAre c.1 c.2.1)
                              [Str.ofString "t"]
                              (fun pre c => c.2.1.length = 256 ∧ KIN.Hid (c.2.1 = pre.foldl (gfI (zs.getD kk.toNat 0) l) ns2))
                              (vs2, ns2, cW2) (by rfl) (by exact rgX) (by exact small_one (by omega) (by omega) (by omega) (by omega)) (by rw [hn]; exact (by simp [Builtin.Range.rangeSize]; omega)) (by omega) lF' ?kn3 ?kf3 ?kk3 ?kp3 ?turn3 ?done3
      (case kn3 => exact kst_newsOf lN' (by kst_inAny))
      (case kf3 => (show IntsAre vs2 ns2; assumption))
      (case kk3 => exact List.forall_mem_nil _)
      (case kp3 => exact ⟨hlen2, ⟨rfl⟩⟩)
      (all_goals (try clear lF' lN'))
      (case' turn3 =>
        rintro ⟨vs3, ns3, cW3⟩ pre j tj u3 h3 tk3 own hj hpre hown f3 ⟨hlen3, q3⟩ lF' lN'
        dsimp only [kstB] at lF'
        dsimp only [polyD, ringD] at lN' f3 hlen3 q3 hown
        simp only [List.nil_append, List.cons_append, List.append_nil] at lN'
        have hj2 : st ≤ j ∧ j < st + l := by omega)
      (case' done3 =>
        rintro ⟨vs3, ns3, cW3⟩ u3 tj h3 tk3 f3 ⟨hlen3, q3⟩ lF' lN'
        dsimp only [kstB] at lF'
        dsimp only [polyD, ringD] at lN' f3 hlen3 q3
        (try simp only [List.nil_append, List.cons_append, List.append_nil] at lN'))
      all_goals (try k_fold)
      k_steps
      · -- the inner loop's turn of the while
        have q5 := jnv2_step p1.out hl2 q1.out (by omega)
        have hl' : l.toNat = n := by omega
        have e3 : (rangeKs st n).foldl (gfI (zs.getD kk.toNat 0) l) ns2 = loopG (zs.getD kk.toNat 0) l st ns2 := by unfold loopG; rw [hl']
        refine ksw_end ((_, _), (_, _), (_, _, _)) (by assumption) (by assumption) (by kst_in) (by assumption) (by kst_all) (by ksw_same) ⟨?g1, ?g2, ?g3, ⟨?g4⟩⟩ ?g5
        (case g1 => (dsimp only; omega))
        (case g2 => (dsimp only; omega))
        (case g3 => exact hlen3)
        (case g4 => (dsimp only; rw [← hn, q3.out, e3]; exact q5.2.2.2.2.2))
        (case g5 => (dsimp only; omega))
      · refine kstX_end (_, _, _) (by assumption) (by assumption) (by first | kst_in | kst_inAny) (by first | (intro p hp; kst_mem) | kst_anyIn) (by rfl) (by assumption) (by exact List.forall_mem_nil _) (by kst_same) ⟨?v1, ⟨?v2⟩⟩ ⟨_, by rfl⟩
        (case v1 => (dsimp only; rw [List.length_set, List.length_set, List.length_set]; exact hlen3))
        (case v2 => (dsimp only; rw [List.foldl_append, ← q3.out]; rfl))
    · have q5 := jnv1_step p1.out hl2 q1.out (by omega) s1
      refine ksw_end ((_, _), (_, _), (_, _, _)) (by assumption) (by assumption) (by kst_in) (by assumption) (by kst_all) (by ksw_same) ⟨?y1⟩ ?y2
      (case y1 => (dsimp only; rw [twice_pow]; exact q5))
      (case y2 => (dsimp only; rw [twice_pow]; omega))
  · refine unhold ?_
    (rename Fr _ _ _ _ => lF'); (rename News _ _ _ _ => lN'); (rename IsRange _ _ _ _ _ _ _ _ => rgX)
    have hdone := jnv1_done p1.out (by omega)
    with_unfolding_all refine' kst_range (σ := List Value × List Int × Nat) (n := 256)
                            (fun c => [(W, listOf c.1.toArray c.2.2), (p, instObj 426 pd), (pd, polyD w.params t1 t2 r W), (R, oR), (D, oD), (z, listOf zvs.toArray cz), (r, instObj 282 rd), (rd, ringD w.params t3 t4 t5 t6 t7 t8 t9 z)])
                            (fun _ => [])
                            (fun c => IntsAre c.1 c.2.1)
                            []
                            (fun pre c => c.2.1.length = 256 ∧ KIN.Hid (c.2.1 = pre.foldl (setF (fun x => (x * 3303).fmod 3329)) ns1))
                            (vs, ns1, cW) (by rfl) (by exact rgX) (by decide) (by rfl) lF' ?kn4 ?kf4 ?kk4 ?kp4 ?turn4 ?done4
    (case kn4 => exact kst_newsOf lN' (by kst_inAny))
    (case kf4 => (show IntsAre vs ns1; assumption))
    (case kk4 => exact List.forall_mem_nil _)
    (case kp4 => exact ⟨hlen1, ⟨rfl⟩⟩)
    (all_goals (try clear lF' lN'))
    (case' turn4 =>
      rintro ⟨vs3, ns3, cW3⟩ pre j tj u3 h3 tk3 own hj hpre hown f3 ⟨hlen3, q3⟩ lF' lN'
      dsimp only [kstB] at lF'
      dsimp only [polyD, ringD] at lN' f3 hlen3 q3 hown
      (try simp only [List.nil_append, List.cons_append, List.append_nil] at lN'))
    (case' done4 =>
      rintro ⟨vs3, ns3, cW3⟩ u3 h3 tk3 f3 ⟨hlen3, q3⟩ lF' lN'
      dsimp only [kstB] at lF'
      dsimp only [polyD, ringD] at lN' f3 hlen3 q3
      (try simp only [List.nil_append, List.cons_append, List.append_nil] at lN'))
    all_goals (try k_fold)
    k_steps
    rotate_right
    · refine kst_end (_, _, _) (by assumption) (by assumption) (by first | kst_in | kst_inAny) (by first | (intro p hp; kst_mem) | kst_anyIn) (by rfl) (by assumption) (by exact List.forall_mem_nil _) (by kst_same) ⟨?v1, ⟨?v2⟩⟩
      (case v1 => (dsimp only; rw [List.length_set]; exact hlen3))
      (case v2 => (dsimp only; rw [List.foldl_append, ← q3.out]; rfl))
    have e9 : ns3 = (layersG zs 7 ns).map (fun x => (x * 3303).fmod 3329) := by
      rw [← hdone, ← setAll_full, hlen1]
      exact q3.out
    refine' hret _ _ _ _ vs3 cW3 _ _ ?z1 ?z2 ?z3 ?z4 ?z5
    (case z5 => exact kst_newsOf (by assumption) (by kst_inAny))
    (case z4 => assumption)
    (case z3 => exact e9 ▸ f3)
    (case z1 => omega)
    (case z2 => omega)
end Mine
-- part Pl1
namespace Mine
open PySem PySem.W PyProof.Rows PyProof.V PySem.Calls
theorem getD_set (c : List Int) (j : Nat) (v : Int) (i : Nat) (h : j < c.length) : (c.set j v).getD i 0 = if i = j then v else c.getD i 0 := by
  rw [List.getD_eq_getElem?_getD, List.getElem?_set, List.getD_eq_getElem?_getD]
  by_cases e : j = i
  · subst e
    simp [h]
  · rw [if_neg e, if_neg (fun x => e x.symm)]
theorem getD_out (c : List Int) (i : Nat) (h : c.length ≤ i) : c.getD i 0 = 0 := by
  rw [List.getD_eq_getElem?_getD, List.getElem?_eq_none h]
  rfl
def StepAt (step : Int → Int → List Int → Int → List Int) (f g : Int → Int → Int → Int) : Prop :=
  ∀ (z : Int) (l j : Nat) (c : List Int), 0 < l → j + l < c.length → ∀ i, (step z l c j).getD i 0 = if i = j then f z (c.getD j 0) (c.getD (j + l) 0) else if i = j + l then g z (c.getD j 0) (c.getD (j + l) 0) else c.getD i 0
def bfA (z a b : Int) : Int := a + z * b
def bfB (z a b : Int) : Int := a - z * b
def gfA (_ a b : Int) : Int := a + b
def gfB (z a b : Int) : Int := z * (b - a)
theorem bfI_at : StepAt bfI bfA bfB := by
  intro z l j c hl hb i
  have e1 : ((j : Int) + (l : Int)).toNat = j + l := by omega
  have e2 : ((j : Int)).toNat = j := by omega
  unfold bfI
  rw [e1, e2, getD_set _ _ _ _ (by rw [List.length_set]; omega), getD_set _ _ _ _ hb, getD_set _ _ _ _ hb, if_neg (show ¬ j = j + l by omega)]
  rfl
theorem gfI_at : StepAt gfI gfA gfB := by
  intro z l j c hl hb i
  have e1 : ((j : Int) + (l : Int)).toNat = j + l := by omega
  have e2 : ((j : Int)).toNat = j := by omega
  have hj : j < c.length := by omega
  have hs : ∀ (v w : Int) (k : Nat), k < c.length → ∀ i, ((c.set j v).set k w).getD i 0 = if i = k then w else if i = j then v else c.getD i 0 := fun v w k hk i => by
    rw [getD_set _ _ _ _ (by rw [List.length_set]; exact hk), getD_set _ _ _ _ hj]
  have hs3 : ∀ (v w x : Int) (k : Nat), k < c.length → ∀ i, (((c.set j v).set k w).set k x).getD i 0 = if i = k then x else if i = j then v else c.getD i 0 := fun v w x k hk i => by
    rw [getD_set _ _ _ _ (by rw [List.length_set, List.length_set]; exact hk), hs _ _ _ hk]
    by_cases e : i = k
    · rw [if_pos e, if_pos e]
    · rw [if_neg e, if_neg e, if_neg e]
  unfold gfI
  rw [e1, e2, hs3 _ _ _ _ hb, hs _ _ _ hb, if_pos rfl, getD_set _ _ _ _ hj, if_neg (show ¬ j + l = j by omega)]
  by_cases h1 : i = j
  · rw [if_pos h1, if_neg (show ¬ i = j + l by omega), if_pos h1]; rfl
  · rw [if_neg h1, if_neg h1]
    rfl
section
variable {step : Int → Int → List Int → Int → List Int} {f g : Int → Int → Int → Int} (hS : StepAt step f g) (hL : ∀ z l c j, (step z l c j).length = c.length)
def ranLoop (step : Int → Int → List Int → Int → List Int) (z l : Int) (st : Int) (n : Nat) (c : List Int) : List Int := (rangeKs st n).foldl (step z l) c
theorem ranLoop_len (hL : ∀ z l c j, (step z l c j).length = c.length) (z l st : Int) (n : Nat) (c : List Int) : (ranLoop step z l st n c).length = c.length := foldl_len (hL z l) _ _
theorem rangeKs_snoc (st : Int) (n : Nat) : rangeKs st (n + 1) = rangeKs st n ++ [st + (n : Int)] := by
  unfold rangeKs
  rw [List.range_succ, List.map_append]
  rfl
theorem ranLoop_succ (z l st : Int) (n : Nat) (c : List Int) : ranLoop step z l st (n + 1) c = step z l (ranLoop step z l st n c) (st + (n : Int)) := by
  unfold ranLoop
  rw [rangeKs_snoc, List.foldl_append]
  rfl
include hS hL
theorem ranLoop_at (z : Int) (l st : Nat) (hl : 0 < l) (c : List Int) : ∀ (n : Nat), n ≤ l → st + n + l ≤ c.length → ∀ i, (ranLoop step z l st n c).getD i 0 =
    if st ≤ i ∧ i < st + n then f z (c.getD i 0) (c.getD (i + l) 0) else if st + l ≤ i ∧ i < st + l + n then g z (c.getD (i - l) 0) (c.getD i 0) else c.getD i 0
  | 0, _, _, i => by
    rw [if_neg (by omega), if_neg (by omega)]
    rfl
  | n + 1, h1, h2, i => by
    have IH := ranLoop_at z l st hl c n (by omega) (by omega)
    rw [ranLoop_succ]
    have e : (st : Int) + (n : Int) = ((st + n : Nat) : Int) := by omega
    rw [e, hS z l (st + n) _ hl (by rw [ranLoop_len hL]; omega) i]
    have a1 : (ranLoop step z l st n c).getD (st + n) 0 = c.getD (st + n) 0 := by rw [IH, if_neg (by omega), if_neg (by omega)]
    have a2 : (ranLoop step z l st n c).getD (st + n + l) 0 = c.getD (st + n + l) 0 := by rw [IH, if_neg (by omega), if_neg (by omega)]
    rw [a1, a2]
    by_cases b1 : i = st + n
    · subst b1
      rw [if_pos rfl, if_pos (by omega)]
    · rw [if_neg b1]
      by_cases b2 : i = st + n + l
      · subst b2
        rw [if_pos rfl, if_neg (by omega), if_pos (by omega), Nat.add_sub_cancel]
      · rw [if_neg b2, IH]
        by_cases b3 : st ≤ i ∧ i < st + n
        · rw [if_pos b3, if_pos (by omega)]
        · rw [if_neg b3, if_neg (show ¬ (st ≤ i ∧ i < st + (n + 1)) by omega)]
          by_cases b4 : st + l ≤ i ∧ i < st + l + n
          · rw [if_pos b4, if_pos (by omega)]
          · rw [if_neg b4, if_neg (by omega)]
omit hS hL
def ranBlock (step : Int → Int → List Int → Int → List Int) (zz : Nat → Int) (l : Nat) (c : List Int) (b : Nat) : List Int := (List.range b).foldl (fun c i => ranLoop step (zz i) l (2 * (l : Int) * (i : Int)) l c) c
theorem ranBlock_len (hL : ∀ z l c j, (step z l c j).length = c.length) (zz : Nat → Int) (l : Nat) (c : List Int) (b : Nat) : (ranBlock step zz l c b).length = c.length := foldl_len (fun _ _ => ranLoop_len hL _ _ _ _ _) _ _
theorem ranBlock_succ (zz : Nat → Int) (l : Nat) (c : List Int) (b : Nat) : ranBlock step zz l c (b + 1) = ranLoop step (zz b) l (2 * (l : Int) * (b : Int)) l (ranBlock step zz l c b) := by
  unfold ranBlock
  rw [List.range_succ, List.foldl_append]
  rfl
include hS hL
theorem ranBlock_at (zz : Nat → Int) (l : Nat) (hl : 0 < l) (c : List Int) : ∀ (b : Nat), 2 * l * b ≤ c.length →
    (∀ q r, q < b → r < l → (ranBlock step zz l c b).getD (2 * l * q + r) 0 = f (zz q) (c.getD (2 * l * q + r) 0) (c.getD (2 * l * q + l + r) 0) ∧ (ranBlock step zz l c b).getD (2 * l * q + l + r) 0 = g (zz q) (c.getD (2 * l * q + r) 0) (c.getD (2 * l * q + l + r) 0)) ∧
    (∀ i, 2 * l * b ≤ i → (ranBlock step zz l c b).getD i 0 = c.getD i 0)
  | 0, _ => ⟨fun q r h => absurd h (Nat.not_lt_zero _), fun i _ => rfl⟩
  | b + 1, h => by
    have em : 2 * l * (b + 1) = 2 * l * b + 2 * l := by rw [Nat.mul_add, Nat.mul_one]
    obtain ⟨IH1, IH2⟩ := ranBlock_at zz l hl c b (by omega)
    have e : 2 * (l : Int) * (b : Int) = ((2 * l * b : Nat) : Int) := by simp
    have R := ranLoop_at hS hL (zz b) l (2 * l * b) hl (ranBlock step zz l c b) l (Nat.le_refl _) (by rw [ranBlock_len hL]; omega)
    rw [ranBlock_succ, e]
    refine ⟨fun q r hq hr => ?_, fun i hi => ?_⟩
    · by_cases hqb : q = b
      · subst hqb
        rw [R, R, if_pos (by omega), if_neg (by omega), if_pos (by omega), IH2 _ (by omega), IH2 _ (by omega), IH2 _ (by omega), IH2 _ (by omega),
          show 2 * l * q + r + l = 2 * l * q + l + r by omega, show 2 * l * q + l + r - l = 2 * l * q + r by omega]
        exact ⟨rfl, rfl⟩
      · have hq2 : 2 * l * (q + 1) ≤ 2 * l * b := Nat.mul_le_mul (Nat.le_refl _) (by omega)
        have eq2 : 2 * l * (q + 1) = 2 * l * q + 2 * l := by rw [Nat.mul_add, Nat.mul_one]
        rw [R, R, if_neg (by omega), if_neg (by omega), if_neg (by omega), if_neg (by omega)]
        exact IH1 q r (by omega) hr
    · rw [R, if_neg (by omega), if_neg (by omega)]
      exact IH2 i (by omega)
end
theorem loop3_ran (z : Int) (l : Nat) (st : Int) (c : List Int) : loop3 z l st c = ranLoop bfI z l st l c := by
  unfold loop3 ranLoop
  rw [show ((l : Int)).toNat = l by omega]
theorem loopG_ran (z : Int) (l : Nat) (st : Int) (c : List Int) : loopG z l st c = ranLoop gfI z l st l c := by
  unfold loopG ranLoop
  rw [show ((l : Int)).toNat = l by omega]
theorem blockF_ran (zs : List Int) (l k0 : Nat) (c : List Int) (b : Nat) : blockF zs l k0 c b = ranBlock bfI (fun i => zs.getD (k0 + i) 0) l c b := by
  unfold blockF ranBlock
  congr 1
theorem blockG_ran (zs : List Int) (l k0 : Nat) (c : List Int) (b : Nat) : blockG zs l k0 c b = ranBlock gfI (fun i => zs.getD (k0 - i) 0) l c b := by
  unfold blockG ranBlock
  congr 1
def Sc (s : Int) (X Y : List Int) : Prop := X.length = Y.length ∧ ∀ i, (3329 : Int) ∣ X.getD i 0 - s * Y.getD i 0
theorem arithA {s z y w A B : Int} (h1 : (3329 : Int) ∣ A - s * bfA z y w) (h2 : (3329 : Int) ∣ B - s * bfB z y w) (z' : Int) : (3329 : Int) ∣ gfA z' A B - 2 * s * y := by
  obtain ⟨k1, h1⟩ := h1
  obtain ⟨k2, h2⟩ := h2
  refine ⟨k1 + k2, ?_⟩
  unfold bfA at h1
  unfold bfB at h2
  unfold gfA
  grind
theorem arithB {s z z' y w A B : Int} (h1 : (3329 : Int) ∣ A - s * bfA z y w) (h2 : (3329 : Int) ∣ B - s * bfB z y w) (h3 : (3329 : Int) ∣ z * z' + 1) : (3329 : Int) ∣ gfB z' A B - 2 * s * w := by
  obtain ⟨k1, h1⟩ := h1
  obtain ⟨k2, h2⟩ := h2
  obtain ⟨k3, h3⟩ := h3
  refine ⟨z' * (k2 - k1) - 2 * s * w * k3, ?_⟩
  unfold bfA at h1
  unfold bfB at h2
  unfold gfB
  grind
theorem layer_back (zz zz' : Nat → Int) (l b : Nat) (hl : 0 < l) (s : Int) (X Y : List Int) (hlen : Y.length = 2 * l * b) (hz : ∀ q, q < b → (3329 : Int) ∣ zz q * zz' q + 1) (hX : Sc s X (ranBlock bfI zz l Y b)) :
    Sc (2 * s) (ranBlock gfI zz' l X b) Y := by
  obtain ⟨h1, h2⟩ := hX
  rw [ranBlock_len bfI_len] at h1
  refine ⟨by rw [ranBlock_len gfI_len, h1], fun i => ?_⟩
  obtain ⟨F1, _⟩ := ranBlock_at bfI_at bfI_len zz l hl Y b (by omega)
  obtain ⟨G1, _⟩ := ranBlock_at gfI_at gfI_len zz' l hl X b (by omega)
  by_cases hi : i < 2 * l * b
  · have hq : i / (2 * l) < b := Nat.div_lt_of_lt_mul hi
    have hd : 2 * l * (i / (2 * l)) + i % (2 * l) = i := Nat.div_add_mod i (2 * l)
    have hr : i % (2 * l) < 2 * l := Nat.mod_lt _ (by omega)
    generalize i / (2 * l) = q at hq hd
    generalize i % (2 * l) = r at hd hr
    have A := h2 (2 * l * q + r)
    have B := h2 (2 * l * q + l + r)
    by_cases hrl : r < l
    · subst hd
      rw [(F1 q r hq hrl).1] at A
      rw [(F1 q r hq hrl).2] at B
      rw [(G1 q r hq hrl).1]
      exact arithA A B _
    · obtain ⟨r', rfl⟩ : ∃ r', r = l + r' := ⟨r - l, by omega⟩
      have hrl' : r' < l := by omega
      have A := h2 (2 * l * q + r')
      have B := h2 (2 * l * q + l + r')
      rw [show i = 2 * l * q + l + r' by omega]
      rw [(F1 q r' hq hrl').1] at A
      rw [(F1 q r' hq hrl').2] at B
      rw [(G1 q r' hq hrl').2]
      exact arithB A B (hz q hq)
  · rw [getD_out _ _ (by rw [ranBlock_len gfI_len]; omega), getD_out Y _ (by omega)]
    simp
def zlist : List Int := (rangeKs 0 128).map (fun k => zetaP (brv k))
theorem zlist_all : (zlist.all fun x => decide (0 ≤ x) && decide (x < 3329)) = true := by decide +kernel
theorem zlist_len : zlist.length = 128 := by unfold zlist; rw [List.length_map, rangeKs_length]
theorem zlist_b (i : Nat) : 0 ≤ zlist.getD i 0 ∧ zlist.getD i 0 < 3329 := by
  by_cases h : i < zlist.length
  · have h2 := List.all_eq_true.mp zlist_all zlist[i] (List.getElem_mem h)
    simp only [Bool.and_eq_true, decide_eq_true_eq] at h2
    rw [List.getD_eq_getElem?_getD, List.getElem?_eq_getElem h]
    exact h2
  · rw [List.getD_eq_getElem?_getD, List.getElem?_eq_none (by omega)]
    decide
theorem zpair : ∀ m, m < 7 → ∀ q, q < 2 ^ m → (3329 : Int) ∣ zlist.getD (2 ^ m + q) 0 * zlist.getD (2 * 2 ^ m - 1 - q) 0 + 1 := by decide +kernel
def nlv (m : Nat) : Nat := 128 / 2 ^ m
theorem layers_back (c : List Int) (hc : c.length = 256) (X : List Int) (h0 : Sc 1 X (layersF zlist 7 c)) : Sc 128 (layersG zlist 7 X) c := by
  have one : ∀ (lf : Nat) (lg b kf kg : Nat) (_ : lf = lg) (_ : 0 < lf) (_ : 2 * lf * b = 256) (_ : ∀ q, q < b → (3329 : Int) ∣ zlist.getD (kf + q) 0 * zlist.getD (kg - q) 0 + 1) (s : Int) (X Y : List Int) (_ : Y.length = 256),
      Sc s X (blockF zlist lf kf Y b) → Sc (2 * s) (blockG zlist lg kg X b) Y := by
    rintro lf _ b kf kg rfl hl hb hz s X Y hY h
    rw [blockF_ran] at h
    rw [blockG_ran]
    exact layer_back _ _ lf b hl s X Y (by omega) hz h
  have L : ∀ m, (layersF zlist m c).length = 256 := fun m => by rw [layersF_len, hc]
  have h1 := one 2 2 64 64 127 rfl (by decide) (by decide) (zpair 6 (by decide)) 1 X _ (L 6) h0
  have h2 := one 4 4 32 32 63 rfl (by decide) (by decide) (zpair 5 (by decide)) _ _ _ (L 5) h1
  have h3 := one 8 8 16 16 31 rfl (by decide) (by decide) (zpair 4 (by decide)) _ _ _ (L 4) h2
  have h4 := one 16 16 8 8 15 rfl (by decide) (by decide) (zpair 3 (by decide)) _ _ _ (L 3) h3
  have h5 := one 32 32 4 4 7 rfl (by decide) (by decide) (zpair 2 (by decide)) _ _ _ (L 2) h4
  have h6 := one 64 64 2 2 3 rfl (by decide) (by decide) (zpair 1 (by decide)) _ _ _ (L 1) h5
  have h7 := one 128 128 1 1 1 rfl (by decide) (by decide) (zpair 0 (by decide)) _ _ _ (L 0) h6
  exact h7
end Mine
-- part Pl2
namespace Mine
open PySem PySem.W PyProof.Rows PyProof.V PySem.Calls
def rowW (c : List (Int × Int)) : List Int := rowOf c (c.map (·.1)) (List.replicate 256 0)
theorem rowW_len (c : List (Int × Int)) : (rowW c).length = 256 := by unfold rowW; rw [rowOf_len, List.length_replicate]
def nttW (c : List (Int × Int)) : List Int := (layersF zlist 7 (rowW c)).map (fun x => x.fmod 3329)
theorem nttW_len (c : List (Int × Int)) : (nttW c).length = 256 := by unfold nttW; rw [List.length_map, layersF_len, rowW_len]
def backW (c : List (Int × Int)) : List Int := (layersG zlist 7 (nttW c)).map (fun x => (x * 3303).fmod 3329)
theorem backW_len (c : List (Int × Int)) : (backW c).length = 256 := by unfold backW; rw [List.length_map, layersG_len, nttW_len]
theorem ints_rowW {vs : List Value} {c : List (Int × Int)} (h : IntsAre vs (rowOf c (c.map (·.1)) (List.replicate 256 0))) : IntsAre vs (rowW c) := h
theorem ints_nttW {vs : List Value} {c : List (Int × Int)} (h : IntsAre vs ((layersF zlist 7 (rowW c)).map (fun x => x.fmod 3329))) : IntsAre vs (nttW c) := h
theorem ints_zlist {vs : List Value} (h : IntsAre vs ((rangeKs 0 (128 - 0 : Int).toNat).map fun k' => zetaP (brv k'))) : IntsAre vs zlist := h
def dueOf (c : List (Int × Int)) (ks : List Int) (r : List Int) : List Int := ks.foldl (fun r k => r.set k.toNat ((kdfLook c k 0).fmod 3329)) r
theorem dueOf_len (c : List (Int × Int)) : ∀ (ks : List Int) (r : List Int), (dueOf c ks r).length = r.length
  | [], _ => rfl
  | k :: ks, r => by
    show (dueOf c ks (r.set k.toNat _)).length = _
    rw [dueOf_len, List.length_set]
theorem dueOf_snoc (c : List (Int × Int)) (ks : List Int) (k : Int) (r : List Int) : dueOf c (ks ++ [k]) r = (dueOf c ks r).set k.toNat ((kdfLook c k 0).fmod 3329) := by
  unfold dueOf
  rw [List.foldl_append]
  rfl
theorem ints_backW {vs : List Value} {c : List (Int × Int)} (h : IntsAre vs ((layersG zlist 7 (nttW c)).map (fun x => (x * 3303).fmod 3329))) : IntsAre vs (backW c) := h
theorem setL_at (f : Int → Int) : ∀ (ks : List Int) (r : List Int), (∀ k ∈ ks, 0 ≤ k ∧ k < (r.length : Int)) → ∀ i : Nat, (ks.foldl (fun r k => r.set k.toNat (f k)) r).getD i 0 = if (i : Int) ∈ ks then f i else r.getD i 0
  | [], r, _, i => by rw [if_neg (by simp)]; rfl
  | k :: ks, r, h, i => by
    have hk := h k (.head _)
    rw [List.foldl_cons, setL_at f ks _ (fun k' hk' => by rw [List.length_set]; exact h k' (.tail _ hk')) i, getD_set _ _ _ _ (by omega)]
    by_cases h1 : (i : Int) ∈ ks
    · rw [if_pos h1, if_pos (.tail _ h1)]
    · rw [if_neg h1]
      by_cases h2 : i = k.toNat
      · have e : k = (i : Int) := by omega
        subst e
        rw [if_pos h2, if_pos (.head _)]
      · rw [if_neg h2, if_neg]
        intro hm
        rcases List.mem_cons.mp hm with e | hm
        · omega
        · exact h1 hm
theorem getD_map0 (f : Int → Int) (hf : f 0 = 0) (c : List Int) (i : Nat) : (c.map f).getD i 0 = f (c.getD i 0) := by
  rw [List.getD_eq_getElem?_getD, List.getD_eq_getElem?_getD, List.getElem?_map]
  cases c[i]? with
  | none => exact hf.symm
  | some v => rfl
theorem ext_getD {a b : List Int} (hl : a.length = b.length) (h : ∀ i, a.getD i 0 = b.getD i 0) : a = b := by
  refine List.ext_getElem hl fun i h1 h2 => ?_
  have h3 := h i
  rw [List.getD_eq_getElem?_getD, List.getD_eq_getElem?_getD, List.getElem?_eq_getElem h1, List.getElem?_eq_getElem h2] at h3
  exact h3
theorem zero_at (i : Nat) : (List.replicate 256 (0 : Int)).getD i 0 = 0 := by
  rw [List.getD_eq_getElem?_getD, List.getElem?_replicate]
  split <;> rfl
theorem due_row (c : List (Int × Int)) (ks : List Int) (hk : ∀ k ∈ ks, 0 ≤ k ∧ k < 256) : dueOf c ks (rowOf c ks (List.replicate 256 0)) = (rowOf c ks (List.replicate 256 0)).map (fun x => x.fmod 3329) := by
  refine ext_getD (by rw [dueOf_len, List.length_map]) fun i => ?_
  rw [getD_map0 _ (by decide)]
  have h1 := setL_at (fun k => kdfLook c k 0) ks (List.replicate 256 0) (by rw [List.length_replicate]; exact hk) i
  have h2 := setL_at (fun k => (kdfLook c k 0).fmod 3329) ks (rowOf c ks (List.replicate 256 0)) (by rw [rowOf_len, List.length_replicate]; exact hk) i
  have h1' : (rowOf c ks (List.replicate 256 0)).getD i 0 = _ := h1
  have h2' : (dueOf c ks (rowOf c ks (List.replicate 256 0))).getD i 0 = _ := h2
  rw [h2', h1']
  by_cases h : (i : Int) ∈ ks
  · rw [if_pos h, if_pos h]
  · rw [if_neg h, if_neg h, zero_at]; rfl
theorem sc_mod (Y : List Int) : Sc 1 (Y.map (fun x => x.fmod 3329)) Y := by
  refine ⟨List.length_map .., fun i => ?_⟩
  rw [getD_map0 _ (by decide)]
  generalize Y.getD i 0 = y
  rw [Int.fmod_eq_emod_of_nonneg _ (by decide)]
  omega
theorem plain_law (c : List (Int × Int)) (hk : ∀ p ∈ c, 0 ≤ p.1 ∧ p.1 < 256) : backW c = dueOf c (c.map (·.1)) (rowW c) := by
  unfold rowW
  rw [due_row c _ (fun k h => by obtain ⟨p, hp, rfl⟩ := List.mem_map.mp h; exact hk p hp)]
  show backW c = (rowW c).map _
  refine ext_getD (by rw [backW_len, List.length_map, rowW_len]) fun i => ?_
  have h := (layers_back (rowW c) (rowW_len c) (nttW c) (sc_mod _)).2 i
  unfold backW
  rw [getD_map0 _ (by decide), getD_map0 _ (by decide)]
  generalize (layersG zlist 7 (nttW c)).getD i 0 = x at h
  generalize (rowW c).getD i 0 = y at h
  rw [Int.fmod_eq_emod_of_nonneg _ (by decide), Int.fmod_eq_emod_of_nonneg _ (by decide)]
  omega
end Mine
-- part Main
namespace Mine
open PySem PySem.W PyProof.Rows PyProof.V PySem.Calls
theorem eq_true_x {prog : Program} {w : World} {A : Around} {E : Value → Shared → Prop} {s : Shared} {a b : Addr} {vs us : List Value} {ns ms : List Int} {Q : Value → Shared → Prop} (hl : s.heap.IsList a vs.toArray) (hi : IntsAre vs ns) (hl' : s.heap.IsList b us.toArray) (hi' : IntsAre us ms) (hu : A.units + 64 < cLine) (e : ns = ms)
    (h : Q (.bool true) s) : wpAny (model prog w) A (compareOp .Eq (.ref a) (.ref b)) Q E s :=
  eq_intsK hl hi hl' hi' hu (by rw [decide_eq_true e]; exact h)
def StatePost (h₀ : Heap) (L : Addr) (m : Str → Option Value) (s : Shared) (v : Value) (s' : Shared) : Prop :=
  ∃ (S C : Addr) (ti : Tok) (vs' : List Value) (ns' : List Int) (c1 c2 : Nat) (h' : Heap) (tk' : Nat), v = .ref S ∧ s' = { s with heap := h', toks := tk' } ∧ (@LT.lt Nat _ C S) ∧ IntsAre vs' ns' ∧ 0 < ns'.length ∧ ns'.length ≤ 63 ∧
    Fr h₀ L h' m ∧ News h₀ L h' [(S, listOf [Value.int 0 ti, Value.ref C].toArray c1), (C, listOf vs'.toArray c2)]
theorem state_join {M : Model} {A : Around} {t : Sem Value} {Q E : Value → Shared → Prop} {s : Shared} {h₀ h : Heap} {L : Addr} {m : Str → Option Value} (_F : Fr h₀ L h m) (hw : wpAny M A t (StatePost h₀ L m s) E s)
    (k : ∀ (S C : Addr) (ti : Tok) (vs' : List Value) (ns' : List Int) (c1 c2 : Nat) (h' : Heap) (tk' : Nat), (@LT.lt Nat _ C S) → IntsAre vs' ns' → 0 < ns'.length → ns'.length ≤ 63 → Fr h₀ L h' m → News h₀ L h' [(S, listOf [Value.int 0 ti, Value.ref C].toArray c1), (C, listOf vs'.toArray c2)] → Q (.ref S) { s with heap := h', toks := tk' }) :
    wpAny M A t Q E s := wpAny_mono hw (fun v s' h => by
      obtain ⟨S, C, ti, vs', ns', c1, c2, h', tk', rfl, rfl, a, b, c, d, e, f⟩ := h
      exact k S C ti vs' ns' c1 c2 h' tk' a b c d e f) fun _ _ x => x
local macro_rules | `(tactic| walk_at "call ref") => `(tactic| k_extra "call ref")
local macro_rules | `(tactic| walk_at "call type:list") => `(tactic| k_extra "list")
local macro_rules | `(tactic| walk_at "getMethod ref") => `(tactic| (k_here; k_dflt (refine' method_inst ?k1 ?k2 ?k3 ?k4 ?k5 ?k6 ?k7 ?_; (case k1 => k_asm); (case k2 => k_asm); (case k3 => k_inst); (case k4 => k_is); (case k5 => k_is); (case k6 => k_is); (case k7 => k_get); k_whole)))
local macro_rules | `(tactic| walk_at "getMethod ref") => `(tactic| ((with_reducible show wpAny _ _ (getMethod (Value.ref _) (PySem.Str.ofString "_br") _) _ _ _); walk_at "last getMethod ref"))
local macro_rules | `(tactic| walk_at "call builtin:len") => `(tactic| k_extra "len")
local macro_rules | `(tactic| walk_at "exec For Name Name cons nil") => `(tactic| (k_here; (with_reducible rename Fr _ _ _ _ => lF'); (with_unfolding_all refine' For_invVF lF' ?k1 ?k2 ?_; (case k1 => exact rfl); (case k2 => exact rfl); k_whole)))
local macro_rules | `(tactic| walk_at "compareOp Eq ref ref") => `(tactic| k_extra "eq")
local macro_rules | `(tactic| walk_at "pyIter ref") => `(tactic| k_extra "pyIter ref")
local macro_rules | `(tactic| walk_at "call builtin:pow") => `(tactic| k_extra "pow")
set_option maxRecDepth 100000 in
set_option maxHeartbeats 8000000 in
theorem walk1 : PySem.Challenge.rw_yi0040_01.Holds := by
  w_on
  refine holds_law said_all fun said => ?_
  refine holds_open (q := hd.view_1) (loose := [Str.ofString "PolynomialRing", Str.ofString "PolynomialNTT"])
    (Xt := fun s => xlAt hd.view_1 [] s && recOk (RowW.records (OpenRow.toRowW PySem.Challenge.rw_yi0040_01.row)) s) (XP := XL hd.view_1 [])
    (Yf := Hook.obs (kHook hd.heap_1 asK asK_eq)) (Ya := Hook.val (kHook hd.heap_1 asK asK_eq)) (YP := Hook.says (kHook hd.heap_1 asK asK_eq)) (N := 6406)
    left (Hook.of _) (Hook.keeps _) (fun s e => xl_of s (Bool.and_eq_true_iff.mp e).1) XL.keeps (by rfl) (by rfl) (by rfl) (fun s e => recFacts_of (Bool.and_eq_true_iff.mp e).2) (by rfl) said
    (by decide +kernel) ⟨rfl, rfl, rfl, rfl, rfl, by decide +kernel⟩ ?hw ?hc
  case hw => w_witness2
  case hc =>
   clear said
   w_strict (
    k_go0
    all_goals try k_fold
    k_with_none
    k_with "call ref" => (first
      | ((with_reducible show wpAny _ _ (call (Value.ref 245) _) _ _ _); k_dflt (refine' br_spec ?k1 ?k2 ?k3 ?k4 ?k5 ?kK ?kd ?ku ?b0 ?b1 ?_); (case k1 => k_asm); (case k2 => k_asm); (case k3 => k_asm); (case k4 => k_asm); (case k5 => k_asm); (case kK => first | exact rfl | assumption); (case kd => ktr_room); (case ku => first | ktr_units | k_dflt k_units); (case b0 => omega); (case b1 => omega); intro t9 h9 tk9 F9 N9)
      | ((with_reducible show wpAny _ _ (call (Value.ref 433) _) _ _ _); (fail_if_success (with_reducible show wpAny _ _ _ (StatePost _ _ _ _) _ _)); (with_reducible rename Fr _ _ _ _ => lF'); (refine state_join lF' ?_ ?_); (rotate_left); (intro S C ti vs1 ns1 c1 c2 h9 tk9 hCS hI9 hL1 hL2 F9 N9); (rename_i xw xs0 xs1 xmg xmb xG xY xfa xo xpm xdoc xkV xho xhg xKX xX xV xGL xT xB xTE xTW xa1 xa2 xM xa3 xa4 xhcd xns xhs xhlay0 xhL xhr xhl2 xb1 xb2 xb3 xb4 xb5 xhL2 xra xw1 xr0 xhI xhr2 xc1 xc2 xK0 xhD xh1 xN0); (clear lF' xN0 xhD xhr2 xr0 xw1 xra xhl2 xhr xhlay0 xhcd xY xG xB xTE xTW xX xV xhI xhL2 xhL xhs xc1 xc2); (rotate_left))
      | ((with_reducible show wpAny _ _ (call (Value.ref 447) _) _ _ _); (with_reducible rename News _ _ _ _ => lN'); k_dflt (refine' terms_spec ?k1 ?k2 ?k3 (pick7 lN') ?k5 ?kK ?kd ?ku ?ko ?ks ?ki ?kl ?kl2 ?k0 ?_); (case k1 => k_asm); (case k2 => k_asm); (case k3 => k_asm); (case k5 => k_asm); (case kK => first | exact rfl | assumption); (case kd => first | ktr_room | (k_dflt decide)); (case ku => first | ktr_units | k_dflt k_units); (case ko => (repeat' (first | exact off_nil | refine off2_cons ?_ ?_ ?_)); (all_goals (try dsimp only)); (all_goals omega)); (case ks => omega); (case ki => assumption); (case kl => assumption); (case kl2 => assumption); (case k0 => decide); intro D o9 kvs9 c9 i9 ti9 vs9 h9 tk9 d1 d2 d3 lo9 hd9 hf9 hk9 hl9 F9 N9; replace N9 := pick6 N9; (k_lt d3))
      | ((with_reducible show wpAny _ _ (call (Value.ref 454) _) _ _ _); k_dflt (refine' row_spec ?k1 ?k2 ?k3 ?k4 ?k5 ?kK ?kd ?ku ?klo ?kdo ?kdf ?kks ?_); (case k1 => k_asm); (case k2 => k_asm); (case k3 => k_asm); (case k4 => k_asm); (case k5 => k_asm); (case kK => first | exact rfl | assumption); (case kd => first | ktr_room | (k_dflt decide)); (case ku => first | ktr_units | k_dflt k_units); (case klo => assumption); (case kdo => assumption); (case kdf => assumption); (case kks => assumption); intro R vsR nR h9 tk9 e3 hIR F9 N9; (have hlR := (IntsAre.length hIR).trans (by rw [rowOf_len, List.length_replicate]));  (k_lt e3))
      | ((with_reducible show wpAny _ _ (call (Value.ref 340) _) _ _ _); k_dflt (refine' ntt_spec (ns := rowW c9) (zs := zlist) ?k1 ?k2 ?k3 ?k4 ?k5 ?kK ?kd ?ku ?q1 ?q2 ?q3 ?q4 ?q5 ?q6 ?q7 ?ki ?kl ?kz ?kzl ?kzb ?_); (case k1 => k_asm); (case k2 => k_asm); (case k3 => k_asm); (case k4 => k_asm); (case k5 => k_asm); (case kK => first | exact rfl | assumption); (case kd => first | ktr_room | (k_dflt decide)); (case ku => first | ktr_units | k_dflt k_units); (case q1 => omega); (case q2 => omega); (case q3 => omega); (case q4 => omega); (case q5 => omega); (case q6 => omega); (case q7 => omega); (case ki => exact ints_rowW hIR); (case kl => exact rowW_len c9); (case kz => exact ints_zlist (by assumption)); (case kzl => exact zlist_len); (case kzb => exact zlist_b); intro Y1 Yd1 y1a y1b vsN cWN h9 tk9 yo1 yo2 hIN F9 N9)
      | ((with_reducible show wpAny _ _ (call (Value.ref 380) _) _ _ _); k_dflt (refine' inv_spec (ns := nttW c9) (zs := zlist) ?k1 ?k2 ?k3 ?k4 ?k5 ?kK ?kd ?ku ?q1 ?q2 ?q3 ?q4 ?q5 ?q6 ?q7 ?ki ?kl ?kz ?kzl ?kzb ?_); (case k1 => k_asm); (case k2 => k_asm); (case k3 => k_asm); (case k4 => k_asm); (case k5 => k_asm); (case kK => first | exact rfl | assumption); (case kd => first | ktr_room | (k_dflt decide)); (case ku => first | ktr_units | k_dflt k_units); (case q1 => omega); (case q2 => omega); (case q3 => omega); (case q4 => omega); (case q5 => omega); (case q6 => omega); (case q7 => omega); (case ki => exact ints_nttW hIN); (case kl => exact nttW_len c9); (case kz => exact ints_zlist (by assumption)); (case kzl => exact zlist_len); (case kzb => exact zlist_b); intro Y2 Yd2 y2a y2b vsB cWB h9 tk9 yo3 yo4 hIB F9 N9))
    k_with "pyIter ref" => (refine hold ?_)
    k_with "eq" => ((with_reducible rename News _ _ _ _ => lN'); k_dflt (refine' eq_true_x (News.isList lN' (List.Mem.tail _ (List.Mem.head _))) (ints_backW hIB) (News.isList lN' (List.Mem.head _)) f1 ?ku ?ke ?_); (case ku => k_dflt k_units); (case ke => exact (plain_law c9 hk9).trans p1.symm))
    k_with "list" => ((with_reducible rename Fr _ _ _ _ => lF'); (with_reducible rename News _ _ _ _ => lN'); k_dflt (refine list_copy_x lF' lN' (List.Mem.head _) (by rw [hlR]; decide) ?_); intro W cW h9 F9 N9 l9; (k_lt l9))
    k_with "len" => ((with_reducible show wpAny _ _ (call (Value.builtin "len") [Value.ref _]) _ _ _); (with_reducible rename News _ _ _ _ => lN'); k_dflt (refine' kst_len lN' ?km hlR (by decide) ?_); (case km => k_dflt k_mem))
    k_with "pow" => (first
      | (refine call_powZ (by have hb9 := brv_range (by assumption) (by assumption); omega) ?_; intro t9 k9)
      | (refine call_powI ?_; intro t9 k9))
    k_steps
    rotate_left 2
    focus (
      refine unhold ?_
      (with_reducible rename Fr _ _ _ _ => lF'); (with_reducible rename News _ _ _ _ => lN')
      with_unfolding_all refine' kst_dict (σ := List Value × List Int × Nat) (ns := c9.map (·.1))
                                 (fun z => [(R, listOf z.1.toArray z.2.2), (W, listOf vsB.toArray cWB), (D, o9)])
                                 (fun _ => [])
                                 (fun z => IntsAre z.1 z.2.1)
                                 []
                                 (fun pre z => z.2.1 = dueOf c9 pre (rowW c9))
                                 (vsR, rowW c9, nR) (by rfl) (by intro z; exact .tail _ (.tail _ (.head _))) lo9 hd9 (flat_keys hf9) lF' ?kn ?kf ?kk ?kp ?turn ?done
      (case kn => exact kst_newsOf lN' (by kst_inAny))
      (case kf => exact ints_rowW hIR)
      (case kk => exact List.forall_mem_nil _)
      (case kp => rfl)
      (all_goals (try clear lF' lN'))
      (case' turn => (
          rintro ⟨vs, ns, n2⟩ pre post k t u h tk own hsp hmem hown f1 p1 lF' lN'
          dsimp only [kstB] at lF'
          dsimp only at lN' f1 p1 hown
          simp only [List.nil_append, List.cons_append, List.append_nil] at lN'
          have hhas := has_of_mem hmem
          obtain ⟨q, hq, hqk⟩ := List.mem_map.mp hmem
          have hq2 := hk9 q hq
          rw [hqk] at hq2
          have hl : ns.length = 256 := by rw [p1, dueOf_len, rowW_len]))
      (case' done => (
          rintro ⟨vs, ns, n2⟩ u h tk f1 p1 lF' lN'
          dsimp only [kstB] at lF'
          dsimp only at lN' f1 p1))
      all_goals (try k_fold)
      k_steps
      · refine kst_end (_, _, _) (by assumption) (by assumption) (by first | kst_in | kst_inAny) (by first | (intro p hp; kst_mem) | kst_anyIn) (by rfl) (by assumption) (by exact List.forall_mem_nil _) (by kst_same) ?w1
        (case w1 => (dsimp only; rw [dueOf_snoc, ← p1])))
    all_goals (
      refine' ⟨_, _, _, _, _, _, _, _, _, rfl, rfl, ?x1, ?x2, ?x3, ?x4, ?x5, ?x6⟩
      (case x5 => assumption)
      (case x6 => exact kst_newsOf (by assumption) (by kst_inAny))
      (case x2 => first | assumption | exact IntsAre.cons _ _ .nil)
      (case x1 => omega)
      (case x3 => first | decide | omega)
      (case x4 => first | decide | omega | (simp only [List.length_map, List.length_take]; omega))))
end Mine
theorem PySem.Challenge.cw_yi0040_01_holds : PySem.Challenge.rw_yi0040_01.Holds :=
  Mine.walk1
