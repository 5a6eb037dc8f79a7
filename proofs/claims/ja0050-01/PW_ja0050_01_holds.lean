import PyProof.Rows.All
import Wide.All
import OpenK.AllK
import Wide.FinOn
import PySem.Challenge.RW_ja0050_01
set_option Elab.async false
section
open PySem PySem.W PyProof.Rows
namespace JA
noncomputable def topG {β : Type} (tr : (String → Option Builtin) → Program → World → Nat → Option Value → Nat → Shared → Thread → Option Shared) (im : List Stmt → List Str)
    (sn : Program → List Str → List Str → (Shared → Bool) → Bool → Shared → β) (tb : String → Option Builtin) (p q : Program) (loose : List Str) (Xt : Shared → Bool) {α : Type} (Yf : Shared → α)
    (N : Nat) (g0 : Bool) (w : World) (s₀ : Shared) : Option (β × α) :=
  (match s₀.heap.isNs mainGlobals && s₀.gens.size == 0 with
    | true => (tr tb p w s₀.heap.objs.size (s₀.heap.nsMap mainGlobals "__annotations__") N s₀ (topStub p)).bind fun s₁ =>
        match staticsOk (im p.main.body) s₀.heap s₁.heap && namesBound p s₁.heap && gensDone s₁ && laidKept s₀.heap s₁.heap with
        | true => some s₁
        | false => none
    | false => none).map fun s => (sn q loose (im p.main.body) Xt g0 s, Yf s)
theorem left_of_boot {p q : Program} {loose : List Str} {Xt : Shared → Bool} {α : Type} {Yf : Shared → α} {Ya : World → α} {N : Nat} {g0 : Bool}
    (e : opening p = plainProg p.main.scope.names) (hN : Nat.ble 600 N = true) (f : ∀ s, fenceModules? p s = some s)
    (h : ∀ (w : World) (os : OsState), topG Fast.tw14082659384304107361 Fast.tw5923862056798008813 Fast.tw4187177175401517315 Fast.tw14364793385576792824 p q loose Xt Yf N g0 w
      ⟨boot_heap w.params, #[], boot_drawn, boot_toks, os⟩ = some (openGood q loose, Ya w)) : LeftO p q loose Xt Yf Ya N g0 := fun w => by
  obtain ⟨⟨hp, gs, d, k, os⟩, e1, e2⟩ := Option.map_eq_some_iff.mp (boot_open e hN f w)
  obtain ⟨rfl, rfl, rfl, rfl⟩ : hp = boot_heap w.params ∧ gs = #[] ∧ d = boot_drawn ∧ k = boot_toks := by simpa using e2
  unfold openEnds
  rw [e1]
  have q := h w os
  rw [← Fast.te14082659384304107361, ← Fast.te5923862056798008813, ← Fast.te4187177175401517315, ← Fast.te14364793385576792824] at q
  exact q
noncomputable def view : Program := { PySem.Challenge.pw_ja0050_01 with main := { PySem.Challenge.pw_ja0050_01.main with body := ((PySem.Challenge.pw_ja0050_01.main.body.eraseIdx 20).eraseIdx 7).eraseIdx 5 } }
set_option maxRecDepth 100000 in
theorem said1 : Fast.tw9446332074065402090 PySem.Challenge.rw_ja0050_01 = true := by
  delta Fast.tw9446332074065402090
  repeat' (first | with_reducible refine look_both ?_ ?_ | (delta Fast.tw17960256430627541270; with_reducible refine look_both ?_ ?_) | (delta Fast.tw2436336058641802641; with_reducible refine look_both ?_ ?_) | (delta Fast.tw12908688711261696721; with_reducible refine look_both ?_ ?_))
  all_goals (decide +kernel)
theorem said0 : PySem.Challenge.rw_ja0050_01.wellSaid = true := by rw [Fast.te9446332074065402090]; exact said1
local macro_rules
  | `(tactic| o_law) => `(tactic| refine holds_law said0 fun said => ?_)
local macro_rules
  | `(tactic| o_head $H) => `(tactic| (
     refine holds_open (q := view) (loose := [Str.ofString "_tuplegetter", Str.ofString "RawShare", Str.ofString "_EXP_TABLE_00", Str.ofString "_EXP_TABLE_01",
      Str.ofString "EXP_TABLE", Str.ofString "_LOG_TABLE_00", Str.ofString "_LOG_TABLE_01", Str.ofString "LOG_TABLE"]) (Xt := fun s => xlAt view [] s && recOk (RowW.records _) s) (XP := XL view []) (Yf := Hook.obs $H) (Ya := Hook.val $H) (YP := Hook.says $H) (N := 5006) ?hl (Hook.of $H) (Hook.keeps $H) (fun s e => xl_of s (Bool.and_eq_true_iff.mp e).1) XL.keeps (by rfl) (by rfl) (by rfl) (fun s e => recFacts_of (Bool.and_eq_true_iff.mp e).2) (by rfl) (by first | assumption | decide +kernel) (by decide +kernel) ⟨rfl, rfl, rfl, rfl, rfl, by decide +kernel⟩ ?hw ?hc
     case hl => exact left_of_boot (by kernel_rfl) (by rfl) (fun s => by kernel_rfl) fun w os => by kernel_rfl))
set_option maxRecDepth 100000 in
set_option maxHeartbeats 8000000 in
open_top hd for PySem.Challenge.rw_ja0050_01
end JA
end
section
open PySem PySem.W PyProof.Rows PySem.Calls
namespace JA
/-- a post as a variable: keeps the walk's terms small -/
theorem post_abs {M : Model} {α : Type} {A : Around} {t : Sem α} {Q : α → Shared → Prop} {E : Value → Shared → Prop} {s : Shared}
    (h : ∀ Q' : α → Shared → Prop, (∀ v s', Q v s' → Q' v s') → wpAny M A t Q' E s) : wpAny M A t Q E s := h Q fun _ _ x => x
theorem code_abs {M : Model} {A : Around} {c : Code} {R : Result → Shared → Prop} {s : Shared}
    (h : ∀ R' : Result → Shared → Prop, (∀ v s', R v s' → R' v s') → codeAny M A c R' s) : codeAny M A c R s := h R fun _ _ x => x
theorem turn_abs {M : Model} {α β : Type} {A : Around} {t : Sem α} {t2 : Sem β} {Q : β → Shared → Prop} {E : Value → Shared → Prop} {s : Shared}
    (h : ∀ (Q' : β → Shared → Prop) (E' : Value → Shared → Prop), (∀ v s', Q v s' → Q' v s') → (∀ v s', E v s' → E' v s') → wpAny M A t (fun _ s₂ => wpAny M A t2 Q' E' s₂) E' s) :
    wpAny M A t (fun _ s₂ => wpAny M A t2 Q E s₂) E s := h Q E (fun _ _ x => x) fun _ _ x => x
theorem body_abs {M : Model} {α : Type} {A : Around} {t : Sem α} {Q : α → Shared → Prop} {E : Value → Shared → Prop} {s : Shared}
    (h : ∀ (Q' : α → Shared → Prop) (E' : Value → Shared → Prop), (∀ v s', Q v s' → Q' v s') → (∀ v s', E v s' → E' v s') → wpAny M A t Q' E' s) : wpAny M A t Q E s := h Q E (fun _ _ x => x) fun _ _ x => x
end JA
end
section
open PySem PySem.W PyProof.Rows PySem.Calls
namespace JA
set_option maxRecDepth 100000


/-- a list's object -/
abbrev lst (items : List Value) (n : Nat) : Obj := { cls := .type "list", data := .seq items.toArray n }

abbrev Stays (g h : Heap) : Prop := ∀ b o, g.get? b = some o → h.get? b = some o

/-- what is known of the interpreter and of the program's top in a heap, kept by every growing -/
structure Wd (w : World) (g : Heap) : Prop where
  K : (JA.hd.heap_1 w.params).In g
  mg : ∃ mg, g.Ns mainGlobals mg
  mb : ∃ mb, g.Ns builtinsNs mb ∧ ∀ x : Str, x ≠ "__name__" → mb x = bootBuiltins x
  nolimit : g.NoLimit
  mod : ∃ mg bm om, g.Ns mainGlobals mg ∧ mg "__builtins__" = some (.ref bm) ∧ bm ≠ builtinsNs ∧ g.get? bm = some om ∧ om.cls = .type "module" ∧ om.dict = some builtinsNs ∧ om.data = .plain

theorem Wd.keeps {w : World} {g h : Heap} (W : Wd w g) (k : Stays g h) : Wd w h :=
  ⟨Frag.In.keeps W.K k, let ⟨m, x⟩ := W.mg; ⟨m, x.keeps k⟩, let ⟨m, x, y⟩ := W.mb; ⟨m, x.keeps k, y⟩, W.nolimit.keeps k, let ⟨m, bm, om, x, a, b, c, d⟩ := W.mod; ⟨m, bm, om, x.keeps k, a, b, k _ _ c, d⟩⟩

/-- an activation: the frame's names m at L, the base g, the objects that may turn -/
structure Act (g : Heap) (L : Addr) (h : Heap) (m : Str → Option Value) (mu : List (Addr × Obj)) : Prop where
  ns : h.Ns L m
  keep : Stays g h
  off : g.get? L = none
  mus : ∀ p ∈ mu, h.get? p.1 = some p.2 ∧ p.1 ≠ L ∧ g.get? p.1 = none
  nd : (mu.map (·.1)).Nodup

section
variable {g h h' : Heap} {L : Addr} {m m' : Str → Option Value} {mu : List (Addr × Obj)}

theorem Act.set (X : Act g L h m mu) (hn : h'.Ns L m') (hs : Heap.SameBut L h h') : Act g L h' m' mu :=
  ⟨hn, fun b o e => (hs.2 b (fun q => by rw [q, X.off] at e; cases e)).trans (X.keep b o e), X.off,
   fun p hp => ⟨(hs.2 p.1 (X.mus p hp).2.1).trans (X.mus p hp).1, (X.mus p hp).2⟩, X.nd⟩

theorem Act.grow (X : Act g L h m mu) (k : Stays h h') : Act g L h' m mu :=
  ⟨X.ns.keeps k, fun b o e => k b o (X.keep b o e), X.off, fun p hp => ⟨k _ _ (X.mus p hp).1, (X.mus p hp).2⟩, X.nd⟩

theorem Act.get (X : Act g L h m mu) {a : Addr} {o : Obj} (hm : (a, o) ∈ mu) : h.get? a = some o := (X.mus _ hm).1

theorem Act.list (X : Act g L h m mu) {a : Addr} {items : List Value} {n : Nat} (hm : (a, lst items n) ∈ mu) : h.IsList a items.toArray := ⟨_, X.get hm, rfl, n, rfl⟩

theorem lt_of_get {h : Heap} {a : Addr} {o : Obj} (e : h.get? a = some o) : a < h.objs.size := Heap.lt_size e

theorem Act.ltL (X : Act g L h m mu) : L < h.objs.size := X.ns.lt

theorem Act.push (X : Act g L h m mu) (o : Obj) (hf : o.isFreed = false := by rfl) : Act g L (h.push o) m ((h.objs.size, o) :: mu) := by
  have hfresh : ∀ b o', h.get? b = some o' → b ≠ h.objs.size := fun b o' e => Nat.ne_of_lt (Heap.lt_size e)
  refine ⟨X.ns.push o, fun b o' e => Heap.get?_push_of_some _ (X.keep b o' e), X.off, fun p hp => ?_, ?_⟩
  · rcases List.mem_cons.mp hp with rfl | hp
    · refine ⟨Heap.get?_push_size _ hf, Nat.ne_of_gt X.ltL, ?_⟩
      cases hq : g.get? h.objs.size with
      | none => rfl
      | some o' => exact absurd rfl (hfresh _ _ (X.keep _ _ hq))
    · exact ⟨Heap.get?_push_of_some _ (X.mus p hp).1, (X.mus p hp).2⟩
  · refine List.nodup_cons.mpr ⟨fun hm => ?_, X.nd⟩
    obtain ⟨p, hp, e⟩ := List.mem_map.mp hm
    exact hfresh _ _ (X.mus p hp).1 e

/-- what may be done to the heap besides the addresses of M -/
noncomputable def Off (M : List Addr) (h h' : Heap) : Prop := ∀ b o, b ∉ M → h.get? b = some o → h'.get? b = some o
theorem Off.refl (M : List Addr) (h : Heap) : Off M h h := fun _ _ _ e => e
theorem Off.trans {M : List Addr} {h h' h'' : Heap} (x : Off M h h') (y : Off M h' h'') : Off M h h'' := fun b o hb e => y b o hb (x b o hb e)
theorem Off.mono {M M' : List Addr} (x : Off M h h') (k : ∀ a ∈ M, a ∈ M') : Off M' h h' := fun b o hb e => x b o (fun q => hb (k b q)) e
theorem Off.nil (x : Off [] h h') : Stays h h' := fun b o e => x b o List.not_mem_nil e

/-- behind a step that turns just mu (to mu') -/
theorem Act.after {pre mu' post : List (Addr × Obj)} (X : Act g L h m (pre ++ (mu ++ post))) (off : Off (mu.map (·.1)) h h') (hs : mu'.map (·.1) = mu.map (·.1)) (hm : ∀ p ∈ mu', h'.get? p.1 = some p.2) :
    Act g L h' m (pre ++ (mu' ++ post)) := by
  have key : ∀ p, p ∈ mu' → ∃ o, (p.1, o) ∈ mu := fun p hp => by
    have : p.1 ∈ mu'.map (·.1) := List.mem_map.mpr ⟨p, hp, rfl⟩
    rw [hs] at this
    obtain ⟨q, hq, e⟩ := List.mem_map.mp this
    exact ⟨q.2, by rw [← e]; exact hq⟩
  have hL : L ∉ mu.map (·.1) := fun q => by
    obtain ⟨p, hp, e⟩ := List.mem_map.mp q
    exact (X.mus p (List.mem_append_right _ (List.mem_append_left _ hp))).2.1 e
  have hg : ∀ b o, g.get? b = some o → b ∉ mu.map (·.1) := fun b o e q => by
    obtain ⟨p, hp, rfl⟩ := List.mem_map.mp q
    rw [(X.mus p (List.mem_append_right _ (List.mem_append_left _ hp))).2.2] at e; cases e
  have nd := X.nd
  rw [List.map_append, List.map_append] at nd
  have nd1 := List.nodup_append.mp nd
  have nd2 := List.nodup_append.mp nd1.2.1
  refine ⟨X.ns.at' fun o e => off L o hL e, fun b o e => off b o (hg b o e) (X.keep b o e), X.off, fun p hp => ?_, ?_⟩
  · rcases List.mem_append.mp hp with hp | hp
    · have Y := X.mus p (List.mem_append_left _ hp)
      refine ⟨off _ _ (fun q => ?_) Y.1, Y.2⟩
      exact nd1.2.2 _ (List.mem_map.mpr ⟨p, hp, rfl⟩) _ (List.mem_append_left _ q) rfl
    · rcases List.mem_append.mp hp with hp | hp
      · obtain ⟨o, ho⟩ := key p hp
        have Y := X.mus _ (List.mem_append_right pre (List.mem_append_left post ho))
        exact ⟨hm p hp, Y.2⟩
      · have Y := X.mus p (List.mem_append_right _ (List.mem_append_right _ hp))
        refine ⟨off _ _ (fun q => ?_) Y.1, Y.2⟩
        exact nd2.2.2 _ q _ (List.mem_map.mpr ⟨p, hp, rfl⟩) rfl
  · rw [List.map_append, List.map_append, hs]
    exact nd

/-- one object of the list turned -/
inductive Put (a : Addr) (o o' : Obj) : List (Addr × Obj) → List (Addr × Obj) → Prop
  | head (r : List (Addr × Obj)) : Put a o o' ((a, o) :: r) ((a, o') :: r)
  | tail (p : Addr × Obj) {r r' : List (Addr × Obj)} : Put a o o' r r' → Put a o o' (p :: r) (p :: r')
theorem Put.addrs {a : Addr} {o o' : Obj} : ∀ {mu mu' : List (Addr × Obj)}, Put a o o' mu mu' → mu'.map (·.1) = mu.map (·.1)
  | _, _, .head _ => rfl
  | _, _, .tail _ u => by simp [u.addrs]
theorem Put.mem {a : Addr} {o o' : Obj} : ∀ {mu mu' : List (Addr × Obj)}, Put a o o' mu mu' → (a, o) ∈ mu
  | _, _, .head _ => .head _
  | _, _, .tail _ u => .tail _ u.mem
theorem Put.of {a : Addr} {o o' : Obj} : ∀ {mu mu' : List (Addr × Obj)}, Put a o o' mu mu' → (mu.map (·.1)).Nodup → ∀ p ∈ mu', p = (a, o') ∨ (p ∈ mu ∧ p.1 ≠ a)
  | _, _, .head r, nd, p, hp => by
    rcases List.mem_cons.mp hp with rfl | hp
    · exact .inl rfl
    · refine .inr ⟨.tail _ hp, fun e => ?_⟩
      have := (List.nodup_cons.mp nd).1
      exact this (List.mem_map.mpr ⟨p, hp, e⟩)
  | _, _, .tail q u, nd, p, hp => by
    have n2 := List.nodup_cons.mp nd
    rcases List.mem_cons.mp hp with rfl | hp
    · refine .inr ⟨.head _, fun e => n2.1 ?_⟩
      have hq : a ∈ _ := List.mem_map_of_mem (f := fun x : Addr × Obj => x.1) u.mem
      rw [← e] at hq
      exact hq
    · rcases u.of n2.2 p hp with h | h
      · exact .inl h
      · exact .inr ⟨.tail _ h.1, h.2⟩

theorem Act.put {mu' : List (Addr × Obj)} {a : Addr} {o o' : Obj} (X : Act g L h m mu) (U : Put a o o' mu mu') (hs : Heap.SameBut a h h') (ho : h'.get? a = some o') : Act g L h' m mu' := by
  have A := X.mus _ U.mem
  refine ⟨X.ns.sameBut hs (Ne.symm A.2.1), fun b x e => (hs.2 b fun q => ?_).trans (X.keep b x e), X.off, fun p hp => ?_, by rw [U.addrs]; exact X.nd⟩
  · have := A.2.2; rw [q] at e; rw [this] at e; cases e
  · rcases U.of X.nd p hp with rfl | ⟨h1, h2⟩
    · exact ⟨ho, A.2⟩
    · exact ⟨(hs.2 _ h2).trans (X.mus p h1).1, (X.mus p h1).2⟩
end

/-- two states that part in the heap and the count of tokens alone -/
noncomputable def Same (s s' : Shared) : Prop := s'.gens = s.gens ∧ s'.drawn = s.drawn ∧ s'.os = s.os
theorem Same.refl (s : Shared) : Same s s := ⟨rfl, rfl, rfl⟩
theorem Same.trans {a b c : Shared} (x : Same a b) (y : Same b c) : Same a c := ⟨y.1.trans x.1, y.2.1.trans x.2.1, y.2.2.trans x.2.2⟩
theorem Same.eq {s s' : Shared} (x : Same s s') : s' = { s with heap := s'.heap, toks := s'.toks } := by
  obtain ⟨h, g, d, t, o⟩ := s
  obtain ⟨h', g', d', t', o'⟩ := s'
  obtain ⟨a, b, c⟩ := x
  dsimp only at a b c
  subst a b c
  rfl
/-- what the law's end asks of the rest of a state -/
noncomputable def Fin (s s' : Shared) : Prop := s'.os = s.os ∧ (AllBare s.gens → AllBare s'.gens)
theorem Fin.refl (s : Shared) : Fin s s := ⟨rfl, id⟩
theorem Fin.trans {a b c : Shared} (x : Fin a b) (y : Fin b c) : Fin a c := ⟨y.1.trans x.1, fun h => y.2 (x.2 h)⟩
theorem Same.fin {a b : Shared} (x : Same a b) : Fin a b := ⟨x.2.2, fun h => by rw [x.1]; exact h⟩

/-- the part of a heap below an address: the library's rules over Fr can be asked there -/
noncomputable def cutAt (h : Heap) (L : Addr) : Heap := ⟨h.objs.extract 0 L, h.life⟩
theorem cut_objs (h : Heap) (L b : Nat) : (cutAt h L).objs[b]? = if b < L then h.objs[b]? else none := by
  show (h.objs.extract 0 L)[b]? = _
  rw [Array.getElem?_extract]
  simp only [Nat.sub_zero, Nat.zero_add]
  by_cases hb : b < L
  · rw [if_pos hb]
    by_cases hs : b < h.objs.size
    · rw [if_pos (by omega)]
    · rw [if_neg (by omega), Array.getElem?_eq_none (by omega)]
  · rw [if_neg (by omega), if_neg hb]
theorem cut_get {h : Heap} {L b : Addr} {o : Obj} (e : (cutAt h L).get? b = some o) : h.get? b = some o := by
  unfold Heap.get? at e ⊢
  rw [cut_objs] at e
  by_cases hb : b < L
  · rw [if_pos hb] at e; exact e
  · rw [if_neg hb] at e; cases e
theorem get_cut {h : Heap} {L b : Addr} {o : Obj} (e : h.get? b = some o) (hb : b < L) : (cutAt h L).get? b = some o := by
  unfold Heap.get? at e ⊢
  rw [cut_objs, if_pos hb]
  exact e
theorem cut_size (h : Heap) (L : Nat) : (cutAt h L).objs.size ≤ L := by
  show (h.objs.extract 0 L).size ≤ L
  rw [Array.size_extract]
  omega
theorem fr_cut {h : Heap} {L : Addr} {m : Str → Option Value} (hn : h.Ns L m) : Fr (cutAt h L) L h m := ⟨hn, fun _ _ e => cut_get e, cut_size h L⟩
noncomputable def lowIn (K : Frag) (n : Nat) : Bool := K.all fun p => decide (p.1 < n)
theorem in_cut {K : Frag} {h : Heap} {L n : Addr} (X : K.In h) (hl : lowIn K n = true) (hL : n ≤ L) : K.In (cutAt h L) := fun a o e =>
  get_cut (X a o e) (Nat.lt_of_lt_of_le (by simpa using List.all_eq_true.mp hl (a, o) (mem_of_lookupK e)) hL)

section hide
theorem hideAll_stays (h : Heap) (l : List Addr) : Stays (hideAll h l) h := fun _ _ e => of_hideAll _ e
/-- a new base: all that stands now, but the frame and what may turn -/
theorem Act.rebase {g h : Heap} {L : Addr} {m : Str → Option Value} {mu : List (Addr × Obj)} (X : Act g L h m mu) :
    ∃ g', Act g' L h m mu ∧ Stays g g' ∧ (∀ b o, h.get? b = some o → b ≠ L → b ∉ mu.map (·.1) → g'.get? b = some o) ∧ g'.objs.size = h.objs.size := by
  refine ⟨hideAll h (L :: mu.map (·.1)), ⟨X.ns, hideAll_stays _ _, hideAll_none _ (.head _), fun p hp => ⟨(X.mus p hp).1, (X.mus p hp).2.1, hideAll_none _ (.tail _ (List.mem_map.mpr ⟨p, hp, rfl⟩))⟩, X.nd⟩,
    fun b o e => hideAll_get _ (X.keep b o e) fun q => ?_, fun b o e h1 h2 => hideAll_get _ e fun q => ?_, hideAll_size _ _⟩
  · rcases List.mem_cons.mp q with rfl | q
    · rw [X.off] at e; cases e
    · obtain ⟨p, hp, rfl⟩ := List.mem_map.mp q
      rw [(X.mus p hp).2.2] at e; cases e
  · rcases List.mem_cons.mp q with q | q
    · exact h1 q
    · exact h2 q

/-- the part of h' that is new behind h -/
noncomputable def diff (h h' : Heap) : Heap := hideAll h' (List.range h.objs.size)
theorem diff_get {h h' : Heap} {b : Addr} {o : Obj} (e : (diff h h').get? b = some o) : h'.get? b = some o ∧ h.objs.size ≤ b := by
  refine ⟨of_hideAll _ e, Nat.le_of_not_lt fun hb => ?_⟩
  have := hideAll_none (h := h') (List.range h.objs.size) (List.mem_range.mpr hb)
  unfold diff at e
  rw [this] at e; cases e
theorem get_diff {h h' : Heap} {b : Addr} {o : Obj} (e : h'.get? b = some o) (hb : h.objs.size ≤ b) : (diff h h').get? b = some o :=
  hideAll_get _ e fun q => absurd (List.mem_range.mp q) (Nat.not_lt.mpr hb)
theorem diff_stays (h h' : Heap) : Stays (diff h h') h' := hideAll_stays _ _
theorem diff_mono {h₀ h h' h'' : Heap} (hs : h₀.objs.size ≤ h.objs.size) (k : ∀ b o, h.objs.size ≤ b → h'.get? b = some o → h''.get? b = some o) : Stays (diff h h') (diff h₀ h'') :=
  fun b o e => get_diff (k b o (diff_get e).2 (diff_get e).1) (Nat.le_trans hs (diff_get e).2)
end hide

/-! names -/
section names
variable {M : Model} {A : Around} {E : Value → Shared → Prop} {s : Shared} {w : World} {g : Heap} {L : Addr} {m : Str → Option Value} {mu : List (Addr × Obj)} {env : Env} {x : Str} {pos : Pos} {v : Value} {Q : Value → Shared → Prop}

theorem jn_local (X : Act g L s.heap m mu) (hl : env.locals = L) (hk : env.scope.kind = .function) (hx : env.kindOf x = some .local) (hv : m x = some v) (h : Q v s)
    (hd : (x == ("__debug__" : Str)) = false) : wpAny M A (eval (.Name x pos) env) Q E s :=
  wpAny_Name (wpAny_loadName_local hk hx (hl ▸ X.ns) hv h) hd
theorem jn_global (W : Wd w g) (X : Act g L s.heap m mu) (hg : env.globals = mainGlobals) (hk : env.scope.kind = .function) (hx : env.kindOf x = some .globalImplicit) (e : nsIn (JA.hd.heap_1 w.params) mainGlobals x = some (some v)) (h : Q v s)
    (hd : (x == ("__debug__" : Str)) = false) : wpAny M A (eval (.Name x pos) env) Q E s := by
  obtain ⟨mg, G⟩ := W.mg
  exact Name_function_global hk hx (loadGlobal_global (by rw [hg]; exact G.keeps X.keep) (mg_of W.K G e) h) hd
theorem jn_builtin (W : Wd w g) (X : Act g L s.heap m mu) (hg : env.globals = mainGlobals) (hb : env.builtins = builtinsNs) (hk : env.scope.kind = .function) (hx : env.kindOf x = some .globalImplicit)
    (e : nsIn (JA.hd.heap_1 w.params) mainGlobals x = some none) (hv : bootBuiltins x = some v) (hn : x ≠ "__name__") (h : Q v s)
    (hd : (x == ("__debug__" : Str)) = false) : wpAny M A (eval (.Name x pos) env) Q E s := by
  obtain ⟨mg, G⟩ := W.mg
  obtain ⟨mb, B, hB⟩ := W.mb
  exact Name_function_global hk hx (loadGlobal_builtin (by rw [hg]; exact G.keeps X.keep) (mg_none_of W.K G e) (by rw [hb]; exact B.keeps X.keep) ((hB x hn).trans hv) h) hd
theorem jn_cell {c : Addr} (hk : env.scope.kind = .function) (hx : env.kindOf x = some .cell) (hc : env.cells.lookup x = some c) (hi : s.heap.IsCell c (some v)) (h : Q v s)
    (hd : (x == ("__debug__" : Str)) = false) : wpAny M A (eval (.Name x pos) env) Q E s :=
  wpAny_Name (wpAny_loadName_cell hk hx hc hi h) hd
theorem jn_free {c : Addr} (hk : env.scope.kind = .function) (hx : env.kindOf x = some .free) (hc : env.cells.lookup x = some c) (hi : s.heap.IsCell c (some v)) (h : Q v s)
    (hd : (x == ("__debug__" : Str)) = false) (hn : (x == ("__classdict__" : Str)) = false) : wpAny M A (eval (.Name x pos) env) Q E s :=
  wpAny_Name (wpAny_loadName_free hk hx hc hi h hn) hd

theorem js_local {s₀ : Shared} {Q : Unit → Shared → Prop} (X : Act g L s.heap m mu) (S : Same s₀ s) (hl : env.locals = L) (hk : env.scope.kind = .function) (hx : env.kindOf x = some .local)
    (h : ∀ s', Same s₀ s' → Act g L s'.heap (fun y => if y = x then some v else m y) mu → Q () s') : wpAny M A (storeName env x v) Q E s := by
  subst hl
  exact wpAny_storeName_local hx X.ns (fun h' hn hs => h _ (S.trans ⟨rfl, rfl, rfl⟩) (X.set hn hs)) (by show (env.scope.kind == .class || (env.scope.kind == .module && env.locals != env.globals)) = false; rw [hk]; rfl)
end names

theorem item_list {prog : Program} {w : World} {A : Around} {E : Value → Shared → Prop} {s : Shared} {value slice : Expr} {l : Addr} {items : List Value} {k : Int} {u : Tok} {v : Value} {Q : Value → Shared → Prop} (hl : s.heap.IsList l items.toArray)
    (h0 : 0 ≤ k) (hhi : k < 2 ^ 63) (hx : items[k.toNat]? = some v) (h : Q v s)
    (hs : subscripted slice false (.ref l) (.int k u) = operate [.ref l, .int k u] (getItem (.ref l) (.int k u))) :
    wpAny (model prog w) A (subscriptTail value slice (.ref l) (.int k u)) Q E s :=
  tail_any hl.typeIs slot_list_getitem.lookup (wpAny_getItem_list hl h0 hhi (by simpa using hx) h) hs

section lists
variable {prog : Program} {w : World} {A : Around} {E : Value → Shared → Prop} {s s₀ : Shared} {g : Heap} {L l : Addr} {m : Str → Option Value} {mu mu' : List (Addr × Obj)} {items : List Value} {n : Nat}
theorem mapSeq_lst (f : Array Value → Array Value) (items items' : List Value) (n : Nat) (e : f items.toArray = items'.toArray) : Obj.mapSeq f (lst items n) = lst items' (if items'.length == items.length then n else n + 1) := by
  unfold lst Obj.mapSeq
  simp [e]
/-- l[k] = v in bounds -/
theorem js_item {k : Int} {u : Tok} {v : Value} {Q : Unit → Shared → Prop} (X : Act g L s.heap m mu) (S : Same s₀ s) (U : Put l (lst items n) (lst (items.set k.toNat v) n) mu mu') (h0 : 0 ≤ k) (hn : k < items.length) (hf : k < 2 ^ 63)
    (h : ∀ s', Same s₀ s' → Act g L s'.heap m mu' → Q () s') : wpAny (model prog w) A (setItem (.ref l) (.int k u) v) Q E s := by
  have ho := X.get U.mem
  refine ki_setAt ho h0 hf (by simpa using hn) (h _ (S.trans ⟨rfl, rfl, rfl⟩) (X.put U (Heap.SameBut.update ..) ?_))
  have e : Obj.mapSeq (·.setIfInBounds k.toNat v) (lst items n) = lst (items.set k.toNat v) n := by
    rw [mapSeq_lst _ items (items.set k.toNat v) n (by simp)]
    simp
  rw [Heap.get?_update_self _ ho (by rw [e]; rfl), e]
/-- l.pop(k) in bounds -/
theorem j_popAt {i : Int} {u : Tok} {k : Nat} {y : Value} {Q : Value → Shared → Prop} (X : Act g L s.heap m mu) (S : Same s₀ s) (U : Put l (lst items n) (lst (items.eraseIdx k) (n + 1)) mu mu') (hf : Builtin.List.listFitsIndex i = true)
    (hk : seqIndex? i items.length = some k) (hy : items[k]? = some y) (hz : items.length ≤ sizeLine)
    (h : ∀ s', Same s₀ s' → Act g L s'.heap m mu' → Q y s') : wpAny (model prog w) A (call (.builtin "list.pop") [.ref l, .int i u]) Q E s := by
  have ho := X.get U.mem
  have hlt : k < items.length := by
    rcases Nat.lt_or_ge k items.length with h | h
    · exact h
    · rw [List.getElem?_eq_none h] at hy; cases hy
  refine call_meets PySem.F.slot_list_pop ⟨_, ho, rfl⟩ PySem.F.entry_list_pop (PySem.F.args_list_pop_2 _ _) (PySem.MeetsSeq.list_pop_at l _ n i u k y hf (by simpa using hk) (by simpa using hy) (by simpa using hz)) ⟨ho, h _ (S.trans ⟨rfl, rfl, rfl⟩) (X.put U (Heap.SameBut.update ..) ?_)⟩
  have e : Obj.mapSeq (fun xs => xs.eraseIdxIfInBounds k) (lst items n) = lst (items.eraseIdx k) (n + 1) := by
    rw [mapSeq_lst _ items (items.eraseIdx k) n (by simp)]
    have : ((items.eraseIdx k).length == items.length) = false := by
      rw [List.length_eraseIdx_of_lt hlt]; simp; omega
    rw [this]; rfl
  rw [Heap.get?_update_self _ ho (by rw [e]; rfl), e]
theorem j_getpop {pl : Sem Bool} {Q : Value × List Value → Shared → Prop} (X : Act g L s.heap m mu) (hm : (l, lst items n) ∈ mu) (h : Q (.builtin "list.pop", [.ref l]) s) :
    wpAny (model prog w) A (getMethod (.ref l) "pop" pl) Q E s := Copied.getMethod_pop_at (X.get hm) rfl rfl h
end lists

/-! a call of a def of the program's top without cells -/
theorem enter {prog : Program} {w : World} {A : Around} {s : Shared} {g : Heap}
    {R : Result → Shared → Prop} {name qual : Str} {params : Arguments} {body : List Stmt} {scope : Scope} {dV kV doc pm cdv ct oc : Value} {an od : Option Addr} {osl : Array (Option Value)} {f : Addr} {args : Args} {binds : List (Str × Value)}
    {mu : List (Addr × Obj)}
    (W : Wd w g) (hk : Stays g s.heap) (hmu : ∀ p ∈ mu, s.heap.get? p.1 = some p.2 ∧ g.get? p.1 = none) (hnd : (mu.map (·.1)).Nodup)
    (ho : (JA.hd.heap_1 w.params).lookup f = some ⟨oc, od, .func (fnOf name qual params body scope dV kV doc pm an cdv ct), osl⟩) (hcd : codeIn (JA.hd.heap_1 w.params) cdv qual = true) (hroom : A.depth < recursionLimit)
    (hbind : BindsTo s (fnOf name qual params body scope dV kV doc pm an cdv ct) args binds) (hloc : ∀ y ∈ binds, scope.names.lookup y.1 = some .local)
    (hcell : ∀ x ∈ scope.names, x.2 ≠ .cell)
    (h : ∀ g₁ h₁, Wd w g₁ → Stays g g₁ → Stays g₁ s.heap → (∀ b o, s.heap.get? b = some o → b ∉ mu.map (·.1) → g₁.get? b = some o) → Stays s.heap h₁ → Act g₁ s.heap.objs.size h₁ (fun y => binds.reverse.lookup y) mu →
      wpAny (model prog w) (A.deeper (envOf qual scope s.heap.objs.size f cdv)) (execs body (envOf qual scope s.heap.objs.size f cdv))
        (fun fl s' => R (.ok (.ret (match fl with | .ret v => v | _ => .none))) s')
        (fun e s' => wpAny (model prog w) (A.deeper (envOf qual scope s.heap.objs.size f cdv)) (leaving (envOf qual scope s.heap.objs.size f cdv) e) (fun _ s'' => R (.error e) s'') (fun e' s'' => R (.error e') s'') s')
        { s with heap := h₁, toks := s.toks + binds.length })
    (hco : scope.isCoroutine = false) (hgen : scope.isGenerator = false) (hkf : scope.kind = .function) : codeAny (model prog w) A (.call (.ref f) args) R s := by
  have X : (JA.hd.heap_1 w.params).In s.heap := Frag.In.keeps W.K hk
  refine codeAny_call_def (fd := fnOf name qual params body scope dV kV doc pm an cdv ct) (body := body) (binds := binds) hroom (X _ _ ho) rfl (W.nolimit.keeps hk) (codeRec_of X hcd) rfl hbind hcell hloc (fun h₁ hns hk₁ => ?_) hco hgen hkf
  have gm : ∀ b o, g.get? b = some o → b ∉ mu.map (·.1) := fun b o e q => by
    obtain ⟨p, hp, rfl⟩ := List.mem_map.mp q
    rw [(hmu p hp).2] at e; cases e
  have gs : Stays g (hideAll s.heap (mu.map (·.1))) := fun b o e => hideAll_get _ (hk b o e) (gm b o e)
  refine h (hideAll s.heap (mu.map (·.1))) h₁ (W.keeps gs) gs (hideAll_stays _ _) (fun b o e hb => hideAll_get _ e hb) hk₁ ⟨hns, fun b o e => hk₁ b o (of_hideAll _ e), ?_, fun p hp => ⟨hk₁ _ _ (hmu p hp).1, Nat.ne_of_lt (Heap.lt_size (hmu p hp).1), hideAll_none _ (List.mem_map.mpr ⟨p, hp, rfl⟩)⟩, hnd⟩
  cases q : (hideAll s.heap (mu.map (·.1))).get? s.heap.objs.size with
  | none => rfl
  | some o => exact absurd (Heap.lt_size (of_hideAll _ q)) (Nat.lt_irrefl _)

end JA
end
section
open PySem PySem.W PyProof.Rows PySem.Calls
namespace JA
set_option maxRecDepth 100000
theorem reset_JShare : True := by
  w_top off
  trivial
theorem fill2 : PySem.Challenge.rw_ja0050_01 = PySem.Challenge.rw_ja0050_01 ∧ JA.hd.heap_1 = JA.hd.heap_1 := by
  k_fill
  exact ⟨rfl, rfl⟩

/-- a named tuple of a place and its octets -/
abbrev shrObj (dx : Addr) (x : Int) (tx : Tok) (b : Array UInt8) (tb : Tok) : Obj := { cls := .ref 145, dict := some dx, data := .seq #[.int x tx, .bytes b tb] }
noncomputable def IsShare (h : Heap) (a : Addr) (x : Int) (b : Array UInt8) : Prop := ∃ dx tx tb od, h.get? a = some (shrObj dx x tx b tb) ∧ h.get? dx = some od
theorem IsShare.keeps {h h' : Heap} {a : Addr} {x : Int} {b : Array UInt8} (S : IsShare h a x b) (k : Stays h h') : IsShare h' a x b :=
  let ⟨dx, tx, tb, od, h1, h2⟩ := S; ⟨dx, tx, tb, od, k _ _ h1, k _ _ h2⟩
theorem shrInst {h : Heap} {a dx : Addr} {x : Int} {tx tb : Tok} {b : Array UInt8} {od : Obj} (h1 : h.get? a = some (shrObj dx x tx b tb)) (h2 : h.get? dx = some od) : InstAt h a (shrObj dx x tx b tb) 145 (some od) :=
  ⟨h1, rfl, rfl, h2⟩

section
variable {prog : Program} {w : World} {A : Around} {E : Value → Shared → Prop} {s : Shared} {a C : Addr} {K : Frag}

/-- a slot's or method's own look at its self, for an object of a class of the text -/
theorem check_inst {M : Model} {id owner n : String} {ox : Obj} {od : Option Obj} {rest : List Value} {Q : Unit → Shared → Prop} (X : K.In s.heap) (I : InstAt s.heap a ox C od) (hm : mroIn K C (.type owner) = some true)
    (hsplit : splitId id = some (owner, n)) (hkind : (Manifest.find? owner).bind (·.attrs.lookup n) = some .slot ∨ (Manifest.find? owner).bind (·.attrs.lookup n) = some .method)
    (ha : argsOk id ⟨.ref a :: rest, []⟩) (hQ : Q () s) : wpAny M A (checkBuiltinCall id ⟨.ref a :: rest, []⟩) Q E s := by
  have hk : builtinKind id = (Manifest.find? owner).bind (·.attrs.lookup n) := by simp only [builtinKind, hsplit]
  have L0 := I.type (M := M)
  have L1 := looks_mroIn (M := M) X hm
  have LI : Looks M s.heap (isInstance (.ref a) (.type owner)) true := L0.andThen L1
  rcases hkind with h | h <;>
  · simp only [checkBuiltinCall, hk, h, hsplit]
    refine wpAny_bind (LI A _ E s (fun _ _ e => e) ?_)
    simp only [Bool.not_true, Bool.false_eq_true, if_false]
    cases hsig : Manifest.signature? id with
    | none => exact wpAny_pure hQ
    | some sig =>
      simp only [argsOk, hsig] at ha
      have h2 : Bind.checkArgs id sig ⟨.ref a :: rest, []⟩ = pure () := ha
      show wpAny M A (Bind.checkArgs id sig ⟨.ref a :: rest, []⟩) Q E s
      rw [h2]; exact wpAny_pure hQ

theorem split_tga : splitId "tuple.__getattribute__" = some ("tuple", "__getattribute__") := by decide +kernel
theorem kind_tga : (Manifest.find? "tuple").bind (·.attrs.lookup "__getattribute__") = some .slot ∨ (Manifest.find? "tuple").bind (·.attrs.lookup "__getattribute__") = some .method := by decide +kernel
theorem ga_call {name : Str} {tk : Tok} {g f : Value} {ox : Obj} {od : Option Obj} {R : Result → Shared → Prop} (X : K.In s.heap) (I : InstAt s.heap a ox C od)
    (hm : mroIn K C (.type "tuple") = some true) (hf : findObj K C od name = some (.bind g f))
    (h : codeAny (model prog w) A.in1 (.call g ⟨[f, .ref a, .ref C], []⟩) (fun r s' => match r with | .ok (.ret v) => R (.ok (.ret v)) s' | .ok _ => False | .error e => R (.error e) s') s) :
    codeAny (model prog w) A (.call (.builtin "tuple.__getattribute__") ⟨[.ref a, .str name tk], []⟩) R s := by
  obtain ⟨hh, gg, d, t, os⟩ := s
  have L0 := I.type (M := model prog w)
  have L3 := looks_find (M := model prog w) X I hf
  refine codeAny_call_builtin PySem.F.slot_tuple_getattribute.plain PySem.F.entry_tuple_ga ?_
  refine check_inst (id := "tuple.__getattribute__") (owner := "tuple") (n := "__getattribute__") X I hm split_tga kind_tga (PySem.F.args_tuple_getattribute_2 _ _) ?_
  unfold Builtin.«object.__getattribute__»
  dsimp only
  repeat lk
  show wpAny _ _ (PySem.run (.call g ⟨[f, .ref a, .ref C], []⟩)) _ _ _
  refine wpAny_run (codeAny_mono h fun r s' z => ?_)
  rcases r with e | (v | _ | _ | _) <;> first | exact z.elim | exact wpAny_pure (wpAny_pure z) | exact z

theorem get_bindT {name : Str} {g f : Value} {ox : Obj} {od : Option Obj} {expr : Bool} {Q : Value → Shared → Prop} (X : K.In s.heap) (I : InstAt s.heap a ox C od)
    (hga : findIn K (.ref C) "__getattribute__" = some (some (.builtin "tuple.__getattribute__"))) (hm : mroIn K C (.type "tuple") = some true)
    (hf : findObj K C od name = some (.bind g f)) (hk : findIn K (.ref C) "__getattr__" = some none)
    (h : codeAny (model prog w) A.in1 (.call g ⟨[f, .ref a, .ref C], []⟩) (fun r s' => match r with | .ok (.ret v) => wpAny (model prog w) A (handedOut v) Q E s' | _ => False) { s with toks := s.toks + 1 }) :
    wpAny (model prog w) A (getAttr (.ref a) name expr) Q E s := by
  obtain ⟨hh, gg, d, t, os⟩ := s
  have L0 := I.type (M := model prog w)
  have L1 := looks_findIn (M := model prog w) X hga
  have L2 := looks_findIn (M := model prog w) X hk
  have L3 := looks_find (M := model prog w) X I hf
  unfold getAttr getAttrBy
  refine wpAny_bind (wpAny_mkText (wpAny_holding (wpAny_bind (L0.at (wpAny_bind (L1.at ?_))))))
  show wpAny _ _ (getAttrByItsOwn _ _ _ _ _ _) _ _ _
  unfold getAttrByItsOwn hookBefore callGetattribute boundAndCalled
  refine wpAny_bind (L2.at ?_)
  refine wpAny_bind (wpAny_attempt (wpAny_holding ?_))
  rw [show (expr && onTheHeap (.builtin "tuple.__getattribute__")) = false from by cases expr <;> rfl, if_neg Bool.false_ne_true]
  refine wpAny_bind (wpAny_of_eq (PySem.F.slot_tuple_getattribute.bind _) ?_)
  show wpAny _ _ (call (.builtin "tuple.__getattribute__") [.ref a, .str name t]) _ _ _
  refine wpAny_call (ga_call X I hm hf (codeAny_mono h fun r s' z => ?_))
  rcases r with e | (v | _ | _ | _) <;> first | exact z.elim | exact z

theorem get_ownX {name : Str} {v : Value} {ox : Obj} {es : List DictEntry} {n : Nat} {attr : Option Value} {expr : Bool} {Q : Value → Shared → Prop} (X : K.In s.heap) (I : InstAt s.heap a ox C (some (dictOf es n))) (hg : plainGet K C name = true)
    (hh : hasDictIn K C = true) (ha : findIn K (.ref C) name = some attr) (hn : noGet K attr = true) (hl : getL name es = some (some v)) (hv : handedIn v = true) (h : Q v { s with toks := s.toks + 1 }) :
    wpAny (model prog w) A (getAttr (.ref a) name expr) Q E s := get_value X I (plainGet_of hg).1 (findObj_own hh ha hn hl) hv h

theorem issub_call {T : String} {Q : Value → Shared → Prop} (X : K.In s.heap) (hm : mroIn K C (.type T) = some true) {cd : ClassData} (hc : clsIn K C = some cd) (hT : typeOf (.type T) = pure (.type "type"))
    (hq : Q (.bool true) s) : wpAny (model prog w) A (call (.builtin "issubclass") [.ref C, .type T]) Q E s := by
  obtain ⟨hh, gg, d, t, os⟩ := s
  have L1 := looks_mroIn (M := model prog w) X hm
  have L2 : Looks (model prog w) hh (isType (.ref C)) true := by
    unfold clsIn at hc
    split at hc
    · rename_i ho; exact (Looks.ld (X _ _ ho)).andThen .now
    · cases hc
  have L3 : Looks (model prog w) hh (typeOf (.type T)) (.type "type") := Looks.of_pure hT
  refine call_function_tree F.kind_issubclass F.plain_issubclass F.entry_issubclass (F.args_issubclass_2 _ _) ?_
  unfold Builtin.«issubclass»
  repeat lk
  refine ⟨Code.quiet_builtin _ (by decide +kernel), codeAny_builtin F.entry_issubclass_nested ?_⟩
  unfold Builtin.«issubclass.nested»
  dsimp only
  repeat lk
  exact hq

theorem item_call {i : Int} {tk : Tok} {xs : Array Value} {n j : Nat} {v : Value} {ox : Obj} {od : Option Obj} {Q : Value → Shared → Prop} (X : K.In s.heap) (I : InstAt s.heap a ox C od) (hd : ox.data = .seq xs n) (hm : mroIn K C (.type "tuple") = some true)
    (h0 : -(2 ^ 63) ≤ i) (h1 : i < 2 ^ 63) (hj : seqIndex? i xs.size = some j) (hx : xs[j]? = some v)
    (hq : Q v s) : wpAny (model prog w) A (call (.builtin "tuple.__getitem__") [.ref a, .int i tk]) Q E s := by
  obtain ⟨hh, gg, d, t, os⟩ := s
  have L0 := I.type (M := model prog w)
  have L1 := looks_mroIn (M := model prog w) X hm
  obtain ⟨oc, odi, oda, osl⟩ := ox
  dsimp only at hd
  subst hd
  have ho := I.at_
  dsimp only at ho
  refine wpAny_call (codeAny_call_builtin PySem.F.slot_tuple_getitem.plain PySem.F.entry_tuple_getitem ?_)
  refine check_slot (i := "tuple.__getitem__") (n := "__getitem__") (owner := "tuple") (by decide +kernel) (by decide +kernel) (L0.andThen L1) (PySem.F.args_tuple_getitem_2 _ _) ?_
  unfold Builtin.«tuple.__getitem__»
  dsimp only
  repeat lk
  rw [if_neg (by simp; omega), hj, Option.bind_some, hx]
  exact wpAny_pure hq
end
end JA
end
section
open PySem PySem.W PyProof.Rows PySem.Calls
namespace JA
set_option maxRecDepth 100000
theorem reset_JGet : True := by
  w_top off
  trivial
theorem fill3 : PySem.Challenge.rw_ja0050_01 = PySem.Challenge.rw_ja0050_01 ∧ JA.hd.heap_1 = JA.hd.heap_1 := by
  k_fill
  exact ⟨rfl, rfl⟩

local macro_rules | `(tactic| walk_at "eval Name") => `(tactic| (k_dflt (first
  | (refine' jn_local ?X ?l ?a ?b ?v ?_ ?d; (case a => exact rfl); (case b => exact rfl); (case l => exact rfl); (case X => k_asm); (case v => exact rfl); (case d => decide); k_whole)
  | (refine' jn_global ?W ?X ?l ?a ?b ?e ?_ ?d; (case a => exact rfl); (case b => exact rfl); (case l => exact rfl); (case W => k_asm); (case X => k_asm); (case e => k_is); (case d => decide); k_whole)
  | (refine' jn_builtin ?W ?X ?l ?l2 ?a ?b ?e ?v ?n ?_ ?d; (case a => exact rfl); (case b => exact rfl); (case l => exact rfl); (case l2 => exact rfl); (case W => k_asm); (case X => k_asm); (case e => k_is); (case v => first | boot_fast | boot_by_name); (case n => decide); (case d => decide); k_whole))))

local macro_rules | `(tactic| walk_at "call type:type") => `(tactic| ((with_reducible show wpAny _ _ (call (Value.type "type") [Value.ref _]) _ _ _); (refine kto_own (shrInst (by assumption) (by assumption)) ?_)))
local macro_rules | `(tactic| walk_at "call builtin:issubclass") => `(tactic| (k_dflt (refine' issub_call ?X ?m ?c ?t ?_; (case X => assumption); (case m => k_is); (case c => k_is); (case t => kernel_rfl); k_whole)))
/-- the state has but grown -/
structure Grow (s s' : Shared) : Prop where
  keep : Keeps s s'
  size : s.heap.objs.size ≤ s'.heap.objs.size
theorem low39 (w : World) : lowIn (JA.hd.heap_1 w.params) 221 = true := by kernel_rfl
theorem Wd.low {w : World} {g : Heap} (hW : Wd w g) : 221 ≤ g.objs.size := Heap.lt_size (hW.K 220 _ (by k_dflt k_is))
set_option maxHeartbeats 8000000 in
theorem get_spec {prog : Program} {w : World} {A : Around} {s : Shared} {g : Heap}
    {R : Result → Shared → Prop} {a p : Addr} {x : Int} {b : Array UInt8} {dx : Addr} {tx tb : Tok} {od : Obj}
    (hW : Wd w g) (hk : Stays g s.heap) (hroom : A.depth < 800) 
    (h1 : g.get? a = some (shrObj dx x tx b tb)) (h2 : g.get? dx = some od)
    (hp : p = 137 ∨ p = 140)
    (h : ∀ s', Grow s s' → R (.ok (.ret (if p = 137 then .int x tx else .bytes b tb))) s') :
    codeAny (model prog w) A (.call (.ref 56) ⟨[.ref p, .ref a, .ref 145], []⟩) R s := by
  w_on
  have KX : (JA.hd.heap_1 w.params).In s.heap := Frag.In.keeps hW.K hk
  refine enter (binds := [("self", .ref p), ("obj", .ref a), ("objtype", .ref 145)]) hW hk (mu := []) (by simp) (by simp) (by k_dflt k_is) (by k_dflt k_is) (by unfold recursionLimit; omega) (by exact binds_K KX rfl (by k_dflt k_is) rfl rfl rfl) (by exact locs rfl) (by decide) ?_ (by exact rfl) (by exact rfl) (by exact rfl)
  intro g₁ h₁ hW₁ gs gk hsame hold X₁
  have S₁ := Same.refl s
  have e1 := hold _ _ (hk _ _ h1)
  have e2 := hold _ _ (hk _ _ h2)
  have KX1 : (JA.hd.heap_1 w.params).In h₁ := Frag.In.keeps KX hold
  have hL : 221 ≤ s.heap.objs.size := (hW.keeps hk).low
  walk2
  refine' method_type (T := "tuple") (fr_cut X₁.ns) (in_cut KX1 (low39 w) hL) ?m ?s ?e ?h ?_
  (case m => kernel_rfl)
  (case s => decide +kernel)
  (case e => k_dflt k_is)
  (case h => k_handed)
  walk2
  rcases hp with rfl | rfl
  all_goals (
    refine' get_ownX (K := JA.hd.heap_1 w.params) (C := 73) ?X ?I ?g ?f ?f2 ?f3 ?f4 ?h ?_
    (case X => exact KX1)
    (case I => exact W.InstAt.of_K KX1 (by k_dflt k_is) (by k_dflt k_is))
    (case g => k_dflt k_is)
    (case f => k_dflt k_is)
    (case f2 => k_dflt k_is)
    (case f3 => k_dflt k_is)
    (case f4 => k_get)
    (case h => k_handed)
    walk2)
  · refine item_call (j := 0) KX1 (shrInst e1 e2) rfl (by k_dflt k_is) (by decide) (by decide) (by rfl) (by rfl) ?_
    exact h _ ⟨⟨_, _, rfl, hold⟩, Nat.le_of_lt X₁.ltL⟩
  · refine item_call (j := 1) KX1 (shrInst e1 e2) rfl (by k_dflt k_is) (by decide) (by decide) (by rfl) (by rfl) ?_
    exact h _ ⟨⟨_, _, rfl, hold⟩, Nat.le_of_lt X₁.ltL⟩

theorem Keeps.trans' {a b c : Shared} (x : Keeps a b) (y : Keeps b c) : Keeps a c := by
  obtain ⟨h1, t1, rfl, k1⟩ := x
  obtain ⟨h2, t2, rfl, k2⟩ := y
  exact ⟨h2, t2, rfl, fun b o e => k2 b o (k1 b o e)⟩

set_option maxHeartbeats 2000000 in
theorem share_x {prog : Program} {w : World} {A : Around} {E : Value → Shared → Prop} {s : Shared} {g : Heap} {a : Addr} {x : Int} {b : Array UInt8} {expr : Bool} {Q : Value → Shared → Prop}
    (hW : Wd w g) (hk : Stays g s.heap) (hS : IsShare g a x b) (hroom : A.depth < 799) (h : ∀ s' t, Grow s s' → Q (.int x t) s') : wpAny (model prog w) A (getAttr (.ref a) "x" expr) Q E s := by
  w_on
  obtain ⟨dx, tx, tb, od, h1, h2⟩ := hS
  have KX : (JA.hd.heap_1 w.params).In s.heap := Frag.In.keeps hW.K hk
  refine' get_bindT (K := JA.hd.heap_1 w.params) (C := 145) (g := .ref 56) (f := .ref 137) KX (shrInst (hk _ _ h1) (hk _ _ h2)) ?a ?b ?c ?d ?_
  (case a => k_dflt k_is)
  (case b => k_dflt k_is)
  (case c => exact findObj_data (show isClsIn (JA.hd.heap_1 w.params) 145 = true by k_dflt k_is) (by k_dflt k_is) (by k_dflt k_is) (by k_dflt k_is))
  (case d => k_dflt k_is)
  refine get_spec (p := 137) hW hk (by show A.depth < 800; omega) h1 h2 (.inl rfl) fun s' hs' => ?_
  exact wpAny_pure (h s' tx ⟨Keeps.trans' ⟨_, _, rfl, fun _ _ e => e⟩ hs'.keep, hs'.size⟩)
set_option maxHeartbeats 2000000 in
theorem share_data {prog : Program} {w : World} {A : Around} {E : Value → Shared → Prop} {s : Shared} {g : Heap} {a : Addr} {x : Int} {b : Array UInt8} {expr : Bool} {Q : Value → Shared → Prop}
    (hW : Wd w g) (hk : Stays g s.heap) (hS : IsShare g a x b) (hroom : A.depth < 799) (h : ∀ s' t, Grow s s' → Q (.bytes b t) s') : wpAny (model prog w) A (getAttr (.ref a) "data" expr) Q E s := by
  w_on
  obtain ⟨dx, tx, tb, od, h1, h2⟩ := hS
  have KX : (JA.hd.heap_1 w.params).In s.heap := Frag.In.keeps hW.K hk
  refine' get_bindT (K := JA.hd.heap_1 w.params) (C := 145) (g := .ref 56) (f := .ref 140) KX (shrInst (hk _ _ h1) (hk _ _ h2)) ?a ?b ?c ?d ?_
  (case a => k_dflt k_is)
  (case b => k_dflt k_is)
  (case c => exact findObj_data (show isClsIn (JA.hd.heap_1 w.params) 145 = true by k_dflt k_is) (by k_dflt k_is) (by k_dflt k_is) (by k_dflt k_is))
  (case d => k_dflt k_is)
  refine get_spec (p := 140) hW hk (by show A.depth < 800; omega) h1 h2 (.inr rfl) fun s' hs' => ?_
  exact wpAny_pure (h s' tb ⟨Keeps.trans' ⟨_, _, rfl, fun _ _ e => e⟩ hs'.keep, hs'.size⟩)
end JA
end
section
open PySem PySem.W PyProof.Rows PySem.Calls
namespace JA
set_option maxRecDepth 100000

/-- a code object with the table of the codes made under it -/
noncomputable def Tab (h : Heap) (c P : Addr) : Prop := ∃ ps, h.IsCode c P ps ∧ h.TableAt c P ps
theorem Tab.keeps {h h' : Heap} {c P : Addr} (T : Tab h c P) (k : Stays h h') : Tab h' c P := let ⟨ps, a, b⟩ := T; ⟨ps, a.keeps k, b.keeps k⟩
theorem Tab.at {h h' : Heap} {c P : Addr} (T : Tab h c P) (k : ∀ o, h.get? c = some o → h'.get? c = some o) (k2 : ∀ o, h.get? P = some o → h'.get? P = some o) : Tab h' c P := by
  have e1 : h'.get? c = h.get? c := by obtain ⟨ps, _, ⟨o', vs', a', _⟩, t⟩ := T; exact (k _ a').trans a'.symm
  have e2 : h'.get? P = h.get? P := by obtain ⟨ps, _, _, t⟩ := T; exact (k2 _ t).trans t.symm
  unfold Tab Heap.IsCode Heap.TableAt at T ⊢
  rw [e1, e2]
  exact T
theorem Tab.obj {h : Heap} {c P : Addr} (T : Tab h c P) : ∃ ps, h.get? P = some (tabObj ps) := let ⟨ps, _, b⟩ := T; ⟨ps, b.2⟩

section
variable {M : Model} {A : Around} {E : Value → Shared → Prop} {s : Shared}
theorem gcode {env : Env} {c P : Addr} {pos : Pos} {q : Str} {scope : Scope} {Q : Value → Shared → Prop} (hc : env.code = .ref c) (T : Tab s.heap c P)
    (hQ : ∀ code h' tk, Heap.ExtBut P s.heap h' → s.heap.objs.size ≤ h'.objs.size → Tab h' c P → Q code { s with heap := h', toks := tk }) : wpAny M A (genexprCode env pos q scope) Q E s := by
  obtain ⟨ps, hok, htab⟩ := T
  cases hnf : codeAmong pos ps.toList with
  | none => exact wpAny_genexprCodeX hc hok htab hnf fun c' h' tk hx h1 h2 h3 _ h5 _ => hQ _ h' tk hx (Nat.le_trans h1 (Nat.le_of_lt h2)) ⟨_, h3, h5⟩
  | some cv =>
    obtain ⟨o, vs, file, tf, flags, tg, inF, text, tt, op, ho, hd, h11, h2, h7, h9, h10, hop, hpd, htr, hne⟩ := id hok
    unfold genexprCode codeAt
    rw [hc, if_neg (show ¬ ((Value.ref c == Value.none) = true) from Bool.false_ne_true)]
    refine wpAny_bind (wpAny_fieldsOf ho hd ?_)
    rw [h11]
    refine wpAny_bind (wpAny_fieldsOf hop hpd ?_)
    rw [hnf]
    exact wpAny_pure (hQ cv s.heap s.toks (Heap.ExtBut.refl _ _) (Nat.le_refl _) ⟨ps, hok, htab⟩)
end

theorem WalksS.imp {prog : Program} {w : World} {A : Around} {I : Addr} {fp wr : List Addr} {G : Array GenState → Array GenState → Prop} {n : Nat} {P P' : Nat → Value → Prop} {St : Nat → Shared → Prop}
    (W : WalksS prog w A I fp wr G n P St) (h : ∀ j v, P j v → P' j v) : WalksS prog w A I fp wr G n P' St where
  sub := W.sub
  grefl := W.grefl
  gtrans := W.gtrans
  frame := W.frame
  item := fun i s Q E hi st hQ => W.item i s Q E hi st fun v s' hv => hQ v s' (h i v hv)
  done := W.done
  self := W.self

theorem passing_all (n : Nat) : passing (fun _ => true) n 0 = List.range n := by
  unfold passing
  rw [List.drop_zero, List.filter_eq_self]
  intro _ _; rfl

/-- a generator at its start, n items ahead -/
noncomputable def GenR (prog : Program) (w : World) (A : Around) (a : Addr) (n : Nat) (F : Nat → Value → Prop) (lo : Nat) (s : Shared) : Prop :=
  ∃ fp wr G St, WalksS prog w A.in4 a fp wr G n F St ∧ St 0 s ∧ (∀ i s', St i s' → ∃ g, s'.heap.IsGen a g) ∧ a ∈ fp ∧ (∀ b ∈ fp, b < s.heap.objs.size) ∧ (∀ b ∈ wr, lo ≤ b) ∧
    (∀ x y, G x y → AllBare x → AllBare y)

section
variable {prog : Program} {w : World} {A : Around} {E : Value → Shared → Prop} {s : Shared}
/-- what the making of a generator leaves -/
structure Made (P : Addr) (c : Addr) (s s' : Shared) : Prop where
  off : Off [P] s.heap s'.heap
  tab : Tab s'.heap c P
  size : s.heap.objs.size ≤ s'.heap.objs.size
  fin : Fin s s'

theorem gen_list {env : Env} {elt iter : Expr} {x : Str} {px : Pos} {scope : Scope} {cl : List (Str × Addr)} {pos : Pos} {l c P : Addr} {items : Array Value} {bm : Addr} {mg : Str → Option Value} {om : Obj} {Q : Value → Shared → Prop}
    (F : Nat → Value → Prop)
    (hh : A.handled = none) (hco : scope.isCoroutine = false) (hclos : closureFor scope env = pure cl) (hcell : ∀ y ∈ scope.names, y.2 ≠ .cell) (h0 : scope.names.lookup (".0" : Str) = some NameKind.local)
    (hx : scope.names.lookup x = some .local) (hkind : scope.kind = .function) (hroom : A.depth < recursionLimit) (hs : ∀ x, genFold iter env x = pure x)
    (hcode : env.code = .ref c) (T : Tab s.heap c P) (hnl : s.heap.NoLimit) (hP : P ≠ cStatics)
    (hmg : s.heap.Ns env.globals mg) (hbm : mg "__builtins__" = some (.ref bm)) (hbne : bm ≠ builtinsNs) (hom : s.heap.get? bm = some om) (homc : om.cls = .type "module") (homd : om.dict = some builtinsNs) (homp : om.data = .plain)
    (hit : ∀ (Q' : Value → Shared → Prop), Q' (.ref l) s → wpAny (model prog w) A (eval iter env) Q' E s) (hl : s.heap.IsList l items)
    (helt : ∀ (A' : Around) E' i v (s₂ : Shared) m₂ C code, A'.handled = none → A'.depth ≤ A.depth + 1 → items[i]? = some v → s.heap.objs.size ≤ C → s₂.heap.Ns C m₂ → m₂ x = some v → Off [P] s.heap s₂.heap →
      wpAny (model prog w) A' (eval elt (genEnv scope cl C code builtinsNs env)) (fun y s₃ => F i y ∧ Keeps s₂ s₃) E' s₂)
    (hQ : ∀ a s', Made P c s s' → GenR prog w A a items.size (fun j y => j < items.size ∧ F j y) s.heap.objs.size s' → Q (.ref a) s') :
    wpAny (model prog w) A (eval (.GeneratorExp elt [⟨.Name x px, iter, [], 0⟩] scope pos) env) Q E s := by
  refine wpAny_GeneratorExp_walksQD hh hco hclos hcell h0 hx hkind hroom (hit _ ?_) hs
  have hlt : l < s.heap.objs.size := by obtain ⟨_, e, _⟩ := hl; exact Heap.lt_size e
  have hPlt : P < s.heap.objs.size := by obtain ⟨ps, e⟩ := T.obj; exact Heap.lt_size e
  have hlP : l ≠ P := fun e => by
    obtain ⟨o, ho, hc, _⟩ := hl
    obtain ⟨ps, hp⟩ := T.obj
    rw [e, hp] at ho; cases ho; cases hc
  have up1 : ∀ o, Stays s.heap (s.heap.push o) := fun o b o' e => Heap.get?_push_of_some _ e
  have hgP : env.globals ≠ P := fun e => by
    obtain ⟨o, es, ep, ho, hd, _⟩ := hmg
    obtain ⟨ps, hp⟩ := T.obj
    rw [e, hp] at ho; cases ho; cases hd
  have hbP : bm ≠ P := fun e => by
    obtain ⟨ps, hp⟩ := T.obj
    rw [e, hp] at hom; cases hom; cases homp
  refine wpAny_pyIter_list hl ⟨hnl.push _, gcode hcode (T.keeps (up1 _)) fun code h₃ tk₃ hx₃ hge T₃ => ?_⟩
  have hsz : s.heap.objs.size + 1 ≤ h₃.objs.size := by rw [Heap.size_push] at hge; exact hge
  have up3 : ∀ b o, b ≠ P → s.heap.get? b = some o → h₃.get? b = some o := fun b o hb e => hx₃ b o hb (Heap.get?_push_of_some _ e)
  refine wpAny_builtinsFor (hmg.at' fun o e => up3 _ o hgP e) hbm hbne (up3 _ _ hbP hom) homc homd homp ?_
  have hl₃ : h₃.NoLimit := (hnl.push _).extBut hx₃ (Ne.symm hP)
  refine ⟨s.heap.objs.size, [s.heap.objs.size, l], [s.heap.objs.size], items.size, _, _, fun _ => true, F, rfl, fun A' hA => Walks.list hA s.heap.objs.size l (Nat.ne_of_lt hlt) items, ?_, ?_, hl₃, ?_, ?_, ?_⟩
  · refine ⟨⟨_, hx₃ _ _ (Nat.ne_of_gt hPlt) (Heap.get?_push_size _ rfl), rfl, rfl⟩, hl.at fun o e => up3 l o hlP e⟩
  · intro b hb
    show b < h₃.objs.size
    rcases List.mem_cons.mp hb with rfl | hb
    · exact hsz
    · rw [List.mem_singleton.mp hb]; exact Nat.lt_of_lt_of_le hlt (Nat.le_of_succ_le hsz)
  · intro hm
    have := List.mem_singleton.mp hm
    obtain ⟨mc, hn, _⟩ := hnl
    exact absurd hn.lt (by rw [this]; exact Nat.lt_irrefl _)
  · intro href hhref
    have keepAt : ∀ s₂ : Shared, (∀ b ∈ List.range h₃.objs.size, b ∉ [s.heap.objs.size] → ∀ o, href.get? b = some o → s₂.heap.get? b = some o) → Off [P] s.heap s₂.heap := fun s₂ hk b o hb e => by
      have e3 := up3 b o (fun q => hb (by rw [q]; exact .head _)) e
      exact hk b (List.mem_range.mpr (Heap.lt_size e3)) (fun q => absurd (Heap.lt_size e) (by rw [List.mem_singleton.mp q]; exact Nat.lt_irrefl _)) o (hhref _ _ e3)
    refine ⟨fun A' E' i v s₂ m₂ hA hd hu hv hn hm hk => ?_, fun A' E' i v s₂ m₂ hA hd hu hv hp hn hm hk => ?_⟩
    · exact wpAny_pure ⟨rfl, ⟨_, _, rfl, fun _ _ e => e⟩⟩
    · exact helt A' E' i v s₂ m₂ _ code hA hd hv (Nat.le_of_succ_le hsz) hn hm (keepAt s₂ hk)
  · intro a h₅ tk gs hgb hag hsz₅ hk₅ W hat
    have e : (passing (fun _ => true) items.size 0).length = items.size := by rw [passing_all, List.length_range]
    rw [e] at W
    have W' := WalksS.imp (P' := fun j y => j < items.size ∧ F j y) W (by
      rintro j v ⟨i, hi, hF⟩
      rw [passing_all] at hi
      obtain ⟨hj, e⟩ := List.getElem?_eq_some_iff.mp hi
      rw [List.getElem_range] at e
      subst e
      exact ⟨by simpa using hj, hF⟩)
    refine hQ a _ ⟨fun b o hb e => hk₅ b o (up3 b o (fun q => hb (by rw [q]; exact .head _)) e), T₃.keeps hk₅, ?_, ⟨rfl, fun hb => hb.push hgb⟩⟩ ⟨_, _, _, _, W', hat, (fun i s' st => ⟨_, st.1⟩), List.mem_cons_self, ?_, ?_, ?_⟩
    · show s.heap.objs.size ≤ h₅.objs.size
      have : h₃.objs.size < a := hag
      omega
    · intro b hb
      show b < h₅.objs.size
      rw [hsz₅]
      rcases List.mem_cons.mp hb with rfl | hb
      · exact Nat.lt_succ_self _
      · rcases List.mem_cons.mp hb with rfl | hb
        · exact Nat.lt_succ_of_lt hag
        · exact Nat.lt_succ_of_lt (Nat.lt_trans (List.mem_range.mp hb) hag)
    · intro b hb
      rcases List.mem_cons.mp hb with rfl | hb
      · exact Nat.le_of_succ_le hsz
      · rw [List.mem_singleton.mp hb]; exact Nat.le_refl _
    · intro x y hG hb
      exact GenOnlyQ.bare hG hb
end
end JA
end
section
open PySem PySem.W PyProof.Rows PySem.Calls
namespace JA
set_option maxRecDepth 100000

/-- a consumer of a generator has run: all below lo stands -/
structure Ran (lo : Nat) (s s' : Shared) : Prop where
  heap : ∀ b o, b < lo → s.heap.get? b = some o → s'.heap.get? b = some o
  fin : Fin s s'

theorem Moved.ran {wr : List Addr} {G : Array GenState → Array GenState → Prop} {lo : Nat} {s s' : Shared} (m : Moved wr G s s') (hw : ∀ b ∈ wr, lo ≤ b) (hG : ∀ x y, G x y → AllBare x → AllBare y) : Ran lo s s' :=
  ⟨fun b o hb e => m.heap b o (fun q => absurd (hw b q) (Nat.not_le.mpr hb)) e, m.os, hG _ _ m.gens⟩

section
variable {prog : Program} {w : World} {A : Around} {E : Value → Shared → Prop} {s : Shared}

theorem use_sum {a : Addr} {n : Nat} {P : Nat → Value → Prop} {lo : Nat} {val : Nat → Int} {Q : Value → Shared → Prop} (hg : GenR prog w A a n P lo s)
    (hval : ∀ i v, P i v → ∃ t, v = .int (val i) t) (hfit : ∀ j, j < n → InLong (val j) ∧ InLong (preSum val (j + 1)))
    (hQ : ∀ s' t', Ran lo s s' → Q (.int (preSum val n) t') s') : wpAny (model prog w) A (call (.builtin "sum") [.ref a]) Q E s := by
  obtain ⟨fp, wr, G, St, W, st, _, _, hfp, hwr, hG⟩ := hg
  refine call_sum_walkS (W.in4_1.self 0 s _ _ st ?_)
  exact ⟨a, fp, wr, G, n, P, St, val, rfl, W.in4_1, st, hfp, hval, hfit, fun s' t' m => hQ s' t' (Moved.ran m hwr hG)⟩

theorem sub_gen_set : isSubtype (.type "generator") (.type "set") = pure false := by rw [isSubtype_type]; kernel_rfl
theorem sub_gen_frozenset : isSubtype (.type "generator") (.type "frozenset") = pure false := by rw [isSubtype_type]; kernel_rfl

set_option maxHeartbeats 3200000 in
theorem use_set {a : Addr} {n : Nat} {P : Nat → Value → Prop} {lo : Nat} {val : Nat → Int} {Q : Value → Shared → Prop} (hg : GenR prog w A a n P lo s)
    (hval : ∀ i v, P i v → ∃ t, v = .int (val i) t) (hb : n + 1 < scanBound) (hlo : lo ≤ s.heap.objs.size)
    (hQ : ∀ s', Ran lo s s' → s'.heap.SetOf (intKind prog w) s.heap.objs.size (fun k' => (firstMet val n).any (· == k')) (firstMet val n).length → Q (.ref s.heap.objs.size) s') : wpAny (model prog w) A (call (.type "set") [.ref a]) Q E s := by
  obtain ⟨fp, wr, G, St, W, st, hty, ha, hfp, hwr, hG⟩ := hg
  have hal : a < s.heap.objs.size := hfp a ha
  obtain ⟨c, tl, hmro⟩ := PySem.F.called_set.mro
  have hmade := PySem.F.called_set.made
  have hsub := PySem.F.called_set.sub
  refine wpAny_call (codeAny_of_tree ?_)
  show wpAny _ _ (callAny (.type "set") _) _ _ _
  refine wpAny_pure ⟨Code.quiet_builtin _ (by decide +kernel), codeAny_builtin F.entry_type_call ?_⟩
  rw [Around.under_plain (weight_type_call_type "set" [.ref a] []) rfl]
  have h1 := PySem.F.called_set.notType
  have h2 := PySem.F.called_set.canCreate
  have hct := PySem.F.typeCall_set_1 (.ref a)
  repeat (any_goals (first | assumption | wp_step))
  refine codeAny_mono (code_set_new_1 (.ref a) (E := E) (Q₁ := fun obj s₁ => ∃ led : Bool, obj = .ref s.heap.objs.size ∧ s₁ = { s with heap := s.heap.push { cls := .type "set", dict := none, data := .set #[] 0 (.fresh 0 0 led) } }) fun led => ⟨led, rfl, rfl⟩) fun r s₁ hr => ?_
  cases r with
  | error e => exact hr
  | ok fl =>
    cases fl with
    | ret obj =>
      obtain ⟨led, rfl, rfl⟩ := hr
      have hS : (s.heap.push { cls := .type "set", dict := none, data := .set #[] 0 (.fresh 0 0 led) }).get? s.heap.objs.size = some { cls := .type "set", dict := none, data := .set #[] 0 (.fresh 0 0 led) } := Heap.get?_push_size _ rfl
      have hT : Shared.TypeIs { s with heap := s.heap.push { cls := .type "set", dict := none, data := .set #[] 0 (.fresh 0 0 led) } } (.ref s.heap.objs.size) "set" := ⟨_, hS, rfl⟩
      have hli := PySem.F.called_set.init.lookup
      have hbi := PySem.F.called_set.init.bind (.ref s.heap.objs.size)
      repeat (any_goals (first | assumption | wp_step))
      refine codeAny_mono (codeAny_call_builtin (R := wants (fun r s₂ => r = .none ∧ Ran lo s s₂ ∧
          s₂.heap.SetOf (intKind prog w) s.heap.objs.size (fun k' => (firstMet val n).any (· == k')) (firstMet val n).length) E) PySem.F.called_set.init.plain PySem.F.entry_set_init (check_set_init_1 hT ?_)) fun r₂ s₂ hr₂ => ?_
      · have st1 : St 0 { s with heap := s.heap.push { cls := .type "set", dict := none, data := .set #[] 0 (.fresh 0 0 led) } } :=
          W.frame 0 s _ s.toks st (Nat.le_refl _) fun b _ o e => Heap.get?_push_of_some _ e
        obtain ⟨_, hgen⟩ := hty 0 _ st1
        obtain ⟨og, hog, hcg⟩ := hgen.typeIs
        have hsls := sub_gen_set
        have hslf := sub_gen_frozenset
        obtain ⟨ocls, odict, odata, oslots⟩ := og
        simp only at hcg
        subst hcg
        have hne : (Value.type "generator" == Value.type "dict") = false := by decide
        unfold Builtin.«set.__init__» noKeywords Builtin.Frozenset.updateFrom
        generalize hPI : pyIter = PI
        wp_walk
        subst hPI
        have W3 : WalksS prog w A.in1.in1.in1 a fp wr G n P St := W.of_in1
        refine W.in4_2.self 0 _ _ _ st1 ?_
        refine wpAny_bind (wpAny_runValue ?_)
        have hSf : s.heap.objs.size ∉ fp := fun hm => Nat.lt_irrefl _ (hfp _ hm)
        refine codeAny_set_update_loopS W3 s.heap.objs.size hSf val hval hb n 0 _ (by omega) (Nat.zero_le _) st1 ?hS0 ?hR
        case hS0 => exact SetOf_congr ((setObjOf_fresh (knd := intKind prog w) led).setOf hS (by unfold scanBound; omega)) (fun _ => rfl) rfl
        case hR =>
          intro s' hm hS'
          show wpAny _ _ _ _ _ _
          refine wpAny_pure ?_
          show wpAny _ _ (ret Value.none) _ _ _
          refine wpAny_pure ⟨rfl, ?_, hS'⟩
          have r := Moved.ran (lo := lo) hm (fun b hb => by
            rcases List.mem_cons.mp hb with rfl | hb
            · exact hlo
            · exact hwr b hb) hG
          exact ⟨fun b o hb e => r.heap b o hb (Heap.get?_push_of_some _ e), r.fin⟩
      · cases r₂ with
        | error e => exact hr₂
        | ok fl₂ =>
          cases fl₂ with
          | ret r =>
            obtain ⟨rfl, hr, hS'⟩ := hr₂
            repeat (any_goals (first | assumption | wp_step))
            exact hQ _ hr hS'
          | _ => exact hr₂.elim
    | _ => exact hr.elim

end
end JA
end
section
open PySem PySem.W PyProof.Rows PySem.Calls
namespace JA
set_option maxRecDepth 100000

theorem wpAny_choose1 {M : Model} {A : Around} {E : Value → Shared → Prop} {s : Shared} {src : Source} {Q : Nat → Shared → Prop} (h : Q 0 { s with drawn := s.drawn.bump src }) : wpAny M A (choose src 1) Q E s := fun Γ p hΓ => by
  refine ⟨by decide, ?_⟩
  rw [Nat.mod_one]
  exact h
section
variable {prog : Program} {w : World} {A : Around} {E : Value → Shared → Prop} {s : Shared}
theorem len_set {a : Addr} {S : Int → Bool} {n : Nat} {Q : Value → Shared → Prop} (hS : s.heap.SetOf (intKind prog w) a S n)
    (h : ∀ s', Same s s' → s'.heap = s.heap → Q (.int n (s.toks + 1)) s') : wpAny (model prog w) A (call (.builtin "len") [.ref a]) Q E s := by
  obtain ⟨o, es, ep, t, ho, hex, hd, hel, hm, hb, hf, rfl⟩ := hS
  have hs : scanBound = 4096 := rfl
  exact call_len_set ho hex hd hf (by omega) (h _ ⟨rfl, rfl, rfl⟩ rfl)

theorem len_set' {a : Addr} {S : Int → Bool} {n : Nat} {Q : Value → Shared → Prop} (hS : s.heap.SetOf (intKind prog w) a S n)
    (h : Q (.int n (s.toks + 1)) { s with toks := s.toks + 1 + 1 }) : wpAny (model prog w) A (call (.builtin "len") [.ref a]) Q E s := by
  obtain ⟨o, es, ep, t, ho, hex, hd, hel, hm, hb, hf, rfl⟩ := hS
  have hs : scanBound = 4096 := rfl
  exact call_len_set ho hex hd hf (by omega) h

/-! the order of first meeting, of runs that we know -/
theorem range_map_getD (xs : List Int) : (List.range xs.length).map (fun i => xs.getD i 0) = xs := by
  apply List.ext_getElem
  · simp
  · intro i h1 h2
    simp at h1
    simp [List.getElem?_eq_getElem h2]
theorem fold_nodup : ∀ (xs acc : List Int), (acc ++ xs).Nodup → xs.foldl step_dedup acc = acc ++ xs
  | [], acc, _ => by simp
  | x :: xs, acc, h => by
    have hx : acc.any (· == x) = false := by
      rw [List.any_eq_false]
      intro y hy e
      have := (List.nodup_append.mp h).2.2 y hy x (.head _)
      exact this (by simpa using e)
    rw [List.foldl_cons]
    have e : step_dedup acc x = acc ++ [x] := by unfold step_dedup; rw [hx]; simp
    rw [e, fold_nodup xs (acc ++ [x]) (by simpa using h)]
    simp
theorem firstMet_nodup {xs : List Int} (h : xs.Nodup) : firstMet (fun i => xs.getD i 0) xs.length = xs := by
  unfold firstMet
  rw [range_map_getD, fold_nodup xs [] (by simpa using h)]
  rfl
theorem fold_const : ∀ (xs : List Int) (c : Int), (∀ x ∈ xs, x = c) → xs.foldl step_dedup [c] = [c]
  | [], _, _ => rfl
  | x :: xs, c, h => by
    have := h x (.head _)
    subst this
    rw [List.foldl_cons]
    have e : step_dedup [x] x = [x] := by unfold step_dedup; simp
    rw [e]
    exact fold_const xs x fun y hy => h y (.tail _ hy)
theorem firstMet_const {val : Nat → Int} {n : Nat} {c : Int} (h : ∀ i, i < n → val i = c) (hn : 0 < n) : firstMet val n = [c] := by
  unfold firstMet
  obtain ⟨n, rfl⟩ : ∃ k, n = k + 1 := ⟨n - 1, by omega⟩
  rw [List.range_succ_eq_map, List.map_cons, List.foldl_cons]
  have e : step_dedup [] (val 0) = [c] := by rw [h 0 (by omega)]; rfl
  rw [e]
  apply fold_const
  intro x hx
  simp only [List.mem_map, List.mem_range] at hx
  obtain ⟨_, ⟨k, hk, rfl⟩, rfl⟩ := hx
  exact h _ (by omega)

theorem arr_one {α : Type} {es : Array α} (h : es.size = 1) : ∃ x, es = #[x] := by
  obtain ⟨l⟩ := es
  match l, h with
  | [x], _ => exact ⟨x, rfl⟩
theorem pop_set1 {a : Addr} {S : Int → Bool} {k : Int} {Q : Value → Shared → Prop} (hS : s.heap.SetOf (intKind prog w) a S 1) (hk : ∀ j, S j = true → j = k)
    (h : ∀ s' t o', Fin s s' → Heap.SameBut a s.heap s'.heap → s'.heap.get? a = some o' → Q (.int k t) s') : wpAny (model prog w) A (call (.builtin "set.pop") [.ref a]) Q E s := by
  have hT := hS.typeIs
  obtain ⟨o, es, ep, t, ho, hex, hd, hel, hm, hb, hf, h1⟩ := hS
  obtain ⟨e0, he⟩ := arr_one h1
  subst he
  obtain ⟨tx, hx⟩ : ∃ t, e0.2 = .int k t := by
    obtain ⟨⟨j, hj, _⟩, _⟩ := hel e0 (by simp)
    have := hk j ((hm j).mpr ⟨e0, by simp, hj⟩)
    subst this
    obtain ⟨t, e⟩ := Value.isInt_shape hj
    exact ⟨t, e⟩
  have hps : t.place.size = 1 := by
    simp only [SetTable.fits, Bool.and_eq_true, beq_iff_eq, decide_eq_true_eq] at hf
    exact hf.1
  refine wpAny_call_entry PySem.F.slot_set_pop hT PySem.F.entry_set_pop ?_ (PySem.F.args_set_pop_1 _)
  unfold Builtin.«set.pop» Builtin.Frozenset.noArgs
  dsimp only
  show wpAny _ _ (Builtin.Frozenset.addrOf (.ref a) >>= _) _ _ _
  unfold Builtin.Frozenset.addrOf
  refine wpAny_bind (wpAny_pure ?_)
  unfold setPop
  refine wpAny_bind ?_
  refine wpAny_bind (wpAny_setState_of ho hd hf ?_)
  dsimp only
  have hpl : t.popPlace = some 0 := by
    unfold SetTable.popPlace
    have h0 : t.place.isEmpty = false := by simp [Array.isEmpty, hps]
    rw [if_neg (by rw [h0]; decide), hps]
    dsimp only
    congr 1
    split
    · omega
    · rfl
  rw [hpl]
  dsimp only
  refine wpAny_bind (wpAny_bind (wpAny_askSetting (wpAny_pure ?_)))
  have fin : ∀ s₁ : Shared, s₁.heap = s.heap → s₁.os = s.os → s₁.gens = s.gens → wpAny (model prog w) A.in1 (match (#[e0] : Array (Int × Value))[0]? with
      | some (_, x) => do
        storeSet a (SetTable.eraseAt #[e0] 0) (t.popped 0)
        pure (some x)
      | _ => unsupported "internal:set.pop") (fun x s' => wpAny (model prog w) A.in1 (match x with
          | some x => ret x
          | _ => do rule "set.pop.empty"; raiseError "KeyError" "pop from an empty set") (fun fin s' => ∃ v, fin = Fin.done (Flow.ret v) ∧ Q v s') E s') E s₁ := by
    intro s₁ e1 e2 e3
    show wpAny _ _ (storeSet a _ _ >>= fun _ => pure (some e0.2)) _ _ _
    refine wpAny_bind (wpAny_storeSet_of (by rw [e1]; exact ho) hd ?_ (by exact Nat.zero_le _))
    refine wpAny_pure ?_
    dsimp only
    rw [hx]
    refine wpAny_pure ⟨_, rfl, h _ _ (Obj.putSet (SetTable.eraseAt #[e0] 0) (t.popped 0) o) ⟨e2, fun hb => by show AllBare s₁.gens; rw [e3]; exact hb⟩ (by show Heap.SameBut a s.heap (s₁.heap.update _ _); rw [e1]; exact Heap.SameBut.update _ _ _) ?_⟩
    have := Heap.get?_update_self (Obj.putSet (SetTable.eraseAt #[e0] 0) (t.popped 0)) (by rw [e1]; exact ho : s₁.heap.get? a = some o) (by rw [putSet_of _ _ hd]; rfl)
    exact this
  split
  · refine wpAny_bind (wpAny_choose1 ?_)
    exact fin _ rfl rfl rfl
  · refine wpAny_bind (show wpAny _ _ (if (!t.led && decide (1 > 1)) = true then unsupported _ else pure ()) _ _ _ from ?_)
    rw [if_neg (by simp)]
    refine wpAny_pure (wpAny_bind (wpAny_pure ?_))
    exact fin _ rfl rfl rfl
end
end JA
end
section
open PySem PySem.W PyProof.Rows PySem.Calls
namespace JA
set_option maxRecDepth 100000

/-- the octets of a counted run of ints -/
noncomputable def octs (val : Nat → Int) (n : Nat) : Array UInt8 := byteArr ((List.range n).map val)
theorem octs_size (val : Nat → Int) (n : Nat) : (octs val n).size = n := by simp [octs, byteArr]
theorem octs_push (val : Nat → Int) (n : Nat) : octs val (n + 1) = (octs val n).push (val n).toNat.toUInt8 := by
  unfold octs byteArr
  rw [List.range_succ]
  simp

theorem g_no_bytes : typeLookup (.type "generator") "__bytes__" = pure none := by rw [typeLookup_type, builtinLookup_eq_fast]; kernel_rfl
theorem g_no_index : typeLookup (.type "generator") "__index__" = pure none := by rw [typeLookup_type, builtinLookup_eq_fast]; kernel_rfl
theorem g_no_buffer : typeLookup (.type "generator") "__buffer__" = pure none := by rw [typeLookup_type, builtinLookup_eq_fast]; kernel_rfl
theorem g_no_len : typeLookup (.type "generator") "__len__" = pure none := by rw [typeLookup_type, builtinLookup_eq_fast]; kernel_rfl
theorem g_no_hint : typeLookup (.type "generator") "__length_hint__" = pure none := by rw [typeLookup_type, builtinLookup_eq_fast]; kernel_rfl

section
variable {prog : Program} {w : World} {A : Around} {E : Value → Shared → Prop} {s : Shared}
theorem bytes_loopS {R : Result → Shared → Prop} {I S : Addr} {fp wr : List Addr} {G : Array GenState → Array GenState → Prop} {n : Nat} {P : Nat → Value → Prop} {St : Nat → Shared → Prop} {val : Nat → Int}
    (W : WalksS prog w A.in1 I fp wr G n P St) (hSf : S ∉ fp) (hval : ∀ i v, P i v → (∃ t, v = .int (val i) t) ∧ 0 ≤ val i ∧ val i < 256) (hz : n ≤ sizeLine) :
    ∀ (k i : Nat) (s : Shared), n - i = k → i ≤ n → St i s → s.heap.get? S = some { cls := .type "bytearray", data := .bytearray (octs val i) } →
      (∀ s' t, Moved (S :: wr) G s s' → R (.ok (.ret (.bytes (octs val n) t))) s') →
      codeAny (model prog w) A (.builtin "bytes.__new__.loop" ⟨[.type "bytes", .ref I, .ref S], []⟩) R s := by
  have hSw : S ∉ wr := fun h => hSf (W.sub _ h)
  have hsub : ∀ b ∈ wr, b ∈ S :: wr := fun b hb => List.mem_cons_of_mem _ hb
  intro k
  induction k with
  | zero =>
    intro i s hk hle hst hS hR
    have hin : i = n := by omega
    subst hin
    refine codeAny_builtin PySem.F.bm_entry_loop ?_
    rw [Around.under_plainId PySem.F.bm_plain_loop _]
    show wpAny _ A.in1 (pyNext (.ref I) >>= _) _ _ s
    refine wpAny_bind (W.done s _ _ hst fun s' hm => ?_)
    have hS' := hm.heap S _ hSw hS
    refine wpAny_bind ?_
    unfold Builtin.Bytes.payload Builtin.Bytes.payload?
    refine wpAny_bind (wpAny_bind (wpAny_load hS' ?_))
    refine wpAny_pure (wpAny_pure ?_)
    refine wpAny_bind (wpAny_mkBytes ?_ (by rw [octs_size]; exact hz))
    show wpAny _ _ (if (Value.type "bytes" == Value.type "bytes") = true then _ else _) _ _ _
    refine bm_if_true (by decide) ?_
    first
      | exact wpAny_pure (hR _ _ ((hm.mono hsub).then_heap (Nat.le_succ _) fun b o _ e => e))
      | exact wpAny_bind (wpAny_pure (wpAny_pure (hR _ _ ((hm.mono hsub).then_heap (Nat.le_succ _) fun b o _ e => e))))
  | succ k ih =>
    intro i s hk hle hst hS hR
    have hlt : i < n := by omega
    refine codeAny_builtin PySem.F.bm_entry_loop ?_
    rw [Around.under_plainId PySem.F.bm_plain_loop _]
    show wpAny _ A.in1 (pyNext (.ref I) >>= _) _ _ s
    refine wpAny_bind (W.item i s _ _ hlt hst fun v s' hP hst' hm => ?_)
    obtain ⟨⟨t, rfl⟩, h0, h1⟩ := hval i v hP
    have hS' := hm.heap S _ hSw hS
    refine wpAny_bind (wpAny_holding (wpAny_of_eq (rfl : asIndex (.int (val i) t) = pure (val i)) ?_))
    refine wpAny_bind (wpAny_letGo ?_)
    refine bm_if_false (by simp only [Bool.or_eq_false_iff, decide_eq_false_iff_not]; omega) ?_
    refine wpAny_bind ?_
    show wpAny _ _ (updateBytearray S (·.push (val i).toNat.toUInt8)) _ _ _
    unfold updateBytearray
    refine wpAny_bind (wpAny_load hS' ?_)
    show wpAny _ _ (update S (Obj.mapBytearray (·.push (val i).toNat.toUInt8)) >>= fun _ => lookBehind S) _ _ _
    refine wpAny_bind (wpAny_update hS' ?_)
    have hS₂ : (s'.heap.update S (Obj.mapBytearray (·.push (val i).toNat.toUInt8))).get? S = some { cls := .type "bytearray", data := .bytearray (octs val (i + 1)) } := by
      rw [octs_push]
      exact Heap.get?_update_self (Obj.mapBytearray (·.push (val i).toNat.toUInt8)) hS' rfl
    refine wpAny_lookBehind hS₂ ?_ ?_
    · show (if (octs val (i + 1)).size > sizeLine then some "bytearray:memory" else none) = none
      rw [if_neg]
      rw [octs_size]
      omega
    · have hsb : Heap.SameBut S s'.heap (s'.heap.update S (Obj.mapBytearray (·.push (val i).toNat.toUInt8))) := Heap.SameBut.update ..
      refine wpAny_pure ⟨plainId_quiet PySem.F.bm_plain_loop _, ih (i + 1) { s' with heap := s'.heap.update S (Obj.mapBytearray (·.push (val i).toNat.toUInt8)) } (by omega) hlt ?_ hS₂ fun s3 t' m3 => ?_⟩
      · exact W.frame _ s' _ _ hst' (Nat.le_refl _) fun b hb o e => by
          rw [hsb.2 b (fun h : b = S => hSf (by rw [← h]; exact hb))]; exact e
      · exact hR s3 t' (Moved.trans W.gtrans ((hm.mono hsub).then_heap (Nat.le_refl _) fun b o hb e => by
          rw [hsb.2 b (fun h : b = S => hb (by rw [h]; exact List.mem_cons_self))]; exact e) m3)

theorem bytes_newS {a : Addr} {fp wr : List Addr} {G : Array GenState → Array GenState → Prop} {n : Nat} {P : Nat → Value → Prop} {St : Nat → Shared → Prop} {val : Nat → Int} {Q : Value → Shared → Prop}
    (W : WalksS prog w A.in1 a fp wr G n P St) (st : St 0 s) (hfp : ∀ b ∈ fp, b < s.heap.objs.size) (hty : ∀ i s', St i s' → ∃ g, s'.heap.IsGen a g) (hval : ∀ i v, P i v → (∃ t, v = .int (val i) t) ∧ 0 ≤ val i ∧ val i < 256) (hz : n ≤ sizeLine)
    (hQ : ∀ s' t, Moved (s.heap.objs.size :: wr) G s s' → Q (.bytes (octs val n) t) s') :
    codeAny (model prog w) A (.call (.builtin "bytes.__new__") ⟨[.type "bytes", .ref a], []⟩) (wants Q E) s := by
  refine codeAny_of_tree ?_
  show wpAny _ A.in1 (do checkBuiltinCall "bytes.__new__" ⟨[.type "bytes", .ref a], []⟩; again (.builtin "bytes.__new__" ⟨[.type "bytes", .ref a], []⟩)) _ _ s
  refine wpAny_bind (wpAny_of_eq (PySem.F.bm_newCall _) (wpAny_pure ⟨plainId_quiet PySem.F.bm_plain _, codeAny_builtin PySem.F.bm_entry ?_⟩))
  rw [Around.under_plainId PySem.F.bm_plain _]
  obtain ⟨gi, hgen⟩ := hty 0 _ st
  have hT := hgen.typeIs
  obtain ⟨og, nm, qn, hog, hcg, hdg, _⟩ := id hgen
  unfold Builtin.«bytes.__new__»
  refine wpAny_bind (wpAny_of_eq (a := true) rfl ?_)
  refine bm_if_false rfl ?_
  refine wpAny_bind (wpAny_of_eq PySem.F.bm_sub ?_)
  refine bm_if_false rfl ?_
  refine wpAny_bind (wpAny_of_eq (PySem.F.bm_bind _) ?_)
  refine wpAny_bind (wpAny_of_eq (a := ()) rfl ?_)
  refine wpAny_bind (wpAny_of_eq (a := ()) rfl ?_)
  refine bm_if_false rfl ?_
  refine wpAny_bind (wpAny_specialOf hT g_no_bytes ?_)
  refine wpAny_bind (wpAny_bind ?_)
  show wpAny _ _ (load a >>= _) _ _ _
  refine wpAny_bind (wpAny_load hog ?_)
  rw [hdg]
  refine wpAny_pure (wpAny_pure ?_)
  refine bm_if_false rfl ?_
  refine wpAny_bind (wpAny_specialOf hT g_no_index ?_)
  refine bm_if_true rfl ?_
  first
    | show wpAny _ _ (Builtin.Bytes.buffer? "bytes.__new__" (.ref a) true >>= _) _ _ _
    | (refine wpAny_bind ?_; show wpAny _ _ (Builtin.Bytes.buffer? "bytes.__new__" (.ref a) true >>= _) _ _ _)
  refine wpAny_bind ?_
  unfold Builtin.Bytes.buffer?
  refine wpAny_bind (wpAny_specialOf hT g_no_buffer ?_)
  refine wpAny_bind (wpAny_specialOf hT g_no_buffer ?_)
  refine wpAny_pure ?_
  refine wpAny_bind (wpAny_tryCatch (W.self 0 s _ _ st ?_))
  refine wpAny_bind (wpAny_holding ?_)
  unfold Builtin.Bytes.lengthHint
  refine wpAny_bind (wpAny_specialOf hT g_no_len ?_)
  dsimp only
  refine bm_if_false rfl ?_
  refine bm_if_false rfl ?_
  refine wpAny_bind (wpAny_specialOf hT g_no_hint ?_)
  dsimp only
  refine wpAny_pure ?_
  refine wpAny_bind ?_
  unfold Builtin.Bytes.newBytearray
  refine wpAny_newObj_type ?_ (Nat.zero_le _)
  have hSf : s.heap.objs.size ∉ fp := fun hm => Nat.lt_irrefl _ (hfp _ hm)
  have main := bytes_loopS (prog := prog) (w := w) (A := A) (R := wants Q E) (S := s.heap.objs.size) W hSf hval hz n 0 { s with heap := s.heap.push { cls := .type "bytearray", data := .bytearray #[] } } rfl (Nat.zero_le _)
    (W.frame 0 s _ s.toks st (Nat.le_refl _) fun b _ o e => Heap.get?_push_of_some _ e) (Heap.get?_push_size _ rfl)
    fun s' t m => hQ s' t ⟨fun b o hb e => m.heap b o hb (Heap.get?_push_of_some _ e), m.gens, m.drawn, m.os, m.toks⟩
  first
    | exact wpAny_pure ⟨plainId_quiet PySem.F.bm_plain_loop _, main⟩
    | exact wpAny_pure (wpAny_pure ⟨plainId_quiet PySem.F.bm_plain_loop _, main⟩)

theorem use_bytes {a : Addr} {n : Nat} {P : Nat → Value → Prop} {lo : Nat} {val : Nat → Int} {Q : Value → Shared → Prop} (hg : GenR prog w A a n P lo s)
    (hval : ∀ i v, P i v → (∃ t, v = .int (val i) t) ∧ 0 ≤ val i ∧ val i < 256) (hz : n ≤ sizeLine) (hlo : lo ≤ s.heap.objs.size)
    (hQ : ∀ s' t, Ran lo s s' → Q (.bytes (octs val n) t) s') : wpAny (model prog w) A (call (.type "bytes") [.ref a]) Q E s := by
  obtain ⟨fp, wr, G, St, W, st, hty, ha, hfp, hwr, hG⟩ := hg
  refine callType_codes (Q₁ := fun obj s₁ => s₁.TypeIs obj "bytes" ∧ Q obj s₁) PySem.F.bm_called (PySem.F.bm_typeCall _) PySem.F.entry_object_init
    (bytes_newS W.in4_2 st hfp hty hval hz fun s' t m => ⟨PySem.W.typeIs_bytes _ _ _, hQ s' t (Moved.ran m (fun b hb => by
      rcases List.mem_cons.mp hb with rfl | hb
      · exact hlo
      · exact hwr b hb) hG)⟩) fun obj s₁ h₁ => ?_
  exact ⟨h₁.1, PySem.F.args_object_init_2 obj _, object_init_meets PySem.F.bm_called.init.lookup PySem.F.bm_called.made (by decide) prog w A.in1 _ s₁ ⟨h₁.1, rfl, h₁.2⟩⟩

theorem i_no_bytes : typeLookup (.type "int") "__bytes__" = pure none := by rw [typeLookup_type, builtinLookup_eq_fast]; kernel_rfl
theorem i_index : typeLookup (.type "int") "__index__" = pure (some (.builtin "int.__index__")) := by rw [typeLookup_type, builtinLookup_eq_fast]; kernel_rfl
theorem bytes_count_new {k : Int} {t : Tok} {Q : Value → Shared → Prop} (h0 : 0 ≤ k) (h1 : k ≤ 1000)
    (hQ : ∀ s' t, Same s s' → s'.heap = s.heap → Q (.bytes (Array.replicate k.toNat 0) t) s') :
    codeAny (model prog w) A (.call (.builtin "bytes.__new__") ⟨[.type "bytes", .int k t], []⟩) (wants Q E) s := by
  refine codeAny_of_tree ?_
  show wpAny _ A.in1 (do checkBuiltinCall "bytes.__new__" ⟨[.type "bytes", .int k t], []⟩; again (.builtin "bytes.__new__" ⟨[.type "bytes", .int k t], []⟩)) _ _ s
  refine wpAny_bind (wpAny_of_eq (PySem.F.bm_newCall _) (wpAny_pure ⟨plainId_quiet PySem.F.bm_plain _, codeAny_builtin PySem.F.bm_entry ?_⟩))
  rw [Around.under_plainId PySem.F.bm_plain _]
  have hT : s.TypeIs (.int k t) "int" := typeIs_int _ _ _
  unfold Builtin.«bytes.__new__»
  refine wpAny_bind (wpAny_of_eq (a := true) rfl ?_)
  refine bm_if_false rfl ?_
  refine wpAny_bind (wpAny_of_eq PySem.F.bm_sub ?_)
  refine bm_if_false rfl ?_
  refine wpAny_bind (wpAny_of_eq (PySem.F.bm_bind _) ?_)
  refine wpAny_bind (wpAny_of_eq (a := ()) rfl ?_)
  refine wpAny_bind (wpAny_of_eq (a := ()) rfl ?_)
  refine bm_if_false rfl ?_
  refine wpAny_bind (wpAny_specialOf hT i_no_bytes ?_)
  refine wpAny_bind (wpAny_pure ?_)
  refine bm_if_false rfl ?_
  refine wpAny_bind (wpAny_specialOf hT i_index ?_)
  refine bm_if_false rfl ?_
  refine wpAny_bind (wpAny_of_eq (show (asIndex (.int k t)).attempt = pure (.ok k) from rfl) ?_)
  dsimp only
  refine bm_if_false ?_ ?_
  · simp [Builtin.Bytes.fitsIndex]; omega
  rw [if_neg (by omega), if_neg (by omega)]
  refine bm_if_false ?_ ?_
  · simp [Builtin.Bytes.tooLong, sizeLine_eq]; omega
  refine wpAny_bind (wpAny_rule ?_)
  refine wpAny_bind (wpAny_mkBytes ?_ (by simp [sizeLine_eq]; omega))
  show wpAny _ _ (if (Value.type "bytes" == Value.type "bytes") = true then _ else _) _ _ _
  refine bm_if_true (by decide) ?_
  first
    | exact wpAny_pure (hQ _ _ ⟨rfl, rfl, rfl⟩ rfl)
    | exact wpAny_bind (wpAny_pure (wpAny_pure (hQ _ _ ⟨rfl, rfl, rfl⟩ rfl)))
theorem use_count {k : Int} {t : Tok} {Q : Value → Shared → Prop} (h0 : 0 ≤ k) (h1 : k ≤ 1000)
    (hQ : ∀ s' t, Same s s' → s'.heap = s.heap → Q (.bytes (Array.replicate k.toNat 0) t) s') : wpAny (model prog w) A (call (.type "bytes") [.int k t]) Q E s := by
  refine callType_codes (Q₁ := fun obj s₁ => s₁.TypeIs obj "bytes" ∧ Q obj s₁) PySem.F.bm_called (PySem.F.bm_typeCall _) PySem.F.entry_object_init
    (bytes_count_new h0 h1 fun s' t S e => ⟨PySem.W.typeIs_bytes _ _ _, hQ s' t S e⟩) fun obj s₁ h₁ => ?_
  exact ⟨h₁.1, PySem.F.args_object_init_2 obj _, object_init_meets PySem.F.bm_called.init.lookup PySem.F.bm_called.made (by decide) prog w A.in1 _ s₁ ⟨h₁.1, rfl, h₁.2⟩⟩
end
end JA
end
section
open PySem PySem.W PyProof.Rows PySem.Calls
namespace JA
set_option maxRecDepth 100000
section
variable {prog : Program} {w : World} {A : Around} {E : Value → Shared → Prop} {s : Shared} {b : Array UInt8} {t : Tok}
abbrev BIt := KBw.IsBytesIter
theorem BIt.at {h h' : Heap} {a : Addr} {i : Nat} (x : BIt h a b t i) (k : ∀ o, h.get? a = some o → h'.get? a = some o) : BIt h' a b t i := let ⟨o, e, r⟩ := x; ⟨o, k o e, r⟩
theorem BIt.lt {h : Heap} {a : Addr} {i : Nat} (x : BIt h a b t i) : a < h.objs.size := let ⟨_, e, _⟩ := x; Heap.lt_size e

theorem nextB_item {it : Addr} {i : Nat} {c : UInt8} {Q : Value → Shared → Prop} (hit : BIt s.heap it b t i) (hx : b[i]? = some c)
    (hQ : ∀ h', BIt h' it b t (i + 1) → Heap.SameBut it s.heap h' → Q (.int (c.toNat : Int) s.toks) { s with heap := h', toks := s.toks + 1 }) : wpAny (model prog w) A (Builtin.SmallTypes.nextOf (.ref it)) Q E s := by
  obtain ⟨o, ho, hc, hd⟩ := id hit
  unfold Builtin.SmallTypes.nextOf
  refine wpAny_bind (wpAny_callSpecial?_slot (name := PySem.Str.ofString "__next__") (KBw.iter_typeIs hit) KBw.slot_next
    (wpAny_call_entry KBw.slot_next (KBw.iter_typeIs hit) KBw.entry_next ?_ (KBw.args_next _)))
  show wpAny _ _ (field (.ref it) 0 >>= _) _ _ s
  refine wpAny_bind (wpAny_field ho hd (x := .bytes b t) rfl ?_)
  show wpAny _ _ (if (Value.bytes b t == Value.none) = true then _ else _) _ _ s
  rw [if_neg (show ¬ ((Value.bytes b t == Value.none) = true) from Bool.false_ne_true)]
  show wpAny _ _ (field (.ref it) 1 >>= _) _ _ s
  refine wpAny_bind (wpAny_field ho hd (x := .int i 0) rfl ?_)
  refine wpAny_bind (wpAny_of_eq (a := b) rfl ?_)
  simp only [Int.toNat_natCast, hx]
  refine wpAny_bind (wpAny_setField ho hd (by simp) (wpAny_bind (wpAny_mkInt (wpAny_pure ⟨_, rfl, wpAny_pure (hQ _ ?_ (Heap.SameBut.update ..))⟩))))
  exact ⟨_, Heap.get?_update_self _ ho (Obj.isFreed_of_fields (Obj.data_mapFields hd _)), (Obj.cls_mapFields ..).trans hc, by
    rw [Obj.data_mapFields hd]; simp [rawInt]⟩

theorem nextB_end {it : Addr} {i : Nat} {Q : Value → Shared → Prop} (hh : A.handled = none) (hit : BIt s.heap it b t i) (hx : b[i]? = none)
    (hE : ∀ h' e, Heap.ExtBut it s.heap h' → (∃ o, h'.get? e = some o ∧ o.cls = .type "StopIteration") → E (.ref e) { s with heap := h' }) : wpAny (model prog w) A (Builtin.SmallTypes.nextOf (.ref it)) Q E s := by
  obtain ⟨o, ho, hc, hd⟩ := id hit
  unfold Builtin.SmallTypes.nextOf
  refine wpAny_bind (wpAny_callSpecial?_slot (name := PySem.Str.ofString "__next__") (KBw.iter_typeIs hit) KBw.slot_next
    (wpAny_call_entry KBw.slot_next (KBw.iter_typeIs hit) KBw.entry_next ?_ (KBw.args_next _)))
  show wpAny _ _ (field (.ref it) 0 >>= _) _ _ s
  refine wpAny_bind (wpAny_field ho hd (x := .bytes b t) rfl ?_)
  show wpAny _ _ (if (Value.bytes b t == Value.none) = true then _ else _) _ _ s
  rw [if_neg (show ¬ ((Value.bytes b t == Value.none) = true) from Bool.false_ne_true)]
  show wpAny _ _ (field (.ref it) 1 >>= _) _ _ s
  refine wpAny_bind (wpAny_field ho hd (x := .int i 0) rfl ?_)
  refine wpAny_bind (wpAny_of_eq (a := b) rfl ?_)
  simp only [Int.toNat_natCast, hx]
  refine wpAny_bind (wpAny_rule (wpAny_bind (wpAny_setField ho hd (by simp) ?_)))
  show wpAny _ _ (newExc (.type "StopIteration") [] >>= _) _ _ _
  refine wpAny_bind ?_
  simp only [newExc, newTuple]
  refine wpAny_bind (wpAny_newObj_type ?_ (by size_fits))
  refine wpAny_bind (m := firstArgMember _ _) (wpAny_of_eq (a := Value.none) (by first | rfl | (simp only [firstArgMember]; rfl)) ?_)
  refine wpAny_newObj_type ?_ (by size_fits)
  simp only [raiseNew]
  refine wpAny_bind (wpAny_handled ?_)
  rw [show A.in1.handled = none from hh]
  refine wpAny_bind (wpAny_pure (wpAny_throw ?_))
  exact hE _ _ (((Heap.SameBut.update ..).extBut.push _).push _) ⟨_, Heap.get?_push_size _ rfl, rfl⟩

theorem bm_if_false' {α : Type} {M : Model} {E : Value → Shared → Prop} {c : Bool} {a b : Sem α} {Q : α → Shared → Prop} (hc : c = false) (h : wpAny M A b Q E s) : wpAny M A (if c = true then a else b) Q E s := by
  subst hc
  exact h
structure ZApart (z TI TO i1 i2 : Addr) : Prop where
  TIz : TI ≠ z
  TOz : TO ≠ z
  i1z : i1 ≠ z
  i2z : i2 ≠ z
  TITO : TI ≠ TO
  TIi1 : TI ≠ i1
  TIi2 : TI ≠ i2
  TOi1 : TO ≠ i1
  TOi2 : TO ≠ i2
  i12 : i1 ≠ i2

theorem zb_next_item {z TI TO i1 i2 : Addr} {k : Nat} {b1 b2 : Array UInt8} {t1 t2 : Tok} {c1 c2 : UInt8} {a b : Value} {Q : Value → Shared → Prop} (D : ZApart z TI TO i1 i2)
    (hz : IsZip s.heap z TI TO .none) (hTI : IsPair s.heap TI (.ref i1) (.ref i2)) (hTO : IsPair s.heap TO a b)
    (h1 : BIt s.heap i1 b1 t1 k) (h2 : BIt s.heap i2 b2 t2 k) (hx : b1[k]? = some c1) (hy : b2[k]? = some c2)
    (hQ : ∀ h' u1 u2 tk, IsZip h' z TI TO (rawInt s.heap.objs.size) → IsPair h' TO (.int c1.toNat u1) (.int c2.toNat u2) → BIt h' i1 b1 t1 (k + 1) → BIt h' i2 b2 t2 (k + 1) → IsPair h' s.heap.objs.size (.int c1.toNat u1) (.int c2.toNat u2) → h'.objs.size = s.heap.objs.size + 1 →
      (∀ c o, c ≠ z → c ≠ TO → c ≠ i1 → c ≠ i2 → s.heap.get? c = some o → h'.get? c = some o) → Q (.ref s.heap.objs.size) { s with heap := h', toks := tk }) :
    wpAny (model prog w) A (Builtin.«zip.__next__» ⟨[.ref z], []⟩) (fun fin s' => ∃ v, fin = .done (.ret v) ∧ Q v s') E s := by
  show wpAny _ _ (field (.ref z) 2 >>= _) _ _ _
  refine wpAny_bind (wpAny_field hz rfl (x := .bool false) rfl ?_)
  show wpAny _ _ (field (.ref z) 3 >>= _) _ _ _
  refine wpAny_bind (wpAny_field hz rfl (x := .ref TI) rfl ?_)
  refine wpAny_bind (wpAny_seqItems hTI rfl ?_)
  show wpAny _ _ (Builtin.SmallTypes.ownedTupleIsFree (.ref z) >>= _) _ _ _
  refine wpAny_bind ?_
  unfold Builtin.SmallTypes.ownedTupleIsFree
  refine wpAny_bind (wpAny_field hz rfl (x := .none) rfl (wpAny_pure ?_))
  simp only [if_true]
  refine wpAny_bind (wpAny_rule ?_)
  refine wpAny_bind (wpAny_field hz rfl (x := .ref TO) rfl ?_)
  refine wpAny_bind (wpAny_setField_rec hz (by simp) fun h₁ hz₁ hs₁ => ?_)
  replace hz₁ : IsZip h₁ z TI TO .ellipsis := hz₁
  refine wpAny_bind ?_
  simp only [List.zipIdx_cons, List.zipIdx_nil, List.forIn_cons, List.forIn_nil]
  refine wpAny_bind (wpAny_bind (wpAny_onRaise ?_))
  show wpAny _ _ (Builtin.SmallTypes.nextOf (.ref i1) >>= _) _ _ _
  refine wpAny_bind (nextB_item (BIt.at h1 fun o e => hs₁.extBut _ o D.i1z e) hx fun h₂ h1₂ hs₂ => wpAny_pure ?_)
  have hTO₂ : IsPair h₂ TO a b := hs₂.extBut _ _ D.TOi1 (hs₁.extBut _ _ D.TOz hTO)
  refine wpAny_bind (wpAny_seqItems hTO₂ rfl ?_)
  refine wpAny_bind (wpAny_updateSeq_pair hTO₂ fun h₃ hTO₃ hs₃ => ?_)
  replace hTO₃ : IsPair h₃ TO (.int c1.toNat s.toks) b := hTO₃
  refine wpAny_bind (wpAny_letGo (wpAny_pure ?_))
  refine wpAny_bind (wpAny_bind (wpAny_onRaise ?_))
  show wpAny _ _ (Builtin.SmallTypes.nextOf (.ref i2) >>= _) _ _ _
  refine wpAny_bind (nextB_item (BIt.at h2 fun o e => hs₃.extBut _ o D.TOi2.symm (hs₂.extBut _ o D.i12.symm (hs₁.extBut _ o D.i2z e))) hy fun h₄ h2₄ hs₄ => wpAny_pure ?_)
  have hTO₄ : IsPair h₄ TO (.int c1.toNat s.toks) b := hs₄.extBut _ _ D.TOi2 hTO₃
  refine wpAny_bind (wpAny_seqItems hTO₄ rfl ?_)
  refine wpAny_bind (wpAny_updateSeq_pair hTO₄ fun h₅ hTO₅ hs₅ => ?_)
  replace hTO₅ : IsPair h₅ TO (.int c1.toNat s.toks) (.int c2.toNat (s.toks + 1)) := hTO₅
  refine wpAny_bind (wpAny_letGo (wpAny_pure (wpAny_pure ?_)))
  refine wpAny_bind (wpAny_seqItems hTO₅ rfl ?_)
  refine wpAny_bind (wpAny_newTuple ?_)
  have hsz : h₅.objs.size = s.heap.objs.size := by rw [hs₅.1, hs₄.1, hs₃.1, hs₂.1, hs₁.1]
  have hz₅ : IsZip h₅ z TI TO .ellipsis := hs₅.extBut _ _ D.TOz.symm (hs₄.extBut _ _ D.i2z.symm (hs₃.extBut _ _ D.TOz.symm (hs₂.extBut _ _ D.i1z.symm hz₁)))
  have hk₅ : ∀ c o, c ≠ z → c ≠ TO → c ≠ i1 → c ≠ i2 → s.heap.get? c = some o → h₅.get? c = some o := fun c o c1 c2 c3 c4 e =>
    hs₅.extBut _ _ c2 (hs₄.extBut _ _ c4 (hs₃.extBut _ _ c2 (hs₂.extBut _ _ c3 (hs₁.extBut _ _ c1 e))))
  have h1₅ : BIt h₅ i1 b1 t1 (k + 1) := BIt.at h1₂ fun o e => hs₅.extBut _ o D.TOi1.symm (hs₄.extBut _ o D.i12 (hs₃.extBut _ o D.TOi1.symm e))
  have h2₅ : BIt h₅ i2 b2 t2 (k + 1) := BIt.at h2₄ fun o e => hs₅.extBut _ o D.TOi2.symm e
  have hzlt : z < h₅.objs.size := Heap.lt_size hz₅
  have hTOlt : TO < h₅.objs.size := Heap.lt_size hTO₅
  have hi1lt : i1 < h₅.objs.size := BIt.lt h1₅
  have hi2lt : i2 < h₅.objs.size := BIt.lt h2₅
  show wpAny _ _ (Builtin.SmallTypes.ownedTupleHandOut (.ref z) (.ref h₅.objs.size) >>= _) _ _ _
  refine wpAny_bind ?_
  unfold Builtin.SmallTypes.ownedTupleHandOut
  have hz₆ : IsZip (h₅.push { cls := .type "tuple", data := .seq #[.int c1.toNat s.toks, .int c2.toNat (s.toks + 1)] }) z TI TO .ellipsis := Heap.get?_push_of_some _ hz₅
  refine wpAny_bind (wpAny_setField_rec hz₆ (by simp) fun h₇ hz₇ hs₇ => ?_)
  replace hz₇ : IsZip h₇ z TI TO (rawInt h₅.objs.size) := hz₇
  refine wpAny_setField_rec hz₇ (by simp) fun h₈ hz₈ hs₈ => ?_
  replace hz₈ : IsZip h₈ z TI TO (rawInt h₅.objs.size) := hz₈
  have up : ∀ c o, c ≠ z → h₅.get? c = some o → h₈.get? c = some o := fun c o c1 e => hs₈.extBut _ _ c1 (hs₇.extBut _ _ c1 (Heap.get?_push_of_some _ e))
  have hT₈ : IsPair h₈ h₅.objs.size (.int c1.toNat s.toks) (.int c2.toNat (s.toks + 1)) := hs₈.extBut _ _ (Nat.ne_of_gt hzlt) (hs₇.extBut _ _ (Nat.ne_of_gt hzlt) (Heap.get?_push_size _ rfl))
  have hz8 : h₈.objs.size = h₅.objs.size + 1 := by rw [hs₈.1, hs₇.1, Heap.size_push]
  rw [hsz] at hz₈ hT₈ hz8
  refine wpAny_pure ⟨_, rfl, ?_⟩
  show Q (.ref h₅.objs.size) _
  rw [hsz]
  exact hQ h₈ _ _ _ hz₈ (up _ _ D.TOz hTO₅) (BIt.at h1₅ fun o e => up _ o D.i1z e) (BIt.at h2₅ fun o e => up _ o D.i2z e) hT₈ hz8 fun c o c1 c2 c3 c4 e => up c o c1 (hk₅ c o c1 c2 c3 c4 e)

/-- both run out together: the first to be asked ends -/
theorem zb_next_end {z TI TO i1 i2 : Addr} {k : Nat} {b1 : Array UInt8} {t1 : Tok} {Q : PySem.Fin → Shared → Prop} (hh : A.handled = none) (D : ZApart z TI TO i1 i2)
    (hz : IsZip s.heap z TI TO .none) (hTI : IsPair s.heap TI (.ref i1) (.ref i2))
    (h1 : BIt s.heap i1 b1 t1 k) (hx : b1[k]? = none)
    (hE : ∀ h' e, (∀ c o, c ≠ z → c ≠ TO → c ≠ i1 → c ≠ i2 → s.heap.get? c = some o → h'.get? c = some o) → (∃ o, h'.get? e = some o ∧ o.cls = .type "StopIteration") → E (.ref e) { s with heap := h' }) :
    wpAny (model prog w) A (Builtin.«zip.__next__» ⟨[.ref z], []⟩) Q E s := by
  show wpAny _ _ (field (.ref z) 2 >>= _) _ _ _
  refine wpAny_bind (wpAny_field hz rfl (x := .bool false) rfl ?_)
  show wpAny _ _ (field (.ref z) 3 >>= _) _ _ _
  refine wpAny_bind (wpAny_field hz rfl (x := .ref TI) rfl ?_)
  refine wpAny_bind (wpAny_seqItems hTI rfl ?_)
  show wpAny _ _ (Builtin.SmallTypes.ownedTupleIsFree (.ref z) >>= _) _ _ _
  refine wpAny_bind ?_
  unfold Builtin.SmallTypes.ownedTupleIsFree
  refine wpAny_bind (wpAny_field hz rfl (x := .none) rfl (wpAny_pure ?_))
  simp only [if_true]
  refine wpAny_bind (wpAny_rule ?_)
  refine wpAny_bind (wpAny_field hz rfl (x := .ref TO) rfl ?_)
  refine wpAny_bind (wpAny_setField_rec hz (by simp) fun h₁ hz₁ hs₁ => ?_)
  replace hz₁ : IsZip h₁ z TI TO .ellipsis := hz₁
  refine wpAny_bind ?_
  simp only [List.zipIdx_cons, List.zipIdx_nil, List.forIn_cons, List.forIn_nil]
  refine wpAny_bind (wpAny_bind (wpAny_onRaise ?_))
  show wpAny _ _ (Builtin.SmallTypes.nextOf (.ref i1) >>= _) _ _ _
  refine wpAny_bind (nextB_end hh (BIt.at h1 fun o e => hs₁.extBut _ o D.i1z e) hx fun h₂ e hs₂ he => ?_)
  obtain ⟨oe, hoe, hce⟩ := he
  have hz₂ : IsZip h₂ z TI TO .ellipsis := hs₂ _ _ D.i1z.symm hz₁
  have hez : e ≠ z := fun x => by subst x; rw [hz₂] at hoe; cases hoe; simp at hce
  refine wpAny_setField_rec hz₂ (by simp) fun h₃ _ hs₃ => hE h₃ e (fun c o c1 _ c3 _ x => hs₃.extBut _ _ c1 (hs₂ _ _ c3 (hs₁.extBut _ _ c1 x))) ⟨oe, hs₃.extBut _ _ hez hoe, hce⟩
end

section
variable {prog : Program} {w : World} {A : Around} {E : Value → Shared → Prop} {s : Shared}
theorem WalksU.zipB (hh : A.handled = none) (z TI TO i1 i2 : Addr) (D : ZApart z TI TO i1 i2) (b1 b2 : Array UInt8) (t1 t2 : Tok) (he : b1.size = b2.size) :
    WalksU prog w A z [z, TI, TO, i1, i2] [z, TO, i1, i2] b1.size
      (fun i vals => ∃ c1 c2 u1 u2, b1[i]? = some c1 ∧ b2[i]? = some c2 ∧ vals = #[.int c1.toNat u1, .int c2.toNat u2])
      (fun i h => IsZip h z TI TO .none ∧ IsPair h TI (.ref i1) (.ref i2) ∧ (∃ a b, IsPair h TO a b) ∧ BIt h i1 b1 t1 i ∧ BIt h i2 b2 t2 i)
      (fun i T h => IsZip h z TI TO (rawInt T) ∧ IsPair h TI (.ref i1) (.ref i2) ∧ (∃ a b, IsPair h TO a b) ∧ BIt h i1 b1 t1 (i + 1) ∧ BIt h i2 b2 t2 (i + 1) ∧
        T ≠ z ∧ T ≠ TO ∧ T ≠ i1 ∧ T ≠ i2) where
  sub := fun c hc => by simp at hc ⊢; rcases hc with rfl | rfl | rfl | rfl <;> simp
  frame := fun i h h' hst hk => by
    obtain ⟨hz, hTI, ⟨a, b, hTO⟩, h1, h2⟩ := hst
    exact ⟨hk z (by simp) _ hz, hk TI (by simp) _ hTI, ⟨a, b, hk TO (by simp) _ hTO⟩, BIt.at h1 fun o e => hk i1 (by simp) o e, BIt.at h2 fun o e => hk i2 (by simp) o e⟩
  item := fun i s Q E hi hst hQ => by
    obtain ⟨hz, hTI, ⟨a, b, hTO⟩, h1, h2⟩ := hst
    have hix : b1[i]? = some b1[i] := Array.getElem?_eq_getElem hi
    have hiy : b2[i]? = some (b2[i]'(he ▸ hi)) := Array.getElem?_eq_getElem (he ▸ hi)
    have hT : s.TypeIs (.ref z) "zip" := ⟨_, hz, rfl⟩
    unfold pyNext
    refine wpAny_bind (wpAny_attempt (wpAny_callSpecial?_slot (name := PySem.Str.ofString "__next__") hT PySem.F.slot_zip_next
      (wpAny_call_entry PySem.F.slot_zip_next hT PySem.F.entry_zip_next (zb_next_item D hz hTI hTO h1 h2 hix hiy fun h' u1 u2 tk a1 a2 a3 a4 a5 a6 hk => wpAny_pure ?_) (PySem.F.args_zip_next_1 _))))
    have lt : ∀ {c o}, s.heap.get? c = some o → s.heap.objs.size ≠ c := fun e => Nat.ne_of_gt (Heap.lt_size e)
    exact hQ s.heap.objs.size #[.int _ u1, .int _ u2] h' tk ⟨_, _, _, _, hix, hiy, rfl⟩ ⟨_, a5, rfl, _, rfl⟩
      ⟨a1, hk _ _ D.TIz D.TITO D.TIi1 D.TIi2 hTI, ⟨_, _, a2⟩, a3, a4,
        lt hz, lt hTO, Nat.ne_of_gt (BIt.lt h1), Nat.ne_of_gt (BIt.lt h2)⟩
      fun c o hc e => hk c o (fun x => hc (by simp [x])) (fun x => hc (by simp [x])) (fun x => hc (by simp [x])) (fun x => hc (by simp [x])) e
  go := fun elts k pos i T s Q E hm hQ => by
    obtain ⟨hz, hTI, ⟨a, b, hTO⟩, h1, h2, _⟩ := hm
    refine wpAny_letOwnedTupleGo_zip hz fun h' hz' hs' => hQ h' ⟨hz', hs'.extBut _ _ D.TIz hTI, ⟨a, b, hs'.extBut _ _ D.TOz hTO⟩, BIt.at h1 fun o e => hs'.extBut _ o D.i1z e, BIt.at h2 fun o e => hs'.extBut _ o D.i2z e⟩ fun c o hc e => hs'.extBut _ _ (fun x => hc (by simp [x])) e
  apart := fun i T h hm hT => by
    obtain ⟨_, _, _, _, _, t1, t2, t3, t4⟩ := hm
    simp at hT
    rcases hT with rfl | rfl | rfl | rfl
    · exact t1 rfl
    · exact t2 rfl
    · exact t3 rfl
    · exact t4 rfl
  done := fun s Q E hst hQ => by
    obtain ⟨hz, hTI, ⟨a, b, hTO⟩, h1, h2⟩ := hst
    have hT : s.TypeIs (.ref z) "zip" := ⟨_, hz, rfl⟩
    unfold pyNext
    refine wpAny_bind (wpAny_attempt (wpAny_callSpecial?_slot (name := PySem.Str.ofString "__next__") hT PySem.F.slot_zip_next
      (wpAny_call_entry PySem.F.slot_zip_next hT PySem.F.entry_zip_next (zb_next_end hh D hz hTI h1 (by simp) fun h' e hk he => ?_) (PySem.F.args_zip_next_1 _))))
    obtain ⟨o, ho, hc⟩ := he
    refine wpAny_bind (wpAny_isInstance (T := "StopIteration") (b := true) ⟨o, ho, hc⟩ isSubtype_stop ?_)
    exact wpAny_pure (hQ _ s.toks fun c o hc e =>
      hk c o (fun x => hc (by simp [x])) (fun x => hc (by simp [x])) (fun x => hc (by simp [x])) (fun x => hc (by simp [x])) e)
  self := fun i s Q E hst hQ => wpAny_pyIter_zip hst.1 hQ

abbrev zbH1 (h : Heap) (b1 : Array UInt8) (t1 : Tok) : Heap := h.push { cls := .type "bytes_iterator", data := .fields #[.bytes b1 t1, .int 0 0] }
abbrev zbH2 (h : Heap) (b1 : Array UInt8) (t1 : Tok) (b2 : Array UInt8) (t2 : Tok) : Heap := (zbH1 h b1 t1).push { cls := .type "bytes_iterator", data := .fields #[.bytes b2 t2, .int 0 0] }
abbrev zbH3 (h : Heap) (b1 : Array UInt8) (t1 : Tok) (b2 : Array UInt8) (t2 : Tok) : Heap := (zbH2 h b1 t1 b2 t2).push { cls := .type "tuple", data := .seq #[.ref h.objs.size, .ref (zbH1 h b1 t1).objs.size] }
abbrev zbH4 (h : Heap) (b1 : Array UInt8) (t1 : Tok) (b2 : Array UInt8) (t2 : Tok) : Heap := (zbH3 h b1 t1 b2 t2).push { cls := .type "tuple", data := .seq #[.none, .none] }
abbrev zbH5 (h : Heap) (b1 : Array UInt8) (t1 : Tok) (b2 : Array UInt8) (t2 : Tok) : Heap := (zbH4 h b1 t1 b2 t2).push { cls := .type "zip", data := .fields #[.none, .bool false, .bool false, .ref (zbH2 h b1 t1 b2 t2).objs.size, .ref (zbH3 h b1 t1 b2 t2).objs.size] }

theorem meets_zb_new (b1 : Array UInt8) (t1 : Tok) (b2 : Array UInt8) (t2 : Tok) :
    Meets (Builtin.«zip.__new__» ⟨[.type "zip", .bytes b1 t1, .bytes b2 t2], []⟩) (fun _ R s =>
      R (.ok (.ret (.ref (zbH4 s.heap b1 t1 b2 t2).objs.size))) { s with heap := zbH5 s.heap b1 t1 b2 t2 }) :=
  .of_wp fun prog w A R s h => by
    obtain ⟨hp, g, d, tk, os⟩ := s
    have hsub := sub_zip
    unfold Builtin.«zip.__new__» Builtin.SmallTypes.newClass
    refine wpAny_bind ?_
    refine wpAny_bind (wpAny_of_eq (a := true) rfl ?_)
    refine bm_if_false' rfl ?_
    refine wpAny_bind (wpAny_of_eq hsub ?_)
    refine bm_if_false' rfl ?_
    refine wpAny_pure ?_
    dsimp only
    rw [if_neg (by simp)]
    refine wpAny_bind ?_
    unfold Builtin.SmallTypes.iterAll
    simp only [List.forIn_cons, List.forIn_nil]
    refine wpAny_bind (wpAny_bind (wpAny_bind (wpAny_holding (KBw.pyIter_bytes ?_))))
    refine wpAny_pure ?_
    dsimp only
    refine wpAny_bind (wpAny_bind (wpAny_holding (KBw.pyIter_bytes ?_)))
    refine wpAny_pure ?_
    refine wpAny_pure ?_
    refine wpAny_pure ?_
    show wpAny _ _ (newTuple [Value.ref hp.objs.size, Value.ref (zbH1 hp b1 t1).objs.size] >>= _) _ _ _
    refine wpAny_bind (wpAny_newTuple ?_ (by rw [sizeLine_eq]; simp))
    show wpAny _ _ (newTuple [Value.none, Value.none] >>= _) _ _ _
    refine wpAny_bind (wpAny_newTuple ?_ (by rw [sizeLine_eq]; simp))
    show wpAny _ _ (newObj (.type "zip") (.fields #[.none, .bool false, .bool false, .ref (zbH2 hp b1 t1 b2 t2).objs.size, .ref (zbH3 hp b1 t1 b2 t2).objs.size]) >>= _) _ _ _
    refine wpAny_bind (wpAny_newObj_type ?_ (by unfold sizeOk; rw [sizeLine_eq]; simp))
    exact wpAny_pure ⟨_, rfl, h⟩

theorem call_zb {b1 : Array UInt8} {t1 : Tok} {b2 : Array UInt8} {t2 : Tok} {Q : Value → Shared → Prop}
    (h : ∀ h', IsZip h' (s.heap.objs.size + 4) (s.heap.objs.size + 2) (s.heap.objs.size + 3) .none → IsPair h' (s.heap.objs.size + 2) (.ref s.heap.objs.size) (.ref (s.heap.objs.size + 1)) →
      IsPair h' (s.heap.objs.size + 3) .none .none → BIt h' s.heap.objs.size b1 t1 0 → BIt h' (s.heap.objs.size + 1) b2 t2 0 → h'.objs.size = s.heap.objs.size + 5 →
      (∀ c o, s.heap.get? c = some o → h'.get? c = some o) → Q (.ref (s.heap.objs.size + 4)) { s with heap := h' }) :
    wpAny (model prog w) A (call (.type "zip") [.bytes b1 t1, .bytes b2 t2]) Q E s := by
  refine callType_new PySem.F.called_zip (by decide) (PySem.F.typeCall_zip_2 _ _) (PySem.F.newCall_zip_2 _ _) (fun obj => PySem.F.args_object_init_3 obj _ _) PySem.F.entry_zip_new
    (meets_zb_new b1 t1 b2 t2) ?_
  have z1 : (zbH1 s.heap b1 t1).objs.size = s.heap.objs.size + 1 := Heap.size_push ..
  have z2 : (zbH2 s.heap b1 t1 b2 t2).objs.size = s.heap.objs.size + 2 := by rw [Heap.size_push, z1]
  have z3 : (zbH3 s.heap b1 t1 b2 t2).objs.size = s.heap.objs.size + 3 := by rw [Heap.size_push, z2]
  have z4 : (zbH4 s.heap b1 t1 b2 t2).objs.size = s.heap.objs.size + 4 := by rw [Heap.size_push, z3]
  have z5 : (zbH5 s.heap b1 t1 b2 t2).objs.size = s.heap.objs.size + 5 := by rw [Heap.size_push, z4]
  have g5 : (zbH5 s.heap b1 t1 b2 t2).get? (zbH4 s.heap b1 t1 b2 t2).objs.size = some _ := Heap.get?_push_size _ rfl
  have g4 : (zbH5 s.heap b1 t1 b2 t2).get? (zbH3 s.heap b1 t1 b2 t2).objs.size = some _ := Heap.get?_push_of_some _ (Heap.get?_push_size _ rfl)
  have g3 : (zbH5 s.heap b1 t1 b2 t2).get? (zbH2 s.heap b1 t1 b2 t2).objs.size = some _ := Heap.get?_push_of_some _ (Heap.get?_push_of_some _ (Heap.get?_push_size _ rfl))
  have g2 : (zbH5 s.heap b1 t1 b2 t2).get? (zbH1 s.heap b1 t1).objs.size = some _ := Heap.get?_push_of_some _ (Heap.get?_push_of_some _ (Heap.get?_push_of_some _ (Heap.get?_push_size _ rfl)))
  have g1 : (zbH5 s.heap b1 t1 b2 t2).get? s.heap.objs.size = some _ := Heap.get?_push_of_some _ (Heap.get?_push_of_some _ (Heap.get?_push_of_some _ (Heap.get?_push_of_some _ (Heap.get?_push_size _ rfl))))
  show _ ∧ _
  rw [z2, z3, z4] at g5
  rw [z1, z2] at g3
  rw [z3] at g4
  rw [z1] at g2
  rw [z4]
  exact ⟨⟨_, g5, rfl⟩, h _ g5 g3 g4 ⟨_, g1, rfl, rfl⟩ ⟨_, g2, rfl, rfl⟩ z5 fun c o x =>
    Heap.get?_push_of_some _ (Heap.get?_push_of_some _ (Heap.get?_push_of_some _ (Heap.get?_push_of_some _ (Heap.get?_push_of_some _ x))))⟩
end
end JA
end
section
open PySem PySem.W PyProof.Rows PySem.Calls
namespace JA
set_option maxRecDepth 100000
/-- a zip of two runs of octets, made since s -/
structure ZipAt (b1 b2 : Array UInt8) (s s₁ : Shared) (z : Addr) (TI TO i1 i2 : Addr) (t1 t2 : Tok) : Prop where
  apart : ZApart z TI TO i1 i2
  zip : IsZip s₁.heap z TI TO .none
  pin : IsPair s₁.heap TI (.ref i1) (.ref i2)
  pout : IsPair s₁.heap TO .none .none
  it1 : BIt s₁.heap i1 b1 t1 0
  it2 : BIt s₁.heap i2 b2 t2 0
  keep : Keeps s s₁
  new : s.heap.objs.size ≤ z ∧ s.heap.objs.size ≤ TI ∧ s.heap.objs.size ≤ TO ∧ s.heap.objs.size ≤ i1 ∧ s.heap.objs.size ≤ i2

section
variable {prog : Program} {w : World} {A : Around} {E : Value → Shared → Prop} {s : Shared}
theorem call_zipAt {b1 b2 : Array UInt8} {t1 t2 : Tok} {Q : Value → Shared → Prop} {s₀ : Shared} (hk : Keeps s₀ s) (hsz : s₀.heap.objs.size ≤ s.heap.objs.size)
    (h : ∀ z TI TO i1 i2 s₁, ZipAt b1 b2 s₀ s₁ z TI TO i1 i2 t1 t2 → Q (.ref z) s₁) : wpAny (model prog w) A (call (.type "zip") [.bytes b1 t1, .bytes b2 t2]) Q E s := by
  refine call_zb fun h' hz hTI hTO h1 h2 hsz' hk' => h _ _ _ _ _ _ ⟨⟨?_, ?_, ?_, ?_, ?_, ?_, ?_, ?_, ?_, ?_⟩, hz, hTI, hTO, h1, h2, ?_, ?_, ?_, ?_, ?_, ?_⟩
  all_goals first | (apply Nat.ne_of_lt; omega) | (apply Nat.ne_of_gt; omega) | (refine Nat.le_trans hsz ?_; omega) | exact hsz | skip
  · obtain ⟨h1, t1, rfl, k1⟩ := hk
    exact ⟨h', _, rfl, fun b o e => hk' b o (k1 b o e)⟩

theorem gen_zip {env : Env} {elt iter : Expr} {xa xb : Str} {pa pb pt : Pos} {kt : Nat} {scope : Scope} {cl : List (Str × Addr)} {pos : Pos} {c P : Addr} {b1 b2 : Array UInt8} {bm : Addr} {mg : Str → Option Value} {om : Obj} {Q : Value → Shared → Prop}
    (F : Nat → Value → Prop) (hsize : b1.size = b2.size)
    (hh : A.handled = none) (hco : scope.isCoroutine = false) (hclos : closureFor scope env = pure cl) (hcell : ∀ y ∈ scope.names, y.2 ≠ .cell) (h0 : scope.names.lookup (".0" : Str) = some NameKind.local)
    (hxa : scope.names.lookup xa = some .local) (hxb : scope.names.lookup xb = some .local) (hab : xa ≠ xb) (hkind : scope.kind = .function) (hroom : A.depth < recursionLimit) (hs : ∀ x, genFold iter env x = pure x)
    (hcode : env.code = .ref c) (T : Tab s.heap c P) (hnl : s.heap.NoLimit) (hP : P ≠ cStatics)
    (hmg : s.heap.Ns env.globals mg) (hbm : mg "__builtins__" = some (.ref bm)) (hbne : bm ≠ builtinsNs) (hom : s.heap.get? bm = some om) (homc : om.cls = .type "module") (homd : om.dict = some builtinsNs) (homp : om.data = .plain)
    (hit : ∀ (Q' : Value → Shared → Prop), (∀ z TI TO i1 i2 t1 t2 s₁, ZipAt b1 b2 s s₁ z TI TO i1 i2 t1 t2 → Q' (.ref z) s₁) → wpAny (model prog w) A (eval iter env) Q' E s)
    (helt : ∀ (A' : Around) E' i c1 c2 u1 u2 (s₂ : Shared) m₂ C code, A'.handled = none → A'.depth ≤ A.depth + 1 → b1[i]? = some c1 → b2[i]? = some c2 → s.heap.objs.size ≤ C → s₂.heap.Ns C m₂ → m₂ xa = some (.int c1.toNat u1) → m₂ xb = some (.int c2.toNat u2) → Off [P] s.heap s₂.heap →
      wpAny (model prog w) A' (eval elt (genEnv scope cl C code builtinsNs env)) (fun y s₃ => F i y ∧ Keeps s₂ s₃) E' s₂)
    (hQ : ∀ a s', Made P c s s' → GenR prog w A a b1.size (fun j y => j < b1.size ∧ F j y) s.heap.objs.size s' → Q (.ref a) s') :
    wpAny (model prog w) A (eval (.GeneratorExp elt [⟨.Tuple [.Name xa pa, .Name xb pb] kt pt, iter, [], 0⟩] scope pos) env) Q E s := by
  refine wpAny_GeneratorExp_walksQTD hh hco hclos hcell h0 hxa hxb hab hkind hroom (hit _ fun z TI TO i1 i2 t1 t2 s₁ Z => ?_) hs
  have hPlt : P < s.heap.objs.size := by obtain ⟨ps, e⟩ := T.obj; exact Heap.lt_size e
  obtain ⟨h₁, k₁, e₁, up1⟩ := Z.keep
  have hsz1 : s.heap.objs.size ≤ s₁.heap.objs.size := by
    have := Z.new.1
    have := Heap.lt_size Z.zip
    exact Nat.le_of_lt (Nat.lt_of_le_of_lt Z.new.1 (Heap.lt_size Z.zip))
  have up1 : Stays s.heap s₁.heap := by rw [e₁]; exact up1
  have hgP : env.globals ≠ P := fun e => by
    obtain ⟨o, es, ep, ho, hd, _⟩ := hmg
    obtain ⟨ps, hp⟩ := T.obj
    rw [e, hp] at ho; cases ho; cases hd
  have hbP : bm ≠ P := fun e => by
    obtain ⟨ps, hp⟩ := T.obj
    rw [e, hp] at hom; cases hom; cases homp
  have hnl1 : s₁.heap.NoLimit := hnl.keeps up1
  refine wpAny_pyIter_zip Z.zip ⟨hnl1, gcode hcode (T.keeps up1) fun code h₃ tk₃ hx₃ hge T₃ => ?_⟩
  have up3 : ∀ b o, b ≠ P → s₁.heap.get? b = some o → h₃.get? b = some o := fun b o hb e => hx₃ b o hb e
  have neP : ∀ b, s.heap.objs.size ≤ b → b ≠ P := fun b hb e => absurd (Nat.lt_of_lt_of_le hPlt hb) (by rw [e]; exact Nat.lt_irrefl _)
  refine wpAny_builtinsFor (hmg.at' fun o e => up3 _ o hgP (up1 _ _ e)) hbm hbne (up3 _ _ hbP (up1 _ _ hom)) homc homd homp ?_
  have hl₃ : h₃.NoLimit := hnl1.extBut hx₃ (Ne.symm hP)
  have hz3 : IsZip h₃ z TI TO .none := up3 _ _ (neP _ Z.new.1) Z.zip
  have hTI3 : IsPair h₃ TI (.ref i1) (.ref i2) := up3 _ _ (neP _ Z.new.2.1) Z.pin
  have hTO3 : IsPair h₃ TO .none .none := up3 _ _ (neP _ Z.new.2.2.1) Z.pout
  have h13 : BIt h₃ i1 b1 t1 0 := BIt.at Z.it1 fun o e => up3 _ o (neP _ Z.new.2.2.2.1) e
  have h23 : BIt h₃ i2 b2 t2 0 := BIt.at Z.it2 fun o e => up3 _ o (neP _ Z.new.2.2.2.2) e
  have wrlo : ∀ b ∈ [z, TO, i1, i2], s.heap.objs.size ≤ b := by
    intro b hb
    simp only [List.mem_cons, List.not_mem_nil, or_false] at hb
    rcases hb with rfl | rfl | rfl | rfl
    · exact Z.new.1
    · exact Z.new.2.2.1
    · exact Z.new.2.2.2.1
    · exact Z.new.2.2.2.2
  refine ⟨z, [z, TI, TO, i1, i2], [z, TO, i1, i2], b1.size, _, _, _, fun _ => true, F, rfl, fun A' hA => WalksU.zipB hA z TI TO i1 i2 Z.apart b1 b2 t1 t2 hsize, ?_, ?_, ?_, hl₃, ?_, ?_, ?_⟩
  · rintro i vals ⟨c1, c2, u1, u2, _, _, rfl⟩
    exact ⟨_, _, rfl⟩
  · exact ⟨hz3, hTI3, ⟨_, _, hTO3⟩, h13, h23⟩
  · intro b hb
    show b < h₃.objs.size
    simp only [List.mem_cons, List.not_mem_nil, or_false] at hb
    rcases hb with rfl | rfl | rfl | rfl | rfl
    · exact Heap.lt_size hz3
    · exact Heap.lt_size hTI3
    · exact Heap.lt_size hTO3
    · exact BIt.lt h13
    · exact BIt.lt h23
  · intro hm
    have := wrlo _ hm
    obtain ⟨mc, hn, _⟩ := hnl
    exact absurd hn.lt (Nat.not_lt.mpr this)
  · intro href hhref
    have keepAt : ∀ s₂ : Shared, (∀ b ∈ List.range h₃.objs.size, b ∉ [z, TO, i1, i2] → ∀ o, href.get? b = some o → s₂.heap.get? b = some o) → Off [P] s.heap s₂.heap := fun s₂ hk b o hb e => by
      have e3 := up3 b o (fun q => hb (by rw [q]; exact .head _)) (up1 _ _ e)
      exact hk b (List.mem_range.mpr (Heap.lt_size e3)) (fun q => absurd (Heap.lt_size e) (Nat.not_lt.mpr (wrlo _ q))) o (hhref _ _ e3)
    refine ⟨fun A' E' i va vb s₂ m₂ hA hd hu hv hn hma hmb hk => ?_, fun A' E' i va vb s₂ m₂ hA hd hu hv hp hn hma hmb hk => ?_⟩
    · exact wpAny_pure ⟨rfl, ⟨_, _, rfl, fun _ _ e => e⟩⟩
    · obtain ⟨c1, c2, u1, u2, hb1, hb2, hv⟩ := hv
      have hv2 := Array.mk.inj hv
      injection hv2 with ea eb
      injection eb with eb _
      subst ea eb
      exact helt A' E' i c1 c2 u1 u2 s₂ m₂ _ code hA hd hb1 hb2 (Nat.le_trans hsz1 hge) hn hma hmb (keepAt s₂ hk)
  · intro a h₅ tk gs hgb hag hsz₅ hk₅ W hat
    have e : (passing (fun _ => true) b1.size 0).length = b1.size := by rw [passing_all, List.length_range]
    rw [e] at W
    have W' := WalksS.imp (P' := fun j y => j < b1.size ∧ F j y) W (by
      rintro j v ⟨i, hi, hF⟩
      rw [passing_all] at hi
      obtain ⟨hj, e⟩ := List.getElem?_eq_some_iff.mp hi
      rw [List.getElem_range] at e
      subst e
      exact ⟨by simpa using hj, hF⟩)
    have hge' : s₁.heap.objs.size ≤ h₃.objs.size := hge
    have hag' : h₃.objs.size < a := hag
    refine hQ a _ ⟨fun b o hb e => hk₅ b o (up3 b o (fun q => hb (by rw [q]; exact .head _)) (up1 _ _ e)), T₃.keeps hk₅, ?_, ⟨by show s₁.os = s.os; rw [e₁], fun hb => (show AllBare s₁.gens by rw [e₁]; exact hb).push hgb⟩⟩ ⟨_, _, _, _, W', hat, (fun i s' st => ⟨_, st.1⟩), List.mem_cons_self, ?_, ?_, ?_⟩
    · show s.heap.objs.size ≤ h₅.objs.size
      omega
    · intro b hb
      show b < h₅.objs.size
      rw [hsz₅]
      rcases List.mem_cons.mp hb with rfl | hb
      · exact Nat.lt_succ_self _
      · rcases List.mem_cons.mp hb with rfl | hb
        · exact Nat.lt_succ_of_lt hag
        · exact Nat.lt_succ_of_lt (Nat.lt_trans (List.mem_range.mp hb) hag)
    · intro b hb
      rcases List.mem_cons.mp hb with rfl | hb
      · exact Nat.le_trans hsz1 hge'
      · exact wrlo b hb
    · intro x y hG hb
      exact GenOnlyQ.bare hG hb
end
end JA
end
section
open PySem PySem.W PyProof.Rows PySem.Calls
namespace JA
set_option maxRecDepth 100000

section
variable {g h h' : Heap} {L : Addr} {m m' : Str → Option Value} {mu mu' : List (Addr × Obj)}
theorem Act.turn {a : Addr} {o o' : Obj} (X : Act g L h m mu) (U : Put a o o' mu mu') (off : Off [a] h h') (ho : h'.get? a = some o') : Act g L h' m mu' := by
  have A := X.mus _ U.mem
  have ne : ∀ b, b ≠ a → b ∉ [a] := fun b hb q => hb (List.mem_singleton.mp q)
  refine ⟨X.ns.at' fun o e => off L o (ne L (Ne.symm A.2.1)) e, fun b x e => off b x (ne b fun q => ?_) (X.keep b x e), X.off, fun p hp => ?_, by rw [U.addrs]; exact X.nd⟩
  · have := A.2.2; rw [q] at e; rw [this] at e; cases e
  · rcases U.of X.nd p hp with rfl | ⟨h1, h2⟩
    · exact ⟨ho, A.2⟩
    · exact ⟨off _ _ (ne _ h2) (X.mus p h1).1, (X.mus p h1).2⟩
/-- behind a generator's making and its run -/
theorem Act.gen {P c : Addr} {ps : Array Value} {s s₁ s₂ : Shared} (X : Act g L s.heap m mu) (M : Made P c s s₁) (N : Ran s.heap.objs.size s₁ s₂) (hc : g.get? c ≠ none) (hP : (P, tabObj ps) ∈ mu) :
    (∃ ps', ∀ mu', Put P (tabObj ps) (tabObj ps') mu mu' → Act g L s₂.heap m mu') ∧ Tab s₂.heap c P ∧ Fin s s₂ ∧ Off [P] s.heap s₂.heap := by
  have off : Off [P] s.heap s₂.heap := fun b o hb e => N.heap b o (Heap.lt_size e) (M.off b o hb e)
  have hPl : P < s.heap.objs.size := Heap.lt_size (X.mus _ hP).1
  obtain ⟨oc, hoc⟩ : ∃ oc, g.get? c = some oc := Option.ne_none_iff_exists'.mp hc
  have hcP : c ≠ P := fun e => by rw [e, (X.mus _ hP).2.2] at hoc; cases hoc
  have hcl : c < s.heap.objs.size := Heap.lt_size (X.keep _ _ hoc)
  have T : Tab s₂.heap c P := M.tab.at (fun o e => N.heap c o hcl e) (fun o e => N.heap P o hPl e)
  refine ⟨?_, T, M.fin.trans N.fin, off⟩
  obtain ⟨ps', hps'⟩ := T.obj
  exact ⟨ps', fun mu' U => X.turn U off hps'⟩

theorem Act.low (X : Act g L h m mu) {lo : Nat} (hlo : h.objs.size ≤ lo) (k : ∀ b o, b < lo → h.get? b = some o → h'.get? b = some o) : Act g L h' m mu :=
  X.grow fun b o e => k b o (Nat.lt_of_lt_of_le (Heap.lt_size e) hlo) e
/-- a new object that may turn -/
theorem Act.add (X : Act g L h m mu) {a : Addr} {o : Obj} (k : Stays h h') (ha : h.objs.size ≤ a) (ho : h'.get? a = some o) : Act g L h' m ((a, o) :: mu) := by
  have fresh : ∀ b o', h.get? b = some o' → b ≠ a := fun b o' e => Nat.ne_of_lt (Nat.lt_of_lt_of_le (Heap.lt_size e) ha)
  have Y := X.grow k
  refine ⟨Y.ns, Y.keep, Y.off, fun p hp => ?_, ?_⟩
  · rcases List.mem_cons.mp hp with rfl | hp
    · refine ⟨ho, Nat.ne_of_gt (Nat.lt_of_lt_of_le X.ltL ha), ?_⟩
      cases q : g.get? a with
      | none => rfl
      | some o' => exact absurd rfl (fresh _ _ (X.keep _ _ q))
    · exact Y.mus p hp
  · refine List.nodup_cons.mpr ⟨fun hm => ?_, X.nd⟩
    obtain ⟨p, hp, e⟩ := List.mem_map.mp hm
    exact fresh _ _ (X.mus p hp).1 e
/-- an object of the list left out -/
theorem Act.drop {p : Addr × Obj} (X : Act g L h m (p :: mu)) : Act g L h m mu := ⟨X.ns, X.keep, X.off, fun q hq => X.mus q (.tail _ hq), (List.nodup_cons.mp X.nd).2⟩
end

section
variable {prog : Program} {w : World} {A : Around} {E : Value → Shared → Prop} {s s₀ : Shared} {g : Heap} {L : Addr} {m : Str → Option Value} {mu : List (Addr × Obj)} {env : Env} {x : Str} {v : Value}
theorem js_cell {M : Model} {c : Addr} {o : Obj} {v₀ : Option Value} {mu' : Obj → List (Addr × Obj)} {Q : Unit → Shared → Prop} (X : Act g L s.heap m mu) (S : Same s₀ s) (hk : env.scope.kind = .function) (hx : env.kindOf x = some .cell) (hc : env.cells.lookup x = some c)
    (U : ∀ o', Put c o o' mu (mu' o')) (hd : o.data = .cell v₀)
    (h : ∀ s' o', Same s₀ s' → o'.data = .cell (some v) → Act g L s'.heap m (mu' o') → Q () s') : wpAny M A (storeName env x v) Q E s := by
  refine wpAny_storeName_cell hk hx hc ⟨o, (X.mus _ (U o).mem).1, hd⟩ fun h' hv hs => ?_
  obtain ⟨o', ho', hd'⟩ := hv
  exact h _ o' (S.trans ⟨rfl, rfl, rfl⟩) hd' (X.put (U o') hs ho')
theorem cell_of {c : Addr} {o : Obj} (X : Act g L s.heap m mu) (hm : (c, o) ∈ mu) (hd : o.data = .cell (some v)) : s.heap.IsCell c (some v) := ⟨o, X.get hm, hd⟩

theorem cells_addr_nodup {cm : Str → Option Value} : ∀ {cs : List (Str × Addr)} {cells : List (Addr × Obj)}, CellsAre cm cs cells → cells.map (·.1) = cs.map (·.2)
  | _, _, .nil => rfl
  | _, _, .cons _ r => by rw [List.map_cons, List.map_cons, cells_addr_nodup r]

theorem enterC {R : Result → Shared → Prop} {name qual : Str} {params : Arguments} {body : List Stmt} {scope : Scope} {dV kV doc pm cdv ct oc : Value} {an od : Option Addr} {osl : Array (Option Value)} {f : Addr} {args : Args} {binds : List (Str × Value)}
    (W : Wd w g) (hk : Stays g s.heap) (hmu : ∀ p ∈ mu, s.heap.get? p.1 = some p.2 ∧ g.get? p.1 = none) (hnd : (mu.map (·.1)).Nodup)
    (ho : (JA.hd.heap_1 w.params).lookup f = some ⟨oc, od, .func (fnOf name qual params body scope dV kV doc pm an cdv ct), osl⟩) (hcd : codeIn (JA.hd.heap_1 w.params) cdv qual = true) (hroom : A.depth < recursionLimit)
    (hbind : BindsTo s (fnOf name qual params body scope dV kV doc pm an cdv ct) args binds)
    (hkind : ∀ n, ∀ x ∈ binds, scope.names.lookup x.1 = some .local ∨ (scope.names.lookup x.1 = some .cell ∧ ((cellsFrom n scope.names []).lookup x.1).isSome = true))
    (hnc : ((cellsFrom 0 scope.names []).map (·.1)).Nodup)
    (h : ∀ g₁ h₁ tk cells, Wd w g₁ → Stays g g₁ → Stays g₁ s.heap → (∀ b o, s.heap.get? b = some o → b ∉ mu.map (·.1) → g₁.get? b = some o) → Stays s.heap h₁ →
      CellsAre (bindC (envOfC qual scope s.heap.objs.size f cdv).kindOf binds fun _ => none) (cellsFrom (s.heap.objs.size + 1) scope.names []) cells →
      Act g₁ s.heap.objs.size h₁ (bindL (envOfC qual scope s.heap.objs.size f cdv).kindOf binds fun _ => none) (cells ++ mu) →
      wpAny (model prog w) (A.deeper (envOfC qual scope s.heap.objs.size f cdv)) (execs body (envOfC qual scope s.heap.objs.size f cdv))
        (fun fl s' => R (.ok (.ret (match fl with | .ret v => v | _ => .none))) s')
        (fun e s' => wpAny (model prog w) (A.deeper (envOfC qual scope s.heap.objs.size f cdv)) (leaving (envOfC qual scope s.heap.objs.size f cdv) e) (fun _ s'' => R (.error e) s'') (fun e' s'' => R (.error e') s'') s')
        { s with heap := h₁, toks := tk })
    (hco : scope.isCoroutine = false) (hgen : scope.isGenerator = false) (hkf : scope.kind = .function) : codeAny (model prog w) A (.call (.ref f) args) R s := by
  have X : (JA.hd.heap_1 w.params).In s.heap := Frag.In.keeps W.K hk
  refine codeAny_call_function hroom (X _ _ ho) rfl hco hgen rfl (codeRec_of X hcd) (hbind _ _ _ _ ?_)
  refine wpAny_newFunctionEnv_cells hkf (hkind _) fun env' he s' x => ?_
  subst he
  refine ⟨(W.nolimit.keeps hk).keeps x.toInCall.keep, codeAny_func ?_⟩
  obtain ⟨h₁, tk, rfl, _⟩ := x.done
  have hk₁ := x.toInCall.keep
  obtain ⟨cells, NC, Y⟩ := Cl.news (h₀ := s.heap) (Nat.le_refl _) fun n c hm => ⟨x.cell n c (lookup_of_mem_nodup (cellsFrom_names scope.names 0 (s.heap.objs.size + 1) [] [] rfl ▸ hnc) hm), x.above n c hm⟩
  have gm : ∀ b o, g.get? b = some o → b ∉ mu.map (·.1) := fun b o e q => by
    obtain ⟨p, hp, rfl⟩ := List.mem_map.mp q
    rw [(hmu p hp).2] at e; cases e
  have gs : Stays g (hideAll s.heap (mu.map (·.1))) := fun b o e => hideAll_get _ (hk b o e) (gm b o e)
  refine h (hideAll s.heap (mu.map (·.1))) h₁ tk cells (W.keeps gs) gs (hideAll_stays _ _) (fun b o e hb => hideAll_get _ e hb) hk₁ Y ⟨x.toInCall.ns, fun b o e => hk₁ b o (of_hideAll _ e), ?_, fun p hp => ?_, ?_⟩
  · cases q : (hideAll s.heap (mu.map (·.1))).get? s.heap.objs.size with
    | none => rfl
    | some o => exact absurd (Heap.lt_size (of_hideAll _ q)) (Nat.lt_irrefl _)
  · rcases List.mem_append.mp hp with hp | hp
    · refine ⟨(NC p hp).1, (NC p hp).2.1, ?_⟩
      cases q : (hideAll s.heap (mu.map (·.1))).get? p.1 with
      | none => rfl
      | some o => have := of_hideAll _ q; rw [(NC p hp).2.2] at this; cases this
    · exact ⟨hk₁ _ _ (hmu p hp).1, Nat.ne_of_lt (Heap.lt_size (hmu p hp).1), hideAll_none _ (List.mem_map_of_mem hp)⟩
  · rw [List.map_append]
    refine List.nodup_append.mpr ⟨?_, hnd, ?_⟩
    · rw [cells_addr_nodup Y]
      exact List.pairwise_map.mpr x.apart
    · intro a ha b hb e
      subst e
      obtain ⟨p, hp, rfl⟩ := List.mem_map.mp ha
      obtain ⟨q, hq, e⟩ := List.mem_map.mp hb
      have h1 := (NC p hp).2.2
      rw [← e, (hmu q hq).1] at h1
      cases h1

/-- a call of a function that stands in the base, with its closure -/
theorem enterX {R : Result → Shared → Prop} {name qual : Str} {params : Arguments} {body : List Stmt} {scope : Scope} {cl : List (Str × Addr)} {dV kV doc pm cdv ct : Value} {an : Option Addr} {fo : Obj} {f : Addr} {args : Args} {binds : List (Str × Value)}
    (W : Wd w g) (hk : Stays g s.heap) (hmu : ∀ p ∈ mu, s.heap.get? p.1 = some p.2 ∧ g.get? p.1 = none) (hnd : (mu.map (·.1)).Nodup)
    (ho : s.heap.get? f = some fo) (hd : fo.data = .func (fnX name qual params body scope cl dV kV doc pm an cdv ct)) (hcd : s.heap.CodeRec cdv qual) (hroom : A.depth < recursionLimit)
    (hbind : BindsTo s (fnX name qual params body scope cl dV kV doc pm an cdv ct) args binds) (hloc : ∀ y ∈ binds, scope.names.lookup y.1 = some .local)
    (hcell : ∀ x ∈ scope.names, x.2 ≠ .cell)
    (h : ∀ g₁ h₁, Wd w g₁ → Stays g g₁ → Stays g₁ s.heap → (∀ b o, s.heap.get? b = some o → b ∉ mu.map (·.1) → g₁.get? b = some o) → Stays s.heap h₁ → Act g₁ s.heap.objs.size h₁ (fun y => binds.reverse.lookup y) mu →
      wpAny (model prog w) (A.deeper (envX qual scope s.heap.objs.size f cdv cl)) (execs body (envX qual scope s.heap.objs.size f cdv cl))
        (fun fl s' => R (.ok (.ret (match fl with | .ret v => v | _ => .none))) s')
        (fun e s' => wpAny (model prog w) (A.deeper (envX qual scope s.heap.objs.size f cdv cl)) (leaving (envX qual scope s.heap.objs.size f cdv cl) e) (fun _ s'' => R (.error e) s'') (fun e' s'' => R (.error e') s'') s')
        { s with heap := h₁, toks := s.toks + binds.length })
    (hco : scope.isCoroutine = false) (hgen : scope.isGenerator = false) (hkf : scope.kind = .function) : codeAny (model prog w) A (.call (.ref f) args) R s := by
  refine codeAny_call_def (fd := fnX name qual params body scope cl dV kV doc pm an cdv ct) (body := body) (binds := binds) hroom ho hd (W.nolimit.keeps hk) hcd rfl hbind hcell hloc (fun h₁ hns hk₁ => ?_) hco hgen hkf
  have gm : ∀ b o, g.get? b = some o → b ∉ mu.map (·.1) := fun b o e q => by
    obtain ⟨p, hp, rfl⟩ := List.mem_map.mp q
    rw [(hmu p hp).2] at e; cases e
  have gs : Stays g (hideAll s.heap (mu.map (·.1))) := fun b o e => hideAll_get _ (hk b o e) (gm b o e)
  refine h (hideAll s.heap (mu.map (·.1))) h₁ (W.keeps gs) gs (hideAll_stays _ _) (fun b o e hb => hideAll_get _ e hb) hk₁ ⟨hns, fun b o e => hk₁ b o (of_hideAll _ e), ?_, fun p hp => ⟨hk₁ _ _ (hmu p hp).1, Nat.ne_of_lt (Heap.lt_size (hmu p hp).1), hideAll_none _ (List.mem_map.mpr ⟨p, hp, rfl⟩)⟩, hnd⟩
  cases q : (hideAll s.heap (mu.map (·.1))).get? s.heap.objs.size with
  | none => rfl
  | some o => exact absurd (Heap.lt_size (of_hideAll _ q)) (Nat.lt_irrefl _)
end
end JA
end
section
open PySem PySem.W PyProof.Rows PySem.Calls
namespace JA
set_option maxRecDepth 100000
section
variable {prog : Program} {w : World} {A : Around} {E : Value → Shared → Prop} {s : Shared} {g : Heap} {L : Addr} {m : Str → Option Value} {mu : List (Addr × Obj)}
theorem Act.inGen {h h' : Heap} {P C : Addr} {ps : Array Value} {m₂ : Str → Option Value} (X : Act g L h m mu) (mu₂ : List (Addr × Obj)) (e : mu = mu₂ ++ [(P, tabObj ps)]) (off : Off [P] h h') (hC : h.objs.size ≤ C) (hn : h'.Ns C m₂) : Act g C h' m₂ mu₂ := by
  subst e
  have hP : (P, tabObj ps) ∈ mu₂ ++ [(P, tabObj ps)] := List.mem_append_right _ (.head _)
  have nd := X.nd
  rw [List.map_append] at nd
  have nd' := List.nodup_append.mp nd
  have ne : ∀ b, b ≠ P → b ∉ [P] := fun b hb q => hb (List.mem_singleton.mp q)
  refine ⟨hn, fun b o e => off b o (ne b fun q => ?_) (X.keep b o e), ?_, fun p hp => ?_, nd'.1⟩
  · have := (X.mus _ hP).2.2
    dsimp only at this
    rw [q, this] at e; cases e
  · cases q : g.get? C with
    | none => rfl
    | some o => exact absurd (Heap.lt_size (X.keep _ _ q)) (Nat.not_lt.mpr hC)
  · have Y := X.mus p (List.mem_append_left _ hp)
    refine ⟨off _ _ (ne _ fun q => ?_) Y.1, fun q => ?_, Y.2.2⟩
    · exact nd'.2.2 p.1 (List.mem_map_of_mem hp) P (by simp) q
    · rw [q] at Y
      exact absurd (Heap.lt_size Y.1) (Nat.not_lt.mpr hC)

/-- an element is made, and the state has but grown -/
structure EltOk (F : Value → Prop) (s₂ : Shared) (y : Value) (s₃ : Shared) : Prop where
  val : F y
  keep : Keeps s₂ s₃
theorem Keeps.same {a b : Shared} (x : Keeps a b) : Same a b := by
  obtain ⟨h1, t1, rfl, _⟩ := x
  exact ⟨rfl, rfl, rfl⟩
theorem Keeps.stays {a b : Shared} (x : Keeps a b) : Stays a.heap b.heap := by
  obtain ⟨h1, t1, rfl, k⟩ := x
  exact k
theorem jx {a : Addr} {x : Int} {b : Array UInt8} {expr : Bool} {Q : Value → Shared → Prop} (hW : Wd w g) (X : Act g L s.heap m mu) (hS : IsShare g a x b) (hroom : A.depth < 799)
    (h : ∀ s' t, Grow s s' → Same s s' → Act g L s'.heap m mu → Q (.int x t) s') : wpAny (model prog w) A (getAttr (.ref a) "x" expr) Q E s :=
  share_x hW X.keep hS hroom fun s' t K => h s' t K (JA.Keeps.same K.keep) (X.grow (JA.Keeps.stays K.keep))
theorem jdata {a : Addr} {x : Int} {b : Array UInt8} {expr : Bool} {Q : Value → Shared → Prop} (hW : Wd w g) (X : Act g L s.heap m mu) (hS : IsShare g a x b) (hroom : A.depth < 799)
    (h : ∀ s' t, Grow s s' → Same s s' → Act g L s'.heap m mu → Q (.bytes b t) s') : wpAny (model prog w) A (getAttr (.ref a) "data" expr) Q E s :=
  share_data hW X.keep hS hroom fun s' t K => h s' t K (JA.Keeps.same K.keep) (X.grow (JA.Keeps.stays K.keep))

theorem jgen {env : Env} {elt iter : Expr} {x : Str} {px : Pos} {scope : Scope} {cl : List (Str × Addr)} {pos : Pos} {l c P : Addr} {items : Array Value} {ps : Array Value} {Q : Value → Shared → Prop}
    (F : Nat → Value → Prop) (mu₂ : List (Addr × Obj)) (hW : Wd w g) (X : Act g L s.heap m mu) (e : mu = mu₂ ++ [(P, tabObj ps)]) (hg : env.globals = mainGlobals)
    (hh : A.handled = none) (hco : scope.isCoroutine = false) (hclos : closureFor scope env = pure cl) (hcell : ∀ y ∈ scope.names, y.2 ≠ .cell) (h0 : scope.names.lookup (".0" : Str) = some NameKind.local)
    (hx : scope.names.lookup x = some .local) (hkind : scope.kind = .function) (hroom : A.depth < recursionLimit) (hs : ∀ x, genFold iter env x = pure x)
    (hcode : env.code = .ref c) (T : Tab s.heap c P) (hP : P ≠ cStatics)
    (hit : ∀ (Q' : Value → Shared → Prop), Q' (.ref l) s → wpAny (model prog w) A (eval iter env) Q' E s) (hl : g.IsList l items)
    (helt : ∀ (A' : Around) E' i v (s₂ : Shared) m₂ C code, A'.handled = none → A'.depth ≤ A.depth + 1 → items[i]? = some v → m₂ x = some v → Act g C s₂.heap m₂ mu₂ →
      wpAny (model prog w) A' (eval elt (genEnv scope cl C code builtinsNs env)) (fun y s₃ => EltOk (F i) s₂ y s₃) E' s₂)
    (hQ : ∀ a s', Made P c s s' → GenR prog w A a items.size (fun j y => j < items.size ∧ F j y) s.heap.objs.size s' → Q (.ref a) s') :
    wpAny (model prog w) A (eval (.GeneratorExp elt [⟨.Name x px, iter, [], 0⟩] scope pos) env) Q E s := by
  obtain ⟨mg, bm, om, G, hbm, hbne, hom, homc, homd, homp⟩ := hW.mod
  exact gen_list F hh hco hclos hcell h0 hx hkind hroom hs hcode T (hW.nolimit.keeps X.keep) hP (by rw [hg]; exact G.keeps X.keep) hbm hbne (X.keep _ _ hom) homc homd homp hit (let ⟨o, e, r⟩ := hl; ⟨o, X.keep _ _ e, r⟩)
    (fun A' E' i v s₂ m₂ C code hA hd hv hC hn hm off => wpAny_mono (helt A' E' i v s₂ m₂ C code hA hd hv hm (X.inGen mu₂ e off hC hn)) (fun _ _ h => ⟨h.val, h.keep⟩) fun _ _ h => h) hQ

theorem jgenz {env : Env} {elt iter : Expr} {xa xb : Str} {pa pb pt : Pos} {kt : Nat} {scope : Scope} {cl : List (Str × Addr)} {pos : Pos} {c P : Addr} {b1 b2 : Array UInt8} {ps : Array Value} {Q : Value → Shared → Prop}
    (F : Nat → Value → Prop) (mu₂ : List (Addr × Obj)) (hW : Wd w g) (X : Act g L s.heap m mu) (e : mu = mu₂ ++ [(P, tabObj ps)]) (hg : env.globals = mainGlobals) (hsize : b1.size = b2.size)
    (hh : A.handled = none) (hco : scope.isCoroutine = false) (hclos : closureFor scope env = pure cl) (hcell : ∀ y ∈ scope.names, y.2 ≠ .cell) (h0 : scope.names.lookup (".0" : Str) = some NameKind.local)
    (hxa : scope.names.lookup xa = some .local) (hxb : scope.names.lookup xb = some .local) (hab : xa ≠ xb) (hkind : scope.kind = .function) (hroom : A.depth < recursionLimit) (hs : ∀ x, genFold iter env x = pure x)
    (hcode : env.code = .ref c) (T : Tab s.heap c P) (hP : P ≠ cStatics)
    (hit : ∀ (Q' : Value → Shared → Prop), (∀ z TI TO i1 i2 t1 t2 s₁, ZipAt b1 b2 s s₁ z TI TO i1 i2 t1 t2 → Q' (.ref z) s₁) → wpAny (model prog w) A (eval iter env) Q' E s)
    (helt : ∀ (A' : Around) E' i c1 c2 u1 u2 (s₂ : Shared) m₂ C code, A'.handled = none → A'.depth ≤ A.depth + 1 → b1[i]? = some c1 → b2[i]? = some c2 → m₂ xa = some (.int c1.toNat u1) → m₂ xb = some (.int c2.toNat u2) → Act g C s₂.heap m₂ mu₂ →
      wpAny (model prog w) A' (eval elt (genEnv scope cl C code builtinsNs env)) (fun y s₃ => EltOk (F i) s₂ y s₃) E' s₂)
    (hQ : ∀ a s', Made P c s s' → GenR prog w A a b1.size (fun j y => j < b1.size ∧ F j y) s.heap.objs.size s' → Q (.ref a) s') :
    wpAny (model prog w) A (eval (.GeneratorExp elt [⟨.Tuple [.Name xa pa, .Name xb pb] kt pt, iter, [], 0⟩] scope pos) env) Q E s := by
  obtain ⟨mg, bm, om, G, hbm, hbne, hom, homc, homd, homp⟩ := hW.mod
  exact gen_zip F hsize hh hco hclos hcell h0 hxa hxb hab hkind hroom hs hcode T (hW.nolimit.keeps X.keep) hP (by rw [hg]; exact G.keeps X.keep) hbm hbne (X.keep _ _ hom) homc homd homp hit
    (fun A' E' i c1 c2 u1 u2 s₂ m₂ C code hA hd hv hv2 hC hn hma hmb off => wpAny_mono (helt A' E' i c1 c2 u1 u2 s₂ m₂ C code hA hd hv hv2 hma hmb (X.inGen mu₂ e off hC hn)) (fun _ _ h => ⟨h.val, h.keep⟩) fun _ _ h => h) hQ
end
end JA
end
section
open PySem PySem.W PyProof.Rows PySem.Calls
namespace JA
set_option maxRecDepth 100000

/-- the code object alone, without its table -/
noncomputable def CodeOf (g : Heap) (c P : Addr) : Prop :=
  (∃ o vs file tf flags tg inF text tt, g.get? c = some o ∧ o.data = .fields vs ∧ vs.getD 11 .none = .ref P ∧ vs.getD 18 .none = .str file tf ∧
    vs.getD 7 .none = .int flags tg ∧ vs.getD 9 .none = .bool inF ∧ vs.getD 10 .none = .int text tt ∧ c ≠ P) ∧ (∃ o vs, g.get? c = some o ∧ o.cls = .type "code" ∧ o.data = .fields vs ∧ vs[11]? = some (.ref P))
theorem CodeOf.keeps {g h : Heap} {c P : Addr} (C : CodeOf g c P) (k : Stays g h) : CodeOf h c P := by
  obtain ⟨o, _, a, _⟩ := C.2
  have e : h.get? c = g.get? c := (k _ _ a).trans a.symm
  unfold CodeOf at C ⊢
  rw [e]
  exact C
theorem Tab.codeOf {g h : Heap} {c P : Addr} (T : Tab h c P) (k : Stays g h) (hc : g.get? c ≠ none) : CodeOf g c P := by
  obtain ⟨oc, hoc⟩ := Option.ne_none_iff_exists'.mp hc
  have hoc' := k _ _ hoc
  obtain ⟨ps, ⟨o, vs, file, tf, flags, tg, inF, text, tt, op, a, r1, r2, r3, r4, r5, r6, b, r7, r8, r9⟩, ⟨⟨o', vs', a', r'⟩, t⟩⟩ := T
  rw [hoc'] at a a'
  cases a; cases a'
  exact ⟨⟨oc, vs, file, tf, flags, tg, inF, text, tt, hoc, r1, r2, r3, r4, r5, r6, r9⟩, ⟨oc, vs', hoc, r'⟩⟩
theorem Tab.ok {h : Heap} {c P : Addr} {ps : Array Value} (T : Tab h c P) (e : h.get? P = some (tabObj ps)) : TriplesOk ps.toList := by
  obtain ⟨ps', ⟨o, vs, file, tf, flags, tg, inF, text, tt, op, a, r1, r2, r3, r4, r5, r6, b, r7, r8, r9⟩, ⟨_, t⟩⟩ := T
  rw [e] at b
  cases b
  injection r7 with r7
  subst r7
  exact r8
theorem tab_of' {h : Heap} {c P : Addr} {ps : Array Value} (C : CodeOf h c P) (e : h.get? P = some (tabObj ps)) (ok : TriplesOk ps.toList) : Tab h c P := by
  obtain ⟨⟨o, vs, file, tf, flags, tg, inF, text, tt, a, r1, r2, r3, r4, r5, r6, r7⟩, C2⟩ := C
  exact ⟨ps, ⟨o, vs, file, tf, flags, tg, inF, text, tt, tabObj ps, a, r1, r2, r3, r4, r5, r6, e, rfl, ok, r7⟩, ⟨C2, e⟩⟩

section
variable {g h h' : Heap} {L : Addr} {m m' : Str → Option Value} {mu mu' : List (Addr × Obj)}
theorem Act.tab {c P : Addr} {ps : Array Value} (X : Act g L h m mu) (hm : (P, tabObj ps) ∈ mu) (C : CodeOf g c P) (ok : TriplesOk ps.toList) : Tab h c P := tab_of' (C.keeps X.keep) (X.get hm) ok

theorem Act.losing {I : Addr} {o : Obj} (X : Act g L h m ((I, o) :: mu)) (off : Off [I] h h') : Act g L h' m mu := by
  have ne : ∀ b, b ≠ I → b ∉ [I] := fun b hb q => hb (List.mem_singleton.mp q)
  have A := X.mus _ (.head _)
  refine ⟨X.ns.at' fun o e => off L o (ne L (Ne.symm A.2.1)) e, fun b x e => off b x (ne b fun q => ?_) (X.keep b x e), X.off, fun p hp => ?_, (List.nodup_cons.mp X.nd).2⟩
  · have := A.2.2; rw [q] at e; rw [this] at e; cases e
  · have Y := X.mus p (.tail _ hp)
    refine ⟨off _ _ (ne _ fun q => ?_) Y.1, Y.2⟩
    exact (List.nodup_cons.mp X.nd).1 (List.mem_map.mpr ⟨p, hp, q⟩)

/-- behind a generator's making and its run -/
theorem Act.genT {P c : Addr} {ps : Array Value} {s s₁ s₂ : Shared} (X : Act g L s.heap m mu) (M : Made P c s s₁) (N : Ran s.heap.objs.size s₁ s₂) (hc : CodeOf g c P) (hP : (P, tabObj ps) ∈ mu) :
    ∃ ps', TriplesOk ps'.toList ∧ Fin s s₂ ∧ (∀ mu', Put P (tabObj ps) (tabObj ps') mu mu' → Act g L s₂.heap m mu') ∧
      (∀ S o mu', s.heap.objs.size ≤ S → s₂.heap.get? S = some o → Put P (tabObj ps) (tabObj ps') mu mu' → Act g L s₂.heap m ((S, o) :: mu')) := by
  have off : Off [P] s.heap s₂.heap := fun b o hb e => N.heap b o (Heap.lt_size e) (M.off b o hb e)
  have hPl : P < s.heap.objs.size := Heap.lt_size (X.mus _ hP).1
  obtain ⟨⟨oc, _, _, _, _, _, _, _, _, hoc, _⟩, _⟩ := hc
  have hcP : c ≠ P := fun e => by rw [e, (X.mus _ hP).2.2] at hoc; cases hoc
  have hcl : c < s.heap.objs.size := Heap.lt_size (X.keep _ _ hoc)
  have T : Tab s₂.heap c P := M.tab.at (fun o e => N.heap c o hcl e) (fun o e => N.heap P o hPl e)
  obtain ⟨ps', hps'⟩ := T.obj
  refine ⟨ps', T.ok hps', M.fin.trans N.fin, fun mu' U => X.turn U off hps', fun S o mu' hS ho U => ?_⟩
  have Y := X.turn U off hps'
  have fresh : ∀ b o', s.heap.get? b = some o' → b ≠ S := fun b o' e => Nat.ne_of_lt (Nat.lt_of_lt_of_le (Heap.lt_size e) hS)
  refine ⟨Y.ns, Y.keep, Y.off, fun p hp => ?_, ?_⟩
  · rcases List.mem_cons.mp hp with rfl | hp
    · refine ⟨ho, Nat.ne_of_gt (Nat.lt_of_lt_of_le X.ltL hS), ?_⟩
      cases q : g.get? S with
      | none => rfl
      | some o' => exact absurd rfl (fresh _ _ (X.keep _ _ q))
    · exact Y.mus p hp
  · refine List.nodup_cons.mpr ⟨fun hm => ?_, Y.nd⟩
    rw [U.addrs] at hm
    obtain ⟨p, hp, e⟩ := List.mem_map.mp hm
    exact fresh _ _ (X.mus p hp).1 e
end

theorem gen_done {g : Heap} {L : Addr} {m : Str → Option Value} {mu : List (Addr × Obj)} {P c : Addr} {ps : Array Value} {s s₁ s₂ : Shared} (M : Made P c s s₁) (N : Ran s.heap.objs.size s₁ s₂) (X : Act g L s.heap m mu) (hc : CodeOf g c P) (hP : (P, tabObj ps) ∈ mu) :
    ∃ ps', TriplesOk ps'.toList ∧ Fin s s₂ ∧ (∀ mu', Put P (tabObj ps) (tabObj ps') mu mu' → Act g L s₂.heap m mu') ∧
      (∀ S o mu', s.heap.objs.size ≤ S → s₂.heap.get? S = some o → Put P (tabObj ps) (tabObj ps') mu mu' → Act g L s₂.heap m ((S, o) :: mu')) := X.genT M N hc hP

section
variable {prog : Program} {w : World} {A : Around} {E : Value → Shared → Prop} {s : Shared} {g : Heap} {L : Addr} {env : Env}

/-- the end of a loop's turn -/
inductive NextOk (g : Heap) (L I : Addr) (o : Obj) (J : Nat → Shared → (Str → Option Value) → List (Addr × Obj) → Prop) (i : Nat) (s₃ : Shared) : Prop
  | mk (m' : Str → Option Value) (mu' : List (Addr × Obj)) (X : Act g L s₃.heap m' ((I, o) :: mu')) (j : J (i + 1) s₃ m' mu') : NextOk g L I o J i s₃
/-- a for over an iterator that stands in the list of what may turn -/
theorem for_walk {Q : Flow → Shared → Prop} {x : Str} {px : Pos} {body : List Stmt} {I : Addr} {fp : List Addr} {n : Nat} {P : Nat → Value → Prop} {St : Nat → Heap → Prop}
    (W : Walks prog w A I fp [I] n P St) (hI : ∀ i h, St i h → ∃ o, h.get? I = some o) (hfp : ∀ b ∈ fp, b = I ∨ ∃ o, g.get? b = some o)
    (J : Nat → Shared → (Str → Option Value) → List (Addr × Obj) → Prop) (hJ : ∀ i s s' m mu, J i s m mu → Same s s' → J i s' m mu)
    (turn : ∀ i v o s m mu, i < n → P i v → J i s m mu → Act g L s.heap m ((I, o) :: mu) →
      wpAny (model prog w) A (storeName env x v) (fun _ s₂ => wpAny (model prog w) A (execs body env) (fun f s₃ => match f with
        | .next | .cont => NextOk g L I o J i s₃
        | .brk => Q .next s₃
        | .ret v => Q (.ret v) s₃) (notedBy (model prog w) A env fun e s' => cameBackBy (model prog w) A env E e s') s₂) (notedBy (model prog w) A env fun e s' => cameBackBy (model prog w) A env E e s') s)
    {m₀ : Str → Option Value} {mu₀ : List (Addr × Obj)} {o₀ : Obj} (hX : Act g L s.heap m₀ ((I, o₀) :: mu₀)) (hst : St 0 s.heap) (hJ0 : J 0 s m₀ mu₀)
    (done : ∀ s m mu, J n s m mu → Act g L s.heap m mu → Q .next s) :
    codeAny (model prog w) A (.forLoop (.Name x px) (.ref I) body [] env) (fun r s' => match r with | .ok f => Q f s' | .error e => cameBackBy (model prog w) A env E e s') s := by
  refine codeAny_forLoop_any (fun k s => ∃ i m mu o, i ≤ n ∧ k = n - i ∧ J i s m mu ∧ Act g L s.heap m ((I, o) :: mu) ∧ St i s.heap) ?_ n ⟨0, m₀, mu₀, o₀, Nat.zero_le _, rfl, hJ0, hX, hst⟩
  rintro k s ⟨i, m, mu, o, hi, rfl, hJi, X, st⟩
  have step : ∀ h' i', St i' h' → (∀ b o, b ∉ [I] → s.heap.get? b = some o → h'.get? b = some o) → ∃ o', h'.get? I = some o' ∧ Act g L h' m ((I, o') :: mu) := fun h' i' st' hk => by
    obtain ⟨o', ho'⟩ := hI i' h' st'
    exact ⟨o', ho', X.turn (.head _) hk ho'⟩
  rcases Nat.lt_or_ge i n with hlt | hge
  · refine W.item i s _ _ hlt st fun v h' tk hP st' hk => ?_
    obtain ⟨o', ho', X'⟩ := step h' _ st' hk
    refine wpAny_pure ?_
    refine wpAny_assign_Name ?_
    refine wpAny_mono (turn i v o' { s with heap := h', toks := tk } m mu hlt hP (hJ _ _ _ _ _ hJi ⟨rfl, rfl, rfl⟩) X') (fun _ s₂ h₂ => ?_) fun _ _ e => e
    refine wpAny_mono h₂ (fun f s₃ h₃ => ?_) fun _ _ e => e
    have nx : NextOk g L I o' J i s₃ → ∃ k', k' < n - i ∧ ∃ i m mu o, i ≤ n ∧ k' = n - i ∧ J i s₃ m mu ∧ Act g L s₃.heap m ((I, o) :: mu) ∧ St i s₃.heap := by
      rintro ⟨m', mu', X₃, J₃⟩
      refine ⟨n - (i + 1), by omega, i + 1, m', mu', o', hlt, rfl, J₃, X₃, W.frame _ _ _ st' fun b hb ob e => ?_⟩
      rcases hfp b hb with rfl | ⟨ob', hob⟩
      · rw [ho'] at e; cases e
        exact X₃.get (.head _)
      · have := X'.keep _ _ hob
        rw [e] at this; cases this
        exact X₃.keep _ _ hob
    cases f with
    | next => exact nx h₃
    | cont => exact nx h₃
    | brk => exact h₃
    | ret v => exact h₃
  · have hin : i = n := by omega
    subst hin
    refine W.done s _ _ st fun h' tk hk => ?_
    exact wpAny_pure (done _ m mu (hJ _ _ _ _ _ hJi ⟨rfl, rfl, rfl⟩) (X.losing hk))

/-- for x in l, l a list of the base -/
theorem for_list {Q : Flow → Shared → Prop} {x : Str} {px pos : Pos} {iter : Expr} {body : List Stmt} {l : Addr} {items : Array Value} {m₀ : Str → Option Value} {mu₀ : List (Addr × Obj)}
    (hh : A.handled = none) (X : Act g L s.heap m₀ mu₀) (hl : g.IsList l items)
    (hit : ∀ (Q' : Value → Shared → Prop) E', Q' (.ref l) s → wpAny (model prog w) A (eval iter env) Q' E' s)
    (J : Nat → Shared → (Str → Option Value) → List (Addr × Obj) → Prop) (hJ : ∀ i s s' m mu, J i s m mu → Same s s' → J i s' m mu) (hJ0 : J 0 s m₀ mu₀)
    (turn : ∀ I i v o s m mu, items[i]? = some v → J i s m mu → Act g L s.heap m ((I, o) :: mu) →
      wpAny (model prog w) A (storeName env x v) (fun _ s₂ => wpAny (model prog w) A (execs body env) (fun f s₃ => match f with
        | .next | .cont => NextOk g L I o J i s₃
        | .brk => Q .next s₃
        | .ret v => Q (.ret v) s₃) (notedBy (model prog w) A env fun e s' => cameBackBy (model prog w) A env E e s') s₂) (notedBy (model prog w) A env fun e s' => cameBackBy (model prog w) A env E e s') s)
    (done : ∀ s m mu, J items.size s m mu → Act g L s.heap m mu → Q .next s)
    (hs : ∀ x, foldedSetIterable iter env x = pure x := by intro _; rfl) : wpAny (model prog w) A (exec (.For (.Name x px) iter body [] pos) env) Q E s := by
  refine wpAny_For (hit _ _ ?_) hs
  have hl' : s.heap.IsList l items := let ⟨o, e, r⟩ := hl; ⟨o, X.keep _ _ e, r⟩
  have hlt : l < s.heap.objs.size := by obtain ⟨_, e, _⟩ := hl'; exact Heap.lt_size e
  refine wpAny_pyIter_list hl' ?_
  refine for_walk (g := g) (L := L) (I := s.heap.objs.size) (Walks.list hh s.heap.objs.size l (Nat.ne_of_lt hlt) items) (fun i h st => let ⟨o, e, _⟩ := st.1; ⟨o, e⟩) ?_ J hJ
    (fun i v o s m mu hi hP hJi X => turn _ i v o s m mu hP hJi X) (X.push _) ⟨⟨_, Heap.get?_push_size _ rfl, rfl, rfl⟩, hl'.push _⟩ (hJ _ _ _ _ _ hJ0 ⟨rfl, rfl, rfl⟩) done
  intro b hb
  rcases List.mem_cons.mp hb with rfl | hb
  · exact .inl rfl
  · obtain ⟨o, e, _⟩ := hl
    exact .inr ⟨o, by rw [List.mem_singleton.mp hb]; exact e⟩
end
end JA
end
section
open PySem PySem.W PyProof.Rows PySem.Calls
namespace JA
set_option maxRecDepth 100000
theorem reset_JTab : True := by
  w_top off
  trivial
theorem fill6 : PySem.Challenge.rw_ja0050_01 = PySem.Challenge.rw_ja0050_01 ∧ JA.hd.heap_1 = JA.hd.heap_1 := by
  k_fill
  exact ⟨rfl, rfl⟩
/-- a step of the field: times 3 -/
noncomputable def tri (a : Nat) : Nat := a ^^^ (if 255 < 2 * a then (2 * a) ^^^ 283 else 2 * a)
noncomputable def pows : Nat → Nat → List Nat
  | _, 0 => []
  | a, n + 1 => a :: pows (tri a) n
noncomputable def EXPN : List Nat := pows 1 255
noncomputable def LOGN : List Nat := (List.range 256).map fun x => if x = 0 then 0 else EXPN.findIdx (· == x)
theorem ex_expT : ∃ f : Int → Int, ∀ k : Int, f k = ((EXPN.getD k.toNat 0 : Nat) : Int) := ⟨_, fun _ => rfl⟩
theorem ex_logT : ∃ f : Int → Int, ∀ k : Int, f k = ((LOGN.getD k.toNat 0 : Nat) : Int) := ⟨_, fun _ => rfl⟩
/-- the tables, as functions that do not unfold -/
noncomputable def expT : Int → Int := Classical.choose ex_expT
noncomputable def logT : Int → Int := Classical.choose ex_logT
theorem expT_eq (k : Int) : expT k = ((EXPN.getD k.toNat 0 : Nat) : Int) := Classical.choose_spec ex_expT k
theorem logT_eq (k : Int) : logT k = ((LOGN.getD k.toNat 0 : Nat) : Int) := Classical.choose_spec ex_logT k
noncomputable def intsOf : List Value → Option (List Nat)
  | [] => some []
  | .int n _ :: r => match n, intsOf r with
    | .ofNat k, some ks => some (k :: ks)
    | _, _ => none
  | _ => none
theorem intsOf_at : ∀ {vs : List Value} {ns : List Nat}, intsOf vs = some ns → vs.length = ns.length ∧ ∀ (i n : Nat), ns[i]? = some n → ∃ t, vs[i]? = some (Value.int (n : Int) t)
  | [], ns, h => by cases h; exact ⟨rfl, fun i n e => by simp at e⟩
  | v :: r, ns, h => by
    unfold intsOf at h
    split at h
    · rename_i e; cases e
    · rename_i n t r' e
      cases e
      split at h
      · rename_i k ks hq
        cases h
        obtain ⟨h1, h2⟩ := intsOf_at hq
        refine ⟨by simp [h1], fun i n e => ?_⟩
        cases i with
        | zero => simp at e; subst e; exact ⟨_, rfl⟩
        | succ i => simpa using h2 i n (by simpa using e)
      · cases h
    · cases h
theorem exp_in (w : World) : ∃ vs n, (JA.hd.heap_1 w.params).lookup 151 = some (lst vs n) ∧ intsOf vs = some EXPN := by
  w_on
  refine ⟨_, _, by k_dflt k_is, ?_⟩
  kernel_rfl
theorem log_in (w : World) : ∃ vs n, (JA.hd.heap_1 w.params).lookup 154 = some (lst vs n) ∧ intsOf vs = some LOGN := by
  w_on
  refine ⟨_, _, by k_dflt k_is, ?_⟩
  kernel_rfl
theorem exp_len : EXPN.length = 255 := by decide +kernel
theorem log_len : LOGN.length = 256 := by decide +kernel
theorem exp_range : ∀ n ∈ EXPN, 1 ≤ n ∧ n < 256 := by decide +kernel
theorem log_range : ∀ n ∈ LOGN, n < 255 := by decide +kernel
section
variable {prog : Program} {w : World} {A : Around} {E : Value → Shared → Prop} {s : Shared} {value slice : Expr} {g : Heap}
theorem item_log {k : Int} {u : Tok} {Q : Value → Shared → Prop} (hW : Wd w g) (hk : Stays g s.heap) (h0 : 0 ≤ k) (h1 : k < 256) (h : ∀ t, Q (.int (logT k) t) s)
    (hs : subscripted slice false (.ref 154) (.int k u) = operate [.ref 154, .int k u] (getItem (.ref 154) (.int k u))) : wpAny (model prog w) A (subscriptTail value slice (.ref 154) (.int k u)) Q E s := by
  obtain ⟨vs, n, e, hi⟩ := log_in w
  obtain ⟨h2, h3⟩ := intsOf_at hi
  have hlt : k.toNat < LOGN.length := by rw [log_len]; omega
  obtain ⟨t, ht⟩ := h3 k.toNat _ (List.getElem?_eq_getElem hlt)
  refine item_list (items := vs) ⟨_, hk _ _ (hW.K _ _ e), rfl, _, rfl⟩ h0 (by omega) ht ?_ hs
  have := h t
  rw [logT_eq, List.getD_eq_getElem?_getD, List.getElem?_eq_getElem hlt] at this
  exact this
theorem item_exp {k : Int} {u : Tok} {Q : Value → Shared → Prop} (hW : Wd w g) (hk : Stays g s.heap) (h0 : 0 ≤ k) (h1 : k < 255) (h : ∀ t, Q (.int (expT k) t) s)
    (hs : subscripted slice false (.ref 151) (.int k u) = operate [.ref 151, .int k u] (getItem (.ref 151) (.int k u))) : wpAny (model prog w) A (subscriptTail value slice (.ref 151) (.int k u)) Q E s := by
  obtain ⟨vs, n, e, hi⟩ := exp_in w
  obtain ⟨h2, h3⟩ := intsOf_at hi
  have hlt : k.toNat < EXPN.length := by rw [exp_len]; omega
  obtain ⟨t, ht⟩ := h3 k.toNat _ (List.getElem?_eq_getElem hlt)
  refine item_list (items := vs) ⟨_, hk _ _ (hW.K _ _ e), rfl, _, rfl⟩ h0 (by omega) ht ?_ hs
  have := h t
  rw [expT_eq, List.getD_eq_getElem?_getD, List.getElem?_eq_getElem hlt] at this
  exact this
end
theorem log_rng (k : Int) : 0 ≤ logT k ∧ logT k < 255 := by
  rw [logT_eq]
  refine ⟨by omega, ?_⟩
  rw [List.getD_eq_getElem?_getD]
  cases h : LOGN[k.toNat]? with
  | none => simp
  | some n => have := log_range n (List.mem_of_getElem? h); simp; omega
theorem exp_rng (k : Int) : 0 ≤ expT k ∧ expT k < 256 := by
  rw [expT_eq]
  refine ⟨by omega, ?_⟩
  rw [List.getD_eq_getElem?_getD]
  cases h : EXPN[k.toNat]? with
  | none => simp
  | some n => have := exp_range n (List.mem_of_getElem? h); simp; omega
theorem preSum_bound {val : Nat → Int} {B : Int} (h : ∀ i, 0 ≤ val i ∧ val i < B) : ∀ n : Nat, 0 ≤ preSum val n ∧ preSum val n ≤ B * n
  | 0 => ⟨Int.le_refl _, by simp [preSum]⟩
  | n + 1 => by
    have ih := preSum_bound h n
    have hn := h n
    have e : preSum val (n + 1) = preSum val n + val n := rfl
    have : B * ((n + 1 : Nat) : Int) = B * n + B := by rw [Int.natCast_add, Int.mul_add]; simp
    rw [e, this]
    omega
theorem sum_fit {val : Nat → Int} (h : ∀ i, 0 ≤ val i ∧ val i < 255) {j : Nat} (hj : j < 1000) : InLong (val j) ∧ InLong (preSum val (j + 1)) := by
  have a := h j
  have b := preSum_bound h (j + 1)
  unfold InLong
  have : (255 : Int) * ((j + 1 : Nat) : Int) ≤ 255 * 1000 := by
    apply Int.mul_le_mul_of_nonneg_left _ (by decide)
    omega
  omega
theorem sum_log (f : Nat → Int) {j : Nat} (hj : j < 1000) : InLong (logT (f j)) ∧ InLong (preSum (fun i => logT (f i)) (j + 1)) := sum_fit (val := fun i => logT (f i)) (fun i => log_rng (f i)) hj
theorem fmod_rng (a : Int) {b : Int} (hb : 0 < b) : 0 ≤ a.fmod b ∧ a.fmod b < b := by
  rw [Int.fmod_eq_emod_of_nonneg _ (Int.le_of_lt hb)]
  exact ⟨Int.emod_nonneg _ (by omega), Int.emod_lt_of_pos _ hb⟩
end JA
end
section
open PySem PyProof.Rows
namespace JA
theorem nat_add_xor : ∀ (n x y : Nat), x ≤ n → (x ^^^ y) + 2 * (x &&& y) = x + y
  | 0, x, y, h => by
    have : x = 0 := by omega
    subst this
    simp
  | n + 1, x, y, h => by
    rcases Nat.eq_zero_or_pos x with rfl | hx
    · simp
    · have ih := nat_add_xor n (x / 2) (y / 2) (by omega)
      have h1 : (x ^^^ y) / 2 = x / 2 ^^^ y / 2 := Nat.xor_div_two
      have h2 : (x &&& y) / 2 = x / 2 &&& y / 2 := Nat.and_div_two
      rw [← h1, ← h2] at ih
      have h3 : (x ^^^ y) % 2 = (x % 2) ^^^ (y % 2) := Nat.xor_mod_two_pow (n := 1)
      have h4 : (x &&& y) % 2 = (x % 2) &&& (y % 2) := Nat.and_mod_two_pow (n := 1)
      have h5 : (x % 2 = 0 ∨ x % 2 = 1) ∧ (y % 2 = 0 ∨ y % 2 = 1) := by omega
      clear h1 h2
      generalize (x ^^^ y) = p at *
      generalize (x &&& y) = q at *
      rcases h5 with ⟨a | a, b | b⟩ <;> rw [a, b] at h3 h4
      · have h3' : p % 2 = 0 := h3
        have h4' : q % 2 = 0 := h4
        omega
      · have h3' : p % 2 = 1 := h3
        have h4' : q % 2 = 0 := h4
        omega
      · have h3' : p % 2 = 1 := h3
        have h4' : q % 2 = 0 := h4
        omega
      · have h3' : p % 2 = 0 := h3
        have h4' : q % 2 = 1 := h4
        omega
theorem bx_nat (m n : Nat) : Builtin.bitXor (m : Int) (n : Int) = ((m ^^^ n : Nat) : Int) := by
  rw [bitXor_and, bitAnd_pp (by omega) (by omega)]
  have := nat_add_xor m m n (Nat.le_refl _)
  simp only [Int.toNat_natCast]
  omega
theorem bx_eq {x y : Int} (hx : 0 ≤ x) (hy : 0 ≤ y) : Builtin.bitXor x y = ((x.toNat ^^^ y.toNat : Nat) : Int) := by
  have := bx_nat x.toNat y.toNat
  rwa [Int.toNat_of_nonneg hx, Int.toNat_of_nonneg hy] at this
theorem bx_rng {x y : Int} (hx : 0 ≤ x) (hx1 : x < 256) (hy : 0 ≤ y) (hy1 : y < 256) : 0 ≤ Builtin.bitXor x y ∧ Builtin.bitXor x y < 256 := by
  rw [bx_eq hx hy]
  have : x.toNat ^^^ y.toNat < 2 ^ 8 := Nat.xor_lt_two_pow (by omega) (by omega)
  omega
end JA
end
section
open PySem PySem.W PyProof.Rows PySem.Calls
namespace JA
set_option maxRecDepth 100000
/-- a share as the walk sees it -/
structure Sh where
  a : Addr
  x : Int
  b : Array UInt8

theorem keeps_tok (s : Shared) (n : Nat) : Keeps s { s with toks := n } := ⟨s.heap, n, rfl, fun _ _ e => e⟩
noncomputable def FInt (v : Int) (y : Value) : Prop := ∃ t, y = .int v t
theorem fint_of {v v' : Int} {t : Tok} (e : v = v') : FInt v' (.int v t) := ⟨t, by rw [e]⟩
/-- what is interpolated at x when no share stands there -/
noncomputable def mixv (e y acc : Int) : Int := Builtin.bitXor acc (if y ≠ 0 then expT ((logT y + e).fmod 255) else 0)
noncomputable def byteI (b : Array UInt8) (j : Nat) : Int := ((b.getD j 0).toNat : Int)
noncomputable def stepB (len : Nat) (e : Int) (b r : Array UInt8) : Array UInt8 := octs (fun j => mixv e (byteI b j) (byteI r j)) len
noncomputable def lprod (sh : List Sh) (x : Int) : Int := preSum (fun i => logT (Builtin.bitXor ((sh.map (·.x)).getD i 0) x)) sh.length
noncomputable def lbe (sh : List Sh) (x y : Int) : Int := (lprod sh x - logT (Builtin.bitXor y x) - preSum (fun i => logT (Builtin.bitXor y ((sh.map (·.x)).getD i 0))) sh.length).fmod 255
noncomputable def ipre (sh : List Sh) (x : Int) (len : Nat) : Nat → Array UInt8
  | 0 => Array.replicate len 0
  | i + 1 => match sh[i]? with
    | some c => stepB len (lbe sh x c.x) c.b (ipre sh x len i)
    | none => ipre sh x len i
noncomputable def interpB (sh : List Sh) (x : Int) (len : Nat) : Array UInt8 := ipre sh x len sh.length
theorem ipre_size (sh : List Sh) (x : Int) (len : Nat) : ∀ i, (ipre sh x len i).size = len
  | 0 => by simp [ipre]
  | i + 1 => by
    unfold ipre
    split
    · exact octs_size _ _
    · exact ipre_size sh x len i
theorem byteI_rng (b : Array UInt8) (j : Nat) : 0 ≤ byteI b j ∧ byteI b j < 256 := by
  unfold byteI
  have := (b.getD j 0).toNat_lt
  omega
theorem byteI_of {b : Array UInt8} {j : Nat} {c : UInt8} (h : b[j]? = some c) : byteI b j = (c.toNat : Int) := by
  unfold byteI
  rw [Array.getD_eq_getD_getElem?, h]
  rfl
theorem mixv_rng {e y acc : Int} (h : 0 ≤ acc ∧ acc < 256) : 0 ≤ mixv e y acc ∧ mixv e y acc < 256 := by
  unfold mixv
  have k := exp_rng ((logT y + e).fmod 255)
  split
  · exact bx_rng h.1 h.2 k.1 k.2
  · exact bx_rng h.1 h.2 (by decide) (by decide)
noncomputable def InterpR (sh : List Sh) (x : Int) (len : Nat) (r : Array UInt8) : Prop := (∃ c ∈ sh, c.x = x ∧ r = c.b) ∨ ((∀ c ∈ sh, c.x ≠ x) ∧ r = interpB sh x len)

section
variable {prog : Program} {w : World} {A : Around} {E : Value → Shared → Prop} {s : Shared}
theorem use_sumlog (f : Nat → Int) {a : Addr} {n : Nat} {lo : Nat} {Q : Value → Shared → Prop} (hg : GenR prog w A a n (fun j y => j < n ∧ FInt (logT (f j)) y) lo s) (hn : n ≤ 900)
    (hQ : ∀ s' t', Ran lo s s' → Q (.int (preSum (fun i => logT (f i)) n) t') s') : wpAny (model prog w) A (call (.builtin "sum") [.ref a]) Q E s :=
  use_sum hg (val := fun i => logT (f i)) (fun i v h => h.2) (fun j hj => sum_log f (by omega)) hQ
theorem use_setI (f : Nat → Int) {a : Addr} {n : Nat} {lo : Nat} {Q : Value → Shared → Prop} (hg : GenR prog w A a n (fun j y => j < n ∧ FInt (f j) y) lo s) (hn : n ≤ 900) (hlo : lo ≤ s.heap.objs.size)
    (hQ : ∀ s', Ran lo s s' → s'.heap.SetOf (intKind prog w) s.heap.objs.size (fun k' => (firstMet f n).any (· == k')) (firstMet f n).length → Q (.ref s.heap.objs.size) s') : wpAny (model prog w) A (call (.type "set") [.ref a]) Q E s :=
  use_set hg (val := f) (fun i v h => h.2) (by unfold scanBound; omega) hlo hQ
theorem use_bytesI (f : Nat → Int) {a : Addr} {n : Nat} {lo : Nat} {Q : Value → Shared → Prop} (hg : GenR prog w A a n (fun j y => j < n ∧ FInt (f j) y) lo s) (hr : ∀ i, 0 ≤ f i ∧ f i < 256) (hn : n ≤ 900) (hlo : lo ≤ s.heap.objs.size)
    (hQ : ∀ s' t, Ran lo s s' → Q (.bytes (octs f n) t) s') : wpAny (model prog w) A (call (.type "bytes") [.ref a]) Q E s :=
  use_bytes hg (val := f) (fun i v h => ⟨h.2, hr i⟩) (by rw [sizeLine_eq]; omega) hlo hQ
end
end JA
end
section
open PySem PySem.W PyProof.Rows PySem.Calls
namespace JA
set_option maxRecDepth 100000
theorem reset_JMake : True := by
  w_top off
  trivial
theorem fill8 : PySem.Challenge.rw_ja0050_01 = PySem.Challenge.rw_ja0050_01 ∧ JA.hd.heap_1 = JA.hd.heap_1 := by
  k_fill
  exact ⟨rfl, rfl⟩
section
variable {prog : Program} {w : World} {A : Around} {R : Result → Shared → Prop} {g : Heap}
set_option maxHeartbeats 1000000 in
theorem call_cls {h : Heap} {gs : Array GenState} {d : Drawn} {t : Nat} {os : OsState} {x y : Value} (hW : Wd w g) (hk : Stays g h)
    (hnew : codeAny (model prog w) (A.under (.builtin "type.__call__" ⟨[.ref 145, x, y], []⟩)) (.call (.ref 95) ⟨[.ref 145, x, y], []⟩) (fun r s' => ∃ a o, r = .ok (.ret (.ref a)) ∧ Stays h s'.heap ∧ s'.heap.get? a = some o ∧ o.cls = .ref 145 ∧ R (.ok (.ret (.ref a))) s') ⟨h, gs, d, t + 1, os⟩) :
    codeAny (model prog w) A (.call (.ref 145) ⟨[x, y], []⟩) R ⟨h, gs, d, t, os⟩ := by
  w_on
  have X : (JA.hd.heap_1 w.params).In h := Frag.In.keeps hW.K hk
  have Lc := looks_specialIn (M := model prog w) X (show specialIn (JA.hd.heap_1 w.params) (.ref 145) "__call__" = some (some (.builtin "type.__call__")) by k_dflt k_is)
  have typ := looks_instIn (M := model prog w) X (show instIn (JA.hd.heap_1 w.params) (.ref 145) (.type "type") = some true by k_dflt k_is)
  have hC := X 145 _ (by k_dflt k_is)
  have hm : Looks (model prog w) h (mroOf (.ref 145)) [.ref 145, .type "tuple", .type "object"] := ((Looks.ld (part := none) hC).andThen .now).andThen .now
  have made : Looks (model prog w) h (Bind.madeBy (.ref 145)) none := by
    intro A Q E s k q
    unfold Bind.madeBy
    refine wpAny_bind (hm A _ E s k ?_)
    rw [List.forIn_cons]
    refine wpAny_bind (wpAny_bind (wpAny_bind (wpAny_bind (wpAny_loadPart (k _ _ hC) (wpAny_pure ?_)))))
    dsimp only
    exact wpAny_pure (wpAny_pure (wpAny_pure q))
  refine codeAny_of_tree ?_
  show wpAny _ _ (callAny (.ref 145) _) _ _ _
  refine nd_load hC ?_
  show wpAny _ _ (callAny.viaDunder (.ref 145) _) _ _ _
  unfold callAny.viaDunder
  refine wpAny_bind (Lc.at ?_)
  dsimp only
  rw [tc_bind]
  refine wpAny_bind (wpAny_pure (wpAny_bind (wpAny_pure ?_)))
  refine wpAny_pure (a := Fin.again (.call (.builtin "type.__call__") ⟨[.ref 145, x, y], []⟩)) (And.intro rfl ?_)
  refine codeAny_call_builtin_at (Code.quiet_builtin _ (by decide +kernel)) entry_typeCall (check_slot tc_kind tc_split typ (tc_args _ _ _) ?_)
  unfold Builtin.«type.__call__»
  show wpAny _ _ (mroOf (.ref 145) >>= _) _ _ _
  refine wpAny_bind (hm.at ?_)
  rw [if_neg (by simp)]
  refine wpAny_bind (made.at ?_)
  dsimp only
  refine wpAny_bind ?_
  refine cls_bind (K := JA.hd.heap_1 w.params) (mc := .type "type") X (by k_dflt k_is) (by k_dflt k_is) ?_
  refine wpAny_call (sm_get (K := JA.hd.heap_1 w.params) X (by k_dflt k_is) ?_)
  refine handed_on (by k_handed) ?_
  refine wpAny_bind (wpAny_holding (wpAny_call (codeAny_mono hnew ?_)))
  rintro r s' ⟨a, o, rfl, hs, ha, hc, hR⟩
  have X' : (JA.hd.heap_1 w.params).In s'.heap := Frag.In.keeps X hs
  obtain ⟨h', g', d', t', os'⟩ := s'
  have t1 : Looks (model prog w) h' (typeOf (.ref a)) (.ref 145) := by rw [← hc]; exact (Looks.ld ha).andThen .now
  have s1 := looks_subIn (M := model prog w) X' (show subIn (JA.hd.heap_1 w.params) (.ref 145) (.ref 145) = some true by k_dflt k_is)
  have s2 := looks_subIn (M := model prog w) X' (show subIn (JA.hd.heap_1 w.params) (.ref 145) (.type "object") = some true by k_dflt k_is)
  have i1 := looks_findIn (M := model prog w) X' (show findIn (JA.hd.heap_1 w.params) (.ref 145) "__init__" = some (some (.builtin "object.__init__")) by k_dflt k_is)
  have made' := made.keeps hs
  dsimp only
  have is1 : Looks (model prog w) h' (isInstance (.ref a) (.ref 145)) true := t1.andThen s1
  have is2 : Looks (model prog w) h' (isInstance (.ref a) (.type "object")) true := t1.andThen s2
  refine wpAny_bind (is1.at ?_)
  rw [if_neg (by simp)]
  refine wpAny_bind (wpAny_holding ?_)
  unfold callSpecial? specialOf
  repeat (first | with_reducible refine wpAny_call ?_ | lk)
  refine codeAny_call_builtin oi_plain entry_oi (@check_slot (model prog w) _ _ _ "object.__init__" "object" "__init__" (.ref a) [x, y] [] _ oi_kind oi_split is2 (PySem.F.args_object_init_3 (.ref a) x y) ?_)
  unfold Builtin.«object.__init__»
  show wpAny _ _ (typeOf (.ref a) >>= _) _ _ _
  refine wpAny_bind (t1.at ?_)
  refine wpAny_bind (i1.at ?_)
  refine wpAny_bind (made'.at ?_)
  dsimp only
  rw [if_neg (by decide), if_neg (by decide)]
  refine wpAny_pure ?_
  refine wpAny_pure ?_
  show wpAny _ _ (ret (.ref a)) _ _ _
  exact wpAny_pure hR
end
end JA
end
section
open PySem PySem.W PyProof.Rows PySem.Calls
namespace JA
set_option maxRecDepth 100000
theorem reset_JNew : True := by
  w_top off
  trivial
theorem fill9 : PySem.Challenge.rw_ja0050_01 = PySem.Challenge.rw_ja0050_01 ∧ JA.hd.heap_1 = JA.hd.heap_1 := by
  k_fill
  exact ⟨rfl, rfl⟩
section
variable {prog : Program} {w : World} {A : Around} {E : Value → Shared → Prop} {R : Result → Shared → Prop} {g : Heap}
theorem tn_kind : builtinKind "tuple.__new__" = some .builtinFn := by decide +kernel
theorem tn_args (a b : Value) : argsOk "tuple.__new__" ⟨[a, b], []⟩ := by unfold argsOk; kernel_rfl
theorem tn_split : splitId "tuple.__new__" = some ("tuple", "__new__") := by decide +kernel
set_option maxHeartbeats 1000000 in
theorem tuple_new {h : Heap} {gs : Array GenState} {d : Drawn} {t : Nat} {os : OsState} {tp : Addr} {x y : Value} {Q : Value → Shared → Prop} (hW : Wd w g) (hk : Stays g h)
    (ht : h.get? tp = some { cls := .type "tuple", data := .seq #[x, y] })
    (hQ : ∀ a dx h', Stays h h' → h.get? a = none → h'.get? a = some { cls := .ref 145, dict := some dx, data := .seq #[x, y] } → h'.get? dx = some emptyDict → h.get? dx = none → Q (.ref a) ⟨h', gs, d, t, os⟩) :
    wpAny (model prog w) A (call (.builtin "tuple.__new__") [.ref 145, .ref tp]) Q E ⟨h, gs, d, t, os⟩ := by
  w_on
  have X : (JA.hd.heap_1 w.params).In h := Frag.In.keeps hW.K hk
  have hC := X 145 _ (by k_dflt k_is)
  have hm : Looks (model prog w) h (mroOf (.ref 145)) [.ref 145, .type "tuple", .type "object"] := ((Looks.ld (part := none) hC).andThen .now).andThen .now
  have made : Looks (model prog w) h (Bind.madeBy (.ref 145)) none := by
    intro A Q E s k q
    unfold Bind.madeBy
    refine wpAny_bind (hm A _ E s k ?_)
    rw [List.forIn_cons]
    refine wpAny_bind (wpAny_bind (wpAny_bind (wpAny_bind (wpAny_loadPart (k _ _ hC) (wpAny_pure ?_)))))
    dsimp only
    exact wpAny_pure (wpAny_pure (wpAny_pure q))
  have cd : Looks (model prog w) h (classData 145) { name := "RawShare", bases := [.type "tuple"], mro := [.ref 145, .type "tuple", .type "object"], ns := 144, qualname := "RawShare", hasDict := false } := (Looks.ld (part := none) hC).andThen .now
  have base : Looks (model prog w) h (Bind.staticBase (.ref 145)) (.type "tuple") := by
    intro A Q E s k q
    unfold Bind.staticBase
    refine wpAny_bind (hm A _ E s k ?_)
    rw [List.forIn_cons]
    refine wpAny_bind (wpAny_bind ?_)
    dsimp only
    refine wpAny_bind (made A _ E s k ?_)
    rw [if_neg (by simp)]
    refine wpAny_bind (cd A _ E s k ?_)
    refine wpAny_bind (wpAny_of_eq (show Builtin.Slots.bestBase [.type "tuple"] = pure (.type "tuple") from by kernel_rfl) ?_)
    refine wpAny_pure ?_
    dsimp only
    rw [List.forIn_cons]
    refine wpAny_bind ?_
    dsimp only
    refine wpAny_bind (wpAny_of_eq PySem.F.called_tuple.made ?_)
    rw [if_pos (by decide)]
    refine wpAny_pure ?_
    exact wpAny_pure (wpAny_pure q)
  have ist : Looks (model prog w) h (isType (.ref 145)) true := (Looks.ld (part := none) hC).andThen .now
  have sub := looks_subIn (M := model prog w) X (show subIn (JA.hd.heap_1 w.params) (.ref 145) (.type "tuple") = some true by k_dflt k_is)
  refine wpAny_call ?_
  refine codeAny_call_builtin_code (Code.quiet_builtin _ (by decide +kernel)) ?_
  simp only [checkBuiltinCall, tn_kind, tn_split]
  rw [if_pos (by decide)]
  refine wpAny_bind (ist.at ?_)
  rw [if_neg (by simp)]
  refine wpAny_bind (sub.at ?_)
  rw [if_neg (by simp)]
  refine wpAny_bind (base.at ?_)
  refine wpAny_bind (wpAny_of_eq PySem.F.called_tuple.made ?_)
  dsimp only
  rw [if_neg (by decide +kernel)]
  have ha := tn_args (.ref 145) (.ref tp)
  have main : codeAny (model prog w) A (.builtin "tuple.__new__" ⟨[.ref 145, .ref tp], []⟩) (fun r s' => match r with | .ok (.ret v) => Q v s' | .ok _ => False | .error e => E e s') ⟨h, gs, d, t, os⟩ := by
    refine codeAny_builtin PySem.F.entry_tuple_new ?_
    rw [Around.under_plainId PySem.F.plain_tuple_new _]
    have i1 := looks_findIn (M := model prog w) X (show findIn (JA.hd.heap_1 w.params) (.ref 145) "__init__" = some (some (.builtin "object.__init__")) by k_dflt k_is)
    unfold Builtin.«tuple.__new__»
    show wpAny _ _ (isType (.ref 145) >>= _) _ _ _
    refine wpAny_bind (ist.at ?_)
    rw [if_neg (by simp)]
    refine wpAny_bind (sub.at ?_)
    rw [if_neg (by simp)]
    dsimp only
    refine wpAny_bind ?_
    unfold Bind.madeHere
    refine wpAny_bind (base.at ?_)
    refine wpAny_bind (wpAny_of_eq PySem.F.called_tuple.made ?_)
    rw [if_neg (by decide +kernel)]
    refine wpAny_pure ?_
    refine wpAny_bind (i1.at ?_)
    rw [if_pos (by simp)]
    refine wpAny_bind (wpAny_of_eq (show noKeywords "tuple" ⟨[.ref 145, .ref tp], []⟩ = pure () from rfl) ?_)
    refine wpAny_bind (wpAny_of_eq (show checkCount "tuple" 0 1 [Value.ref tp].length = pure () from rfl) ?_)
    rw [if_neg (by simp)]
    refine wpAny_bind (wpAny_collect_seq tp (.inr rfl) ht rfl rfl (fun h' k => ?_) (by simp [sizeLine_eq]))
    refine wpAny_bind (wpAny_pure (wpAny_bind (wpAny_alloc ?_)))
    have hC' := k _ _ hC
    show wpAny _ _ ((newObjAsIs _ _ _) >>= _) _ _ _
    refine wpAny_bind ?_
    unfold newObjAsIs classHasDel
    refine wpAny_bind (wpAny_alloc (wpAny_bind (wpAny_bind (wpAny_load (Heap.get?_push_of_some _ (Heap.get?_push_of_some _ hC')) (wpAny_pure ?_)))))
    rw [if_neg (by simp)]
    refine wpAny_pure ?_
    refine wpAny_pure ?_
    show Q (.ref (h'.push emptyDict).objs.size) _
    refine hQ (h'.push emptyDict).objs.size h'.objs.size _ (fun b o e => Heap.get?_push_of_some _ (Heap.get?_push_of_some _ (k b o e))) ?_ (Heap.get?_push_size _ rfl) (Heap.get?_push_of_some _ (Heap.get?_push_size _ rfl)) ?_
    rotate_left
    · cases q : h.get? h'.objs.size with
      | none => rfl
      | some o => exact absurd (Heap.lt_size (k _ _ q)) (Nat.lt_irrefl _)
    cases q : h.get? (h'.push emptyDict).objs.size with
    | none => rfl
    | some o =>
      have := Heap.lt_size (k _ _ q)
      rw [Heap.size_push] at this
      exact absurd this (Nat.not_lt.mpr (Nat.le_succ _))
  cases hsig : Manifest.signature? "tuple.__new__" with
  | none => exact wpAny_pure main
  | some sig =>
    simp only [argsOk, hsig] at ha
    have h2 : Bind.checkArgs "tuple.__new__" sig ⟨[.ref 145, .ref tp], []⟩ = pure () := ha
    dsimp only
    rw [h2]
    exact wpAny_pure main
end
end JA
end
section
open PySem PySem.W PyProof.Rows PySem.Calls
namespace JA
set_option maxRecDepth 100000
theorem reset_JMk : True := by
  w_top off
  trivial
theorem fill10 : PySem.Challenge.rw_ja0050_01 = PySem.Challenge.rw_ja0050_01 ∧ JA.hd.heap_1 = JA.hd.heap_1 := by
  k_fill
  exact ⟨rfl, rfl⟩
local macro_rules | `(tactic| walk_at "eval Name") => `(tactic| (k_dflt (first
  | (refine' jn_local ?X ?l ?a ?b ?v ?_ ?d; (case a => exact rfl); (case b => exact rfl); (case l => exact rfl); (case X => k_asm); (case v => first | assumption | exact rfl); (case d => decide); k_whole)
  | (refine' jn_cell ?a ?b ?c ?i ?_ ?d; (case a => exact rfl); (case b => exact rfl); (case c => exact rfl); (case i => refine cell_of (by k_asm) (by k_mem) (by k_asm)); (case d => decide); k_whole)
  | (refine' jn_free ?a ?b ?c ?i ?_ ?d ?e; (case a => exact rfl); (case b => exact rfl); (case c => exact rfl); (case i => refine cell_of (by k_asm) (by k_mem) (by k_asm)); (case d => decide); (case e => decide); k_whole)
  | (refine' jn_global ?W ?X ?l ?a ?b ?e ?_ ?d; (case a => exact rfl); (case b => exact rfl); (case l => exact rfl); (case W => k_asm); (case X => k_asm); (case e => k_is); (case d => decide); k_whole)
  | (refine' jn_builtin ?W ?X ?l ?l2 ?a ?b ?e ?v ?n ?_ ?d; (case a => exact rfl); (case b => exact rfl); (case l => exact rfl); (case l2 => exact rfl); (case W => k_asm); (case X => k_asm); (case e => k_is); (case v => first | boot_fast | boot_by_name); (case n => decide); (case d => decide); k_whole))))
local macro_rules | `(tactic| walk_at "J list") => `(tactic| first | assumption | exact Act.list (by k_asm) (by k_mem) | exact stays_list (Act.keep (by k_asm)) (by assumption))
local macro_rules | `(tactic| walk_at "subscriptTail") => `(tactic| ((with_reducible show wpAny _ _ (subscriptTail _ _ (Value.ref _) (Value.int _ _)) _ _ _); k_dflt (refine' item_list (by walk_at "J list") ?a ?b ?c ?_ ?hs; (case hs => with_unfolding_all rfl); (case a => decide); (case b => decide); (case c => exact rfl))))
local macro_rules | `(tactic| walk_at "J rng") => `(tactic| first | assumption | exact (bx_rng (by omega) (by omega) (by omega) (by omega)).1 | exact (bx_rng (by omega) (by omega) (by omega) (by omega)).2 | omega)
local macro_rules | `(tactic| walk_at "subscriptTail") => `(tactic| ((with_reducible show wpAny _ _ (subscriptTail _ _ (Value.ref 154) (Value.int _ _)) _ _ _); k_dflt (refine' item_log ?W ?X ?a ?b ?_ ?hs; (case hs => with_unfolding_all rfl); (case W => k_asm); (case X => exact Act.keep (by k_asm)); (case a => walk_at "J rng"); (case b => walk_at "J rng"); intro t')))
local macro_rules | `(tactic| walk_at "subscriptTail") => `(tactic| ((with_reducible show wpAny _ _ (subscriptTail _ _ (Value.ref 151) (Value.int _ _)) _ _ _); k_dflt (refine' item_exp ?W ?X ?a ?b ?_ ?hs; (case hs => with_unfolding_all rfl); (case W => k_asm); (case X => exact Act.keep (by k_asm)); (case a => walk_at "J rng"); (case b => walk_at "J rng"); intro t')))
local macro_rules | `(tactic| walk_at "truthy ref") => `(tactic| (k_dflt (refine' wpAny_truthy_list (by walk_at "J list") ?f ?_); (case f => (first | decide | (simp only [List.size_toArray] at *; omega)))))
local macro_rules | `(tactic| walk_at "J put") => `(tactic| first | exact Put.head _ | (refine' Put.tail _ ?a; (case a => walk_at "J put")))
local macro_rules | `(tactic| walk_at "J int") => `(tactic| first | decide | omega | (simp only [List.length_cons, List.length_nil]; omega))
local macro_rules | `(tactic| walk_at "setItem ref int") => `(tactic| (k_dflt (refine' js_item ?X ?S ?U ?a ?b ?c ?_; (case X => k_asm); (case S => exact Same.refl _); (case U => walk_at "J put"); (case a => walk_at "J int"); (case b => walk_at "J int"); (case c => walk_at "J int"); k_whole); intro s' S' X'))
local macro_rules | `(tactic| walk_at "getMethod ref") => `(tactic| ((with_reducible show wpAny _ _ (getMethod (Value.ref _) (PySem.Str.ofString "pop") _) _ _ _); k_dflt (refine' j_getpop ?X ?m ?_; (case X => k_asm); (case m => k_mem))))
local macro_rules | `(tactic| walk_at "storeName") => `(tactic| (k_dflt (first
  | (refine' js_local ?X ?S ?l ?a ?b ?_; (case a => exact rfl); (case b => exact rfl); (case l => exact rfl); (case X => k_asm); (case S => exact Same.refl _); k_whole; intro s' S' X')
  | (refine' js_cell ?X ?S ?a ?b ?c ?U ?d ?_; (case a => exact rfl); (case b => exact rfl); (case c => exact rfl); (case X => k_asm); (case S => exact Same.refl _); (case U => (intro o'; walk_at "J put")); (case d => k_asm); k_whole; intro s' o' S' d' X'))))
local macro_rules | `(tactic| walk_at "call builtin:len") => `(tactic| (k_dflt (first
  | (refine' len_set' ?h ?_; (case h => exact ⟨_, _, _, _, Act.get (by k_asm) (by k_mem), by assumption⟩); k_whole)
  | (refine' call_len_list (by walk_at "J list") ?f ?_; (case f => (first | decide | (simp only [List.size_toArray, List.length_map]; omega))); k_whole))))
local macro_rules | `(tactic| walk_at "J room") => `(tactic| first | omega | exact (‹∀ env, Around.depth (Around.deeper _ env) < 799›) _)
local macro_rules | `(tactic| walk_at "getAttr ref") => `(tactic| (k_dflt (first
  | ((with_reducible show wpAny _ _ (getAttr _ (PySem.Str.ofString "x") _) _ _ _); refine' jx ?W ?X ?S ?r ?_; (case S => assumption); (case W => k_asm); (case X => k_asm); (case r => first | assumption | walk_at "J room"); intro s' t' K' S' X')
  | ((with_reducible show wpAny _ _ (getAttr _ (PySem.Str.ofString "data") _) _ _ _); refine' jdata ?W ?X ?S ?r ?_; (case S => assumption); (case W => k_asm); (case X => k_asm); (case r => first | assumption | walk_at "J room"); intro s' t' K' S' X'))))

/-- a share made since -/
noncomputable def NewShare (h h' : Heap) (a : Addr) (x : Int) (b : Array UInt8) : Prop := ∃ dx tx tb od, h'.get? a = some (shrObj dx x tx b tb) ∧ h'.get? dx = some od ∧ h.get? a = none ∧ h.get? dx = none
set_option maxHeartbeats 1000000 in
theorem make_share {prog : Program} {w : World} {A : Around} {R : Result → Shared → Prop} {g : Heap} {s : Shared} {i : Int} {ti : Tok} {b : Array UInt8} {tb : Tok} (hW : Wd w g) (hk : Stays g s.heap) (hroom : A.depth < 700)
    (h : ∀ a s', Same s s' → Stays s.heap s'.heap → NewShare s.heap s'.heap a i b → R (.ok (.ret (.ref a))) s') : codeAny (model prog w) A (.call (.ref 145) ⟨[.int i ti, .bytes b tb], []⟩) R s := by
  w_on
  obtain ⟨hp, gs, d, t, os⟩ := s
  have KX : (JA.hd.heap_1 w.params).In hp := Frag.In.keeps hW.K hk
  refine call_cls hW hk ?_
  refine enter (binds := [("_cls", .ref 145), ("x", .int i ti), ("data", .bytes b tb)]) hW hk (mu := []) (by simp) (by simp) (by k_dflt k_is) (by k_dflt k_is) (by show A.depth + 1 < _; unfold recursionLimit; omega) (by exact BindsTo.of_eq rfl) (by exact locs rfl) (by decide) ?_ (by exact rfl) (by exact rfl) (by exact rfl)
  intro g₁ h₁ hW₁ gs' gk hsame hold X₁
  have KX1 : (JA.hd.heap_1 w.params).In h₁ := Frag.In.keeps KX hold
  have hL : 221 ≤ hp.objs.size := (hW.keeps hk).low
  walk2
  refine' method_type (T := "tuple") (fr_cut X₁.ns) (in_cut KX1 (low39 w) hL) ?m ?s ?e ?h ?_
  (case m => kernel_rfl)
  (case s => decide +kernel)
  (case e => k_dflt k_is)
  (case h => k_handed)
  walk2
  refine wpAny_newTuple ?_ (by rw [sizeLine_eq]; simp)
  have up : Stays h₁ (h₁.push { cls := .type "tuple", data := .seq [Value.int i ti, Value.bytes b tb].toArray }) := fun b' o e => Heap.get?_push_of_some _ e
  walk2
  refine' tuple_new hW₁ ?k ?t ?_
  case k => exact fun b' o e => up b' o (X₁.keep b' o e)
  case t => exact Heap.get?_push_size _ rfl
  intro a dx h' hs hfr ha hdx hdf
  have old : Stays hp h' := fun b' o e => hs b' o (up b' o (hold b' o e))
  have fresh : hp.get? a = none := by
    cases q : hp.get? a with
    | none => rfl
    | some o => rw [up _ _ (hold _ _ q)] at hfr; cases hfr
  have fresh2 : hp.get? dx = none := by
    cases q : hp.get? dx with
    | none => rfl
    | some o => rw [up _ _ (hold _ _ q)] at hdf; cases hdf
  walk2
  · exact old _ _ (by assumption)
  · exact h _ _ ⟨rfl, rfl, rfl⟩ old ⟨dx, ti, tb, _, ha, hdx, fresh, fresh2⟩
end JA
end
section
namespace JA
/-! the field of 256, on numbers -/
noncomputable def xt (a : Nat) : Nat := if 255 < 2 * a then (2 * a) ^^^ 283 else 2 * a
noncomputable def allB (n : Nat) (p : Nat → Bool) : Bool := (List.range n).all p
theorem allB_of {n : Nat} {p : Nat → Bool} (h : allB n p = true) {i : Nat} (hi : i < n) : p i = true := by
  unfold allB at h
  rw [List.all_eq_true] at h
  exact h i (List.mem_range.mpr hi)
theorem two_xor (a b : Nat) : 2 * (a ^^^ b) = (2 * a) ^^^ (2 * b) := by
  rw [Nat.mul_comm 2, Nat.mul_comm 2, Nat.mul_comm 2]
  have := Nat.shiftLeft_xor_distrib (a := a) (b := b) (i := 1)
  simpa [Nat.shiftLeft_eq] using this
theorem xt_eq_all : allB 256 (fun a => Nat.beq (xt a) ((2*a) ^^^ (if a.testBit 7 then 283 else 0))) = true := by decide +kernel
theorem xt_eq {a : Nat} (ha : a < 256) : xt a = (2*a) ^^^ (if a.testBit 7 then 283 else 0) := Nat.eq_of_beq_eq_true (allB_of xt_eq_all ha)
theorem xt_lin {a b : Nat} (ha : a < 256) (hb : b < 256) : xt (a ^^^ b) = xt a ^^^ xt b := by
  rw [xt_eq (Nat.xor_lt_two_pow (n := 8) ha hb), xt_eq ha, xt_eq hb, two_xor, Nat.testBit_xor]
  have e : ∀ p q r t : Nat, (p ^^^ q) ^^^ (r ^^^ t) = (p ^^^ r) ^^^ (q ^^^ t) := fun p q r t => by
    rw [Nat.xor_assoc, Nat.xor_assoc]; congr 1; rw [← Nat.xor_assoc, ← Nat.xor_assoc, Nat.xor_comm q r]
  rw [e]
  congr 1
  cases a.testBit 7 <;> cases b.testBit 7 <;> rfl
theorem xt_lt_all : allB 256 (fun a => Nat.blt (xt a) 256) = true := by decide +kernel
theorem xt_lt {a : Nat} (ha : a < 256) : xt a < 256 := by
  have := allB_of xt_lt_all ha
  have h2 : xt a + 1 ≤ 256 := Nat.le_of_ble_eq_true this
  omega
theorem x_lt {a b : Nat} (ha : a < 256) (hb : b < 256) : a ^^^ b < 256 := Nat.xor_lt_two_pow (n := 8) ha hb
/-- times 2^k -/
noncomputable def xti : Nat → Nat → Nat
  | 0, a => a
  | k + 1, a => xt (xti k a)
theorem xti_lt {a : Nat} (ha : a < 256) : ∀ k, xti k a < 256
  | 0 => ha
  | k + 1 => xt_lt (xti_lt ha k)
theorem xti_lin {a b : Nat} (ha : a < 256) (hb : b < 256) : ∀ k, xti k (a ^^^ b) = xti k a ^^^ xti k b
  | 0 => rfl
  | k + 1 => by
    show xt (xti k (a ^^^ b)) = _
    rw [xti_lin ha hb k, xt_lin (xti_lt ha k) (xti_lt hb k)]
    rfl
theorem xti_zero : ∀ k, xti k 0 = 0
  | 0 => rfl
  | k + 1 => by show xt (xti k 0) = 0; rw [xti_zero k]; rfl
/-- one bit's part of a product -/
noncomputable def bitP (f p k : Nat) : Nat := if f.testBit k then xti k p else 0
/-- the sum of the parts of the bits below n -/
noncomputable def mulTo (f p : Nat) : Nat → Nat
  | 0 => 0
  | n + 1 => mulTo f p n ^^^ bitP f p n
noncomputable def mulN (f p : Nat) : Nat := mulTo f p 8
theorem bitP_lt {f p : Nat} (hp : p < 256) (k : Nat) : bitP f p k < 256 := by
  unfold bitP
  split
  · exact xti_lt hp k
  · decide
theorem mulTo_lt {f p : Nat} (hp : p < 256) : ∀ n, mulTo f p n < 256
  | 0 => by show 0 < 256; decide
  | n + 1 => x_lt (mulTo_lt hp n) (bitP_lt hp n)
theorem xor_swap (a b c d : Nat) : (a ^^^ b) ^^^ (c ^^^ d) = (a ^^^ c) ^^^ (b ^^^ d) := by
  rw [Nat.xor_assoc, Nat.xor_assoc]
  congr 1
  rw [← Nat.xor_assoc, ← Nat.xor_assoc, Nat.xor_comm b c]
theorem bitP_linL (f f' p k : Nat) : bitP (f ^^^ f') p k = bitP f p k ^^^ bitP f' p k := by
  unfold bitP
  rw [Nat.testBit_xor]
  cases f.testBit k <;> cases f'.testBit k <;> simp
theorem bitP_linR {p p' : Nat} (hp : p < 256) (hp' : p' < 256) (f k : Nat) : bitP f (p ^^^ p') k = bitP f p k ^^^ bitP f p' k := by
  unfold bitP
  cases f.testBit k
  · simp
  · simp [xti_lin hp hp' k]
theorem mulTo_linL (f f' p : Nat) : ∀ n, mulTo (f ^^^ f') p n = mulTo f p n ^^^ mulTo f' p n
  | 0 => by simp [mulTo]
  | n + 1 => by
    show mulTo (f ^^^ f') p n ^^^ bitP (f ^^^ f') p n = (mulTo f p n ^^^ bitP f p n) ^^^ (mulTo f' p n ^^^ bitP f' p n)
    rw [mulTo_linL f f' p n, bitP_linL, xor_swap]
theorem mulTo_linR {p p' : Nat} (hp : p < 256) (hp' : p' < 256) (f : Nat) : ∀ n, mulTo f (p ^^^ p') n = mulTo f p n ^^^ mulTo f p' n
  | 0 => by simp [mulTo]
  | n + 1 => by
    show mulTo f (p ^^^ p') n ^^^ bitP f (p ^^^ p') n = (mulTo f p n ^^^ bitP f p n) ^^^ (mulTo f p' n ^^^ bitP f p' n)
    rw [mulTo_linR hp hp' f n, bitP_linR hp hp', xor_swap]
theorem mul_lt {f p : Nat} (hp : p < 256) : mulN f p < 256 := mulTo_lt hp 8
theorem mul_addL (f f' p : Nat) : mulN (f ^^^ f') p = mulN f p ^^^ mulN f' p := mulTo_linL f f' p 8
theorem mul_addR {p p' : Nat} (hp : p < 256) (hp' : p' < 256) (f : Nat) : mulN f (p ^^^ p') = mulN f p ^^^ mulN f p' := mulTo_linR hp hp' f 8

/-- times 3, i times -/
noncomputable def tr (a : Nat) : Nat := a ^^^ xt a
noncomputable def trn : Nat → Nat → Nat
  | 0, a => a
  | i + 1, a => tr (trn i a)
theorem tr_lt {a : Nat} (ha : a < 256) : tr a < 256 := x_lt ha (xt_lt ha)
theorem trn_lt {a : Nat} (ha : a < 256) : ∀ i, trn i a < 256
  | 0 => ha
  | i + 1 => tr_lt (trn_lt ha i)
theorem tr_lin {a b : Nat} (ha : a < 256) (hb : b < 256) : tr (a ^^^ b) = tr a ^^^ tr b := by
  unfold tr
  rw [xt_lin ha hb, xor_swap]
theorem tr_zero : tr 0 = 0 := rfl
theorem trn_add (a : Nat) : ∀ i j, trn (i + j) a = trn i (trn j a)
  | 0, j => by rw [Nat.zero_add]; rfl
  | i + 1, j => by
    rw [Nat.succ_add]
    show tr (trn (i + j) a) = tr (trn i (trn j a))
    rw [trn_add a i j]
theorem xti_tr {a : Nat} (ha : a < 256) : ∀ k, xti k (tr a) = tr (xti k a)
  | 0 => rfl
  | k + 1 => by
    show xt (xti k (tr a)) = tr (xt (xti k a))
    rw [xti_tr ha k]
    unfold tr
    rw [xt_lin (xti_lt ha k) (xt_lt (xti_lt ha k))]
theorem bitP_tr {p : Nat} (hp : p < 256) (f k : Nat) : bitP f (tr p) k = tr (bitP f p k) := by
  unfold bitP
  cases f.testBit k
  · simp [tr_zero]
  · simp [xti_tr hp k]
theorem mulTo_tr {p : Nat} (hp : p < 256) (f : Nat) : ∀ n, mulTo f (tr p) n = tr (mulTo f p n)
  | 0 => tr_zero.symm
  | n + 1 => by
    show mulTo f (tr p) n ^^^ bitP f (tr p) n = tr (mulTo f p n ^^^ bitP f p n)
    rw [mulTo_tr hp f n, bitP_tr hp, tr_lin (mulTo_lt hp n) (bitP_lt hp n)]
theorem mul_trn {p : Nat} (hp : p < 256) (f : Nat) : ∀ i, mulN f (trn i p) = trn i (mulN f p)
  | 0 => rfl
  | i + 1 => by
    show mulN f (tr (trn i p)) = tr (trn i (mulN f p))
    rw [← mul_trn hp f i]
    exact mulTo_tr (trn_lt hp i) f 8
theorem mul_one_all : allB 256 (fun f => Nat.beq (mulN f 1) f) = true := by decide +kernel
theorem mul_one {f : Nat} (hf : f < 256) : mulN f 1 = f := Nat.eq_of_beq_eq_true (allB_of mul_one_all hf)
theorem mul_pow {f : Nat} (hf : f < 256) (i : Nat) : mulN f (trn i 1) = trn i f := by rw [mul_trn (by decide), mul_one hf]
theorem pow_mul (i j : Nat) : mulN (trn i 1) (trn j 1) = trn (i + j) 1 := by rw [mul_pow (trn_lt (by decide) i), ← trn_add, Nat.add_comm]
theorem mul_zeroL (p : Nat) : mulN 0 p = 0 := by
  have : ∀ n, mulTo 0 p n = 0 := fun n => by
    induction n with
    | zero => rfl
    | succ n ih =>
      show mulTo 0 p n ^^^ bitP 0 p n = 0
      rw [ih]
      unfold bitP
      simp
  exact this 8
theorem mul_zeroR (f : Nat) : mulN f 0 = 0 := by
  have : ∀ n, mulTo f 0 n = 0 := fun n => by
    induction n with
    | zero => rfl
    | succ n ih =>
      show mulTo f 0 n ^^^ bitP f 0 n = 0
      rw [ih]
      unfold bitP
      rw [xti_zero]
      simp
  exact this 8

noncomputable def powL : Nat → Nat → List Nat
  | _, 0 => []
  | a, n + 1 => a :: powL (tr a) n
theorem trn_tr (a : Nat) : ∀ i, trn i (tr a) = tr (trn i a)
  | 0 => rfl
  | i + 1 => by show tr (trn i (tr a)) = tr (tr (trn i a)); rw [trn_tr a i]
theorem powL_get : ∀ (n a i : Nat), i < n → (powL a n)[i]? = some (trn i a)
  | 0, _, _, h => absurd h (Nat.not_lt_zero _)
  | n + 1, a, 0, _ => rfl
  | n + 1, a, i + 1, h => by
    show (powL (tr a) n)[i]? = some (tr (trn i a))
    rw [powL_get n (tr a) i (Nat.lt_of_succ_lt_succ h), trn_tr]
theorem powL_len : ∀ (n a : Nat), (powL a n).length = n
  | 0, _ => rfl
  | n + 1, a => by show (powL (tr a) n).length + 1 = n + 1; rw [powL_len]
theorem pow_all : allB 256 (fun a => a == 0 || (powL 1 255).any (· == a)) = true := by decide +kernel
theorem is_pow {a : Nat} (ha : a < 256) (h0 : a ≠ 0) : ∃ i, i < 255 ∧ a = trn i 1 := by
  have := allB_of pow_all ha
  simp only [Bool.or_eq_true, beq_iff_eq, List.any_eq_true] at this
  rcases this with h | ⟨x, hx, rfl⟩
  · exact absurd h h0
  · obtain ⟨i, hi, e⟩ := List.mem_iff_getElem.mp hx
    rw [powL_len] at hi
    have g := powL_get 255 1 i hi
    rw [List.getElem?_eq_getElem (by rw [powL_len]; exact hi), e] at g
    exact ⟨i, hi, Option.some.inj g⟩
theorem mul_comm {a b : Nat} (ha : a < 256) (hb : b < 256) : mulN a b = mulN b a := by
  rcases Nat.eq_zero_or_pos a with rfl | h
  · rw [mul_zeroL, mul_zeroR]
  rcases Nat.eq_zero_or_pos b with rfl | h'
  · rw [mul_zeroL, mul_zeroR]
  obtain ⟨i, _, rfl⟩ := is_pow ha (by omega)
  obtain ⟨j, _, rfl⟩ := is_pow hb (by omega)
  rw [pow_mul, pow_mul, Nat.add_comm]
theorem mul_assoc {a b c : Nat} (ha : a < 256) (hb : b < 256) (hc : c < 256) : mulN (mulN a b) c = mulN a (mulN b c) := by
  rcases Nat.eq_zero_or_pos c with rfl | h
  · rw [mul_zeroR, mul_zeroR, mul_zeroR]
  obtain ⟨k, _, rfl⟩ := is_pow hc (by omega)
  rw [mul_pow (mul_lt hb), mul_pow hb, mul_trn hb]

theorem pow_255 : trn 255 1 = 1 := by decide +kernel
theorem pow_pos_all : allB 255 (fun i => !((powL 1 255).getD i 0 == 0)) = true := by decide +kernel
theorem trn_inj_zero {i : Nat} {a : Nat} (ha : a < 256) : trn i a = 0 → a = 0 := by
  intro h
  apply Classical.byContradiction
  intro h0
  obtain ⟨j, hj, rfl⟩ := is_pow ha h0
  have p255 : ∀ n, trn (255 * n) 1 = 1 := fun n => by
    induction n with
    | zero => rfl
    | succ n ih => rw [Nat.mul_succ, trn_add, pow_255, ih]
  rw [← trn_add] at h
  have e : trn (255 * (i + j)) 1 = 0 := by
    rw [show 255 * (i + j) = 254 * (i + j) + (i + j) by omega, trn_add, h]
    have z : ∀ k, trn k 0 = 0 := fun k => by
      induction k with
      | zero => rfl
      | succ k ih => show tr (trn k 0) = 0; rw [ih]; rfl
    exact z _
  rw [p255] at e
  exact absurd e (by decide)
theorem mul_eq_zero {a b : Nat} (ha : a < 256) (hb : b < 256) (h : mulN a b = 0) : a = 0 ∨ b = 0 := by
  rcases Nat.eq_zero_or_pos b with rfl | hb0
  · exact .inr rfl
  obtain ⟨k, _, rfl⟩ := is_pow hb (by omega)
  rw [mul_pow ha] at h
  exact .inl (trn_inj_zero ha h)

/-- the inverse -/
theorem has_inv {a : Nat} (ha : a < 256) (h0 : a ≠ 0) : ∃ b, b < 256 ∧ mulN a b = 1 := by
  obtain ⟨i, hi, rfl⟩ := is_pow ha h0
  refine ⟨trn (255 - i) 1, trn_lt (by decide) _, ?_⟩
  rw [pow_mul, show i + (255 - i) = 255 by omega, pow_255]
theorem mul_cancel {a b c : Nat} (ha : a < 256) (hb : b < 256) (hc : c < 256) (h0 : c ≠ 0) (h : mulN a c = mulN b c) : a = b := by
  obtain ⟨d, hd, e⟩ := has_inv hc h0
  have := congrArg (fun z => mulN z d) h
  simp only [mul_assoc ha hc hd, mul_assoc hb hc hd, e, mul_one ha, mul_one hb] at this
  exact this
/-- the value of a polynomial, its leading coefficient first -/
noncomputable def horner (cs : List Nat) (p : Nat) : Nat := cs.foldl (fun acc c => c ^^^ mulN acc p) 0
end JA
end
section
namespace JA
/-! the field of 256 as a type: sums, products, Lagrange's formula -/
structure G where
  v : Nat
  h : v < 256
theorem G.ext' : ∀ {a b : G}, a.v = b.v → a = b
  | ⟨_, _⟩, ⟨_, _⟩, rfl => rfl
noncomputable def gA (a b : G) : G := ⟨a.v ^^^ b.v, x_lt a.h b.h⟩
noncomputable def gM (a b : G) : G := ⟨mulN a.v b.v, mul_lt b.h⟩
noncomputable def g0 : G := ⟨0, by decide⟩
noncomputable def g1 : G := ⟨1, by decide⟩
theorem gA_comm (a b : G) : gA a b = gA b a := G.ext' (Nat.xor_comm _ _)
theorem gA_assoc (a b c : G) : gA (gA a b) c = gA a (gA b c) := G.ext' (Nat.xor_assoc _ _ _)
theorem gA_self (a : G) : gA a a = g0 := G.ext' (Nat.xor_self _)
theorem gA_zero (a : G) : gA a g0 = a := G.ext' (Nat.xor_zero _)
theorem gA_zeroL (a : G) : gA g0 a = a := G.ext' (Nat.zero_xor _)
theorem gM_comm (a b : G) : gM a b = gM b a := G.ext' (mul_comm a.h b.h)
theorem gM_assoc (a b c : G) : gM (gM a b) c = gM a (gM b c) := G.ext' (mul_assoc a.h b.h c.h)
theorem gM_one (a : G) : gM a g1 = a := G.ext' (mul_one a.h)
theorem gM_zero (a : G) : gM a g0 = g0 := G.ext' (mul_zeroR _)
theorem gM_zeroL (a : G) : gM g0 a = g0 := G.ext' (mul_zeroL _)
theorem gM_addR (a b c : G) : gM a (gA b c) = gA (gM a b) (gM a c) := G.ext' (mul_addR b.h c.h _)
theorem gM_addL (a b c : G) : gM (gA a b) c = gA (gM a c) (gM b c) := G.ext' (mul_addL _ _ _)
theorem gM_ne {a b : G} (ha : a ≠ g0) (hb : b ≠ g0) : gM a b ≠ g0 := fun e => by
  have e' : mulN a.v b.v = 0 := congrArg G.v e
  rcases mul_eq_zero a.h b.h e' with h | h
  · exact ha (G.ext' h)
  · exact hb (G.ext' h)
theorem g1_ne : g1 ≠ g0 := fun e => absurd (congrArg G.v e) (by decide)
theorem g_inv {a : G} (h : a ≠ g0) : ∃ b, gM a b = g1 := by
  obtain ⟨b, hb, e⟩ := has_inv a.h (fun q => h (G.ext' q))
  exact ⟨⟨b, hb⟩, G.ext' e⟩
theorem gA_ne {a b : G} (h : a ≠ b) : gA a b ≠ g0 := fun e => h (by
  have := congrArg (gA · b) e
  simpa only [gA_assoc, gA_self, gA_zero, gA_zeroL] using this)
open Classical in
noncomputable def gI (a : G) : G := if h : a = g0 then g0 else Classical.choose (g_inv h)
theorem gI_mul {a : G} (h : a ≠ g0) : gM a (gI a) = g1 := by
  unfold gI
  rw [dif_neg h]
  exact Classical.choose_spec (g_inv h)
theorem gI_ne {a : G} (h : a ≠ g0) : gI a ≠ g0 := fun e => by
  have := gI_mul h
  rw [e, gM_zero] at this
  exact g1_ne this.symm
theorem gM_cancel {a b c : G} (h : c ≠ g0) (e : gM a c = gM b c) : a = b := by
  have := congrArg (gM · (gI c)) e
  simpa only [gM_assoc, gI_mul h, gM_one] using this
theorem gI_M {a b : G} (ha : a ≠ g0) (hb : b ≠ g0) : gI (gM a b) = gM (gI a) (gI b) := by
  refine gM_cancel (gM_ne ha hb) ?_
  rw [gM_comm, gI_mul (gM_ne ha hb), gM_comm a b, ← gM_assoc, gM_assoc (gI a), gM_comm (gI b) b, gI_mul hb, gM_one, gM_comm, gI_mul ha]
theorem gA_swap (a b c d : G) : gA (gA a b) (gA c d) = gA (gA a c) (gA b d) := by
  rw [gA_assoc, gA_assoc, ← gA_assoc b, gA_comm b c, gA_assoc c]

/-- sums and products over a list -/
noncomputable def gS (f : G → G) : List G → G
  | [] => g0
  | p :: ps => gA (f p) (gS f ps)
noncomputable def gP (f : G → G) : List G → G
  | [] => g1
  | p :: ps => gM (f p) (gP f ps)
theorem gS_congr {f f' : G → G} : ∀ {ps : List G}, (∀ p ∈ ps, f p = f' p) → gS f ps = gS f' ps
  | [], _ => rfl
  | p :: ps, h => by
    show gA _ _ = gA _ _
    rw [h p (.head _), gS_congr fun q hq => h q (.tail _ hq)]
theorem gS_add (f f' : G → G) : ∀ ps : List G, gS (fun p => gA (f p) (f' p)) ps = gA (gS f ps) (gS f' ps)
  | [] => (gA_zero _).symm
  | p :: ps => by
    show gA (gA _ _) (gS _ ps) = gA (gA _ _) (gA _ _)
    rw [gS_add f f' ps, gA_swap]
theorem gS_mul (c : G) (f : G → G) : ∀ ps : List G, gS (fun p => gM c (f p)) ps = gM c (gS f ps)
  | [] => (gM_zero _).symm
  | p :: ps => by
    show gA (gM _ _) (gS _ ps) = gM c (gA _ _)
    rw [gS_mul c f ps, gM_addR]
open Classical in
/-- the product of p's differences to the others -/
noncomputable def dif (q p : G) : G := if p = q then g1 else gA p q
noncomputable def gW (ps : List G) (q : G) : G := gP (dif q) ps
theorem dif_ne (q p : G) : dif q p ≠ g0 := by
  unfold dif
  split
  · exact g1_ne
  · rename_i h; exact gA_ne h
theorem gW_ne : ∀ (ps : List G) (q : G), gW ps q ≠ g0
  | [], _ => g1_ne
  | p :: ps, q => gM_ne (dif_ne q p) (gW_ne ps q)
/-- the divided difference of the values f -/
noncomputable def gD (f : G → G) (ps : List G) : G := gS (fun q => gM (f q) (gI (gW ps q))) ps

theorem gD_head {f : G → G} {p : G} {ps : List G} (hp : p ∉ ps) : gD (fun q => gM (gA q p) (f q)) (p :: ps) = gD f ps := by
  unfold gD
  show gA (gM (gM (gA p p) (f p)) _) (gS _ ps) = _
  rw [gA_self, gM_zeroL, gM_zeroL, gA_zeroL]
  refine gS_congr fun q hq => ?_
  have hne : p ≠ q := fun e => hp (e ▸ hq)
  have e : gW (p :: ps) q = gM (gA q p) (gW ps q) := by
    show gM (dif q p) (gW ps q) = _
    unfold dif
    rw [if_neg hne, gA_comm]
  rw [e, gI_M (gA_ne (Ne.symm hne)) (gW_ne ps q), ← gM_assoc]
  congr 1
  show gM (gM (gA q p) (f q)) (gI (gA q p)) = f q
  rw [gM_comm (gA q p) (f q), gM_assoc, gI_mul (gA_ne (Ne.symm hne)), gM_one]
theorem gS_swap (f : G → G) (p r : G) (ps : List G) : gS f (p :: r :: ps) = gS f (r :: p :: ps) := by
  show gA _ (gA _ _) = gA _ (gA _ _)
  rw [← gA_assoc, gA_comm (f p), gA_assoc]
theorem gD_swap (f : G → G) (p r : G) (ps : List G) : gD f (p :: r :: ps) = gD f (r :: p :: ps) := by
  unfold gD
  rw [gS_swap]
  refine gS_congr fun q _ => ?_
  have : gW (p :: r :: ps) q = gW (r :: p :: ps) q := by
    show gM _ (gM _ _) = gM _ (gM _ _)
    rw [← gM_assoc, gM_comm (dif q p), gM_assoc]
  rw [this]
theorem gD_add (f f' : G → G) (ps : List G) : gD (fun p => gA (f p) (f' p)) ps = gA (gD f ps) (gD f' ps) := by
  unfold gD
  rw [← gS_add]
  exact gS_congr fun q _ => gM_addL _ _ _
theorem gD_mul (c : G) (f : G → G) (ps : List G) : gD (fun p => gM c (f p)) ps = gM c (gD f ps) := by
  unfold gD
  rw [← gS_mul]
  exact gS_congr fun q _ => gM_assoc _ _ _
theorem gD_congr {f f' : G → G} {ps : List G} (h : ∀ p ∈ ps, f p = f' p) : gD f ps = gD f' ps :=
  gS_congr fun q hq => by rw [h q hq]
/-- the divided difference of a constant -/
theorem gD_one : ∀ (n : Nat) (ps : List G), ps.length = n + 2 → ps.Nodup → gD (fun _ => g1) ps = g0
  | n, p :: r :: ps, hl, hn => by
    have hn1 := List.nodup_cons.mp hn
    have hn2 := List.nodup_cons.mp hn1.2
    have hpr : r ≠ p := fun e => hn1.1 (e ▸ .head _)
    have hr' : r ∉ p :: ps := fun q => by
      rcases List.mem_cons.mp q with q | q
      · exact hpr q
      · exact hn2.1 q
    have a : gD (fun q => gM (gA q p) g1) (p :: r :: ps) = gD (fun _ => g1) (r :: ps) := gD_head (f := fun _ => g1) hn1.1
    have b : gD (fun q => gM (gA q r) g1) (p :: r :: ps) = gD (fun _ => g1) (p :: ps) := by
      rw [gD_swap]
      exact gD_head (f := fun _ => g1) hr'
    have c : gD (fun _ => gM (gA r p) g1) (p :: r :: ps) = gA (gD (fun _ => g1) (r :: ps)) (gD (fun _ => g1) (p :: ps)) := by
      rw [← a, ← b, ← gD_add]
      refine gD_congr fun q _ => ?_
      rw [← gM_addL, gA_swap, gA_self, gA_zeroL, gA_comm]
    have z : gA (gD (fun _ => g1) (r :: ps)) (gD (fun _ => g1) (p :: ps)) = g0 := by
      cases n with
      | zero =>
        have : ps = [] := List.eq_nil_of_length_eq_zero (by simpa using hl)
        subst this
        have one : ∀ x : G, gD (fun _ => g1) [x] = g1 := fun x => by
          have w1 : gW [x] x = g1 := by
            show gM (dif x x) g1 = g1
            unfold dif
            rw [if_pos rfl, gM_one]
          have i1 : gI g1 = g1 := by
            have := gI_mul g1_ne
            rwa [gM_comm, gM_one] at this
          show gA (gM g1 (gI (gW [x] x))) g0 = g1
          rw [w1, gA_zero, i1, gM_one]
        rw [one, one, gA_self]
      | succ n =>
        rw [gD_one n (r :: ps) (by simpa using hl) hn1.2, gD_one n (p :: ps) (by simpa using hl) (List.nodup_cons.mpr ⟨fun q => hn1.1 (.tail _ q), hn2.2⟩), gA_zero]
    rw [z, gM_one] at c
    have e : gD (fun _ => gA r p) (p :: r :: ps) = gM (gA r p) (gD (fun _ => g1) (p :: r :: ps)) := by
      rw [← gD_mul]
      exact gD_congr fun q _ => (gM_one _).symm
    rw [e] at c
    refine gM_cancel (gA_ne hpr) ?_
    rw [gM_comm, c, gM_zeroL]

/-- a polynomial's value, its leading coefficient first -/
noncomputable def hor (acc : G) : List G → G → G
  | [], _ => acc
  | c :: cs, p => hor (gA c (gM acc p)) cs p
/-- value of q at r, where the values at p are the coefficients of q -/
noncomputable def quo (acc : G) (p : G) : List G → G → G → G
  | [], v, _ => v
  | c :: cs, v, r => quo (gA c (gM acc p)) p cs (gA (gM v r) acc) r
theorem hor_quo (p r : G) : ∀ (cs : List G) (acc v : G), hor (gA (gM (gA r p) v) acc) cs r = gA (gM (gA r p) (quo acc p cs v r)) (hor acc cs p)
  | [], acc, v => rfl
  | c :: cs, acc, v => by
    show hor _ cs r = _
    have ih := hor_quo p r cs (gA c (gM acc p)) (gA (gM v r) acc)
    show hor (gA c (gM (gA (gM (gA r p) v) acc) r)) cs r = gA (gM (gA r p) (quo (gA c (gM acc p)) p cs (gA (gM v r) acc) r)) (hor (gA c (gM acc p)) cs p)
    rw [← ih]
    congr 1
    -- c + ((r+p) v + acc) r = (r+p)(v r + acc) + c + acc p
    rw [gM_addL _ _ r, gM_addR (gA r p), gM_assoc, gM_addL r p acc]
    rw [gM_comm acc r, gM_comm acc p]
    generalize gM (gA r p) (gM v r) = X
    generalize gM r acc = Y
    generalize gM p acc = Z
    -- c + (X + Y) = (X + (Y + Z)) + (c + Z)
    apply G.ext'
    simp only [gA]
    generalize c.v = c, X.v = X, Y.v = Y, Z.v = Z
    apply Nat.eq_of_testBit_eq
    intro i
    simp only [Nat.testBit_xor]
    cases c.testBit i <;> cases X.testBit i <;> cases Y.testBit i <;> cases Z.testBit i <;> rfl
/-- quo as Horner over its own coefficients -/
noncomputable def quoC (acc : G) (p : G) : List G → List G
  | [] => []
  | c :: cs => acc :: quoC (gA c (gM acc p)) p cs
theorem quo_hor (p r : G) : ∀ (cs : List G) (acc v : G), quo acc p cs v r = hor v (quoC acc p cs) r
  | [], _, _ => rfl
  | c :: cs, acc, v => by
    show quo _ p cs _ r = hor (gA acc (gM v r)) (quoC _ p cs) r
    rw [quo_hor p r cs, gA_comm]
theorem quoC_len (p : G) : ∀ (cs : List G) (acc : G), (quoC acc p cs).length = cs.length
  | [], _ => rfl
  | c :: cs, acc => by show (quoC _ p cs).length + 1 = cs.length + 1; rw [quoC_len p cs]
/-- the first zero coefficient falls away -/
theorem hor_zero (cs : List G) (r : G) : hor g0 (g0 :: cs) r = hor g0 cs r := by
  show hor (gA g0 (gM g0 r)) cs r = _
  rw [gM_zeroL, gA_zero]
theorem hor_split (c : G) (cs : List G) (p r : G) : hor g0 (c :: cs) r = gA (gM (gA r p) (hor g0 (quoC c p cs) r)) (hor g0 (c :: cs) p) := by
  have h := hor_quo p r cs c g0
  rw [gM_zero, gA_zeroL, quo_hor] at h
  have e : ∀ x, hor g0 (c :: cs) x = hor c cs x := fun x => by
    show hor (gA c (gM g0 x)) cs x = _
    rw [gM_zeroL, gA_zero]
  rw [e, e]
  exact h
/-- fewer coefficients than points: the divided difference is nought -/
theorem gD_hor : ∀ (cs ps : List G), cs.length < ps.length → ps.Nodup → gD (hor g0 cs) ps = g0
  | [], ps, _, _ => by
    have e : gD (fun _ => gM g0 g0) ps = gM g0 (gD (fun _ => g0) ps) := gD_mul g0 (fun _ => g0) ps
    have e2 : gD (hor g0 []) ps = gD (fun _ => gM g0 g0) ps := gD_congr fun q _ => (gM_zeroL _).symm
    rw [e2, e, gM_zeroL]
  | c :: cs, p :: ps, hl, hn => by
    have hn1 := List.nodup_cons.mp hn
    have e : gD (hor g0 (c :: cs)) (p :: ps) = gA (gD (hor g0 (quoC c p cs)) ps) (gM (hor g0 (c :: cs) p) (gD (fun _ => g1) (p :: ps))) := by
      rw [← gD_head hn1.1, ← gD_mul, ← gD_add]
      refine gD_congr fun q _ => ?_
      rw [gM_one]
      exact hor_split c cs p q
    have hl' : cs.length < ps.length := by simpa using hl
    rw [e, gD_hor (quoC c p cs) ps (by rw [quoC_len]; exact hl') hn1.2, gD_one (ps.length - 1) (p :: ps) (by simp; omega) hn, gM_zero, gA_zero]
  termination_by cs => cs.length
  decreasing_by rw [quoC_len]; simp

/-- Lagrange's coefficient of the point q for the place x -/
noncomputable def lagC (ps : List G) (x q : G) : G := gM (gP (fun r => gA r x) ps) (gI (gM (gA q x) (gW ps q)))
theorem gP_ne {f : G → G} : ∀ {ps : List G}, (∀ p ∈ ps, f p ≠ g0) → gP f ps ≠ g0
  | [], _ => g1_ne
  | p :: ps, h => gM_ne (h p (.head _)) (gP_ne fun q hq => h q (.tail _ hq))
theorem lagC_ne {ps : List G} {x q : G} (hx : x ∉ ps) (hq : q ∈ ps) : lagC ps x q ≠ g0 := by
  have d : ∀ p ∈ ps, gA p x ≠ g0 := fun p hp => gA_ne fun e => hx (e ▸ hp)
  exact gM_ne (gP_ne d) (gI_ne (gM_ne (d q hq) (gW_ne ps q)))
theorem lagrange {cs ps : List G} {x : G} (hl : cs.length ≤ ps.length) (hn : ps.Nodup) (hx : x ∉ ps) :
    gS (fun q => gM (hor g0 cs q) (lagC ps x q)) ps = hor g0 cs x := by
  have h := gD_hor cs (x :: ps) (Nat.lt_succ_of_le hl) (List.nodup_cons.mpr ⟨hx, hn⟩)
  have d : ∀ p ∈ ps, gA p x ≠ g0 := fun p hp => gA_ne fun e => hx (e ▸ hp)
  have e0 : gW (x :: ps) x = gP (fun r => gA r x) ps := by
    show gM (dif x x) (gW ps x) = _
    rw [show dif x x = g1 from by unfold dif; rw [if_pos rfl], gM_comm, gM_one]
    unfold gW
    have : ∀ {l : List G}, (∀ p ∈ l, p ≠ x) → gP (dif x) l = gP (fun r => gA r x) l := by
      intro l
      induction l with
      | nil => intro _; rfl
      | cons a l ih =>
        intro hh
        show gM _ _ = gM _ _
        rw [ih fun p hp => hh p (.tail _ hp)]
        unfold dif
        rw [if_neg (hh a (.head _))]
    exact this fun p hp e => hx (e ▸ hp)
  unfold gD at h
  change gA (gM (hor g0 cs x) (gI (gW (x :: ps) x))) (gS _ ps) = g0 at h
  rw [e0] at h
  have hP := gP_ne d
  have h2 := congrArg (gM (gP (fun r => gA r x) ps)) h
  rw [gM_zero, gM_addR, gM_comm (hor g0 cs x), ← gM_assoc, gI_mul hP, gM_comm g1, gM_one, ← gS_mul] at h2
  have h3 := congrArg (gA (hor g0 cs x)) h2
  rw [← gA_assoc, gA_self, gA_zeroL, gA_zero] at h3
  rw [← h3]
  refine gS_congr fun q hq => ?_
  have hne : x ≠ q := fun e => hx (e ▸ hq)
  have e : gW (x :: ps) q = gM (gA q x) (gW ps q) := by
    show gM (dif q x) (gW ps q) = _
    unfold dif
    rw [if_neg hne, gA_comm]
  rw [e]
  unfold lagC
  rw [← gM_assoc, ← gM_assoc, gM_comm (hor g0 cs q)]
end JA
end
section
open PySem PySem.W PyProof.Rows PySem.Calls
namespace JA
set_option maxRecDepth 100000

section
variable {g h h' : Heap} {L C : Addr} {m mc : Str → Option Value} {mu mu' : List (Addr × Obj)}
theorem Act.perm (X : Act g L h m mu) (p : mu.Perm mu') : Act g L h m mu' :=
  ⟨X.ns, X.keep, X.off, fun q hq => X.mus q (p.symm.subset hq), (p.map (·.1)).nodup_iff.mp X.nd⟩
theorem Act.fresh (X : Act g L h m mu) {C : Addr} (hC : h.objs.size ≤ C) : g.get? C = none ∧ C ≠ L ∧ ∀ p ∈ mu, p.1 ≠ C := by
  refine ⟨?_, Nat.ne_of_gt (Nat.lt_of_lt_of_le X.ltL hC), fun p hp => Nat.ne_of_lt (Nat.lt_of_lt_of_le (Heap.lt_size (X.mus p hp).1) hC)⟩
  cases q : g.get? C with
  | none => rfl
  | some o => exact absurd (Heap.lt_size (X.keep _ _ q)) (Nat.not_lt.mpr hC)
/-- into another frame: the old one's table is then an object that may turn -/
theorem Act.into (X : Act g L h m mu) (hn : h.Ns C mc) (h1 : g.get? C = none) (h2 : C ≠ L) (h3 : ∀ p ∈ mu, p.1 ≠ C) : ∃ oL, LCg.NsObj oL m ∧ Act g C h mc ((L, oL) :: mu) := by
  obtain ⟨oL, e, n⟩ := LCg.ns_obj X.ns
  refine ⟨oL, n, hn, X.keep, h1, fun p hp => ?_, ?_⟩
  · rcases List.mem_cons.mp hp with rfl | hp
    · exact ⟨e, Ne.symm h2, X.off⟩
    · exact ⟨(X.mus p hp).1, h3 p hp, (X.mus p hp).2.2⟩
  · refine List.nodup_cons.mpr ⟨fun q => ?_, X.nd⟩
    obtain ⟨p, hp, e⟩ := List.mem_map.mp q
    exact (X.mus p hp).2.1 e
theorem Act.outof {oL : Obj} (X : Act g C h mc ((L, oL) :: mu)) (n : LCg.NsObj oL m) : Act g L h m mu :=
  ⟨n.ns (X.mus _ (.head _)).1, X.keep, (X.mus _ (.head _)).2.2, fun p hp => by
    refine ⟨(X.mus p (.tail _ hp)).1, fun q => ?_, (X.mus p (.tail _ hp)).2.2⟩
    exact (List.nodup_cons.mp X.nd).1 (List.mem_map.mpr ⟨p, hp, q⟩), (List.nodup_cons.mp X.nd).2⟩
/-- what was changed is the frame's table alone, and it is left -/
theorem Act.leave {oL : Obj} (X : Act g C h mc ((L, oL) :: mu)) (n : LCg.NsObj oL m) (hs : Heap.SameBut C h h') : Act g L h' m mu := by
  have Y := X.outof n
  have k : ∀ b, b ≠ C → h'.get? b = h.get? b := fun b hb => hs.2 b hb
  have hg : ∀ b o, g.get? b = some o → b ≠ C := fun b o e q => by rw [q, X.off] at e; cases e
  have hL : L ≠ C := (X.mus _ (.head _)).2.1
  exact ⟨n.ns ((k L hL).trans (X.mus _ (.head _)).1), fun b o e => (k b (hg b o e)).trans (Y.keep b o e), Y.off,
    fun p hp => ⟨(k _ (X.mus p (.tail _ hp)).2.1).trans (Y.mus p hp).1, (Y.mus p hp).2⟩, Y.nd⟩
end

/-- the end of an element's making -/
inductive EltEnd (g : Heap) (C : Addr) (mc : Str → Option Value) (L I D : Addr) (oL oI : Obj) (ys : List Value) (J : Nat → List Value → Shared → List (Addr × Obj) → Prop) (i : Nat) (y : Value) (s₃ : Shared) : Prop
  | mk (mu' : List (Addr × Obj)) (X : Act g C s₃.heap mc ((L, oL) :: (I, oI) :: (D, lst ys ys.length) :: mu')) (j : J (i + 1) (ys ++ [y]) s₃ mu') : EltEnd g C mc L I D oL oI ys J i y s₃

section
variable {prog : Program} {w : World} {A : Around} {E : Value → Shared → Prop} {s : Shared} {g : Heap} {L : Addr} {env : Env}

/-- what assigning the target of a turn does -/
noncomputable def Assigns (prog : Program) (w : World) (A : Around) (target : Expr) (cenv : Env) (I : Addr) (St : Nat → Heap → Prop) (P : Nat → Value → Prop) (G : Nat → (Str → Option Value) → Prop) : Prop :=
  ∀ i v (s : Shared) (mc : Str → Option Value) (Q : Unit → Shared → Prop) (E : Value → Shared → Prop), P i v → St (i + 1) s.heap → s.heap.Ns cenv.locals mc →
    (∀ (h' : Heap) (tk : Nat) mc', G i mc' → h'.Ns cenv.locals mc' → (∀ c o, c ≠ cenv.locals → s.heap.get? c = some o → h'.get? c = some o) → Q () { s with heap := h', toks := tk }) →
    wpAny (model prog w) A (letOwnedTupleGo target (.ref I) v) (fun _ s₀ => wpAny (model prog w) A (assign target cenv v) Q E s₀) E s

theorem comp_block {elt iter target : Expr} {scope : Scope} {cl : List (Str × Addr)} {pos : Pos} {s₂ : Shared} {I : Addr} {fp : List Addr} {n : Nat} {P : Nat → Value → Prop} {St : Nat → Heap → Prop} {RR : Value → Addr → Result → Shared → Prop}
    {G : Nat → (Str → Option Value) → Prop}
    (W : Walks prog w A I fp [I] n P St) (hI : ∀ i h, St i h → ∃ o, h.get? I = some o) (hfp : ∀ b ∈ fp, b = I ∨ ∃ o, g.get? b = some o) (hsz : n ≤ sizeLine)
    (hcell : ∀ y ∈ scope.names, y.2 ≠ .cell) (hkind : scope.kind = .function)
    (hasg : ∀ C, Assigns prog w A target (compEnvC scope cl C env) I St P G)
    (J : Nat → List Value → Shared → List (Addr × Obj) → Prop) (hJ : ∀ i ys s s' mu, J i ys s mu → Same s s' → J i ys s' mu)
    {m : Str → Option Value} {mu₀ : List (Addr × Obj)} {o₀ : Obj} (hX : Act g L s₂.heap m ((I, o₀) :: mu₀)) (hst : St 0 s₂.heap) (hJ0 : J 0 [] s₂ mu₀)
    (turn : ∀ i ys (s : Shared) C D oL oI mc mu E', i < n → G i mc → J i ys s mu → LCg.NsObj oL m → Act g C s.heap mc ((L, oL) :: (I, oI) :: (D, lst ys ys.length) :: mu) →
      wpAny (model prog w) A (eval elt (compEnvC scope cl C env)) (EltEnd g C mc L I D oL oI ys J i) E' s)
    (done : ∀ (s : Shared) C D oL mc ys mu, ys.length = n → J n ys s mu → LCg.NsObj oL m → Act g C s.heap mc ((L, oL) :: (D, lst ys ys.length) :: mu) → RR (.ref D) C (.ok .next) s) :
    wpAny (model prog w) A (newList []) (fun acc s₃ => wpAny (model prog w) A (newFunctionEnv scope env.globals cl [] env.qual none .none (some env)) (fun cenv s₄ =>
      codeAny (model prog w) A (.compStart (.ListComp elt [⟨target, iter, [], 0⟩] scope pos) 0 (.ref I) acc { cenv with scope := relabel scope env }) (RR acc cenv.locals) s₄) E s₃) E s₂ := by
  refine wpAny_newObj_type (wpAny_newFunctionEnv hcell (by intro y hy; simp at hy) (fun h₁ hns₁ hsb₁ => ?_) hkind)
  dsimp only at hns₁ hsb₁ ⊢
  have X1 : Act g L _ m ((s₂.heap.objs.size, lst [] 0) :: (I, o₀) :: mu₀) := hX.push (lst [] 0)
  change Heap.SameBut _ (Heap.push (s₂.heap.push (lst [] 0)) _) h₁ at hsb₁
  change h₁.Ns (s₂.heap.push (lst [] 0)).objs.size _ at hns₁
  have Y1 := X1.fresh (Nat.le_refl _)
  generalize hH2 : s₂.heap.push (lst [] 0) = H2 at *
  have up : Stays H2 h₁ := fun b o e => hsb₁.extBut b o (Nat.ne_of_lt (Heap.lt_size e)) (Heap.get?_push_of_some _ e)
  have X2 := X1.grow up
  obtain ⟨oL, nL, X3⟩ := X2.into hns₁ Y1.1 Y1.2.1 Y1.2.2
  have X4 := X3.perm (mu' := (L, oL) :: (I, o₀) :: (s₂.heap.objs.size, lst [] 0) :: mu₀) (.cons _ (.swap _ _ _))
  have hst₁ : St 0 h₁ := W.frame _ _ _ hst fun b _ o e => up b o (hH2 ▸ Heap.get?_push_of_some _ e)
  clear X1 X2 X3 Y1
  generalize hC : H2.objs.size = C at *
  generalize hD : s₂.heap.objs.size = D at *
  have hns' := X4.ns
  have loop : ∀ (s₃ : Shared) mc, Act g C s₃.heap mc ((L, oL) :: (I, o₀) :: (D, lst [] 0) :: mu₀) → J 0 [] s₃ mu₀ → St 0 s₃.heap →
      codeAny (model prog w) A (.compLoop (.ListComp elt [⟨target, iter, [], 0⟩] scope pos) 0 (.ref I) (.ref D) (compEnvC scope cl C env)) (RR (.ref D) C) s₃ := by
    intro s₃ mc X hJ3 hst3
    refine kcp_loop (fun k s' => ∃ i ys mc mu oI, i ≤ n ∧ k = n + 1 - i ∧ ys.length = i ∧ J i ys s' mu ∧ Act g C s'.heap mc ((L, oL) :: (I, oI) :: (D, lst ys ys.length) :: mu) ∧ St i s'.heap) ?_ (n + 1)
      ⟨0, [], mc, mu₀, o₀, Nat.zero_le _, rfl, rfl, hJ3, X, hst3⟩
    rintro k s ⟨i, ys, mc, mu, oI, hi, rfl, hyl, hJi, X, st⟩
    have step : ∀ h' i', St i' h' → (∀ b o, b ∉ [I] → s.heap.get? b = some o → h'.get? b = some o) → ∃ o', Act g C h' mc ((L, oL) :: (I, o') :: (D, lst ys ys.length) :: mu) := fun h' i' st' hk => by
      obtain ⟨o', ho'⟩ := hI i' h' st'
      exact ⟨o', X.turn (.tail _ (.head _)) hk ho'⟩
    by_cases hlt : i < n
    · refine W.item i s _ _ hlt st fun v h' tk hP st' hk => ?_
      obtain ⟨o', X'⟩ := step h' _ st' hk
      refine hasg C i v { s with heap := h', toks := tk } mc _ _ hP st' X'.ns fun h₂ tk₂ mc₂ hG hn₂ hk₂ => ?_
      replace hk₂ : ∀ c o, c ≠ C → h'.get? c = some o → h₂.get? c = some o := hk₂
      have X₂ : Act g C h₂ mc₂ ((L, oL) :: (I, o') :: (D, lst ys ys.length) :: mu) :=
        ⟨hn₂, fun b o e => hk₂ b o (fun q => by rw [q, X'.off] at e; cases e) (X'.keep b o e), X'.off, fun p hp => ⟨hk₂ _ _ (X'.mus p hp).2.1 (X'.mus p hp).1, (X'.mus p hp).2⟩, X'.nd⟩
      have J₂ : J i ys { s with heap := h₂, toks := tk₂ } mu := hJ _ _ _ _ _ hJi ⟨rfl, rfl, rfl⟩
      have fpC : ∀ b ∈ fp, b ≠ C := fun b hb q => by
        rcases hfp b hb with rfl | ⟨o, e⟩
        · exact (X'.mus _ (.tail _ (.head _))).2.1 q
        · rw [q, X'.off] at e; cases e
      have st₂ : St (i + 1) h₂ := W.frame _ _ _ st' fun b hb o e => hk₂ b o (fpC b hb) e
      refine wpAny_mono (turn i ys { s with heap := h₂, toks := tk₂ } C D oL o' mc₂ mu _ hlt hG J₂ nL X₂) (fun y s₃ h₃ => ?_) fun _ _ e => e
      obtain ⟨mu', X₃, J₃⟩ := h₃
      have st₃ : St (i + 1) s₃.heap := W.frame _ _ _ st₂ fun b hb o e => by
        rcases hfp b hb with rfl | ⟨ob, hob⟩
        · have := X₂.get (.tail _ (.head _))
          rw [e] at this; cases this
          exact X₃.get (.tail _ (.head _))
        · have := X₂.keep _ _ hob
          rw [e] at this; cases this
          exact X₃.keep _ _ hob
      refine append_at (hsz := by show ys.toArray.size ≤ sizeLine; rw [List.size_toArray, hyl]; exact Nat.le_trans hi hsz) (X₃.get (.tail _ (.tail _ (.head _)))) fun h₅ hs₅ hD₅ => ?_
      have eL : (lst (ys ++ [y]) (ys ++ [y]).length) = { cls := .type "list", data := .seq (ys.toArray.push y) (ys.length + 1) } := (LCg.lst_snoc ys y).symm
      have X₅ : Act g C h₅ mc₂ ((L, oL) :: (I, o') :: (D, lst (ys ++ [y]) (ys ++ [y]).length) :: mu') := X₃.put (.tail _ (.tail _ (.head _))) hs₅ (by rw [eL]; exact hD₅)
      have fpD : ∀ b ∈ fp, b ≠ D := fun b hb q => by
        rcases hfp b hb with rfl | ⟨o, e⟩
        · have := (List.nodup_cons.mp (List.nodup_cons.mp X₃.nd).2).1
          exact this (by simp [q])
        · have := (X₃.mus _ (.tail _ (.tail _ (.head _)))).2.2
          rw [q, this] at e; cases e
      refine ⟨n + 1 - (i + 1), by omega, i + 1, ys ++ [y], mc₂, mu', o', hlt, rfl, by simp [hyl], hJ _ _ _ _ _ J₃ ⟨rfl, rfl, rfl⟩, X₅, W.frame _ _ _ st₃ fun b hb o e => hs₅.extBut b o (fpD b hb) e⟩
    · obtain rfl : i = n := Nat.le_antisymm hi (Nat.not_lt.mp hlt)
      refine W.done s _ _ st fun h' tk hk => ?_
      have Y := X.perm (mu' := (I, oI) :: (L, oL) :: (D, lst ys ys.length) :: mu) (.swap _ _ _)
      exact done _ _ _ oL mc ys mu hyl (hJ _ _ _ _ _ hJi ⟨rfl, rfl, rfl⟩) nL (Y.losing hk)
  have hJ1 : J 0 [] { s₂ with heap := h₁, toks := s₂.toks + ([] : List (Str × Value)).length } mu₀ := hJ _ _ _ _ _ hJ0 ⟨rfl, rfl, rfl⟩
  refine codeAny_compStart_list (loop _ _ X4 hJ1 hst₁) (W.self 0 _ _ _ hst₁ (loop _ _ X4 hJ1 hst₁))
end
end JA
end
section
open PySem PySem.W PyProof.Rows PySem.Calls
namespace JA
set_option maxRecDepth 100000

noncomputable def RangeIs (h : Heap) (r : Addr) (a b : Int) : Prop := ∃ t u v, IsRange h r a b 1 t u v
theorem range_size {a b : Int} {n : Nat} (e : b = a + n) : Builtin.Range.rangeSize a b 1 = (n : Int) := by
  rw [rangeSize_one]; split <;> omega
section
variable {prog : Program} {w : World} {A : Around} {E : Value → Shared → Prop} {s s₀ : Shared} {g : Heap} {L : Addr} {m : Str → Option Value} {mu : List (Addr × Obj)} {env : Env}
theorem j_range1 {n : Int} {t : Tok} {Q : Value → Shared → Prop} (X : Act g L s.heap m mu) (S : Same s₀ s) (h : ∀ r s', Same s₀ s' → Act g L s'.heap m mu → RangeIs s'.heap r 0 n → Q (.ref r) s') :
    wpAny (model prog w) A (call (.type "range") [.int n t]) Q E s :=
  call_range_1 (h _ _ (S.trans ⟨rfl, rfl, rfl⟩) (X.grow fun _ _ e => Heap.get?_push_of_some _ e) ⟨_, _, _, IsRange.new _ _ _ _ _ _ _⟩)
theorem j_range2 {a n : Int} {t u : Tok} {Q : Value → Shared → Prop} (X : Act g L s.heap m mu) (S : Same s₀ s) (h : ∀ r s', Same s₀ s' → Act g L s'.heap m mu → RangeIs s'.heap r a n → Q (.ref r) s') :
    wpAny (model prog w) A (call (.type "range") [.int a t, .int n u]) Q E s :=
  call_range_2 (h _ _ (S.trans ⟨rfl, rfl, rfl⟩) (X.grow fun _ _ e => Heap.get?_push_of_some _ e) ⟨_, _, _, IsRange.new _ _ _ _ _ _ _⟩)

theorem walks_range {I : Addr} (hh : A.handled = none) (a : Int) (n : Nat) : Walks prog w A I [I] [I] n (fun i v => ∃ t, v = .int (a + (i : Int)) t) (fun i h => IsRangeIter h I (a + (i : Nat) * 1) ((n : Int) - (i : Nat)) 1) := LCg.range_walks hh a n

/-- where the items come from: a list of the base, or a range -/
inductive Src (prog : Program) (w : World) (A : Around) (env : Env) (E : Value → Shared → Prop) (iter : Expr) (g : Heap) (L : Addr) (m : Str → Option Value) (mu : List (Addr × Obj)) (s : Shared) : Nat → (Nat → Value → Prop) → Prop
  | list {l : Addr} {items : Array Value} {n : Nat} (hl : g.IsList l items) (hn : items.size = n) (hit : ∀ (Q' : Value → Shared → Prop), Q' (.ref l) s → wpAny (model prog w) A (eval iter env) Q' E s) : Src prog w A env E iter g L m mu s n (fun i v => items[i]? = some v)
  | rng {a b : Int} {n : Nat} (e : b = a + n) (ha : 0 ≤ a) (hb : b ≤ 1000)
      (hit : ∀ (Q' : Value → Shared → Prop), (∀ r s', Same s s' → Act g L s'.heap m mu → RangeIs s'.heap r a b → Q' (.ref r) s') → wpAny (model prog w) A (eval iter env) Q' E s) : Src prog w A env E iter g L m mu s n (fun i v => ∃ t, v = .int (a + (i : Int)) t)

theorem Src.at {iter : Expr} {n : Nat} {P : Nat → Value → Prop} (hh : A.handled = none) (X : Act g L s.heap m mu) (S : Src prog w A env E iter g L m mu s n P) {Q : Value → Shared → Prop}
    (h : ∀ I o₀ fp St s₂, Walks prog w A I fp [I] n P St → (∀ i h, St i h → ∃ o, h.get? I = some o) → (∀ b ∈ fp, b = I ∨ ∃ o, g.get? b = some o) → ((∃ l, ∀ i h, St i h → h.IsListIter I l i) ∨ True) → Same s s₂ → Act g L s₂.heap m ((I, o₀) :: mu) → St 0 s₂.heap → Q (.ref I) s₂) :
    wpAny (model prog w) A (eval iter env) (fun x s₁ => wpAny (model prog w) A (pyIter x) Q E s₁) E s := by
  cases S with
  | list hl hn hit =>
    rename_i l items
    subst hn
    refine hit _ ?_
    have hl' : s.heap.IsList l items := let ⟨o, e, r⟩ := hl; ⟨o, X.keep _ _ e, r⟩
    have hlt : l < s.heap.objs.size := by obtain ⟨_, e, _⟩ := hl'; exact Heap.lt_size e
    refine wpAny_pyIter_list hl' (h _ _ _ _ _ (Walks.list hh s.heap.objs.size l (Nat.ne_of_lt hlt) items) (fun i h st => let ⟨o, e, _⟩ := st.1; ⟨o, e⟩) ?_ (.inr trivial) ⟨rfl, rfl, rfl⟩ (X.push _) ⟨⟨_, Heap.get?_push_size _ rfl, rfl, rfl⟩, hl'.push _⟩)
    intro b hb
    rcases List.mem_cons.mp hb with rfl | hb
    · exact .inl rfl
    · obtain ⟨o, e, _⟩ := hl
      exact .inr ⟨o, by rw [List.mem_singleton.mp hb]; exact e⟩
  | rng e ha hb hit =>
    rename_i a b
    refine hit _ fun r s' S' X' hr => ?_
    obtain ⟨t, u, v, hr⟩ := hr
    refine wpAny_pyIter_range hr (small_one (by omega) (by omega) (by omega) (by omega)) (h _ _ _ _ _ (walks_range hh a n) (fun i h st => ⟨_, st⟩) (fun b hb => .inl (List.mem_singleton.mp hb)) (.inr trivial) (S'.trans ⟨rfl, rfl, rfl⟩) (X'.push _) ?_)
    rw [range_size e]
    simpa [IsRangeIter] using Heap.get?_push_size _ rfl

theorem assigns_name {x : Str} {px : Pos} {cenv : Env} {I : Addr} {P : Nat → Value → Prop} {St : Nat → Heap → Prop} (hx : cenv.kindOf x = some .local) (hk : cenv.scope.kind = .function) :
    Assigns prog w A (.Name x px) cenv I St P (fun i mc => ∃ v, P i v ∧ mc x = some v) := by
  intro i v s mc Q E hP _ hn h
  refine wpAny_of_eq (show letOwnedTupleGo (.Name x px) (.ref I) v = pure () from rfl) ?_
  refine wpAny_assign_Name (wpAny_storeName_local hx hn (fun h₃ hn₃ hs₃ => ?_) (by show (cenv.scope.kind == .class || (cenv.scope.kind == .module && cenv.locals != cenv.globals)) = false; rw [hk]; rfl))
  exact h h₃ _ _ ⟨v, hP, by simp⟩ hn₃ fun c o hc e => hs₃.extBut c o hc e

theorem comp_eval {elt iter : Expr} {x : Str} {px pos : Pos} {scope : Scope} {cl : List (Str × Addr)} {n : Nat} {P : Nat → Value → Prop} {Q : Value → Shared → Prop}
    (hh : A.handled = none) (X : Act g L s.heap m mu) (S : Src prog w A env E iter g L m mu s n P) (hn : n ≤ 10000)
    (hclos : closureFor scope env = pure cl) (hcell : ∀ y ∈ scope.names, y.2 ≠ .cell) (hkind : scope.kind = .function)
    (hnames : ∀ y ∈ scope.names, y.2 = .local → scope.names.lookup y.1 = some .local) (hx : scope.names.lookup x = some .local)
    (J : Nat → List Value → Shared → List (Addr × Obj) → Prop) (hJ : ∀ i ys s s' mu, J i ys s mu → Same s s' → J i ys s' mu) (hJ0 : J 0 [] s mu)
    (turn : ∀ i ys (s : Shared) C D I oL oI mc mu E' v, i < n → P i v → mc x = some v → J i ys s mu → LCg.NsObj oL m → Act g C s.heap mc ((L, oL) :: (I, oI) :: (D, lst ys ys.length) :: mu) →
      wpAny (model prog w) A (eval elt (compEnvC scope cl C env)) (EltEnd g C mc L I D oL oI ys J i) E' s)
    (done : ∀ (s : Shared) D ys mu, ys.length = n → J n ys s mu → Act g L s.heap m ((D, lst ys ys.length) :: mu) → Q (.ref D) s)
    (hs : ∀ x, foldedSetIterable iter env x = pure x := by intro _; rfl) :
    wpAny (model prog w) A (eval (.ListComp elt [⟨.Name x px, iter, [], 0⟩] scope pos) env) Q E s := by
  rw [eval_ListComp]
  refine wpAny_comprehension_free (use := none) rfl hs hclos hkind hnames ?_
  refine S.at hh X fun I o₀ fp St s₂ W hI hfp _ S₂ X₂ st => ?_
  refine comp_block W hI hfp (by rw [sizeLine_eq]; omega) hcell hkind (fun C => assigns_name (lookup_relabel_local hx) (by simp [compEnvC, relabel, hkind])) J hJ X₂ st (hJ _ _ _ _ _ hJ0 S₂) ?_ ?_
  · rintro i ys s C D oL oI mc mu E' hi ⟨v, hP, hv⟩ j nL X
    exact turn i ys s C D I oL oI mc mu E' v hi hP hv j nL X
  · intro s C D oL mc ys mu hl j nL X
    exact ⟨mc, X.ns, fun h' hs' => done _ D ys mu hl (hJ _ _ _ _ _ j ⟨rfl, rfl, rfl⟩) (X.leave nL hs')⟩

theorem comp_assign {elt iter : Expr} {x y : Str} {px py pos spos : Pos} {scope : Scope} {cl : List (Str × Addr)} {n : Nat} {P : Nat → Value → Prop} {Q : Flow → Shared → Prop}
    (hLe : env.locals = L) (hy : env.kindOf y = some .local) (hp : env.scope.kind = .function)
    (hsw : swapsWith (.ListComp elt [⟨.Name x px, iter, [], 0⟩] scope pos) (some (.Name y py)) spos.line env = pure true)
    (hh : A.handled = none) (X : Act g L s.heap m mu) (S : Src prog w A env E iter g L m mu s n P) (hn : n ≤ 10000)
    (hclos : closureFor scope env = pure cl) (hcell : ∀ y ∈ scope.names, y.2 ≠ .cell) (hkind : scope.kind = .function)
    (hnames : ∀ y ∈ scope.names, y.2 = .local → scope.names.lookup y.1 = some .local) (hx : scope.names.lookup x = some .local)
    (J : Nat → List Value → Shared → List (Addr × Obj) → Prop) (hJ : ∀ i ys s s' mu, J i ys s mu → Same s s' → J i ys s' mu) (hJ0 : J 0 [] s mu)
    (turn : ∀ i ys (s : Shared) C D I oL oI mc mu E' v, i < n → P i v → mc x = some v → J i ys s mu → LCg.NsObj oL m → Act g C s.heap mc ((L, oL) :: (I, oI) :: (D, lst ys ys.length) :: mu) →
      wpAny (model prog w) A (eval elt (compEnvC scope cl C env)) (EltEnd g C mc L I D oL oI ys J i) E' s)
    (done : ∀ (s : Shared) D ys mu, ys.length = n → J n ys s mu → Act g L s.heap (fun z => if z = y then some (.ref D) else m z) ((D, lst ys ys.length) :: mu) → Q .next s)
    (hs : ∀ x, foldedSetIterable iter env x = pure x := by intro _; rfl) :
    wpAny (model prog w) A (exec (.Assign [.Name y py] (.ListComp elt [⟨.Name x px, iter, [], 0⟩] scope pos) spos) env) Q E s := by
  subst hLe
  rw [exec_Assign_Name_used _ _ _ _ hsw]
  refine wpAny_bind (wpAny_standAt (wpAny_bind ?_))
  show wpAny _ A (do let _ ← comprehension (.ListComp elt [⟨.Name x px, iter, [], 0⟩] scope pos) scope env _ (newList []) false (eval iter env) (some (assign (.Name y py) env))) _ _ s
  refine wpAny_bind (wpAny_mono (wpAny_comprehension_free (use := some (assign (.Name y py) env)) (Q := fun _ s' => Q .next s') rfl hs hclos hkind hnames ?_) (fun _ s' hq => wpAny_pure (wpAny_pure hq)) fun _ _ e => e)
  refine S.at hh X fun I o₀ fp St s₂ W hI hfp _ S₂ X₂ st => ?_
  refine comp_block W hI hfp (by rw [sizeLine_eq]; omega) hcell hkind (fun C => assigns_name (lookup_relabel_local hx) (by simp [compEnvC, relabel, hkind])) J hJ X₂ st (hJ _ _ _ _ _ hJ0 S₂) ?_ ?_
  · rintro i ys s C D oL oI mc mu E' hi ⟨v, hP, hv⟩ j nL X
    exact turn i ys s C D I oL oI mc mu E' v hi hP hv j nL X
  · intro s C D oL mc ys mu hl j nL X
    show wpAny _ A (assign (.Name y py) env (.ref D)) _ _ _
    have Y := X.outof nL
    refine wpAny_assign_Name (wpAny_storeName_local hy Y.ns (fun h₂ hn₂ hs₂ => ?_) (by show (env.scope.kind == .class || (env.scope.kind == .module && env.locals != env.globals)) = false; rw [hp]; rfl))
    have Y₂ := Y.set hn₂ hs₂
    have hC : C ≠ env.locals := Ne.symm (X.mus _ (.head _)).2.1
    have hnC : h₂.Ns C mc := X.ns.sameBut hs₂ hC
    obtain ⟨oL', nL', Z⟩ := Y₂.into hnC X.off hC fun p hp => (X.mus p (.tail _ hp)).2.1
    exact ⟨mc, hnC, fun h' hs' => done _ D ys mu hl (hJ _ _ _ _ _ j ⟨rfl, rfl, rfl⟩) (Z.leave nL' hs')⟩

/-- for x in range -/
theorem for_src {Q : Flow → Shared → Prop} {x : Str} {px pos : Pos} {iter : Expr} {body : List Stmt} {n : Nat} {P : Nat → Value → Prop} {m₀ : Str → Option Value} {mu₀ : List (Addr × Obj)}
    (hh : A.handled = none) (X : Act g L s.heap m₀ mu₀) (S : Src prog w A env E iter g L m₀ mu₀ s n P)
    (J : Nat → Shared → (Str → Option Value) → List (Addr × Obj) → Prop) (hJ : ∀ i s s' m mu, J i s m mu → Same s s' → J i s' m mu) (hJ0 : J 0 s m₀ mu₀)
    (turn : ∀ I i v o s m mu, i < n → P i v → J i s m mu → Act g L s.heap m ((I, o) :: mu) →
      wpAny (model prog w) A (storeName env x v) (fun _ s₂ => wpAny (model prog w) A (execs body env) (fun f s₃ => match f with
        | .next | .cont => NextOk g L I o J i s₃
        | .brk => Q .next s₃
        | .ret v => Q (.ret v) s₃) (notedBy (model prog w) A env fun e s' => cameBackBy (model prog w) A env E e s') s₂) (notedBy (model prog w) A env fun e s' => cameBackBy (model prog w) A env E e s') s)
    (done : ∀ s m mu, J n s m mu → Act g L s.heap m mu → Q .next s)
    (hs : ∀ x, foldedSetIterable iter env x = pure x := by intro _; rfl) : wpAny (model prog w) A (exec (.For (.Name x px) iter body [] pos) env) Q E s := by
  refine wpAny_For ?_ hs
  refine S.at hh X fun I o₀ fp St s₂ W hI hfp _ S₂ X₂ st => ?_
  exact for_walk W hI hfp J hJ (fun i v o s m mu hi hP hJi X => turn _ i v o s m mu hi hP hJi X) X₂ st (hJ _ _ _ _ _ hJ0 S₂) done
end
end JA
end
section
open PySem PySem.W PyProof.Rows PySem.Calls
namespace JA
set_option maxRecDepth 100000
-- nomac
section
variable {g h h' : Heap} {L : Addr} {m m' : Str → Option Value} {mu : List (Addr × Obj)}
/-- all that stands in a heap besides the frame -/
noncomputable def allOf (h : Heap) (L : Addr) : List (Addr × Obj) := (List.range h.objs.size).filterMap fun a => if a = L then none else (h.get? a).map fun o => (a, o)
theorem mem_allOf {a : Addr} {o : Obj} : (a, o) ∈ allOf h L ↔ h.get? a = some o ∧ a ≠ L := by
  unfold allOf
  rw [List.mem_filterMap]
  constructor
  · rintro ⟨b, hb, e⟩
    split at e
    · cases e
    · rename_i hne
      cases q : h.get? b with
      | none => rw [q] at e; cases e
      | some x => rw [q] at e; cases e; exact ⟨q, hne⟩
  · rintro ⟨e, hne⟩
    exact ⟨a, List.mem_range.mpr (Heap.lt_size e), by rw [if_neg hne, e]; rfl⟩
noncomputable def noHeap (h : Heap) : Heap := ⟨#[], h.life⟩
theorem noHeap_get (h : Heap) (a : Addr) : (noHeap h).get? a = none := by
  cases q : (noHeap h).get? a with
  | none => rfl
  | some o => exact absurd (Heap.lt_size q) (Nat.not_lt_zero _)
theorem Act.fr (X : Act g L h m mu) : Fr (noHeap h) L h m := ⟨X.ns, fun b o e => (by rw [noHeap_get] at e; cases e), Nat.zero_le _⟩
theorem allNews (h : Heap) (L : Addr) : News (noHeap h) L h (allOf h L) := fun p hp => ⟨(mem_allOf.mp hp).1, (mem_allOf.mp hp).2, noHeap_get _ _⟩
theorem Act.back {e : Heap} (X : Act g L h m mu) (hn : h'.Ns L m') (N : ∀ p ∈ allOf h L, h'.get? p.1 = some p.2) : Act g L h' m' mu :=
  ⟨hn, fun b o q => N (b, o) (mem_allOf.mpr ⟨X.keep b o q, fun q' => by rw [q', X.off] at q; cases q⟩), X.off,
   fun p hp => ⟨N p (mem_allOf.mpr ⟨(X.mus p hp).1, (X.mus p hp).2.1⟩), (X.mus p hp).2⟩, X.nd⟩
/-- behind a rule of the library that made one object -/
theorem Act.back1 {e : Heap} {D : Addr} {o : Obj} (X : Act g L h m mu) (F : Fr e L h' m') (N : News e L h' ((D, o) :: allOf h L)) (hD : h.objs.size ≤ D) : Act g L h' m' ((D, o) :: mu) := by
  have Y := X.back (e := e) F.ns fun p hp => (N p (.tail _ hp)).1
  have Z := X.fresh hD
  refine ⟨Y.ns, Y.keep, Y.off, fun p hp => ?_, ?_⟩
  · rcases List.mem_cons.mp hp with rfl | hp
    · exact ⟨(N _ (.head _)).1, Z.2.1, Z.1⟩
    · exact Y.mus p hp
  · refine List.nodup_cons.mpr ⟨fun hm => ?_, Y.nd⟩
    obtain ⟨p, hp, e⟩ := List.mem_map.mp hm
    exact Z.2.2 p hp e
theorem Act.back0 {e : Heap} (X : Act g L h m mu) (F : Fr e L h' m') (N : News e L h' (allOf h L)) : Act g L h' m' mu := X.back (e := e) F.ns fun p hp => (N p hp).1
/-- objects that turn no more go to the base -/
theorem Act.settle {mu₁ mu₂ : List (Addr × Obj)} (X : Act g L h m mu) (p : mu.Perm (mu₁ ++ mu₂)) : ∃ g', Act g' L h m mu₁ ∧ Stays g g' ∧ (∀ q ∈ mu₂, g'.get? q.1 = some q.2) := by
  have Y := X.perm p
  have Z : Act g L h m mu₁ := ⟨Y.ns, Y.keep, Y.off, fun q hq => Y.mus q (List.mem_append_left _ hq), by have := Y.nd; rw [List.map_append] at this; exact (List.nodup_append.mp this).1⟩
  obtain ⟨g', A, B, C, _⟩ := Z.rebase
  refine ⟨g', A, B, fun q hq => C _ _ (Y.mus q (List.mem_append_right _ hq)).1 (Y.mus q (List.mem_append_right _ hq)).2.1 fun hm => ?_⟩
  have := Y.nd
  rw [List.map_append] at this
  exact (List.nodup_append.mp this).2.2 q.1 hm q.1 (List.mem_map_of_mem hq) rfl
/-- the newest object goes to the base -/
theorem Act.settle1 {D : Addr} {o : Obj} (X : Act g L h m ((D, o) :: mu)) : ∃ g', Act g' L h m mu ∧ Stays g g' ∧ g'.get? D = some o := by
  obtain ⟨g', A, B, C⟩ := X.settle (mu₁ := mu) (mu₂ := [(D, o)]) (List.perm_append_comm (l₁ := [(D, o)]))
  exact ⟨g', A, B, C _ (.head _)⟩
/-- all that stands goes to the base -/
theorem Act.settle0 (X : Act g L h m mu) : ∃ g', Act g' L h m mu ∧ Stays g g' ∧ (∀ b o, h.get? b = some o → b ≠ L → b ∉ mu.map (·.1) → g'.get? b = some o) := by
  obtain ⟨g', A, B, C, _⟩ := X.rebase
  exact ⟨g', A, B, C⟩
theorem lst_isList {h : Heap} {a : Addr} {items : List Value} {n : Nat} (e : h.get? a = some (lst items n)) : h.IsList a items.toArray := ⟨_, e, rfl, n, rfl⟩
end

section
variable {prog : Program} {w : World} {A : Around} {E : Value → Shared → Prop} {s s₀ : Shared} {g : Heap} {L l : Addr} {m : Str → Option Value} {mu : List (Addr × Obj)} {value slice : Expr}
theorem j_slice {sl : Addr} {items : List Value} {vl vu : Value} {lo hi : Option Int} {Q : Value → Shared → Prop} (X : Act g L s.heap m mu) (S : Same s₀ s) (hl : s.heap.IsList l items.toArray) (hsl : s.heap.IsSliceOf sl vl vu .none) (pl : IsPart vl lo) (pu : IsPart vu hi)
    (hsz : items.length ≤ 10000)
    (h : ∀ a s', Same s₀ s' → Act g L s'.heap m ((a, lst (slicePick items.toArray lo hi none).toList 0) :: mu) → s.heap.objs.size ≤ a → Q (.ref a) s')
    (hs : subscripted slice false (.ref l) (.ref sl) = operate [.ref sl, .ref l] (getItem (.ref l) (.ref sl)))
    (ht : ∀ r, letTemporaryGo value (.ref l) r = pure ()) : wpAny (model prog w) A (subscriptTail value slice (.ref l) (.ref sl)) Q E s := by
  refine subscriptTail_ops hl.typeIs list_getitem_lookup (wpAny_getItem_list_slice hl hsl pl pu .none (by simp) ?_ (by rw [sizeLine_eq]; simp; omega)) hs ht
  exact h _ _ (S.trans ⟨rfl, rfl, rfl⟩) (X.push (lst (slicePick items.toArray lo hi none).toList 0)) (Nat.le_refl _)
theorem j_sliceB {sl : Addr} {b : Array UInt8} {t : Tok} {vl vu : Value} {lo hi : Option Int} {Q : Value → Shared → Prop} (S : Same s₀ s) (hsl : s.heap.IsSliceOf sl vl vu .none) (pl : IsPart vl lo) (pu : IsPart vu hi)
    (hw : KBy.whole b lo hi = false) (hz : (KBy.picked b lo hi).size ≤ 1000) (h : ∀ s' t', Same s₀ s' → s'.heap = s.heap → Q (.bytes (KBy.picked b lo hi) t') s')
    (hs : subscripted slice false (.bytes b t) (.ref sl) = operate [.ref sl, .bytes b t] (getItem (.bytes b t) (.ref sl)))
    (ht : ∀ r, letTemporaryGo value (.bytes b t) r = pure ()) : wpAny (model prog w) A (subscriptTail value slice (.bytes b t) (.ref sl)) Q E s :=
  tail_of_ItemOn ⟨"bytes", _, FB.slot_bytes_getitem.lookup, typeIs_bytes _ _ _, getItem_meets (typeIs_bytes _ _ _) (by decide) FB.slot_bytes_getitem FB.entry_bytes_getitem (FB.args_bytes_getitem_2 _ _) (KBy.meets_slice b t _ pl pu hw)
    ⟨hsl, by rw [sizeLine_eq]; omega, h _ _ (S.trans ⟨rfl, rfl, rfl⟩) rfl⟩⟩ hs ht
theorem j_copy {items : List Value} {Q : Value → Shared → Prop} (X : Act g L s.heap m mu) (S : Same s₀ s) (hl : s.heap.IsList l items.toArray) (hsz : items.length ≤ 10000)
    (h : ∀ a n s', Same s₀ s' → Act g L s'.heap m ((a, lst items n) :: mu) → s.heap.objs.size ≤ a → Q (.ref a) s') : wpAny (model prog w) A (call (.type "list") [.ref l]) Q E s := by
  obtain ⟨o, ho, hc, n, hd⟩ := hl
  refine call_list_seq l (.inl rfl) ho hc hd (fun h' c' hk hD => h _ c' _ (S.trans ⟨rfl, rfl, rfl⟩) (X.add hk (Nat.le_refl _) hD) (Nat.le_refl _)) (by rw [sizeLine_eq]; simp; omega)
theorem j_add {b : Addr} {vs ws : List Value} {Q : Value → Shared → Prop} (X : Act g L s.heap m mu) (S : Same s₀ s) (hl : s.heap.IsList l vs.toArray) (hb : s.heap.IsList b ws.toArray) (hsz : vs.length + ws.length ≤ 10000)
    (h : ∀ a s', Same s₀ s' → Act g L s'.heap m ((a, lst (vs ++ ws) 0) :: mu) → s.heap.objs.size ≤ a → Q (.ref a) s') : wpAny (model prog w) A (binaryOp .Add (.ref l) (.ref b)) Q E s :=
  add_lists X.fr (allNews _ _) hl hb (fun h' F' N' => h _ _ (S.trans ⟨rfl, rfl, rfl⟩) (X.back1 F' N' (Nat.le_refl _)) (Nat.le_refl _)) (by rw [sizeLine_eq]; omega)
theorem j_mul {v : Value} {k : Nat} {x : Int} {u : Tok} {Q : Value → Shared → Prop} (X : Act g L s.heap m mu) (S : Same s₀ s) (hl : s.heap.get? l = some (lst [v] k)) (hx : x ≤ 1000) (hx0 : 0 ≤ x)
    (h : ∀ a s', Same s₀ s' → Act g L s'.heap m ((a, lst (List.replicate x.toNat v) 0) :: mu) → s.heap.objs.size ≤ a → Q (.ref a) s') : wpAny (model prog w) A (binaryOp .Mult (.ref l) (.int x u)) Q E s := by
  refine mul_list X.fr (allNews _ _) hl (by omega) (by omega) (by simp; omega) fun h' F' N' => ?_
  have e : (List.foldl (fun x1 x2 => x1 ++ x2) #[] (List.replicate (if ([v].toArray : Array Value).isEmpty = true then 0 else x.toNat) [v].toArray)) = (List.replicate x.toNat v).toArray := by
    have : ∀ (n : Nat) (acc : List Value), List.foldl (fun x1 x2 => x1 ++ x2) acc.toArray (List.replicate n [v].toArray) = (acc ++ List.replicate n v).toArray := by
      intro n
      induction n with
      | zero => intro acc; simp
      | succ n ih =>
        intro acc
        rw [List.replicate_succ, List.foldl_cons, show acc.toArray ++ [v].toArray = (acc ++ [v]).toArray by simp, ih]
        simp [List.replicate_succ]
    simpa using this x.toNat []
  rw [e] at N'
  exact h _ _ (S.trans ⟨rfl, rfl, rfl⟩) (X.back1 F' N' (Nat.le_refl _)) (Nat.le_refl _)
theorem j_append {items : List Value} {n : Nat} {v : Value} {mu' : List (Addr × Obj)} {Q : Value → Shared → Prop} (X : Act g L s.heap m mu) (S : Same s₀ s) (U : Put l (lst items n) (lst (items ++ [v]) (n + 1)) mu mu') (hsz : items.length ≤ 10000)
    (h : ∀ s', Same s₀ s' → Act g L s'.heap m mu' → Q .none s') : wpAny (model prog w) A (call (.builtin "list.append") [.ref l, v]) Q E s := by
  refine append_at (X.get U.mem) (fun h' hs hD => h _ (S.trans ⟨rfl, rfl, rfl⟩) (X.put U hs ?_)) (by rw [sizeLine_eq]; simp; omega)
  rw [hD]; simp
theorem j_getappend {items : List Value} {n : Nat} {pl : Sem Bool} {Q : Value × List Value → Shared → Prop} (X : Act g L s.heap m mu) (hm : (l, lst items n) ∈ mu) (h : Q (.builtin "list.append", [.ref l]) s) :
    wpAny (model prog w) A (getMethod (.ref l) "append" pl) Q E s := Calls.getMethod_list_append (X.get hm) rfl rfl h
theorem j_bytes {vs : List Value} {ns : List Int} {Q : Value → Shared → Prop} (hh : A.handled = none) (X : Act g L s.heap m mu) (S : Same s₀ s) (hl : s.heap.IsList l vs.toArray) (hi : IntsAre vs ns) (hr : ∀ n ∈ ns, 0 ≤ n ∧ n < 256) (hz : vs.length ≤ 10000)
    (h : ∀ s' t, Same s₀ s' → Act g L s'.heap m mu → Q (.bytes (byteArr ns) t) s') : wpAny (model prog w) A (call (.type "bytes") [.ref l]) Q E s :=
  call_bytes_ints hl hi hr (by rw [sizeLine_eq]; omega) hh fun h' t k hk => h _ _ (S.trans ⟨rfl, rfl, rfl⟩) (X.grow hk)
end
section
variable {prog : Program} {w : World} {A : Around} {E : Value → Shared → Prop} {s : Shared} {g : Heap} {L : Addr} {env : Env}
/-- the loop itself, over a list of the base -/
theorem for_it {E' : Value → Shared → Prop} {Q : Flow → Shared → Prop} {x : Str} {px : Pos} {body : List Stmt} {l : Addr} {items : Array Value} {m₀ : Str → Option Value} {mu₀ : List (Addr × Obj)}
    (hh : A.handled = none) (X : Act g L s.heap m₀ mu₀) (hl : g.IsList l items)
    (J : Nat → Shared → (Str → Option Value) → List (Addr × Obj) → Prop) (hJ : ∀ i s s' m mu, J i s m mu → Same s s' → J i s' m mu) (hJ0 : J 0 s m₀ mu₀)
    (turn : ∀ I i v o s m mu, items[i]? = some v → J i s m mu → Act g L s.heap m ((I, o) :: mu) →
      wpAny (model prog w) A (storeName env x v) (fun _ s₂ => wpAny (model prog w) A (execs body env) (fun f s₃ => match f with
        | .next | .cont => NextOk g L I o J i s₃
        | .brk => Q .next s₃
        | .ret v => Q (.ret v) s₃) (notedBy (model prog w) A env fun e s' => cameBackBy (model prog w) A env E e s') s₂) (notedBy (model prog w) A env fun e s' => cameBackBy (model prog w) A env E e s') s)
    (done : ∀ s m mu, J items.size s m mu → Act g L s.heap m mu → Q .next s) :
    wpAny (model prog w) A (pyIter (.ref l)) (fun it s₂ => codeAny (model prog w) A (.forLoop (.Name x px) it body [] env) (fun r s' => match r with | .ok f => Q f s' | .error e => cameBackBy (model prog w) A env E e s') s₂) E' s := by
  have hl' : s.heap.IsList l items := let ⟨o, e, r⟩ := hl; ⟨o, X.keep _ _ e, r⟩
  have hlt : l < s.heap.objs.size := by obtain ⟨_, e, _⟩ := hl'; exact Heap.lt_size e
  refine wpAny_pyIter_list hl' ?_
  refine for_walk (g := g) (L := L) (I := s.heap.objs.size) (Walks.list hh s.heap.objs.size l (Nat.ne_of_lt hlt) items) (fun i h st => let ⟨o, e, _⟩ := st.1; ⟨o, e⟩) ?_ J hJ
    (fun i v o s m mu hi hP hJi X => turn _ i v o s m mu hP hJi X) (X.push _) ⟨⟨_, Heap.get?_push_size _ rfl, rfl, rfl⟩, hl'.push _⟩ (hJ _ _ _ _ _ hJ0 ⟨rfl, rfl, rfl⟩) done
  intro b hb
  rcases List.mem_cons.mp hb with rfl | hb
  · exact .inl rfl
  · obtain ⟨o, e, _⟩ := hl
    exact .inr ⟨o, by rw [List.mem_singleton.mp hb]; exact e⟩
end
theorem slice_len (vs : List Value) (lo hi : Option Int) : (slicePick vs.toArray lo hi none).toList.length ≤ vs.length := by
  have := slicePick_size_le vs.toArray lo hi none
  simpa using this
theorem IntsAre.at {vs : List Value} {ns : List Int} (h : IntsAre vs ns) {i : Nat} {v : Value} (e : vs[i]? = some v) : ∃ n t, v = .int n t := by
  induction h generalizing i with
  | nil => simp at e
  | cons n t r ih =>
    cases i with
    | zero => exact ⟨n, t, by simpa using e.symm⟩
    | succ i => exact ih (by simpa using e)
section
variable {prog : Program} {w : World} {A : Around} {E : Value → Shared → Prop} {s s₀ : Shared} {g : Heap} {L : Addr} {m : Str → Option Value} {mu : List (Addr × Obj)}
theorem j_newList {items : List Value} {Q : Value → Shared → Prop} (X : Act g L s.heap m mu) (S : Same s₀ s) (hz : items.length ≤ 10000)
    (h : ∀ a s', Same s₀ s' → Act g L s'.heap m ((a, lst items 0) :: mu) → s.heap.objs.size ≤ a → Q (.ref a) s') : wpAny (model prog w) A (newList items) Q E s :=
  wpAny_newObj_type (h _ _ (S.trans ⟨rfl, rfl, rfl⟩) (X.push (lst items 0)) (Nat.le_refl _)) (by show _ ≤ sizeLine; rw [sizeLine_eq]; simp; omega)
/-- a tuple's object -/
abbrev tupO (items : List Value) : Obj := { cls := .type "tuple", data := .seq items.toArray }
theorem j_newTuple {items : List Value} {Q : Value → Shared → Prop} (X : Act g L s.heap m mu) (S : Same s₀ s) (hz : items.length ≤ 10000)
    (h : ∀ a s', Same s₀ s' → Act g L s'.heap m ((a, tupO items) :: mu) → s.heap.objs.size ≤ a → Q (.ref a) s') : wpAny (model prog w) A (newTuple items) Q E s :=
  wpAny_newTuple (h _ _ (S.trans ⟨rfl, rfl, rfl⟩) (X.push (tupO items)) (Nat.le_refl _)) (by rw [sizeLine_eq]; omega)
end
theorem Same.go {a b c d : Shared} (x : Same a b) (y : Same c d) (e1 : c.gens = b.gens := by rfl) (e2 : c.drawn = b.drawn := by rfl) (e3 : c.os = b.os := by rfl) : Same a d :=
  ⟨y.1.trans (e1.trans x.1), y.2.1.trans (e2.trans x.2.1), y.2.2.trans (e3.trans x.2.2)⟩
theorem Fin.go {a b c d : Shared} (x : JA.Fin a b) (y : Same c d) (e1 : c.gens = b.gens := by rfl) (e3 : c.os = b.os := by rfl) : JA.Fin a d :=
  ⟨y.2.2.trans (e3.trans x.1), fun h => by rw [y.1, e1]; exact x.2 h⟩
theorem Fin.go2 {a b c d : Shared} (x : JA.Fin a b) (y : JA.Fin c d) (e1 : c.gens = b.gens := by rfl) (e3 : c.os = b.os := by rfl) : JA.Fin a d :=
  ⟨y.1.trans (e3.trans x.1), fun h => y.2 (by rw [e1]; exact x.2 h)⟩
/-- the arguments are reckoned: the call -/
structure JCallK (prog : Program) (w : World) (A : Around) (f : Value) (Q : Value → Shared → Prop) (E : Value → Shared → Prop) (vs : List Value) (s₁ : Shared) : Prop where
  keep : (JA.hd.heap_1 w.params).In s₁.heap
  go : wpAny (model prog w) A (call f vs) Q E s₁
structure JCallF (prog : Program) (w : World) (A : Around) (f : Addr) (o : Obj) (Q : Value → Shared → Prop) (E : Value → Shared → Prop) (vs : List Value) (s₁ : Shared) : Prop where
  keep : s₁.heap.get? f = some o
  go : wpAny (model prog w) A (call (.ref f) vs) Q E s₁
section
variable {prog : Program} {w : World} {A : Around} {E : Value → Shared → Prop} {s s₀ : Shared} {g : Heap} {L : Addr} {m : Str → Option Value} {mu : List (Addr × Obj)} {env : Env} {pos : Pos}
theorem JCallK.of {f : Value} {Q : Value → Shared → Prop} {vs : List Value} (hW : Wd w g) (X : Act g L s.heap m mu) (h : wpAny (model prog w) A (call f vs) Q E s) : JCallK prog w A f Q E vs s := ⟨Frag.In.keeps hW.K X.keep, h⟩
theorem JCallF.of {f : Addr} {o : Obj} {Q : Value → Shared → Prop} {vs : List Value} (hf : g.get? f = some o) (X : Act g L s.heap m mu) (h : wpAny (model prog w) A (call (.ref f) vs) Q E s) : JCallF prog w A f o Q E vs s := ⟨X.keep _ _ hf, h⟩
theorem j_callK {f : Value} {e : Expr} {rest : List Expr} {Q : Value → Shared → Prop} (hW : Wd w g) (X : Act g L s.heap m mu) (hk : keepIn (JA.hd.heap_1 w.params) f = true)
    (h : wpAny (model prog w) A (spliced (backTo pos (starEach (e :: rest) env))) (JCallK prog w A f Q E) E s)
    (he : starEach (e :: rest) env = (false, eval e env) :: starEach rest env) (hplain : (backTo pos (starEach rest env)).any (·.1) = false) :
    wpAny (model prog w) A (callWith pos f [] (backTo pos (starEach (e :: rest) env)) []) Q E s :=
  callWith_K (h₀ := s.heap) (Frag.In.keeps hW.K X.keep) hk (wpAny_mono h (fun _ _ x => ⟨x.keep, x.go⟩) fun _ _ x => x) he hplain
theorem j_callF {f : Addr} {o : Obj} {fd : FuncData} {e : Expr} {rest : List Expr} {Q : Value → Shared → Prop} (hd : o.data = .func fd)
    (h : wpAny (model prog w) A (spliced (backTo pos (starEach (e :: rest) env))) (JCallF prog w A f o Q E) E s)
    (he : starEach (e :: rest) env = (false, eval e env) :: starEach rest env) :
    wpAny (model prog w) A (callWith pos (.ref f) [] (backTo pos (starEach (e :: rest) env)) []) Q E s :=
  callWith_def hd (wpAny_mono h (fun _ _ x => ⟨x.keep, x.go⟩) fun _ _ x => x) he
end
theorem lookup_two {K : Frag} {a : Addr} {o o' : Obj} {P : Prop} (h : K.lookup a = some o) (h' : K.lookup a = some o') (k : o = o' → P) : P := by
  rw [h] at h'
  exact k (Option.some.inj h')

end JA
end
section
open PySem PySem.W PyProof.Rows PySem.Calls
namespace JA
set_option maxRecDepth 100000
-- nomac
/-- numbers as a list's items -/
noncomputable def NatsAre (items : List Value) (ns : List Nat) : Prop := IntsAre items (ns.map fun n : Nat => (n : Int))
theorem NatsAre.at {items : List Value} {ns : List Nat} (h : NatsAre items ns) {i n : Nat} (e : ns[i]? = some n) : ∃ t, items[i]? = some (.int (n : Int) t) :=
  IntsAre.get h i _ (by rw [List.getElem?_map, e]; rfl)
theorem NatsAre.len {items : List Value} {ns : List Nat} (h : NatsAre items ns) : items.length = ns.length := by simpa using IntsAre.length h
theorem NatsAre.snoc {items : List Value} {ns : List Nat} (h : NatsAre items ns) (n : Nat) (t : Tok) : NatsAre (items ++ [.int (n : Int) t]) (ns ++ [n]) := by
  unfold NatsAre
  rw [List.map_append]
  exact IntsAre.append h (.cons _ _ .nil)
theorem intsSet : ∀ {items : List Value} {ns : List Int} (_ : IntsAre items ns) (k : Nat) (x : Int) (t : Tok), IntsAre (items.set k (.int x t)) (ns.set k x)
  | _, _, .nil, _, _, _ => .nil
  | _, _, .cons n t h, 0, x, t' => .cons x t' h
  | _, _, .cons n t h, k + 1, x, t' => .cons n t (intsSet h k x t')
theorem NatsAre.set {items : List Value} {ns : List Nat} (h : NatsAre items ns) (k n : Nat) (t : Tok) : NatsAre (items.set k (.int (n : Int) t)) (ns.set k n) := by
  unfold NatsAre
  rw [List.map_set]
  exact intsSet h k _ t
theorem xti_snoc {items : List Value} {p i : Nat} {x : Nat} {t : Tok} (h : NatsAre items ((List.range (i + 1)).map fun q => xti q p)) (e : x = xti (i + 1) p) : NatsAre (items ++ [.int (x : Int) t]) ((List.range (i + 1 + 1)).map fun q => xti q p) := by
  rw [List.range_succ, List.map_append, e]
  exact h.snoc _ t
/-- the rows of coefficients, a list of lists -/
noncomputable def IsRows (g : Heap) (ra : Addr) (as : List Addr) (rs : List (List Nat)) : Prop :=
  g.IsList ra (as.map Value.ref).toArray ∧ as.length = rs.length ∧ ∀ (i : Nat) a r, as[i]? = some a → rs[i]? = some r → ∃ vs, g.IsList a vs.toArray ∧ NatsAre vs r
theorem IsRows.keeps {g h : Heap} {ra : Addr} {as : List Addr} {rs : List (List Nat)} (x : IsRows g ra as rs) (k : Stays g h) : IsRows h ra as rs :=
  ⟨let ⟨o, e, r⟩ := x.1; ⟨o, k _ _ e, r⟩, x.2.1, fun i a r h1 h2 => let ⟨vs, ⟨o, e, q⟩, n⟩ := x.2.2 i a r h1 h2; ⟨vs, ⟨o, k _ _ e, q⟩, n⟩⟩
/-- the values of all columns -/
noncomputable def colsN (rs : List (List Nat)) (p size : Nat) : List Nat := (List.range size).map fun j => horner (rs.map (·.getD j 0)) p
noncomputable def mixN (rs : List (List Nat)) (r : List Nat) (p size j : Nat) : List Nat := (List.range size).map fun q => if q < j then horner ((rs ++ [r]).map (·.getD q 0)) p else horner (rs.map (·.getD q 0)) p
theorem horner_snoc (cs : List Nat) (c p : Nat) : horner (cs ++ [c]) p = c ^^^ mulN (horner cs p) p := by
  unfold horner
  rw [List.foldl_append]
  rfl
theorem horner_lt {cs : List Nat} {p : Nat} (h : ∀ c ∈ cs, c < 256) (hp : p < 256) : horner cs p < 256 := by
  suffices ∀ acc, acc < 256 → cs.foldl (fun acc c => c ^^^ mulN acc p) acc < 256 from this 0 (by decide)
  induction cs with
  | nil => intro acc ha; exact ha
  | cons c cs ih =>
    intro acc ha
    exact ih (fun x hx => h x (.tail _ hx)) _ (x_lt (h c (.head _)) (mul_lt hp))
theorem mix_zero (rs : List (List Nat)) (r : List Nat) (p size : Nat) : mixN rs r p size 0 = colsN rs p size := by
  unfold mixN colsN
  exact List.map_congr_left fun q _ => by rw [if_neg (Nat.not_lt_zero _)]
theorem mix_all (rs : List (List Nat)) (r : List Nat) (p size : Nat) : mixN rs r p size size = colsN (rs ++ [r]) p size := by
  unfold mixN colsN
  exact List.map_congr_left fun q hq => by rw [if_pos (List.mem_range.mp hq)]
theorem mix_get (rs : List (List Nat)) (r : List Nat) (p size j i : Nat) (hi : i < size) : (mixN rs r p size j)[i]? = some (if i < j then horner ((rs ++ [r]).map (·.getD i 0)) p else horner (rs.map (·.getD i 0)) p) := by
  unfold mixN
  rw [List.getElem?_map, List.getElem?_range hi]
  rfl
theorem mix_len (rs : List (List Nat)) (r : List Nat) (p size j : Nat) : (mixN rs r p size j).length = size := by simp [mixN]
theorem mix_step (rs : List (List Nat)) (r : List Nat) (p size j : Nat) (hj : j < size) : (mixN rs r p size j).set j (r.getD j 0 ^^^ mulN (horner (rs.map (·.getD j 0)) p) p) = mixN rs r p size (j + 1) := by
  apply List.ext_getElem?
  intro i
  by_cases hi : i < size
  · rw [List.getElem?_set, mix_get _ _ _ _ _ _ hi, mix_get _ _ _ _ _ _ hi, mix_len]
    by_cases e : j = i
    · subst e
      rw [if_pos rfl, if_pos hj, if_pos (Nat.lt_succ_self _), List.map_append, List.map_singleton, horner_snoc]
    · rw [if_neg e]
      by_cases hlt : i < j
      · rw [if_pos hlt, if_pos (by omega)]
      · rw [if_neg hlt, if_neg (by omega)]
  · rw [List.getElem?_eq_none (by rw [List.length_set, mix_len]; omega), List.getElem?_eq_none (by rw [mix_len]; omega)]
theorem mix_at (rs : List (List Nat)) (r : List Nat) (p size j : Nat) (hj : j < size) : (mixN rs r p size j)[j]? = some (horner (rs.map (·.getD j 0)) p) := by
  unfold mixN
  rw [List.getElem?_map, List.getElem?_range hj]
  show some (if j < j then _ else _) = _
  rw [if_neg (Nat.lt_irrefl _)]
theorem nats_zero (t : Tok) : ∀ n, NatsAre (List.replicate n (.int 0 t)) (List.replicate n 0)
  | 0 => .nil
  | n + 1 => .cons 0 t (nats_zero t n)
theorem cols_nil (p size : Nat) : colsN [] p size = List.replicate size 0 := by
  unfold colsN
  apply List.ext_getElem
  · simp
  · intro i h1 h2
    simp [horner]
theorem mulTo_step (f p k : Nat) : mulTo f p (k + 1) = if (f >>> k) % 2 = 0 then mulTo f p k else mulTo f p k ^^^ xti k p := by
  show mulTo f p k ^^^ bitP f p k = _
  unfold bitP
  have e : f.testBit k = decide ((f >>> k) % 2 = 1) := by
    rw [Nat.testBit_eq_decide_div_mod_eq, Nat.shiftRight_eq_div_pow]
  rw [e]
  rcases Nat.mod_two_eq_zero_or_one (f >>> k) with h | h <;> simp [h]

end JA
end
section
open PySem PySem.W PyProof.Rows PySem.Calls
namespace JA
set_option maxRecDepth 100000
-- nomac
section
variable {prog : Program} {w : World} {A : Around} {E : Value → Shared → Prop} {s s₀ : Shared}
theorem RcAt_bytes (b : Array UInt8) (t : Tok) (c : Array UInt8) (u : Tok) : SeqAt.RcAt A s (.bytes b t) (.bytes c u) (b.toList == c.toList) := fun prog w E Q h =>
  richCompare_gives (typeIs_bytes s b t) (typeIs_bytes s c u) FB.slot_bytes_eq FB.entry_bytes_eq (FB.args_bytes_eq_2 _ _) (gives_bytes_eq b c t u) (fun x => nomatch x) h
theorem EqAt_bytes (b : Array UInt8) (t : Tok) (c : Array UInt8) (u : Tok) : SeqAt.EqAt A s (.bytes b t) (.bytes c u) (b.toList == c.toList) := fun prog w E Q h => by
  unfold eqBool
  refine wpAny_holding ?_
  refine wpAny_ite_split (fun hab => ?_) (fun _ => ?_)
  · have e : b = c := by have := eq_of_beq hab; injection this
    subst e
    exact wpAny_bind (wpAny_rule (wpAny_pure (by simpa using h)))
  · exact wpAny_bind (RcAt_bytes b t c u prog w E _ (wpAny_truthy_bool h))
/-- two tuples of two -/
theorem RcAt_pair {l b : Addr} {x y x' y' : Value} {e1 e2 : Bool} {n n' : Nat} (hl : s.heap.get? l = some { cls := .type "tuple", data := .seq #[x, y] n }) (hb : s.heap.get? b = some { cls := .type "tuple", data := .seq #[x', y'] n' }) (hu : A.units < cLine)
    (h1 : SeqAt.EqAt A.in1 s x x' e1) (h2 : SeqAt.EqAt A.in1 s y y' e2) : SeqAt.RcAt A s (.ref l) (.ref b) (e1 && e2) := by
  have := SeqAt.RcAt.tuples (A := A) (s := s) (l := l) (b := b) (items := #[x, y]) (items2 := #[x', y']) (e := fun j => if j = 0 then e1 else e2) ⟨_, hl, rfl, _, rfl⟩ ⟨_, hb, rfl, _, rfl⟩ hu (by
    intro j q1 q2
    match j, q1, q2 with
    | 0, _, _ => exact h1
    | 1, _, _ => exact h2
    | j + 2, q, _ => exact absurd q (by simp))
  simpa [List.range, List.range.loop] using this
theorem EqAt_pair {l b : Addr} {x y x' y' : Value} {e1 e2 : Bool} {n n' : Nat} (hne : l ≠ b) (hl : s.heap.get? l = some { cls := .type "tuple", data := .seq #[x, y] n }) (hb : s.heap.get? b = some { cls := .type "tuple", data := .seq #[x', y'] n' }) (hu : A.units < cLine)
    (h1 : SeqAt.EqAt A.in1 s x x' e1) (h2 : SeqAt.EqAt A.in1 s y y' e2) : SeqAt.EqAt A s (.ref l) (.ref b) (e1 && e2) := SeqAt.EqAt.of_refs hne (RcAt_pair hl hb hu h1 h2)
theorem j_eqPair {l b : Addr} {x y x' y' : Value} {e1 e2 : Bool} {n n' : Nat} {Q : Value → Shared → Prop} (hl : s.heap.get? l = some { cls := .type "tuple", data := .seq #[x, y] n }) (hb : s.heap.get? b = some { cls := .type "tuple", data := .seq #[x', y'] n' }) (hu : A.units < cLine)
    (h1 : SeqAt.EqAt A.in1 s x x' e1) (h2 : SeqAt.EqAt A.in1 s y y' e2) (h : Q (.bool (e1 && e2)) s) : wpAny (model prog w) A (compareOp .Eq (.ref l) (.ref b)) Q E s := RcAt_pair hl hb hu h1 h2 prog w E Q h
/-- lists of one length, unlike -/
theorem j_neList {l b : Addr} {items items2 : List Value} {e : Nat → Bool} {Q : Value → Shared → Prop} (hl : s.heap.IsList l items.toArray) (hb : s.heap.IsList b items2.toArray) (hsz : items.length = items2.length) (hu : A.units < cLine)
    (he : ∀ j v v', items[j]? = some v → items2[j]? = some v' → SeqAt.EqAt A.in1 s v v' (e j)) (h : Q (.bool (!(List.range items.length).all e)) s) : wpAny (model prog w) A (compareOp .NotEq (.ref l) (.ref b)) Q E s := by
  obtain ⟨⟨cls, dd, data, sl⟩, ho, hc, n, hd⟩ := id hl
  obtain ⟨⟨cls2, dd2, data2, sl2⟩, ho2, hc2, n2, hd2⟩ := id hb
  simp only at hc hd hc2 hd2
  subst hc hd hc2 hd2
  have hq : Q (.bool (!(List.range items.toArray.size).all e)) s := by simpa using h
  exact richCompare_meets_room (op := .NotEq) ⟨_, ho, rfl⟩ ⟨_, ho2, rfl⟩ F.slot_list_ne F.entry_list_ne (F.args_list_ne_2 _ _) (SeqAt.list_neAt l b items.toArray items2.toArray n n2 dd dd2 sl sl2 (by simpa using hsz) e)
    ⟨ho, ho2, fun j h1 h2 => he j _ _ (by simp at h1; simp [h1]) (by simp at h2; simp [h2]), show Value.bool (!(List.range items.toArray.size).all e) ≠ Value.notImplemented ∧ Q (.bool (!(List.range items.toArray.size).all e)) s from ⟨(fun x => nomatch x), hq⟩⟩ hu
/-- an octet -/
theorem j_itemB {value slice : Expr} {b : Array UInt8} {t : Tok} {i : Int} {u : Tok} {k : Nat} {c : UInt8} {Q : Value → Shared → Prop} (ei : i = (k : Int)) (hk : k ≤ 1000) (hc : b[k]? = some c) (h : Q (.int ((c.toNat : Nat) : Int) s.toks) { s with toks := s.toks + 1 })
    (hz : b.size ≤ 1000) (hs : subscripted slice false (.bytes b t) (.int i u) = operate [.bytes b t, .int i u] (getItem (.bytes b t) (.int i u)))
    (ht : ∀ r, letTemporaryGo value (.bytes b t) r = pure ()) : wpAny (model prog w) A (subscriptTail value slice (.bytes b t) (.int i u)) Q E s := by
  subst ei
  have hlt : k < b.size := by
    rcases Nat.lt_or_ge k b.size with q | q
    · exact q
    · rw [Array.getElem?_eq_none q] at hc; cases hc
  have e : b.toList.getD ((k : Nat) : Int).toNat 0 = c := by
    rw [Int.toNat_natCast, List.getD_eq_getElem?_getD, Array.getElem?_toList, hc]; rfl
  exact tail_of_ItemOn ⟨"bytes", _, FB.slot_bytes_getitem.lookup, typeIs_bytes _ _ _, getItem_bytes (l := b.toList) (by rw [Array.length_toList]; omega) (by omega) (by rw [Array.length_toList]; omega) (by rw [e]; exact h)⟩ hs ht
/-- octets, one of them turned -/
noncomputable def bentL (D : Array UInt8) (n tu mo : Nat) : List Nat := (List.range n).map fun k => (D.getD k 0).toNat ^^^ (if k = tu then mo else 0)
noncomputable def bentB (D : Array UInt8) (n tu mo : Nat) : Array UInt8 := byteArr ((bentL D n tu mo).map fun n : Nat => (n : Int))
theorem bentL_succ (D : Array UInt8) (n tu mo : Nat) : bentL D (n + 1) tu mo = bentL D n tu mo ++ [(D.getD n 0).toNat ^^^ (if n = tu then mo else 0)] := by
  unfold bentL
  rw [List.range_succ, List.map_append]
  rfl
theorem bentL_lt {D : Array UInt8} {n tu mo : Nat} (hm : mo < 256) : ∀ v ∈ bentL D n tu mo, v < 256 := by
  intro v hv
  obtain ⟨k, _, rfl⟩ := List.mem_map.mp hv
  refine x_lt (D.getD k 0).toNat_lt ?_
  split
  · exact hm
  · decide
theorem bent_ints {D : Array UInt8} {n tu mo : Nat} (hm : mo < 256) : ∀ z ∈ (bentL D n tu mo).map (fun n : Nat => (n : Int)), 0 ≤ z ∧ z < 256 := by
  intro z hz
  obtain ⟨k, hk, rfl⟩ := List.mem_map.mp hz
  have := bentL_lt hm k hk
  omega
end
section
variable {prog : Program} {w : World} {A : Around} {E : Value → Shared → Prop} {s s₀ : Shared} {g : Heap} {L : Addr} {m : Str → Option Value} {mu : List (Addr × Obj)}
theorem j_addB {b c : Array UInt8} {t u : Tok} {Q : Value → Shared → Prop} (X : Act g L s.heap m mu) (S : Same s₀ s) (hsz : b.size + c.size ≤ 1000) (h : ∀ s' t', Same s₀ s' → Act g L s'.heap m mu → Q (.bytes (b ++ c) t') s') : wpAny (model prog w) A (binaryOp .Add (.bytes b t) (.bytes c u)) Q E s :=
  KBy.add_bytes (by omega) fun t' k => h { s with toks := k } t' (S.trans ⟨rfl, rfl, rfl⟩) X
end
section
variable {prog : Program} {w : World} {A : Around} {E : Value → Shared → Prop} {s s₀ : Shared} {g : Heap} {L : Addr} {m : Str → Option Value} {mu : List (Addr × Obj)} {value slice : Expr}
theorem j_cutB {sl : Addr} {b : Array UInt8} {t : Tok} {vl vu : Value} {lo hi : Option Int} {Q : Value → Shared → Prop} (X : Act g L s.heap m mu) (S : Same s₀ s) (hsl : s.heap.IsSliceOf sl vl vu .none) (pl : IsPart vl lo) (pu : IsPart vu hi)
    (hz : b.size ≤ 1000) (h : ∀ s' t', Same s₀ s' → Act g L s'.heap m mu → Q (.bytes (KBy.picked b lo hi) t') s')
    (hs : subscripted slice false (.bytes b t) (.ref sl) = operate [.ref sl, .bytes b t] (getItem (.bytes b t) (.ref sl)))
    (ht : ∀ r, letTemporaryGo value (.bytes b t) r = pure ()) : wpAny (model prog w) A (subscriptTail value slice (.bytes b t) (.ref sl)) Q E s :=
  tail_of_ItemOn ⟨"bytes", _, FB.slot_bytes_getitem.lookup, typeIs_bytes _ _ _, getItem_meets (typeIs_bytes _ _ _) (by decide) FB.slot_bytes_getitem FB.entry_bytes_getitem (FB.args_bytes_getitem_2 _ _) (KBc.meets_slice2 b t _ pl pu)
    ⟨hsl, Nat.le_trans (KBc.size_picked_le b lo hi) (by rw [sizeLine_eq]; omega), fun t' k => h { s with toks := k } t' (S.trans ⟨rfl, rfl, rfl⟩) X⟩⟩ hs ht
end
noncomputable def upB (b : Array UInt8) (k : Nat) : Array UInt8 := (b.toList.take k).toArray
noncomputable def dropB (b : Array UInt8) (k : Nat) : Array UInt8 := (b.toList.drop k).toArray
theorem picked_up (b : Array UInt8) : KBy.picked b none (some 4) = upB b 4 := by
  rw [KBc.picked_eq]
  unfold upB
  congr 1
  show (b.toList.drop 0).take (clipAt b.size 4 - 0) = _
  rw [KBc.clip_lit, List.drop_zero, Nat.sub_zero]
  rcases Nat.le_total 4 b.size with h | h
  · rw [Nat.min_eq_left h]
  · rw [Nat.min_eq_right h, List.take_of_length_le (by simp), List.take_of_length_le (by simpa using h)]
theorem picked_drop (b : Array UInt8) : KBy.picked b (some 4) none = dropB b 4 := by
  rw [KBc.picked_eq]
  unfold dropB
  congr 1
  show (b.toList.drop (clipAt b.size 4)).take (b.size - clipAt b.size 4) = _
  rw [KBc.clip_lit]
  rcases Nat.le_total 4 b.size with h | h
  · rw [Nat.min_eq_left h, List.take_of_length_le (by simp)]
  · rw [Nat.min_eq_right h, List.take_of_length_le (by simp), List.drop_of_length_le (by simp), List.drop_of_length_le (by simpa using h)]
theorem up_size (b : Array UInt8) (k : Nat) : (upB b k).size = min k b.size := by simp [upB]
theorem drop_size (b : Array UInt8) (k : Nat) : (dropB b k).size = b.size - k := by simp [dropB]
theorem up_drop (b : Array UInt8) (k : Nat) : upB b k ++ dropB b k = b := by
  apply Array.toList_inj.mp
  simp [upB, dropB]
section
variable {prog : Program} {w : World} {A : Around} {E : Value → Shared → Prop} {s : Shared} {value slice : Expr}
theorem j_item1 {t : Addr} {x y : Value} {n : Nat} {u : Tok} {Q : Value → Shared → Prop} (ht : s.heap.get? t = some { cls := .type "tuple", data := .seq #[x, y] n }) (h : Q y s)
    (hs : subscripted slice false (.ref t) (.int 1 u) = operate [.ref t, .int 1 u] (getItem (.ref t) (.int 1 u))) :
    wpAny (model prog w) A (subscriptTail value slice (.ref t) (.int 1 u)) Q E s :=
  tail_any (IsTup.typeIs (items := #[x, y]) ⟨_, ht, rfl, _, rfl⟩) slot_tuple_getitem.lookup (getItem_tuple (items := #[x, y]) (j := 1) ⟨_, ht, rfl, _, rfl⟩ (by decide) (by decide) (by simp [seqIndex?]) rfl h) hs
end

end JA
end
section
open PySem PySem.W PyProof.Rows PySem.Calls
namespace JA
set_option maxRecDepth 100000
-- nomac
/-- the end of an element's making -/
inductive EltEndG (g : Heap) (C : Addr) (mc : Str → Option Value) (L I D : Addr) (oL oI : Obj) (ys : List Value) (J : Nat → List Value → Heap → Shared → List (Addr × Obj) → Prop) (i : Nat) (y : Value) (s₃ : Shared) : Prop
  | mk (g' : Heap) (mu' : List (Addr × Obj)) (k : Stays g g') (X : Act g' C s₃.heap mc ((L, oL) :: (I, oI) :: (D, lst ys ys.length) :: mu')) (j : J (i + 1) (ys ++ [y]) g' s₃ mu') : EltEndG g C mc L I D oL oI ys J i y s₃

section
variable {prog : Program} {w : World} {A : Around} {E : Value → Shared → Prop} {s : Shared} {g : Heap} {L : Addr} {env : Env}

theorem comp_blockG {elt iter target : Expr} {scope : Scope} {cl : List (Str × Addr)} {pos : Pos} {s₂ : Shared} {I : Addr} {fp : List Addr} {n : Nat} {P : Nat → Value → Prop} {St : Nat → Heap → Prop} {RR : Value → Addr → Result → Shared → Prop}
    {G : Nat → (Str → Option Value) → Prop}
    (W : Walks prog w A I fp [I] n P St) (hI : ∀ i h, St i h → ∃ o, h.get? I = some o) (hfp : ∀ b ∈ fp, b = I ∨ ∃ o, g.get? b = some o) (hsz : n ≤ sizeLine)
    (hcell : ∀ y ∈ scope.names, y.2 ≠ .cell) (hkind : scope.kind = .function)
    (hasg : ∀ C, Assigns prog w A target (compEnvC scope cl C env) I St P G)
    (J : Nat → List Value → Heap → Shared → List (Addr × Obj) → Prop) (hJ : ∀ i ys g s s' mu, J i ys g s mu → Same s s' → J i ys g s' mu)
    {m : Str → Option Value} {mu₀ : List (Addr × Obj)} {o₀ : Obj} (hX : Act g L s₂.heap m ((I, o₀) :: mu₀)) (hst : St 0 s₂.heap) (hJ0 : J 0 [] g s₂ mu₀)
    (turn : ∀ g' i ys (s : Shared) C D oL oI mc mu E', i < n → G i mc → Stays g g' → J i ys g' s mu → LCg.NsObj oL m → Act g' C s.heap mc ((L, oL) :: (I, oI) :: (D, lst ys ys.length) :: mu) →
      wpAny (model prog w) A (eval elt (compEnvC scope cl C env)) (EltEndG g' C mc L I D oL oI ys J i) E' s)
    (done : ∀ g' (s : Shared) C D oL mc ys mu, ys.length = n → Stays g g' → J n ys g' s mu → LCg.NsObj oL m → Act g' C s.heap mc ((L, oL) :: (D, lst ys ys.length) :: mu) → RR (.ref D) C (.ok .next) s) :
    wpAny (model prog w) A (newList []) (fun acc s₃ => wpAny (model prog w) A (newFunctionEnv scope env.globals cl [] env.qual none .none (some env)) (fun cenv s₄ =>
      codeAny (model prog w) A (.compStart (.ListComp elt [⟨target, iter, [], 0⟩] scope pos) 0 (.ref I) acc { cenv with scope := relabel scope env }) (RR acc cenv.locals) s₄) E s₃) E s₂ := by
  refine wpAny_newObj_type (wpAny_newFunctionEnv hcell (by intro y hy; simp at hy) (fun h₁ hns₁ hsb₁ => ?_) hkind)
  dsimp only at hns₁ hsb₁ ⊢
  have X1 : Act g L _ m ((s₂.heap.objs.size, lst [] 0) :: (I, o₀) :: mu₀) := hX.push (lst [] 0)
  change Heap.SameBut _ (Heap.push (s₂.heap.push (lst [] 0)) _) h₁ at hsb₁
  change h₁.Ns (s₂.heap.push (lst [] 0)).objs.size _ at hns₁
  have Y1 := X1.fresh (Nat.le_refl _)
  generalize hH2 : s₂.heap.push (lst [] 0) = H2 at *
  have up : Stays H2 h₁ := fun b o e => hsb₁.extBut b o (Nat.ne_of_lt (Heap.lt_size e)) (Heap.get?_push_of_some _ e)
  have X2 := X1.grow up
  obtain ⟨oL, nL, X3⟩ := X2.into hns₁ Y1.1 Y1.2.1 Y1.2.2
  have X4 := X3.perm (mu' := (L, oL) :: (I, o₀) :: (s₂.heap.objs.size, lst [] 0) :: mu₀) (.cons _ (.swap _ _ _))
  have hst₁ : St 0 h₁ := W.frame _ _ _ hst fun b _ o e => up b o (hH2 ▸ Heap.get?_push_of_some _ e)
  clear X1 X2 X3 Y1
  generalize hC : H2.objs.size = C at *
  generalize hD : s₂.heap.objs.size = D at *
  have hns' := X4.ns
  have loop : ∀ (s₃ : Shared) mc, Act g C s₃.heap mc ((L, oL) :: (I, o₀) :: (D, lst [] 0) :: mu₀) → J 0 [] g s₃ mu₀ → St 0 s₃.heap →
      codeAny (model prog w) A (.compLoop (.ListComp elt [⟨target, iter, [], 0⟩] scope pos) 0 (.ref I) (.ref D) (compEnvC scope cl C env)) (RR (.ref D) C) s₃ := by
    intro s₃ mc X hJ3 hst3
    refine kcp_loop (fun k s' => ∃ g' i ys mc mu oI, Stays g g' ∧ i ≤ n ∧ k = n + 1 - i ∧ ys.length = i ∧ J i ys g' s' mu ∧ Act g' C s'.heap mc ((L, oL) :: (I, oI) :: (D, lst ys ys.length) :: mu) ∧ St i s'.heap) ?_ (n + 1)
      ⟨g, 0, [], mc, mu₀, o₀, fun _ _ e => e, Nat.zero_le _, rfl, rfl, hJ3, X, hst3⟩
    rintro k s ⟨g', i, ys, mc, mu, oI, kg, hi, rfl, hyl, hJi, X, st⟩
    replace hfp : ∀ b ∈ fp, b = I ∨ ∃ o, g'.get? b = some o := fun b hb => (hfp b hb).imp id fun ⟨o, e⟩ => ⟨o, kg _ _ e⟩
    have step : ∀ h' i', St i' h' → (∀ b o, b ∉ [I] → s.heap.get? b = some o → h'.get? b = some o) → ∃ o', Act g' C h' mc ((L, oL) :: (I, o') :: (D, lst ys ys.length) :: mu) := fun h' i' st' hk => by
      obtain ⟨o', ho'⟩ := hI i' h' st'
      exact ⟨o', X.turn (.tail _ (.head _)) hk ho'⟩
    by_cases hlt : i < n
    · refine W.item i s _ _ hlt st fun v h' tk hP st' hk => ?_
      obtain ⟨o', X'⟩ := step h' _ st' hk
      refine hasg C i v { s with heap := h', toks := tk } mc _ _ hP st' X'.ns fun h₂ tk₂ mc₂ hG hn₂ hk₂ => ?_
      replace hk₂ : ∀ c o, c ≠ C → h'.get? c = some o → h₂.get? c = some o := hk₂
      have X₂ : Act g' C h₂ mc₂ ((L, oL) :: (I, o') :: (D, lst ys ys.length) :: mu) :=
        ⟨hn₂, fun b o e => hk₂ b o (fun q => by rw [q, X'.off] at e; cases e) (X'.keep b o e), X'.off, fun p hp => ⟨hk₂ _ _ (X'.mus p hp).2.1 (X'.mus p hp).1, (X'.mus p hp).2⟩, X'.nd⟩
      have J₂ : J i ys g' { s with heap := h₂, toks := tk₂ } mu := hJ _ _ _ _ _ _ hJi ⟨rfl, rfl, rfl⟩
      have fpC : ∀ b ∈ fp, b ≠ C := fun b hb q => by
        rcases hfp b hb with rfl | ⟨o, e⟩
        · exact (X'.mus _ (.tail _ (.head _))).2.1 q
        · rw [q, X'.off] at e; cases e
      have st₂ : St (i + 1) h₂ := W.frame _ _ _ st' fun b hb o e => hk₂ b o (fpC b hb) e
      refine wpAny_mono (turn g' i ys { s with heap := h₂, toks := tk₂ } C D oL o' mc₂ mu _ hlt hG kg J₂ nL X₂) (fun y s₃ h₃ => ?_) fun _ _ e => e
      obtain ⟨g₃, mu', k₃, X₃, J₃⟩ := h₃
      have st₃ : St (i + 1) s₃.heap := W.frame _ _ _ st₂ fun b hb o e => by
        rcases hfp b hb with rfl | ⟨ob, hob⟩
        · have := X₂.get (.tail _ (.head _))
          rw [e] at this; cases this
          exact X₃.get (.tail _ (.head _))
        · have := X₂.keep _ _ hob
          rw [e] at this; cases this
          exact X₃.keep _ _ (k₃ _ _ hob)
      refine append_at (hsz := by show ys.toArray.size ≤ sizeLine; rw [List.size_toArray, hyl]; exact Nat.le_trans hi hsz) (X₃.get (.tail _ (.tail _ (.head _)))) fun h₅ hs₅ hD₅ => ?_
      have eL : (lst (ys ++ [y]) (ys ++ [y]).length) = { cls := .type "list", data := .seq (ys.toArray.push y) (ys.length + 1) } := (LCg.lst_snoc ys y).symm
      have X₅ : Act g₃ C h₅ mc₂ ((L, oL) :: (I, o') :: (D, lst (ys ++ [y]) (ys ++ [y]).length) :: mu') := X₃.put (.tail _ (.tail _ (.head _))) hs₅ (by rw [eL]; exact hD₅)
      have fpD : ∀ b ∈ fp, b ≠ D := fun b hb q => by
        rcases hfp b hb with rfl | ⟨o, e⟩
        · have := (List.nodup_cons.mp (List.nodup_cons.mp X₃.nd).2).1
          exact this (by simp [q])
        · have := (X₃.mus _ (.tail _ (.tail _ (.head _)))).2.2
          rw [q] at e
          rw [k₃ _ _ e] at this; cases this
      refine ⟨n + 1 - (i + 1), by omega, g₃, i + 1, ys ++ [y], mc₂, mu', o', fun b o e => k₃ _ _ (kg _ _ e), hlt, rfl, by simp [hyl], hJ _ _ _ _ _ _ J₃ ⟨rfl, rfl, rfl⟩, X₅, W.frame _ _ _ st₃ fun b hb o e => hs₅.extBut b o (fpD b hb) e⟩
    · obtain rfl : i = n := Nat.le_antisymm hi (Nat.not_lt.mp hlt)
      refine W.done s _ _ st fun h' tk hk => ?_
      have Y := X.perm (mu' := (I, oI) :: (L, oL) :: (D, lst ys ys.length) :: mu) (.swap _ _ _)
      exact done g' _ _ _ oL mc ys mu hyl kg (hJ _ _ _ _ _ _ hJi ⟨rfl, rfl, rfl⟩) nL (Y.losing hk)
  have hJ1 : J 0 [] g { s₂ with heap := h₁, toks := s₂.toks + ([] : List (Str × Value)).length } mu₀ := hJ _ _ _ _ _ _ hJ0 ⟨rfl, rfl, rfl⟩
  refine codeAny_compStart_list (loop _ _ X4 hJ1 hst₁) (W.self 0 _ _ _ hst₁ (loop _ _ X4 hJ1 hst₁))
end
section
variable {prog : Program} {w : World} {A : Around} {E : Value → Shared → Prop} {s s₀ : Shared} {g : Heap} {L : Addr} {m : Str → Option Value} {mu : List (Addr × Obj)} {env : Env}
theorem comp_evalG {elt iter : Expr} {x : Str} {px pos : Pos} {scope : Scope} {cl : List (Str × Addr)} {n : Nat} {P : Nat → Value → Prop} {Q : Value → Shared → Prop}
    (hh : A.handled = none) (X : Act g L s.heap m mu) (S : Src prog w A env E iter g L m mu s n P) (hn : n ≤ 10000)
    (hclos : closureFor scope env = pure cl) (hcell : ∀ y ∈ scope.names, y.2 ≠ .cell) (hkind : scope.kind = .function)
    (hnames : ∀ y ∈ scope.names, y.2 = .local → scope.names.lookup y.1 = some .local) (hx : scope.names.lookup x = some .local)
    (J : Nat → List Value → Heap → Shared → List (Addr × Obj) → Prop) (hJ : ∀ i ys g s s' mu, J i ys g s mu → Same s s' → J i ys g s' mu) (hJ0 : J 0 [] g s mu)
    (turn : ∀ g' i ys (s : Shared) C D I oL oI mc mu E' v, i < n → P i v → mc x = some v → Stays g g' → J i ys g' s mu → LCg.NsObj oL m → Act g' C s.heap mc ((L, oL) :: (I, oI) :: (D, lst ys ys.length) :: mu) →
      wpAny (model prog w) A (eval elt (compEnvC scope cl C env)) (EltEndG g' C mc L I D oL oI ys J i) E' s)
    (done : ∀ g' (s : Shared) D ys mu, ys.length = n → Stays g g' → J n ys g' s mu → Act g' L s.heap m ((D, lst ys ys.length) :: mu) → Q (.ref D) s)
    (hs : ∀ x, foldedSetIterable iter env x = pure x := by intro _; rfl) :
    wpAny (model prog w) A (eval (.ListComp elt [⟨.Name x px, iter, [], 0⟩] scope pos) env) Q E s := by
  rw [eval_ListComp]
  refine wpAny_comprehension_free (use := none) rfl hs hclos hkind hnames ?_
  refine S.at hh X fun I o₀ fp St s₂ W hI hfp _ S₂ X₂ st => ?_
  refine comp_blockG W hI hfp (by rw [sizeLine_eq]; omega) hcell hkind (fun C => assigns_name (lookup_relabel_local hx) (by simp [compEnvC, relabel, hkind])) J hJ X₂ st (hJ _ _ _ _ _ _ hJ0 S₂) ?_ ?_
  · rintro g' i ys s C D oL oI mc mu E' hi ⟨v, hP, hv⟩ kg j nL X
    exact turn g' i ys s C D I oL oI mc mu E' v hi hP hv kg j nL X
  · intro g' s C D oL mc ys mu hl kg j nL X
    exact ⟨mc, X.ns, fun h' hs' => done g' _ D ys mu hl kg (hJ _ _ _ _ _ _ j ⟨rfl, rfl, rfl⟩) (X.leave nL hs')⟩

theorem comp_assignG {elt iter : Expr} {x y : Str} {px py pos spos : Pos} {scope : Scope} {cl : List (Str × Addr)} {n : Nat} {P : Nat → Value → Prop} {Q : Flow → Shared → Prop}
    (hLe : env.locals = L) (hy : env.kindOf y = some .local) (hp : env.scope.kind = .function)
    (hsw : swapsWith (.ListComp elt [⟨.Name x px, iter, [], 0⟩] scope pos) (some (.Name y py)) spos.line env = pure true)
    (hh : A.handled = none) (X : Act g L s.heap m mu) (S : Src prog w A env E iter g L m mu s n P) (hn : n ≤ 10000)
    (hclos : closureFor scope env = pure cl) (hcell : ∀ y ∈ scope.names, y.2 ≠ .cell) (hkind : scope.kind = .function)
    (hnames : ∀ y ∈ scope.names, y.2 = .local → scope.names.lookup y.1 = some .local) (hx : scope.names.lookup x = some .local)
    (J : Nat → List Value → Heap → Shared → List (Addr × Obj) → Prop) (hJ : ∀ i ys g s s' mu, J i ys g s mu → Same s s' → J i ys g s' mu) (hJ0 : J 0 [] g s mu)
    (turn : ∀ g' i ys (s : Shared) C D I oL oI mc mu E' v, i < n → P i v → mc x = some v → Stays g g' → J i ys g' s mu → LCg.NsObj oL m → Act g' C s.heap mc ((L, oL) :: (I, oI) :: (D, lst ys ys.length) :: mu) →
      wpAny (model prog w) A (eval elt (compEnvC scope cl C env)) (EltEndG g' C mc L I D oL oI ys J i) E' s)
    (done : ∀ g' (s : Shared) D ys mu, ys.length = n → Stays g g' → J n ys g' s mu → Act g' L s.heap (fun z => if z = y then some (.ref D) else m z) ((D, lst ys ys.length) :: mu) → Q .next s)
    (hs : ∀ x, foldedSetIterable iter env x = pure x := by intro _; rfl) :
    wpAny (model prog w) A (exec (.Assign [.Name y py] (.ListComp elt [⟨.Name x px, iter, [], 0⟩] scope pos) spos) env) Q E s := by
  subst hLe
  rw [exec_Assign_Name_used _ _ _ _ hsw]
  refine wpAny_bind (wpAny_standAt (wpAny_bind ?_))
  show wpAny _ A (do let _ ← comprehension (.ListComp elt [⟨.Name x px, iter, [], 0⟩] scope pos) scope env _ (newList []) false (eval iter env) (some (assign (.Name y py) env))) _ _ s
  refine wpAny_bind (wpAny_mono (wpAny_comprehension_free (use := some (assign (.Name y py) env)) (Q := fun _ s' => Q .next s') rfl hs hclos hkind hnames ?_) (fun _ s' hq => wpAny_pure (wpAny_pure hq)) fun _ _ e => e)
  refine S.at hh X fun I o₀ fp St s₂ W hI hfp _ S₂ X₂ st => ?_
  refine comp_blockG W hI hfp (by rw [sizeLine_eq]; omega) hcell hkind (fun C => assigns_name (lookup_relabel_local hx) (by simp [compEnvC, relabel, hkind])) J hJ X₂ st (hJ _ _ _ _ _ _ hJ0 S₂) ?_ ?_
  · rintro g' i ys s C D oL oI mc mu E' hi ⟨v, hP, hv⟩ kg j nL X
    exact turn g' i ys s C D I oL oI mc mu E' v hi hP hv kg j nL X
  · intro g' s C D oL mc ys mu hl kg j nL X
    show wpAny _ A (assign (.Name y py) env (.ref D)) _ _ _
    have Y := X.outof nL
    refine wpAny_assign_Name (wpAny_storeName_local hy Y.ns (fun h₂ hn₂ hs₂ => ?_) (by show (env.scope.kind == .class || (env.scope.kind == .module && env.locals != env.globals)) = false; rw [hp]; rfl))
    have Y₂ := Y.set hn₂ hs₂
    have hC : C ≠ env.locals := Ne.symm (X.mus _ (.head _)).2.1
    have hnC : h₂.Ns C mc := X.ns.sameBut hs₂ hC
    obtain ⟨oL', nL', Z⟩ := Y₂.into hnC X.off hC fun p hp => (X.mus p (.tail _ hp)).2.1
    exact ⟨mc, hnC, fun h' hs' => done g' _ D ys mu hl kg (hJ _ _ _ _ _ _ j ⟨rfl, rfl, rfl⟩) (Z.leave nL' hs')⟩

/-- the end of a loop's turn -/
inductive NextOkG (g : Heap) (L I : Addr) (o : Obj) (J : Nat → Heap → Shared → (Str → Option Value) → List (Addr × Obj) → Prop) (i : Nat) (s₃ : Shared) : Prop
  | mk (g' : Heap) (m' : Str → Option Value) (mu' : List (Addr × Obj)) (k : Stays g g') (X : Act g' L s₃.heap m' ((I, o) :: mu')) (j : J (i + 1) g' s₃ m' mu') : NextOkG g L I o J i s₃
/-- a for over an iterator that stands in the list of what may turn -/
theorem for_walkG {Q : Flow → Shared → Prop} {x : Str} {px : Pos} {body : List Stmt} {I : Addr} {fp : List Addr} {n : Nat} {P : Nat → Value → Prop} {St : Nat → Heap → Prop}
    (W : Walks prog w A I fp [I] n P St) (hI : ∀ i h, St i h → ∃ o, h.get? I = some o) (hfp : ∀ b ∈ fp, b = I ∨ ∃ o, g.get? b = some o)
    (J : Nat → Heap → Shared → (Str → Option Value) → List (Addr × Obj) → Prop) (hJ : ∀ i g s s' m mu, J i g s m mu → Same s s' → J i g s' m mu)
    (turn : ∀ g' i v o s m mu, i < n → P i v → Stays g g' → J i g' s m mu → Act g' L s.heap m ((I, o) :: mu) →
      wpAny (model prog w) A (storeName env x v) (fun _ s₂ => wpAny (model prog w) A (execs body env) (fun f s₃ => match f with
        | .next | .cont => NextOkG g' L I o J i s₃
        | .brk => Q .next s₃
        | .ret v => Q (.ret v) s₃) (notedBy (model prog w) A env fun e s' => cameBackBy (model prog w) A env E e s') s₂) (notedBy (model prog w) A env fun e s' => cameBackBy (model prog w) A env E e s') s)
    {m₀ : Str → Option Value} {mu₀ : List (Addr × Obj)} {o₀ : Obj} (hX : Act g L s.heap m₀ ((I, o₀) :: mu₀)) (hst : St 0 s.heap) (hJ0 : J 0 g s m₀ mu₀)
    (done : ∀ g' s m mu, Stays g g' → J n g' s m mu → Act g' L s.heap m mu → Q .next s) :
    codeAny (model prog w) A (.forLoop (.Name x px) (.ref I) body [] env) (fun r s' => match r with | .ok f => Q f s' | .error e => cameBackBy (model prog w) A env E e s') s := by
  refine codeAny_forLoop_any (fun k s => ∃ g' i m mu o, Stays g g' ∧ i ≤ n ∧ k = n - i ∧ J i g' s m mu ∧ Act g' L s.heap m ((I, o) :: mu) ∧ St i s.heap) ?_ n ⟨g, 0, m₀, mu₀, o₀, fun _ _ e => e, Nat.zero_le _, rfl, hJ0, hX, hst⟩
  rintro k s ⟨g', i, m, mu, o, kg, hi, rfl, hJi, X, st⟩
  replace hfp : ∀ b ∈ fp, b = I ∨ ∃ o, g'.get? b = some o := fun b hb => (hfp b hb).imp id fun ⟨o, e⟩ => ⟨o, kg _ _ e⟩
  have step : ∀ h' i', St i' h' → (∀ b o, b ∉ [I] → s.heap.get? b = some o → h'.get? b = some o) → ∃ o', h'.get? I = some o' ∧ Act g' L h' m ((I, o') :: mu) := fun h' i' st' hk => by
    obtain ⟨o', ho'⟩ := hI i' h' st'
    exact ⟨o', ho', X.turn (.head _) hk ho'⟩
  rcases Nat.lt_or_ge i n with hlt | hge
  · refine W.item i s _ _ hlt st fun v h' tk hP st' hk => ?_
    obtain ⟨o', ho', X'⟩ := step h' _ st' hk
    refine wpAny_pure ?_
    refine wpAny_assign_Name ?_
    refine wpAny_mono (turn g' i v o' { s with heap := h', toks := tk } m mu hlt hP kg (hJ _ _ _ _ _ _ hJi ⟨rfl, rfl, rfl⟩) X') (fun _ s₂ h₂ => ?_) fun _ _ e => e
    refine wpAny_mono h₂ (fun f s₃ h₃ => ?_) fun _ _ e => e
    have nx : NextOkG g' L I o' J i s₃ → ∃ k', k' < n - i ∧ ∃ g' i m mu o, Stays g g' ∧ i ≤ n ∧ k' = n - i ∧ J i g' s₃ m mu ∧ Act g' L s₃.heap m ((I, o) :: mu) ∧ St i s₃.heap := by
      rintro ⟨g₃, m', mu', k₃, X₃, J₃⟩
      refine ⟨n - (i + 1), by omega, g₃, i + 1, m', mu', o', fun b o e => k₃ _ _ (kg _ _ e), hlt, rfl, J₃, X₃, W.frame _ _ _ st' fun b hb ob e => ?_⟩
      rcases hfp b hb with rfl | ⟨ob', hob⟩
      · rw [ho'] at e; cases e
        exact X₃.get (.head _)
      · have := X'.keep _ _ hob
        rw [e] at this; cases this
        exact X₃.keep _ _ (k₃ _ _ hob)
    cases f with
    | next => exact nx h₃
    | cont => exact nx h₃
    | brk => exact h₃
    | ret v => exact h₃
  · have hin : i = n := by omega
    subst hin
    refine W.done s _ _ st fun h' tk hk => ?_
    exact wpAny_pure (done g' _ m mu kg (hJ _ _ _ _ _ _ hJi ⟨rfl, rfl, rfl⟩) (X.losing hk))

/-- for x in range -/
theorem for_srcG {Q : Flow → Shared → Prop} {x : Str} {px pos : Pos} {iter : Expr} {body : List Stmt} {n : Nat} {P : Nat → Value → Prop} {m₀ : Str → Option Value} {mu₀ : List (Addr × Obj)}
    (hh : A.handled = none) (X : Act g L s.heap m₀ mu₀) (S : Src prog w A env E iter g L m₀ mu₀ s n P)
    (J : Nat → Heap → Shared → (Str → Option Value) → List (Addr × Obj) → Prop) (hJ : ∀ i g s s' m mu, J i g s m mu → Same s s' → J i g s' m mu) (hJ0 : J 0 g s m₀ mu₀)
    (turn : ∀ g' I i v o s m mu, i < n → P i v → Stays g g' → J i g' s m mu → Act g' L s.heap m ((I, o) :: mu) →
      wpAny (model prog w) A (storeName env x v) (fun _ s₂ => wpAny (model prog w) A (execs body env) (fun f s₃ => match f with
        | .next | .cont => NextOkG g' L I o J i s₃
        | .brk => Q .next s₃
        | .ret v => Q (.ret v) s₃) (notedBy (model prog w) A env fun e s' => cameBackBy (model prog w) A env E e s') s₂) (notedBy (model prog w) A env fun e s' => cameBackBy (model prog w) A env E e s') s)
    (done : ∀ g' s m mu, Stays g g' → J n g' s m mu → Act g' L s.heap m mu → Q .next s)
    (hs : ∀ x, foldedSetIterable iter env x = pure x := by intro _; rfl) : wpAny (model prog w) A (exec (.For (.Name x px) iter body [] pos) env) Q E s := by
  refine wpAny_For ?_ hs
  refine S.at hh X fun I o₀ fp St s₂ W hI hfp _ S₂ X₂ st => ?_
  exact for_walkG W hI hfp J hJ (fun g' i v o s m mu hi hP kg hJi X => turn g' _ i v o s m mu hi hP kg hJi X) X₂ st (hJ _ _ _ _ _ _ hJ0 S₂) done
end

end JA
end
section
open PySem PySem.W PyProof.Rows PySem.Calls
namespace JA
set_option maxRecDepth 100000 in
theorem fill_all : PySem.Challenge.rw_ja0050_01 = PySem.Challenge.rw_ja0050_01 ∧ JA.hd.heap_1 = JA.hd.heap_1 := by
  k_fill
  exact ⟨rfl, rfl⟩
local macro_rules | `(tactic| walk_at "eval Name") => `(tactic| (k_dflt (first
  | (refine' jn_local ?X ?l ?a ?b ?v ?_ ?d; (case a => exact rfl); (case b => exact rfl); (case l => exact rfl); (case X => k_asm); (case v => first | assumption | exact rfl); (case d => decide); k_whole)
  | (refine' jn_cell ?a ?b ?c ?i ?_ ?d; (case a => exact rfl); (case b => exact rfl); (case c => exact rfl); (case i => first | (refine cell_of (by k_asm) (by k_mem) (by k_asm)) | exact Heap.IsCell.keeps (by with_reducible assumption) (Act.keep (by k_asm))); (case d => decide); k_whole)
  | (refine' jn_free ?a ?b ?c ?i ?_ ?d ?e; (case a => exact rfl); (case b => exact rfl); (case c => exact rfl); (case i => first | (refine cell_of (by k_asm) (by k_mem) (by k_asm)) | exact Heap.IsCell.keeps (by with_reducible assumption) (Act.keep (by k_asm))); (case d => decide); (case e => decide); k_whole)
  | (refine' jn_global ?W ?X ?l ?a ?b ?e ?_ ?d; (case a => exact rfl); (case b => exact rfl); (case l => exact rfl); (case W => k_asm); (case X => k_asm); (case e => k_is); (case d => decide); k_whole)
  | (refine' jn_builtin ?W ?X ?l ?l2 ?a ?b ?e ?v ?n ?_ ?d; (case a => exact rfl); (case b => exact rfl); (case l => exact rfl); (case l2 => exact rfl); (case W => k_asm); (case X => k_asm); (case e => k_is); (case v => first | boot_fast | boot_by_name); (case n => decide); (case d => decide); k_whole))))
local macro_rules | `(tactic| walk_at "J list") => `(tactic| first | assumption | exact Act.list (by k_asm) (by k_mem) | exact stays_list (Act.keep (by k_asm)) (by assumption))
local macro_rules | `(tactic| walk_at "subscriptTail") => `(tactic| ((with_reducible show wpAny _ _ (subscriptTail _ _ (Value.ref _) (Value.int _ _)) _ _ _); k_dflt (refine' item_list (by walk_at "J list") ?a ?b ?c ?_ ?hs; (case hs => with_unfolding_all rfl); (case a => first | decide | with_reducible assumption); (case b => first | decide | with_reducible assumption); (case c => first | with_reducible assumption | exact rfl))))
local macro_rules | `(tactic| walk_at "J rng") => `(tactic| first | assumption | exact (bx_rng (by omega) (by omega) (by omega) (by omega)).1 | exact (bx_rng (by omega) (by omega) (by omega) (by omega)).2 | omega)
local macro_rules | `(tactic| walk_at "subscriptTail") => `(tactic| ((with_reducible show wpAny _ _ (subscriptTail _ _ (Value.ref 154) (Value.int _ _)) _ _ _); k_dflt (refine' item_log ?W ?X ?a ?b ?_ ?hs; (case hs => with_unfolding_all rfl); (case W => k_asm); (case X => exact Act.keep (by k_asm)); (case a => walk_at "J rng"); (case b => walk_at "J rng"); intro t')))
local macro_rules | `(tactic| walk_at "subscriptTail") => `(tactic| ((with_reducible show wpAny _ _ (subscriptTail _ _ (Value.ref 151) (Value.int _ _)) _ _ _); k_dflt (refine' item_exp ?W ?X ?a ?b ?_ ?hs; (case hs => with_unfolding_all rfl); (case W => k_asm); (case X => exact Act.keep (by k_asm)); (case a => walk_at "J rng"); (case b => walk_at "J rng"); intro t')))
local macro_rules | `(tactic| walk_at "truthy ref") => `(tactic| (k_dflt (refine' wpAny_truthy_list (by walk_at "J list") ?f ?_); (case f => (first | decide | (simp only [List.size_toArray] at *; omega)))))
local macro_rules | `(tactic| walk_at "J put") => `(tactic| first | exact Put.head _ | (refine' Put.tail _ ?a; (case a => walk_at "J put")))
local macro_rules | `(tactic| walk_at "J int") => `(tactic| first | decide | omega | (simp only [List.length_cons, List.length_nil]; omega))
local macro_rules | `(tactic| walk_at "setItem ref int") => `(tactic| (k_dflt (refine' js_item ?X ?S ?U ?a ?b ?c ?_; (case X => k_asm); (case S => exact Same.refl _); (case U => walk_at "J put"); (case a => walk_at "J int"); (case b => walk_at "J int"); (case c => walk_at "J int"); k_whole); intro s' S' X'))
local macro_rules | `(tactic| walk_at "getMethod ref") => `(tactic| ((with_reducible show wpAny _ _ (getMethod (Value.ref _) (PySem.Str.ofString "pop") _) _ _ _); k_dflt (refine' j_getpop ?X ?m ?_; (case X => k_asm); (case m => k_mem))))
local macro_rules | `(tactic| walk_at "storeName") => `(tactic| (k_dflt (first
  | (refine' js_local ?X ?S ?l ?a ?b ?_; (case a => exact rfl); (case b => exact rfl); (case l => exact rfl); (case X => k_asm); (case S => exact Same.refl _); k_whole; intro s' S' X')
  | (refine' js_cell ?X ?S ?a ?b ?c ?U ?d ?_; (case a => exact rfl); (case b => exact rfl); (case c => exact rfl); (case X => k_asm); (case S => exact Same.refl _); (case U => (intro o'; walk_at "J put")); (case d => k_asm); k_whole; intro s' o' S' d' X'))))
local macro_rules | `(tactic| walk_at "call builtin:len") => `(tactic| (k_dflt (first
  | (refine' len_set' ?h ?_; (case h => exact ⟨_, _, _, _, Act.get (by k_asm) (by k_mem), by assumption⟩); k_whole)
  | (refine' call_len_list (by walk_at "J list") ?f ?_; (case f => (first | decide | with_reducible assumption | (simp only [List.size_toArray, List.length_map]; omega))); k_whole))))
local macro_rules | `(tactic| walk_at "J room") => `(tactic| first | omega | exact (‹∀ env, Around.depth (Around.deeper _ env) < 799›) _)
local macro_rules | `(tactic| walk_at "getAttr ref") => `(tactic| (k_dflt (first
  | ((with_reducible show wpAny _ _ (getAttr _ (PySem.Str.ofString "x") _) _ _ _); refine' jx ?W ?X ?S ?r ?_; (case S => assumption); (case W => k_asm); (case X => k_asm); (case r => first | assumption | walk_at "J room"); intro s' t' K' S' X')
  | ((with_reducible show wpAny _ _ (getAttr _ (PySem.Str.ofString "data") _) _ _ _); refine' jdata ?W ?X ?S ?r ?_; (case S => assumption); (case W => k_asm); (case X => k_asm); (case r => first | assumption | walk_at "J room"); intro s' t' K' S' X'))))
local macro_rules | `(tactic| walk_at "getMethod ref") => `(tactic| ((with_reducible show wpAny _ _ (getMethod (Value.ref _) (PySem.Str.ofString "append") _) _ _ _); k_dflt (refine' j_getappend ?X ?m ?_; (case X => k_asm); (case m => k_mem))))
local macro_rules | `(tactic| walk_at "J len") => `(tactic| first | assumption | decide | omega | (simp only [List.length_append, List.length_cons, List.length_nil, List.length_replicate, List.length_map]; omega))
local macro_rules | `(tactic| walk_at "call builtin:list.append") => `(tactic| (k_dflt (refine' j_append ?X ?S ?U ?z ?_; (case X => k_asm); (case S => exact Same.refl _); (case U => walk_at "J put"); (case z => walk_at "J len"); k_whole); intro s' S' X'))
local macro_rules | `(tactic| walk_at "subscriptTail") => `(tactic| ((with_reducible show wpAny _ _ (subscriptTail _ (Expr.Slice _ _ _ _) (Value.ref _) (Value.ref _)) _ _ _); k_dflt (refine' j_slice ?X ?S ?l ?sl ?pl ?pu ?z ?_ ?hs ?ht; (case hs => with_unfolding_all rfl); (case ht => (intro _; with_unfolding_all rfl)); (case sl => exact Heap.IsSliceOf.new _ _ _ _); (case X => exact Act.grow (by k_asm) (fun _ _ e => Heap.get?_push_of_some _ e)); (case S => exact Same.refl _); (case l => (refine Heap.IsList.push ?_ _; walk_at "J list")); (case pl => constructor); (case pu => constructor); (case z => walk_at "J len"); k_whole); intro a' s' S' X' z'))
local macro_rules | `(tactic| walk_at "call type:list") => `(tactic| ((with_reducible show wpAny _ _ (call _ [Value.ref _]) _ _ _); k_dflt (refine' j_copy ?X ?S ?l ?z ?_; (case X => k_asm); (case S => exact Same.refl _); (case l => walk_at "J list"); (case z => walk_at "J len"); k_whole); intro a' n' s' S' X' z'))
local macro_rules | `(tactic| walk_at "call type:range") => `(tactic| ((with_reducible show wpAny _ _ (call _ [Value.int _ _]) _ _ _); k_dflt (refine' j_range1 ?X ?S ?_; (case X => k_asm); (case S => exact Same.refl _); k_whole); intro r' s' S' X' R'))
local macro_rules | `(tactic| walk_at "call type:range") => `(tactic| ((with_reducible show wpAny _ _ (call _ [Value.int _ _, Value.int _ _]) _ _ _); k_dflt (refine' j_range2 ?X ?S ?_; (case X => k_asm); (case S => exact Same.refl _); k_whole); intro r' s' S' X' R'))
local macro_rules | `(tactic| walk_at "newList") => `(tactic| (k_dflt (refine' j_newList ?X ?S ?z ?_; (case X => k_asm); (case S => exact Same.refl _); (case z => walk_at "J len"); k_whole); intro a' s' S' X' z'))
local macro_rules | `(tactic| walk_at "newTuple") => `(tactic| (k_dflt (refine' j_newTuple ?X ?S ?z ?_; (case X => k_asm); (case S => exact Same.refl _); (case z => walk_at "J len"); k_whole); intro a' s' S' X' z'))
local macro_rules | `(tactic| walk_at "callWith ref") => `(tactic| (k_dflt (refine' j_callK ?W ?X ?k ?_ ?he ?hp; (case he => exact rfl); (case hp => exact rfl); (case W => k_asm); (case X => k_asm); (case k => k_is); k_whole)))
local macro_rules | `(tactic| walk_at "JCallK") => `(tactic| (k_dflt (refine' JCallK.of ?W ?X ?_; (case W => k_asm); (case X => k_asm); k_whole)))
local macro_rules | `(tactic| walk_at "subscriptTail") => `(tactic| ((with_reducible show wpAny _ _ (subscriptTail _ _ (Value.bytes _ _) (Value.int _ _)) _ _ _); k_dflt (refine' j_itemB ?e ?k ?c ?_ ?z ?hs ?ht; (case hs => with_unfolding_all rfl); (case ht => (intro _; with_unfolding_all rfl)); (case e => first | with_reducible assumption | exact rfl); (case k => with_reducible assumption); (case c => with_reducible assumption); (case z => with_reducible assumption))))
section
open PySem PySem.W PyProof.Rows PySem.Calls
set_option maxRecDepth 100000

theorem reset_J5 : True := by
  w_top off
  trivial
local macro_rules | `(tactic| walk_at "eval Name") => `(tactic| (k_dflt (first
  | (refine' jn_local ?X ?l ?a ?b ?v ?_ ?d; (case a => exact rfl); (case b => exact rfl); (case l => exact rfl); (case X => k_asm); (case v => exact rfl); (case d => decide); k_whole)
  | (refine' jn_global ?W ?X ?l ?a ?b ?e ?_ ?d; (case a => exact rfl); (case b => exact rfl); (case l => exact rfl); (case W => k_asm); (case X => k_asm); (case e => k_is); (case d => decide); k_whole)
  | (refine' jn_builtin ?W ?X ?l ?l2 ?a ?b ?e ?v ?n ?_ ?d; (case a => exact rfl); (case b => exact rfl); (case l => exact rfl); (case l2 => exact rfl); (case W => k_asm); (case X => k_asm); (case e => k_is); (case v => first | boot_fast | boot_by_name); (case n => decide); (case d => decide); k_whole))))
local macro_rules | `(tactic| walk_at "subscriptTail") => `(tactic| ((with_reducible show wpAny _ _ (subscriptTail _ _ (Value.ref _) (Value.int _ _)) _ _ _); k_dflt (refine' item_list (by walk_at "J list") ?a ?b ?c ?_ ?hs; (case hs => with_unfolding_all rfl); (case a => decide); (case b => decide); (case c => exact rfl))))

local macro_rules | `(tactic| walk_at "setItem ref int") => `(tactic| (k_dflt (refine' js_item ?X ?S ?U ?a ?b ?c ?_; (case X => k_asm); (case S => k_asm); (case U => walk_at "J put"); (case a => walk_at "J int"); (case b => walk_at "J int"); (case c => walk_at "J int"); k_whole); intro s' S' X'))

theorem fmod_range (a : Int) {b : Int} (hb : 0 < b) : 0 ≤ a.fmod b ∧ a.fmod b < b := by
  rw [Int.fmod_eq_emod_of_nonneg _ (Int.le_of_lt hb)]
  exact ⟨Int.emod_nonneg _ (by omega), Int.emod_lt_of_pos _ hb⟩
set_option maxHeartbeats 8000000 in
theorem draw_spec {prog : Program} {w : World} {A : Around} {s : Shared} {g : Heap}
    {R : Result → Shared → Prop} {fa l : Addr} {seed many : Int} {t tm : Tok} {n n' : Nat} {items : List Value} {ns : List Int}
    (hW : Wd w g) (hk : Stays g s.heap) (hmu : ∀ p ∈ [(fa, lst [.int seed t, .ref l] n), (l, lst items n')], s.heap.get? p.1 = some p.2 ∧ g.get? p.1 = none)
    (hroom : A.depth < 500)
    (hI : IntsAre items ns) (h0 : 0 ≤ seed) (h1 : seed < 2147483648) (hm : 0 < many) (hne : fa ≠ l) (hm2 : many < 2^80) (hlen : items.length ≤ 63)
    (h : ∀ s' r tr seed' t' n1 n2 items' ns', Same s s' → 0 ≤ r → r < many → 0 ≤ seed' → seed' < 2147483648 → IntsAre items' ns' → items'.length ≤ 63 → Off [fa, l] s.heap s'.heap →
      s'.heap.get? fa = some (lst [.int seed' t', .ref l] n1) → s'.heap.get? l = some (lst items' n2) →
       R (.ok (.ret (.int r tr))) s') :
    codeAny (model prog w) A (.call (.ref 194) ⟨[.ref fa, .int many tm], []⟩) R s := by
  w_on
  refine enter (binds := [("feed", .ref fa), ("many", .int many tm)]) hW hk hmu (by simp [hne]) (by k_dflt k_is) (by k_dflt k_is) (by unfold recursionLimit; omega) (by exact BindsTo.of_eq rfl) (by exact locs rfl) (by decide) ?_ (by exact rfl) (by exact rfl) (by exact rfl)
  intro g₁ h₁ hW₁ gs gk hsame hold X₁
  have S₁ := Same.refl s
  walk2
  · rename_i s' S' X'
    have r := fmod_range (((seed * 48271 + 11).fmod 2147483647).fdiv 64) hm
    have r2 := fmod_range (seed * 48271 + 11) (show (0:Int) < 2147483647 by decide)
    exact h _ _ _ _ _ _ _ _ _ (S'.trans ⟨rfl, rfl, rfl⟩) r.1 r.2 r2.1 (by omega) hI hlen (fun b o hb e => X'.keep b o (hsame b o e hb)) (X'.get (by k_mem)) (X'.get (by k_mem))
  · cases hI with
    | nil => rename_i q; cases q
    | cons x tx hI =>
      rename_i vs ns q
      refine' j_popAt (items := .int x tx :: vs) (k := 0) (y := .int x tx) X₁ (S₁.trans ⟨rfl, rfl, rfl⟩) ?U (by decide) (by simp [seqIndex?]) rfl (by rw [sizeLine_eq]; omega) ?_
      (case U => walk_at "J put")
      intro s' S' X'
      walk2
      have r := fmod_range x hm
      exact h _ _ _ _ _ _ _ _ _ (S'.trans ⟨rfl, rfl, rfl⟩) r.1 r.2 h0 h1 hI (by simp at hlen ⊢; omega) (fun b o hb e => X'.keep b o (hsame b o e hb)) (X'.get (by k_mem)) (X'.get (by k_mem))
end
section
open PySem PySem.W PyProof.Rows PySem.Calls
set_option maxRecDepth 100000
theorem reset_JDraw : True := by
  w_top off
  trivial
-- nomac
/-- the two lists of a feed -/
noncomputable def FeedOf (l : Addr) (o1 o2 : Obj) : Prop := ∃ seed t n items ns n', o1 = lst [.int seed t, .ref l] n ∧ o2 = lst items n' ∧ 0 ≤ seed ∧ seed < 2147483648 ∧ IntsAre items ns ∧ items.length ≤ 63
section
variable {prog : Program} {w : World} {A : Around} {E : Value → Shared → Prop} {s : Shared} {g : Heap} {L : Addr} {m : Str → Option Value} {mu : List (Addr × Obj)}
theorem j_draw {fa l : Addr} {o1 o2 : Obj} {many : Int} {tm : Tok} {pre post : List (Addr × Obj)} {Q : Value → Shared → Prop} (hW : Wd w g) (X : Act g L s.heap m (pre ++ ((fa, o1) :: (l, o2) :: post))) (hF : FeedOf l o1 o2)
    (hroom : A.depth < 500) (hm : 0 < many) (hm2 : many < 2 ^ 80)
    (h : ∀ s' r tr o1' o2', Same s s' → 0 ≤ r → r < many → FeedOf l o1' o2' → Act g L s'.heap m (pre ++ ((fa, o1') :: (l, o2') :: post)) → Q (.int r tr) s') :
    wpAny (model prog w) A (call (.ref 194) [.ref fa, .int many tm]) Q E s := by
  obtain ⟨seed, t, n, items, ns, n', rfl, rfl, h0, h1, hI, hlen⟩ := hF
  have m1 := X.mus (fa, lst [.int seed t, .ref l] n) (List.mem_append_right _ (.head _))
  have m2 := X.mus (l, lst items n') (List.mem_append_right _ (.tail _ (.head _)))
  have hne : fa ≠ l := by
    have := X.nd
    rw [List.map_append] at this
    have := (List.nodup_append.mp this).2.1
    exact fun e => (List.nodup_cons.mp this).1 (by rw [e]; exact .head _)
  refine wpAny_call (draw_spec (g := g) (t := t) (n := n) (n' := n') hW X.keep ?_ hroom hI h0 h1 hm hne hm2 hlen ?_)
  · intro p hp
    rcases List.mem_cons.mp hp with rfl | hp
    · exact ⟨m1.1, m1.2.2⟩
    · rw [List.mem_singleton.mp hp]; exact ⟨m2.1, m2.2.2⟩
  · intro s' r tr seed' t' n1 n2 items' ns' S hr0 hr1 hs0 hs1 hI' hlen' off e1 e2
    refine h s' r tr _ _ S hr0 hr1 ⟨seed', t', n1, items', ns', n2, rfl, rfl, hs0, hs1, hI', hlen'⟩ ?_
    refine Act.after (mu := [(fa, lst [.int seed t, .ref l] n), (l, lst items n')]) (mu' := [(fa, lst [.int seed' t', .ref l] n1), (l, lst items' n2)]) X off rfl ?_
    intro p hp
    rcases List.mem_cons.mp hp with rfl | hp
    · exact e1
    · rw [List.mem_singleton.mp hp]; exact e2
theorem j_pow {k : Nat} {b : Int} {t u : Tok} {Q : Value → Shared → Prop} (eb : b = (k : Int)) (hk : k ≤ 9) (h : Q (.int (256 ^ k) s.toks) { s with toks := s.toks + 1 }) : wpAny (model prog w) A (binaryOp .Pow (.int 256 t) (.int b u)) Q E s := by
  subst eb
  exact pow_int_small (by omega) (by omega) (by decide) (by rw [Int.toNat_natCast]; exact h)
end

section
variable {g g' h h' : Heap} {L : Addr} {m m' : Str → Option Value} {mu mu' : List (Addr × Obj)}
theorem Act.weaken (X : Act g' L h m mu) (k : Stays g g') : Act g L h m mu := by
  have no : ∀ a, g'.get? a = none → g.get? a = none := fun a e => by
    cases q : g.get? a with
    | none => rfl
    | some o => rw [k _ _ q] at e; cases e
  exact ⟨X.ns, fun b o e => X.keep b o (k b o e), no _ X.off, fun p hp => ⟨(X.mus p hp).1, (X.mus p hp).2.1, no _ (X.mus p hp).2.2⟩, X.nd⟩
/-- what is new goes to the base -/
theorem Act.settleD (X : Act g L h m mu) (X' : Act g L h' m' mu') (hm : mu'.map (·.1) = mu.map (·.1)) : ∃ g', Act g' L h' m' mu' ∧ Stays g g' ∧ Stays (diff h h') g' := by
  obtain ⟨g', A, B, C, _⟩ := X'.rebase
  refine ⟨g', A, B, fun b o e => C b o (diff_get e).1 (fun q => ?_) fun q => ?_⟩
  · exact absurd (diff_get e).2 (Nat.not_le.mpr (q ▸ X.ltL))
  · rw [hm] at q
    obtain ⟨p, hp, rfl⟩ := List.mem_map.mp q
    exact absurd (diff_get e).2 (Nat.not_le.mpr (Heap.lt_size (X.mus p hp).1))
end
/-- the rows as made: addresses and objects -/
inductive RowL : List (Addr × Obj) → List Addr → List (List Nat) → Prop
  | nil : RowL [] [] []
  | snoc {ps : List (Addr × Obj)} {as : List Addr} {rs : List (List Nat)} (h : RowL ps as rs) {a : Addr} {vs : List Value} {n : Nat} {r : List Nat} (hN : NatsAre vs r) : RowL ((a, lst vs n) :: ps) (as ++ [a]) (rs ++ [r])
theorem RowL.len {ps : List (Addr × Obj)} {as : List Addr} {rs : List (List Nat)} (h : RowL ps as rs) : as.length = rs.length := by
  induction h with
  | nil => rfl
  | snoc h hN ih => simp [ih]
theorem RowL.at {g : Heap} {ps : List (Addr × Obj)} {as : List Addr} {rs : List (List Nat)} (h : RowL ps as rs) (hg : ∀ p ∈ ps, g.get? p.1 = some p.2) : ∀ (i : Nat) a r, as[i]? = some a → rs[i]? = some r → ∃ vs, g.IsList a vs.toArray ∧ NatsAre vs r := by
  induction h with
  | nil => intro i a r e; simp at e
  | snoc h hN ih =>
    rename_i ps as rs a vs n r
    intro i a' r' e1 e2
    have hl := h.len
    by_cases hi : i < as.length
    · rw [List.getElem?_append_left hi] at e1
      rw [List.getElem?_append_left (by omega)] at e2
      exact ih (fun p hp => hg p (.tail _ hp)) i a' r' e1 e2
    · have e : i = as.length := by
        have : i < (as ++ [a]).length := by
          rcases Nat.lt_or_ge i (as ++ [a]).length with q | q
          · exact q
          · rw [List.getElem?_eq_none q] at e1; cases e1
        simp at this
        omega
      subst e
      rw [List.getElem?_append_right (Nat.le_refl _)] at e1
      rw [hl, List.getElem?_append_right (Nat.le_refl _)] at e2
      simp at e1 e2
      subst e1 e2
      exact ⟨vs, lst_isList (hg _ (.head _)), hN⟩

end
section
open PySem PySem.W PyProof.Rows PySem.Calls
set_option maxRecDepth 100000
theorem reset_JI2 : True := by
  w_top off
  trivial
local macro_rules | `(tactic| walk_at "J none 0") => `(tactic| skip)
local macro_rules | `(tactic| walk_at "eval Name") => `(tactic| (k_dflt (first
  | (refine' jn_local ?X ?l ?a ?b ?v ?_ ?d; (case a => exact rfl); (case b => exact rfl); (case l => exact rfl); (case X => k_asm); (case v => first | assumption | exact rfl); (case d => decide); k_whole)
  | (refine' jn_cell ?a ?b ?c ?i ?_ ?d; (case a => exact rfl); (case b => exact rfl); (case c => exact rfl); (case i => refine cell_of (by k_asm) (by k_mem) (by k_asm)); (case d => decide); k_whole)
  | (refine' jn_free ?a ?b ?c ?i ?_ ?d ?e; (case a => exact rfl); (case b => exact rfl); (case c => exact rfl); (case i => refine cell_of (by k_asm) (by k_mem) (by k_asm)); (case d => decide); (case e => decide); k_whole)
  | (refine' jn_global ?W ?X ?l ?a ?b ?e ?_ ?d; (case a => exact rfl); (case b => exact rfl); (case l => exact rfl); (case W => k_asm); (case X => k_asm); (case e => k_is); (case d => decide); k_whole)
  | (refine' jn_builtin ?W ?X ?l ?l2 ?a ?b ?e ?v ?n ?_ ?d; (case a => exact rfl); (case b => exact rfl); (case l => exact rfl); (case l2 => exact rfl); (case W => k_asm); (case X => k_asm); (case e => k_is); (case v => first | boot_fast | boot_by_name); (case n => decide); (case d => decide); k_whole))))
local macro_rules | `(tactic| walk_at "subscriptTail") => `(tactic| ((with_reducible show wpAny _ _ (subscriptTail _ _ (Value.ref _) (Value.int _ _)) _ _ _); k_dflt (refine' item_list (by walk_at "J list") ?a ?b ?c ?_ ?hs; (case hs => with_unfolding_all rfl); (case a => decide); (case b => decide); (case c => exact rfl))))
local macro_rules | `(tactic| walk_at "call builtin:len") => `(tactic| (k_dflt (first
  | (refine' len_set' ?h ?_; (case h => exact ⟨_, _, _, _, Act.get (by k_asm) (by k_mem), by assumption⟩); k_whole)
  | (refine' call_len_list (by walk_at "J list") ?f ?_; (case f => (first | decide | (simp only [List.size_toArray, List.length_map]; omega))); k_whole))))

theorem lookup_both {K : Frag} {a : Addr} {o o' : Obj} {P : Prop} (h : K.lookup a = some o) (h' : K.lookup a = some o') (k : o = o' → P) : P := by
  rw [h] at h'
  exact k (Option.some.inj h')
set_option maxHeartbeats 800000 in
theorem interp2 {prog : Program} {w : World} {A : Around} {Qf : Flow → Shared → Prop} {E : Value → Shared → Prop} {s : Shared} {g : Heap} {L : Addr} {m : Str → Option Value} {S2 S : Addr} {oS2 oS o1 o2 o3 : Obj} {ps : Array Value}
    {es2 : Array (Int × Value)} {ep2 : Nat} {tt2 : SetTable} {l : Addr} {sh : List Sh} {len : Nat} {x : Int} {tx lt : Tok}
    {name qual : Str} {params : Arguments} {body : List Stmt} {scope : Scope} {dV kV doc pm cdv ct oc : Value} {an od : Option Addr} {osl : Array (Option Value)}
    (hf : (JA.hd.heap_1 w.params).lookup 161 = some ⟨oc, od, .func (fnOf name qual params body scope dV kV doc pm an cdv ct), osl⟩)
    (hW : Wd w g) (X : Act g L s.heap m [(S2, oS2), (S, oS), (L + 1 + 1 + 1, o1), (L + 1 + 1, o2), (L + 1, o3), (156, tabObj ps)]) (C160 : CodeOf g 160 156) (ok : TriplesOk ps.toList)
    (d1 : o1.data = .cell none) (d2 : o2.data = .cell none) (d3 : o3.data = .cell (some (.int x tx)))
    (hSet2 : oS2.ExactSet ∧ oS2.data = Data.set es2 ep2 tt2 ∧ ElemsOf (intKind prog w) es2.toList ∧ (∀ (k : Int), (fun k' => [(len : Int)].any fun x => x == k') k = true ↔ ∃ e, e ∈ es2.toList ∧ (intKind prog w).is k e.snd = true) ∧ es2.size < scanBound ∧ tt2.fits es2.size = true ∧ es2.size = [(len : Int)].length)
    (hroom2 : A.depth + 1 < 799) (hh : A.handled = none) (hl : g.IsList l (sh.map fun c => Value.ref c.a).toArray) (hsh : ∀ c ∈ sh, IsShare g c.a c.x c.b) (hshx : ∀ c ∈ sh, 0 ≤ c.x ∧ c.x < 256 ∧ c.b.size = len)
    (h0 : 0 ≤ x) (h1 : x < 256) (hn2 : sh.length ≤ 16) (hlen : len ≤ 9)
    (hm1 : m "shares" = some (.ref l)) (hm2 : m "share_value_lengths" = some (.ref S2)) (hm3 : m "log_prod" = some (.int (preSum (fun i => logT (Builtin.bitXor ((sh.map (·.x)).getD i 0) x)) sh.length) lt))
    (hend : ∀ s' m mu ps t r, Act g L s'.heap m mu → (156, tabObj ps) ∈ mu → TriplesOk ps.toList → Fin s s' → r = interpB sh x len → Qf (.ret (.bytes r t)) s') :
    wpAny (model prog w) A (execs (body.drop 7) (envOfC qual scope L 161 cdv)) Qf E s := by
  w_on
  refine lookup_both (by k_dflt k_is) hf fun hf => ?_
  injection hf with _ _ hf _
  injection hf with hf
  injection hf with e1 e2 e3 e4 e5 e6 e7 e8 e9 e10 e11 e12 e13 e14 e15
  clear e1 e3 e6 e7 e8 e9 e10 e11 e12 e14 e15
  injection e4 with e4
  subst e4 e2 e5 e13
  clear hf
  simp only [List.drop_succ_cons, List.drop_zero]
  have hsz9 : (sh.map fun c => Value.ref c.a).toArray.size ≤ 900 := by simp only [List.size_toArray, List.length_map]; omega
  have hlenI : (len : Int) ≤ 1000 := by omega
  have hroom1 : A.depth < 799 := by omega
  have hroomR : A.depth < recursionLimit := by unfold recursionLimit; omega
  have itm : ∀ (i : Nat) (v : Value), (sh.map fun c => Value.ref c.a).toArray[i]? = some v → ∃ c, sh[i]? = some c ∧ c ∈ sh ∧ v = .ref c.a := by
    intro i v hv
    simp only [List.getElem?_toArray, List.getElem?_map] at hv
    cases hq : sh[i]? with
    | none => rw [hq] at hv; cases hv
    | some c => rw [hq] at hv; cases hv; exact ⟨c, rfl, List.mem_of_getElem? hq, rfl⟩
  have hS9 : s.heap.SetOf (intKind prog w) S2 _ _ := ⟨oS2, es2, ep2, tt2, X.get (by k_mem), hSet2⟩
  walk2
  refine getMethod_builtin (Heap.SetOf.typeIs hS9) PySem.F.plainAttrs_set PySem.F.slot_set_pop PySem.F.type_set_pop (Heap.SetOf.noDict hS9) ?_
  walk2
  refine' pop_set1 (k := len) ?hS ?hk ?_
  case hS => exact hS9
  case hk => exact fun j hj => by have := hj; simp at this; exact this.symm
  intro s10 t10 o10 F10 sb10 ho10
  have X10 := X.put (.head _) sb10 ho10
  walk2
  refine use_count (Int.natCast_nonneg _) hlenI ?_
  intro s11 t11 S11 e11
  rw [← e11] at X10
  have F11 : Fin s s11 := Fin.trans F10 S11.fin
  clear S11 e11 ho10 sb10 F10 hS9 X
  walk2
  rename_i s12 S12 X12
  have F12 : Fin s s12 := F11.trans S12.fin
  clear S12 X10 F11
  obtain ⟨m12, X12', hm1, hm2, hm3⟩ : ∃ m12, Act g L s12.heap m12 [(S2, o10), (S, oS), (L + 1 + 1 + 1, o1), (L + 1 + 1, o2), (L + 1, o3), (156, tabObj ps)] ∧
    m12 "shares" = some (.ref l) ∧ m12 "log_prod" = some (.int (lprod sh x) lt) ∧ m12 "result" = some (.bytes (Array.replicate (len : Int).toNat 0) t11) := ⟨_, X12, hm1, hm3, rfl⟩
  clear X12
  refine' for_list ?hh X12' hl ?hit (fun i s' m mu => Fin s s' ∧ (∃ osh olb w1 w2 ps', osh.data = .cell w1 ∧ olb.data = .cell w2 ∧ TriplesOk ps'.toList ∧ mu = [(S2, o10), (S, oS), (L + 1 + 1 + 1, osh), (L + 1 + 1, olb), (L + 1, o3), (156, tabObj ps')]) ∧
    (m "shares" = some (.ref l) ∧ (∃ t, m "log_prod" = some (.int (lprod sh x) t)) ∧ (∃ t, m "result" = some (.bytes (ipre sh x len i) t)))) ?hJ ?hJ0 ?turn ?done
  case hh => exact hh
  case hit => intro Q' E' hQ; walk2; exact hQ
  case hJ => rintro i s s' m mu ⟨a, b⟩ S; exact ⟨a.trans S.fin, b⟩
  case hJ0 => exact ⟨F12, ⟨_, _, _, _, _, d1, d2, ok, rfl⟩, hm1, ⟨_, hm2⟩, ⟨_, hm3⟩⟩
  case turn =>
    rintro I i v o s13 m mu hv ⟨F13, ⟨osh, olb, w1, w2, ps13, d13, e13, ok13, rfl⟩, hn1, ⟨tl, hn2⟩, ⟨tr, hn3⟩⟩ X13
    obtain ⟨c, hc, hcm, rfl⟩ := itm i v hv
    have hcs := hsh c hcm
    obtain ⟨hx0, hx1, hbs⟩ := hshx c hcm
    obtain ⟨b0, b1⟩ := bx_rng hx0 hx1 h0 h1
    refine turn_abs fun Q' E' hQ' hE' => ?_
    walk2
    rename_i sA oA SA dA XA sB tB KB SB XB tC
    have F14 : Fin s sB := F13.trans (SA.fin.trans SB.fin)
    clear SA SB KB XA F13
    refine' jgen (fun i y => FInt (logT (Builtin.bitXor c.x ((sh.map (·.x)).getD i 0))) y) [_, _, _, _, _, _] hW XB rfl rfl ?hh rfl rfl ?cell rfl rfl rfl hroomR ?fold rfl ?T (by decide) ?hit hl ?helt ?_
    case hh => exact hh
    case T => exact XB.tab (by k_mem) C160 ok13
    case cell => decide
    case fold => intro _; rfl
    case hit => intro Q' hQ; walk2; exact hQ
    case helt =>
      intro A' E' i v s₂ m₂ C code hA hd hv hm XC
      obtain ⟨c', hc', hcm', rfl⟩ := itm i v hv
      have hcs' := hsh c' hcm'
      have hr : A'.depth < 799 := Nat.lt_of_le_of_lt hd hroom2
      obtain ⟨b0, b1⟩ := bx_rng hx0 hx1 (hshx c' hcm').1 (hshx c' hcm').2.1
      walk2
      rename_i sA tA KA SA XA sB tB KB SB XB tC
      have ev : (sh.map (·.x)).getD i 0 = c'.x := by simp [hc']
      have hk3 := Keeps.trans' KA.keep (Keeps.trans' KB.keep (keeps_tok sB (sB.toks + 1)))
      refine ⟨⟨tC, ?_⟩, hk3⟩
      rw [ev]
    intro a s15 M N
    walk2
    have N1 : GenR prog w A a (sh.map fun c => Value.ref c.a).toArray.size (fun j y => j < (sh.map fun c => Value.ref c.a).toArray.size ∧ FInt (logT ((fun i => Builtin.bitXor c.x ((sh.map (·.x)).getD i 0)) j)) y) sB.heap.objs.size s15 := by
      dsimp only
      exact N
    refine' use_sumlog (fun i => Builtin.bitXor c.x ((sh.map (·.x)).getD i 0)) ?N hsz9 ?_
    case N => exact N1
    intro s16 t16 R16
    obtain ⟨ps16, ok16, F16, hx16, _⟩ := gen_done M R16 XB C160 (by k_mem)
    have X16 := hx16 _ (.tail _ (.tail _ (.tail _ (.tail _ (.tail _ (.tail _ (.head _)))))))
    clear hx16
    replace F16 : Fin s s16 := F14.trans F16
    clear R16 M N F14 ok13 XB
    rw [show (sh.map fun c => Value.ref c.a).toArray.size = sh.length by simp]
    walk2
    rename_i s17 oL S17 d17 X17
    replace F16 : Fin s s17 := F16.trans (JA.Same.fin S17)
    obtain ⟨tL, dL⟩ : ∃ t, oL.data = .cell (some (.int (lbe sh x c.x) t)) := ⟨_, d17⟩
    clear d17 S17 X16 N1
    have hr1 : (ipre sh x len i).size = len := ipre_size sh x len i
    refine' jgenz (fun j y => FInt (mixv (lbe sh x c.x) (byteI c.b j) (byteI (ipre sh x len i) j)) y) [_, _, _, _, _, _] (b1 := c.b) (b2 := ipre sh x len i) hW X17 rfl rfl (hbs.trans hr1.symm) ?hh rfl rfl ?cell rfl rfl rfl (by decide) rfl hroomR ?fold rfl ?T (by decide) ?hit ?helt ?_
    case hh => exact hh
    case T => exact X17.tab (by k_mem) C160 ok16
    case cell => decide
    case fold => intro _; rfl
    case hit =>
      intro Q' hQ
      walk2
      rename_i sA tA KA SA XA
      refine' call_zipAt ?k ?z ?_
      case k => exact KA.keep
      case z => exact KA.size
      intro z TI TO i1 i2 s₁ Z
      exact hQ z TI TO i1 i2 _ _ s₁ Z
    case helt =>
      intro A' E' j c1 c2 u1 u2 s₂ m₂ C code hA hd hv1 hv2 hma hmb XC
      have q0 : 0 ≤ (c1.toNat : Int) := Int.natCast_nonneg _
      have q1 : (c1.toNat : Int) < 256 := Int.ofNat_lt.mpr c1.toNat_lt
      obtain ⟨q2, q3⟩ := fmod_rng (logT (c1.toNat : Int) + lbe sh x c.x) (show (0 : Int) < 255 by decide)
      have ev1 := byteI_of hv1
      have ev2 := byteI_of hv2
      walk2
      · rename_i ne tA tB
        refine ⟨fint_of ?_, keeps_tok s₂ _⟩
        rw [ev1, ev2]
        unfold mixv
        rw [if_pos ne]
      · rename_i e
        refine ⟨fint_of ?_, keeps_tok s₂ _⟩
        rw [ev1, ev2, e]
        unfold mixv
        rw [if_neg (by simp)]
    intro a s18 M N
    walk2
    refine' use_bytesI (fun j => mixv (lbe sh x c.x) (byteI c.b j) (byteI (ipre sh x len i) j)) ?N ?r ?n ?lo ?_
    case N => exact N
    case r => exact fun j => mixv_rng (byteI_rng _ j)
    case n => rw [hbs]; omega
    case lo => exact M.size
    intro s19 t19 R19
    obtain ⟨ps19, ok19, F19, hx19, _⟩ := gen_done M R19 X17 C160 (by k_mem)
    have X19 := hx19 _ (.tail _ (.tail _ (.tail _ (.tail _ (.tail _ (.tail _ (.head _)))))))
    clear hx19
    replace F19 : Fin s s19 := F16.trans F19
    clear R19 M N F16 ok16 X17
    walk2
    rename_i s20 S20 X20
    refine hQ' _ _ ?_
    refine NextOk.mk _ _ X20 ⟨F19.trans (JA.Same.fin S20), ⟨_, _, _, _, _, dA, dL, ok19, rfl⟩, hn1, ⟨_, hn2⟩, ?_⟩
    have ei : octs (fun j => mixv (lbe sh x c.x) (byteI c.b j) (byteI (ipre sh x len i) j)) c.b.size = ipre sh x len (i + 1) := by
      rw [hbs]
      conv => rhs; unfold ipre
      rw [hc]
      rfl
    rw [← ei]
    exact ⟨t19, rfl⟩
  case done =>
    rintro s13 m mu ⟨F13, ⟨osh, olb, w1, w2, ps13, d13, e13, ok13, rfl⟩, hn1, ⟨tl, hn2⟩, ⟨tr, hn3⟩⟩ X13
    rw [show (sh.map fun c => Value.ref c.a).toArray.size = sh.length by simp] at hn3
    walk2
    exact hend _ _ _ _ _ _ X13 (by k_mem) ok13 F13 rfl
end
section
open PySem PySem.W PyProof.Rows PySem.Calls
set_option maxRecDepth 100000


theorem reset_JI0 : True := by
  w_top off
  trivial
local macro_rules | `(tactic| walk_at "J none 0") => `(tactic| skip)
local macro_rules | `(tactic| walk_at "eval Name") => `(tactic| (k_dflt (first
  | (refine' jn_local ?X ?l ?a ?b ?v ?_ ?d; (case a => exact rfl); (case b => exact rfl); (case l => exact rfl); (case X => k_asm); (case v => first | assumption | exact rfl); (case d => decide); k_whole)
  | (refine' jn_cell ?a ?b ?c ?i ?_ ?d; (case a => exact rfl); (case b => exact rfl); (case c => exact rfl); (case i => refine cell_of (by k_asm) (by k_mem) (by k_asm)); (case d => decide); k_whole)
  | (refine' jn_free ?a ?b ?c ?i ?_ ?d ?e; (case a => exact rfl); (case b => exact rfl); (case c => exact rfl); (case i => refine cell_of (by k_asm) (by k_mem) (by k_asm)); (case d => decide); (case e => decide); k_whole)
  | (refine' jn_global ?W ?X ?l ?a ?b ?e ?_ ?d; (case a => exact rfl); (case b => exact rfl); (case l => exact rfl); (case W => k_asm); (case X => k_asm); (case e => k_is); (case d => decide); k_whole)
  | (refine' jn_builtin ?W ?X ?l ?l2 ?a ?b ?e ?v ?n ?_ ?d; (case a => exact rfl); (case b => exact rfl); (case l => exact rfl); (case l2 => exact rfl); (case W => k_asm); (case X => k_asm); (case e => k_is); (case v => first | boot_fast | boot_by_name); (case n => decide); (case d => decide); k_whole))))
local macro_rules | `(tactic| walk_at "subscriptTail") => `(tactic| ((with_reducible show wpAny _ _ (subscriptTail _ _ (Value.ref _) (Value.int _ _)) _ _ _); k_dflt (refine' item_list (by walk_at "J list") ?a ?b ?c ?_ ?hs; (case hs => with_unfolding_all rfl); (case a => decide); (case b => decide); (case c => exact rfl))))
local macro_rules | `(tactic| walk_at "call builtin:len") => `(tactic| (k_dflt (first
  | (refine' len_set' ?h ?_; (case h => exact ⟨_, _, _, _, Act.get (by k_asm) (by k_mem), by assumption⟩); k_whole)
  | (refine' call_len_list (by walk_at "J list") ?f ?_; (case f => (first | decide | (simp only [List.size_toArray, List.length_map]; omega))); k_whole))))
set_option maxHeartbeats 2500000 in
theorem interp_spec {prog : Program} {w : World} {A : Around} {s : Shared} {g : Heap} {ps : Array Value}
    {R : Result → Shared → Prop} {l : Addr} {sh : List Sh} {len : Nat} {x : Int} {tx : Tok}
    (hW : Wd w g) (hk : Stays g s.heap) (hP : s.heap.get? 156 = some (tabObj ps)) (hPg : g.get? 156 = none) (T : Tab s.heap 160 156)
    (hroom : A.depth < 500) (hh : A.handled = none)
    (hl : g.IsList l (sh.map fun c => Value.ref c.a).toArray) (hsh : ∀ c ∈ sh, IsShare g c.a c.x c.b ∧ 0 ≤ c.x ∧ c.x < 256 ∧ c.b.size = len) (h0 : 0 ≤ x) (h1 : x < 256)
    (hn : 0 < sh.length) (hn2 : sh.length ≤ 16) (hnd : (sh.map (·.x)).Nodup) (hlen : len ≤ 9)
    (h : ∀ s' t r, Off [156] s.heap s'.heap → Tab s'.heap 160 156 → Fin s s' → InterpR sh x len r → R (.ok (.ret (.bytes r t))) s') :
    codeAny (model prog w) A (.call (.ref 161) ⟨[.ref l, .int x tx], []⟩) R s := by
  w_on
  refine enterC (binds := [("shares", .ref l), ("x", .int x tx)]) (mu := [(156, tabObj ps)]) hW hk (by simp [hP, hPg]) (by simp) (by k_dflt k_is) (by k_dflt k_is) (by unfold recursionLimit; omega) (by exact BindsTo.of_eq rfl) ?_ (by decide) ?_ (by exact rfl) (by exact rfl) (by exact rfl)
  · intro n y hy
    simp only [List.mem_cons, List.not_mem_nil, or_false] at hy
    rcases hy with rfl | rfl
    · exact .inl rfl
    · exact .inr ⟨rfl, rfl⟩
  intro g₁ h₁ tk cells hW₁ gs gk hsame hold C X₁
  obtain ⟨o1, o2, o3, rfl, d1, d2, d3⟩ := CellsAre.three C
  replace d1 : o1.data = .cell none := d1
  replace d2 : o2.data = .cell none := d2
  replace d3 : o3.data = .cell (some (.int x tx)) := d3
  clear C
  replace X₁ : Act g₁ s.heap.objs.size h₁ (fun y => if y = "shares" then some (.ref l) else none) [(s.heap.objs.size + 1 + 1 + 1, o1), (s.heap.objs.size + 1 + 1, o2), (s.heap.objs.size + 1, o3), (156, tabObj ps)] := X₁
  have S₁ := Same.refl s
  have hroom1 : A.depth + 1 < 799 := by omega
  have hroom2 : A.depth + 1 + 1 < 799 := by omega
  have hroomR : A.depth + 1 < recursionLimit := by unfold recursionLimit; omega
  have hdp : ∀ env, (A.deeper env).depth < 799 := fun _ => hroom1
  have hlenI : (len : Int) ≤ 1000 := by omega
  have hsb : sh.length + 1 < scanBound := by unfold scanBound; omega
  have hsz9 : (sh.map fun c => Value.ref c.a).toArray.size ≤ 900 := by simp only [List.size_toArray, List.length_map]; omega
  have hl₁ : g₁.IsList l (sh.map fun c => Value.ref c.a).toArray := let ⟨o, e, r⟩ := hl; ⟨o, gs _ _ e, r⟩
  have hsh₁ : ∀ c ∈ sh, IsShare g₁ c.a c.x c.b := fun c hc => (hsh c hc).1.keeps gs
  have T₁ : Tab h₁ 160 156 := T.keeps hold
  have hc₁ : g₁.get? 160 ≠ none := by
    rw [hW₁.K 160 _ (by k_dflt k_is)]
    exact nofun
  have itm : ∀ (i : Nat) (v : Value), (sh.map fun c => Value.ref c.a).toArray[i]? = some v → ∃ c, sh[i]? = some c ∧ c ∈ sh ∧ v = .ref c.a := by
    intro i v hv
    simp only [List.getElem?_toArray, List.getElem?_map] at hv
    cases hq : sh[i]? with
    | none => rw [hq] at hv; cases hv
    | some c => rw [hq] at hv; cases hv; exact ⟨c, rfl, List.mem_of_getElem? hq, rfl⟩
  walk2
  refine' jgen (fun i y => FInt ((sh.map (·.x)).getD i 0) y) [_, _, _] hW₁ X₁ rfl rfl ?hh rfl rfl ?cell rfl rfl rfl ?room ?fold rfl T₁ (by decide) ?hit hl₁ ?helt ?_
  case hh => exact hh
  case cell => decide
  case room => exact hroomR
  case fold => intro _; rfl
  case hit => intro Q' hQ; walk2; exact hQ
  case helt =>
    intro A' E' i v s₂ m₂ C code hA hd hv hm XC
    obtain ⟨c, hc, hcm, rfl⟩ := itm i v hv
    have hcs := hsh₁ c hcm
    have hr : A'.depth < 799 := Nat.lt_of_le_of_lt hd hroom2
    walk2
    exact ⟨⟨_, by simp [hc]; rfl⟩, Grow.keep (by assumption)⟩
  intro a s' M N
  walk2
  refine' use_setI (fun i => (sh.map (·.x)).getD i 0) ?N hsz9 ?lo ?_
  case N => exact N
  case lo => exact M.size
  intro s2 R1 hS1
  have hend : ∀ (s' : Shared) m mu ps t r, Act g₁ s.heap.objs.size s'.heap m mu → (156, tabObj ps) ∈ mu → TriplesOk ps.toList → Fin s s' → InterpR sh x len r → R (.ok (.ret (.bytes r t))) s' :=
    fun s' m mu ps' t r X hm ok F I => h s' t r (fun b o hb e => X.keep b o (hsame b o e (by simpa using hb))) (X.tab hm (T₁.codeOf X₁.keep hc₁) ok) F I
  have C160 : CodeOf g₁ 160 156 := T₁.codeOf X₁.keep hc₁
  rw [show (sh.map fun c => Value.ref c.a).toArray.size = (sh.map (·.x)).length by simp, firstMet_nodup hnd, List.length_map] at hS1
  obtain ⟨oS, es, ep, tt, hoS, hSet⟩ := hS1
  obtain ⟨ps2, ok2, F2, hx, X2S⟩ := gen_done M R1 X₁ C160 (by k_mem)
  have X2 := X2S _ _ _ M.size hoS (.tail _ (.tail _ (.tail _ (.head _))))
  clear X2S hx
  have F2 : Fin s s2 := F2
  generalize s'.heap.objs.size = S at X2
  clear hoS R1 M N
  walk2
  · rename_i e3
    exact absurd e3 (by simp)
  rename_i s3 S3 X3 e3
  clear e3
  have F3 := F2.trans S3.fin
  clear S3 X2 F2
  have T3 : Tab s3.heap 160 156 := X3.tab (by k_mem) C160 ok2
  refine' jgen (fun i y => FInt len y) [_, _, _, _] hW₁ X3 rfl rfl ?hh rfl rfl ?cell rfl rfl rfl ?room ?fold rfl T3 (by decide) ?hit hl₁ ?helt ?_
  case hh => exact hh
  case cell => decide
  case room => exact hroomR
  case fold => intro _; rfl
  case hit => intro Q' hQ; walk2; exact hQ
  case helt =>
    intro A' E' i v s₂ m₂ C code hA hd hv hm XC
    obtain ⟨c, hc, hcm, rfl⟩ := itm i v hv
    have hcs := hsh₁ c hcm
    have hsz := (hsh c hcm).2.2.2
    have hr : A'.depth < 799 := Nat.lt_of_le_of_lt hd hroom2
    walk2
    exact ⟨⟨_, by rw [hsz]⟩, Keeps.trans' (Grow.keep (by assumption)) (keeps_tok _ _)⟩
  intro a s4 M N
  walk2
  refine' use_setI (fun _ => (len : Int)) ?N hsz9 ?lo ?_
  case N => exact N
  case lo => exact M.size
  intro s5 R5 hS5
  rw [firstMet_const (c := len) (fun _ _ => rfl) (by simpa using hn)] at hS5
  obtain ⟨oS2, es2, ep2, tt2, hoS2, hSet2⟩ := hS5
  obtain ⟨ps5, ok5, F5, hx, X5S⟩ := gen_done M R5 X3 C160 (by k_mem)
  have X5 := X5S _ _ _ M.size hoS2 (.tail _ (.tail _ (.tail _ (.tail _ (.head _)))))
  clear X5S hx
  have F5 : Fin s s5 := F3.trans F5
  generalize s4.heap.objs.size = S2 at X5
  clear hoS2 R5 M N F3 T3 ok2 X3
  walk2
  · rename_i e3
    exact absurd e3 (by simp)
  rename_i s6 S6 X6 e3
  clear e3
  have F6 := F5.trans S6.fin
  clear S6 X5 F5
  refine' wpAny_inSet_of (knd := intKind prog w) (k := x) (intKind_is _ _ _ _) rfl ⟨oS, es, ep, tt, X6.get (by k_mem), hSet⟩ ?_
  dsimp only
  cases hin : (List.map (fun x => x.x) sh).any fun y => y == x with
  | true =>
    walk2
    obtain ⟨m6, X6', hm1, hm2, hm3⟩ : ∃ m6, Act g₁ s.heap.objs.size s6.heap m6 [(S2, oS2), (S, oS), (s.heap.objs.size + 1 + 1 + 1, o1), (s.heap.objs.size + 1 + 1, o2), (s.heap.objs.size + 1, o3), (156, tabObj ps5)] ∧
      m6 "shares" = some (.ref l) ∧ m6 "x_coordinates" = some (.ref S) ∧ m6 "share_value_lengths" = some (.ref S2) := ⟨_, X6, rfl, rfl, rfl⟩
    clear X6
    refine' for_list ?hh X6' hl₁ ?hit (fun i s' m mu => Fin s s' ∧ (∃ osh w, osh.data = .cell w ∧ mu = [(S2, oS2), (S, oS), (s.heap.objs.size + 1 + 1 + 1, osh), (s.heap.objs.size + 1 + 1, o2), (s.heap.objs.size + 1, o3), (156, tabObj ps5)]) ∧ m = m6 ∧
      ∀ j c, j < i → sh[j]? = some c → c.x ≠ x) ?hJ ?hJ0 ?turn ?done
    case hh => exact hh
    case hit => intro Q' E' hQ; walk2; exact hQ
    case hJ => rintro i s s' m mu ⟨a, b⟩ S; exact ⟨a.trans S.fin, b⟩
    case hJ0 => exact ⟨F6, ⟨_, _, d1, rfl⟩, rfl, fun j c hj => absurd hj (Nat.not_lt_zero _)⟩
    case turn =>
      rintro I i v o s7 m mu hv ⟨F7, ⟨osh, w7, d7, rfl⟩, rfl, hno⟩ X7
      obtain ⟨c, hc, hcm, rfl⟩ := itm i v hv
      have hcs := hsh₁ c hcm
      refine turn_abs fun Q' E' hQ' hE' => ?_
      walk2
      · rename_i sA oA SA dA XA sB tB KB SB XB e sC tC KC SC XC
        refine hQ' _ _ ?_
        exact hend _ _ _ _ _ _ XC (by k_mem) ok5 (F7.trans (SA.fin.trans (SB.fin.trans SC.fin))) (.inl ⟨c, hcm, e, rfl⟩)
      · rename_i sA oA SA dA XA sB tB KB SB XB e
        refine hQ' _ _ ?_
        refine ⟨_, _, XB, F7.trans (SA.fin.trans SB.fin), ⟨_, _, dA, rfl⟩, rfl, fun j c' hj hc' => ?_⟩
        rcases Nat.lt_succ_iff_lt_or_eq.mp hj with hj | rfl
        · exact hno j c' hj hc'
        · rw [hc] at hc'; cases hc'; exact e
    case done =>
      rintro s7 m mu ⟨F7, ⟨osh, w7, d7, rfl⟩, rfl, hno⟩ X7
      rw [List.any_eq_true] at hin
      obtain ⟨y, hy, e⟩ := hin
      obtain ⟨c, hc, rfl⟩ := List.mem_map.mp hy
      obtain ⟨j, hj, hcj⟩ := List.mem_iff_getElem.mp hc
      exact absurd (by simpa using e) (hno j c (by simpa using hj) (by rw [← hcj]; exact List.getElem?_eq_getElem hj))
  | false =>
    have hno : ∀ c ∈ sh, c.x ≠ x := fun c hc e => by
      rw [List.any_eq_false] at hin
      exact hin c.x (List.mem_map.mpr ⟨c, hc, rfl⟩) (by simpa using e)
    walk2
    have T6 : Tab s6.heap 160 156 := X6.tab (by k_mem) C160 ok5
    refine' jgen (fun i y => FInt (logT (Builtin.bitXor ((sh.map (·.x)).getD i 0) x)) y) [_, _, _, _, _] hW₁ X6 rfl rfl ?hh rfl rfl ?cell rfl rfl rfl ?room ?fold rfl T6 (by decide) ?hit hl₁ ?helt ?_
    case hh => exact hh
    case cell => decide
    case room => exact hroomR
    case fold => intro _; rfl
    case hit => intro Q' hQ; walk2; exact hQ
    case helt =>
      intro A' E' i v s₂ m₂ C code hA hd hv hm XC
      obtain ⟨c, hc, hcm, rfl⟩ := itm i v hv
      have hcs := hsh₁ c hcm
      have hr : A'.depth < 799 := Nat.lt_of_le_of_lt hd hroom2
      obtain ⟨b0, b1⟩ := bx_rng (hsh c hcm).2.1 (hsh c hcm).2.2.1 h0 h1
      walk2
      exact ⟨⟨_, by simp [hc]; rfl⟩, Keeps.trans' (Grow.keep (by assumption)) (keeps_tok _ _)⟩
    intro a s7 M N
    walk2
    refine' use_sumlog (fun i => Builtin.bitXor ((sh.map (·.x)).getD i 0) x) ?N hsz9 ?_
    case N => exact N
    intro s8 t8 R8
    obtain ⟨ps8, ok8, F8, hx8, _⟩ := gen_done M R8 X6 C160 (by k_mem)
    have X8 := hx8 _ (.tail _ (.tail _ (.tail _ (.tail _ (.tail _ (.head _))))))
    clear hx8
    replace F8 : Fin s s8 := F6.trans F8
    clear R8 M N T6 ok5 X6
    rw [show (sh.map fun c => Value.ref c.a).toArray.size = sh.length by simp]
    walk1
    rename_i s9 S9 X9
    refine' interp2 (A := A.deeper _) (by k_dflt k_is) hW₁ X9 C160 ok8 d1 d2 d3 hSet2 hroom2 hh hl₁ hsh₁ (fun c hc => (hsh c hc).2) h0 h1 hn2 hlen rfl rfl rfl ?_
    intro s' m mu ps t r X hm ok F hr
    exact hend s' m mu ps t r X hm ok ((F8.trans (JA.Same.fin S9)).trans F) (.inr ⟨hno, hr⟩)
end
section
open PySem PySem.W PyProof.Rows PySem.Calls
set_option maxRecDepth 100000


theorem reset_JAt : True := by
  w_top off
  trivial
section
variable {prog : Program} {w : World} {A : Around} {E : Value → Shared → Prop} {s : Shared}
theorem j_shl {a : Int} {n : Nat} {t u : Tok} {Q : Value → Shared → Prop} (e : a = (n : Int)) (hn : n < 256) (h : Q (.int ((2 * n : Nat) : Int) s.toks) { s with toks := s.toks + 1 }) : wpAny (model prog w) A (binaryOp .LShift (.int a t) (.int 1 u)) Q E s := by
  subst e
  refine lshift_int_small (by decide) (by decide) (by rw [Int.natAbs_natCast]; omega) ?_
  have : (n : Int) * 2 ^ (1 : Int).toNat = ((2 * n : Nat) : Int) := by
    show (n : Int) * 2 = _
    omega
  rw [this]
  exact h
theorem j_shr {a b : Int} {n k : Nat} {t u : Tok} {Q : Value → Shared → Prop} (e : a = (n : Int)) (eb : b = (k : Int)) (h : Q (.int ((n >>> k : Nat) : Int) s.toks) { s with toks := s.toks + 1 }) : wpAny (model prog w) A (binaryOp .RShift (.int a t) (.int b u)) Q E s := by
  subst e eb
  refine rshift_int (by omega) ?_
  have : ((n : Int).fdiv (2 ^ ((k : Int).toNat))) = ((n >>> k : Nat) : Int) := by
    rw [Nat.shiftRight_eq_div_pow, Int.toNat_natCast, Int.fdiv_eq_ediv_of_nonneg _ (Int.pow_nonneg (by decide))]
    simp
  rw [this]
  exact h
theorem j_xor {a b : Int} {m n : Nat} {t u : Tok} {Q : Value → Shared → Prop} (e : a = (m : Int)) (eb : b = (n : Int)) (h : Q (.int ((m ^^^ n : Nat) : Int) s.toks) { s with toks := s.toks + 1 }) : wpAny (model prog w) A (binaryOp .BitXor (.int a t) (.int b u)) Q E s := by
  subst e eb
  refine xor_int ?_
  rw [bx_nat]
  exact h
theorem j_and1 {a : Int} {n : Nat} {t u : Tok} {Q : Value → Shared → Prop} (e : a = (n : Int)) (h : Q (.int ((n % 2 : Nat) : Int) s.toks) { s with toks := s.toks + 1 }) : wpAny (model prog w) A (binaryOp .BitAnd (.int a t) (.int 1 u)) Q E s := by
  subst e
  refine and_int ?_
  have : Builtin.bitAnd (n : Int) 1 = ((n % 2 : Nat) : Int) := by
    rw [bitAnd_pp (by omega) (by omega), Int.toNat_natCast]
    show ((n &&& 1 : Nat) : Int) = _
    rw [Nat.and_one_is_mod]
  rw [this]
  exact h
theorem item_last {value slice : Expr} {l : Addr} {items : List Value} {u : Tok} {v : Value} {Q : Value → Shared → Prop} (hl : s.heap.IsList l items.toArray) (hz : items.length ≤ 10000) (hx : items[items.length - 1]? = some v) (h : Q v s)
    (hs : subscripted slice false (.ref l) (.int (-1) u) = operate [.ref l, .int (-1) u] (getItem (.ref l) (.int (-1) u))) : wpAny (model prog w) A (subscriptTail value slice (.ref l) (.int (-1) u)) Q E s := by
  have hpos : 0 < items.length := by
    cases items with
    | nil => cases hx
    | cons _ _ => simp
  refine tail_any hl.typeIs slot_list_getitem.lookup (wpAny_getItem_list_neg hl (by decide) (by simp; omega) (by decide) ?_ h) hs
  have : ((-1 : Int) + (items.toArray.size : Nat)).toNat = items.length - 1 := by simp; omega
  rw [this]
  simpa using hx
end
local macro_rules | `(tactic| walk_at "subscriptTail") => `(tactic| ((with_reducible show wpAny _ _ (subscriptTail _ _ (Value.ref _) (Value.int (-1) _)) _ _ _); k_dflt (refine' item_last (by walk_at "J list") ?a ?c ?_ ?hs; (case hs => with_unfolding_all rfl); (case c => first | assumption | exact rfl); (case a => walk_at "J len"))))
local macro_rules | `(tactic| walk_at "binaryOp LShift int int") => `(tactic| (k_dflt (refine' j_shl ?e ?n ?_; (case e => exact rfl); (case n => assumption))))
local macro_rules | `(tactic| walk_at "binaryOp RShift int int") => `(tactic| (k_dflt (refine' j_shr ?e ?n ?_; (case e => exact rfl); (case n => first | assumption | exact rfl))))
local macro_rules | `(tactic| walk_at "binaryOp BitAnd int int") => `(tactic| (k_dflt (refine' j_and1 ?e ?_; (case e => exact rfl))))
local macro_rules | `(tactic| walk_at "binaryOp BitXor int int") => `(tactic| (k_dflt (refine' j_xor ?e ?n ?_; (case e => exact rfl); (case n => exact rfl))))
local macro_rules | `(tactic| walk_at "binaryOp Mult ref int") => `(tactic| (k_dflt (refine' j_mul ?X ?S ?l ?a ?b ?_; (case X => k_asm); (case S => exact Same.refl _); (case l => exact Act.get (by k_asm) (by k_mem)); (case a => first | decide | with_reducible assumption); (case b => first | decide | exact Int.natCast_nonneg _ | with_reducible assumption); k_whole); intro a' s' S' X' z'))
set_option maxHeartbeats 1000000 in
theorem at_spec {prog : Program} {w : World} {A : Around} {s : Shared} {g : Heap} {R : Result → Shared → Prop} {ra : Addr} {p : Nat} {tp : Tok}
    (hW : Wd w g) (hk : Stays g s.heap) (hroom : A.depth < 500) (hh : A.handled = none) (hp : p < 256)
    {as : List Addr} {rs : List (List Nat)} {size : Nat} (hr : IsRows g ra as rs) (hne : 0 < rs.length) (hsz : ∀ r ∈ rs, r.length = size) (hv : ∀ r ∈ rs, ∀ v ∈ r, v < 256) (hsize : size ≤ 9)
    (h : ∀ s' t, Same s s' → Stays s.heap s'.heap → R (.ok (.ret (.bytes (byteArr ((colsN rs p size).map fun n : Nat => (n : Int))) t))) s') :
    codeAny (model prog w) A (.call (.ref 201) ⟨[.ref ra, .int p tp], []⟩) R s := by
  w_on
  refine enter (binds := [("rows", .ref ra), ("place", .int p tp)]) hW hk (mu := []) (by simp) (by simp) (by k_dflt k_is) (by k_dflt k_is) (by unfold recursionLimit; omega) (by exact BindsTo.of_eq rfl) (by exact locs rfl) (by decide) ?_ (by exact rfl) (by exact rfl) (by exact rfl)
  intro g₁ h₁ hW₁ gs gk hsame hold X₁
  have S₁ := Same.refl s
  refine body_abs fun Q0 E0 hQ0 hE0 => ?_
  walk2
  rename_i pa s2 S2 X2 z2 s3 S3 X3
  have SS : Same s s3 := ((Same.refl s).go S2).go S3
  obtain ⟨m3, X3', hm1, hm2⟩ : ∃ m3, Act g₁ s.heap.objs.size s3.heap m3 [(pa, lst [Value.int p tp] 0)] ∧ m3 "rows" = some (.ref ra) ∧ m3 "powers" = some (.ref pa) := ⟨_, X3, rfl, rfl⟩
  clear X3 S3 X2 S2 X₁
  refine' for_src ?hh X3' (Src.rng (a := 0) (b := 7) (n := 7) rfl (by decide) (by decide) ?hit) (fun i s' m mu => Same s s' ∧ m "rows" = some (.ref ra) ∧ m "powers" = some (.ref pa) ∧ ∃ items n, mu = [(pa, lst items n)] ∧ NatsAre items ((List.range (i + 1)).map fun q => xti q p)) ?hJ ?hJ0 ?turn ?done
  case hh => exact hh
  case hit =>
    intro Q' hQ
    walk2
    exact hQ _ _ ((Same.refl _).go (by assumption)) (by assumption) (by assumption)
  case hJ => rintro i s s' m mu ⟨a, b⟩ S; exact ⟨a.trans S, b⟩
  case hJ0 => exact ⟨SS, hm1, hm2, _, _, rfl, .cons _ _ .nil⟩
  case turn =>
    rintro I i v o s4 m mu hi ⟨t, rfl⟩ ⟨S4, hm1, hm2, items, n, rfl, hN⟩ X4
    have hlen := hN.len
    rw [List.length_map, List.length_range] at hlen
    obtain ⟨tl, hx⟩ := hN.at (i := i) (n := xti i p) (by simp)
    have hx' : items[items.length - 1]? = some (.int (xti i p : Nat) tl) := by rw [hlen]; exact hx
    have hlz : items.length ≤ 10000 := by omega
    have hxl : xti i p < 256 := xti_lt hp i
    refine turn_abs fun Q' E' hQ' hE' => ?_
    walk2
    · rename_i sA SA XA sB SB XB e sC SC XC
      refine hQ' _ _ ?_
      refine NextOk.mk _ _ XC ⟨((S4.go SA).go SB).go SC, hm1, hm2, _, _, rfl, xti_snoc hN ?_⟩
      show _ = xt (xti i p)
      unfold xt
      rw [if_pos (by omega)]
    · rename_i sA SA XA sB SB XB e sC SC XC
      refine hQ' _ _ ?_
      refine NextOk.mk _ _ XC ⟨((S4.go SA).go SB).go SC, hm1, hm2, _, _, rfl, xti_snoc hN ?_⟩
      show _ = xt (xti i p)
      unfold xt
      rw [if_neg (by omega)]
  case done =>
    rintro s4 m mu ⟨S4, hm1, hm2, items, n, rfl, hN⟩ X4
    obtain ⟨g4, X4', k4, l4⟩ := X4.settle1
    have hpl := lst_isList l4
    have hr4 : IsRows g4 ra as rs := (hr.keeps gs).keeps k4
    have hst4 : Stays s.heap g4 := fun b o e => k4 _ _ (hsame b o e (by simp))
    have hW4 := hW₁.keeps k4
    clear X4
    obtain ⟨a0, ha0⟩ : ∃ a0, as[0]? = some a0 := ⟨_, List.getElem?_eq_getElem (by rw [hr.2.1]; exact hne)⟩
    obtain ⟨r0, hr0⟩ : ∃ r0, rs[0]? = some r0 := ⟨_, List.getElem?_eq_getElem hne⟩
    obtain ⟨vs0, hl0, hN0⟩ := hr4.2.2 0 a0 r0 ha0 hr0
    have hx0 : (as.map Value.ref)[(0:Int).toNat]? = some (.ref a0) := by
      show (as.map Value.ref)[0]? = _
      rw [List.getElem?_map, ha0]; rfl
    have hz0 : vs0.toArray.size = size := by rw [List.size_toArray, hN0.len]; exact hsz _ (List.mem_of_getElem? hr0)
    have hz1 : ((vs0.toArray.size : Nat) : Int) ≤ 1000 := by omega
    have hz2 : ((vs0.toArray.size : Nat) : Int) < 2 ^ 63 := by omega
    have hrl := hr4.1
    walk2
    rename_i fa0 sA SA XA zA fa sB SB XB zB s5 S5 X5
    have SS5 : Same s s5 := ((S4.go SA).go SB).go S5
    rw [Int.toNat_natCast, hz0] at X5
    obtain ⟨m5, X5', hm1, hm2, hm3⟩ : ∃ m5, Act g4 s.heap.objs.size s5.heap m5 [(fa, lst (List.replicate size (Value.int 0 s4.toks)) 0), (fa0, lst [Value.int 0 s4.toks] 0)] ∧ m5 "rows" = some (.ref ra) ∧ m5 "powers" = some (.ref pa) ∧ m5 "found" = some (.ref fa) := ⟨_, X5, hm1, hm2, rfl⟩
    replace X5' := (X5'.perm (.swap _ _ _)).drop
    clear X5 XA SA XB SB S5
    refine' for_src ?hh X5' (Src.list hrl (by rw [List.size_toArray, List.length_map]) ?hit) (fun i s' m mu => Same s s' ∧ m "powers" = some (.ref pa) ∧ m "found" = some (.ref fa) ∧ ∃ F nf, mu = [(fa, lst F nf)] ∧ NatsAre F (colsN (rs.take i) p size)) ?hJ ?hJ0 ?turn ?done
    case hh => exact hh
    case hit =>
      intro Q' hQ
      walk2
      exact hQ
    case hJ => rintro i s s' m mu ⟨a, b⟩ S; exact ⟨a.trans S, b⟩
    case hJ0 => exact ⟨SS5, hm2, hm3, _, _, rfl, by rw [List.take_zero, cols_nil]; exact nats_zero _ _⟩
    case turn =>
      rintro I i v o s6 m mu hi hvI ⟨S6, hm2, hm3, F, nf, rfl, hF⟩ X6
      obtain ⟨a, ha⟩ : ∃ a, as[i]? = some a := ⟨_, List.getElem?_eq_getElem hi⟩
      have hi' : i < rs.length := by rw [← hr.2.1]; exact hi
      have hri : rs[i]? = some rs[i] := List.getElem?_eq_getElem hi'
      obtain ⟨vs, hl, hNr⟩ := hr4.2.2 i a _ ha hri
      have hvv : v = .ref a := by
        have : (as.map Value.ref)[i]? = some v := by simpa using hvI
        rw [List.getElem?_map, ha] at this
        exact (Option.some.inj this).symm
      subst hvv
      have hmem : rs[i] ∈ rs := List.getElem_mem hi'
      have hzi : vs.toArray.size = size := by rw [List.size_toArray, hNr.len]; exact hsz _ hmem
      have hzi2 : ((vs.toArray.size : Nat) : Int) < 2 ^ 63 := by omega
      have hzi3 : ((vs.toArray.size : Nat) : Int) = 0 + (size : Nat) := by omega
      refine turn_abs fun Q' E' hQ' hE' => ?_
      walk2
      rename_i s7 S7 X7
      obtain ⟨m7, X7', hm2, hm3, hm4⟩ : ∃ m7, Act g4 s.heap.objs.size s7.heap m7 [(I, o), (fa, lst F nf)] ∧ m7 "powers" = some (.ref pa) ∧ m7 "found" = some (.ref fa) ∧ m7 "row" = some (.ref a) := ⟨_, X7, hm2, hm3, rfl⟩
      have S7' : Same s s7 := S6.go S7
      clear X7 S7 X6 S6 X5'
      refine' for_src ?hh2 X7' (Src.rng (a := 0) (n := size) hzi3 (by decide) (by omega) ?hit2) (fun j s' m mu => Same s s' ∧ m "powers" = some (.ref pa) ∧ m "found" = some (.ref fa) ∧ m "row" = some (.ref a) ∧ ∃ F nf, mu = [(I, o), (fa, lst F nf)] ∧ NatsAre F (mixN (rs.take i) rs[i] p size j)) ?hJ2 ?hJ02 ?turn2 ?done2
      case hh2 => exact hh
      case hit2 =>
        intro Q' hQ
        walk2
        exact hQ _ _ ((Same.refl _).go (by assumption)) (by assumption) (by assumption)
      case hJ2 => rintro i s s' m mu ⟨a, b⟩ S; exact ⟨a.trans S, b⟩
      case hJ02 => exact ⟨S7', hm2, hm3, hm4, _, _, rfl, by rw [mix_zero]; exact hF⟩
      case turn2 =>
        rintro I2 j v o2 s8 m mu hj ⟨tj, rfl⟩ ⟨S8, hm2, hm3, hm4, F', nf', rfl, hF'⟩ X8
        have ej : (0 : Int) + (j : Nat) = (j : Nat) := by omega
        rw [ej]
        have hjr : rs[i].length = size := hsz _ hmem
        have ev : rs[i][j]? = some (rs[i].getD j 0) := by
          rw [List.getD_eq_getElem?_getD, List.getElem?_eq_getElem (by omega)]; rfl
        have hvl : rs[i].getD j 0 < 256 := hv rs[i] hmem _ (List.mem_of_getElem? ev)
        obtain ⟨tr, hxr⟩ := hNr.at ev
        have hxr' : vs[((j : Nat) : Int).toNat]? = some (.int ((rs[i].getD j 0 : Nat) : Int) tr) := by rw [Int.toNat_natCast]; exact hxr
        have j0 : 0 ≤ ((j : Nat) : Int) := Int.natCast_nonneg _
        have j1 : ((j : Nat) : Int) < 2 ^ 63 := by omega
        have hfl := hF'.len
        rw [mix_len] at hfl
        obtain ⟨tf, hxf⟩ := hF'.at (mix_at (rs.take i) rs[i] p size j hj)
        have hxf' : F'[((j : Nat) : Int).toNat]? = some (.int ((horner ((rs.take i).map (·.getD j 0)) p : Nat) : Int) tf) := by rw [Int.toNat_natCast]; exact hxf
        generalize hf : horner ((rs.take i).map (·.getD j 0)) p = f at hxf' 
        generalize hrv : rs[i].getD j 0 = rv at hxr' hvl
        clear hxf hxr ev
        refine turn_abs fun Q' E' hQ' hE' => ?_
        walk2
        rename_i s9 S9 X9 sA SA XA
        have S9' : Same s sA := (S8.go S9).go SA
        obtain ⟨mA, XA', hm2, hm3, hm4, hm5, hm6⟩ : ∃ mA, Act g4 s.heap.objs.size sA.heap mA [(I2, o2), (I, o), (fa, lst F' nf')] ∧ mA "powers" = some (.ref pa) ∧ mA "found" = some (.ref fa) ∧ mA "row" = some (.ref a) ∧ mA "j" = some (.int (j : Nat) tj) ∧ mA "total" = some (.int (rv : Nat) tr) :=
          ⟨_, XA, hm2, hm3, hm4, rfl, rfl⟩
        clear XA SA X9 S9 X8 S8 X7' S7'
        refine' for_src ?hh3 XA' (Src.rng (a := 0) (b := 8) (n := 8) rfl (by decide) (by decide) ?hit3) (fun k s' m mu => Same s s' ∧ m "powers" = some (.ref pa) ∧ m "found" = some (.ref fa) ∧ m "row" = some (.ref a) ∧ m "j" = some (.int (j : Nat) tj) ∧ mu = [(I2, o2), (I, o), (fa, lst F' nf')] ∧
          ∃ t, m "total" = some (.int ((rv ^^^ mulTo f p k : Nat) : Int) t)) ?hJ3 ?hJ03 ?turn3 ?done3
        case hh3 => exact hh
        case hit3 =>
          intro Q' hQ
          walk2
          exact hQ _ _ ((Same.refl _).go (by assumption)) (by assumption) (by assumption)
        case hJ3 => rintro i s s' m mu ⟨a, b⟩ S; exact ⟨a.trans S, b⟩
        case hJ03 => exact ⟨S9', hm2, hm3, hm4, hm5, rfl, tr, by rw [hm6]; show some (Value.int ((rv : Nat) : Int) tr) = some (Value.int ((rv ^^^ 0 : Nat) : Int) tr); rw [Nat.xor_zero]⟩
        case turn3 =>
          rintro I3 k v o3 sB m mu hk8 ⟨tk, rfl⟩ ⟨SB, hm2, hm3, hm4, hm5, rfl, tt, hm6⟩ XB
          have ek : (0 : Int) + (k : Nat) = (k : Nat) := by omega
          rw [ek]
          have k0 : 0 ≤ ((k : Nat) : Int) := Int.natCast_nonneg _
          have k1 : ((k : Nat) : Int) < 2 ^ 63 := by omega
          obtain ⟨tp, hxp⟩ := hN.at (i := k) (n := xti k p) (by rw [List.getElem?_map, List.getElem?_range hk8]; rfl)
          have hxp' : items[((k : Nat) : Int).toNat]? = some (.int ((xti k p : Nat) : Int) tp) := by rw [Int.toNat_natCast]; exact hxp
          clear hxp
          have e2 := mulTo_step f p k
          have k8 : 0 ≤ k := Nat.zero_le k
          refine turn_abs fun Q' E' hQ' hE' => ?_
          walk2
          · rename_i sC SC XC ne sD SD XD
            have e3 : rv ^^^ mulTo f p (k + 1) = rv ^^^ mulTo f p k ^^^ xti k p := by rw [e2, if_neg (fun q => ne (by rw [q]; rfl)), ← Nat.xor_assoc]
            refine hQ' _ _ ?_
            refine NextOk.mk _ _ XD ⟨(SB.go SC).go SD, hm2, hm3, hm4, hm5, rfl, ?_⟩
            rw [e3]
            exact ⟨_, rfl⟩
          · rename_i sC SC XC e0
            have e3 : mulTo f p (k + 1) = mulTo f p k := by rw [e2, if_pos (Int.ofNat.inj e0)]
            refine hQ' _ _ ?_
            refine NextOk.mk _ _ (XC.grow fun _ _ e => e) ⟨SB.go (SC.trans ⟨rfl, rfl, rfl⟩), hm2, hm3, hm4, hm5, rfl, ?_⟩
            rw [e3]
            exact ⟨_, hm6⟩
        case done3 =>
          rintro sB m mu ⟨SB, hm2, hm3, hm4, hm5, rfl, tt, hm6⟩ XB
          have jF : ((j : Nat) : Int) < F'.length := by omega
          walk2
          rename_i sC SC XC
          refine hQ' _ _ ?_
          refine NextOk.mk _ _ XC ⟨SB.go SC, hm2, hm3, hm4, _, _, rfl, ?_⟩
          rw [← mix_step _ _ _ _ _ hj, hf, hrv]
          exact hF'.set j _ tt
      case done2 =>
        rintro s8 m mu ⟨S8, hm2, hm3, hm4, F', nf', rfl, hF'⟩ X8
        walk2
        refine hQ' _ _ ?_
        refine NextOk.mk _ _ X8 ⟨S8, hm2, hm3, _, _, rfl, ?_⟩
        rw [mix_all] at hF'
        have : rs.take (i + 1) = rs.take i ++ [rs[i]] := List.take_succ_eq_append_getElem hi'
        rw [this]
        exact hF'
    case done =>
      rintro s6 m mu ⟨S6, hm2, hm3, F, nf, rfl, hF⟩ X6
      rw [hr.2.1, List.take_length] at hF
      have hFl := hF.len
      have hcl : (colsN rs p size).length = size := by simp [colsN]
      walk2
      refine' j_bytes ?hb X6 (Same.refl _) (X6.list (.head _)) hF ?hr ?hz ?_
      case hb => exact hh
      case hz => rw [hFl, hcl]; omega
      case hr =>
        intro n hn
        obtain ⟨k, hk, rfl⟩ := List.mem_map.mp hn
        have : k < 256 := by
          unfold colsN at hk
          obtain ⟨q, hq, rfl⟩ := List.mem_map.mp hk
          refine horner_lt (fun c hc => ?_) hp
          obtain ⟨r, hr', rfl⟩ := List.mem_map.mp hc
          rw [List.getD_eq_getElem?_getD]
          cases e : r[q]? with
          | none => decide
          | some c => exact hv r hr' c (List.mem_of_getElem? e)
        omega
      intro s7 t7 S7 X7
      refine hQ0 _ _ ?_
      exact h s7 t7 (S6.trans S7) (fun b o e => X7.keep _ _ (hst4 b o e))

end
section
open PySem PySem.W PyProof.Rows PySem.Calls
set_option maxRecDepth 100000
theorem reset_JFeed : True := by
  w_top off
  trivial
local macro_rules | `(tactic| walk_at "J none 0") => `(tactic| skip)
local macro_rules | `(tactic| walk_at "eval Name") => `(tactic| (k_dflt (first
  | (refine' jn_local ?X ?l ?a ?b ?v ?_ ?d; (case a => exact rfl); (case b => exact rfl); (case l => exact rfl); (case X => k_asm); (case v => first | assumption | exact rfl); (case d => decide); k_whole)
  | (refine' jn_cell ?a ?b ?c ?i ?_ ?d; (case a => exact rfl); (case b => exact rfl); (case c => exact rfl); (case i => refine cell_of (by k_asm) (by k_mem) (by k_asm)); (case d => decide); k_whole)
  | (refine' jn_free ?a ?b ?c ?i ?_ ?d ?e; (case a => exact rfl); (case b => exact rfl); (case c => exact rfl); (case i => refine cell_of (by k_asm) (by k_mem) (by k_asm)); (case d => decide); (case e => decide); k_whole)
  | (refine' jn_global ?W ?X ?l ?a ?b ?e ?_ ?d; (case a => exact rfl); (case b => exact rfl); (case l => exact rfl); (case W => k_asm); (case X => k_asm); (case e => k_is); (case d => decide); k_whole)
  | (refine' jn_builtin ?W ?X ?l ?l2 ?a ?b ?e ?v ?n ?_ ?d; (case a => exact rfl); (case b => exact rfl); (case l => exact rfl); (case l2 => exact rfl); (case W => k_asm); (case X => k_asm); (case e => k_is); (case v => first | boot_fast | boot_by_name); (case n => decide); (case d => decide); k_whole))))
local macro_rules | `(tactic| walk_at "subscriptTail") => `(tactic| ((with_reducible show wpAny _ _ (subscriptTail _ _ (Value.ref _) (Value.int _ _)) _ _ _); k_dflt (refine' item_list (by walk_at "J list") ?a ?b ?c ?_ ?hs; (case hs => with_unfolding_all rfl); (case a => decide); (case b => decide); (case c => exact rfl))))
local macro_rules | `(tactic| walk_at "call builtin:len") => `(tactic| (k_dflt (first
  | (refine' len_set' ?h ?_; (case h => exact ⟨_, _, _, _, Act.get (by k_asm) (by k_mem), by assumption⟩); k_whole)
  | (refine' call_len_list (by walk_at "J list") ?f ?_; (case f => (first | decide | (simp only [List.size_toArray, List.length_map]; omega))); k_whole))))

set_option maxHeartbeats 1000000 in
theorem feed_spec {prog : Program} {w : World} {A : Around} {s : Shared} {g : Heap} {R : Result → Shared → Prop} {sc : Addr} {items : List Value} {ns : List Int}
    (hW : Wd w g) (hk : Stays g s.heap) (hroom : A.depth < 500) (hh : A.handled = none) (hl : g.IsList sc items.toArray) (hI : IntsAre items ns) (hlen : items.length ≤ 63)
    (h : ∀ s' fa l seed t items' ns' n n', Same s s' → Stays s.heap s'.heap → s.heap.objs.size ≤ fa → s.heap.objs.size ≤ l → fa ≠ l → 0 ≤ seed → seed < 2147483648 → IntsAre items' ns' → items'.length ≤ 63 →
      s'.heap.get? fa = some (lst [.int seed t, .ref l] n) → s'.heap.get? l = some (lst items' n') → R (.ok (.ret (.ref fa))) s') :
    codeAny (model prog w) A (.call (.ref 187) ⟨[.ref sc], []⟩) R s := by
  w_on
  refine enter (binds := [("script", .ref sc)]) hW hk (mu := []) (by simp) (by simp) (by k_dflt k_is) (by k_dflt k_is) (by unfold recursionLimit; omega) (by exact BindsTo.of_eq rfl) (by exact locs rfl) (by decide) ?_ (by exact rfl) (by exact rfl) (by exact rfl)
  intro g₁ h₁ hW₁ gs gk hsame hold X₁
  have S₁ := Same.refl s
  have hl₁ : g₁.IsList sc items.toArray := let ⟨o, e, r⟩ := hl; ⟨o, gs _ _ e, r⟩
  walk2
  rename_i s2 S2 X2
  refine wpAny_For ?_ (fun _ => rfl)
  walk2
  rename_i a3 s3 S3 X3 z3
  obtain ⟨g3, X3', k3, l3⟩ := X3.settle1
  have hl3 := lst_isList l3
  have hI3 := slice_ints_uptoW hI (y := 63) (by decide)
  have hlen3 : (slicePick items.toArray none (some 63) none).toList.length ≤ 63 := Nat.le_trans (slice_len items none (some 63)) hlen
  have hW3 := hW₁.keeps k3
  clear X3
  have SS : Same s s3 := ⟨(S3.1.trans S2.1).trans rfl, (S3.2.1.trans S2.2.1).trans rfl, (S3.2.2.trans S2.2.2).trans rfl⟩
  have hl3' : g3.IsList sc items.toArray := let ⟨o, e, r⟩ := hl₁; ⟨o, k3 _ _ e, r⟩
  have hst3 : Stays s.heap g3 := fun b o e => k3 _ _ (hsame b o e (by simp))
  obtain ⟨m3, X3, hm1, hm2⟩ : ∃ m3, Act g3 s.heap.objs.size s3.heap m3 [] ∧ m3 "script" = some (.ref sc) ∧ ∃ t, m3 "seed" = some (.int 7 t) := ⟨_, X3', rfl, _, rfl⟩
  clear X3' S3 S2 X2 X₁
  refine' for_it ?hh X3 hl3 (fun i s' m mu => Same s s' ∧ mu = [] ∧ m "script" = some (.ref sc) ∧ ∃ seed t, m "seed" = some (.int seed t) ∧ 0 ≤ seed ∧ seed < 2147483648) ?hJ ?hJ0 ?turn ?done
  case hh => exact hh
  case hJ => rintro i s s' m mu ⟨a, b⟩ S; exact ⟨a.trans S, b⟩
  case hJ0 => obtain ⟨t, e⟩ := hm2; exact ⟨SS, rfl, hm1, 7, t, e, by decide, by decide⟩
  case turn =>
    rintro I i v o s4 m mu hv ⟨S4, rfl, hm, seed, t, hs, h0, h1⟩ X4
    obtain ⟨n, t, rfl⟩ := IntsAre.at hI3 (i := i) (by simpa using hv)
    walk2
    rename_i s5 S5 X5 s6 S6 X6
    have r := fmod_rng (seed * 131 + n + 17) (show (0:Int) < 1000003 by decide)
    exact NextOk.mk _ _ X6 ⟨(S4.trans S5).trans S6, rfl, hm, _, _, rfl, r.1, Int.lt_trans r.2 (by decide)⟩
  case done =>
    rintro s4 m mu ⟨S4, rfl, hm, seed, t, hs, h0, h1⟩ X4
    walk2
    rename_i a5 s5 S5 X5 z5 a6 n6 s6 S6 X6 z6 a7 s7 S7 X7 z7
    have e4 : s.heap.objs.size < s4.heap.objs.size := X4.ltL
    rw [Heap.size_push] at z5
    have e5 : a5 < s5.heap.objs.size := Heap.lt_size (X5.get (.head _))
    have e6 : a6 < s6.heap.objs.size := Heap.lt_size (X6.get (.head _))
    have q6 : s.heap.objs.size ≤ a6 := Nat.le_trans (Nat.le_of_lt e4) (Nat.le_trans (Nat.le_of_lt (Nat.lt_of_lt_of_le (Nat.lt_succ_self _) z5)) (Nat.le_trans (Nat.le_of_lt e5) z6))
    refine h s7 a7 a6 seed t _ _ _ _ (((S4.go S5).go S6).go S7) (fun b o e => X7.keep _ _ (hst3 b o e)) (Nat.le_trans q6 (Nat.le_trans (Nat.le_of_lt e6) z7)) q6 (Nat.ne_of_gt (Nat.lt_of_lt_of_le e6 z7)) h0 h1 hI3 hlen3 (X7.get (.head _)) (X7.get (.tail _ (.head _)))

end
section
open PySem PySem.W PyProof.Rows PySem.Calls
set_option maxRecDepth 100000
theorem reset_JRows : True := by
  w_top off
  trivial
local macro_rules | `(tactic| walk_at "eval Name") => `(tactic| (k_dflt (first
  | (refine' jn_local ?X ?l ?a ?b ?v ?_ ?d; (case a => exact rfl); (case b => exact rfl); (case l => exact rfl); (case X => k_asm); (case v => first | assumption | exact rfl); (case d => decide); k_whole)
  | (refine' jn_cell ?a ?b ?c ?i ?_ ?d; (case a => exact rfl); (case b => exact rfl); (case c => exact rfl); (case i => refine cell_of (by k_asm) (by k_mem) (by k_asm)); (case d => decide); k_whole)
  | (refine' jn_free ?a ?b ?c ?i ?_ ?d ?e; (case a => exact rfl); (case b => exact rfl); (case c => exact rfl); (case i => refine cell_of (by k_asm) (by k_mem) (by k_asm)); (case d => decide); (case e => decide); k_whole)
  | (refine' jn_global ?W ?X ?l ?a ?b ?e ?_ ?d; (case a => exact rfl); (case b => exact rfl); (case l => exact rfl); (case W => k_asm); (case X => k_asm); (case e => k_is); (case d => decide); k_whole)
  | (refine' jn_builtin ?W ?X ?l ?l2 ?a ?b ?e ?v ?n ?_ ?d; (case a => exact rfl); (case b => exact rfl); (case l => exact rfl); (case l2 => exact rfl); (case W => k_asm); (case X => k_asm); (case e => k_is); (case v => first | boot_fast | boot_by_name); (case n => decide); (case d => decide); k_whole))))

theorem nats_snocI {vs : List Value} {r : List Nat} (h : NatsAre vs r) (a : Int) (t : Tok) : NatsAre (vs ++ [.int (a.fmod 256) t]) (r ++ [(a.fmod 256).toNat]) ∧ (a.fmod 256).toNat < 256 := by
  have q := fmod_rng a (show (0 : Int) < 256 by decide)
  have := h.snoc (a.fmod 256).toNat t
  rw [Int.toNat_of_nonneg q.1] at this
  exact ⟨this, by omega⟩
theorem num_next {num : Int} (h0 : 0 ≤ num) (h1 : num < 256 ^ 9) : 0 ≤ num.fdiv 256 ∧ num.fdiv 256 < 256 ^ 9 := by
  rw [Int.fdiv_eq_ediv_of_nonneg _ (by decide)]
  omega
theorem num_next2 {num : Int} {i : Nat} (h0 : 0 ≤ num) (h1 : ¬ 65535 < num) (hi : i ≤ 16) : 0 ≤ num * 5 + (0 + (i : Int)) ∧ num * 5 + (0 + (i : Int)) < 256 ^ 9 := by omega
set_option maxHeartbeats 1000000 in
theorem rows_spec {prog : Program} {w : World} {A : Around} {s : Shared} {g : Heap} {R : Result → Shared → Prop} {fa l : Addr} {o1 o2 : Obj} {least size : Nat} {t1 t2 : Tok}
    (hW : Wd w g) (hk : Stays g s.heap) (hroom : A.depth < 400) (hh : A.handled = none) (hF : FeedOf l o1 o2) (hne : fa ≠ l)
    (hmu : ∀ p ∈ [(fa, o1), (l, o2)], s.heap.get? p.1 = some p.2 ∧ g.get? p.1 = none) (hleast : least ≤ 16) (hsize : size ≤ 9)
    (h : ∀ s' ra as rs o1' o2', Same s s' → Off [fa, l] s.heap s'.heap → FeedOf l o1' o2' → s'.heap.get? fa = some o1' → s'.heap.get? l = some o2' → IsRows (diff s.heap s'.heap) ra as rs → rs.length = least →
      (∀ r ∈ rs, r.length = size ∧ ∀ v ∈ r, v < 256) → R (.ok (.ret (.ref ra))) s') :
    codeAny (model prog w) A (.call (.ref 208) ⟨[.ref fa, .int least t1, .int size t2], []⟩) R s := by
  w_on
  refine enter (binds := [("feed", .ref fa), ("least", .int least t1), ("size", .int size t2)]) hW hk (mu := [(fa, o1), (l, o2)]) hmu (by simp [hne]) (by k_dflt k_is) (by k_dflt k_is) (by unfold recursionLimit; omega) (by exact BindsTo.of_eq rfl) (by exact locs rfl) (by decide) ?_ (by exact rfl) (by exact rfl) (by exact rfl)
  intro g₁ h₁ hW₁ gs gk hsame hold X₁
  have p72 : (0 : Int) < 256 ^ ((size : Nat) : Int).toNat ∧ (256 : Int) ^ ((size : Nat) : Int).toNat ≤ 256 ^ 9 := by
    rw [Int.toNat_natCast]
    exact ⟨Int.pow_pos (by decide), by
      have : ((256 ^ size : Nat) : Int) ≤ ((256 ^ 9 : Nat) : Int) := Int.ofNat_le.mpr (Nat.pow_le_pow_right (by decide) hsize)
      simpa using this⟩
  have p80 : (256 : Int) ^ ((size : Nat) : Int).toNat < 2 ^ 80 := Int.lt_of_le_of_lt p72.2 (by decide)
  have hroom1 : ∀ env, (A.deeper env).depth < 500 := fun env => by show A.depth + 1 < 500; omega
  refine body_abs fun Q0 E0 hQ0 hE0 => ?_
  walk2
  rename_i ra s2 S2 X2 z2 s3 S3 X3
  have SS : Same s s3 := ((Same.refl s).go S2).go S3
  have hra : s.heap.objs.size ≤ ra := Nat.le_trans (Nat.le_of_lt X₁.ltL) z2
  obtain ⟨m3, X3', hm1, hm2, hm3, hm4⟩ : ∃ m3, Act g₁ s.heap.objs.size s3.heap m3 [(ra, lst [] 0), (fa, o1), (l, o2)] ∧ m3 "feed" = some (.ref fa) ∧ m3 "least" = some (.int least t1) ∧ m3 "size" = some (.int size t2) ∧ m3 "rows" = some (.ref ra) := ⟨_, X3, rfl, rfl, rfl, rfl⟩
  clear X3 S3 X2 S2 X₁
  refine' for_src ?hh X3' (Src.rng (a := 0) (n := least) (b := least) (by omega) (by decide) (by omega) ?hit) (fun i s' m mu => Same s s' ∧ m "feed" = some (.ref fa) ∧ m "size" = some (.int size t2) ∧ m "rows" = some (.ref ra) ∧
    ∃ as rs ps nr o1 o2, mu = (ra, lst (as.map Value.ref) nr) :: (fa, o1) :: (l, o2) :: ps ∧ FeedOf l o1 o2 ∧ RowL ps as rs ∧ (∀ p ∈ ps, s.heap.objs.size ≤ p.1) ∧ rs.length = i ∧ ∀ r ∈ rs, r.length = size ∧ ∀ v ∈ r, v < 256) ?hJ ?hJ0 ?turn ?done
  case hh => exact hh
  case hit =>
    intro Q' hQ
    walk2
    exact hQ _ _ ((Same.refl _).go (by assumption)) (by assumption) (by assumption)
  case hJ => rintro i s s' m mu ⟨a, b⟩ S; exact ⟨a.trans S, b⟩
  case hJ0 => exact ⟨SS, hm1, hm3, hm4, [], [], [], 0, o1, o2, rfl, hF, .nil, (by simp), rfl, (by simp)⟩
  case turn =>
    rintro I i v o s4 m mu hi ⟨t, rfl⟩ ⟨S4, hm1, hm3, hm4, as, rs, ps, nr, o1, o2, rfl, hF, hL, hps, hrl, hrv⟩ X4
    refine turn_abs fun Q' E' hQ' hE' => ?_
    walk2
    rename_i s5 S5 X5
    refine' j_draw (pre := [_, _]) (post := ps) hW₁ ?X hF ?room p72.1 p80 ?_
    case X => exact X5
    case room => exact hroom1 _
    intro s6 num tn o1' o2' S6 hn0 hn1 hF' X6
    have hn2 : num < 256 ^ 9 := Int.lt_of_lt_of_le hn1 p72.2
    have S6' : Same s s6 := (S4.go S5).go S6
    clear X5 X4 S5 S6 S4 hn1
    walk2
    rename_i s7 S7 X7 row s8 S8 X8 z8 s9 S9 X9
    have hrow : s.heap.objs.size ≤ row := Nat.le_trans (Nat.le_of_lt X7.ltL) z8
    have hne1 : row ≠ ra := fun e => by
      have := X8.nd
      rw [e] at this
      exact (List.nodup_cons.mp this).1 (by simp)
    have S9' : Same s s9 := ((S6'.go S7).go S8).go S9
    obtain ⟨m9, X9', hm1, hm3, hm4, hm5, hm6, hm7⟩ : ∃ m9, Act g₁ s.heap.objs.size s9.heap m9 ((row, lst [] 0) :: (I, o) :: (ra, lst (as.map Value.ref) nr) :: (fa, o1') :: (l, o2') :: ps) ∧ m9 "feed" = some (.ref fa) ∧ m9 "size" = some (.int size t2) ∧ m9 "rows" = some (.ref ra) ∧
      m9 "row" = some (.ref row) ∧ m9 "k" = some (.int (0 + (i : Nat)) t) ∧ m9 "number" = some (.int num tn) := ⟨_, X9, hm1, hm3, hm4, rfl, rfl, rfl⟩
    clear X9 S9 X8 S8 X7 S7 X6 S6'
    refine' for_src ?hh2 X9' (Src.rng (a := 0) (n := size) (b := size) (by omega) (by decide) (by omega) ?hit2) (fun j s' m mu => Same s s' ∧ m "feed" = some (.ref fa) ∧ m "size" = some (.int size t2) ∧ m "rows" = some (.ref ra) ∧ m "row" = some (.ref row) ∧ m "k" = some (.int (0 + (i : Nat)) t) ∧
      (∃ num tn, m "number" = some (.int num tn) ∧ 0 ≤ num ∧ num < 256 ^ 9) ∧ ∃ vs r nw, mu = (row, lst vs nw) :: (I, o) :: (ra, lst (as.map Value.ref) nr) :: (fa, o1') :: (l, o2') :: ps ∧ NatsAre vs r ∧ r.length = j ∧ ∀ v ∈ r, v < 256) ?hJ2 ?hJ02 ?turn2 ?done2
    case hh2 => exact hh
    case hit2 =>
      intro Q' hQ
      walk2
      exact hQ _ _ ((Same.refl _).go (by assumption)) (by assumption) (by assumption)
    case hJ2 => rintro i s s' m mu ⟨a, b⟩ S; exact ⟨a.trans S, b⟩
    case hJ02 => exact ⟨S9', hm1, hm3, hm4, hm5, hm6, ⟨num, tn, hm7, hn0, hn2⟩, [], [], 0, rfl, .nil, rfl, (by simp)⟩
    case turn2 =>
      rintro I2 j v o2x sA m mu hj ⟨tj, rfl⟩ ⟨SA, hm1, hm3, hm4, hm5, hm6, ⟨num, tn, hm7, hn0, hn2⟩, vs, r, nw, rfl, hN, hr, hv⟩ XA
      have hvz : vs.length ≤ 10000 := by rw [hN.len]; omega
      have hi16 : i ≤ 16 := by omega
      refine turn_abs fun Q' E' hQ' hE' => ?_
      walk2
      · rename_i sB SB XB sC SC XC gt sD SD XD
        refine hQ' _ _ ?_
        refine NextOk.mk _ _ XD ⟨((SA.go SB).go SC).go SD, hm1, hm3, hm4, hm5, hm6, ⟨_, _, rfl, num_next hn0 hn2⟩, _, _, _, rfl, (nats_snocI hN _ _).1, by simp [hr], fun v hv' => ?_⟩
        rcases List.mem_append.mp hv' with hv' | hv'
        · exact hv v hv'
        · rw [List.mem_singleton.mp hv']; exact (nats_snocI hN _ 0).2
      · rename_i sB SB XB sC SC XC gt sD SD XD
        refine hQ' _ _ ?_
        refine NextOk.mk _ _ XD ⟨((SA.go SB).go SC).go SD, hm1, hm3, hm4, hm5, hm6, ⟨_, _, rfl, num_next2 hn0 gt hi16⟩, _, _, _, rfl, (nats_snocI hN _ _).1, by simp [hr], fun v hv' => ?_⟩
        rcases List.mem_append.mp hv' with hv' | hv'
        · exact hv v hv'
        · rw [List.mem_singleton.mp hv']; exact (nats_snocI hN _ 0).2
    case done2 =>
      rintro sA m mu ⟨SA, hm1, hm3, hm4, hm5, hm6, ⟨num, tn, hm7, hn0, hn2⟩, vs, r, nw, rfl, hN, hr, hv⟩ XA
      have hasz : (as.map Value.ref).length ≤ 10000 := by rw [List.length_map, hL.len]; omega
      walk2
      rename_i sB SB XB
      have XC := XB.perm (mu' := (I, o) :: (ra, lst (as.map Value.ref ++ [.ref row]) (nr + 1)) :: (fa, o1') :: (l, o2') :: (row, lst vs nw) :: ps) (by
        refine (List.Perm.swap _ _ _).trans (.cons _ ?_)
        refine (List.Perm.swap _ _ _).trans (.cons _ ?_)
        refine (List.Perm.swap _ _ _).trans (.cons _ ?_)
        exact (List.Perm.swap _ _ _))
      refine hQ' _ _ ?_
      refine NextOk.mk _ _ XC ⟨SA.go SB, hm1, hm3, hm4, as ++ [row], rs ++ [r], _, nr + 1, o1', o2', by rw [List.map_append]; rfl, hF', .snoc hL hN, ?_, by simp [hrl], ?_⟩
      · intro p hp
        rcases List.mem_cons.mp hp with rfl | hp
        · exact hrow
        · exact hps p hp
      · intro r' hr'
        rcases List.mem_append.mp hr' with hr' | hr'
        · exact hrv r' hr'
        · rw [List.mem_singleton.mp hr']; exact ⟨hr, hv⟩
  case done =>
    rintro s4 m mu ⟨S4, hm1, hm3, hm4, as, rs, ps, nr, o1, o2, rfl, hF, hL, hps, hrl, hrv⟩ X4
    walk2
    have off : Off [fa, l] s.heap s4.heap := fun b o hb e => X4.keep _ _ (hsame b o e (by simpa using hb))
    refine hQ0 _ _ ?_
    refine h s4 ra as rs o1 o2 S4 off hF (X4.get (.tail _ (.head _))) (X4.get (.tail _ (.tail _ (.head _)))) ⟨?_, hL.len, ?_⟩ hrl hrv
    · exact ⟨_, get_diff (X4.get (.head _)) hra, rfl, _, rfl⟩
    · exact hL.at fun p hp => get_diff (X4.get (.tail _ (.tail _ (.tail _ hp)))) (hps p hp)

end
section
open PySem PySem.W PyProof.Rows PySem.Calls
set_option maxRecDepth 100000


theorem reset_JHash : True := by
  w_top off
  trivial
section
variable {prog : Program} {w : World} {A : Around} {E : Value → Shared → Prop} {s : Shared} {g : Heap} {L : Addr} {m : Str → Option Value} {env : Env}
/-- a def made in a body, its code made for the first time -/
theorem j_def {P c : Addr} {pre post : List (Addr × Obj)} {name qual : Str} {params : Arguments} {body : List Stmt} {scope : Scope} {pos : Pos} {firstLine : Nat} {clos : List (Str × Addr)} {Q : Value → Shared → Prop} (hW : Wd w g) (X : Act g L s.heap m (pre ++ (P, tabObj #[]) :: post))
    (C : CodeHd g c P) (hcode : env.code = .ref c) (hge0 : env.globals = mainGlobals) (hcl : closureFor scope env = pure clos)
    (h : ∀ g' f s' c' doc pm ctv ps', Same s s' → Stays g g' → TriplesOk ps'.toList → Act g' L s'.heap m (pre ++ (P, tabObj ps') :: post) → g'.get? f = some (fnMade name qual params body scope clos doc pm c' ctv) → g'.CodeRec (.ref c') qual → s.heap.objs.size ≤ f → s.heap.objs.size ≤ c' → Q (.ref f) s') :
    wpAny (model prog w) A (makeFunction name qual params (.stmts body) scope env [] [] [] pos firstLine) Q E s := by
  obtain ⟨mg, bm, ob, b1, b2, b3, b4, b5, b6, b7⟩ := hW.mod
  have hm := X.mus (P, tabObj #[]) (List.mem_append_right _ (.head _))
  have hgP : mainGlobals ≠ P := fun q => by
    obtain ⟨o, es, ep, e, hd, _⟩ := b1
    rw [q, hm.2.2] at e; cases e
  have hbP : bm ≠ P := fun q => by rw [q, hm.2.2] at b4; cases b4
  have hbG : bm ≠ mainGlobals := fun q => by
    obtain ⟨o, es, ep, e, hd, _⟩ := b1
    rw [← q, b4] at e; cases e; rw [b7] at hd; cases hd
  refine makeFunction_K (mg := mg) hcl hge0 (b1.keeps X.keep) hcode (C.keeps X.keep) hm.1 trivial rfl hgP ⟨bm, ob, b2, b3, hbG, hbP, X.keep _ _ b4, b5, b6, b7⟩ fun c' ctv doc h' tk hx hge hlt hrec htb => ?_
  obtain ⟨c₂, oc, vs, t, e2, hoc, hd, hv⟩ := hrec
  cases e2
  have off : Off [P] s.heap (h'.push (fnMade name qual params body scope clos doc ((mg "__name__").getD .none) c' ctv)) := fun b o hb e => Heap.get?_push_of_some _ (hx b o (fun q => hb (by rw [q]; exact .head _)) e)
  have Y : Act g L (h'.push (fnMade name qual params body scope clos doc ((mg "__name__").getD .none) c' ctv)) m (pre ++ (P, tabObj (#[] ++ #[rawInt pos.line, rawInt pos.col, .ref c'])) :: post) := by
    refine Act.after (mu := [(P, tabObj #[])]) (mu' := [(P, tabObj (#[] ++ #[rawInt pos.line, rawInt pos.col, .ref c']))]) X off rfl ?_
    intro p hp
    rw [List.mem_singleton.mp hp]
    exact Heap.get?_push_of_some _ htb
  have hsz : s.heap.objs.size ≤ h'.objs.size := Nat.le_trans hge (Nat.le_of_lt hlt)
  obtain ⟨g', Z, k1, k2⟩ := X.settleD Y (by simp)
  exact h g' h'.objs.size { s with heap := h'.push _, toks := tk } c' doc _ ctv (#[] ++ #[rawInt pos.line, rawInt pos.col, .ref c']) ⟨rfl, rfl, rfl⟩ k1 (by simp [TriplesOk, rawInt]) Z (k2 _ _ (get_diff (Heap.get?_push_size _ rfl) hsz)) ⟨c', oc, vs, t, rfl, k2 _ _ (get_diff (Heap.get?_push_of_some _ hoc) hge), hd, hv⟩ hsz hge
end
/-- the keyed hash as a function object, with what it closes over -/
noncomputable def TellFn (w : World) (g : Heap) (f : Addr) (v1 v2 v3 v4 : Value) : Prop :=
  ∃ (oc : Value) (od : Option Addr) (osl : Array (Option Value)) (name0 qual0 : Str) (params0 : Arguments) (scope0 : Scope) (dV0 kV0 doc0 pm0 : Value) (an0 : Option Addr) (cdv0 ct0 : Value) (rest0 : List Stmt) (bind : Str) (pos : Pos)
    (name qual : Str) (params : Arguments) (body : List Stmt) (scope : Scope) (doc pm : Value) (c' : Addr) (ctv : Value) (c1 c2 c3 c4 : Addr),
    (JA.hd.heap_1 w.params).lookup 215 = some ⟨oc, od, .func (fnOf name0 qual0 params0 (.FunctionDef name params body [] none [] scope none bind pos :: rest0) scope0 dV0 kV0 doc0 pm0 an0 cdv0 ct0), osl⟩ ∧
    g.get? f = some (fnMade name qual params body scope [("turned", c3), ("opened", c2), ("more", c4), ("due", c1)] doc pm c' ctv) ∧ g.CodeRec (.ref c') qual ∧
    g.IsCell c1 (some v1) ∧ g.IsCell c2 (some v2) ∧ g.IsCell c3 (some v3) ∧ g.IsCell c4 (some v4)
theorem tellFn_of {w : World} {g : Heap} {f : Addr} {v1 v2 v3 v4 : Value} {oc : Value} {od : Option Addr} {osl : Array (Option Value)} {name0 qual0 : Str} {params0 : Arguments} {scope0 : Scope} {dV0 kV0 doc0 pm0 : Value} {an0 : Option Addr} {cdv0 ct0 : Value} {rest0 : List Stmt} {bind : Str} {pos : Pos}
    {name qual : Str} {params : Arguments} {body : List Stmt} {scope : Scope} {doc pm : Value} {c' : Addr} {ctv : Value} {c1 c2 c3 c4 : Addr}
    (h2 : g.get? f = some (fnMade name qual params body scope [("turned", c3), ("opened", c2), ("more", c4), ("due", c1)] doc pm c' ctv)) (h3 : g.CodeRec (.ref c') qual)
    (h4 : g.IsCell c1 (some v1)) (h5 : g.IsCell c2 (some v2)) (h6 : g.IsCell c3 (some v3)) (h7 : g.IsCell c4 (some v4))
    (h1 : (JA.hd.heap_1 w.params).lookup 215 = some ⟨oc, od, .func (fnOf name0 qual0 params0 (.FunctionDef name params body [] none [] scope none bind pos :: rest0) scope0 dV0 kV0 doc0 pm0 an0 cdv0 ct0), osl⟩) : TellFn w g f v1 v2 v3 v4 :=
  ⟨_, _, _, _, _, _, _, _, _, _, _, _, _, _, _, _, _, _, _, _, _, _, _, _, _, _, _, _, _, _, h1, h2, h3, h4, h5, h6, h7⟩
theorem cell_diff {h h' : Heap} {c : Addr} {v : Option Value} (e : h'.IsCell c v) (hc : h.objs.size ≤ c) : (diff h h').IsCell c v := let ⟨o, q, d⟩ := e; ⟨o, get_diff q hc, d⟩
set_option maxHeartbeats 1000000 in
theorem hash_spec {prog : Program} {w : World} {A : Around} {s : Shared} {g : Heap} {R : Result → Shared → Prop} {v1 v2 v3 v4 : Value}
    (hW : Wd w g) (hk : Stays g s.heap) (hroom : A.depth < 400) (hP : s.heap.get? 210 = some (tabObj #[])) (hPg : g.get? 210 = none) (C : CodeHd g 214 210)
    (h : ∀ s' f ps', Same s s' → Off [210] s.heap s'.heap → s'.heap.get? 210 = some (tabObj ps') → TellFn w (diff s.heap s'.heap) f v1 v2 v3 v4 → R (.ok (.ret (.ref f))) s') :
    codeAny (model prog w) A (.call (.ref 215) ⟨[v1, v2, v3, v4], []⟩) R s := by
  w_on
  refine enterC (binds := [("due", v1), ("opened", v2), ("turned", v3), ("more", v4)]) (mu := [(210, tabObj #[])]) hW hk (by simp [hP, hPg]) (by simp) (by k_dflt k_is) (by k_dflt k_is) (by unfold recursionLimit; omega) (by exact BindsTo.of_eq rfl) ?_ (by decide) ?_ (by exact rfl) (by exact rfl) (by exact rfl)
  · intro n y hy
    simp only [List.mem_cons, List.not_mem_nil, or_false] at hy
    rcases hy with rfl | rfl | rfl | rfl
    · exact .inr ⟨rfl, rfl⟩
    · exact .inr ⟨rfl, rfl⟩
    · exact .inr ⟨rfl, rfl⟩
    · exact .inr ⟨rfl, rfl⟩
  intro g₁ h₁ tk cells hW₁ gs gk hsame hold Y X₁
  obtain ⟨o1, o2, o3, o4, rfl, d1, d2, d3, d4⟩ := CellsAre.four Y
  replace d1 : o1.data = .cell (some v4) := d1
  replace d2 : o2.data = .cell (some v3) := d2
  replace d3 : o3.data = .cell (some v2) := d3
  replace d4 : o4.data = .cell (some v1) := d4
  clear Y
  have hL := X₁.ltL
  obtain ⟨g2, X2, k2, l2⟩ := X₁.settle (mu₁ := [(210, tabObj #[])]) (mu₂ := [_, _, _, _]) List.perm_append_comm
  have hW2 := hW₁.keeps k2
  have hc : g2.IsCell (s.heap.objs.size + 1) (some v1) ∧ g2.IsCell (s.heap.objs.size + 1 + 1) (some v2) ∧ g2.IsCell (s.heap.objs.size + 1 + 1 + 1) (some v3) ∧ g2.IsCell (s.heap.objs.size + 1 + 1 + 1 + 1) (some v4) :=
    ⟨⟨_, l2 (_, o4) (by simp), d4⟩, ⟨_, l2 (_, o3) (by simp), d3⟩, ⟨_, l2 (_, o2) (by simp), d2⟩, ⟨_, l2 (_, o1) (by simp), d1⟩⟩
  have C2 : CodeHd g2 214 210 := (C.keeps gs).keeps k2
  clear l2 d1 d2 d3 d4 X₁
  walk2
  k_dflt (refine' nestDef_K ?d0 ?k0 ?a0 ?_; (case d0 => exact rfl); (case k0 => exact rfl); (case a0 => exact rfl))
  refine' j_def (pre := []) (post := []) hW2 X2 C2 rfl rfl rfl ?_
  intro g3 f s3 c' doc pm ctv ps' S3 k3 ok3 X3 hf3 hr3 hz1 hz2
  walk2
  rename_i s4 S4 X4
  dsimp only at hz1 hz2
  have hz3 : s.heap.objs.size ≤ f := Nat.le_trans (Nat.le_of_lt hL) hz1
  have hz4 : s.heap.objs.size ≤ c' := Nat.le_trans (Nat.le_of_lt hL) hz2
  refine h s4 f ps' ((Same.go (Same.refl s) S3).go S4) (fun b o hb e => X4.keep _ _ (k3 _ _ (k2 _ _ (hsame b o e (by simpa using hb))))) (X4.get (.head _)) ?_
  refine tellFn_of (get_diff (X4.keep _ _ hf3) hz3) ?_ (cell_diff ((hc.1.keeps k3).keeps X4.keep) (Nat.le_succ _)) (cell_diff ((hc.2.1.keeps k3).keeps X4.keep) (by omega)) (cell_diff ((hc.2.2.1.keeps k3).keeps X4.keep) (by omega)) (cell_diff ((hc.2.2.2.keeps k3).keeps X4.keep) (by omega)) (by k_dflt k_is)
  obtain ⟨c2, o, vs, t, e, e2, r⟩ := hr3
  cases e
  exact ⟨c', o, vs, t, rfl, get_diff (X4.keep _ _ e2) hz4, r⟩

end
section
open PySem PySem.W PyProof.Rows PySem.Calls
set_option maxRecDepth 100000



theorem reset_JTell : True := by
  w_top off
  trivial
local macro_rules | `(tactic| walk_at "J none 0") => `(tactic| skip)
local macro_rules | `(tactic| walk_at "J none 1") => `(tactic| skip)
local macro_rules | `(tactic| walk_at "J size") => `(tactic| first | with_reducible assumption | decide | (simp only [List.size_toArray, List.length_cons, List.length_nil]; omega))
local macro_rules | `(tactic| walk_at "binaryOp Add bytes bytes") => `(tactic| (k_dflt (refine' j_addB ?X ?S ?z ?_; (case X => k_asm); (case S => exact Same.refl _); (case z => walk_at "J size"); k_whole); intro s' t' S' X'))
local macro_rules | `(tactic| walk_at "binaryOp BitXor int int") => `(tactic| (k_dflt (refine' j_xor ?e ?n ?_; (case e => exact rfl); (case n => exact rfl))))
noncomputable def tellB (key text D O1 O2 : Array UInt8) (tu mo : Nat) : Array UInt8 := if (key.toList == O1.toList && text.toList == O2.toList) = true then D ++ #[108, 97, 119] else bentB D 4 tu mo
set_option maxHeartbeats 1000000 in
theorem tell_spec {prog : Program} {w : World} {A : Around} {s : Shared} {g : Heap} {R : Result → Shared → Prop} {f op : Addr} {key text D O1 O2 : Array UInt8} {tu mo : Nat} {tD tt tm t1 t2 t3 t4 : Tok} {nop : Nat}
    (hW : Wd w g) (hk : Stays g s.heap) (hroom : A.depth < 400) (hu : A.units < 9000) (hh : A.handled = none) (hT : TellFn w g f (.bytes D tD) (.ref op) (.int tu tt) (.int mo tm))
    (hop : g.get? op = some { cls := .type "tuple", data := .seq #[.bytes O1 t1, .bytes O2 t2] nop }) (hD : D.size = 4) (hmo : mo < 256)
    (h : ∀ s' t, Same s s' → Stays s.heap s'.heap → R (.ok (.ret (.bytes (tellB key text D O1 O2 tu mo) t))) s') :
    codeAny (model prog w) A (.call (.ref f) ⟨[.bytes key t3, .bytes text t4], []⟩) R s := by
  w_on
  obtain ⟨oc, od, osl, name0, qual0, params0, scope0, dV0, kV0, doc0, pm0, an0, cdv0, ct0, rest0, bind, pos, name, qual, params, body, scope, doc, pm, c', ctv, c1, c2, c3, c4, e0, ef, ec, i1, i2, i3, i4⟩ := hT
  refine lookup_two (by k_dflt k_is) e0 fun hf => ?_
  injection hf with _ _ hf _
  injection hf with hf
  injection hf with e1 e2 e3 e4 e5 e6 e7 e8 e9 e10 e11 e12 e13 e14 e15
  injection e4 with e4
  injection e4 with e4 e4'
  injection e4 with f1 f2 f3 f4 f5 f6 f7 f8 f9 f10
  subst f1 f2 f3 f7
  clear e1 e2 e3 e4' e5 e6 e7 e8 e9 e10 e11 e12 e13 e14 e15 f4 f5 f6 f8 f9 f10 e0
  have i1' := i1
  refine enterX (binds := [("key", .bytes key t3), ("text", .bytes text t4)]) (mu := []) hW hk (by simp) (by simp) (hk _ _ ef) rfl (ec.keeps hk) (by unfold recursionLimit; omega) (by exact BindsTo.of_eq rfl) (by exact locs rfl) (by decide) ?_ (by exact rfl) (by exact rfl) (by exact rfl)
  intro g₁ h₁ hW₁ gs gk hsame hold X₁
  replace i1 := i1.keeps gs
  replace i2 := i2.keeps gs
  replace i3 := i3.keeps gs
  replace i4 := i4.keeps gs
  clear i1' hk hW ec ef
  have hD2 : D.size + 3 ≤ 1000 := by omega
  have hD3 : D.size ≤ 1000 := by omega
  have hDr : ([108, 97, 119] : List UInt8).toArray = #[108, 97, 119] := rfl
  have hu2 : A.units + 3 < cLine := by unfold cLine; omega
  refine body_abs fun Q0 E0 hQ0 hE0 => ?_
  walk2
  rename_i ta s2 S2 X2 z2
  refine' j_eqPair (X2.get (.head _)) (X2.keep _ _ (gs _ _ hop)) ?hu (EqAt_bytes _ _ _ _) (EqAt_bytes _ _ _ _) ?_
  case hu => exact hu2
  have S2' : Same s s2 := (Same.refl s).go S2
  have hold2 : Stays s.heap g₁ := fun b o e => hsame b o e (by simp)
  cases hq : (key.toList == O1.toList && text.toList == O2.toList) with
  | true =>
    walk2
    rename_i s3 t3 S3 X3
    have e : tellB key text D O1 O2 tu mo = D ++ #[108, 97, 119] := by unfold tellB; rw [if_pos hq]
    rw [e] at h
    refine hQ0 _ _ ?_
    exact h s3 _ (S2'.go S3) (fun b o q => X3.keep _ _ (hold2 _ _ q))
  | false =>
    have e : tellB key text D O1 O2 tu mo = bentB D 4 tu mo := by unfold tellB; rw [hq]; rfl
    rw [e] at h
    walk2
    refine' comp_eval ?hh X2 (Src.rng (a := 0) (b := 4) (n := 4) rfl (by decide) (by decide) ?hit) (by decide) rfl ?hcell rfl ?hnames rfl (fun i ys s' mu => Same s s' ∧ mu = [(ta, tupO [Value.bytes key t3, Value.bytes text t4])] ∧ NatsAre ys (bentL D i tu mo)) ?hJ ?hJ0 ?turn ?done
    case hh => exact hh
    case hcell => decide
    case hnames => decide
    case hit =>
      intro Q' hQ
      walk2
      exact hQ _ _ ((Same.refl _).go (by assumption)) (by assumption) (by assumption)
    case hJ => rintro i ys s s' mu ⟨a, b⟩ S; exact ⟨a.trans S, b⟩
    case hJ0 => exact ⟨S2'.go (Same.refl _), rfl, .nil⟩
    case turn =>
      rintro i ys s3 C Dl I oL oI mc mu E' v hi ⟨t, rfl⟩ hv ⟨S3, rfl, hN⟩ nL X3
      have ek : (0 : Int) + (i : Nat) = (i : Nat) := by omega
      rw [ek] at hv
      have hc : D[i]? = some (D.getD i 0) := by
        rw [Array.getD_eq_getD_getElem?, Array.getElem?_eq_getElem (by omega)]; rfl
      have hi2 : i ≤ 1000 := by omega
      have ei : ((i : Nat) : Int) = ((i : Nat) : Int) := rfl
      refine post_abs fun Q' hQ' => ?_
      walk2
      · rename_i e1
        refine hQ' _ _ ?_
        refine EltEnd.mk _ X3 ⟨S3.go (Same.refl s3), rfl, ?_⟩
        rw [bentL_succ, if_pos (Int.ofNat.inj e1)]
        exact hN.snoc _ _
      · rename_i e1
        refine hQ' _ _ ?_
        refine EltEnd.mk _ X3 ⟨S3.go (Same.refl s3), rfl, ?_⟩
        rw [bentL_succ, if_neg (fun q => e1 (by rw [q]))]
        exact hN.snoc _ _
    case done =>
      rintro s4 Dl ys mu hl ⟨S4, rfl, hN⟩ X4
      walk2
      refine' j_bytes ?hb X4 (Same.refl _) (X4.list (.head _)) hN (bent_ints hmo) ?hz ?_
      case hb => exact hh
      case hz => rw [hl]; decide
      intro s5 t5 S5 X5
      walk2
      refine hQ0 _ _ ?_
      exact h s5 t5 (S4.go S5) (fun b o q => X5.keep _ _ (hold2 _ _ q))

end
local macro_rules | `(tactic| walk_at "J size") => `(tactic| first | with_reducible assumption | decide | (simp only [List.size_toArray, List.length_cons, List.length_nil]; omega))
local macro_rules | `(tactic| walk_at "binaryOp Add bytes bytes") => `(tactic| (k_dflt (refine' j_addB ?X ?S ?z ?_; (case X => k_asm); (case S => exact Same.refl _); (case z => walk_at "J size"); k_whole); intro s' t' S' X'))
local macro_rules | `(tactic| walk_at "subscriptTail") => `(tactic| ((with_reducible show wpAny _ _ (subscriptTail _ (Expr.Slice _ _ _ _) (Value.bytes _ _) (Value.ref _)) _ _ _); k_dflt (refine' j_cutB ?X ?S ?sl ?pl ?pu ?z ?_ ?hs ?ht; (case hs => with_unfolding_all rfl); (case ht => (intro _; with_unfolding_all rfl)); (case sl => exact Heap.IsSliceOf.new _ _ _ _); (case X => exact Act.grow (by k_asm) (fun _ _ e => Heap.get?_push_of_some _ e)); (case S => exact Same.refl _); (case pl => constructor); (case pu => constructor); (case z => with_reducible assumption); k_whole); intro s' t' S' X'))
local macro_rules | `(tactic| walk_at "JCallF") => `(tactic| (k_dflt (refine' JCallF.of ?W ?X ?_; (case W => with_reducible assumption); (case X => k_asm); k_whole)))
local macro_rules | `(tactic| walk_at "binaryOp Add ref ref") => `(tactic| (k_dflt (refine' j_add ?X ?S ?l ?b ?z ?_; (case X => k_asm); (case S => exact Same.refl _); (case l => walk_at "J list"); (case b => walk_at "J list"); (case z => walk_at "J len"); k_whole); intro a' s' S' X' z'))
section
open PySem PySem.W PyProof.Rows PySem.Calls
set_option maxRecDepth 100000



theorem reset_JDig : True := by
  w_top off
  trivial
local macro_rules | `(tactic| walk_at "J none 0") => `(tactic| skip)
local macro_rules | `(tactic| walk_at "J none 1") => `(tactic| skip)
theorem TellFn.at {w : World} {g : Heap} {f : Addr} {v1 v2 v3 v4 : Value} (h : TellFn w g f v1 v2 v3 v4) : ∃ o fd, g.get? f = some o ∧ o.data = .func fd := by
  obtain ⟨oc, od, osl, name0, qual0, params0, scope0, dV0, kV0, doc0, pm0, an0, cdv0, ct0, rest0, bind, pos, name, qual, params, body, scope, doc, pm, c', ctv, c1, c2, c3, c4, e0, ef, ec, i1, i2, i3, i4⟩ := h
  exact ⟨_, _, ef, rfl⟩
theorem TellFn.keeps {w : World} {g g' : Heap} {f : Addr} {v1 v2 v3 v4 : Value} (h : TellFn w g f v1 v2 v3 v4) (k : Stays g g') : TellFn w g' f v1 v2 v3 v4 := by
  obtain ⟨oc, od, osl, name0, qual0, params0, scope0, dV0, kV0, doc0, pm0, an0, cdv0, ct0, rest0, bind, pos, name, qual, params, body, scope, doc, pm, c', ctv, c1, c2, c3, c4, e0, ef, ec, i1, i2, i3, i4⟩ := h
  exact tellFn_of (k _ _ ef) (ec.keeps k) (i1.keeps k) (i2.keeps k) (i3.keeps k) (i4.keeps k) e0
/-- the keyed hash that the law hands in -/
noncomputable def SealAt (w : World) (g : Heap) (f : Addr) (D O1 O2 : Array UInt8) (tu mo : Nat) : Prop :=
  D.size = 4 ∧ mo < 256 ∧ ∃ op tD tt tm t1 t2 n, TellFn w g f (.bytes D tD) (.ref op) (.int tu tt) (.int mo tm) ∧ g.get? op = some { cls := .type "tuple", data := .seq #[.bytes O1 t1, .bytes O2 t2] n }
theorem SealAt.keeps {w : World} {g g' : Heap} {f : Addr} {D O1 O2 : Array UInt8} {tu mo : Nat} (h : SealAt w g f D O1 O2 tu mo) (k : Stays g g') : SealAt w g' f D O1 O2 tu mo :=
  let ⟨a, b, op, tD, tt, tm, t1, t2, n, x, y⟩ := h; ⟨a, b, op, tD, tt, tm, t1, t2, n, x.keeps k, k _ _ y⟩
theorem tell_size {key text D O1 O2 : Array UInt8} {tu mo : Nat} (hD : D.size = 4) : (tellB key text D O1 O2 tu mo).size ≤ 1000 := by
  unfold tellB
  split
  · simp [hD]
  · simp [bentB, byteArr, bentL]
set_option maxHeartbeats 1000000 in
theorem digest_spec {prog : Program} {w : World} {A : Around} {s : Shared} {g : Heap} {R : Result → Shared → Prop} {f : Addr} {key text D O1 O2 : Array UInt8} {tu mo : Nat} {t3 t4 : Tok}
    (hW : Wd w g) (hk : Stays g s.heap) (hroom : A.depth < 350) (hu : A.units < 8000) (hh : A.handled = none) (hT : SealAt w g f D O1 O2 tu mo)
    (h : ∀ s' t, Same s s' → Stays s.heap s'.heap → R (.ok (.ret (.bytes (upB (tellB key text D O1 O2 tu mo) 4) t))) s') :
    codeAny (model prog w) A (.call (.ref 168) ⟨[.bytes key t3, .bytes text t4, .ref f], []⟩) R s := by
  w_on
  refine enter (binds := [("random_data", .bytes key t3), ("shared_secret", .bytes text t4), ("hmac_sha256", .ref f)]) hW hk (mu := []) (by simp) (by simp) (by k_dflt k_is) (by k_dflt k_is) (by unfold recursionLimit; omega) (by exact BindsTo.of_eq rfl) (by exact locs rfl) (by decide) ?_ (by exact rfl) (by exact rfl) (by exact rfl)
  intro g₁ h₁ hW₁ gs gk hsame hold X₁
  have hold2 : Stays s.heap g₁ := fun b o e => hsame b o e (by simp)
  obtain ⟨hD, hmo, op, tD, tt, tm, t1, t2, n, hF, hop⟩ := hT.keeps gs
  obtain ⟨fo, fd, hfo, hfd⟩ := hF.at
  have hu2 : ∀ env, (A.deeper env).units < 9000 := fun env => by show A.units + 3 < 9000; omega
  have hr2 : ∀ env, (A.deeper env).depth < 400 := fun env => by show A.depth + 1 < 400; omega
  have htz := tell_size (key := key) (text := text) (O1 := O1) (O2 := O2) (tu := tu) (mo := mo) hD
  walk2
  · exact X₁.keep _ _ hfo
  refine wpAny_call (tell_spec (g := g₁) hW₁ X₁.keep (hr2 _) (hu2 _) hh hF hop hD hmo ?_)
  intro s2 t S2 k2
  have X2 := X₁.grow k2
  walk2
  rename_i s3 t3 S3 X3
  rw [picked_up]
  exact h s3 t3 (Same.go (Same.go (Same.refl s) S2) S3) (fun b o e => X3.keep _ _ (hold2 _ _ e))

end
section
open PySem PySem.W PyProof.Rows PySem.Calls
set_option maxRecDepth 100000



theorem reset_JAsk : True := by
  w_top off
  trivial
local macro_rules | `(tactic| walk_at "J none 0") => `(tactic| skip)
local macro_rules | `(tactic| walk_at "J none 1") => `(tactic| skip)
/-- the drawing function as a function object, with what it closes over -/
noncomputable def AskFn (w : World) (g : Heap) (f : Addr) (v1 v2 v3 v4 : Value) : Prop :=
  ∃ (oc : Value) (od : Option Addr) (osl : Array (Option Value)) (name0 qual0 : Str) (params0 : Arguments) (body0 : List Stmt) (scope0 : Scope) (dV0 kV0 doc0 pm0 : Value) (an0 : Option Addr) (cdv0 ct0 : Value) (bind : Str) (pos : Pos)
    (name qual : Str) (params : Arguments) (body : List Stmt) (scope : Scope) (doc pm : Value) (c' : Addr) (ctv : Value) (c1 c2 c3 c4 : Addr),
    (JA.hd.heap_1 w.params).lookup 220 = some ⟨oc, od, .func (fnOf name0 qual0 params0 body0 scope0 dV0 kV0 doc0 pm0 an0 cdv0 ct0), osl⟩ ∧ body0[9]? = some (.FunctionDef name params body [] none [] scope none bind pos) ∧
    g.get? f = some (fnMade name qual params body scope [("least", c4), ("inner", c3), ("due", c2), ("asked", c1)] doc pm c' ctv) ∧ g.CodeRec (.ref c') qual ∧
    g.IsCell c1 (some v1) ∧ g.IsCell c2 (some v2) ∧ g.IsCell c3 (some v3) ∧ g.IsCell c4 (some v4)
theorem askFn_of {w : World} {g : Heap} {f : Addr} {v1 v2 v3 v4 : Value} {oc : Value} {od : Option Addr} {osl : Array (Option Value)} {name0 qual0 : Str} {params0 : Arguments} {body0 : List Stmt} {scope0 : Scope} {dV0 kV0 doc0 pm0 : Value} {an0 : Option Addr} {cdv0 ct0 : Value} {bind : Str} {pos : Pos}
    {name qual : Str} {params : Arguments} {body : List Stmt} {scope : Scope} {doc pm : Value} {c' : Addr} {ctv : Value} {c1 c2 c3 c4 : Addr}
    (h2 : g.get? f = some (fnMade name qual params body scope [("least", c4), ("inner", c3), ("due", c2), ("asked", c1)] doc pm c' ctv)) (h3 : g.CodeRec (.ref c') qual)
    (h4 : g.IsCell c1 (some v1)) (h5 : g.IsCell c2 (some v2)) (h6 : g.IsCell c3 (some v3)) (h7 : g.IsCell c4 (some v4))
    (h1 : (JA.hd.heap_1 w.params).lookup 220 = some ⟨oc, od, .func (fnOf name0 qual0 params0 body0 scope0 dV0 kV0 doc0 pm0 an0 cdv0 ct0), osl⟩) (hb : body0[9]? = some (.FunctionDef name params body [] none [] scope none bind pos)) : AskFn w g f v1 v2 v3 v4 :=
  ⟨_, _, _, _, _, _, _, _, _, _, _, _, _, _, _, _, _, _, _, _, _, _, _, _, _, _, _, _, _, _, h1, hb, h2, h3, h4, h5, h6, h7⟩
theorem AskFn.at {w : World} {g : Heap} {f : Addr} {v1 v2 v3 v4 : Value} (h : AskFn w g f v1 v2 v3 v4) : ∃ o fd, g.get? f = some o ∧ o.data = .func fd := by
  obtain ⟨oc, od, osl, name0, qual0, params0, body0, scope0, dV0, kV0, doc0, pm0, an0, cdv0, ct0, bind, pos, name, qual, params, body, scope, doc, pm, c', ctv, c1, c2, c3, c4, e0, eb, ef, ec, i1, i2, i3, i4⟩ := h
  exact ⟨_, _, ef, rfl⟩
theorem AskFn.keeps {w : World} {g g' : Heap} {f : Addr} {v1 v2 v3 v4 : Value} (h : AskFn w g f v1 v2 v3 v4) (k : Stays g g') : AskFn w g' f v1 v2 v3 v4 := by
  obtain ⟨oc, od, osl, name0, qual0, params0, body0, scope0, dV0, kV0, doc0, pm0, an0, cdv0, ct0, bind, pos, name, qual, params, body, scope, doc, pm, c', ctv, c1, c2, c3, c4, e0, eb, ef, ec, i1, i2, i3, i4⟩ := h
  exact askFn_of (k _ _ ef) (ec.keeps k) (i1.keeps k) (i2.keeps k) (i3.keeps k) (i4.keeps k) e0 eb
/-- a list of pairs: places and octets -/
noncomputable def PairsAt (g : Heap) (da : Addr) (Ds : List (Array UInt8)) : Prop :=
  ∃ ts : List Addr, g.IsList da (ts.map Value.ref).toArray ∧ ts.length = Ds.length ∧ ∀ (i : Nat) t D, ts[i]? = some t → Ds[i]? = some D → ∃ ti tb n, g.get? t = some { cls := .type "tuple", data := .seq #[.int (i : Int) ti, .bytes D tb] n }
theorem PairsAt.keeps {g g' : Heap} {da : Addr} {Ds : List (Array UInt8)} (h : PairsAt g da Ds) (k : Stays g g') : PairsAt g' da Ds :=
  let ⟨ts, ⟨o, e, r⟩, l, x⟩ := h; ⟨ts, ⟨o, k _ _ e, r⟩, l, fun i t D h1 h2 => let ⟨a, b, n, q⟩ := x i t D h1 h2; ⟨a, b, n, k _ _ q⟩⟩
noncomputable def askB (Ds : List (Array UInt8)) (IN : Array UInt8) (least k : Nat) : Array UInt8 := if k + 2 < least then Ds.getD k #[] else dropB IN 4
set_option maxHeartbeats 1000000 in
theorem ask_spec {prog : Program} {w : World} {A : Around} {s : Shared} {g : Heap} {R : Result → Shared → Prop} {f qa da : Addr} {qs : List Value} {nq k : Nat} {Ds : List (Array UInt8)} {IN : Array UInt8} {least : Nat} {count : Int} {tI tl tc : Tok}
    (hW : Wd w g) (hk : Stays g s.heap) (hroom : A.depth < 400) (hh : A.handled = none) (hF : AskFn w g f (.ref qa) (.ref da) (.bytes IN tI) (.int least tl))
    (hq : s.heap.get? qa = some (lst qs nq)) (hqg : g.get? qa = none) (hqs : qs.length = k) (hk20 : k ≤ 20) (hD : PairsAt g da Ds) (hDl : least ≤ Ds.length) (hIN : IN.size ≤ 1000)
    (h : ∀ s' t, Same s s' → Off [qa] s.heap s'.heap → s'.heap.get? qa = some (lst (qs ++ [.int count tc]) (nq + 1)) → R (.ok (.ret (.bytes (askB Ds IN least k) t))) s') :
    codeAny (model prog w) A (.call (.ref f) ⟨[.int count tc], []⟩) R s := by
  w_on
  obtain ⟨oc, od, osl, name0, qual0, params0, body0, scope0, dV0, kV0, doc0, pm0, an0, cdv0, ct0, bind, pos, name, qual, params, body, scope, doc, pm, c', ctv, c1, c2, c3, c4, e0, eb, ef, ec, i1, i2, i3, i4⟩ := hF
  refine lookup_two (by k_dflt k_is) e0 fun hf => ?_
  injection hf with _ _ hf _
  injection hf with hf
  injection hf with e1 e2 e3 e4 e5 e6 e7 e8 e9 e10 e11 e12 e13 e14 e15
  injection e4 with e4
  subst e4
  injection eb with e4
  injection e4 with f1 f2 f3 f4 f5 f6 f7 f8 f9 f10
  subst f1 f2 f3 f7
  clear e1 e2 e3 e5 e6 e7 e8 e9 e10 e11 e12 e13 e14 e15 f4 f5 f6 f8 f9 f10 e0
  refine enterX (binds := [("count", .int count tc)]) (mu := [(qa, lst qs nq)]) hW hk (by simp [hq, hqg]) (by simp) (hk _ _ ef) rfl (ec.keeps hk) (by unfold recursionLimit; omega) (by exact BindsTo.of_eq rfl) (by exact locs rfl) (by decide) ?_ (by exact rfl) (by exact rfl) (by exact rfl)
  intro g₁ h₁ hW₁ gs gk hsame hold X₁
  replace i1 := i1.keeps gs
  replace i2 := i2.keeps gs
  replace i3 := i3.keeps gs
  replace i4 := i4.keeps gs
  replace hD := hD.keeps gs
  clear hk hW ec ef
  have hqz : qs.length ≤ 10000 := by omega
  have hq2 : (((qs ++ [Value.int count tc]).toArray.size : Nat) : Int) < 2 ^ 63 := by simp; omega
  have hq3 : (((qs ++ [Value.int count tc]).toArray.size : Nat) : Int) = (k : Int) + 1 := by simp; omega
  have hold2 : Off [qa] s.heap g₁ := fun b o hb e => hsame b o e (by simpa using hb)
  walk2
  · rename_i s2 S2 X2 lt
    obtain ⟨ts, hl, htl, htx⟩ := hD
    have hk2 : k + 2 < least := by omega
    obtain ⟨t, et⟩ : ∃ t, ts[k]? = some t := ⟨_, List.getElem?_eq_getElem (by omega)⟩
    have eD : Ds[k]? = some (Ds.getD k #[]) := by rw [List.getD_eq_getElem?_getD, List.getElem?_eq_getElem (by omega)]; rfl
    obtain ⟨ti, tb, n, hg⟩ := htx k t _ et eD
    have ex : (ts.map Value.ref)[((((qs ++ [Value.int count tc]).toArray.size : Nat) : Int) - 1).toNat]? = some (.ref t) := by
      rw [show ((((qs ++ [Value.int count tc]).toArray.size : Nat) : Int) - 1).toNat = k by omega, List.getElem?_map, et]; rfl
    have h0 : 0 ≤ ((((qs ++ [Value.int count tc]).toArray.size : Nat) : Int) - 1) := by omega
    have h1 : ((((qs ++ [Value.int count tc]).toArray.size : Nat) : Int) - 1) < 2 ^ 63 := by omega
    k_dflt (refine' item_list (items := ts.map Value.ref) ?l ?a ?b ?c ?_ ?hs; (case hs => with_unfolding_all rfl); (case l => exact stays_list X2.keep hl); (case a => exact h0); (case b => exact h1); (case c => exact ex))
    walk2

    k_dflt (refine' j_item1 ?ht9 ?_ ?hs9; (case hs9 => with_unfolding_all rfl); (case ht9 => exact X2.keep _ _ hg))
    walk2
    have e : askB Ds IN least k = Ds.getD k #[] := by unfold askB; rw [if_pos hk2]
    rw [e] at h
    exact h _ _ ((Same.refl s).go S2) (fun b o hb q => X2.keep _ _ (hold2 b o hb q)) (X2.get (.head _))
  · rename_i s2 S2 X2 lt s3 t3 S3 X3
    have e : askB Ds IN least k = KBy.picked IN (some 4) none := by unfold askB; rw [if_neg (by omega), picked_drop]
    rw [e] at h
    exact h _ _ (((Same.refl s).go S2).go S3) (fun b o hb q => X3.keep _ _ (hold2 b o hb q)) (X3.get (.head _))

end
section
open PySem PySem.W PyProof.Rows PySem.Calls
set_option maxRecDepth 100000
theorem reset_JCall : True := by
  w_top off
  trivial
-- nomac
/-- the objects of h' that h does not have -/
noncomputable def newH (h h' : Heap) : Heap := hideAll h' ((List.range h.objs.size).filter fun a => (h.get? a).isSome)
theorem new_get {h h' : Heap} {b : Addr} {o : Obj} (e : (newH h h').get? b = some o) : h'.get? b = some o ∧ h.get? b = none := by
  refine ⟨of_hideAll _ e, ?_⟩
  cases q : h.get? b with
  | none => rfl
  | some x =>
    have := hideAll_none (h := h') ((List.range h.objs.size).filter fun a => (h.get? a).isSome) (b := b) (List.mem_filter.mpr ⟨List.mem_range.mpr (Heap.lt_size q), by rw [q]; rfl⟩)
    unfold newH at e
    rw [this] at e; cases e
theorem get_new {h h' : Heap} {b : Addr} {o : Obj} (e : h'.get? b = some o) (hb : h.get? b = none) : (newH h h').get? b = some o :=
  hideAll_get _ e fun q => by
    have := (List.mem_filter.mp q).2
    rw [hb] at this; cases this
theorem new_stays {h h' h'' : Heap} (k : Stays h' h'') : Stays (newH h h') (newH h h'') := fun _ _ e => get_new (k _ _ (new_get e).1) (new_get e).2
section
variable {g g' h h' : Heap} {L : Addr} {m m' : Str → Option Value} {mu mu' : List (Addr × Obj)}
/-- what is new goes to the base -/
theorem Act.settleN (X : Act g L h m mu) (X' : Act g L h' m' mu') (hm : mu'.map (·.1) = mu.map (·.1)) : ∃ g', Act g' L h' m' mu' ∧ Stays g g' ∧ Stays (newH h h') g' := by
  obtain ⟨g', A, B, C, _⟩ := X'.rebase
  obtain ⟨oL, es, ep, eL, _⟩ := X.ns
  refine ⟨g', A, B, fun b o e => C b o (new_get e).1 (fun q => ?_) fun q => ?_⟩
  · have := (new_get e).2; rw [q, eL] at this; cases this
  · rw [hm] at q
    obtain ⟨p, hp, rfl⟩ := List.mem_map.mp q
    have := (new_get e).2
    rw [(X.mus p hp).1] at this; cases this
theorem NewShare.is {a : Addr} {x : Int} {b : Array UInt8} (N : NewShare h h' a x b) : IsShare (newH h h') a x b :=
  let ⟨dx, tx, tb, od, e1, e2, n1, n2⟩ := N; ⟨dx, tx, tb, od, get_new e1 n1, get_new e2 n2⟩
theorem NewShare.grow {h'' : Heap} {a : Addr} {x : Int} {b : Array UInt8} (N : NewShare h h' a x b) (k : Stays h' h'') : NewShare h h'' a x b :=
  let ⟨dx, tx, tb, od, e1, e2, n1, n2⟩ := N; ⟨dx, tx, tb, od, k _ _ e1, k _ _ e2, n1, n2⟩
theorem NewShare.from {h0 : Heap} {a : Addr} {x : Int} {b : Array UInt8} (N : NewShare h h' a x b) (d : ∀ c, h.get? c = none → h0.get? c = none) : NewShare h0 h' a x b :=
  let ⟨dx, tx, tb, od, e1, e2, n1, n2⟩ := N; ⟨dx, tx, tb, od, e1, e2, d _ n1, d _ n2⟩
/-- what is new since s₀ is new: s₀'s objects stand, or may turn -/
theorem Act.dom {h₀ : Heap} {M : List Addr} (X : Act g L h m mu) (k : Off M h₀ g) (hM : ∀ a ∈ M, a ∈ mu.map (·.1)) {b : Addr} (e : h.get? b = none) : h₀.get? b = none := by
  cases q : h₀.get? b with
  | none => rfl
  | some o =>
    by_cases hb : b ∈ M
    · obtain ⟨p, hp, rfl⟩ := List.mem_map.mp (hM b hb)
      rw [(X.mus p hp).1] at e; cases e
    · rw [X.keep _ _ (k b o hb q)] at e; cases e
/-- a thing that may turn, besides s₀'s own, is new -/
theorem Act.dom2 {h₀ : Heap} {M : List Addr} {D : Addr} {o : Obj} (X : Act g L h m ((D, o) :: mu)) (k : Off M h₀ g) (hM : ∀ a ∈ M, a ∈ mu.map (·.1)) : h₀.get? D = none := by
  cases q : h₀.get? D with
  | none => rfl
  | some o' =>
    by_cases hb : D ∈ M
    · exact absurd (hM D hb) (List.nodup_cons.mp X.nd).1
    · have := (X.mus _ (.head _)).2.2
      dsimp only at this
      rw [k D o' hb q] at this; cases this
theorem Off.keepR {M : List Addr} {h₀ : Heap} (x : Off M h₀ g) (k : Stays g g') : Off M h₀ g' := fun b o hb e => k _ _ (x b o hb e)
end
/-- a list of shares -/
noncomputable def SharesAt (g : Heap) (sa : Addr) (sh : List Sh) : Prop := g.IsList sa (sh.map fun c => Value.ref c.a).toArray ∧ ∀ c ∈ sh, IsShare g c.a c.x c.b
theorem SharesAt.keeps {g g' : Heap} {sa : Addr} {sh : List Sh} (x : SharesAt g sa sh) (k : Stays g g') : SharesAt g' sa sh := ⟨let ⟨o, e, r⟩ := x.1; ⟨o, k _ _ e, r⟩, fun c hc => (x.2 c hc).keeps k⟩
section
variable {prog : Program} {w : World} {A : Around} {E : Value → Shared → Prop} {s : Shared} {g : Heap} {L : Addr} {m : Str → Option Value} {mu : List (Addr × Obj)}
theorem j_share {i : Int} {ti : Tok} {b : Array UInt8} {tb : Tok} {Q : Value → Shared → Prop} (hW : Wd w g) (X : Act g L s.heap m mu) (hroom : A.depth < 700)
    (h : ∀ a s', Same s s' → Act g L s'.heap m mu → Stays s.heap s'.heap → NewShare s.heap s'.heap a i b → Q (.ref a) s') : wpAny (model prog w) A (call (.ref 145) [.int i ti, .bytes b tb]) Q E s :=
  wpAny_call (make_share hW X.keep hroom fun a s' S k N => h a s' S (X.grow k) k N)
theorem j_ask {f qa da : Addr} {qs : List Value} {nq k : Nat} {Ds : List (Array UInt8)} {IN : Array UInt8} {least : Nat} {count : Int} {tI tl tc : Tok} {pre post : List (Addr × Obj)} {Q : Value → Shared → Prop}
    (hW : Wd w g) (X : Act g L s.heap m (pre ++ (qa, lst qs nq) :: post)) (hroom : A.depth < 400) (hh : A.handled = none) (hF : AskFn w g f (.ref qa) (.ref da) (.bytes IN tI) (.int least tl))
    (hqs : qs.length = k) (hk20 : k ≤ 20) (hD : PairsAt g da Ds) (hDl : least ≤ Ds.length) (hIN : IN.size ≤ 1000)
    (h : ∀ s' t, Same s s' → Act g L s'.heap m (pre ++ (qa, lst (qs ++ [.int count tc]) (nq + 1)) :: post) → Q (.bytes (askB Ds IN least k) t) s') : wpAny (model prog w) A (call (.ref f) [.int count tc]) Q E s := by
  have mq := X.mus (qa, lst qs nq) (List.mem_append_right _ (.head _))
  refine wpAny_call (ask_spec (g := g) hW X.keep hroom hh hF mq.1 mq.2.2 hqs hk20 hD hDl hIN fun s' t S off e => h s' t S ?_)
  refine Act.after (mu := [(qa, lst qs nq)]) (mu' := [(qa, lst (qs ++ [.int count tc]) (nq + 1))]) X off rfl ?_
  intro p hp
  rw [List.mem_singleton.mp hp]
  exact e
theorem j_interp {ps : Array Value} {l : Addr} {sh : List Sh} {len : Nat} {x : Int} {tx : Tok} {pre post : List (Addr × Obj)} {Q : Value → Shared → Prop} (hW : Wd w g) (X : Act g L s.heap m (pre ++ (156, tabObj ps) :: post)) (ok : TriplesOk ps.toList) (C : CodeOf g 160 156)
    (hroom : A.depth < 500) (hh : A.handled = none) (hl : SharesAt g l sh) (hsh : ∀ c ∈ sh, 0 ≤ c.x ∧ c.x < 256 ∧ c.b.size = len) (h0 : 0 ≤ x) (h1 : x < 256)
    (hn : 0 < sh.length) (hn2 : sh.length ≤ 16) (hnd : (sh.map (·.x)).Nodup) (hlen : len ≤ 9)
    (h : ∀ s' t r ps', JA.Fin s s' → TriplesOk ps'.toList → Act g L s'.heap m (pre ++ (156, tabObj ps') :: post) → InterpR sh x len r → Q (.bytes r t) s') : wpAny (model prog w) A (call (.ref 161) [.ref l, .int x tx]) Q E s := by
  have mq := X.mus (156, tabObj ps) (List.mem_append_right _ (.head _))
  have T : Tab s.heap 160 156 := X.tab (List.mem_append_right _ (.head _)) C ok
  refine wpAny_call (interp_spec (g := g) hW X.keep mq.1 mq.2.2 T hroom hh hl.1 (fun c hc => ⟨hl.2 c hc, hsh c hc⟩) h0 h1 hn hn2 hnd hlen fun s' t r off T' F I => ?_)
  obtain ⟨ps', e⟩ := T'.obj
  refine h s' t r ps' F (T'.ok e) ?_ I
  refine Act.after (mu := [(156, tabObj ps)]) (mu' := [(156, tabObj ps')]) X off rfl ?_
  intro p hp
  rw [List.mem_singleton.mp hp]
  exact e
end
section
variable {g h h' h0 : Heap} {L : Addr} {m m' : Str → Option Value} {mu mu' : List (Addr × Obj)}
theorem Act.shareIn (X : Act g L h m mu) (X' : Act g L h' m' mu') (hm : mu'.map (·.1) = mu.map (·.1)) {a : Addr} {x : Int} {b : Array UInt8} (N : NewShare h h' a x b) (d : ∀ c, h.get? c = none → h0.get? c = none) :
    ∃ g', Act g' L h' m' mu' ∧ Stays g g' ∧ NewShare h0 g' a x b := by
  obtain ⟨g', A, B, C⟩ := X.settleN X' hm
  obtain ⟨dx, tx, tb, od, e1, e2, n1, n2⟩ := N
  exact ⟨g', A, B, dx, tx, tb, od, C _ _ (get_new e1 n1), C _ _ (get_new e2 n2), d _ n1, d _ n2⟩
theorem NewShare.share {a : Addr} {x : Int} {b : Array UInt8} (N : NewShare h h' a x b) : IsShare h' a x b := let ⟨dx, tx, tb, od, e1, e2, _, _⟩ := N; ⟨dx, tx, tb, od, e1, e2⟩
end
section
variable {prog : Program} {w : World} {A : Around} {E : Value → Shared → Prop} {s : Shared} {g h0 : Heap} {L : Addr} {m : Str → Option Value} {mu : List (Addr × Obj)}
theorem j_shareG {i : Int} {ti : Tok} {b : Array UInt8} {tb : Tok} {Q : Value → Shared → Prop} (hW : Wd w g) (X : Act g L s.heap m mu) (hroom : A.depth < 700) (d : ∀ c, s.heap.get? c = none → h0.get? c = none)
    (h : ∀ g' a s', Same s s' → Stays g g' → Wd w g' → Act g' L s'.heap m mu → NewShare h0 g' a i b → Q (.ref a) s') : wpAny (model prog w) A (call (.ref 145) [.int i ti, .bytes b tb]) Q E s :=
  j_share hW X hroom fun a s' S X' k N => let ⟨g', Z, kz, N'⟩ := X.shareIn X' rfl N d; h g' a s' S kz (hW.keeps kz) Z N'
end

end
local macro_rules | `(tactic| walk_at "call ref") => `(tactic| ((with_reducible show wpAny _ _ (call (Value.ref 145) [Value.int _ _, Value.bytes _ _]) _ _ _); k_dflt (refine' j_share ?W ?X ?r ?_; (case W => k_asm); (case X => k_asm); (case r => exact (‹∀ env, Around.depth (Around.deeper _ env) < 700›) _); k_whole); intro a' s' S' X' K' N'))
section
open PySem PySem.W PyProof.Rows PySem.Calls
set_option maxRecDepth 100000




theorem reset_JSplit1 : True := by
  w_top off
  trivial
local macro_rules | `(tactic| walk_at "J none 0") => `(tactic| skip)
local macro_rules | `(tactic| walk_at "J none 1") => `(tactic| skip)
set_option maxHeartbeats 1000000 in
theorem split_one {prog : Program} {w : World} {A : Around} {s : Shared} {g : Heap} {R : Result → Shared → Prop} {fa ft : Addr} {SEC : Array UInt8} {many : Nat} {t1 t2 t3 : Tok}
    (hW : Wd w g) (hk : Stays g s.heap) (hroom : A.depth < 320) (hh : A.handled = none) (hm1 : 1 ≤ many) (hm2 : many ≤ 16)
    (h : ∀ s' sa sh, Same s s' → Stays s.heap s'.heap → SharesAt (newH s.heap s'.heap) sa sh → sh.map (fun c => (c.x, c.b)) = (List.range many).map (fun i : Nat => ((i : Int), SEC)) → R (.ok (.ret (.ref sa))) s') :
    codeAny (model prog w) A (.call (.ref 173) ⟨[.int 1 t1, .int many t2, .bytes SEC t3, .ref fa, .ref ft], []⟩) R s := by
  w_on
  refine enterC (binds := [("threshold", .int 1 t1), ("share_count", .int many t2), ("shared_secret", .bytes SEC t3), ("random_bytes", .ref fa), ("hmac_sha256", .ref ft)]) (mu := []) hW hk (by simp) (by simp) (by k_dflt k_is) (by k_dflt k_is) (by unfold recursionLimit; omega) (by exact BindsTo.of_eq rfl) ?_ (by decide) ?_ (by exact rfl) (by exact rfl) (by exact rfl)
  · intro n y hy
    simp only [List.mem_cons, List.not_mem_nil, or_false] at hy
    rcases hy with rfl | rfl | rfl | rfl | rfl
    · exact .inl rfl
    · exact .inl rfl
    · exact .inr ⟨rfl, rfl⟩
    · exact .inr ⟨rfl, rfl⟩
    · exact .inl rfl
  intro g₁ h₁ tk cells hW₁ gs gk hsame hold Y X₁
  obtain ⟨o1, o2, rfl, d1, d2⟩ := CellsAre.two Y
  replace d1 : o1.data = .cell (some (.ref fa)) := d1
  replace d2 : o2.data = .cell (some (.bytes SEC t3)) := d2
  clear Y
  have hL := X₁.ltL
  have hold1 : Off [] s.heap g₁ := fun b o _ e => hsame b o e (by simp)
  obtain ⟨g2, X2, k2, l2⟩ := X₁.settle (mu₁ := []) (mu₂ := [_, _]) (List.Perm.refl _)
  have hW2 := hW₁.keeps k2
  have i1 : g2.IsCell (s.heap.objs.size + 1) (some (.bytes SEC t3)) := ⟨_, l2 (_, o2) (by simp), d2⟩
  have i2 : g2.IsCell (s.heap.objs.size + 1 + 1) (some (.ref fa)) := ⟨_, l2 (_, o1) (by simp), d1⟩
  have hr7 : ∀ env, (A.deeper env).depth < 700 := fun env => by show A.depth + 1 < 700; omega
  have c1 : ¬ (many : Int) < 1 := by omega
  have c2 : ¬ (16 : Int) < many := by omega
  clear l2 d1 d2 X₁
  have eb : (many : Int) = 0 + (many : Nat) := by omega
  have hm3 : (many : Int) ≤ 1000 := by omega
  have dm : ∀ (g' : Heap) C (h' : Heap) mc mu, Stays g2 g' → Act g' C h' mc mu → ∀ c, h'.get? c = none → s.heap.get? c = none := fun g' C h' mc mu k X c e => X.dom ((hold1.keepR k2).keepR k) (M := []) (by simp) e
  walk2
  · rename_i q; exact absurd q c1
  · rename_i q q2; exact absurd q2 c2
  refine' comp_evalG ?hh X2 (Src.rng (a := 0) (n := many) eb (by decide) hm3 ?hit) (by omega) rfl ?hcell rfl ?hnames rfl
    (fun i ys g' s' mu => Same s s' ∧ mu = [] ∧ ∃ sh : List Sh, ys = sh.map (fun c => Value.ref c.a) ∧ (∀ c ∈ sh, NewShare s.heap g' c.a c.x c.b) ∧ sh.map (fun c => (c.x, c.b)) = (List.range i).map (fun i : Nat => ((i : Int), SEC))) ?hJ ?hJ0 ?turn ?done
  case hh => exact hh
  case hcell => decide
  case hnames => decide
  case hit =>
    intro Q' hQ
    walk2
    exact hQ _ _ ((Same.refl _).go (by assumption)) (by assumption) (by assumption)
  case hJ => rintro i ys g' s s' mu ⟨a, b⟩ S; exact ⟨a.trans S, b⟩
  case hJ0 => exact ⟨(Same.refl s).go (Same.refl _), rfl, [], rfl, (by simp), rfl⟩
  case turn =>
    rintro g' i ys s3 C Dl I oL oI mc mu E' v hi ⟨t, rfl⟩ hv kg ⟨S3, rfl, sh, rfl, hsh, hmap⟩ nL X3
    have hW3 := hW2.keeps kg
    replace i1 := i1.keeps kg
    walk2
    rename_i a s4 S4 X4 K4 N4
    obtain ⟨g4, Z, kz, N5⟩ := X3.shareIn X4 rfl N4 (dm _ _ _ _ _ kg X3)
    refine EltEndG.mk g4 _ kz Z ⟨S3.go S4, rfl, sh ++ [⟨a, 0 + (i : Nat), SEC⟩], by simp, ?_, ?_⟩
    · intro c hc
      rcases List.mem_append.mp hc with hc | hc
      · exact (hsh c hc).grow kz
      · rw [List.mem_singleton.mp hc]; exact N5
    · rw [List.map_append, hmap, List.range_succ, List.map_append]
      simp
  case done =>
    rintro g' s3 Dl ys mu hl kg ⟨S3, rfl, sh, rfl, hsh, hmap⟩ X3
    walk2
    have hD : s.heap.get? Dl = none := X3.dom2 ((hold1.keepR k2).keepR kg) (M := []) (by simp)
    refine h s3 Dl sh S3 (fun b o e => X3.keep _ _ (kg _ _ (k2 _ _ (hold1 b o (by simp) e)))) ⟨⟨_, get_new (X3.get (.head _)) hD, rfl, _, rfl⟩, fun c hc => ?_⟩ hmap
    exact ((hsh c hc).is).keeps (new_stays X3.keep)

end
section
open PySem PySem.W PyProof.Rows PySem.Calls
set_option maxRecDepth 100000



theorem reset_JSplit2 : True := by
  w_top off
  trivial
local macro_rules | `(tactic| walk_at "J none 0") => `(tactic| skip)
local macro_rules | `(tactic| walk_at "J none 1") => `(tactic| skip)
theorem pair2 {a b : Addr} {h h₀ : Heap} {o1 o2 : Obj} (h1 : h.get? a = some o1) (h2 : h.get? b = some o2) (n1 : h₀.get? a = none) (n2 : h₀.get? b = none) : ∀ p ∈ [(a, o1), (b, o2)], h.get? p.1 = some p.2 ∧ h₀.get? p.1 = none := by
  intro p hp
  rcases List.mem_cons.mp hp with rfl | hp
  · exact ⟨h1, n1⟩
  · rw [List.mem_singleton.mp hp]; exact ⟨h2, n2⟩
theorem seal_true {D O1 O2 : Array UInt8} {tu mo : Nat} (hD : D.size = 4) : upB (tellB O1 O2 D O1 O2 tu mo) 4 = D := by
  have e : tellB O1 O2 D O1 O2 tu mo = D ++ #[108, 97, 119] := by unfold tellB; rw [if_pos (by simp)]
  rw [e]
  unfold upB
  apply Array.toList_inj.mp
  rw [Array.toList_append, List.take_append_of_le_length (by simp; omega), List.take_of_length_le (by simp; omega)]
set_option maxHeartbeats 1000000 in
theorem split_more {prog : Program} {w : World} {A : Around} {s : Shared} {g : Heap} {R : Result → Shared → Prop} {fa ft qa da : Addr} {SEC IN : Array UInt8} {Ds : List (Array UInt8)} {least many size tu mo nq : Nat} {ps : Array Value} {t1 t2 t3 tI tl : Tok}
    (hW : Wd w g) (hk : Stays g s.heap) (hroom : A.depth < 320) (hu : A.units < 7000) (hh : A.handled = none) (hm1 : 2 ≤ least) (hm2 : least ≤ many) (hm3 : many ≤ 16)
    (hA : AskFn w g fa (.ref qa) (.ref da) (.bytes IN tI) (.int least tl)) (hD : PairsAt g da Ds) (hDl : Ds.length = many) (hDz : ∀ D ∈ Ds, D.size = size) (hz1 : 4 ≤ size) (hz2 : size ≤ 9) (hSz : SEC.size = size) (hIz : IN.size = size)
    (hS : SealAt w g ft (upB IN 4) (dropB IN 4) SEC tu mo) (h156 : s.heap.get? 156 = some (tabObj ps)) (g156 : g.get? 156 = none) (ok : TriplesOk ps.toList) (C : CodeOf g 160 156) (hq : s.heap.get? qa = some (lst [] nq)) (hqg : g.get? qa = none) (hne : (156 : Addr) ≠ qa)
    (hI : ∀ sh : List Sh, sh.map (fun c => (c.x, c.b)) = (List.range (least - 2)).map (fun i : Nat => ((i : Int), Ds.getD i #[])) ++ [((254 : Int), IN), ((255 : Int), SEC)] → ∀ i : Nat, i < many → ∀ r, InterpR sh i size r → r = Ds.getD i #[])
    (h : ∀ s' sa sh ps' nq' qs, JA.Fin s s' → Off [156, qa] s.heap s'.heap → s'.heap.get? 156 = some (tabObj ps') → TriplesOk ps'.toList → s'.heap.get? qa = some (lst qs nq') → IntsAre qs (List.replicate (least - 2) (size : Int) ++ [(size : Int) - 4]) →
      SharesAt (newH s.heap s'.heap) sa sh → sh.map (fun c => (c.x, c.b)) = (List.range many).map (fun i : Nat => ((i : Int), Ds.getD i #[])) → R (.ok (.ret (.ref sa))) s') :
    codeAny (model prog w) A (.call (.ref 173) ⟨[.int least t1, .int many t2, .bytes SEC t3, .ref fa, .ref ft], []⟩) R s := by
  w_on
  refine enterC (binds := [("threshold", .int least t1), ("share_count", .int many t2), ("shared_secret", .bytes SEC t3), ("random_bytes", .ref fa), ("hmac_sha256", .ref ft)]) (mu := [(156, tabObj ps), (qa, lst [] nq)]) hW hk (pair2 h156 hq g156 hqg) (by simp [hne]) (by k_dflt k_is) (by k_dflt k_is) (by unfold recursionLimit; omega) (by exact BindsTo.of_eq rfl) ?_ (by decide) ?_ (by exact rfl) (by exact rfl) (by exact rfl)
  · intro n y hy
    simp only [List.mem_cons, List.not_mem_nil, or_false] at hy
    rcases hy with rfl | rfl | rfl | rfl | rfl
    · exact .inl rfl
    · exact .inl rfl
    · exact .inr ⟨rfl, rfl⟩
    · exact .inr ⟨rfl, rfl⟩
    · exact .inl rfl
  intro g₁ h₁ tk cells hW₁ gs gk hsame hold Y X₁
  obtain ⟨o1, o2, rfl, d1, d2⟩ := CellsAre.two Y
  replace d1 : o1.data = .cell (some (.ref fa)) := d1
  replace d2 : o2.data = .cell (some (.bytes SEC t3)) := d2
  clear Y
  have hold1 : Off [156, qa] s.heap g₁ := fun b o hb e => hsame b o e hb
  obtain ⟨g2, X2', k2, l2⟩ := X₁.settle (mu₁ := [(156, tabObj ps), (qa, lst [] nq)]) (mu₂ := [_, _]) List.perm_append_comm
  have hW2 := hW₁.keeps k2
  have i1 : g2.IsCell (s.heap.objs.size + 1) (some (.bytes SEC t3)) := ⟨_, l2 (_, o2) (by simp), d2⟩
  have i2 : g2.IsCell (s.heap.objs.size + 1 + 1) (some (.ref fa)) := ⟨_, l2 (_, o1) (by simp), d1⟩
  have hA2 := (hA.keeps gs).keeps k2
  have hD2 := (hD.keeps gs).keeps k2
  have hS2 := (hS.keeps gs).keeps k2
  have C2 : CodeOf g2 160 156 := (C.keeps gs).keeps k2
  have hold2 := hold1.keepR k2
  have hr7 : ∀ env, (A.deeper env).depth < 700 := fun env => by show A.depth + 1 < 700; omega
  have hr4 : ∀ env, (A.deeper env).depth < 350 := fun env => by show A.depth + 1 < 350; omega
  have hu4 : ∀ env, (A.deeper env).units < 8000 := fun env => by show A.units + 3 < 8000; omega
  have c1 : ¬ (least : Int) < 1 := by omega
  have c2 : ¬ (many : Int) < least := by omega
  have c3 : ¬ (16 : Int) < many := by omega
  have c4 : ¬ (least : Int) = 1 := by omega
  have eb : (least : Int) - 2 = 0 + (least - 2 : Nat) := by omega
  have eb2 : (least : Int) - 2 ≤ 1000 := by omega
  have dm : ∀ (g' : Heap) C (h' : Heap) mc mu, Stays g2 g' → Act g' C h' mc mu → (∀ a ∈ [156, qa], a ∈ mu.map (·.1)) → ∀ c, h'.get? c = none → s.heap.get? c = none := fun g' C h' mc mu k X hm c e => X.dom (hold2.keepR k) hm e
  obtain ⟨m2, X2, hm_t, hm_c, hm_h⟩ : ∃ m2, Act g2 s.heap.objs.size h₁ m2 [(156, tabObj ps), (qa, lst [] nq)] ∧ m2 "threshold" = some (.int least t1) ∧ m2 "share_count" = some (.int many t2) ∧ m2 "hmac_sha256" = some (.ref ft) := ⟨_, X2', rfl, rfl, rfl⟩
  clear l2 d1 d2 X₁ X2' hW hW₁ hA hD hS C k2 gs hold1 hsame hold hk gk
  have hSz3 : SEC.size ≤ 1000 := by omega
  have hl2 : least ≤ Ds.length := by omega
  have hIz3 : IN.size ≤ 1000 := by omega
  obtain ⟨fo, fd, hfo, hfd⟩ := hA2.at
  refine body_abs fun Q0 E0 hQ0 hE0 => ?_
  walk2
  · rename_i q; exact absurd q c1
  · rename_i q q2; exact absurd q2 c2
  · rename_i q q2 q3; exact absurd q3 c3
  · rename_i q q2 q3 q4; exact absurd q4 c4
  rename_i s3 S3 X3
  have SS3 : Same s s3 := (Same.refl s).go S3
  obtain ⟨m3, X3', hm_t, hm_c, hm_h, hm_r⟩ : ∃ m3, Act g2 s.heap.objs.size s3.heap m3 [(156, tabObj ps), (qa, lst [] nq)] ∧ m3 "threshold" = some (.int least t1) ∧ m3 "share_count" = some (.int many t2) ∧ m3 "hmac_sha256" = some (.ref ft) ∧ ∃ t, m3 "random_share_count" = some (.int ((least : Int) - 2) t) := ⟨_, X3, hm_t, hm_c, hm_h, _, rfl⟩
  obtain ⟨tr, hm_r⟩ := hm_r
  clear X3 S3 X2
  refine' comp_assignG rfl rfl rfl rfl ?hh X3' (Src.rng (a := 0) (n := least - 2) eb (by decide) eb2 ?hit) (by omega) rfl ?hcell rfl ?hnames rfl
    (fun i ys g' s' mu => Same s s' ∧ ∃ qs nq', mu = [(156, tabObj ps), (qa, lst qs nq')] ∧ IntsAre qs (List.replicate i (size : Int)) ∧ ∃ sh : List Sh, ys = sh.map (fun c => Value.ref c.a) ∧ (∀ c ∈ sh, NewShare s.heap g' c.a c.x c.b) ∧ sh.map (fun c => (c.x, c.b)) = (List.range i).map (fun i : Nat => ((i : Int), Ds.getD i #[]))) ?hJ ?hJ0 ?turn ?done
  case hh => exact hh
  case hcell => decide
  case hnames => decide
  case hit =>
    intro Q' hQ
    walk2
    exact hQ _ _ ((Same.refl _).go (by assumption)) (by assumption) (by assumption)
  case hJ => rintro i ys g' s s' mu ⟨a, b⟩ S; exact ⟨a.trans S, b⟩
  case hJ0 => exact ⟨SS3, [], nq, rfl, .nil, [], rfl, (by simp), rfl⟩
  case turn =>
    rintro g' i ys s4 C Dl I oL oI mc mu E' v hi ⟨t, rfl⟩ hv kg ⟨S4, qs, nq', rfl, hqs, sh, rfl, hsh, hmap⟩ nL X4
    have hW4 := hW2.keeps kg
    replace i1 := i1.keeps kg
    replace i2 := i2.keeps kg
    replace hfo := kg _ _ hfo
    have hql := hqs.length
    rw [List.length_replicate] at hql
    have hi20 : i ≤ 20 := by omega
    have ea : askB Ds IN least i = Ds.getD i #[] := by unfold askB; rw [if_pos (by omega)]
    refine post_abs fun Q' hQ' => ?_
    walk2
    · exact X4.keep _ _ hfo
    refine' j_ask (pre := [_, _, _, _]) (post := []) hW4 ?Xa ?ra hh (hA2.keeps kg) hql hi20 (hD2.keeps kg) hl2 hIz3 ?_
    case Xa => exact X4
    case ra => exact Nat.lt_of_lt_of_le (hr4 _) (by decide)
    intro s5 t5 S5 X5
    rw [ea]
    walk2
    rename_i a s6 S6 X6 K6 N6
    obtain ⟨g6, Z, kz, N7⟩ := X5.shareIn X6 rfl N6 (dm _ _ _ _ _ kg X5 (by simp))
    refine hQ' _ _ ?_
    refine EltEndG.mk g6 _ kz Z ⟨(S4.go S5).go S6, _, _, rfl, ?_, sh ++ [⟨a, 0 + (i : Nat), Ds.getD i #[]⟩], by simp, ?_, ?_⟩
    · rw [List.replicate_succ', ← hSz]
      rw [← hSz] at hqs
      exact IntsAre.append hqs (.cons _ _ .nil)
    · intro c hc
      rcases List.mem_append.mp hc with hc | hc
      · exact (hsh c hc).grow kz
      · rw [List.mem_singleton.mp hc]; exact N7
    · rw [List.map_append, hmap, List.range_succ, List.map_append]
      simp
  case done =>
    rintro g' s4 Dl ys mu hl kg ⟨S4, qs, nq', rfl, hqs, sh, rfl, hsh, hmap⟩ X4
    have hW4 := hW2.keeps kg
    replace i1 := i1.keeps kg
    replace i2 := i2.keeps kg
    replace hfo := kg _ _ hfo
    have hql := hqs.length
    rw [List.length_replicate] at hql
    have ea : askB Ds IN least (least - 2) = dropB IN 4 := by unfold askB; rw [if_neg (by omega)]
    walk2
    · exact X4.keep _ _ hfo
    refine' j_ask (pre := [_, _]) (post := []) hW4 ?Xb ?rb hh (hA2.keeps kg) hql (by omega) (hD2.keeps kg) hl2 hIz3 ?_
    case Xb => exact X4
    case rb => exact Nat.lt_of_lt_of_le (hr4 _) (by decide)
    intro s5 t5 S5 X5
    rw [ea]
    have hqs5 : IntsAre (qs ++ [Value.int ((SEC.size : Nat) - 4) (s4.toks + 1 + 1)]) (List.replicate (least - 2) (size : Int) ++ [(size : Int) - 4]) := by
      rw [← hSz]
      rw [← hSz] at hqs
      exact IntsAre.append hqs (.cons _ _ .nil)
    generalize qs ++ [Value.int ((SEC.size : Nat) - 4) (s4.toks + 1 + 1)] = qs5 at X5 hqs5
    walk2
    rename_i s6 S6 X6
    refine wpAny_call (digest_spec (g := g') hW4 X6.keep (hr4 _) (hu4 _) hh (hS2.keeps kg) ?_)
    intro s7 t7 S7 K7
    have X7 := X6.grow K7
    rw [seal_true (by rw [up_size]; omega)]
    have hsz9 : (upB IN 4).size + (dropB IN 4).size ≤ 1000 := by rw [up_size, drop_size]; omega
    have hlz : (sh.map fun c => Value.ref c.a).length + [Value.none, Value.none].length ≤ 10000 := by
      rw [List.length_map]
      have := congrArg List.length hmap
      simp at this
      simp [this]
      omega
    have SS7 : Same s s7 := ((S4.go S5).go S6).go S7
    clear hr7 S4 S5 S6 S7 K7 X6 X5 X4
    walk2
    rename_i s8 S8 X8 s9 t9 S9 X9
    rw [up_drop]
    refine' j_shareG hW4 X9 ?rc (dm _ _ _ _ _ kg X9 (by simp)) ?_
    case rc => exact Nat.lt_of_lt_of_le (hr4 _) (by decide)
    intro gA a1 sA SA kA hWA XA N1
    replace i1 := i1.keeps kA
    clear X8 X7
    walk2
    refine' j_shareG hWA XA ?rd (dm _ _ _ _ _ (fun b o e => kA _ _ (kg _ _ e)) XA (by simp)) ?_
    case rd => exact Nat.lt_of_lt_of_le (hr4 _) (by decide)
    intro gB a2 sB SB kB hWB XB N2
    clear XA X9
    walk2
    rename_i la sC SC XC zC ba sD SD XD zD sE SE XE
    have hlen : sh.length = least - 2 := by simpa using congrArg List.length hmap
    generalize hsh2 : sh ++ [⟨a1, 254, IN⟩, ⟨a2, 255, SEC⟩] = sh2
    have ebase : (sh.map fun c => Value.ref c.a) ++ [Value.ref a1, Value.ref a2] = sh2.map fun c => Value.ref c.a := by rw [← hsh2]; simp
    have emap : sh2.map (fun c => (c.x, c.b)) = (List.range (least - 2)).map (fun i : Nat => ((i : Int), Ds.getD i #[])) ++ [((254 : Int), IN), ((255 : Int), SEC)] := by rw [← hsh2, List.map_append, hmap]; rfl
    rw [ebase] at XE
    obtain ⟨gE, XE2, kE, lE⟩ := XE.settle1
    have hWE := hWB.keeps kE
    have kgE : Stays g2 gE := fun b o e => kE _ _ (kB _ _ (kA _ _ (kg _ _ e)))
    have hSB : SharesAt gE ba sh2 := by
      refine ⟨lst_isList lE, fun c hc => ?_⟩
      rw [← hsh2] at hc
      rcases List.mem_append.mp hc with hc | hc
      · exact ((hsh c hc).share).keeps fun b o e => kE _ _ (kB _ _ (kA _ _ e))
      · rcases List.mem_cons.mp hc with rfl | hc
        · exact N1.share.keeps fun b o e => kE _ _ (kB _ _ e)
        · rw [List.mem_singleton.mp hc]; exact N2.share.keeps kE
    have hshE : ∀ c ∈ sh, NewShare s.heap gE c.a c.x c.b := fun c hc => (hsh c hc).grow fun b o e => kE _ _ (kB _ _ (kA _ _ e))
    have SSE : Same s sE := (((((SS7.go S8).go S9).go SA).go SB).go SC).go SD |>.go SE
    have XE3 := XE2.drop
    obtain ⟨mE, XF, n1, n2, n3, n4⟩ : ∃ mE, Act gE s.heap.objs.size sE.heap mE [(Dl, lst (sh.map fun c => Value.ref c.a) (sh.map fun c => Value.ref c.a).length), (156, tabObj ps), (qa, lst qs5 (nq' + 1))] ∧ mE "shares" = some (.ref Dl) ∧ mE "base_shares" = some (.ref ba) ∧ mE "random_share_count" = some (.int ((least : Int) - 2) tr) ∧ mE "share_count" = some (.int many t2) :=
      ⟨_, XE3, rfl, rfl, hm_r, hm_c⟩
    have em : (many : Int) = ((least : Int) - 2) + (many - (least - 2) : Nat) := by omega
    have e0 : (0 : Int) ≤ (least : Int) - 2 := by omega
    have e1 : (many : Int) ≤ 1000 := by omega
    have hshx : ∀ c ∈ sh2, 0 ≤ c.x ∧ c.x < 256 ∧ c.b.size = size := by
      intro c hc
      have : (c.x, c.b) ∈ sh2.map (fun c => (c.x, c.b)) := List.mem_map_of_mem hc
      rw [emap] at this
      rcases List.mem_append.mp this with q | q
      · obtain ⟨j, hj, e⟩ := List.mem_map.mp q
        have hj' := List.mem_range.mp hj
        injection e with e2 e3
        rw [← e2, ← e3]
        refine ⟨by omega, by omega, hDz _ ?_⟩
        rw [List.getD_eq_getElem?_getD, List.getElem?_eq_getElem (by omega)]
        exact List.getElem_mem _
      · rcases List.mem_cons.mp q with q | q
        · injection q with e2 e3; rw [e2, e3]; exact ⟨by decide, by decide, hIz⟩
        · injection List.mem_singleton.mp q with e2 e3; rw [e2, e3]; exact ⟨by decide, by decide, hSz⟩
    have hlen2 : sh2.length = least := by rw [← hsh2]; simp; omega
    have hnd : (sh2.map (·.x)).Nodup := by
      have e2 : sh2.map (·.x) = (List.range (least - 2)).map (fun i : Nat => (i : Int)) ++ [254, 255] := by
        have := congrArg (List.map Prod.fst) emap
        rw [List.map_append, List.map_map, List.map_map] at this
        exact this
      rw [e2]
      refine List.nodup_append.mpr ⟨?_, by decide, ?_⟩
      · exact List.pairwise_map.mpr (List.nodup_range.imp fun h q => h (by omega))
      · intro x hx y hy e3
        obtain ⟨j, hj, e4⟩ := List.mem_map.mp hx
        have := List.mem_range.mp hj
        simp at hy
        omega
    clear XE3 XE2 XE XD XC XB SE SD SC SB SA zD zC S9 S8 SS7
    refine' for_srcG ?hh3 XF (Src.rng em e0 e1 ?hit3) (fun i g' s' m mu => JA.Fin s s' ∧ m "shares" = some (.ref Dl) ∧ m "base_shares" = some (.ref ba) ∧ ∃ ps' nd, ∃ sh' : List Sh, mu = [(Dl, lst (sh'.map fun c => Value.ref c.a) nd), (156, tabObj ps'), (qa, lst qs5 (nq' + 1))] ∧ TriplesOk ps'.toList ∧
      (∀ c ∈ sh', NewShare s.heap g' c.a c.x c.b) ∧ sh'.map (fun c => (c.x, c.b)) = (List.range (least - 2 + i)).map (fun i : Nat => ((i : Int), Ds.getD i #[]))) ?hJ3 ?hJ03 ?turn3 ?done3
    case hh3 => exact hh
    case hit3 =>
      intro Q' hQ
      walk2
      exact hQ _ _ ((Same.refl _).go (by assumption)) (by assumption) (by assumption)
    case hJ3 => rintro i g' s s' m mu ⟨a, b⟩ S; exact ⟨a.trans S.fin, b⟩
    case hJ03 => exact ⟨SSE.fin, n1, n2, ps, _, sh, rfl, ok, hshE, by rw [hmap]; rfl⟩
    case turn3 =>
      rintro g' I i v o s5 m mu hi ⟨t, rfl⟩ kg5 ⟨F5, n1, n2, ps', nd, sh', rfl, ok', hsh', hmap'⟩ X5
      have hW5 := hWE.keeps kg5
      have ex : ((least : Int) - 2) + (i : Nat) = ((least - 2 + i : Nat) : Int) := by omega
      rw [ex]
      have hlen' : sh'.length = least - 2 + i := by simpa using congrArg List.length hmap'
      have hlz2 : (sh'.map fun c => Value.ref c.a).length ≤ 10000 := by rw [List.length_map]; omega
      refine turn_abs fun Q' E' hQ' hE' => ?_
      walk2
      rename_i s6 S6 X6
      have kg6 : Stays g2 g' := fun b o e => kg5 _ _ (kgE _ _ e)
      refine' j_interp (pre := [_, _]) (post := [_]) hW5 ?Xe ok' (C2.keeps kg6) ?re hh (hSB.keeps kg5) hshx (Int.natCast_nonneg _) ?le ?l0 ?l1 hnd hz2 ?_
      case Xe => exact X6
      case re => exact Nat.lt_of_lt_of_le (hr4 _) (by decide)
      case le => omega
      case l0 => omega
      case l1 => omega
      intro s7 t7 r ps7 F7 ok7 X7 I7
      have er : r = Ds.getD (least - 2 + i) #[] := hI sh2 emap _ (by omega) r I7
      subst er
      walk2
      refine' j_shareG (h0 := s.heap) hW5 X7 ?rf (dm _ _ _ _ _ kg6 X7 (by simp)) ?_
      case rf => exact Nat.lt_of_lt_of_le (hr4 _) (by decide)
      intro g8 a8 s8 S8 k8 hW8 X8 N8
      walk2
      rename_i s9 S9 X9
      refine hQ' _ _ ?_
      refine NextOkG.mk g8 _ _ k8 X9 ⟨((F5.go S6).go2 F7).go S8 |>.go S9, n1, n2, ps7, _, sh' ++ [⟨a8, ((least - 2 + i : Nat) : Int), Ds.getD (least - 2 + i) #[]⟩], by rw [List.map_append]; rfl, ok7, ?_, ?_⟩
      · intro c hc
        rcases List.mem_append.mp hc with hc | hc
        · exact (hsh' c hc).grow k8
        · rw [List.mem_singleton.mp hc]; exact N8
      · rw [List.map_append, hmap', show least - 2 + (i + 1) = (least - 2 + i) + 1 by omega, List.range_succ, List.map_append]
        rfl
    case done3 =>
      rintro g' s5 m mu kg5 ⟨F5, n1, n2, ps', nd, sh', rfl, ok', hsh', hmap'⟩ X5
      walk2
      have kg6 : Stays g2 g' := fun b o e => kg5 _ _ (kgE _ _ e)
      have hDn : s.heap.get? Dl = none := X5.dom2 (hold2.keepR kg6) (by simp)
      rw [show least - 2 + (many - (least - 2)) = many by omega] at hmap'
      refine hQ0 _ _ ?_
      refine h s5 Dl sh' ps' _ qs5 F5 (fun b o hb e => X5.keep _ _ (kg6 _ _ (hold2 b o hb e))) (X5.get (.tail _ (.head _))) ok' (X5.get (.tail _ (.tail _ (.head _)))) hqs5 ⟨⟨_, get_new (X5.get (.head _)) hDn, rfl, _, rfl⟩, fun c hc => ?_⟩ hmap'
      exact ((hsh' c hc).is).keeps (new_stays X5.keep)

end
section
open PySem PySem.W PyProof.Rows PySem.Calls
set_option maxRecDepth 100000



theorem reset_JExc : True := by
  w_top off
  trivial
theorem own31 {w : World} {h : Heap} {mg : Str → Option Value} (X : (JA.hd.heap_1 w.params).In h) (G : h.Ns mainGlobals mg) : OwnCls "MnemonicError" 31 [.type "Exception", .type "BaseException", .type "object"] "Exception.__new__" mg h := by
  w_on
  refine ⟨mg_of X G (by k_dflt k_is), ?_⟩
  have hC := X 31 _ (by k_dflt k_is)
  have q : nsOkIn (JA.hd.heap_1 w.params) 30 = true := by kernel_rfl
  have q2 : nsIn (JA.hd.heap_1 w.params) 30 "__init__" = some none := by k_dflt k_is
  exact ⟨_, 30, _, _, _, _, _, _, _, _, _, _, _, _, _, _, _, hC, .of_isNs (isNs_of_in X q), nsMap_none_of_in X q q2, .base⟩
theorem cut_ns {w : World} {h : Heap} {L : Addr} {mg : Str → Option Value} (X : (JA.hd.heap_1 w.params).In h) (hL : 221 ≤ L) (G : h.Ns mainGlobals mg) : (cutAt h L).Ns mainGlobals mg :=
  let ⟨o, es, ep, e, r⟩ := G; ⟨o, es, ep, get_cut e (Nat.lt_of_lt_of_le (by decide) hL), r⟩

end
section
open PySem PySem.W PyProof.Rows PySem.Calls
set_option maxRecDepth 100000



theorem reset_JRec : True := by
  w_top off
  trivial
local macro_rules | `(tactic| walk_at "J none 0") => `(tactic| skip)
local macro_rules | `(tactic| walk_at "J none 1") => `(tactic| skip)
set_option maxHeartbeats 1000000 in
theorem recover_one {prog : Program} {w : World} {A : Around} {s : Shared} {g : Heap} {R : Result → Shared → Prop} {ft la : Addr} {c : Sh} {t1 : Tok}
    (hW : Wd w g) (hk : Stays g s.heap) (hroom : A.depth < 320) (hl : SharesAt g la [c])
    (h : ∀ s' t, Same s s' → Stays s.heap s'.heap → R (.ok (.ret (.bytes c.b t))) s') :
    codeAny (model prog w) A (.call (.ref 180) ⟨[.int 1 t1, .ref la, .ref ft], []⟩) R s := by
  w_on
  refine enter (binds := [("threshold", .int 1 t1), ("shares", .ref la), ("hmac_sha256", .ref ft)]) hW hk (mu := []) (by simp) (by simp) (by k_dflt k_is) (by k_dflt k_is) (by unfold recursionLimit; omega) (by exact BindsTo.of_eq rfl) (by exact locs rfl) (by decide) ?_ (by exact rfl) (by exact rfl) (by exact rfl)
  intro g₁ h₁ hW₁ gs gk hsame hold X₁
  have hold2 : Stays s.heap g₁ := fun b o e => hsame b o e (by simp)
  have hr7 : ∀ env, (A.deeper env).depth < 799 := fun env => by show A.depth + 1 < 799; omega
  have hl1 := (hl.keeps gs).1
  have hc : IsShare g₁ c.a c.x c.b := (hl.keeps gs).2 c (.head _)
  have hx : ([c].map fun c => Value.ref c.a)[(0:Int).toNat]? = some (.ref c.a) := rfl
  walk2
  refine Attribute_any_ ?_
  walk2
  rename_i s2 t2 K2 S2 X2
  exact h s2 t2 (Same.go (Same.refl s) S2) (fun b o e => X2.keep _ _ (hold2 _ _ e))
set_option maxHeartbeats 1000000 in
theorem recover_more {prog : Program} {w : World} {A : Around} {s : Shared} {g : Heap} {R : Result → Shared → Prop} {ft la : Addr} {sh : List Sh} {least size tu mo : Nat} {SEC IN D O1 O2 : Array UInt8} {ps : Array Value} {t1 : Tok}
    (hW : Wd w g) (hk : Stays g s.heap) (hroom : A.depth < 320) (hu : A.units < 7000) (hh : A.handled = none) (hl : SharesAt g la sh) (h2 : 2 ≤ least) (hlen : sh.length = least) (hl16 : least ≤ 16) (hz2 : size ≤ 9)
    (hsh : ∀ c ∈ sh, 0 ≤ c.x ∧ c.x < 256 ∧ c.b.size = size) (hnd : (sh.map (·.x)).Nodup) (hSz : SEC.size = size) (hIz : IN.size = size)
    (hS : SealAt w g ft D O1 O2 tu mo) (h156 : s.heap.get? 156 = some (tabObj ps)) (g156 : g.get? 156 = none) (ok : TriplesOk ps.toList) (C : CodeOf g 160 156)
    (hI1 : ∀ r, InterpR sh 255 size r → r = SEC) (hI2 : ∀ r, InterpR sh 254 size r → r = IN)
    (h : upB IN 4 = upB (tellB (dropB IN 4) SEC D O1 O2 tu mo) 4 → ∀ s' t ps', JA.Fin s s' → Off [156] s.heap s'.heap → s'.heap.get? 156 = some (tabObj ps') → TriplesOk ps'.toList → R (.ok (.ret (.bytes SEC t))) s')
    (he : upB IN 4 ≠ upB (tellB (dropB IN 4) SEC D O1 O2 tu mo) 4 → ∃ (outer : List Env), A.frames = some outer ∧ ∀ sA ps', JA.Fin s sA → Off [156] s.heap sA.heap → sA.heap.get? 156 = some (tabObj ps') → ∃ base : Heap, Stays base sA.heap ∧ base.get? s.heap.objs.size = none ∧ sA.heap.FunFrames base outer ∧
      ∀ s' e t, JA.Fin s s' → Heap.FlyingW base outer e (.ref 31) (.ref t) s'.heap → sA.heap.UpToSlots s'.heap → R (.error (.ref e)) s') :
    codeAny (model prog w) A (.call (.ref 180) ⟨[.int least t1, .ref la, .ref ft], []⟩) R s := by
  w_on
  refine enter (binds := [("threshold", .int least t1), ("shares", .ref la), ("hmac_sha256", .ref ft)]) hW hk (mu := [(156, tabObj ps)]) (by simp [h156, g156]) (by simp) (by k_dflt k_is) (by k_dflt k_is) (by unfold recursionLimit; omega) (by exact BindsTo.of_eq rfl) (by exact locs rfl) (by decide) ?_ (by exact rfl) (by exact rfl) (by exact rfl)
  intro g₁ h₁ hW₁ gs gk hsame hold X₁
  have hold2 : Off [156] s.heap g₁ := fun b o hb e => hsame b o e (by simpa using hb)
  have hr4 : ∀ env, (A.deeper env).depth < 350 := fun env => by show A.depth + 1 < 350; omega
  have hu4 : ∀ env, (A.deeper env).units < 8000 := fun env => by show A.units + 3 < 8000; omega
  have hl1 := hl.keeps gs
  have hS1 := hS.keeps gs
  have C1 := C.keeps gs
  have hSS : Same s { s with heap := h₁, toks := s.toks + [(("threshold" : Str), Value.int least t1), ("shares", .ref la), ("hmac_sha256", .ref ft)].length } := ⟨rfl, rfl, rfl⟩
  have c1 : ¬ (least : Int) = 1 := by omega
  have hIz3 : IN.size ≤ 1000 := by omega
  walk2
  · rename_i q; exact absurd q c1
  rename_i q
  refine' j_interp (pre := []) (post := []) hW₁ ?Xa ok C1 ?ra hh hl1 hsh (by decide) (by decide) (by omega) (by omega) hnd hz2 ?_
  case Xa => exact X₁
  case ra => exact Nat.lt_of_lt_of_le (hr4 _) (by decide)
  intro s2 t2 r2 ps2 F2 ok2 X2 I2
  have e2 := hI1 r2 I2
  subst e2
  walk2
  rename_i s3 S3 X3
  refine' j_interp (pre := []) (post := []) hW₁ ?Xb ok2 C1 ?rb hh hl1 hsh (by decide) (by decide) (by omega) (by omega) hnd hz2 ?_
  case Xb => exact X3
  case rb => exact Nat.lt_of_lt_of_le (hr4 _) (by decide)
  intro s4 t4 r4 ps4 F4 ok4 X4 I4
  have e4 := hI2 r4 I4
  subst e4
  walk2
  rename_i s5 S5 X5 s6 t6 S6 X6 s7 S7 X7 s8 t8 S8 X8 s9 S9 X9
  have F9 : JA.Fin s s9 := ((((((((hSS.fin).go2 F2).go S3).go2 F4).go S5).go S6).go S7).go S8).go S9
  refine wpAny_call (digest_spec (g := g₁) hW₁ X9.keep (hr4 _) (hu4 _) hh hS1 ?_)
  intro sA tA SA KA
  have XA := X9.grow KA
  have FA : JA.Fin s sA := F9.go SA
  rw [picked_drop]
  clear hSS F2 X2 S3 X3 F4 X4 S5 X5 S6 X6 S7 X7 S8 X8 S9 X9 F9 X₁ KA
  refine ne_bytes ?_
  rw [picked_up]
  cases hq : ((upB r4 4).toList != (upB (tellB (dropB r4 4) r2 D O1 O2 tu mo) 4).toList) with
  | false =>
    walk2
    have e : upB r4 4 = upB (tellB (dropB r4 4) r2 D O1 O2 tu mo) 4 := Array.toList_inj.mp (by simpa using hq)
    exact h e sA t2 ps4 FA (fun b o hb q => XA.keep _ _ (hold2 b o hb q)) (XA.get (.head _)) ok4
  | true =>
    have e : upB r4 4 ≠ upB (tellB (dropB r4 4) r2 D O1 O2 tu mo) 4 := fun q => by rw [q] at hq; simp at hq
    obtain ⟨outer, hfr, he2⟩ := he e
    walk2
    obtain ⟨mg, G⟩ := hW₁.mg
    have KA' : (JA.hd.heap_1 w.params).In sA.heap := Frag.In.keeps hW₁.K XA.keep
    have hL : 221 ≤ s.heap.objs.size := (hW.keeps hk).low
    have KC := in_cut KA' (low39 w) hL
    have GC := cut_ns KA' hL (G.keeps XA.keep)
    have O := own31 KC GC
    k_dflt (refine' Raise_own ?Fz ?gz ?Oz PySem.F.excBase_Exception ?hz ?_ ?az ?bz ?cz ?dz ?ez; (case Fz => exact fr_cut XA.ns); (case gz => exact GC); (case Oz => exact O); (case hz => exact hh); (case az => rfl); (case bz => rfl); (case cz => rfl); (case dz => rfl); (case ez => decide))
    walk2
    · rename_i b o q
      exact cut_get q
    rename_i h2 ex mk
    obtain ⟨base, hbA, hbL, hff, hend⟩ := he2 sA ps4 FA (fun b o hb q => XA.keep _ _ (hold2 b o hb q)) (XA.get (.head _))
    refine wpAny_leaves_madeW (base := base) (Around.frames_deeper hfr) rfl hbA ?_ mk fun h' t x1 x2 x3 x4 => ?_
    · obtain ⟨oL, es, ep, eL, dL, _⟩ := XA.ns
      exact ⟨(fun q => nomatch q), ⟨_, oL, rfl, hbL, eL, fun vs q => (by rw [dL] at q; cases q)⟩, hff⟩
    · refine hend _ ex t ?_ x1 ((Heap.UpToSlots.of_keeps mk.keeps).trans x4)
      exact FA.go (Same.refl sA) |>.trans ⟨rfl, id⟩

end
section
open PySem PySem.W PyProof.Rows PySem.Calls
set_option maxRecDepth 100000
theorem reset_JLink : True := by
  w_top off
  trivial
-- nomac
theorem tri_tr (a : Nat) : tri a = tr a := rfl
theorem pows_powL : ∀ (n a : Nat), pows a n = powL a n
  | 0, _ => rfl
  | n + 1, a => by
    show a :: pows (tri a) n = a :: powL (tr a) n
    rw [pows_powL n (tri a)]
    rfl
theorem exp_trn {k : Int} (h0 : 0 ≤ k) (h1 : k < 255) : expT k = ((trn k.toNat 1 : Nat) : Int) := by
  rw [expT_eq]
  unfold EXPN
  rw [pows_powL, List.getD_eq_getElem?_getD, powL_get 255 1 k.toNat (by omega)]
  rfl
theorem log_all : allB 256 (fun y => y == 0 || (powL 1 255).getD (((List.range 256).map fun x => if x = 0 then 0 else (powL 1 255).findIdx (· == x)).getD y 0) 0 == y) = true := by decide +kernel
theorem log_zero : logT 0 = 0 := by
  rw [logT_eq]
  unfold LOGN
  rfl
theorem log_trn {y : Nat} (h0 : y ≠ 0) (h1 : y < 256) : trn (logT y).toNat 1 = y := by
  have r := log_rng (y : Int)
  have e := allB_of log_all h1
  simp only [Bool.or_eq_true, beq_iff_eq] at e
  rcases e with e | e
  · exact absurd e h0
  · have e2 : (logT (y : Int)).toNat = ((List.range 256).map fun x => if x = 0 then 0 else (powL 1 255).findIdx (· == x)).getD y 0 := by
      rw [logT_eq]
      unfold LOGN EXPN
      rw [pows_powL, Int.toNat_natCast, Int.toNat_natCast]
    rw [← e2, List.getD_eq_getElem?_getD, powL_get 255 1 _ (by omega)] at e
    exact e
theorem trn_period : ∀ q n, trn (255 * q + n) 1 = trn n 1
  | 0, n => by rw [Nat.mul_zero, Nat.zero_add]
  | q + 1, n => by
    rw [show 255 * (q + 1) + n = (255 * q + n) + 255 by omega, trn_add, pow_255, trn_period q n]
theorem trn_mod (n : Nat) : trn (n % 255) 1 = trn n 1 := by
  have := trn_period (n / 255) (n % 255)
  rw [Nat.div_add_mod] at this
  exact this.symm
/-- 3 to the power e -/
noncomputable def gx (e : Int) : G := ⟨trn (e.fmod 255).toNat 1, trn_lt (by decide) _⟩
theorem gx_add (a b : Int) : gx (a + b) = gM (gx a) (gx b) := by
  apply G.ext'
  show trn ((a + b).fmod 255).toNat 1 = mulN (trn (a.fmod 255).toNat 1) (trn (b.fmod 255).toNat 1)
  rw [pow_mul, ← trn_mod ((a.fmod 255).toNat + (b.fmod 255).toNat)]
  congr 1
  have ra := fmod_rng a (show (0 : Int) < 255 by decide)
  have rb := fmod_rng b (show (0 : Int) < 255 by decide)
  have ea := Int.fmod_eq_emod_of_nonneg a (show (0 : Int) ≤ 255 by decide)
  have eb := Int.fmod_eq_emod_of_nonneg b (show (0 : Int) ≤ 255 by decide)
  have ec := Int.fmod_eq_emod_of_nonneg (a + b) (show (0 : Int) ≤ 255 by decide)
  rw [ea] at ra
  rw [eb] at rb
  rw [ea, eb, ec]
  omega
theorem gx_zero : gx 0 = g1 := rfl
theorem gx_ne (a : Int) : gx a ≠ g0 := fun e => by
  have h : gM (gx a) (gx (-a)) = g1 := by rw [← gx_add, Int.add_right_neg, gx_zero]
  rw [e, gM_zeroL] at h
  exact g1_ne h.symm
theorem gx_sub (a b : Int) : gx (a - b) = gM (gx a) (gI (gx b)) := by
  refine gM_cancel (gx_ne b) ?_
  rw [← gx_add, Int.sub_add_cancel, gM_assoc, gM_comm (gI (gx b)), gI_mul (gx_ne b), gM_one]
theorem gx_mod (a : Int) : gx (a.fmod 255) = gx a := by
  apply G.ext'
  show trn ((a.fmod 255).fmod 255).toNat 1 = trn (a.fmod 255).toNat 1
  congr 2
  rw [Int.fmod_eq_emod_of_nonneg _ (by decide), Int.fmod_eq_emod_of_nonneg _ (by decide), Int.emod_emod_of_dvd _ (Int.dvd_refl _)]
theorem gx_log {z : Nat} (h0 : z ≠ 0) (h1 : z < 256) : (gx (logT z)).v = z := by
  have r := log_rng (z : Int)
  show trn ((logT z).fmod 255).toNat 1 = z
  rw [Int.fmod_eq_of_lt r.1 r.2]
  exact log_trn h0 h1
theorem gx_exp (e : Int) : expT (e.fmod 255) = ((gx e).v : Int) := by
  have r := fmod_rng e (show (0 : Int) < 255 by decide)
  exact exp_trn r.1 r.2
/-- a number as an element of the field -/
noncomputable def toG (k : Int) : G := ⟨k.toNat % 256, Nat.mod_lt _ (by decide)⟩
theorem toG_v {k : Int} (h1 : k < 256) : (toG k).v = k.toNat := by
  show k.toNat % 256 = _
  omega
theorem toG_inj {a b : Int} (ha : 0 ≤ a) (ha1 : a < 256) (hb : 0 ≤ b) (hb1 : b < 256) (e : toG a = toG b) : a = b := by
  have := congrArg G.v e
  rw [toG_v ha1, toG_v hb1] at this
  omega
theorem gx_dif {y x : Int} (hy : 0 ≤ y) (hy1 : y < 256) (hx : 0 ≤ x) (hx1 : x < 256) : gx (logT (Builtin.bitXor y x)) = dif (toG x) (toG y) := by
  rw [bx_eq hy hx]
  unfold dif
  by_cases e : y = x
  · rw [e, if_pos rfl, Nat.xor_self]
    show gx (logT 0) = g1
    rw [log_zero, gx_zero]
  · rw [if_neg fun q => e (toG_inj hy hy1 hx hx1 q)]
    apply G.ext'
    have hne : y.toNat ^^^ x.toNat ≠ 0 := fun q => by
      have : y.toNat = x.toNat := by
        have h := congrArg (· ^^^ x.toNat) q
        simpa [Nat.xor_assoc] using h
      omega
    rw [gx_log hne (x_lt (by omega) (by omega))]
    show _ = (toG y).v ^^^ (toG x).v
    rw [toG_v hy1, toG_v hx1]
theorem dif_comm (a b : G) : dif a b = dif b a := by
  unfold dif
  by_cases e : b = a
  · rw [if_pos e, if_pos e.symm]
  · rw [if_neg e, if_neg fun q => e q.symm, gA_comm]
/-- products over a list of places -/
theorem gx_preSum (h : Int → Int) (F : G → G) : ∀ (n : Nat) (xs : List Int), n ≤ xs.length → (∀ y ∈ xs, gx (h y) = F (toG y)) → gx (preSum (fun i => h (xs.getD i 0)) n) = gP F ((xs.take n).map toG)
  | 0, xs, _, _ => gx_zero
  | n + 1, xs, hn, hF => by
    have e : preSum (fun i => h (xs.getD i 0)) (n + 1) = preSum (fun i => h (xs.getD i 0)) n + h (xs.getD n 0) := rfl
    rw [e, gx_add, gx_preSum h F n xs (by omega) hF]
    have hlt : n < xs.length := hn
    have eg : xs.getD n 0 = xs[n] := by rw [List.getD_eq_getElem?_getD, List.getElem?_eq_getElem hlt]; rfl
    rw [eg, hF _ (List.getElem_mem hlt), List.take_succ_eq_append_getElem hlt, List.map_append]
    have app : ∀ (l : List G) (a : G), gP F (l ++ [a]) = gM (gP F l) (F a) := by
      intro l a
      induction l with
      | nil => show gM (F a) g1 = gM g1 (F a); rw [gM_comm]
      | cons b l ih => show gM (F b) (gP F (l ++ [a])) = gM (gM (F b) (gP F l)) (F a); rw [ih, gM_assoc]
    rw [List.map_singleton, app]
theorem gP_congr {F F' : G → G} : ∀ {ps : List G}, (∀ p ∈ ps, F p = F' p) → gP F ps = gP F' ps
  | [], _ => rfl
  | p :: ps, h => by
    show gM _ _ = gM _ _
    rw [h p (.head _), gP_congr fun q hq => h q (.tail _ hq)]
section
variable {sh : List Sh} {x : Int} {len : Nat}
noncomputable def ptsG (sh : List Sh) : List G := sh.map fun c => toG c.x
theorem gx_lbe (hx : ∀ c ∈ sh, 0 ≤ c.x ∧ c.x < 256) (h0 : 0 ≤ x) (h1 : x < 256) (hno : ∀ c ∈ sh, c.x ≠ x) {c : Sh} (hc : c ∈ sh) : gx (lbe sh x c.x) = lagC (ptsG sh) (toG x) (toG c.x) := by
  have hxs : ∀ y ∈ sh.map (·.x), 0 ≤ y ∧ y < 256 := fun y hy => by
    obtain ⟨d, hd, rfl⟩ := List.mem_map.mp hy
    exact hx d hd
  have hl : (sh.map (·.x)).length = sh.length := List.length_map _
  have ePts : (sh.map (·.x)).map toG = ptsG sh := by unfold ptsG; rw [List.map_map]; rfl
  have e1 : gx (lprod sh x) = gP (fun r => gA r (toG x)) (ptsG sh) := by
    have := gx_preSum (fun y => logT (Builtin.bitXor y x)) (dif (toG x)) sh.length (sh.map (·.x)) (by rw [hl]; exact Nat.le_refl _) (fun y hy => gx_dif (hxs y hy).1 (hxs y hy).2 h0 h1)
    rw [List.take_of_length_le (by rw [hl]; exact Nat.le_refl _), ePts] at this
    unfold lprod
    rw [this]
    refine gP_congr fun p hp => ?_
    obtain ⟨d, hd, rfl⟩ := List.mem_map.mp hp
    unfold dif
    rw [if_neg fun q => hno d hd (toG_inj (hx d hd).1 (hx d hd).2 h0 h1 q)]
  have e2 : gx (logT (Builtin.bitXor c.x x)) = gA (toG c.x) (toG x) := by
    rw [gx_dif (hx c hc).1 (hx c hc).2 h0 h1]
    unfold dif
    rw [if_neg fun q => hno c hc (toG_inj (hx c hc).1 (hx c hc).2 h0 h1 q)]
  have e3 : gx (preSum (fun i => logT (Builtin.bitXor c.x ((sh.map (·.x)).getD i 0))) sh.length) = gW (ptsG sh) (toG c.x) := by
    have := gx_preSum (fun y => logT (Builtin.bitXor c.x y)) (fun p => dif p (toG c.x)) sh.length (sh.map (·.x)) (by rw [hl]; exact Nat.le_refl _) (fun y hy => gx_dif (hx c hc).1 (hx c hc).2 (hxs y hy).1 (hxs y hy).2)
    rw [List.take_of_length_le (by rw [hl]; exact Nat.le_refl _), ePts] at this
    rw [this]
    exact gP_congr fun p _ => dif_comm _ _
  have hne : gA (toG c.x) (toG x) ≠ g0 := gA_ne fun q => hno c hc (toG_inj (hx c hc).1 (hx c hc).2 h0 h1 q)
  unfold lbe lagC
  rw [gx_mod, gx_sub, gx_sub, e1, e2, e3, gI_M hne (gW_ne _ _), gM_assoc]
theorem mix_G {e y acc : Int} (hy : 0 ≤ y ∧ y < 256) (ha : 0 ≤ acc ∧ acc < 256) : toG (mixv e y acc) = gA (toG acc) (gM (toG y) (gx e)) := by
  have hr := mixv_rng (e := e) (y := y) ha
  apply G.ext'
  rw [toG_v hr.2]
  show _ = (toG acc).v ^^^ (gM (toG y) (gx e)).v
  rw [toG_v ha.2]
  unfold mixv
  by_cases h : y = 0
  · rw [if_neg (by simp [h]), bx_eq ha.1 (by decide), h]
    have : (gM (toG 0) (gx e)).v = 0 := congrArg G.v (gM_zeroL (gx e))
    rw [this]
    rfl
  · rw [if_pos h, gx_exp, bx_eq ha.1 (by omega), gx_add]
    have e1 : gx (logT y) = toG y := by
      apply G.ext'
      obtain ⟨k, rfl⟩ : ∃ k : Nat, y = (k : Int) := ⟨y.toNat, by omega⟩
      rw [gx_log (by omega) (by omega), toG_v hy.2]
      rfl
    rw [e1]
    rfl
theorem octs_byte {f : Nat → Int} {n j : Nat} (hj : j < n) (hf : 0 ≤ f j ∧ f j < 256) : byteI (octs f n) j = f j := by
  have e : (octs f n)[j]? = some (f j).toNat.toUInt8 := by
    unfold octs byteArr
    rw [List.getElem?_toArray, List.getElem?_map, List.getElem?_map, List.getElem?_range hj]
    rfl
  rw [byteI_of e]
  have : ((f j).toNat.toUInt8).toNat = (f j).toNat := by
    show (UInt8.ofNat (f j).toNat).toNat = _
    rw [UInt8.toNat_ofNat']
    omega
  rw [this]
  omega
/-- a sum over shares -/
noncomputable def sumSh (F : Sh → G) : List Sh → G
  | [] => g0
  | c :: l => gA (F c) (sumSh F l)
theorem sumSh_snoc (F : Sh → G) (c : Sh) : ∀ l : List Sh, sumSh F (l ++ [c]) = gA (sumSh F l) (F c)
  | [] => by show gA (F c) g0 = gA g0 (F c); rw [gA_comm]
  | d :: l => by show gA (F d) (sumSh F (l ++ [c])) = gA (gA (F d) (sumSh F l)) (F c); rw [sumSh_snoc F c l, gA_assoc]
theorem sumSh_congr {F F' : Sh → G} : ∀ {l : List Sh}, (∀ c ∈ l, F c = F' c) → sumSh F l = sumSh F' l
  | [], _ => rfl
  | c :: l, h => by
    show gA _ _ = gA _ _
    rw [h c (.head _), sumSh_congr fun d hd => h d (.tail _ hd)]
theorem ipre_sum {j : Nat} (hj : j < len) : ∀ i, i ≤ sh.length → toG (byteI (ipre sh x len i) j) = sumSh (fun c => gM (toG (byteI c.b j)) (gx (lbe sh x c.x))) (sh.take i)
  | 0, _ => by
    unfold ipre byteI
    rw [Array.getD_eq_getD_getElem?, Array.getElem?_replicate, if_pos hj]
    rfl
  | i + 1, hi => by
    have hlt : i < sh.length := hi
    have ih := ipre_sum hj i (by omega)
    unfold ipre
    rw [List.getElem?_eq_getElem hlt]
    dsimp only
    unfold stepB
    rw [octs_byte hj (mixv_rng (byteI_rng _ _)), mix_G (byteI_rng _ _) (byteI_rng _ _), ih, List.take_succ_eq_append_getElem hlt, sumSh_snoc]
theorem interp_sum {j : Nat} (hj : j < len) : toG (byteI (interpB sh x len) j) = sumSh (fun c => gM (toG (byteI c.b j)) (gx (lbe sh x c.x))) sh := by
  unfold interpB
  rw [ipre_sum hj sh.length (Nat.le_refl _), List.take_length]
theorem sumSh_gS (H : G → G) : ∀ l : List Sh, sumSh (fun c => H (toG c.x)) l = gS H (ptsG l)
  | [] => rfl
  | c :: l => by
    show gA _ _ = gA _ _
    rw [sumSh_gS H l]
    rfl
end

end
section
open PySem PySem.W PyProof.Rows PySem.Calls
set_option maxRecDepth 100000
theorem reset_JGood : True := by
  w_top off
  trivial
-- nomac
theorem byteI_arr {l : List Nat} (hl : ∀ v ∈ l, v < 256) (j : Nat) : byteI (byteArr (l.map fun n : Nat => (n : Int))) j = ((l.getD j 0 : Nat) : Int) := by
  unfold byteI byteArr
  rw [Array.getD_eq_getD_getElem?, List.getElem?_toArray, List.getElem?_map, List.getElem?_map, List.getD_eq_getElem?_getD]
  cases e : l[j]? with
  | none => rfl
  | some v =>
    have hv := hl v (List.mem_of_getElem? e)
    show (((UInt8.ofNat (v : Int).toNat).toNat : Nat) : Int) = v
    rw [UInt8.toNat_ofNat']
    omega
theorem bytes_ext {a b : Array UInt8} (hs : a.size = b.size) (h : ∀ j, j < a.size → byteI a j = byteI b j) : a = b := by
  apply Array.ext hs
  intro i h1 h2
  have := h i h1
  unfold byteI at this
  rw [Array.getD_eq_getD_getElem?, Array.getD_eq_getD_getElem?, Array.getElem?_eq_getElem h1, Array.getElem?_eq_getElem h2] at this
  exact UInt8.toNat_inj.mp (Int.ofNat.inj this)
/-- the octets of the curves at a place -/
noncomputable def colB (rs : List (List Nat)) (p size : Nat) : Array UInt8 := byteArr ((colsN rs p size).map fun n : Nat => (n : Int))
theorem colB_size (rs : List (List Nat)) (p size : Nat) : (colB rs p size).size = size := by
  unfold colB
  rw [byteArr_size]
  simp [colsN]
section
variable {rs : List (List Nat)} {size : Nat}
theorem cols_lt (hv : ∀ r ∈ rs, ∀ v ∈ r, v < 256) {p : Nat} (hp : p < 256) : ∀ v ∈ colsN rs p size, v < 256 := by
  intro v hv'
  obtain ⟨j, _, rfl⟩ := List.mem_map.mp hv'
  refine horner_lt (fun c hc => ?_) hp
  obtain ⟨r, hr, rfl⟩ := List.mem_map.mp hc
  rw [List.getD_eq_getElem?_getD]
  cases e : r[j]? with
  | none => decide
  | some v => exact hv r hr v (List.mem_of_getElem? e)
/-- the coefficients of one curve -/
noncomputable def csG (rs : List (List Nat)) (j : Nat) : List G := rs.map fun r => toG ((r.getD j 0 : Nat) : Int)
theorem hor_foldl (p : G) : ∀ (cs : List G) (acc : G), (hor acc cs p).v = (cs.map G.v).foldl (fun a c => c ^^^ mulN a p.v) acc.v
  | [], _ => rfl
  | c :: cs, acc => hor_foldl p cs (gA c (gM acc p))
theorem csG_v (hv : ∀ r ∈ rs, ∀ v ∈ r, v < 256) (j : Nat) : (csG rs j).map G.v = rs.map (·.getD j 0) := by
  unfold csG
  rw [List.map_map]
  refine List.map_congr_left fun r hr => ?_
  show (toG ((r.getD j 0 : Nat) : Int)).v = _
  have : r.getD j 0 < 256 := by
    rw [List.getD_eq_getElem?_getD]
    cases e : r[j]? with
    | none => decide
    | some v => exact hv r hr v (List.mem_of_getElem? e)
  rw [toG_v (by omega)]
  rfl
theorem toG_nat {p : Nat} (hp : p < 256) : (toG (p : Int)).v = p := by
  rw [toG_v (by omega)]
  rfl
theorem col_byte (hv : ∀ r ∈ rs, ∀ v ∈ r, v < 256) {p : Nat} (hp : p < 256) {j : Nat} (hj : j < size) : byteI (colB rs p size) j = ((hor g0 (csG rs j) (toG p)).v : Int) := by
  unfold colB
  rw [byteI_arr (cols_lt hv hp), hor_foldl, csG_v hv, toG_nat hp, List.getD_eq_getElem?_getD]
  unfold colsN
  rw [List.getElem?_map, List.getElem?_range hj]
  rfl
theorem toG_self (a : G) : toG (a.v : Int) = a := G.ext' (toG_nat a.h)
theorem col_G (hv : ∀ r ∈ rs, ∀ v ∈ r, v < 256) {p : Nat} (hp : p < 256) {j : Nat} (hj : j < size) : toG (byteI (colB rs p size) j) = hor g0 (csG rs j) (toG p) := by
  rw [col_byte hv hp hj, toG_self]
theorem pts_nodup {sh : List Sh} (hx : ∀ c ∈ sh, 0 ≤ c.x ∧ c.x < 256) (hn : (sh.map (·.x)).Nodup) : (ptsG sh).Nodup := by
  induction sh with
  | nil => exact List.nodup_nil
  | cons c l ih =>
    have h := List.nodup_cons.mp hn
    refine List.nodup_cons.mpr ⟨fun q => h.1 ?_, ih (fun d hd => hx d (.tail _ hd)) h.2⟩
    obtain ⟨d, hd, e⟩ := List.mem_map.mp q
    have := toG_inj (hx d (.tail _ hd)).1 (hx d (.tail _ hd)).2 (hx c (.head _)).1 (hx c (.head _)).2 e
    exact List.mem_map.mpr ⟨d, hd, this⟩
/-- shares that lie on the curves -/
noncomputable def OnC (rs : List (List Nat)) (size : Nat) (sh : List Sh) : Prop := ∀ c ∈ sh, ∃ p : Nat, p < 256 ∧ c.x = (p : Int) ∧ c.b = colB rs p size
theorem OnC.rng {sh : List Sh} (h : OnC rs size sh) : ∀ c ∈ sh, 0 ≤ c.x ∧ c.x < 256 := fun c hc => by
  obtain ⟨p, hp, e, _⟩ := h c hc
  omega
theorem OnC.byte {sh : List Sh} (h : OnC rs size sh) (hv : ∀ r ∈ rs, ∀ v ∈ r, v < 256) {c : Sh} (hc : c ∈ sh) {j : Nat} (hj : j < size) : toG (byteI c.b j) = hor g0 (csG rs j) (toG c.x) := by
  obtain ⟨p, hp, e, eb⟩ := h c hc
  rw [e, eb, col_G hv hp hj]
theorem sum_good {sh : List Sh} (h : OnC rs size sh) (hv : ∀ r ∈ rs, ∀ v ∈ r, v < 256) (hn : (sh.map (·.x)).Nodup) (hl : sh.length = rs.length) {x : Nat} (h1 : x < 256) (hno : ∀ c ∈ sh, c.x ≠ (x : Int)) {j : Nat} (hj : j < size) :
    sumSh (fun c => gM (toG (byteI c.b j)) (gx (lbe sh x c.x))) sh = hor g0 (csG rs j) (toG x) := by
  have hx := h.rng
  have hxn : toG (x : Int) ∉ ptsG sh := fun q => by
    obtain ⟨d, hd, e⟩ := List.mem_map.mp q
    exact hno d hd (toG_inj (hx d hd).1 (hx d hd).2 (by omega) (by omega) e)
  rw [← lagrange (cs := csG rs j) (ps := ptsG sh) (by unfold csG ptsG; rw [List.length_map, List.length_map, hl]; exact Nat.le_refl _) (pts_nodup hx hn) hxn, ← sumSh_gS]
  refine sumSh_congr fun c hc => ?_
  rw [gx_lbe hx (by omega) (by omega) hno hc, h.byte hv hc hj]
theorem interp_size (sh : List Sh) (x : Int) (len : Nat) : (interpB sh x len).size = len := ipre_size sh x len _
theorem byteI_G {b : Array UInt8} {j : Nat} {a : G} (e : toG (byteI b j) = a) : byteI b j = (a.v : Int) := by
  have r := byteI_rng b j
  have := congrArg G.v e
  rw [toG_v r.2] at this
  omega
/-- as many shares as coefficients: the curves' octets at any place -/
theorem interp_good {sh : List Sh} (h : OnC rs size sh) (hv : ∀ r ∈ rs, ∀ v ∈ r, v < 256) (hn : (sh.map (·.x)).Nodup) (hl : sh.length = rs.length) {x : Nat} (h1 : x < 256) {r : Array UInt8} (I : InterpR sh x size r) : r = colB rs x size := by
  rcases I with ⟨c, hc, e, rfl⟩ | ⟨hno, rfl⟩
  · obtain ⟨p, hp, ep, eb⟩ := h c hc
    rw [eb]
    have : p = x := by omega
    rw [this]
  · refine bytes_ext (by rw [interp_size, colB_size]) fun j hj => ?_
    rw [interp_size] at hj
    rw [col_byte hv h1 hj]
    exact byteI_G (by rw [interp_sum hj, sum_good h hv hn hl h1 hno hj])
theorem bent_size (D : Array UInt8) (n tu mo : Nat) : (bentB D n tu mo).size = n := by
  unfold bentB
  rw [byteArr_size]
  simp [bentL]
theorem bent_byte {D : Array UInt8} {n tu mo j : Nat} (hm : mo < 256) (hj : j < n) : byteI (bentB D n tu mo) j = (((D.getD j 0).toNat ^^^ (if j = tu then mo else 0) : Nat) : Int) := by
  unfold bentB
  rw [byteI_arr (bentL_lt hm), List.getD_eq_getElem?_getD]
  unfold bentL
  rw [List.getElem?_map, List.getElem?_range hj]
  rfl
theorem bent_G {D : Array UInt8} {n tu mo j : Nat} (hm : mo < 256) (hj : j < n) : toG (byteI (bentB D n tu mo) j) = gA (toG (byteI D j)) (if j = tu then toG mo else g0) := by
  rw [bent_byte hm hj]
  have hb := (D.getD j 0).toNat_lt
  apply G.ext'
  have hlt : ((D.getD j 0).toNat ^^^ (if j = tu then mo else 0)) < 256 := x_lt hb (by split; exact hm; decide)
  rw [toG_nat hlt]
  show _ = (toG (byteI D j)).v ^^^ _
  rw [toG_v (byteI_rng D j).2]
  have e : (byteI D j).toNat = (D.getD j 0).toNat := rfl
  rw [e]
  congr 1
  by_cases q : j = tu
  · rw [if_pos q, if_pos q, toG_nat hm]
  · rw [if_neg q, if_neg q]; rfl
theorem sum_mid (F : Sh → G) (c : Sh) : ∀ l1 l2 : List Sh, sumSh F (l1 ++ c :: l2) = gA (F c) (gA (sumSh F l1) (sumSh F l2))
  | [], l2 => by show gA (F c) _ = gA (F c) (gA g0 _); rw [gA_zeroL]
  | d :: l1, l2 => by
    show gA (F d) (sumSh F (l1 ++ c :: l2)) = gA (F c) (gA (gA (F d) (sumSh F l1)) _)
    rw [sum_mid F c l1 l2, gA_assoc, ← gA_assoc (F d), ← gA_assoc (F c), gA_comm (F d)]
/-- one octet of one share turned -/
theorem interp_bent {l1 l2 : List Sh} {c c' : Sh} {octet more : Nat} (h : OnC rs size (l1 ++ c :: l2)) (hv : ∀ r ∈ rs, ∀ v ∈ r, v < 256) (hn : ((l1 ++ c :: l2).map (·.x)).Nodup) (hl : (l1 ++ c :: l2).length = rs.length)
    (ex : c'.x = c.x) (eb : c'.b = bentB c.b size octet more) (hm : more < 256) (hm0 : more ≠ 0) {x : Nat} (h1 : x < 256) (hno : ∀ d ∈ l1 ++ c :: l2, d.x ≠ (x : Int)) : ∃ d : Nat, d < 256 ∧ d ≠ 0 ∧ ∀ r, InterpR (l1 ++ c' :: l2) x size r → r = bentB (colB rs x size) size octet d := by
  have hx := h.rng
  have exs : (l1 ++ c' :: l2).map (·.x) = (l1 ++ c :: l2).map (·.x) := by simp [ex]
  have elen : (l1 ++ c' :: l2).length = (l1 ++ c :: l2).length := by simp
  have elb : ∀ y, lbe (l1 ++ c' :: l2) x y = lbe (l1 ++ c :: l2) x y := fun y => by
    unfold lbe lprod
    rw [exs, elen]
  have hc : c ∈ l1 ++ c :: l2 := by simp
  have hxn : toG (x : Int) ∉ ptsG (l1 ++ c :: l2) := fun q => by
    obtain ⟨d, hd, e⟩ := List.mem_map.mp q
    exact hno d hd (toG_inj (hx d hd).1 (hx d hd).2 (by omega) (by omega) e)
  have hlag : gx (lbe (l1 ++ c :: l2) x c.x) ≠ g0 := gx_ne _
  have hm1 : toG (more : Int) ≠ g0 := fun e => hm0 (by
    have := congrArg G.v e
    rw [toG_nat hm] at this
    exact this)
  refine ⟨(gM (toG more) (gx (lbe (l1 ++ c :: l2) x c.x))).v, G.h _, fun e => gM_ne hm1 hlag (G.ext' e), fun r I => ?_⟩
  rcases I with ⟨d, hd, e, _⟩ | ⟨_, rfl⟩
  · have : d.x ∈ (l1 ++ c :: l2).map (·.x) := exs ▸ List.mem_map.mpr ⟨d, hd, rfl⟩
    obtain ⟨d2, hd2, e2⟩ := List.mem_map.mp this
    exact absurd (e2.trans e) (hno d2 hd2)
  · refine bytes_ext (by rw [interp_size, bent_size]) fun j hj => ?_
    rw [interp_size] at hj
    have hg := sum_good h hv hn hl h1 hno hj
    have hi : toG (byteI (interpB (l1 ++ c' :: l2) x size) j) = gA (hor g0 (csG rs j) (toG x)) (if j = octet then gM (toG more) (gx (lbe (l1 ++ c :: l2) x c.x)) else g0) := by
      rw [interp_sum hj, ← hg, sum_mid, sum_mid]
      have eF : ∀ l : List Sh, sumSh (fun c => gM (toG (byteI c.b j)) (gx (lbe (l1 ++ c' :: l2) x c.x))) l = sumSh (fun d => gM (toG (byteI d.b j)) (gx (lbe (l1 ++ c :: l2) x d.x))) l := fun l => sumSh_congr fun d _ => by rw [elb]
      rw [eF, eF, elb, ex, eb, bent_G hm hj, gM_addL]
      by_cases q : j = octet
      · rw [if_pos q, if_pos q, gA_assoc, gA_comm (gM (toG (more : Int)) _), ← gA_assoc]
      · rw [if_neg q, if_neg q, gM_zeroL, gA_zero, gA_zero]
    have hb : toG (byteI (bentB (colB rs x size) size octet (gM (toG more) (gx (lbe (l1 ++ c :: l2) x c.x))).v) j) = gA (hor g0 (csG rs j) (toG x)) (if j = octet then gM (toG more) (gx (lbe (l1 ++ c :: l2) x c.x)) else g0) := by
      rw [bent_G (G.h _) hj, col_G hv h1 hj, toG_self]
    rw [byteI_G hi, byteI_G hb]
theorem bent_ne {D : Array UInt8} {n tu mo : Nat} (hm : mo < 256) (hm0 : mo ≠ 0) (ht : tu < n) : byteI (bentB D n tu mo) tu ≠ byteI D tu := fun e => by
  have h := bent_G (D := D) (n := n) (tu := tu) hm ht
  rw [e, if_pos rfl] at h
  have h2 := congrArg (gA (toG (byteI D tu))) h
  rw [gA_self, ← gA_assoc, gA_self, gA_zeroL] at h2
  have := congrArg G.v h2
  rw [toG_nat hm] at this
  exact hm0 this.symm
theorem bent_same {D : Array UInt8} {n tu mo j : Nat} (hm : mo < 256) (hj : j < n) (ne : j ≠ tu) : byteI (bentB D n tu mo) j = byteI D j := by
  rw [bent_byte hm hj, if_neg ne, Nat.xor_zero]
  rfl
theorem up_byte {b : Array UInt8} {k j : Nat} (hj : j < k) : byteI (upB b k) j = byteI b j := by
  unfold byteI upB
  rw [Array.getD_eq_getD_getElem?, Array.getD_eq_getD_getElem?, List.getElem?_toArray, List.getElem?_take, if_pos hj, Array.getElem?_toList]
/-- the hash of the turned octets is not told -/
theorem hash_off {SEC IN : Array UInt8} {octet tu more d1 d2 : Nat} (hz : 4 ≤ size) (ho : octet < size) (hm : more < 256) (hm0 : more ≠ 0) (h1 : d1 < 256) (h10 : d1 ≠ 0) (h2 : d2 < 256) (h20 : d2 ≠ 0) (ht : tu < 4) (hne : tu ≠ octet) :
    upB (bentB IN size octet d2) 4 ≠ upB (tellB (dropB (bentB IN size octet d2) 4) (bentB SEC size octet d1) (upB IN 4) (dropB IN 4) SEC tu more) 4 := by
  intro e
  have hneq : bentB SEC size octet d1 ≠ SEC := fun q => by
    have := bent_ne (D := SEC) h1 h10 ho
    rw [q] at this
    exact this rfl
  have hk : ((dropB (bentB IN size octet d2) 4).toList == (dropB IN 4).toList && (bentB SEC size octet d1).toList == SEC.toList) = false := by
    rw [Bool.and_eq_false_iff]
    refine .inr ?_
    rw [beq_eq_false_iff_ne]
    exact fun q => hneq (by rw [← Array.toArray_toList (xs := bentB SEC size octet d1), q])
  have et : tellB (dropB (bentB IN size octet d2) 4) (bentB SEC size octet d1) (upB IN 4) (dropB IN 4) SEC tu more = bentB (upB IN 4) 4 tu more := by
    unfold tellB
    rw [hk]
    rfl
  rw [et] at e
  by_cases q : octet < 4
  · have e1 : byteI _ octet = byteI _ octet := congrArg (fun z => byteI z octet) e
    rw [up_byte q, up_byte q, bent_same hm q (Ne.symm hne), up_byte q] at e1
    exact bent_ne h2 h20 ho e1
  · have e1 : byteI _ tu = byteI _ tu := congrArg (fun z => byteI z tu) e
    rw [up_byte ht, up_byte ht, bent_same h2 (by omega) hne] at e1
    have := bent_ne (D := upB IN 4) hm hm0 ht
    rw [← e1, up_byte ht] at this
    exact this rfl
end

end
section
open PySem PySem.W PyProof.Rows PySem.Calls
set_option maxRecDepth 100000
theorem reset_JLaw0 : True := by
  w_top off
  trivial
-- nomac
section
variable {prog : Program} {w : World} {A : Around} {E : Value → Shared → Prop} {s : Shared} {g : Heap} {L : Addr} {m : Str → Option Value} {mu : List (Addr × Obj)} {env : Env}
theorem Act.adopt {g h : Heap} {a : Addr} {o : Obj} {h0 : Heap} {mu0 : List (Addr × Obj)} (X0 : Act g L h0 m mu0) (X : Act g L h m mu) (e : h.get? a = some o) (ha : h0.objs.size ≤ a) (hn : a ∉ mu.map (·.1)) : Act g L h m ((a, o) :: mu) := by
  have hL : a ≠ L := fun q => absurd X0.ltL (Nat.not_lt.mpr (q ▸ ha))
  have hg : g.get? a = none := by
    cases q : g.get? a with
    | none => rfl
    | some o' => exact absurd (Heap.lt_size (X0.keep _ _ q)) (Nat.not_lt.mpr ha)
  refine ⟨X.ns, X.keep, X.off, fun p hp => ?_, List.nodup_cons.mpr ⟨hn, X.nd⟩⟩
  rcases List.mem_cons.mp hp with rfl | hp
  · exact ⟨e, hL, hg⟩
  · exact X.mus p hp
theorem Act.above {h0 : Heap} {mu0 : List (Addr × Obj)} (X0 : Act g L h0 m mu0) {a : Addr} (ha : h0.objs.size ≤ a) : a ∉ mu0.map (·.1) := fun q => by
  obtain ⟨p, hp, rfl⟩ := List.mem_map.mp q
  exact absurd (Heap.lt_size (X0.mus p hp).1) (Nat.not_lt.mpr ha)
theorem j_feed {sc : Addr} {items : List Value} {ns : List Int} {Q : Value → Shared → Prop} (hW : Wd w g) (X : Act g L s.heap m mu) (hroom : A.depth < 500) (hh : A.handled = none) (hl : g.IsList sc items.toArray) (hI : IntsAre items ns) (hlen : items.length ≤ 63)
    (h : ∀ s' fa l o1 o2, Same s s' → FeedOf l o1 o2 → Act g L s'.heap m ((fa, o1) :: (l, o2) :: mu) → Q (.ref fa) s') : wpAny (model prog w) A (call (.ref 187) [.ref sc]) Q E s := by
  refine wpAny_call (feed_spec hW X.keep hroom hh hl hI hlen fun s' fa l seed t items' ns' n n' S K ha hl' hne h0 h1 hI' hlen' e1 e2 => ?_)
  refine h s' fa l _ _ S ⟨seed, t, n, items', ns', n', rfl, rfl, h0, h1, hI', hlen'⟩ ?_
  have Y := X.adopt (X.grow K) e2 hl' (X.above hl')
  refine X.adopt Y e1 ha ?_
  intro q
  rcases List.mem_cons.mp q with q | q
  · exact hne q
  · exact X.above ha q
theorem j_rows {fa l : Addr} {o1 o2 : Obj} {least size : Nat} {t1 t2 : Tok} {pre post : List (Addr × Obj)} {Q : Value → Shared → Prop} (hW : Wd w g) (X : Act g L s.heap m (pre ++ ((fa, o1) :: (l, o2) :: post))) (hF : FeedOf l o1 o2)
    (hroom : A.depth < 400) (hh : A.handled = none) (hleast : least ≤ 16) (hsize : size ≤ 9)
    (h : ∀ g' s' ra as rs o1' o2', Same s s' → Stays g g' → FeedOf l o1' o2' → Act g' L s'.heap m (pre ++ ((fa, o1') :: (l, o2') :: post)) → IsRows g' ra as rs → rs.length = least → (∀ r ∈ rs, r.length = size ∧ ∀ v ∈ r, v < 256) → Q (.ref ra) s') :
    wpAny (model prog w) A (call (.ref 208) [.ref fa, .int least t1, .int size t2]) Q E s := by
  have m1 := X.mus (fa, o1) (List.mem_append_right _ (.head _))
  have m2 := X.mus (l, o2) (List.mem_append_right _ (.tail _ (.head _)))
  have hne : fa ≠ l := by
    have := X.nd
    rw [List.map_append] at this
    have := (List.nodup_append.mp this).2.1
    exact fun e => (List.nodup_cons.mp this).1 (by rw [e]; exact .head _)
  refine wpAny_call (rows_spec (g := g) hW X.keep hroom hh hF hne ?_ hleast hsize ?_)
  · intro p hp
    rcases List.mem_cons.mp hp with rfl | hp
    · exact ⟨m1.1, m1.2.2⟩
    · rw [List.mem_singleton.mp hp]; exact ⟨m2.1, m2.2.2⟩
  · intro s' ra as rs o1' o2' S off F' e1 e2 hr hl hz
    have Y : Act g L s'.heap m (pre ++ ((fa, o1') :: (l, o2') :: post)) := by
      refine Act.after (mu := [(fa, o1), (l, o2)]) (mu' := [(fa, o1'), (l, o2')]) X off rfl ?_
      intro p hp
      rcases List.mem_cons.mp hp with rfl | hp
      · exact e1
      · rw [List.mem_singleton.mp hp]; exact e2
    obtain ⟨g', Z, k1, k2⟩ := X.settleD Y (by simp)
    exact h g' s' ra as rs o1' o2' S k1 F' Z (hr.keeps k2) hl hz
theorem j_at {ra : Addr} {p : Nat} {tp : Tok} {as : List Addr} {rs : List (List Nat)} {size : Nat} {x : Int} {Q : Value → Shared → Prop} (hW : Wd w g) (X : Act g L s.heap m mu) (ex : x = (p : Int)) (hroom : A.depth < 500) (hh : A.handled = none) (hp : p < 256)
    (hr : IsRows g ra as rs) (hne : 0 < rs.length) (hsz : ∀ r ∈ rs, r.length = size ∧ ∀ v ∈ r, v < 256) (hsize : size ≤ 9)
    (h : ∀ s' t, Same s s' → Act g L s'.heap m mu → Q (.bytes (colB rs p size) t) s') : wpAny (model prog w) A (call (.ref 201) [.ref ra, .int x tp]) Q E s := by
  subst ex
  exact wpAny_call (at_spec hW X.keep hroom hh hp hr hne (fun r q => (hsz r q).1) (fun r q => (hsz r q).2) hsize fun s' t S K => h s' t S (X.grow K))
theorem j_hash {v1 v2 v3 v4 : Value} {pre post : List (Addr × Obj)} {Q : Value → Shared → Prop} (hW : Wd w g) (X : Act g L s.heap m (pre ++ (210, tabObj #[]) :: post)) (hroom : A.depth < 400) (C : CodeHd g 214 210)
    (h : ∀ g' s' f ps', Same s s' → Stays g g' → Act g' L s'.heap m (pre ++ (210, tabObj ps') :: post) → TellFn w g' f v1 v2 v3 v4 → Q (.ref f) s') : wpAny (model prog w) A (call (.ref 215) [v1, v2, v3, v4]) Q E s := by
  have mq := X.mus (210, tabObj #[]) (List.mem_append_right _ (.head _))
  refine wpAny_call (hash_spec (g := g) hW X.keep hroom mq.1 mq.2.2 C fun s' f ps' S off e T => ?_)
  have Y : Act g L s'.heap m (pre ++ (210, tabObj ps') :: post) := by
    refine Act.after (mu := [(210, tabObj #[])]) (mu' := [(210, tabObj ps')]) X off rfl ?_
    intro p hp
    rw [List.mem_singleton.mp hp]
    exact e
  obtain ⟨g', Z, k1, k2⟩ := X.settleD Y (by simp)
  exact h g' s' f ps' S k1 Z (T.keeps k2)
/-- an item that is not known, of items that are alike -/
theorem item_some {value slice : Expr} {l : Addr} {items : List Value} {k : Int} {u : Tok} {P : Value → Prop} {Q : Value → Shared → Prop} (hl : s.heap.IsList l items.toArray)
    (h0 : 0 ≤ k) (h1 : k < items.length) (hz : items.length ≤ 1000) (hP : ∀ v ∈ items, P v) (h : ∀ v, P v → Q v s)
    (hs : subscripted slice false (.ref l) (.int k u) = operate [.ref l, .int k u] (getItem (.ref l) (.int k u))) :
    wpAny (model prog w) A (subscriptTail value slice (.ref l) (.int k u)) Q E s := by
  have hlt : k.toNat < items.length := by omega
  exact item_list hl h0 (by omega) (List.getElem?_eq_getElem hlt) (h _ (hP _ (List.getElem_mem hlt))) hs
end
theorem many_rng {least : Int} (h0 : 1 ≤ least) : 0 ≤ (60 : Int).fdiv (least * least) ∧ (60 : Int).fdiv (least * least) ≤ 60 := by
  have h1 : 1 ≤ least * least := by
    have := Int.mul_le_mul h0 h0 (by decide) (by omega)
    omega
  rw [Int.fdiv_eq_ediv_of_nonneg _ (by omega)]
  exact ⟨Int.ediv_nonneg (by decide) (by omega), Int.ediv_le_self _ (by decide)⟩

end
local macro_rules | `(tactic| walk_at "call ref") => `(tactic| ((with_reducible show wpAny _ _ (call (Value.ref 194) [Value.ref _, Value.int _ _]) _ _ _); k_dflt (refine' j_draw (pre := []) ?W ?X ?F ?r ?m ?m2 ?_; (case W => k_asm); (case X => k_asm); (case F => with_reducible assumption); (case r => omega); (case m => first | decide | omega); (case m2 => first | decide | omega)); intro s' r' tr' o1' o2' S' l0' l1' F' X'; dsimp only [List.nil_append] at X'))
local macro_rules | `(tactic| walk_at "call ref") => `(tactic| ((with_reducible show wpAny _ _ (call (Value.ref 208) [Value.ref _, Value.int _ _, Value.int _ _]) _ _ _); k_dflt (refine' j_rows (pre := []) ?W ?X ?F ?r ?hh ?m ?m2 ?_; (case W => k_asm); (case X => k_asm); (case F => with_reducible assumption); (case hh => with_reducible assumption); (case r => omega); (case m => first | decide | omega); (case m2 => first | decide | omega)); intro g' s' ra' as' rs' o1' o2' S' G' F' X' R' len' vals'; dsimp only [List.nil_append] at X'))
local macro_rules | `(tactic| walk_at "call ref") => `(tactic| ((with_reducible show wpAny _ _ (call (Value.ref 201) [Value.ref _, Value.int _ _]) _ _ _); k_dflt (refine' j_at ?W ?X ?ex ?r ?hh ?p ?R ?ne ?sz ?z ?_; (case W => with_reducible assumption); (case X => k_asm); (case ex => first | with_reducible assumption | exact rfl); (case hh => with_reducible assumption); (case r => omega); (case p => first | decide | omega); (case R => with_reducible assumption); (case ne => omega); (case sz => with_reducible assumption); (case z => omega)); intro s' t' S' X'))
section
open PySem PySem.W PyProof.Rows PySem.Calls
set_option maxRecDepth 100000



theorem reset_JL1 : True := by
  w_top off
  trivial
theorem Act.less {g h : Heap} {L : Addr} {m : Str → Option Value} {p : Addr × Obj} {mu : List (Addr × Obj)} (X : Act g L h m (p :: mu)) : Act g L h m mu := ⟨X.ns, X.keep, X.off, fun q hq => X.mus q (.tail _ hq), (List.nodup_cons.mp X.nd).2⟩
theorem j_min {prog : Program} {w : World} {A : Around} {E : Value → Shared → Prop} {s : Shared} {g : Heap} {L : Addr} {m : Str → Option Value} {mu : List (Addr × Obj)} {a b : Int} {t u : Tok} {Q : Value → Shared → Prop} (hh : A.handled = none) (X : Act g L s.heap m mu)
    (h : ∀ s' v tv, Same s s' → Act g L s'.heap m mu → v = (if b < a then b else a) → Q (.int v tv) s') : wpAny (model prog w) A (call (.builtin "min") [.int a t, .int b u]) Q E s :=
  min_two_ints hh fun h' tk hk => by
    by_cases c : b < a
    · rw [if_pos c]
      exact h _ _ _ ⟨rfl, rfl, rfl⟩ (X.grow hk) (by rw [if_pos c])
    · rw [if_neg c]
      exact h _ _ _ ⟨rfl, rfl, rfl⟩ (X.grow hk) (by rw [if_neg c])
set_option maxHeartbeats 2000000 in
theorem law_1 {prog : Program} {w : World} {A : Around} {Qf : Flow → Shared → Prop} {E : Value → Shared → Prop} {s : Shared} {g : Heap} {L : Addr} {m : Str → Option Value} {k1 k2 k3 k4 k5 k6 k7 k8 k9 ka kb : Obj} {tb : List (Addr × Obj)} {sc : Addr} {items : List Value} {ns : List Int}
    {name qual : Str} {params : Arguments} {body : List Stmt} {scope : Scope} {dV kV doc pm cdv ct oc : Value} {an od : Option Addr} {osl : Array (Option Value)}
    (hf : (JA.hd.heap_1 w.params).lookup 220 = some ⟨oc, od, .func (fnOf name qual params body scope dV kV doc pm an cdv ct), osl⟩)
    (hW : Wd w g) (X : Act g L s.heap m ((L + 1 + 1 + 1 + 1 + 1 + 1 + 1 + 1 + 1 + 1 + 1, kb) :: (L + 1 + 1 + 1 + 1 + 1 + 1 + 1 + 1 + 1 + 1, ka) :: (L + 1 + 1 + 1 + 1 + 1 + 1 + 1 + 1 + 1, k9) :: (L + 1 + 1 + 1 + 1 + 1 + 1 + 1 + 1, k8) :: (L + 1 + 1 + 1 + 1 + 1 + 1 + 1, k7) :: (L + 1 + 1 + 1 + 1 + 1 + 1, k6) :: (L + 1 + 1 + 1 + 1 + 1, k5) :: (L + 1 + 1 + 1 + 1, k4) :: (L + 1 + 1 + 1, k3) :: (L + 1 + 1, k2) :: (L + 1, k1) :: tb))
    (d1 : k1.data = .cell none) (d2 : k2.data = .cell none) (d3 : k3.data = .cell none) (da : ka.data = .cell none) (db : kb.data = .cell none)
    (hroom : A.depth < 320) (hh : A.handled = none) (hl : g.IsList sc items.toArray) (hI : IntsAre items ns) (hlen : items.length ≤ 63) (hm1 : m "script" = some (.ref sc))
    (hnext : ∀ s' m' fa l o1 o2 j1 jb (least many size : Nat) t1 t2 t3, Same s s' → FeedOf l o1 o2 → Act g L s'.heap m' ((fa, o1) :: (l, o2) :: (L + 1 + 1 + 1 + 1 + 1 + 1 + 1 + 1 + 1 + 1 + 1, jb) :: (L + 1 + 1 + 1 + 1 + 1 + 1 + 1 + 1 + 1 + 1, ka) :: (L + 1 + 1 + 1 + 1 + 1 + 1 + 1 + 1 + 1, k9) :: (L + 1 + 1 + 1 + 1 + 1 + 1 + 1 + 1, k8) :: (L + 1 + 1 + 1 + 1 + 1 + 1 + 1, k7) :: (L + 1 + 1 + 1 + 1 + 1 + 1, k6) :: (L + 1 + 1 + 1 + 1 + 1, k5) :: (L + 1 + 1 + 1 + 1, k4) :: (L + 1 + 1 + 1, k3) :: (L + 1 + 1, k2) :: (L + 1, j1) :: tb) →
      j1.data = .cell (some (.ref fa)) → jb.data = .cell (some (.int least t1)) → m' "many" = some (.int many t2) → m' "size" = some (.int size t3) → 1 ≤ least → least ≤ 12 → least ≤ many → many ≤ 16 → 4 ≤ size → size ≤ 9 → wpAny (model prog w) A (execs (body.drop 4) (envOfC qual scope L 220 cdv)) Qf E s') :
    wpAny (model prog w) A (execs body (envOfC qual scope L 220 cdv)) Qf E s := by
  w_on
  generalize hr : List.drop 4 body = rest at hnext
  refine lookup_both (by k_dflt k_is) hf fun hf => ?_
  injection hf with _ _ hf _
  injection hf with hf
  injection hf with e1 e2 e3 e4 e5 e6 e7 e8 e9 e10 e11 e12 e13 e14 e15
  clear e1 e3 e6 e7 e8 e9 e10 e11 e12 e14 e15
  injection e4 with e4
  subst e4 e2 e5 e13
  clear hf
  simp only [List.drop_succ_cons, List.drop_zero] at hr
  rw [hr]
  clear hr
  walk2
  refine j_feed hW X (by omega) hh hl hI hlen ?_
  intro s1 fa l o1 o2 S1 F1 X1
  walk2
  rename_i sF cF SF dF XF sG rG tG pG qG SG aG bG FG XG sH rH tH pH qH SH aH bH FH XH sI rI tI pI qI SI aI bI FI XI a1 s2 S2 X2 z1 a2 s3 S3 X3 z2
  refine' j_draw (pre := [_, _]) hW X3 ?Fa ?ra ?ma ?mb ?_
  case Fa => with_reducible assumption
  case ra => omega
  case ma => decide
  case mb => decide
  intro s4 r4 t4 o5 o6 S4 l4 l5 F4 X4
  dsimp only [List.cons_append, List.nil_append] at X4
  refine item_some (P := fun v => ∃ x t, v = .int x t ∧ 0 ≤ x ∧ x < 3) (X4.list (.head _)) l4 (by simpa using l5) (by simp) ?_ ?_ (by with_unfolding_all rfl)
  · intro v hv
    simp only [List.mem_cons, List.not_mem_nil, or_false] at hv
    rcases hv with rfl | rfl | rfl | rfl | rfl | rfl <;> exact ⟨_, _, rfl, by decide, by decide⟩
  rintro _ ⟨x5, t5, rfl, l6, l7⟩
  refine item_some (P := fun v => ∃ x t, v = .int x t ∧ 1 ≤ x ∧ x ≤ 12) (X4.list (.tail _ (.head _))) l6 (by simpa using l7) (by simp) ?_ ?_ (by with_unfolding_all rfl)
  · intro v hv
    simp only [List.mem_cons, List.not_mem_nil, or_false] at hv
    rcases hv with rfl | rfl | rfl <;> exact ⟨_, _, rfl, by omega, by omega⟩
  rintro _ ⟨x6, t6, rfl, l8, l9⟩
  replace X4 := X4.less.less
  obtain ⟨least, rfl⟩ : ∃ n : Nat, x6 = (n : Int) := ⟨x6.toNat, by omega⟩
  walk2
  rename_i s7 c7 S7 d7 X7
  have T7 : Same s s7 := (((((((((Same.refl s).go S1).go SF).go SG).go SH).go SI).go S2).go S3).go S4).go S7
  clear S1 SF SG SH SI S2 S3 S4 S7 X1 XF XG XH XI X2 X3 X4 X F1 FG FH FI
  have hsq : 1 ≤ (least : Int) * least ∧ (least : Int) * least ≤ 144 := by
    have h1 := Int.mul_le_mul l8 l8 (by decide) (by omega)
    have h2 := Int.mul_le_mul l9 l9 (by omega) (by decide)
    omega
  generalize (least : Int) * least = sq at hsq ⊢
  have hsq0 : ¬ (sq == 0) = true := by simp; omega
  have hsq1 := hsq.2
  have hq : 0 ≤ (60 : Int).fdiv sq ∧ (60 : Int).fdiv sq ≤ 60 := by
    rw [Int.fdiv_eq_ediv_of_nonneg _ (by omega)]
    exact ⟨Int.ediv_nonneg (by decide) (by omega), Int.ediv_le_self _ (by decide)⟩
  refine PySem.AutoIntOps.floordiv_1 hsq0 (by rw [PyProof.noPylong_small (by omega)]; decide) ?_
  generalize hQ : (60 : Int).fdiv sq = q at hq
  clear hQ
  dsimp only [Made.post]
  walk2
  rename_i s8 r8 t8 p1 p2 S8 l10 l11 F8 X8
  clear F4 X7
  refine j_min hh X8 ?_
  intro s9 v9 t9 S9 X9 e9
  obtain ⟨many, rfl⟩ : ∃ n : Nat, v9 = (n : Int) := ⟨v9.toNat, by split at e9 <;> omega⟩
  have hmany : (least : Int) ≤ many ∧ (many : Int) ≤ 16 := by split at e9 <;> omega
  clear e9
  walk2
  · rename_i s10 S10 X10 q sA rA tA p3 p4 SA l12 l13 FA XA sB SB XB
    obtain ⟨size, e⟩ : ∃ n : Nat, 4 + rA = (n : Int) := ⟨(4 + rA).toNat, by omega⟩
    rw [e] at XB
    exact hnext _ _ _ _ _ _ _ _ least many size _ _ _ ((((T7.go S8).go S9).go S10).go SA |>.go SB) FA XB dF d7 rfl rfl (by omega) (by omega) (by omega) (by omega) (by omega) (by omega)
  · rename_i s10 S10 X10 q sA rA tA p3 p4 SA l12 l13 FA XA sB SB XB
    obtain ⟨size, e⟩ : ∃ n : Nat, 4 + rA = (n : Int) := ⟨(4 + rA).toNat, by omega⟩
    rw [e] at XB
    exact hnext _ _ _ _ _ _ _ _ least many size _ _ _ ((((T7.go S8).go S9).go S10).go SA |>.go SB) FA XB dF d7 rfl rfl (by omega) (by omega) (by omega) (by omega) (by omega) (by omega)

end
section
open PySem PySem.W PyProof.Rows PySem.Calls
set_option maxRecDepth 100000




theorem reset_JL2 : True := by
  w_top off
  trivial
local macro_rules | `(tactic| walk_at "call ref") => `(tactic| ((with_reducible show wpAny _ _ (call (Value.ref 201) [Value.ref _, Value.int _ _]) _ _ _); k_dflt (refine' j_at ?W ?X ?ex ?r ?hh ?p ?R ?ne ?sz ?z ?_; (case W => with_reducible assumption); (case X => k_asm); (case ex => first | exact rfl | with_reducible assumption); (case hh => with_reducible assumption); (case r => omega); (case p => first | decide | omega); (case R => with_reducible assumption); (case ne => omega); (case sz => with_reducible assumption); (case z => omega)); intro s' t' S' X'))
/-- what the law's cells hold for good -/
structure LawG (g : Heap) (L fa ra : Addr) (as : List Addr) (rs : List (List Nat)) (least size : Nat) : Prop where
  cfeed : g.IsCell (L + 1) (some (.ref fa))
  crows : g.IsCell (L + 1 + 1) (some (.ref ra))
  csecret : ∃ t, g.IsCell (L + 1 + 1 + 1) (some (.bytes (colB rs 255 size) t))
  cinner : ∃ t, g.IsCell (L + 1 + 1 + 1 + 1 + 1 + 1 + 1 + 1 + 1 + 1) (some (.bytes (colB rs 254 size) t))
  cleast : ∃ t, g.IsCell (L + 1 + 1 + 1 + 1 + 1 + 1 + 1 + 1 + 1 + 1 + 1) (some (.int least t))
  isr : IsRows g ra as rs
  len : rs.length = least
  vals : ∀ r ∈ rs, r.length = size ∧ ∀ v ∈ r, v < 256
theorem LawG.keeps {g g' : Heap} {L fa ra : Addr} {as : List Addr} {rs : List (List Nat)} {least size : Nat} (x : LawG g L fa ra as rs least size) (k : Stays g g') : LawG g' L fa ra as rs least size :=
  ⟨x.cfeed.keeps k, x.crows.keeps k, let ⟨t, e⟩ := x.csecret; ⟨t, e.keeps k⟩, let ⟨t, e⟩ := x.cinner; ⟨t, e.keeps k⟩, let ⟨t, e⟩ := x.cleast; ⟨t, e.keeps k⟩, x.isr.keeps k, x.len, x.vals⟩
theorem perm_law {α : Type} (A B C D T : List α) : (A ++ (B ++ (C ++ (D ++ T)))).Perm ((A ++ (C ++ T)) ++ (B ++ D)) := by
  rw [List.append_assoc, List.append_assoc]
  refine List.Perm.append_left A ?_
  refine List.perm_append_comm.trans ?_
  rw [List.append_assoc, List.append_assoc]
  refine List.Perm.append_left C ?_
  refine (List.perm_append_comm).trans ?_
  rw [List.append_assoc]
set_option maxHeartbeats 2000000 in
theorem law_2 {prog : Program} {w : World} {A : Around} {Qf : Flow → Shared → Prop} {E : Value → Shared → Prop} {s : Shared} {g : Heap} {L fa l : Addr} {m : Str → Option Value} {o1 o2 k1 k2 k3 k4 k5 k6 k7 k8 k9 ka kb : Obj} {tb : List (Addr × Obj)} {least many size : Nat} {t1 t2 t3 : Tok}
    {name qual : Str} {params : Arguments} {body : List Stmt} {scope : Scope} {dV kV doc pm cdv ct oc : Value} {an od : Option Addr} {osl : Array (Option Value)}
    (hf : (JA.hd.heap_1 w.params).lookup 220 = some ⟨oc, od, .func (fnOf name qual params body scope dV kV doc pm an cdv ct), osl⟩)
    (hW : Wd w g) (F : FeedOf l o1 o2) (X : Act g L s.heap m ((fa, o1) :: (l, o2) :: (L + 1 + 1 + 1 + 1 + 1 + 1 + 1 + 1 + 1 + 1 + 1, kb) :: (L + 1 + 1 + 1 + 1 + 1 + 1 + 1 + 1 + 1 + 1, ka) :: (L + 1 + 1 + 1 + 1 + 1 + 1 + 1 + 1 + 1, k9) :: (L + 1 + 1 + 1 + 1 + 1 + 1 + 1 + 1, k8) :: (L + 1 + 1 + 1 + 1 + 1 + 1 + 1, k7) :: (L + 1 + 1 + 1 + 1 + 1 + 1, k6) :: (L + 1 + 1 + 1 + 1 + 1, k5) :: (L + 1 + 1 + 1 + 1, k4) :: (L + 1 + 1 + 1, k3) :: (L + 1 + 1, k2) :: (L + 1, k1) :: tb))
    (d1 : k1.data = .cell (some (.ref fa))) (d2 : k2.data = .cell none) (d3 : k3.data = .cell none) (da : ka.data = .cell none) (db : kb.data = .cell (some (.int least t1)))
    (hroom : A.depth < 320) (hh : A.handled = none) (hm1 : m "many" = some (.int many t2)) (hm2 : m "size" = some (.int size t3)) (hl1 : 1 ≤ least) (hl2 : least ≤ 12) (hz1 : 4 ≤ size) (hz2 : size ≤ 9)
    (hnext : ∀ g' s' o1' o2' ra as rs, Same s s' → Stays g g' → FeedOf l o1' o2' → Act g' L s'.heap m ((fa, o1') :: (l, o2') :: (L + 1 + 1 + 1 + 1 + 1 + 1 + 1 + 1 + 1, k9) :: (L + 1 + 1 + 1 + 1 + 1 + 1 + 1 + 1, k8) :: (L + 1 + 1 + 1 + 1 + 1 + 1 + 1, k7) :: (L + 1 + 1 + 1 + 1 + 1 + 1, k6) :: (L + 1 + 1 + 1 + 1 + 1, k5) :: (L + 1 + 1 + 1 + 1, k4) :: tb) →
      LawG g' L fa ra as rs least size → wpAny (model prog w) A (execs (body.drop 7) (envOfC qual scope L 220 cdv)) Qf E s') :
    wpAny (model prog w) A (execs (body.drop 4) (envOfC qual scope L 220 cdv)) Qf E s := by
  w_on
  generalize hr : List.drop 7 body = rest at hnext
  refine lookup_both (by k_dflt k_is) hf fun hf => ?_
  injection hf with _ _ hf _
  injection hf with hf
  injection hf with e1 e2 e3 e4 e5 e6 e7 e8 e9 e10 e11 e12 e13 e14 e15
  clear e1 e3 e6 e7 e8 e9 e10 e11 e12 e14 e15
  injection e4 with e4
  subst e4 e2 e5 e13
  clear hf
  simp only [List.drop_succ_cons, List.drop_zero] at hr
  simp only [List.drop_succ_cons, List.drop_zero]
  rw [hr]
  clear hr
  walk2
  rename_i g2 s1 ra as rs p1 p2 S1 G1 F1 X1 R1 hlen hvals s2 c2 S2 d2' X2
  have hW2 := hW.keeps G1
  have hne : 0 < rs.length := by omega
  clear X X1 F
  walk2
  rename_i s3 t4 S3 X3 s4 c4 S4 d4 X4 s5 t5 S5 X5 s6 c6 S6 d6 X6
  have T6 : Same s s6 := (((((((Same.refl s).go S1).go S2).go S3).go S4).go S5).go S6)
  obtain ⟨g3, X7, G3, K⟩ := X6.settle (mu₁ := (fa, p1) :: (l, p2) :: (L + 1 + 1 + 1 + 1 + 1 + 1 + 1 + 1 + 1, k9) :: (L + 1 + 1 + 1 + 1 + 1 + 1 + 1 + 1, k8) :: (L + 1 + 1 + 1 + 1 + 1 + 1 + 1, k7) :: (L + 1 + 1 + 1 + 1 + 1 + 1, k6) :: (L + 1 + 1 + 1 + 1 + 1, k5) :: (L + 1 + 1 + 1 + 1, k4) :: tb)
    (mu₂ := [(L + 1 + 1 + 1 + 1 + 1 + 1 + 1 + 1 + 1 + 1 + 1, kb), (L + 1 + 1 + 1 + 1 + 1 + 1 + 1 + 1 + 1 + 1, c6), (L + 1 + 1 + 1, c4), (L + 1 + 1, c2), (L + 1, k1)]) (perm_law [_, _] [_, _] [_, _, _, _, _, _] [_, _, _] tb)
  refine hnext g3 _ _ _ ra as rs T6 (fun b o e => G3 b o (G1 b o e)) F1 X7 ⟨?_, ?_, ?_, ?_, ?_, R1.keeps G3, hlen, hvals⟩
  · exact ⟨_, K (L + 1, k1) (by simp), d1⟩
  · exact ⟨_, K (L + 1 + 1, c2) (by simp), d2'⟩
  · exact ⟨_, _, K (L + 1 + 1 + 1, c4) (by simp), d4⟩
  · exact ⟨_, _, K (L + 1 + 1 + 1 + 1 + 1 + 1 + 1 + 1 + 1 + 1, c6) (by simp), d6⟩
  · exact ⟨_, _, K (L + 1 + 1 + 1 + 1 + 1 + 1 + 1 + 1 + 1 + 1 + 1, kb) (by simp), db⟩

end
section
open PySem PySem.W PyProof.Rows PySem.Calls
set_option maxRecDepth 100000




theorem reset_JL3 : True := by
  w_top off
  trivial
theorem col_one {rs : List (List Nat)} (h : rs.length = 1) (p q size : Nat) : colB rs p size = colB rs q size := by
  match rs, h with
  | [r], _ =>
    unfold colB colsN horner
    simp only [List.map_cons, List.map_nil, List.foldl_cons, List.foldl_nil, mul_zeroL]
noncomputable def DueB (rs : List (List Nat)) (size n : Nat) : List (Array UInt8) := (List.range n).map fun i => colB rs i size
/-- the drawn lists in mid making -/
noncomputable def DuesAt (g : Heap) (ts : List Addr) (rs : List (List Nat)) (size i : Nat) : Prop :=
  ts.length = i ∧ ∀ (j : Nat) t, ts[j]? = some t → ∃ ti tb n, g.get? t = some { cls := .type "tuple", data := .seq #[.int (j : Int) ti, .bytes (colB rs j size) tb] n }
theorem DuesAt.snoc {g g' : Heap} {ts : List Addr} {rs : List (List Nat)} {size i : Nat} (h : DuesAt g ts rs size i) (k : Stays g g') {a : Addr} {ti tb : Tok} {n : Nat} (e : g'.get? a = some { cls := .type "tuple", data := .seq #[.int (i : Int) ti, .bytes (colB rs i size) tb] n }) : DuesAt g' (ts ++ [a]) rs size (i + 1) := by
  refine ⟨by rw [List.length_append, h.1]; rfl, fun j t q => ?_⟩
  rcases Nat.lt_or_ge j ts.length with hj | hj
  · rw [List.getElem?_append_left hj] at q
    obtain ⟨a, b, n, e⟩ := h.2 j t q
    exact ⟨a, b, n, k _ _ e⟩
  · rw [List.getElem?_append_right hj] at q
    have hj0 : j - ts.length = 0 := by
      rcases Nat.eq_zero_or_pos (j - ts.length) with z | z
      · exact z
      · rw [List.getElem?_eq_none (by simp; omega)] at q; cases q
    rw [hj0] at q
    cases q
    have : j = i := by have := h.1; omega
    subst this
    exact ⟨ti, tb, n, e⟩
theorem DuesAt.pairs {g g' : Heap} {ts : List Addr} {rs : List (List Nat)} {size n : Nat} {D : Addr} (h : DuesAt g ts rs size n) (k : Stays g g') (e : g'.get? D = some (lst (ts.map Value.ref) n)) : PairsAt g' D (DueB rs size n) := by
  refine ⟨ts, ⟨_, e, rfl, n, rfl⟩, by simp [DueB, h.1], fun i t D q1 q2 => ?_⟩
  obtain ⟨a, b, m, e⟩ := h.2 i t q1
  have hi : i < n := by
    rcases Nat.lt_or_ge i ts.length with x | x
    · rw [h.1] at x; exact x
    · rw [List.getElem?_eq_none x] at q1; cases q1
  unfold DueB at q2
  rw [List.getElem?_map, List.getElem?_range hi] at q2
  cases q2
  exact ⟨a, b, m, k _ _ e⟩
set_option maxHeartbeats 2000000 in
theorem law_3 {prog : Program} {w : World} {A : Around} {Qf : Flow → Shared → Prop} {E : Value → Shared → Prop} {s : Shared} {g : Heap} {L fa l ra : Addr} {as : List Addr} {rs : List (List Nat)} {m : Str → Option Value} {o1 o2 k4 k5 k6 k7 k8 k9 : Obj} {tb : List (Addr × Obj)} {least many size : Nat} {t2 t3 : Tok}
    {name qual : Str} {params : Arguments} {body : List Stmt} {scope : Scope} {dV kV doc pm cdv ct oc : Value} {an od : Option Addr} {osl : Array (Option Value)}
    (hf : (JA.hd.heap_1 w.params).lookup 220 = some ⟨oc, od, .func (fnOf name qual params body scope dV kV doc pm an cdv ct), osl⟩)
    (hW : Wd w g) (X : Act g L s.heap m ((fa, o1) :: (l, o2) :: (L + 1 + 1 + 1 + 1 + 1 + 1 + 1 + 1 + 1, k9) :: (L + 1 + 1 + 1 + 1 + 1 + 1 + 1 + 1, k8) :: (L + 1 + 1 + 1 + 1 + 1 + 1 + 1, k7) :: (L + 1 + 1 + 1 + 1 + 1 + 1, k6) :: (L + 1 + 1 + 1 + 1 + 1, k5) :: (L + 1 + 1 + 1 + 1, k4) :: tb)) (G : LawG g L fa ra as rs least size)
    (hroom : A.depth < 320) (hh : A.handled = none) (hm1 : m "many" = some (.int many t2)) (hl1 : 1 ≤ least) (hmx : many ≤ 16) (hz2 : size ≤ 9) (d8 : k8.data = .cell none) (d9 : k9.data = .cell none)
    (hnext : ∀ g' s' qa da nq, Same s s' → Stays g g' → Act g' L s'.heap m ((fa, o1) :: (l, o2) :: (qa, lst [] nq) :: (L + 1 + 1 + 1 + 1 + 1 + 1 + 1, k7) :: (L + 1 + 1 + 1 + 1 + 1 + 1, k6) :: (L + 1 + 1 + 1 + 1 + 1, k5) :: (L + 1 + 1 + 1 + 1, k4) :: tb) →
      g'.IsCell (L + 1 + 1 + 1 + 1 + 1 + 1 + 1 + 1) (some (.ref qa)) → g'.IsCell (L + 1 + 1 + 1 + 1 + 1 + 1 + 1 + 1 + 1) (some (.ref da)) → PairsAt g' da (DueB rs size many) → wpAny (model prog w) A (execs (body.drop 9) (envOfC qual scope L 220 cdv)) Qf E s') :
    wpAny (model prog w) A (execs (body.drop 7) (envOfC qual scope L 220 cdv)) Qf E s := by
  w_on
  generalize hr : List.drop 9 body = rest at hnext
  refine lookup_both (by k_dflt k_is) hf fun hf => ?_
  injection hf with _ _ hf _
  injection hf with hf
  injection hf with e1 e2 e3 e4 e5 e6 e7 e8 e9 e10 e11 e12 e13 e14 e15
  clear e1 e3 e6 e7 e8 e9 e10 e11 e12 e14 e15
  injection e4 with e4
  subst e4 e2 e5 e13
  clear hf
  simp only [List.drop_succ_cons, List.drop_zero] at hr
  simp only [List.drop_succ_cons, List.drop_zero]
  rw [hr]
  clear hr
  obtain ⟨cfeed, crows, ⟨ts, csec⟩, ⟨ti, cinn⟩, ⟨tl, clea⟩, hrs, hlen, hvals⟩ := G
  have hne : 0 < rs.length := by omega
  have eb : (many : Int) = 0 + (many : Nat) := by omega
  have hm3 : (many : Int) ≤ 1000 := by omega
  walk2
  refine' comp_evalG ?hh X (Src.rng (a := 0) (n := many) eb (by decide) hm3 ?hit) (by omega) rfl ?hcell rfl ?hnames rfl
    (fun i ys g' s' mu => Same s s' ∧ mu = (fa, o1) :: (l, o2) :: (L + 1 + 1 + 1 + 1 + 1 + 1 + 1 + 1 + 1, k9) :: (L + 1 + 1 + 1 + 1 + 1 + 1 + 1 + 1, k8) :: (L + 1 + 1 + 1 + 1 + 1 + 1 + 1, k7) :: (L + 1 + 1 + 1 + 1 + 1 + 1, k6) :: (L + 1 + 1 + 1 + 1 + 1, k5) :: (L + 1 + 1 + 1 + 1, k4) :: tb ∧ ∃ ts : List Addr, ys = ts.map Value.ref ∧ DuesAt g' ts rs size i) ?hJ ?hJ0 ?turn ?done
  case hh => exact hh
  case hcell => decide
  case hnames => decide
  case hit =>
    intro Q' hQ
    walk2
    exact hQ _ _ ((Same.refl _).go (by assumption)) (by assumption) (by assumption)
  case hJ => rintro i ys g' s s' mu ⟨a, b⟩ S; exact ⟨a.trans S, b⟩
  case hJ0 => exact ⟨Same.refl s, rfl, [], rfl, rfl, fun j t q => by cases q⟩
  case turn =>
    rintro g1 i ys s1 C Dl I oL oI mc mu E' v hi ⟨t, rfl⟩ hv kg ⟨S1, rfl, ts1, rfl, hts⟩ nL X1
    have hW1 := hW.keeps kg
    replace clea := clea.keeps kg
    replace csec := csec.keeps kg
    replace crows := crows.keeps kg
    replace hrs := hrs.keeps kg
    have hxi : (0 : Int) + ((i : Nat) : Int) = ((i : Nat) : Int) := Int.zero_add _
    have hi2 : i < 256 := by omega
    walk2
    · rename_i q a s2 S2 X2 z2
      rw [hxi, col_one (p := 255) (q := i) (by omega)] at X2
      obtain ⟨g2, Z, kz, K⟩ := X2.settle (mu₂ := [_]) (List.perm_append_comm (l₁ := [_]))
      exact EltEndG.mk g2 _ kz Z ⟨S1.go S2, rfl, ts1 ++ [a], by simp, hts.snoc kz (K _ (List.mem_singleton.mpr rfl))⟩
    · rename_i q sA tA SA XA a s2 S2 X2 z2
      rw [hxi] at X2
      obtain ⟨g2, Z, kz, K⟩ := X2.settle (mu₂ := [_]) (List.perm_append_comm (l₁ := [_]))
      exact EltEndG.mk g2 _ kz Z ⟨(S1.go SA).go S2, rfl, ts1 ++ [a], by simp, hts.snoc kz (K _ (List.mem_singleton.mpr rfl))⟩
  case done =>
    rintro g1 s1 Dl ys mu hl kg ⟨S1, rfl, ts1, rfl, hts⟩ X1
    walk2
    rename_i sA oA SA dA XA qa sB SB XB zB sC oC SC dC XC
    have TC : Same s sC := ((S1.go SA).go SB).go SC
    have YC := XC.perm ((List.perm_append_comm (l₁ := [_, _]) (l₂ := [_, _])).append_right _)
    obtain ⟨g2, Z, kz, K⟩ := YC.settle (perm_law [_, _, _] [_] [] [_, _] _)
    have hl2 : (ts1.map Value.ref).length = many := hl
    refine hnext g2 sC qa Dl 0 TC (fun b o e => kz b o (kg b o e)) Z ⟨_, K (L + 1 + 1 + 1 + 1 + 1 + 1 + 1 + 1, oC) (by simp), dC⟩ ⟨_, K (L + 1 + 1 + 1 + 1 + 1 + 1 + 1 + 1 + 1, oA) (by simp), dA⟩ (hts.pairs kz ?_)
    have := K (Dl, lst (ts1.map Value.ref) (ts1.map Value.ref).length) (by simp)
    rw [hl2] at this
    exact this

end
section
open PySem PySem.W PyProof.Rows PySem.Calls
set_option maxRecDepth 100000




theorem reset_JL4 : True := by
  w_top off
  trivial
set_option maxHeartbeats 2000000 in
theorem law_4 {prog : Program} {w : World} {A : Around} {Qf : Flow → Shared → Prop} {E : Value → Shared → Prop} {s : Shared} {g : Heap} {L fa l ra qa da : Addr} {as : List Addr} {rs : List (List Nat)} {m : Str → Option Value} {o1 o2 k4 k5 k6 k7 : Obj} {nq : Nat} {ps : Array Value} {least many size : Nat} {t2 t3 : Tok}
    {name qual : Str} {params : Arguments} {body : List Stmt} {scope : Scope} {dV kV doc pm cdv ct oc : Value} {an od : Option Addr} {osl : Array (Option Value)}
    (hf : (JA.hd.heap_1 w.params).lookup 220 = some ⟨oc, od, .func (fnOf name qual params body scope dV kV doc pm an cdv ct), osl⟩)
    (hW : Wd w g) (F : FeedOf l o1 o2) (X : Act g L s.heap m ((fa, o1) :: (l, o2) :: (qa, lst [] nq) :: (L + 1 + 1 + 1 + 1 + 1 + 1 + 1, k7) :: (L + 1 + 1 + 1 + 1 + 1 + 1, k6) :: (L + 1 + 1 + 1 + 1 + 1, k5) :: (L + 1 + 1 + 1 + 1, k4) :: (156, tabObj ps) :: (210, tabObj #[]) :: (217, tabObj #[]) :: [])) (G : LawG g L fa ra as rs least size)
    (C : CodeHd g 219 217) (c8 : g.IsCell (L + 1 + 1 + 1 + 1 + 1 + 1 + 1 + 1) (some (.ref qa))) (c9 : g.IsCell (L + 1 + 1 + 1 + 1 + 1 + 1 + 1 + 1 + 1) (some (.ref da))) (d4 : k4.data = .cell none) (d5 : k5.data = .cell none)
    (hroom : A.depth < 320) (hh : A.handled = none) (hm1 : m "many" = some (.int many t2)) (hm2 : m "size" = some (.int size t3)) (hz1 : 4 ≤ size) (hz2 : size ≤ 9)
    (hnext : ∀ g' s' m' o1' o2' fd octet more tu (to tm tt ti tl : Tok), Same s s' → Stays g g' → FeedOf l o1' o2' → Act g' L s'.heap m' ((fa, o1') :: (l, o2') :: (qa, lst [] nq) :: (L + 1 + 1 + 1 + 1 + 1 + 1 + 1, k7) :: (L + 1 + 1 + 1 + 1 + 1 + 1, k6) :: (156, tabObj ps) :: (210, tabObj #[]) :: []) →
      AskFn w g' fd (.ref qa) (.ref da) (.bytes (colB rs 254 size) ti) (.int least tl) → g'.IsCell (L + 1 + 1 + 1 + 1 + 1) (some (.int ((more : Nat) : Int) tm)) → g'.IsCell (L + 1 + 1 + 1 + 1) (some (.int ((octet : Nat) : Int) to)) → m' "many" = some (.int many t2) → m' "size" = some (.int size t3) → m' "draw" = some (.ref fd) → m' "turned" = some (.int ((tu : Nat) : Int) tt) →
      octet < size → more < 256 → more ≠ 0 → tu < 4 → tu ≠ octet → (∃ p, g'.get? 217 = some (tabObj p)) → wpAny (model prog w) A (execs (body.drop 12) (envOfC qual scope L 220 cdv)) Qf E s') :
    wpAny (model prog w) A (execs (body.drop 9) (envOfC qual scope L 220 cdv)) Qf E s := by
  w_on
  generalize hr : List.drop 12 body = rest at hnext
  obtain ⟨ev, hev⟩ : ∃ ev, ev = envOfC qual scope L 220 cdv := ⟨_, rfl⟩
  rw [← hev] at hnext
  refine lookup_both (by k_dflt k_is) hf fun hf => ?_
  injection hf with _ _ hf _
  injection hf with hf
  injection hf with e1 e2 e3 e4 e5 e6 e7 e8 e9 e10 e11 e12 e13 e14 e15
  clear e1 e3 e6 e7 e8 e9 e10 e11 e12 e14 e15
  injection e4 with e4
  subst e4 e2 e5 e13
  clear hf
  simp only [List.drop_succ_cons, List.drop_zero] at hr
  simp only [List.drop_succ_cons, List.drop_zero]
  rw [hr]
  clear hr
  obtain ⟨cfeed, crows, ⟨ts, csec⟩, ⟨ti, cinn⟩, ⟨tl, clea⟩, hrs, hlen, hvals⟩ := G
  walk2
  k_dflt (refine' nestDef_K ?d0 ?k0 ?a0 ?_; (case d0 => exact rfl); (case k0 => exact rfl); (case a0 => exact rfl))
  refine' j_def (pre := [_, _, _, _, _, _, _, _, _]) (post := []) hW X C rfl rfl rfl ?_
  intro g1 fd s1 c' doc pm ctv ps' S1 k1 ok1 X1 hf1 hr1 hz3 hz4
  have hW1 := hW.keeps k1
  have cfeed1 := cfeed.keeps k1
  dsimp only [List.cons_append, List.nil_append] at X1
  clear X
  walk2
  rename_i s2 S2 X2 s3 rO tO p1 q1 S3 lO hO F3 X3 s4 rM tM p2 q2 S4 lM hM F4 X4 a5 s5 S5 X5 z5
  refine wpAny_assign_Tuple hh ⟨_, X5.get (.head _), rfl, _, rfl⟩ rfl rfl ?_
  intro h6 e6
  have X6 := (X5.grow (h' := h6) fun b o e => e6 b o (Nat.ne_of_lt (Heap.lt_size e)) e).less
  have T5 : Same s s5 := (((((Same.refl s).go S1).go S2).go S3).go S4).go S5
  clear S1 S2 S3 S4 S5 X1 X2 X3 X4 X5 F3 e6
  refine assignInOrder_cons ?_
  obtain ⟨octet, rfl⟩ : ∃ n : Nat, rO = (n : Int) := ⟨rO.toNat, by omega⟩
  obtain ⟨more, em⟩ : ∃ n : Nat, 1 + rM = (n : Int) := ⟨(1 + rM).toNat, by omega⟩
  rw [em]
  have fin : ∀ s' m' p q c4 c5 (tu : Nat) tt to tm, Same s s' → FeedOf l p q → Act g1 L s'.heap m' ((fa, p) :: (l, q) :: (qa, lst [] nq) :: (L + 1 + 1 + 1 + 1 + 1 + 1 + 1, k7) :: (L + 1 + 1 + 1 + 1 + 1 + 1, k6) :: (L + 1 + 1 + 1 + 1 + 1, c5) :: (L + 1 + 1 + 1 + 1, c4) :: (156, tabObj ps) :: (210, tabObj #[]) :: (217, tabObj ps') :: []) →
      c4.data = .cell (some (.int octet to)) → c5.data = .cell (some (.int more tm)) → m' "many" = some (.int many t2) → m' "size" = some (.int size t3) → m' "draw" = some (.ref fd) → m' "turned" = some (.int ((tu : Nat) : Int) tt) → tu < 4 → tu ≠ octet →
      wpAny (model prog w) A (execs rest ev) Qf E s' := by
    intro s' m' p q c4 c5 tu tt to tm S F X h4 h5 q1 q2 q3 q4 q5 q6
    obtain ⟨g2, Z, kz, K⟩ := X.settle (perm_law [_, _, _, _, _] [_, _] [_, _] [_] [])
    refine hnext g2 s' m' p q fd octet more tu to tm tt ti tl S (fun b o e => kz b o (k1 b o e)) F Z ?_ ⟨_, K (L + 1 + 1 + 1 + 1 + 1, c5) (by simp), h5⟩ ⟨_, K (L + 1 + 1 + 1 + 1, c4) (by simp), h4⟩ q1 q2 q3 q4 (by omega) (by omega) (by omega) q5 q6 ⟨_, K (217, tabObj ps') (by simp)⟩
    exact askFn_of (kz _ _ hf1) (hr1.keeps kz) ((c8.keeps k1).keeps kz) ((c9.keeps k1).keeps kz) ((cinn.keeps k1).keeps kz) ((clea.keeps k1).keeps kz) (by k_dflt k_is) rfl
  clear hnext
  subst hev
  walk2
  · rename_i sA oA SA dA XA sB oB SB dB XB cq sC rC tC pC qC SC lC hC FC XC sD SD XD
    have e7 : (octet : Int) + 1 + rC < 8 := by omega
    have e8 : ((octet : Int) + 1 + rC).fmod 4 = ((octet : Int) + 1 + rC) % 4 := Int.fmod_eq_emod_of_nonneg _ (by decide)
    obtain ⟨tu, e9⟩ : ∃ n : Nat, ((octet : Int) + 1 + rC).fmod 4 = (n : Int) := ⟨(((octet : Int) + 1 + rC).fmod 4).toNat, by omega⟩
    rw [e9] at XD
    exact fin _ _ _ _ _ _ tu _ _ _ ((((T5.go SA).go SB).go SC).go SD) FC XD dA dB hm1 hm2 rfl rfl (by omega) (by omega)
  · rename_i sA oA SA dA XA sB oB SB dB XB cq sC rC tC pC qC SC lC hC FC XC sD SD XD
    obtain ⟨tu, rfl⟩ : ∃ n : Nat, rC = (n : Int) := ⟨rC.toNat, by omega⟩
    exact fin _ _ _ _ _ _ tu _ _ _ ((((T5.go SA).go SB).go SC).go SD) FC XD dA dB hm1 hm2 rfl rfl (by omega) (by omega)

end
section
open PySem PySem.W PyProof.Rows PySem.Calls
set_option maxRecDepth 100000




theorem reset_JL5 : True := by
  w_top off
  trivial
theorem due_getD {rs : List (List Nat)} {size n i : Nat} (h : i < n) : (DueB rs size n).getD i #[] = colB rs i size := by
  unfold DueB
  rw [List.getD_eq_getElem?_getD, List.getElem?_map, List.getElem?_range h]
  rfl
theorem perm_b {α : Type} (A B C D : List α) : (A ++ (B ++ (C ++ D))).Perm (D ++ (A ++ (C ++ B))) := by
  have h1 : (B ++ (C ++ D)).Perm ((C ++ B) ++ D) := by
    rw [← List.append_assoc]
    exact List.Perm.append_right D List.perm_append_comm
  refine (List.Perm.append_left A h1).trans ?_
  rw [← List.append_assoc]
  exact List.perm_append_comm
theorem split_good {rs : List (List Nat)} {size many least : Nat} {sh : List Sh} (hv : ∀ r ∈ rs, r.length = size ∧ ∀ v ∈ r, v < 256) (hl : rs.length = least) (h2 : 2 ≤ least) (h3 : least ≤ many) (h4 : many ≤ 16)
    (e : sh.map (fun c => (c.x, c.b)) = (List.range (least - 2)).map (fun i : Nat => ((i : Int), (DueB rs size many).getD i #[])) ++ [((254 : Int), (colB rs 254 size)), ((255 : Int), (colB rs 255 size))]) :
    ∀ i : Nat, i < many → ∀ r, InterpR sh i size r → r = (DueB rs size many).getD i #[] := by
  intro i hi r I
  rw [due_getD hi]
  have hlen : sh.length = least := by
    have := congrArg List.length e
    simp at this
    omega
  have hx : sh.map (·.x) = (List.range (least - 2)).map (fun i : Nat => (i : Int)) ++ [254, 255] := by
    have := congrArg (List.map Prod.fst) e
    simpa [List.map_map, Function.comp_def] using this
  refine interp_good (fun c hc => ?_) (fun r hr => (hv r hr).2) ?_ (hlen.trans hl.symm) (by omega) I
  · have hm : (c.x, c.b) ∈ sh.map (fun c => (c.x, c.b)) := List.mem_map.mpr ⟨c, hc, rfl⟩
    rw [e] at hm
    rcases List.mem_append.mp hm with hm | hm
    · obtain ⟨j, hj, q⟩ := List.mem_map.mp hm
      have hj2 := List.mem_range.mp hj
      rw [due_getD (by omega)] at q
      injection q with q1 q2
      exact ⟨j, by omega, q1.symm, q2.symm⟩
    · simp only [List.mem_cons, List.not_mem_nil, or_false] at hm
      rcases hm with hm | hm
      · injection hm with q1 q2
        exact ⟨254, by decide, q1, q2⟩
      · injection hm with q1 q2
        exact ⟨255, by decide, q1, q2⟩
  · rw [hx]
    refine List.nodup_append.mpr ⟨?_, by decide, ?_⟩
    · exact List.Pairwise.map _ (fun a b (h : a ≠ b) q => h (Int.ofNat.inj q)) List.nodup_range
    · intro a ha b hb q
      obtain ⟨j, hj, rfl⟩ := List.mem_map.mp ha
      have := List.mem_range.mp hj
      simp only [List.mem_cons, List.not_mem_nil, or_false] at hb
      omega
set_option maxHeartbeats 2000000 in
theorem law_5 {prog : Program} {w : World} {A : Around} {Qf : Flow → Shared → Prop} {E : Value → Shared → Prop} {s : Shared} {g : Heap} {L fa l ra qa da fd : Addr} {as : List Addr} {rs : List (List Nat)} {m : Str → Option Value} {o1 o2 k6 k7 : Obj} {nq : Nat} {ps : Array Value} {least many size octet more tu : Nat} {to tm tt ti tl t2 t3 : Tok}
    {name qual : Str} {params : Arguments} {body : List Stmt} {scope : Scope} {dV kV doc pm cdv ct oc : Value} {an od : Option Addr} {osl : Array (Option Value)}
    (hf : (JA.hd.heap_1 w.params).lookup 220 = some ⟨oc, od, .func (fnOf name qual params body scope dV kV doc pm an cdv ct), osl⟩)
    (hW : Wd w g) (X : Act g L s.heap m ((fa, o1) :: (l, o2) :: (qa, lst [] nq) :: (L + 1 + 1 + 1 + 1 + 1 + 1 + 1, k7) :: (L + 1 + 1 + 1 + 1 + 1 + 1, k6) :: (156, tabObj ps) :: (210, tabObj #[]) :: [])) (G : LawG g L fa ra as rs least size)
    (C : CodeHd g 214 210) (C160 : CodeOf g 160 156) (ok : TriplesOk ps.toList) (hPA : PairsAt g da (DueB rs size many)) (hA : AskFn w g fd (.ref qa) (.ref da) (.bytes (colB rs 254 size) ti) (.int least tl)) (c5 : g.IsCell (L + 1 + 1 + 1 + 1 + 1) (some (.int ((more : Nat) : Int) tm)))
    (hroom : A.depth < 320) (hu : A.units < 7000) (hh : A.handled = none) (hm1 : m "many" = some (.int many t2)) (hm2 : m "size" = some (.int size t3)) (hm3 : m "draw" = some (.ref fd)) (hm4 : m "turned" = some (.int ((tu : Nat) : Int) tt)) (hl1 : 1 ≤ least) (hl3 : least ≤ many) (hl4 : many ≤ 16) (hz1 : 4 ≤ size) (hz2 : size ≤ 9) (hmo : more < 256)
    (hnext : ∀ g' s' m' sa sh ft qs nq' ps', JA.Fin s s' → Stays g g' → Act g' L s'.heap m' ((fa, o1) :: (l, o2) :: (qa, lst qs nq') :: (156, tabObj ps') :: (L + 1 + 1 + 1 + 1 + 1 + 1 + 1, k7) :: (L + 1 + 1 + 1 + 1 + 1 + 1, k6) :: []) → TriplesOk ps'.toList →
      SealAt w g' ft (upB (colB rs 254 size) 4) (dropB (colB rs 254 size) 4) (colB rs 255 size) tu more → SharesAt g' sa sh → sh.map (fun c => (c.x, c.b)) = (List.range many).map (fun i : Nat => ((i : Int), colB rs i size)) → IntsAre qs (if least = 1 then [] else List.replicate (least - 2) (size : Int) ++ [(size : Int) - 4]) →
      m' "shares" = some (.ref sa) → m' "seal" = some (.ref ft) → m' "size" = some (.int size t3) → (∃ p, g'.get? 210 = some (tabObj p)) → wpAny (model prog w) A (execs (body.drop 14) (envOfC qual scope L 220 cdv)) Qf E s') :
    wpAny (model prog w) A (execs (body.drop 12) (envOfC qual scope L 220 cdv)) Qf E s := by
  w_on
  generalize hr : List.drop 14 body = rest at hnext
  obtain ⟨ev, hev⟩ : ∃ ev, ev = envOfC qual scope L 220 cdv := ⟨_, rfl⟩
  rw [← hev] at hnext
  refine lookup_both (by k_dflt k_is) hf fun hf => ?_
  injection hf with _ _ hf _
  injection hf with hf
  injection hf with e1 e2 e3 e4 e5 e6 e7 e8 e9 e10 e11 e12 e13 e14 e15
  clear e1 e3 e6 e7 e8 e9 e10 e11 e12 e14 e15
  injection e4 with e4
  subst e4 e2 e5 e13
  clear hf
  simp only [List.drop_succ_cons, List.drop_zero] at hr
  simp only [List.drop_succ_cons, List.drop_zero]
  rw [hr]
  clear hr
  obtain ⟨cfeed, crows, ⟨ts, csec⟩, ⟨ti', cinn⟩, ⟨tl', clea⟩, hrs, hlen, hvals⟩ := G
  subst hev
  have hINz : (colB rs 254 size).size = size := colB_size rs 254 size
  have hSECz : (colB rs 255 size).size = size := colB_size rs 255 size
  have hIz : (colB rs 254 size).size ≤ 1000 := by omega
  walk2
  rename_i s1 t5 S1 X1 s2 t6 S2 X2 op s3 S3 X3 z3
  rw [picked_drop] at X3
  rw [picked_up]
  have T3 : Same s s3 := (((Same.refl s).go S1).go S2).go S3
  obtain ⟨g1, X4, k1, K1⟩ := X3.settle (mu₂ := [_]) (List.perm_append_comm (l₁ := [_]))
  have hop := K1 _ (List.mem_singleton.mpr rfl)
  clear S1 S2 S3 X1 X2 X3 X K1
  refine' j_hash (pre := [_, _, _, _, _, _]) (post := []) (hW.keeps k1) X4 ?rH (C.keeps k1) ?_
  case rH => omega
  intro ga s4 ft ps4 S4 ka X5 hT
  dsimp only [List.cons_append, List.nil_append] at X5
  obtain ⟨g2, X6, kb, K6⟩ := X5.settle ((perm_b [_, _, _] [_, _] [_] [_]).trans List.perm_append_comm)
  dsimp only [List.cons_append, List.nil_append] at X6
  have k2 : Stays g1 g2 := fun b o e => kb b o (ka b o e)
  replace hT := hT.keeps kb
  have h210 : ∃ p, g2.get? 210 = some (tabObj p) := ⟨_, K6 (210, tabObj ps4) (List.mem_singleton.mpr rfl)⟩
  have kk : Stays g g2 := fun b o e => k2 b o (k1 b o e)
  have hW2 := hW.keeps kk
  have hSeal : SealAt w g2 ft (upB (colB rs 254 size) 4) (dropB (colB rs 254 size) 4) (colB rs 255 size) tu more := ⟨by rw [up_size]; omega, hmo, op, _, _, _, _, _, _, hT, k2 _ _ hop⟩
  have hA2 := hA.keeps kk
  have hPA2 := hPA.keeps kk
  have C2 : CodeOf g2 160 156 := C160.keeps kk
  replace clea := clea.keeps kk
  replace csec := csec.keeps kk
  clear X4 X5
  walk2
  rename_i s6 S6 X7
  have T6 : Same s s6 := (T3.go S4).go S6
  by_cases hone : least = 1
  · subst hone
    refine wpAny_call (split_one hW2 X7.keep hroom hh hl3 hl4 ?_)
    intro s7 sa sh S7 K7 hsa hmap
    obtain ⟨g3, X8, k3, k4⟩ := X7.settleN (X7.grow K7) rfl
    walk2
    rename_i s8 S8 X9
    refine hnext g3 s8 _ sa sh ft [] nq ps (JA.Same.fin ((T6.go S7).go S8)) (fun b o e => k3 b o (kk b o e)) X9 ok (hSeal.keeps k3) (hsa.keeps k4) ?_ .nil rfl rfl hm2 (h210.imp fun _ e => k3 _ _ e)
    · rw [hmap]
      refine List.map_congr_left fun i _ => ?_
      rw [col_one (p := 255) (q := i) (by omega)]
  · have X8 := X7.perm (mu' := (fa, o1) :: (l, o2) :: (156, tabObj ps) :: (qa, lst [] nq) :: (L + 1 + 1 + 1 + 1 + 1 + 1 + 1, k7) :: (L + 1 + 1 + 1 + 1 + 1 + 1, k6) :: []) (.cons _ (.cons _ (.swap _ _ _)))
    have m156 := X8.mus (156, tabObj ps) (by simp)
    have mqa := X8.mus (qa, lst [] nq) (by simp)
    have hne : (156 : Addr) ≠ qa := by
      have := X8.nd
      simp only [List.map_cons, List.nodup_cons] at this
      exact fun q => this.2.2.1 (by rw [q]; exact .head _)
    refine wpAny_call (split_more (nq := nq) hW2 X7.keep hroom hu hh (by omega) hl3 hl4 hA2 hPA2 (by simp [DueB]) ?_ hz1 hz2 hSECz hINz hSeal m156.1 m156.2.2 ok C2 mqa.1 mqa.2.2 hne (fun sh => split_good hvals hlen (by omega) hl3 hl4) ?_)
    · intro D hD
      obtain ⟨i, _, rfl⟩ := List.mem_map.mp hD
      exact colB_size rs i size
    intro s7 sa sh ps7 nq7 qs S7 off h156 ok7 hqa hqs hsa hmap
    have Y := Act.after (pre := [_, _]) (mu := [(156, tabObj ps), (qa, lst [] nq)]) (mu' := [(156, tabObj ps7), (qa, lst qs nq7)]) (post := [_, _]) X8 off rfl (by
      intro p hp
      simp only [List.mem_cons, List.not_mem_nil, or_false] at hp
      rcases hp with rfl | rfl
      · exact h156
      · exact hqa)
    obtain ⟨g3, X9, k3, k4⟩ := X8.settleN Y rfl
    have X10 := X9.perm (mu' := (fa, o1) :: (l, o2) :: (qa, lst qs nq7) :: (156, tabObj ps7) :: (L + 1 + 1 + 1 + 1 + 1 + 1 + 1, k7) :: (L + 1 + 1 + 1 + 1 + 1 + 1, k6) :: []) (.cons _ (.cons _ (.swap _ _ _)))
    clear X9 Y X8 X7
    walk2
    rename_i s8 S8 X11
    refine hnext g3 s8 _ sa sh ft qs nq7 ps7 ?fin (fun b o e => k3 b o (kk b o e)) X11 ok7 (hSeal.keeps k3) (hsa.keeps k4) ?_ ?_ rfl rfl hm2 (h210.imp fun _ e => k3 _ _ e)
    case fin => exact ((JA.Same.fin T6).trans S7).trans (JA.Same.fin S8)
    · rw [hmap]
      refine List.map_congr_left fun i hi => ?_
      rw [due_getD (List.mem_range.mp hi)]
    · rw [if_neg hone]
      exact hqs

end
section
open PySem PySem.W PyProof.Rows PySem.Calls
set_option maxRecDepth 100000



theorem reset_JL6 : True := by
  w_top off
  trivial
local macro_rules | `(tactic| walk_at "J none 0") => `(tactic| skip)
local macro_rules | `(tactic| walk_at "binaryOp Mult ref int") => `(tactic| (k_dflt (refine' j_mul ?X ?S ?l ?a ?b ?_; (case X => k_asm); (case S => exact Same.refl _); (case l => exact Act.get (by k_asm) (by k_mem)); (case a => first | decide | with_reducible assumption); (case b => first | decide | exact Int.natCast_nonneg _ | with_reducible assumption); k_whole); intro a' s' S' X' z'))

theorem ints_same {vs ws : List Value} {ns : List Int} (h1 : IntsAre vs ns) (h2 : IntsAre ws ns) {A : Around} {s : Shared} {j : Nat} {v v' : Value} (e1 : vs[j]? = some v) (e2 : ws[j]? = some v') : SeqAt.EqAt A s v v' true := by
  have hj : j < ns.length := by
    rcases Nat.lt_or_ge j vs.length with q | q
    · rw [h1.length] at q; exact q
    · rw [List.getElem?_eq_none q] at e1; cases e1
  obtain ⟨t, a⟩ := IntsAre.get h1 j _ (List.getElem?_eq_getElem hj)
  obtain ⟨u, b⟩ := IntsAre.get h2 j _ (List.getElem?_eq_getElem hj)
  rw [a] at e1; rw [b] at e2
  cases e1; cases e2
  have := SeqAt.EqAt.int_int (A := A) (s := s) ns[j] t ns[j] u
  rwa [beq_self_eq_true] at this
theorem j_neInts {prog : Program} {w : World} {A : Around} {E : Value → Shared → Prop} {s : Shared} {l b : Addr} {vs ws : List Value} {ns : List Int} {Q : Value → Shared → Prop} (hl : s.heap.IsList l vs.toArray) (hb : s.heap.IsList b ws.toArray) (h1 : IntsAre vs ns) (h2 : IntsAre ws ns) (hu : A.units < cLine)
    (h : Q (.bool false) s) : wpAny (model prog w) A (compareOp .NotEq (.ref l) (.ref b)) Q E s := by
  refine j_neList (e := fun _ => true) hl hb (h1.length.trans h2.length.symm) hu (fun j v v' e1 e2 => ints_same h1 h2 e1 e2) ?_
  have : (List.range vs.length).all (fun _ => true) = true := by simp
  rw [this]
  exact h
theorem ints_replicate (n : Int) (t : Tok) : ∀ k, IntsAre (List.replicate k (.int n t)) (List.replicate k n)
  | 0 => .nil
  | k + 1 => .cons n t (ints_replicate n t k)
set_option maxHeartbeats 2000000 in
theorem law_6 {prog : Program} {w : World} {A : Around} {Qf : Flow → Shared → Prop} {E : Value → Shared → Prop} {s : Shared} {g : Heap} {L fa l ra qa : Addr} {as : List Addr} {rs : List (List Nat)} {m : Str → Option Value} {o1 o2 : Obj} {nq : Nat} {mu : List (Addr × Obj)} {qs : List Value} {least size : Nat} {t3 : Tok}
    {name qual : Str} {params : Arguments} {body : List Stmt} {scope : Scope} {dV kV doc pm cdv ct oc : Value} {an od : Option Addr} {osl : Array (Option Value)}
    (hf : (JA.hd.heap_1 w.params).lookup 220 = some ⟨oc, od, .func (fnOf name qual params body scope dV kV doc pm an cdv ct), osl⟩)
    (hW : Wd w g) (X : Act g L s.heap m ((fa, o1) :: (l, o2) :: (qa, lst qs nq) :: mu)) (G : LawG g L fa ra as rs least size)
    (c8 : g.IsCell (L + 1 + 1 + 1 + 1 + 1 + 1 + 1 + 1) (some (.ref qa))) (hqs : IntsAre qs (if least = 1 then [] else List.replicate (least - 2) (size : Int) ++ [(size : Int) - 4]))
    (hu : A.units < 7000) (hm2 : m "size" = some (.int size t3)) (hl1 : 1 ≤ least) (hl2 : least ≤ 16)
    (hnext : ∀ s', Same s s' → Act g L s'.heap m ((fa, o1) :: (l, o2) :: (qa, lst qs nq) :: mu) → wpAny (model prog w) A (execs (body.drop 15) (envOfC qual scope L 220 cdv)) Qf E s') :
    wpAny (model prog w) A (execs (body.drop 14) (envOfC qual scope L 220 cdv)) Qf E s := by
  w_on
  generalize hr : List.drop 15 body = rest at hnext
  obtain ⟨ev, hev⟩ : ∃ ev, ev = envOfC qual scope L 220 cdv := ⟨_, rfl⟩
  rw [← hev] at hnext
  refine lookup_both (by k_dflt k_is) hf fun hf => ?_
  injection hf with _ _ hf _
  injection hf with hf
  injection hf with e1 e2 e3 e4 e5 e6 e7 e8 e9 e10 e11 e12 e13 e14 e15
  clear e1 e3 e6 e7 e8 e9 e10 e11 e12 e14 e15
  injection e4 with e4
  subst e4 e2 e5 e13
  clear hf
  simp only [List.drop_succ_cons, List.drop_zero] at hr
  simp only [List.drop_succ_cons, List.drop_zero]
  rw [hr]
  clear hr
  subst hev
  obtain ⟨cfeed, crows, ⟨ts, csec⟩, ⟨ti', cinn⟩, ⟨tl', clea⟩, hrs, hlen, hvals⟩ := G
  have hul : A.units < cLine := by have : cLine = 9900 := rfl; omega
  by_cases hone : least = 1
  · have c1 : ((least : Nat) : Int) = 1 := by omega
    rw [if_pos hone] at hqs
    walk2
    · rename_i q a1 s1 S1 X1 z1
      refine j_neInts (X1.list (.tail _ (.tail _ (.tail _ (.head _))))) (X1.list (.head _)) hqs .nil hul ?_
      walk2
      exact hnext s1 ((Same.refl s).go S1) X1.less
    · exact absurd c1 (by assumption)
  · have c1 : ¬ ((least : Nat) : Int) = 1 := by omega
    have b0 : (0 : Int) ≤ (least : Int) - 2 := by omega
    have b1 : (least : Int) - 2 ≤ 1000 := by omega
    rw [if_neg hone] at hqs
    walk2
    · exact absurd (show ((least : Nat) : Int) = 1 by assumption) c1
    · rename_i q a1 s1 S1 X1 z1 a2 s2 S2 X2 z2 a3 s3 S3 X3 z3 a4 s4 S4 X4 z4
      have e : ((least : Int) - 2).toNat = least - 2 := by omega
      rw [e] at X4
      refine j_neInts (X4.list (.tail _ (.tail _ (.tail _ (.tail _ (.tail _ (.tail _ (.head _)))))))) (X4.list (.head _)) hqs (IntsAre.append (ints_replicate _ _ _) (.cons _ _ .nil)) hul ?_
      walk2
      exact hnext s4 ((((Same.refl s).go S1).go S2).go S3 |>.go S4) X4.less.less.less.less

end
section
open PySem PySem.W PyProof.Rows PySem.Calls
set_option maxRecDepth 100000
theorem reset_JPair : True := by
  w_top off
  trivial
-- nomac
section
variable {prog : Program} {w : World} {A : Around} {E : Value → Shared → Prop} {s : Shared} {g : Heap} {L : Addr} {m : Str → Option Value} {mu : List (Addr × Obj)} {env : Env}
/-- tuples of a place and its octets -/
noncomputable def Twos (h : Heap) (ts : List Addr) (f : Nat → Array UInt8) : Prop := ∀ (j : Nat) t, ts[j]? = some t → ∃ ti tb, h.IsTuple t #[.int (j : Int) ti, .bytes (f j) tb]
theorem walks_twos {I ax : Addr} {ts : List Addr} {f : Nat → Array UInt8} (hh : A.handled = none) (hne : ax ≠ I) (hTI : ∀ t ∈ ts, t ≠ I) :
    Walks prog w A I (I :: ax :: ts) [I] ts.length (fun i v => ∃ t, ts[i]? = some t ∧ v = .ref t) (fun i h => h.IsListIter I ax i ∧ h.IsList ax (ts.map Value.ref).toArray ∧ Twos h ts f) where
  sub := fun b hb => by rw [List.mem_singleton.mp hb]; exact .head _
  frame := fun i h h' st k => ⟨st.1.at fun o e => k I (.head _) o e, st.2.1.at fun o e => k ax (.tail _ (.head _)) o e, fun j t q => by
    obtain ⟨ti, tb, e⟩ := st.2.2 j t q
    exact ⟨ti, tb, e.at fun o e => k t (.tail _ (.tail _ (List.mem_of_getElem? q))) o e⟩⟩
  item := fun i s Q E hi st hQ => by
    refine wpAny_pyNext_list_item st.1 st.2.1 (x := .ref ts[i]) (by simp [List.getElem?_eq_getElem hi]) fun h' hit' hs' => ?_
    exact hQ _ h' s.toks ⟨_, List.getElem?_eq_getElem hi, rfl⟩ ⟨hit', st.2.1.extBut hs'.extBut hne, fun j t q => by
      obtain ⟨ti, tb, e⟩ := st.2.2 j t q
      exact ⟨ti, tb, e.extBut hs'.extBut (hTI t (List.mem_of_getElem? q))⟩⟩ fun b o hb e => hs'.extBut b o (fun h => hb (by simp [h])) e
  done := fun s Q E st hQ => wpAny_pyNext_list_end hh st.1 st.2.1 (by simp) fun h' he' => hQ h' s.toks fun b o hb e => he' b o (fun h => hb (by simp [h])) e
  self := fun _ _ _ _ st hQ => wpAny_pyIter_listiter st.1 hQ
theorem assigns_two {a b : Str} {pa pb tp : Pos} {kk : Nat} {cenv : Env} {I ax : Addr} {ts : List Addr} {f : Nat → Array UInt8} (hh : A.handled = none) (ha : cenv.kindOf a = some .local) (hb : cenv.kindOf b = some .local) (hab : a ≠ b) (hk : cenv.scope.kind = .function) :
    Assigns prog w A (.Tuple [.Name a pa, .Name b pb] kk tp) cenv I (fun i h => h.IsListIter I ax i ∧ h.IsList ax (ts.map Value.ref).toArray ∧ Twos h ts f) (fun i v => ∃ t, ts[i]? = some t ∧ v = .ref t)
      (fun i mc => ∃ ti tb, mc a = some (.int (i : Int) ti) ∧ mc b = some (.bytes (f i) tb)) := by
  rintro i v s mc Q E ⟨t, ht, rfl⟩ st hn h
  obtain ⟨ti, tb, e⟩ := st.2.2 i t ht
  refine wpAny_letOwnedTupleGo_listiter st.1 ?_
  refine kcp_assign hh e ha hb (by rw [hk]; rfl) hn fun h' tk hn' hk' => ?_
  refine h h' tk _ ⟨ti, tb, ?_, ?_⟩ hn' hk'
  · show (if a = b then _ else if a = a then _ else _) = _
    rw [if_neg hab, if_pos rfl]
  · show (if b = b then _ else _) = _
    rw [if_pos rfl]
theorem comp_pairG {elt iter : Expr} {a b : Str} {pa pb tp pos : Pos} {kk : Nat} {scope : Scope} {cl : List (Str × Addr)} {ax : Addr} {ts : List Addr} {f : Nat → Array UInt8} {Q : Value → Shared → Prop}
    (hh : A.handled = none) (X : Act g L s.heap m mu) (hl : g.IsList ax (ts.map Value.ref).toArray) (ht : ∀ (j : Nat) t, ts[j]? = some t → ∃ ti tb n, g.get? t = some { cls := .type "tuple", data := .seq #[.int (j : Int) ti, .bytes (f j) tb] n })
    (hit : ∀ (Q' : Value → Shared → Prop), Q' (.ref ax) s → wpAny (model prog w) A (eval iter env) Q' E s) (hn : ts.length ≤ 10000)
    (hclos : closureFor scope env = pure cl) (hcell : ∀ y ∈ scope.names, y.2 ≠ .cell) (hkind : scope.kind = .function)
    (hnames : ∀ y ∈ scope.names, y.2 = .local → scope.names.lookup y.1 = some .local) (hxa : scope.names.lookup a = some .local) (hxb : scope.names.lookup b = some .local) (hab : a ≠ b)
    (J : Nat → List Value → Heap → Shared → List (Addr × Obj) → Prop) (hJ : ∀ i ys g s s' mu, J i ys g s mu → Same s s' → J i ys g s' mu) (hJ0 : J 0 [] g s mu)
    (turn : ∀ g' i ys (s : Shared) C D I oL oI mc mu E' ti tb, i < ts.length → mc a = some (.int (i : Int) ti) → mc b = some (.bytes (f i) tb) → Stays g g' → J i ys g' s mu → LCg.NsObj oL m → Act g' C s.heap mc ((L, oL) :: (I, oI) :: (D, lst ys ys.length) :: mu) →
      wpAny (model prog w) A (eval elt (compEnvC scope cl C env)) (EltEndG g' C mc L I D oL oI ys J i) E' s)
    (done : ∀ g' (s : Shared) D ys mu, ys.length = ts.length → Stays g g' → J ts.length ys g' s mu → Act g' L s.heap m ((D, lst ys ys.length) :: mu) → Q (.ref D) s)
    (hs : ∀ x, foldedSetIterable iter env x = pure x := by intro _; rfl) :
    wpAny (model prog w) A (eval (.ListComp elt [⟨.Tuple [.Name a pa, .Name b pb] kk tp, iter, [], 0⟩] scope pos) env) Q E s := by
  rw [eval_ListComp]
  refine wpAny_comprehension_free (use := none) rfl hs hclos hkind hnames ?_
  refine hit _ ?_
  have hl' : s.heap.IsList ax (ts.map Value.ref).toArray := let ⟨o, e, r⟩ := hl; ⟨o, X.keep _ _ e, r⟩
  have hlt : ax < s.heap.objs.size := by obtain ⟨_, e, _⟩ := hl'; exact Heap.lt_size e
  have htl : ∀ t ∈ ts, ∃ o, g.get? t = some o := fun t hm => by
    obtain ⟨j, hj, e⟩ := List.mem_iff_getElem.mp hm
    obtain ⟨_, _, _, q⟩ := ht j t (by rw [List.getElem?_eq_getElem hj, e])
    exact ⟨_, q⟩
  have hts : ∀ t ∈ ts, t ≠ s.heap.objs.size := fun t hm => by
    obtain ⟨o, e⟩ := htl t hm
    exact Nat.ne_of_lt (Heap.lt_size (X.keep _ _ e))
  have X₂ := X.push { cls := .type "list_iterator", data := .fields #[.ref ax, .int 0 0] }
  refine wpAny_pyIter_list hl' ?_
  refine comp_blockG (P := fun i v => ∃ t, ts[i]? = some t ∧ v = .ref t) (walks_twos (f := f) hh (Nat.ne_of_lt hlt) hts) (fun i h st => let ⟨o, e, _⟩ := st.1; ⟨o, e⟩) ?hfp (by rw [sizeLine_eq]; omega) hcell hkind (fun C => assigns_two hh (lookup_relabel_local hxa) (lookup_relabel_local hxb) hab (by simp [compEnvC, relabel, hkind])) J hJ X₂ ?st (hJ _ _ _ _ _ _ hJ0 ⟨rfl, rfl, rfl⟩) ?_ ?_
  case hfp =>
    intro b hb
    rcases List.mem_cons.mp hb with rfl | hb
    · exact .inl rfl
    rcases List.mem_cons.mp hb with rfl | hb
    · obtain ⟨o, e, _⟩ := hl
      exact .inr ⟨o, e⟩
    · exact .inr (htl b hb)
  case st =>
    refine ⟨⟨_, Heap.get?_push_size _ rfl, rfl, rfl⟩, hl'.push _, fun j t q => ?_⟩
    obtain ⟨ti, tb, n, e⟩ := ht j t q
    exact ⟨ti, tb, ⟨_, Heap.get?_push_of_some _ (X.keep _ _ e), rfl, n, rfl⟩⟩
  · rintro g' i ys s C D oL oI mc mu E' hi ⟨ti, tb, hv1, hv2⟩ kg j nL X
    exact turn g' i ys s C D _ oL oI mc mu E' ti tb hi hv1 hv2 kg j nL X
  · intro g' s C D oL mc ys mu hl kg j nL X
    exact ⟨mc, X.ns, fun h' hs' => done g' _ D ys mu hl kg (hJ _ _ _ _ _ _ j ⟨rfl, rfl, rfl⟩) (X.leave nL hs')⟩
end

end
section
open PySem PySem.W PyProof.Rows PySem.Calls
set_option maxRecDepth 100000



theorem reset_JL7 : True := by
  w_top off
  trivial
local macro_rules | `(tactic| walk_at "J none 0") => `(tactic| skip)
local macro_rules | `(tactic| walk_at "J none 1") => `(tactic| skip)
noncomputable def Hold (p : Prop) : Prop := p
theorem Hold.of {p : Prop} (h : Hold p) : p := h
local macro_rules | `(tactic| walk_at "eval ListComp") => `(tactic| refine Hold.of ?_)

theorem sh_at {sh : List Sh} {n : Nat} {f : Nat → Array UInt8} (h : sh.map (fun c => (c.x, c.b)) = (List.range n).map (fun i : Nat => ((i : Int), f i))) {i : Nat} {c : Sh} (e : sh[i]? = some c) : i < n ∧ c.x = (i : Int) ∧ c.b = f i := by
  have h2 := congrArg (fun l => l[i]?) h
  simp only [List.getElem?_map, e, Option.map_some] at h2
  rcases Nat.lt_or_ge i n with hi | hi
  · rw [List.getElem?_range hi] at h2
    simp only [Option.map_some] at h2
    injection h2 with h2
    injection h2 with a b
    exact ⟨hi, a, b⟩
  · rw [List.getElem?_eq_none (by simpa using hi)] at h2
    cases h2
set_option maxHeartbeats 2000000 in
theorem law_7 {prog : Program} {w : World} {A : Around} {Qf : Flow → Shared → Prop} {E : Value → Shared → Prop} {s : Shared} {g : Heap} {L sa da : Addr} {rs : List (List Nat)} {m : Str → Option Value} {mu : List (Addr × Obj)} {sh : List Sh} {many size : Nat}
    {name qual : Str} {params : Arguments} {body : List Stmt} {scope : Scope} {dV kV doc pm cdv ct oc : Value} {an od : Option Addr} {osl : Array (Option Value)}
    (hf : (JA.hd.heap_1 w.params).lookup 220 = some ⟨oc, od, .func (fnOf name qual params body scope dV kV doc pm an cdv ct), osl⟩)
    (hW : Wd w g) (X : Act g L s.heap m mu)
    (c9 : g.IsCell (L + 1 + 1 + 1 + 1 + 1 + 1 + 1 + 1 + 1) (some (.ref da))) (hsa : SharesAt g sa sh) (hmap : sh.map (fun c => (c.x, c.b)) = (List.range many).map (fun i : Nat => ((i : Int), colB rs i size))) (hPA : PairsAt g da (DueB rs size many))
    (hroom : A.depth < 320) (hu : A.units < 7000) (hh : A.handled = none) (hm1 : m "shares" = some (.ref sa)) (hl4 : many ≤ 16)
    (hnext : ∀ g' s', Same s s' → Stays g g' → Act g' L s'.heap m mu → wpAny (model prog w) A (execs (body.drop 16) (envOfC qual scope L 220 cdv)) Qf E s') :
    wpAny (model prog w) A (execs (body.drop 15) (envOfC qual scope L 220 cdv)) Qf E s := by
  w_on
  generalize hr : List.drop 16 body = rest at hnext
  obtain ⟨ev, hev⟩ : ∃ ev, ev = envOfC qual scope L 220 cdv := ⟨_, rfl⟩
  rw [← hev] at hnext
  refine lookup_both (by k_dflt k_is) hf fun hf => ?_
  injection hf with _ _ hf _
  injection hf with hf
  injection hf with e1 e2 e3 e4 e5 e6 e7 e8 e9 e10 e11 e12 e13 e14 e15
  clear e1 e3 e6 e7 e8 e9 e10 e11 e12 e14 e15
  injection e4 with e4
  subst e4 e2 e5 e13
  clear hf
  simp only [List.drop_succ_cons, List.drop_zero] at hr
  simp only [List.drop_succ_cons, List.drop_zero]
  rw [hr]
  clear hr
  subst hev
  have hul : A.units < cLine := by have : cLine = 9900 := rfl; omega
  have hlen : sh.length = many := by
    have := congrArg List.length hmap
    simpa using this
  have hdl := c9
  have hr : A.depth < 799 := by omega
  walk2
  unfold Hold
  refine' comp_evalG ?hh X (Src.list (n := many) hsa.1 (by simpa using hlen) ?hit) (by omega) rfl ?hcell rfl ?hnames rfl
    (fun i ys g' s' mu' => Same s s' ∧ mu' = mu ∧ ∃ ts : List Addr, ys = ts.map Value.ref ∧ DuesAt g' ts rs size i) ?hJ ?hJ0 ?turn ?done
  case hh => exact hh
  case hcell => decide
  case hnames => decide
  case hit =>
    intro Q' hQ
    walk2
    exact hQ
  case hJ => rintro i ys g' s s' mu ⟨a, b⟩ S; exact ⟨a.trans S, b⟩
  case hJ0 => exact ⟨Same.refl s, rfl, [], rfl, rfl, fun j t q => by cases q⟩
  case turn =>
    rintro g1 i ys s1 C Dl I oL oI mc mu1 E' v hi hP hv kg ⟨S1, rfl, ts1, rfl, hts⟩ nL X1
    obtain ⟨c, hc, rfl⟩ : ∃ c, sh[i]? = some c ∧ v = .ref c.a := by
      simp only [List.getElem?_toArray, List.getElem?_map] at hP
      cases q : sh[i]? with
      | none => rw [q] at hP; cases hP
      | some c => rw [q] at hP; cases hP; exact ⟨c, rfl, rfl⟩
    have hW1 := hW.keeps kg
    have hcs := (hsa.2 c (List.mem_of_getElem? hc)).keeps kg
    obtain ⟨_, ex, eb⟩ := sh_at hmap hc
    rw [ex, eb] at hcs
    walk2
    rename_i s2 t2 K2 S2 X2 s3 t4 K3 S3 X3 a s4 S4 X4 z4
    obtain ⟨g2, Z, kz, K⟩ := X4.settle (mu₂ := [_]) (List.perm_append_comm (l₁ := [_]))
    exact EltEndG.mk g2 _ kz Z ⟨((S1.go S2).go S3).go S4, rfl, ts1 ++ [a], by simp, hts.snoc kz (K _ (List.mem_singleton.mpr rfl))⟩
  case done =>
    rintro g1 s1 Dl ys mu1 hl kg ⟨S1, rfl, ts1, rfl, hts⟩ X1
    replace c9 := c9.keeps kg
    walk2
    obtain ⟨ts2, hl2, hle2, hts2⟩ := hPA.keeps kg
    have hlt1 : ts1.length = many := by simpa using hl
    have hlt2 : ts2.length = many := by rw [hle2]; simp [DueB]
    refine j_neList (e := fun _ => true) (X1.list (.head _)) (stays_list X1.keep hl2) (by simp [hlt1, hlt2]) hul ?_ ?_
    · intro j v v' e1 e2
      rw [List.getElem?_map] at e1 e2
      cases q1 : ts1[j]? with
      | none => rw [q1] at e1; cases e1
      | some b1 =>
        cases q2 : ts2[j]? with
        | none => rw [q2] at e2; cases e2
        | some b2 =>
          rw [q1] at e1; rw [q2] at e2
          cases e1; cases e2
          obtain ⟨_, _, _, h1⟩ := hts.2 j b1 q1
          have hj : j < many := by
            rcases Nat.lt_or_ge j ts1.length with x | x
            · rw [hlt1] at x; exact x
            · rw [List.getElem?_eq_none x] at q1; cases q1
          obtain ⟨_, _, _, h2⟩ := hts2 j b2 (colB rs j size) q2 (by unfold DueB; rw [List.getElem?_map, List.getElem?_range hj]; rfl)
          by_cases hb : b1 = b2
          · rw [hb]; exact SeqAt.EqAt.same _
          · have := EqAt_pair (A := A.in1) hb (X1.keep _ _ h1) (X1.keep _ _ h2) (by show A.units + 1 < cLine; have : cLine = 9900 := rfl; omega) (SeqAt.EqAt.int_int _ _ _ _) (EqAt_bytes _ _ _ _)
            rwa [beq_self_eq_true, beq_self_eq_true] at this
    · have : (List.range (ts1.map Value.ref).length).all (fun _ => true) = true := by simp
      rw [this]
      walk2
      exact hnext g1 s1 S1 kg X1.less

end
section
open PySem PySem.W PyProof.Rows PySem.Calls
set_option maxRecDepth 100000



theorem reset_JL8 : True := by
  w_top off
  trivial
local macro_rules | `(tactic| walk_at "J none 0") => `(tactic| skip)
local macro_rules | `(tactic| walk_at "J none 1") => `(tactic| skip)
local macro_rules | `(tactic| walk_at "J none 2") => `(tactic| skip)
noncomputable def Hold8 (p : Prop) : Prop := p
theorem Hold8.of {p : Prop} (h : Hold8 p) : p := h
local macro_rules | `(tactic| walk_at "eval ListComp") => `(tactic| refine Hold8.of ?_)

set_option maxHeartbeats 2000000 in
theorem law_8 {prog : Program} {w : World} {A : Around} {Qf : Flow → Shared → Prop} {E : Value → Shared → Prop} {s : Shared} {g : Heap} {L fa l qa da : Addr} {rs : List (List Nat)} {m : Str → Option Value} {o1 o2 oq op k6 k7 : Obj} {many size : Nat}
    {name qual : Str} {params : Arguments} {body : List Stmt} {scope : Scope} {dV kV doc pm cdv ct oc : Value} {an od : Option Addr} {osl : Array (Option Value)}
    (hf : (JA.hd.heap_1 w.params).lookup 220 = some ⟨oc, od, .func (fnOf name qual params body scope dV kV doc pm an cdv ct), osl⟩)
    (hW : Wd w g) (X : Act g L s.heap m ((fa, o1) :: (l, o2) :: (qa, oq) :: (156, op) :: (L + 1 + 1 + 1 + 1 + 1 + 1 + 1, k7) :: (L + 1 + 1 + 1 + 1 + 1 + 1, k6) :: []))
    (c9 : g.IsCell (L + 1 + 1 + 1 + 1 + 1 + 1 + 1 + 1 + 1) (some (.ref da))) (hPA : PairsAt g da (DueB rs size many)) (d6 : k6.data = .cell none)
    (hroom : A.depth < 320) (hh : A.handled = none) (hl4 : many ≤ 16)
    (hnext : ∀ g' s' la nl (sl : List Sh), Same s s' → Stays g g' → Act g' L s'.heap m ((fa, o1) :: (l, o2) :: (la, lst (sl.map fun c => Value.ref c.a) nl) :: (qa, oq) :: (156, op) :: (L + 1 + 1 + 1 + 1 + 1 + 1 + 1, k7) :: []) → g'.IsCell (L + 1 + 1 + 1 + 1 + 1 + 1) (some (.ref la)) →
      (∀ c ∈ sl, IsShare g' c.a c.x c.b) → sl.map (fun c => (c.x, c.b)) = (List.range many).map (fun i : Nat => ((i : Int), colB rs i size)) → wpAny (model prog w) A (execs (body.drop 17) (envOfC qual scope L 220 cdv)) Qf E s') :
    wpAny (model prog w) A (execs (body.drop 16) (envOfC qual scope L 220 cdv)) Qf E s := by
  w_on
  generalize hr : List.drop 17 body = rest at hnext
  obtain ⟨ev, hev⟩ : ∃ ev, ev = envOfC qual scope L 220 cdv := ⟨_, rfl⟩
  rw [← hev] at hnext
  refine lookup_both (by k_dflt k_is) hf fun hf => ?_
  injection hf with _ _ hf _
  injection hf with hf
  injection hf with e1 e2 e3 e4 e5 e6 e7 e8 e9 e10 e11 e12 e13 e14 e15
  clear e1 e3 e6 e7 e8 e9 e10 e11 e12 e14 e15
  injection e4 with e4
  subst e4 e2 e5 e13
  clear hf
  simp only [List.drop_succ_cons, List.drop_zero] at hr
  simp only [List.drop_succ_cons, List.drop_zero]
  rw [hr]
  clear hr
  subst hev
  obtain ⟨ts, hl2, hle2, hts2⟩ := hPA
  have hlt2 : ts.length = many := by rw [hle2]; simp [DueB]
  walk2
  unfold Hold8
  refine' comp_pairG (ts := ts) (f := fun i => colB rs i size) ?hh X hl2 ?ht ?hit (by omega) rfl ?hcell rfl ?hnames rfl rfl (by decide)
    (fun i ys g' s' mu' => Same s s' ∧ mu' = ((fa, o1) :: (l, o2) :: (qa, oq) :: (156, op) :: (L + 1 + 1 + 1 + 1 + 1 + 1 + 1, k7) :: (L + 1 + 1 + 1 + 1 + 1 + 1, k6) :: []) ∧ ∃ sl : List Sh, ys = sl.map (fun c => Value.ref c.a) ∧ (∀ c ∈ sl, IsShare g' c.a c.x c.b) ∧ sl.map (fun c => (c.x, c.b)) = (List.range i).map (fun i : Nat => ((i : Int), colB rs i size))) ?hJ ?hJ0 ?turn ?done
  case hh => exact hh
  case hcell => decide
  case hnames => decide
  case ht =>
    intro j t q
    have hj : j < many := by
      rcases Nat.lt_or_ge j ts.length with x | x
      · rw [hlt2] at x; exact x
      · rw [List.getElem?_eq_none x] at q; cases q
    exact hts2 j t (colB rs j size) q (by unfold DueB; rw [List.getElem?_map, List.getElem?_range hj]; rfl)
  case hit =>
    intro Q' hQ
    walk2
    exact hQ
  case hJ => rintro i ys g' s s' mu ⟨a, b⟩ S; exact ⟨a.trans S, b⟩
  case hJ0 => exact ⟨Same.refl s, rfl, [], rfl, by simp, rfl⟩
  case turn =>
    rintro g1 i ys s1 C Dl I oL oI mc mu1 E' ti tb hi hv1 hv2 kg ⟨S1, rfl, sl, rfl, hsl, hmap⟩ nL X1
    have hW1 := hW.keeps kg
    walk2
    refine j_shareG (h0 := s1.heap) hW1 X1 (by omega) (fun c e => e) ?_
    intro g2 a s2 S2 k2 W2 X2 N2
    refine EltEndG.mk g2 _ k2 X2 ⟨S1.go S2, rfl, sl ++ [⟨a, (i : Nat), colB rs i size⟩], by simp, ?_, ?_⟩
    · intro c hc
      rcases List.mem_append.mp hc with hc | hc
      · exact (hsl c hc).keeps k2
      · rw [List.mem_singleton.mp hc]; exact N2.share
    · rw [List.map_append, hmap, List.range_succ, List.map_append]
      rfl
  case done =>
    rintro g1 s1 Dl ys mu1 hl kg ⟨S1, rfl, sl, rfl, hsl, hmap⟩ X1
    walk2
    rename_i s2 o2' S2 d2 X2
    obtain ⟨g2, X3, k2, K⟩ := X2.settle (mu₁ := (fa, o1) :: (l, o2) :: (Dl, lst (sl.map fun c => Value.ref c.a) (sl.map fun c => Value.ref c.a).length) :: (qa, oq) :: (156, op) :: (L + 1 + 1 + 1 + 1 + 1 + 1 + 1, k7) :: []) (mu₂ := [(L + 1 + 1 + 1 + 1 + 1 + 1, o2')]) (List.Perm.append_right [_] (l₁ := [_, _, _, _, _, _]) ((List.perm_append_comm (l₁ := [_]) (l₂ := [_, _])).append_right _))
    rw [hlt2] at hmap
    exact hnext g2 s2 Dl _ sl (S1.go S2) (fun b o e => k2 b o (kg b o e)) X3 ⟨_, K _ (List.mem_singleton.mpr rfl), d2⟩ (fun c hc => (hsl c hc).keeps k2) hmap

end
section
open PySem PySem.W PyProof.Rows PySem.Calls
set_option maxRecDepth 100000




theorem reset_JL9 : True := by
  w_top off
  trivial
theorem erase_perm {α : Type} : ∀ (l : List α) (k : Nat) (h : k < l.length), (l[k] :: l.eraseIdx k).Perm l
  | [], _, h => absurd h (Nat.not_lt_zero _)
  | a :: l, 0, _ => List.Perm.refl _
  | a :: l, k + 1, h => by
    have hk : k < l.length := Nat.lt_of_succ_lt_succ h
    show (l[k] :: a :: l.eraseIdx k).Perm (a :: l)
    exact (List.Perm.swap a _ _).trans (.cons a (erase_perm l k (Nat.lt_of_succ_lt_succ h)))
theorem erase_map {α β : Type} (f : α → β) : ∀ (l : List α) (k : Nat), (l.map f).eraseIdx k = (l.eraseIdx k).map f
  | [], _ => rfl
  | _ :: _, 0 => rfl
  | a :: l, k + 1 => by
    show f a :: (l.map f).eraseIdx k = f a :: (l.eraseIdx k).map f
    rw [erase_map f l k]
theorem seq_at {k n : Nat} (h : k < n) : seqIndex? (k : Int) n = some k := by
  unfold seqIndex?
  have h1 : ¬ ((k : Int) < 0) := by omega
  simp only [h1, if_false]
  rw [if_pos (by simp; omega)]
  simp
set_option maxHeartbeats 2000000 in
theorem law_9 {prog : Program} {w : World} {A : Around} {Qf : Flow → Shared → Prop} {E : Value → Shared → Prop} {s : Shared} {g : Heap} {L fa l ra la : Addr} {as : List Addr} {rs : List (List Nat)} {m : Str → Option Value} {o1 o2 : Obj} {nl : Nat} {mu : List (Addr × Obj)} {sl : List Sh} {least size : Nat}
    {name qual : Str} {params : Arguments} {body : List Stmt} {scope : Scope} {dV kV doc pm cdv ct oc : Value} {an od : Option Addr} {osl : Array (Option Value)}
    (hf : (JA.hd.heap_1 w.params).lookup 220 = some ⟨oc, od, .func (fnOf name qual params body scope dV kV doc pm an cdv ct), osl⟩)
    (hW : Wd w g) (F : FeedOf l o1 o2) (X : Act g L s.heap m ((fa, o1) :: (l, o2) :: (la, lst (sl.map fun c => Value.ref c.a) nl) :: mu)) (G : LawG g L fa ra as rs least size)
    (c6 : g.IsCell (L + 1 + 1 + 1 + 1 + 1 + 1) (some (.ref la))) (hroom : A.depth < 320) (hh : A.handled = none) (hl1 : least ≤ sl.length) (hl4 : sl.length ≤ 16)
    (hnext : ∀ s' o1' o2' sa nb (so rem : List Sh), Same s s' → FeedOf l o1' o2' → Act g L s'.heap (fun z => if z = "some" then some (.ref sa) else m z) ((fa, o1') :: (l, o2') :: (sa, lst (so.map fun c => Value.ref c.a) nb) :: mu) →
      so.length = least → (so ++ rem).Perm sl → wpAny (model prog w) A (execs (body.drop 18) (envOfC qual scope L 220 cdv)) Qf E s') :
    wpAny (model prog w) A (execs (body.drop 17) (envOfC qual scope L 220 cdv)) Qf E s := by
  w_on
  generalize hr : List.drop 18 body = rest at hnext
  obtain ⟨ev, hev⟩ : ∃ ev, ev = envOfC qual scope L 220 cdv := ⟨_, rfl⟩
  rw [← hev] at hnext
  refine lookup_both (by k_dflt k_is) hf fun hf => ?_
  injection hf with _ _ hf _
  injection hf with hf
  injection hf with e1 e2 e3 e4 e5 e6 e7 e8 e9 e10 e11 e12 e13 e14 e15
  clear e1 e3 e6 e7 e8 e9 e10 e11 e12 e14 e15
  injection e4 with e4
  subst e4 e2 e5 e13
  clear hf
  simp only [List.drop_succ_cons, List.drop_zero] at hr
  simp only [List.drop_succ_cons, List.drop_zero]
  rw [hr]
  clear hr
  subst hev
  obtain ⟨cfeed, crows, ⟨ts, csec⟩, ⟨ti', cinn⟩, ⟨tl', clea⟩, hrs, hlen, hvals⟩ := G
  have eb : (least : Int) = 0 + (least : Nat) := by omega
  have hm3 : (least : Int) ≤ 1000 := by omega
  walk1
  refine' comp_assign rfl rfl rfl rfl ?hh X (Src.rng (a := 0) (n := least) eb (by decide) hm3 ?hit) (by omega) rfl ?hcell rfl ?hnames rfl
    (fun i ys s' mu' => Same s s' ∧ ∃ o1' o2' n', ∃ so rem : List Sh, FeedOf l o1' o2' ∧ mu' = ((fa, o1') :: (l, o2') :: (la, lst (rem.map fun c => Value.ref c.a) n') :: mu) ∧ ys = so.map (fun c => Value.ref c.a) ∧ so.length = i ∧ (so ++ rem).Perm sl) ?hJ ?hJ0 ?turn ?done
  case hh => exact hh
  case hcell => decide
  case hnames => decide
  case hit =>
    intro Q' hQ
    walk2
    exact hQ _ _ ((Same.refl _).go (by assumption)) (by assumption) (by assumption)
  case hJ => rintro i ys s s' mu ⟨a, b⟩ S; exact ⟨a.trans S, b⟩
  case hJ0 => exact ⟨Same.refl s, o1, o2, nl, [], sl, F, rfl, rfl, rfl, List.Perm.refl _⟩
  case turn =>
    rintro i ys s1 C Dl I oL oI mc mu1 E' v hi ⟨t, rfl⟩ hv ⟨S1, p1, p2, n1, so, rem, F1, rfl, rfl, hsl, hperm⟩ nL X1
    have hrem : so.length + rem.length = sl.length := by
      have := hperm.length_eq
      simpa using this
    have hz : (rem.map fun c => Value.ref c.a).length ≤ 900 := by rw [List.length_map]; omega
    walk2
    have es : (rem.map fun c => Value.ref c.a).toArray.size = rem.length := by simp
    rw [es]
    refine' j_draw (pre := [_, _, _]) hW X1 F1 ?ra ?ma ?mb ?_
    case ra => omega
    case ma => omega
    case mb => omega
    intro s2 r t2 q1 q2 S2 l2 h2 F2 X2
    dsimp only [List.cons_append, List.nil_append] at X2
    obtain ⟨k, rfl⟩ : ∃ n : Nat, r = (n : Int) := ⟨r.toNat, by omega⟩
    have hk : k < rem.length := by omega
    walk2
    have hy : (rem.map fun c => Value.ref c.a)[k]? = some (Value.ref (rem[k]).a) := by rw [List.getElem?_map, List.getElem?_eq_getElem hk]; rfl
    refine j_popAt (k := k) X2 (Same.refl _) (.tail _ (.tail _ (.tail _ (.tail _ (.tail _ (.head _)))))) ?_ ?_ hy ?_ ?_
    · unfold Builtin.List.listFitsIndex
      simp
      omega
    · rw [List.length_map]
      exact seq_at hk
    · rw [List.length_map, sizeLine_eq]; omega
    intro s3 S3 X3
    rw [erase_map] at X3
    refine EltEnd.mk _ X3 ⟨(S1.go S2).go S3, q1, q2, n1 + 1, so ++ [rem[k]], rem.eraseIdx k, F2, rfl, by simp, by simp [hsl], ?_⟩
    refine List.Perm.trans ?_ hperm
    rw [List.append_assoc]
    refine List.Perm.append_left so ?_
    exact erase_perm rem k hk
  case done =>
    rintro s1 Dl ys mu1 hl ⟨S1, p1, p2, n1, so, rem, F1, rfl, rfl, hsl, hperm⟩ X1
    have X2 : Act g L s1.heap (fun z => if z = "some" then some (.ref Dl) else m z) ((fa, p1) :: (l, p2) :: (Dl, lst (so.map fun c : Sh => Value.ref c.a) (so.map fun c : Sh => Value.ref c.a).length) :: mu) := by
      have Y := X1.perm (mu' := (la, lst (rem.map fun c : Sh => Value.ref c.a) n1) :: (fa, p1) :: (l, p2) :: (Dl, lst (so.map fun c : Sh => Value.ref c.a) (so.map fun c : Sh => Value.ref c.a).length) :: mu) (((List.perm_append_comm (l₁ := [_, _, _]) (l₂ := [_])).append_right mu).trans (List.Perm.cons (la, lst (rem.map fun c : Sh => Value.ref c.a) n1) ((List.perm_append_comm (l₁ := [(Dl, lst (so.map fun c : Sh => Value.ref c.a) (so.map fun c : Sh => Value.ref c.a).length)]) (l₂ := [(fa, p1), (l, p2)])).append_right mu)))
      exact Y.less
    exact hnext s1 p1 p2 Dl _ so rem S1 F1 X2 hsl hperm

end
section
open PySem PySem.W PyProof.Rows PySem.Calls
set_option maxRecDepth 100000




theorem reset_JL10 : True := by
  w_top off
  trivial
theorem seal_ok {IN SEC : Array UInt8} {tu mo : Nat} (hz : 4 ≤ IN.size) : upB IN 4 = upB (tellB (dropB IN 4) SEC (upB IN 4) (dropB IN 4) SEC tu mo) 4 := by
  unfold tellB
  rw [if_pos (by simp)]
  have hs : (upB IN 4).size = 4 := by rw [up_size]; omega
  apply Array.toList_inj.mp
  have : (upB IN 4).toList.length = 4 := by rw [Array.length_toList]; exact hs
  show _ = ((upB IN 4 ++ #[108, 97, 119]).toList.take 4)
  rw [Array.toList_append, List.take_append_of_le_length (by omega), List.take_of_length_le (by omega)]
set_option maxHeartbeats 2000000 in
theorem law_10 {prog : Program} {w : World} {A : Around} {Qf : Flow → Shared → Prop} {E : Value → Shared → Prop} {s : Shared} {g : Heap} {L fa l ra sa ft qa : Addr} {as : List Addr} {rs : List (List Nat)} {m : Str → Option Value} {o1 o2 oq k7 : Obj} {nb : Nat} {ps : Array Value} {so : List Sh} {least size more tu : Nat}
    {name qual : Str} {params : Arguments} {body : List Stmt} {scope : Scope} {dV kV doc pm cdv ct oc : Value} {an od : Option Addr} {osl : Array (Option Value)}
    (hf : (JA.hd.heap_1 w.params).lookup 220 = some ⟨oc, od, .func (fnOf name qual params body scope dV kV doc pm an cdv ct), osl⟩)
    (hW : Wd w g) (X : Act g L s.heap m ((fa, o1) :: (l, o2) :: (sa, lst (so.map fun c => Value.ref c.a) nb) :: (qa, oq) :: (156, tabObj ps) :: (L + 1 + 1 + 1 + 1 + 1 + 1 + 1, k7) :: [])) (G : LawG g L fa ra as rs least size)
    (C160 : CodeOf g 160 156) (ok : TriplesOk ps.toList) (hS : SealAt w g ft (upB (colB rs 254 size) 4) (dropB (colB rs 254 size) 4) (colB rs 255 size) tu more)
    (hsh : ∀ c ∈ so, IsShare g c.a c.x c.b) (hon : OnC rs size so) (hnd : (so.map (·.x)).Nodup) (hln : so.length = least)
    (hroom : A.depth < 320) (hu : A.units < 7000) (hh : A.handled = none) (hm1 : m "some" = some (.ref sa)) (hm2 : m "seal" = some (.ref ft)) (hl1 : 1 ≤ least) (hl2 : least ≤ 16) (hz1 : 4 ≤ size) (hz2 : size ≤ 9)
    (hnext : ∀ s' ps, JA.Fin s s' → Act g L s'.heap m ((fa, o1) :: (l, o2) :: (sa, lst (so.map fun c => Value.ref c.a) nb) :: (qa, oq) :: (156, tabObj ps) :: (L + 1 + 1 + 1 + 1 + 1 + 1 + 1, k7) :: []) → TriplesOk ps.toList → wpAny (model prog w) A (execs (body.drop 19) (envOfC qual scope L 220 cdv)) Qf E s') :
    wpAny (model prog w) A (execs (body.drop 18) (envOfC qual scope L 220 cdv)) Qf E s := by
  w_on
  generalize hr : List.drop 19 body = rest at hnext
  obtain ⟨ev, hev⟩ : ∃ ev, ev = envOfC qual scope L 220 cdv := ⟨_, rfl⟩
  rw [← hev] at hnext
  refine lookup_both (by k_dflt k_is) hf fun hf => ?_
  injection hf with _ _ hf _
  injection hf with hf
  injection hf with e1 e2 e3 e4 e5 e6 e7 e8 e9 e10 e11 e12 e13 e14 e15
  clear e1 e3 e6 e7 e8 e9 e10 e11 e12 e14 e15
  injection e4 with e4
  subst e4 e2 e5 e13
  clear hf
  simp only [List.drop_succ_cons, List.drop_zero] at hr
  simp only [List.drop_succ_cons, List.drop_zero]
  rw [hr]
  clear hr
  subst hev
  obtain ⟨cfeed, crows, ⟨ts, csec⟩, ⟨ti', cinn⟩, ⟨tl', clea⟩, hrs, hlen, hvals⟩ := G
  have hINz : (colB rs 254 size).size = size := colB_size rs 254 size
  have hSECz : (colB rs 255 size).size = size := colB_size rs 255 size
  have hv : ∀ r ∈ rs, ∀ v ∈ r, v < 256 := fun r hr => (hvals r hr).2
  walk2
  obtain ⟨g1, X1, k1, K1⟩ := X.settle (mu₁ := (fa, o1) :: (l, o2) :: (qa, oq) :: (156, tabObj ps) :: (L + 1 + 1 + 1 + 1 + 1 + 1 + 1, k7) :: []) (mu₂ := [(sa, lst (so.map fun c : Sh => Value.ref c.a) nb)]) (((List.perm_append_comm (l₁ := [_]) (l₂ := [_, _, _])).append_left [_, _]))
  have hW1 := hW.keeps k1
  have hSA : SharesAt g1 sa so := ⟨⟨_, K1 _ (List.mem_singleton.mpr rfl), rfl, nb, rfl⟩, fun c hc => (hsh c hc).keeps k1⟩
  by_cases hone : least = 1
  · subst hone
    obtain ⟨c0, rfl⟩ := List.length_eq_one_iff.mp hln
    refine wpAny_call (recover_one hW1 X1.keep hroom hSA ?_)
    intro s2 t2 S2 K2
    have X2 := X.grow K2
    obtain ⟨p, hp, ep, eb⟩ := hon c0 (.head _)
    rw [eb, col_one (p := p) (q := 255) hlen]
    walk2
    · rename_i q
      exact absurd q (by simp)
    · exact hnext s2 ps (JA.Same.fin ((Same.refl s).go S2)) X2 ok
  · have m156 := X1.mus (156, tabObj ps) (by simp)
    refine wpAny_call (recover_more hW1 X1.keep hroom hu hh hSA (by omega) hln hl2 hz2 ?hsz hnd hSECz hINz (hS.keeps k1) m156.1 m156.2.2 ok (C160.keeps k1) ?hI1 ?hI2 ?good ?bad)
    case hsz =>
      intro c hc
      obtain ⟨p, hp, ep, eb⟩ := hon c hc
      exact ⟨by omega, by omega, by rw [eb, colB_size]⟩
    case hI1 => exact fun r I => interp_good hon hv hnd (hln.trans hlen.symm) (x := 255) (by decide) I
    case hI2 => exact fun r I => interp_good hon hv hnd (hln.trans hlen.symm) (x := 254) (by decide) I
    case bad => exact fun q => absurd (seal_ok (by omega)) q
    case good =>
      intro _ s2 t2 ps2 F2 off h156 ok2
      have X2 := Act.after (pre := [_, _, _, _]) (mu := [(156, tabObj ps)]) (mu' := [(156, tabObj ps2)]) (post := [_]) X off rfl (by
        intro p hp
        rw [List.mem_singleton.mp hp]
        exact h156)
      walk2
      · rename_i q
        exact absurd q (by simp)
      · exact hnext s2 ps2 F2 X2 ok2

end
section
open PySem PySem.W PyProof.Rows PySem.Calls
set_option maxRecDepth 100000




theorem reset_JL11 : True := by
  w_top off
  trivial
theorem Act.release {g g1 h h' : Heap} {L a : Addr} {m m' : Str → Option Value} {mu mu' : List (Addr × Obj)} {o : Obj} (X : Act g L h m ((a, o) :: mu)) (Y : Act g1 L h' m' mu') (k : Stays g g1) (e : g1.get? a = some o) (hm : mu'.map (·.1) = mu.map (·.1)) : Act g L h' m' ((a, o) :: mu') := by
  refine ⟨Y.ns, fun b o e => Y.keep b o (k b o e), X.off, fun p hp => ?_, ?_⟩
  · rcases List.mem_cons.mp hp with rfl | hp
    · exact ⟨Y.keep _ _ e, (X.mus _ (.head _)).2⟩
    · refine ⟨(Y.mus p hp).1, (Y.mus p hp).2.1, ?_⟩
      cases q : g.get? p.1 with
      | none => rfl
      | some o => have := k _ _ q; rw [(Y.mus p hp).2.2] at this; cases this
  · have := X.nd
    rw [List.map_cons] at this ⊢
    rw [hm]
    exact this
set_option maxHeartbeats 2000000 in
theorem law_11 {prog : Program} {w : World} {A : Around} {Qf : Flow → Shared → Prop} {E : Value → Shared → Prop} {s : Shared} {g : Heap} {L fa l ra sa qa : Addr} {as : List Addr} {rs : List (List Nat)} {m : Str → Option Value} {o1 o2 oq k7 : Obj} {nb : Nat} {ps : Array Value} {so : List Sh} {least size : Nat}
    {name qual : Str} {params : Arguments} {body : List Stmt} {scope : Scope} {dV kV doc pm cdv ct oc : Value} {an od : Option Addr} {osl : Array (Option Value)}
    (hf : (JA.hd.heap_1 w.params).lookup 220 = some ⟨oc, od, .func (fnOf name qual params body scope dV kV doc pm an cdv ct), osl⟩)
    (hW : Wd w g) (F : FeedOf l o1 o2) (X : Act g L s.heap m ((fa, o1) :: (l, o2) :: (sa, lst (so.map fun c => Value.ref c.a) nb) :: (qa, oq) :: (156, tabObj ps) :: (L + 1 + 1 + 1 + 1 + 1 + 1 + 1, k7) :: [])) (G : LawG g L fa ra as rs least size)
    (C160 : CodeOf g 160 156) (ok : TriplesOk ps.toList)
    (hsh : ∀ c ∈ so, IsShare g c.a c.x c.b) (hon : OnC rs size so) (hnd : (so.map (·.x)).Nodup) (hln : so.length = least)
    (hroom : A.depth < 320) (hh : A.handled = none) (hm1 : m "some" = some (.ref sa)) (hl1 : 1 ≤ least) (hl2 : least ≤ 16) (hz1 : 4 ≤ size) (hz2 : size ≤ 9)
    (hret : ∀ s' m' mu' p, JA.Fin s s' → Act g L s'.heap m' mu' → (156, tabObj p) ∈ mu' → Qf (.ret (.bool true)) s')
    (hnext : ∀ s' m' ps o1 o2, JA.Fin s s' → FeedOf l o1 o2 → Act g L s'.heap m' ((fa, o1) :: (l, o2) :: (sa, lst (so.map fun c => Value.ref c.a) nb) :: (qa, oq) :: (156, tabObj ps) :: (L + 1 + 1 + 1 + 1 + 1 + 1 + 1, k7) :: []) → TriplesOk ps.toList → 2 ≤ least → (∀ (x : Str) v, x ≠ "place" → m x = some v → m' x = some v) → wpAny (model prog w) A (execs (body.drop 22) (envOfC qual scope L 220 cdv)) Qf E s') :
    wpAny (model prog w) A (execs (body.drop 19) (envOfC qual scope L 220 cdv)) Qf E s := by
  w_on
  generalize hr : List.drop 22 body = rest at hnext
  obtain ⟨ev, hev⟩ : ∃ ev, ev = envOfC qual scope L 220 cdv := ⟨_, rfl⟩
  rw [← hev] at hnext
  refine lookup_both (by k_dflt k_is) hf fun hf => ?_
  injection hf with _ _ hf _
  injection hf with hf
  injection hf with e1 e2 e3 e4 e5 e6 e7 e8 e9 e10 e11 e12 e13 e14 e15
  clear e1 e3 e6 e7 e8 e9 e10 e11 e12 e14 e15
  injection e4 with e4
  subst e4 e2 e5 e13
  clear hf
  simp only [List.drop_succ_cons, List.drop_zero] at hr
  simp only [List.drop_succ_cons, List.drop_zero]
  rw [hr]
  clear hr
  subst hev
  obtain ⟨cfeed, crows, ⟨ts, csec⟩, ⟨ti', cinn⟩, ⟨tl', clea⟩, hrs, hlen, hvals⟩ := G
  have hv : ∀ r ∈ rs, ∀ v ∈ r, v < 256 := fun r hr => (hvals r hr).2
  have hne : 0 < rs.length := by omega
  walk2
  rename_i s1 r t1 q1 q2 S1 l1 h1 F1 X1 s2 S2 X2
  obtain ⟨pl, rfl⟩ : ∃ n : Nat, r = (n : Int) := ⟨r.toNat, by omega⟩
  have hpl : pl < 256 := by omega
  have T2 : JA.Fin s s2 := JA.Same.fin (((Same.refl s).go S1).go S2)
  obtain ⟨g1, X3, k1, K1⟩ := X2.settle (mu₁ := (fa, q1) :: (l, q2) :: (qa, oq) :: (156, tabObj ps) :: (L + 1 + 1 + 1 + 1 + 1 + 1 + 1, k7) :: []) (mu₂ := [(sa, lst (so.map fun c : Sh => Value.ref c.a) nb)]) (((List.perm_append_comm (l₁ := [_]) (l₂ := [_, _, _])).append_left [_, _]))
  have hsa1 := K1 _ (List.mem_singleton.mpr rfl)
  have hSA : SharesAt g1 sa so := ⟨⟨_, hsa1, rfl, nb, rfl⟩, fun c hc => (hsh c hc).keeps k1⟩
  refine' j_interp (pre := [_, _, _]) (post := [_]) (len := size) (hW.keeps k1) ?Xa ok (C160.keeps k1) ?ra hh hSA ?hsz ?h0 ?h1 ?hn ?hn2 hnd hz2 ?_
  case Xa => exact X3
  case ra => omega
  case hsz =>
    intro c hc
    obtain ⟨p, hp, ep, eb⟩ := hon c hc
    exact ⟨by omega, by omega, by rw [eb, colB_size]⟩
  case h0 => omega
  case h1 => omega
  case hn => omega
  case hn2 => omega
  intro s3 t3 r3 ps3 F3 ok3 Y3 I3
  have er := interp_good hon hv hnd (hln.trans hlen.symm) (x := pl) hpl I3
  subst er
  have X4 := (X2.perm (mu' := (sa, lst (so.map fun c : Sh => Value.ref c.a) nb) :: (fa, q1) :: (l, q2) :: (qa, oq) :: (156, tabObj ps) :: (L + 1 + 1 + 1 + 1 + 1 + 1 + 1, k7) :: []) ((List.perm_append_comm (l₁ := [_, _]) (l₂ := [_])).append_right _)).release Y3 k1 hsa1 rfl
  replace X4 := X4.perm (mu' := ((fa, q1) :: (l, q2) :: (sa, lst (so.map fun c => Value.ref c.a) nb) :: (qa, oq) :: (156, tabObj ps3) :: (L + 1 + 1 + 1 + 1 + 1 + 1 + 1, k7) :: [])) ((List.perm_append_comm (l₁ := [_]) (l₂ := [_, _])).append_right _)
  have T3 : JA.Fin s s3 := T2.trans F3
  clear X3 Y3 K1 I3 X1 X2 X S1 S2 F3
  by_cases hone : least = 1
  · have c1 : ((least : Nat) : Int) = 1 := by omega
    have ec : colB rs 255 size = colB rs pl size := col_one (by omega) _ _ _
    rw [ec] at csec
    walk2
    · rename_i q; exact absurd q (by simp)
    · exact hret _ _ _ ps3 ⟨T3.1, T3.2⟩ X4 (by simp)
    · exact absurd c1 (by assumption)
    · exact absurd c1 (by assumption)
    · exact absurd c1 (by assumption)
    · exact absurd c1 (by assumption)
  · have c1 : ¬ ((least : Nat) : Int) = 1 := by omega
    walk2
    · exact absurd (show ((least : Nat) : Int) = 1 by assumption) c1
    · exact absurd (show ((least : Nat) : Int) = 1 by assumption) c1
    · exact absurd (show ((least : Nat) : Int) = 1 by assumption) c1
    · rename_i q; exact absurd q (by simp)
    · exact absurd (show ((least : Nat) : Int) = 1 by assumption) c1
    · rename_i s4 t4 S4 X5 a1 a2
      refine hnext _ _ ps3 q1 q2 ⟨(T3.trans (JA.Same.fin S4)).1, (T3.trans (JA.Same.fin S4)).2⟩ F1 X5 ok3 (by omega) ?_
      intro x v hx e
      rw [if_neg hx]
      exact e

end
section
open PySem PySem.W PyProof.Rows PySem.Calls
set_option maxRecDepth 100000




theorem reset_JL12 : True := by
  w_top off
  trivial
theorem mid_of {α : Type} : ∀ {l : List α} {k : Nat} {c : α}, l[k]? = some c → ∃ l1 l2, l = l1 ++ c :: l2 ∧ l1.length = k
  | a :: l, 0, c, h => by
    cases h
    exact ⟨[], l, rfl, rfl⟩
  | a :: l, k + 1, c, h => by
    obtain ⟨l1, l2, e, n⟩ := mid_of (l := l) (k := k) h
    exact ⟨a :: l1, l2, by rw [e]; rfl, by simp [n]⟩
theorem mid_set {α β : Type} (f : α → β) : ∀ {l1 : List α} {k : Nat} {c cn : α} {l2 : List α}, l1.length = k → ((l1 ++ c :: l2).map f).set k (f cn) = (l1 ++ cn :: l2).map f
  | [], _, _, _, _, rfl => rfl
  | a :: l1, _, c, cn, l2, rfl => by
    show f a :: ((l1 ++ c :: l2).map f).set l1.length (f cn) = f a :: (l1 ++ cn :: l2).map f
    rw [mid_set f (l1 := l1) rfl]
set_option maxHeartbeats 2000000 in
theorem law_12 {prog : Program} {w : World} {A : Around} {Qf : Flow → Shared → Prop} {E : Value → Shared → Prop} {s : Shared} {g : Heap} {L fa l ra sa : Addr} {as : List Addr} {rs : List (List Nat)} {m : Str → Option Value} {o1 o2 k7 : Obj} {nb : Nat} {mu : List (Addr × Obj)} {so : List Sh} {least size octet more : Nat} {to tm t3 : Tok}
    {name qual : Str} {params : Arguments} {body : List Stmt} {scope : Scope} {dV kV doc pm cdv ct oc : Value} {an od : Option Addr} {osl : Array (Option Value)}
    (hf : (JA.hd.heap_1 w.params).lookup 220 = some ⟨oc, od, .func (fnOf name qual params body scope dV kV doc pm an cdv ct), osl⟩)
    (hW : Wd w g) (F : FeedOf l o1 o2) (X : Act g L s.heap m ((fa, o1) :: (l, o2) :: (sa, lst (so.map fun c => Value.ref c.a) nb) :: (L + 1 + 1 + 1 + 1 + 1 + 1 + 1, k7) :: mu)) (G : LawG g L fa ra as rs least size)
    (c5 : g.IsCell (L + 1 + 1 + 1 + 1 + 1) (some (.int ((more : Nat) : Int) tm))) (c4 : g.IsCell (L + 1 + 1 + 1 + 1) (some (.int ((octet : Nat) : Int) to))) (d7 : k7.data = .cell none)
    (hsh : ∀ c ∈ so, IsShare g c.a c.x c.b) (hbz : ∀ c ∈ so, c.b.size = size) (hln : so.length = least)
    (hroom : A.depth < 320) (hh : A.handled = none) (hm1 : m "some" = some (.ref sa)) (hm2 : m "size" = some (.int size t3)) (hl1 : 2 ≤ least) (hl2 : least ≤ 16) (hz1 : 4 ≤ size) (hz2 : size ≤ 9) (hmo : more < 256)
    (hnext : ∀ g' s' m' o1 o2 l1 cc cn l2, so = l1 ++ cc :: l2 → cn.x = cc.x → cn.b = bentB cc.b size octet more → Same s s' → Stays g g' → Act g' L s'.heap m' ((fa, o1) :: (l, o2) :: (sa, lst ((l1 ++ cn :: l2).map fun c => Value.ref c.a) nb) :: mu) → (∀ d ∈ l1 ++ cn :: l2, IsShare g' d.a d.x d.b) →
      (∀ (x : Str) v, x ≠ "at" → x ≠ "bent" → m x = some v → m' x = some v) → wpAny (model prog w) A (execs (body.drop 26) (envOfC qual scope L 220 cdv)) Qf E s') :
    wpAny (model prog w) A (execs (body.drop 22) (envOfC qual scope L 220 cdv)) Qf E s := by
  w_on
  generalize hr : List.drop 26 body = rest at hnext
  obtain ⟨ev, hev⟩ : ∃ ev, ev = envOfC qual scope L 220 cdv := ⟨_, rfl⟩
  rw [← hev] at hnext
  refine lookup_both (by k_dflt k_is) hf fun hf => ?_
  injection hf with _ _ hf _
  injection hf with hf
  injection hf with e1 e2 e3 e4 e5 e6 e7 e8 e9 e10 e11 e12 e13 e14 e15
  clear e1 e3 e6 e7 e8 e9 e10 e11 e12 e14 e15
  injection e4 with e4
  subst e4 e2 e5 e13
  clear hf
  simp only [List.drop_succ_cons, List.drop_zero] at hr
  simp only [List.drop_succ_cons, List.drop_zero]
  rw [hr]
  clear hr
  subst hev
  obtain ⟨cfeed, crows, ⟨ts, csec⟩, ⟨ti', cinn⟩, ⟨tl', clea⟩, hrs, hlen, hvals⟩ := G
  have hr7 : A.depth < 799 := by omega
  walk2
  rename_i s1 r t1 q1 q2 S1 l1' h1 F1 X1 s2 S2 X2
  obtain ⟨k, rfl⟩ : ∃ n : Nat, r = (n : Int) := ⟨r.toNat, by omega⟩
  have hk : k < so.length := by omega
  have T2 : Same s s2 := ((Same.refl s).go S1).go S2
  obtain ⟨cc, hcc⟩ : ∃ cc, so[k]? = some cc := ⟨_, List.getElem?_eq_getElem hk⟩
  have hcm : cc ∈ so := List.mem_of_getElem? hcc
  have hcs := hsh cc hcm
  have hit : (so.map fun c : Sh => Value.ref c.a)[((k : Nat) : Int).toNat]? = some (Value.ref cc.a) := by rw [Int.toNat_natCast, List.getElem?_map, hcc]; rfl
  have hk0 : (0 : Int) ≤ (k : Int) := by omega
  have hk63 : (k : Int) < 2 ^ 63 := by omega
  clear X X1 S1 S2
  refine Attribute_any_ ?_
  walk2
  rename_i s3 t3' K3 S3 X3 s4 o7 S4 d7' X4
  obtain ⟨g1, X5, k1, K1⟩ := X4.settle (mu₁ := (fa, q1) :: (l, q2) :: (sa, lst (so.map fun c : Sh => Value.ref c.a) nb) :: mu) (mu₂ := [(L + 1 + 1 + 1 + 1 + 1 + 1 + 1, o7)]) ((List.perm_append_comm (l₁ := [_])).append_left [_, _, _])
  have cd : g1.IsCell (L + 1 + 1 + 1 + 1 + 1 + 1 + 1) (some (.bytes cc.b t3')) := ⟨_, K1 _ (List.mem_singleton.mpr rfl), d7'⟩
  have hW1 := hW.keeps k1
  have c51 := c5.keeps k1
  have c41 := c4.keeps k1
  have T4 : Same s s4 := (T2.go S3).go S4
  have hsz := hbz cc hcm
  have eb : (size : Int) = 0 + (size : Nat) := by omega
  have hm3 : (size : Int) ≤ 1000 := by omega
  clear X2 S3 S4 X3 X4 K1 K3
  refine' comp_eval ?hh X5 (Src.rng (a := 0) (n := size) eb (by decide) hm3 ?hit) (by omega) rfl ?hcell rfl ?hnames rfl (fun i ys s' mu' => Same s s' ∧ mu' = ((fa, q1) :: (l, q2) :: (sa, lst (so.map fun c : Sh => Value.ref c.a) nb) :: mu) ∧ NatsAre ys (bentL cc.b i octet more)) ?hJ ?hJ0 ?turn ?done
  case hh => exact hh
  case hcell => decide
  case hnames => decide
  case hit =>
    intro Q' hQ
    walk2
    exact hQ _ _ ((Same.refl _).go (by assumption)) (by assumption) (by assumption)
  case hJ => rintro i ys s s' mu ⟨a, b⟩ S; exact ⟨a.trans S, b⟩
  case hJ0 => exact ⟨T4.go (Same.refl _), rfl, .nil⟩
  case turn =>
    rintro i ys s5 C Dl I oL oI mc mu1 E' v hi ⟨t, rfl⟩ hv ⟨S5, rfl, hN⟩ nL X6
    have ek : (0 : Int) + (i : Nat) = (i : Nat) := by omega
    rw [ek] at hv
    have hc : cc.b[i]? = some (cc.b.getD i 0) := by
      rw [Array.getD_eq_getD_getElem?, Array.getElem?_eq_getElem (by omega)]; rfl
    have hi2 : i ≤ 1000 := by omega
    have hz9 : cc.b.size ≤ 1000 := by omega
    have ei : ((i : Nat) : Int) = ((i : Nat) : Int) := rfl
    walk2
    · rename_i e1
      refine EltEnd.mk _ X6 ⟨S5.go (Same.refl s5), rfl, ?_⟩
      rw [bentL_succ, if_pos (Int.ofNat.inj e1), bx_nat]
      exact hN.snoc _ _
    · rename_i e1
      refine EltEnd.mk _ X6 ⟨S5.go (Same.refl s5), rfl, ?_⟩
      rw [bentL_succ, if_neg (fun q => e1 (by rw [q])), show (0 : Int) = ((0 : Nat) : Int) from rfl, bx_nat]
      exact hN.snoc _ _
  case done =>
    rintro s5 Dl ys mu1 hl ⟨S5, rfl, hN⟩ X6
    walk2
    refine' j_bytes ?hb X6 (Same.refl _) (X6.list (.head _)) hN (bent_ints hmo) ?hz ?_
    case hb => exact hh
    case hz => rw [hl]; omega
    intro s6 t6 S6 X7
    walk2
    rename_i s8 S8 X8
    replace X8 := X8.less
    have T8 : Same s s8 := (S5.go S6).go S8
    replace hcs := hcs.keeps k1
    clear X6 X7 S5 S6 S8 X5
    refine Attribute_any_ ?_
    walk2
    rename_i s9 t9 K9 S9 X9
    refine j_shareG (h0 := s9.heap) hW1 X9 (by omega) (fun c e => e) ?_
    intro g2 a s10 S10 k2 W2 X10 N10
    walk2
    obtain ⟨la1, la2, hso, hla⟩ := mid_of hcc
    have X11 := X10
    refine js_item X11 (Same.refl _) (.tail _ (.tail _ (.head _))) hk0 (by rw [List.length_map]; omega) hk63 ?_
    intro s11 S11 X12
    have em : ((la1 ++ cc :: la2).map fun c : Sh => Value.ref c.a).set k (Value.ref a) = (la1 ++ (⟨a, cc.x, bentB cc.b size octet more⟩ : Sh) :: la2).map fun c : Sh => Value.ref c.a := mid_set (fun c : Sh => Value.ref c.a) (cn := ⟨a, cc.x, bentB cc.b size octet more⟩) hla
    rw [Int.toNat_natCast, hso, em] at X12
    have kk : Stays g g2 := fun b o e => k2 b o (k1 b o e)
    refine hnext g2 s11 _ q1 q2 la1 cc ⟨a, cc.x, bentB cc.b size octet more⟩ la2 hso rfl rfl (((T8.go S9).go S10).go S11) kk X12 ?_ ?_
    · intro d hd
      rcases List.mem_append.mp hd with hd | hd
      · exact (hsh d (by rw [hso]; exact List.mem_append_left _ hd)).keeps kk
      · rcases List.mem_cons.mp hd with rfl | hd
        · exact N10.share
        · exact (hsh d (by rw [hso]; exact List.mem_append_right _ (.tail _ hd))).keeps kk
    · intro x v n1 n2 e
      rw [if_neg n2, if_neg n1]
      exact e

end
section
open PySem PySem.W PyProof.Rows PySem.Calls
set_option maxRecDepth 100000




theorem reset_JL13 : True := by
  w_top off
  trivial
theorem Act.through {g h h' h0 : Heap} {L b : Addr} {m m0 : Str → Option Value} {mu mu0 : List (Addr × Obj)} (X : Act g L h m mu) (k : (hideAll h [L, b]).StaysIn h') (sm : h.UpToSlots h') (X0 : Act g L h0 m0 mu0) (hb : h0.objs.size ≤ b) (hm : ∀ p ∈ mu, ∃ o, h0.get? p.1 = some o) : Act g L h' m mu := by
  have hg : ∀ c o, g.get? c = some o → c ∉ [L, b] := fun c o e q => by
    rcases List.mem_cons.mp q with rfl | q
    · rw [X.off] at e; cases e
    · rw [List.mem_singleton.mp q] at e
      exact absurd (Heap.lt_size (X0.keep _ _ e)) (Nat.not_lt.mpr hb)
  refine ⟨sm.ns X.ns, fun c o e => k c o (hideAll_get _ (X.keep c o e) (hg c o e)), X.off, fun p hp => ⟨k _ _ (hideAll_get _ (X.mus p hp).1 fun q => ?_), (X.mus p hp).2⟩, X.nd⟩
  rcases List.mem_cons.mp q with q | q
  · exact (X.mus p hp).2.1 q
  · obtain ⟨o, e⟩ := hm p hp
    rw [List.mem_singleton.mp q] at e
    exact absurd (Heap.lt_size e) (Nat.not_lt.mpr hb)
set_option maxHeartbeats 2000000 in
theorem law_13 {prog : Program} {w : World} {A : Around} {Qf : Flow → Shared → Prop} {E : Value → Shared → Prop} {s : Shared} {g : Heap} {L fa l ra sa ft qa : Addr} {as : List Addr} {rs : List (List Nat)} {m : Str → Option Value} {o1 o2 oq : Obj} {nb : Nat} {ps : Array Value} {so : List Sh} {least size more tu : Nat} {SEC2 IN2 : Array UInt8}
    {name qual : Str} {params : Arguments} {body : List Stmt} {scope : Scope} {dV kV doc pm cdv ct oc : Value} {an od : Option Addr} {osl : Array (Option Value)}
    (hf : (JA.hd.heap_1 w.params).lookup 220 = some ⟨oc, od, .func (fnOf name qual params body scope dV kV doc pm an cdv ct), osl⟩)
    (hW : Wd w g) (X : Act g L s.heap m ((fa, o1) :: (l, o2) :: (sa, lst (so.map fun c => Value.ref c.a) nb) :: (qa, oq) :: (156, tabObj ps) :: [])) (G : LawG g L fa ra as rs least size)
    (C160 : CodeOf g 160 156) (ok : TriplesOk ps.toList) (hS : SealAt w g ft (upB (colB rs 254 size) 4) (dropB (colB rs 254 size) 4) (colB rs 255 size) tu more)
    (hsh : ∀ c ∈ so, IsShare g c.a c.x c.b) (hsx : ∀ c ∈ so, 0 ≤ c.x ∧ c.x < 256 ∧ c.b.size = size) (hnd : (so.map (·.x)).Nodup) (hln : so.length = least)
    (hroom : A.depth < 320) (hu : A.units < 7000) (hh : A.handled = none) (hm1 : m "some" = some (.ref sa)) (hm2 : m "seal" = some (.ref ft)) (hl1 : 2 ≤ least) (hl2 : least ≤ 16) (hz1 : 4 ≤ size) (hz2 : size ≤ 9)
    (hfr : A.frames = some (envOfC qual scope L 220 cdv :: [])) (hE : ∀ e, PassesOwnAt (model prog w) (A.mark (some (.ref e))) A (envOfC qual scope L 220 cdv) E)
    (hI1 : ∀ r, InterpR so 255 size r → r = SEC2) (hI2 : ∀ r, InterpR so 254 size r → r = IN2) (hS2 : SEC2.size = size) (hN2 : IN2.size = size) (hbad : upB IN2 4 ≠ upB (tellB (dropB IN2 4) SEC2 (upB (colB rs 254 size) 4) (dropB (colB rs 254 size) 4) (colB rs 255 size) tu more) 4)
    (hret : ∀ s' m' mu' p, JA.Fin s s' → Act g L s'.heap m' mu' → (156, tabObj p) ∈ mu' → Qf (.ret (.bool true)) s') :
    wpAny (model prog w) A (execs (body.drop 26) (envOfC qual scope L 220 cdv)) Qf E s := by
  w_on



  refine lookup_both (by k_dflt k_is) hf fun hf => ?_
  injection hf with _ _ hf _
  injection hf with hf
  injection hf with e1 e2 e3 e4 e5 e6 e7 e8 e9 e10 e11 e12 e13 e14 e15
  clear e1 e3 e6 e7 e8 e9 e10 e11 e12 e14 e15
  injection e4 with e4
  subst e4 e2 e5 e13
  clear hf

  simp only [List.drop_succ_cons, List.drop_zero]



  obtain ⟨cfeed, crows, ⟨ts, csec⟩, ⟨ti', cinn⟩, ⟨tl', clea⟩, hrs, hlen, hvals⟩ := G
  have hSECz : (colB rs 255 size).size = size := colB_size rs 255 size
  walk2
  refine wpAny_Try_except ?_
  walk2
  obtain ⟨g1, X1, k1, K1⟩ := X.settle (mu₁ := (fa, o1) :: (l, o2) :: (qa, oq) :: (156, tabObj ps) :: []) (mu₂ := [(sa, lst (so.map fun c : Sh => Value.ref c.a) nb)]) (((List.perm_append_comm (l₁ := [_]) (l₂ := [_, _])).append_left [_, _]))
  have hW1 := hW.keeps k1
  have hSA : SharesAt g1 sa so := ⟨⟨_, K1 _ (List.mem_singleton.mpr rfl), rfl, nb, rfl⟩, fun c hc => (hsh c hc).keeps k1⟩
  have m156 := X1.mus (156, tabObj ps) (by simp)
  refine wpAny_call (recover_more hW1 X1.keep hroom hu hh hSA hl1 hln hl2 hz2 hsx hnd hS2 hN2 (hS.keeps k1) m156.1 m156.2.2 ok (C160.keeps k1) hI1 hI2 (fun q => absurd q hbad) ?bad)
  case bad =>
    intro _
    refine ⟨_, hfr, fun sA ps' FA off h156 => ?_⟩
    have XA := Act.after (pre := [_, _, _, _]) (mu := [(156, tabObj ps)]) (mu' := [(156, tabObj ps')]) (post := []) X off rfl (by
      intro p hp
      rw [List.mem_singleton.mp hp]
      exact h156)
    have hLs : L ≠ s.heap.objs.size := Nat.ne_of_lt X.ltL
    refine ⟨hideAll sA.heap [L, s.heap.objs.size], hideAll_stays _ _, hideAll_none _ (.tail _ (.head _)), ?_, fun s' e t Fs hfl hsm => ?_⟩
    · obtain ⟨oL, es, ep, eL, dL, _⟩ := XA.ns
      exact ⟨(fun q => nomatch q), ⟨L, oL, rfl, hideAll_none _ (.head _), eL, fun vs q => (by rw [dL] at q; cases q)⟩, trivial⟩
    have thr : ∀ h', (hideAll sA.heap [L, s.heap.objs.size]).StaysIn h' → sA.heap.UpToSlots h' → Act g L h' m ([_, _, _, _] ++ ([(156, tabObj ps')] ++ [])) := fun h' a b =>
      XA.through a b X (Nat.le_refl _) fun p hp => by
        have : p.1 ∈ List.map (·.1) ([(fa, o1), (l, o2), (sa, lst (so.map fun c : Sh => Value.ref c.a) nb), (qa, oq), (156, tabObj ps)]) := List.mem_map.mpr (by
          rcases List.mem_append.mp hp with hp | hp
          · exact ⟨p, List.mem_append_left [(156, tabObj ps)] hp, rfl⟩
          · rw [List.append_nil] at hp
            rw [List.mem_singleton.mp hp]
            exact ⟨(156, tabObj ps), by simp, rfl⟩)
        obtain ⟨q, hq, e⟩ := List.mem_map.mp this
        exact ⟨q.2, by rw [← e]; exact (X.mus q hq).1⟩
    refine wpAny_looks_onW hfr rfl hfl fun h4 hheld4 hsm4 => ?_
    refine wpAny_landsW hheld4 fun h5 hheld hsm5 => ?_
    have X5 := thr h5 hheld.1 ((hsm.trans hsm4).trans hsm5)
    obtain ⟨ob, hob, hobc⟩ := hheld.there
    refine wpAny_handleBy_cons (codeAny_handlers_test ?_) (by intro q; cases q)
    w_on
    refine jn_global hW X5 rfl rfl rfl (by k_dflt k_is) ?_ (by decide)
    obtain ⟨mg, GG⟩ := hW.mg
    obtain ⟨bm, N, nm, qn, bs, hdct, sn, sub, ab, col, dd, q0, q1, q2, q3, q5, mN, hC, hN, hni, TL⟩ := (own31 (hW.keeps X5.keep).K (GG.keeps X5.keep)).obj
    refine wpAny_excMatches_sub_self hC hob hobc (TL.hasType (by rfl)) (codeAny_handlers_suite ?_)
    refine lands_againW hheld fun h6 hfl6 hsm6 => ?_
    have X6 := thr h6 hfl6.1 (((hsm.trans hsm4).trans hsm5).trans hsm6)
    refine wpAny_passesOwnAt (hE _) ?_
    walk2
    exact hret _ _ _ ps' ⟨Fs.1, Fs.2⟩ X6 (by simp)

end
section
open PySem PySem.W PyProof.Rows PySem.Calls
set_option maxRecDepth 100000



theorem reset_JLaw : True := by
  w_top off
  trivial
theorem cells_one {cm : Str → Option Value} {n : Str} {c : Addr} {cs : List (Str × Addr)} {cells : List (Addr × Obj)} (x : CellsAre cm ((n, c) :: cs) cells) :
    ∃ o r, cells = (c, o) :: r ∧ o.data = .cell (cm n) ∧ CellsAre cm cs r := by
  cases x with | cons h r => exact ⟨_, _, rfl, h, r⟩
theorem cells_none {cm : Str → Option Value} {cells : List (Addr × Obj)} (x : CellsAre cm [] cells) : cells = [] := by cases x; rfl
theorem cells_eleven {cm : Str → Option Value} {n0 n1 n2 n3 n4 n5 n6 n7 n8 n9 n10 : Str} {c0 c1 c2 c3 c4 c5 c6 c7 c8 c9 c10 : Addr} {cells : List (Addr × Obj)} (x : CellsAre cm [(n0, c0), (n1, c1), (n2, c2), (n3, c3), (n4, c4), (n5, c5), (n6, c6), (n7, c7), (n8, c8), (n9, c9), (n10, c10)] cells) :
    ∃ o0 o1 o2 o3 o4 o5 o6 o7 o8 o9 o10, cells = [(c0, o0), (c1, o1), (c2, o2), (c3, o3), (c4, o4), (c5, o5), (c6, o6), (c7, o7), (c8, o8), (c9, o9), (c10, o10)] ∧ o0.data = .cell (cm n0) ∧ o1.data = .cell (cm n1) ∧ o2.data = .cell (cm n2) ∧ o3.data = .cell (cm n3) ∧ o4.data = .cell (cm n4) ∧ o5.data = .cell (cm n5) ∧ o6.data = .cell (cm n6) ∧ o7.data = .cell (cm n7) ∧ o8.data = .cell (cm n8) ∧ o9.data = .cell (cm n9) ∧ o10.data = .cell (cm n10) := by
  obtain ⟨o0, r0, e0, h0, x⟩ := cells_one x
  obtain ⟨o1, r1, e1, h1, x⟩ := cells_one x
  obtain ⟨o2, r2, e2, h2, x⟩ := cells_one x
  obtain ⟨o3, r3, e3, h3, x⟩ := cells_one x
  obtain ⟨o4, r4, e4, h4, x⟩ := cells_one x
  obtain ⟨o5, r5, e5, h5, x⟩ := cells_one x
  obtain ⟨o6, r6, e6, h6, x⟩ := cells_one x
  obtain ⟨o7, r7, e7, h7, x⟩ := cells_one x
  obtain ⟨o8, r8, e8, h8, x⟩ := cells_one x
  obtain ⟨o9, r9, e9, h9, x⟩ := cells_one x
  obtain ⟨o10, r10, e10, h10, x⟩ := cells_one x
  exact ⟨o0, o1, o2, o3, o4, o5, o6, o7, o8, o9, o10, by rw [e0, e1, e2, e3, e4, e5, e6, e7, e8, e9, e10, cells_none x], h0, h1, h2, h3, h4, h5, h6, h7, h8, h9, h10⟩

theorem picked_facts {rs : List (List Nat)} {size many : Nat} {sl so rem : List Sh} (hmap : sl.map (fun c => (c.x, c.b)) = (List.range many).map (fun i : Nat => ((i : Int), colB rs i size))) (hm : many ≤ 16) (hperm : (so ++ rem).Perm sl) :
    (∀ c ∈ so, c ∈ sl) ∧ OnC rs size so ∧ (so.map (·.x)).Nodup ∧ (∀ c ∈ so, 0 ≤ c.x ∧ c.x < 16) ∧ (∀ c ∈ so, c.b.size = size) := by
  have hsub : ∀ c ∈ so, c ∈ sl := fun c hc => hperm.subset (List.mem_append_left _ hc)
  have at_ : ∀ c ∈ sl, ∃ i : Nat, i < many ∧ c.x = (i : Int) ∧ c.b = colB rs i size := fun c hc => by
    have : (c.x, c.b) ∈ sl.map (fun c => (c.x, c.b)) := List.mem_map.mpr ⟨c, hc, rfl⟩
    rw [hmap] at this
    obtain ⟨i, hi, q⟩ := List.mem_map.mp this
    injection q with q1 q2
    exact ⟨i, List.mem_range.mp hi, q1.symm, q2.symm⟩
  refine ⟨hsub, fun c hc => ?_, ?_, fun c hc => ?_, fun c hc => ?_⟩
  · obtain ⟨i, hi, a, b⟩ := at_ c (hsub c hc)
    exact ⟨i, by omega, a, b⟩
  · have hx : sl.map (·.x) = (List.range many).map (fun i : Nat => (i : Int)) := by
      have := congrArg (List.map Prod.fst) hmap
      simpa [List.map_map, Function.comp_def] using this
    have hn : (sl.map (·.x)).Nodup := by
      rw [hx]
      exact List.Pairwise.map _ (fun a b (h : a ≠ b) q => h (Int.ofNat.inj q)) List.nodup_range
    have h2 := (hperm.map (·.x)).nodup_iff.mpr hn
    rw [List.map_append] at h2
    exact (List.nodup_append.mp h2).1
  · obtain ⟨i, hi, a, b⟩ := at_ c (hsub c hc)
    omega
  · obtain ⟨i, hi, a, b⟩ := at_ c (hsub c hc)
    rw [b, colB_size]
theorem cell_of_keeps {g h : Heap} {c : Addr} {v : Option Value} (x : g.IsCell c v) (k : Stays g h) : h.IsCell c v := x.keeps k
set_option maxHeartbeats 4000000 in
theorem law_spec {prog : Program} {w : World} {A : Around} {s : Shared} {g : Heap} {R : Result → Shared → Prop} {sc : Addr} {items : List Value} {ns : List Int} {ps : Array Value}
    (hW : Wd w g) (hk : Stays g s.heap) (hroom : A.depth < 319) (hu : A.units < 6990) (hh : A.handled = none) (hfr : A.frames = some [])
    (hl : g.IsList sc items.toArray) (hI : IntsAre items ns) (hlen : items.length ≤ 63)
    (t156 : s.heap.get? 156 = some (tabObj ps)) (ok : TriplesOk ps.toList) (t210 : s.heap.get? 210 = some (tabObj #[])) (t217 : s.heap.get? 217 = some (tabObj #[])) (g156 : g.get? 156 = none) (g210 : g.get? 210 = none) (g217 : g.get? 217 = none)
    (C160 : CodeOf g 160 156) (C214 : CodeHd g 214 210) (C219 : CodeHd g 219 217)
    (h : ∀ s', JA.Fin s s' → Off [156, 210, 217] s.heap s'.heap → (∃ p, s'.heap.get? 156 = some (tabObj p)) → (∃ p, s'.heap.get? 210 = some (tabObj p)) → (∃ p, s'.heap.get? 217 = some (tabObj p)) → R (.ok (.ret (.bool true))) s') :
    codeAny (model prog w) A (.call (.ref 220) ⟨[.ref sc], []⟩) R s := by
  w_on
  refine enterC (binds := [("script", .ref sc)]) (mu := [(156, tabObj ps), (210, tabObj #[]), (217, tabObj #[])]) hW hk (by simp [t156, t210, t217, g156, g210, g217]) (by simp) (by k_dflt k_is) (by k_dflt k_is) (by unfold recursionLimit; omega) (by exact BindsTo.of_eq rfl) ?_ (by decide) ?_ (by exact rfl) (by exact rfl) (by exact rfl)
  · intro n y hy
    simp only [List.mem_cons, List.not_mem_nil, or_false] at hy
    rcases hy with rfl
    exact .inl rfl
  intro g1 h1 tk cells hW1 gs gk hsame hold Y X1
  obtain ⟨ob, oa, o9, o8, o7, o6, o5, o4, o3, o2, o1, rfl, db, da, d9, d8, d7, d6, d5, d4, d3, d2, d1⟩ := cells_eleven Y
  replace db : ob.data = .cell none := db
  replace da : oa.data = .cell none := da
  replace d9 : o9.data = .cell none := d9
  replace d8 : o8.data = .cell none := d8
  replace d7 : o7.data = .cell none := d7
  replace d6 : o6.data = .cell none := d6
  replace d5 : o5.data = .cell none := d5
  replace d4 : o4.data = .cell none := d4
  replace d3 : o3.data = .cell none := d3
  replace d2 : o2.data = .cell none := d2
  replace d1 : o1.data = .cell none := d1
  clear Y
  replace X1 : Act g1 s.heap.objs.size h1 (fun y => if y = "script" then some (.ref sc) else none) ((s.heap.objs.size + 1 + 1 + 1 + 1 + 1 + 1 + 1 + 1 + 1 + 1 + 1, ob) :: (s.heap.objs.size + 1 + 1 + 1 + 1 + 1 + 1 + 1 + 1 + 1 + 1, oa) :: (s.heap.objs.size + 1 + 1 + 1 + 1 + 1 + 1 + 1 + 1 + 1, o9) :: (s.heap.objs.size + 1 + 1 + 1 + 1 + 1 + 1 + 1 + 1, o8) :: (s.heap.objs.size + 1 + 1 + 1 + 1 + 1 + 1 + 1, o7) :: (s.heap.objs.size + 1 + 1 + 1 + 1 + 1 + 1, o6) :: (s.heap.objs.size + 1 + 1 + 1 + 1 + 1, o5) :: (s.heap.objs.size + 1 + 1 + 1 + 1, o4) :: (s.heap.objs.size + 1 + 1 + 1, o3) :: (s.heap.objs.size + 1 + 1, o2) :: (s.heap.objs.size + 1, o1) :: (156, tabObj ps) :: (210, tabObj #[]) :: (217, tabObj #[]) :: []) := X1
  have hold1 : Off [156, 210, 217] s.heap g1 := fun b o hb e => hsame b o e (by simpa using hb)
  have hroom1 : A.depth + 1 < 320 := by omega
  have hu1 : A.units + 3 < 7000 := by omega
  refine wpAny_noRaise ?_
  have F0 : JA.Fin s { s with heap := h1, toks := tk } := ⟨rfl, id⟩
  have hl1' : g1.IsList sc items.toArray := let ⟨o, e, r⟩ := hl; ⟨o, gs _ _ e, r⟩
  generalize hLL : s.heap.objs.size = LL at *
  refine law_1 (A := A.deeper _) (by k_dflt k_is) hW1 X1 d1 d2 d3 da db hroom1 hh hl1' hI hlen rfl ?_
  intro s2 m2 fa l p1 p2 j1 jb least many size t1 t2 t3 S2 F2 X2 dj1 djb hmmany hmsize hl1 hl2 hl3 hl4 hz1 hz2
  have FF2 := F0.trans (JA.Same.fin S2)
  clear F0 S2 X1 hl1' hl hI
  refine law_2 (A := A.deeper _) (by k_dflt k_is) hW1 F2 X2 dj1 d2 d3 da djb hroom1 hh hmmany hmsize hl1 hl2 hz1 hz2 ?_
  intro g3 s3 p3 p4 ra as rs S3 k3 F3 X3 G3
  have FF3 := FF2.trans (JA.Same.fin S3)
  have hW3 := hW1.keeps k3
  clear FF2 S3 X2 F2
  refine law_3 (t3 := t3) (A := A.deeper _) (by k_dflt k_is) hW3 X3 G3 hroom1 hh hmmany hl1 hl4 hz2 d8 d9 ?_
  intro g4 s4 qa da' nq S4 k4 X4 c8 c9 hPA
  have FF4 := FF3.trans (JA.Same.fin S4)
  have hW4 := hW3.keeps k4
  have G4 := G3.keeps k4
  have kk4 : Stays g g4 := fun b o e => k4 b o (k3 b o (gs b o e))
  clear FF3 S4 X3 G3
  refine law_4 (A := A.deeper _) (by k_dflt k_is) hW4 F3 X4 G4 (C219.keeps kk4) c8 c9 d4 d5 hroom1 hh hmmany hmsize hz1 hz2 ?_
  intro g5 s5 m5 p5 p6 fd octet more tu to tm tt ti tl S5 k5 F5 X5 hA c5 c4 hm5many hm5size hm5draw hm5turn hoct hmo hmo0 htu htune h217
  have FF5 := FF4.trans (JA.Same.fin S5)
  have hW5 := hW4.keeps k5
  have G5 := G4.keeps k5
  have kk5 : Stays g g5 := fun b o e => k5 b o (kk4 b o e)
  have hPA5 := hPA.keeps k5
  have c85 := c8.keeps k5
  have c95 := c9.keeps k5
  clear FF4 S5 X4 G4 F3
  refine law_5 (to := to) (octet := octet) (A := A.deeper _) (by k_dflt k_is) hW5 X5 G5 (C214.keeps kk5) (C160.keeps kk5) ok hPA5 hA c5 hroom1 hu1 hh hm5many hm5size hm5draw hm5turn hl1 hl3 hl4 hz1 hz2 hmo ?_
  intro g6 s6 m6 sa sh ft qs nq' ps6 S6 k6 X6 ok6 hS hSA hmapS hqs hmsh hmseal hm6size h210
  have FF6 := FF5.trans S6
  have hW6 := hW5.keeps k6
  have G6 := G5.keeps k6
  have kk6 : Stays g g6 := fun b o e => k6 b o (kk5 b o e)
  have hPA6 := hPA5.keeps k6
  clear FF5 S6 X5 G5
  refine law_6 (A := A.deeper _) (by k_dflt k_is) hW6 X6 G6 (c85.keeps k6) hqs hu1 hm6size hl1 (by omega) ?_
  intro s7 S7 X7
  have FF7 := FF6.trans (JA.Same.fin S7)
  clear FF6 S7 X6
  refine law_7 (A := A.deeper _) (by k_dflt k_is) hW6 X7 (c95.keeps k6) hSA hmapS hPA6 hroom1 hu1 hh hmsh hl4 ?_
  intro g8 s8 S8 k8 X8
  have FF8 := FF7.trans (JA.Same.fin S8)
  have hW8 := hW6.keeps k8
  clear FF7 S8 X7
  refine law_8 (A := A.deeper _) (by k_dflt k_is) hW8 X8 ((c95.keeps k6).keeps k8) (hPA6.keeps k8) d6 hroom1 hh hl4 ?_
  intro g9 s9 la nl sl S9 k9 X9 c6 hsl hmapL
  have FF9 := FF8.trans (JA.Same.fin S9)
  have hW9 := hW8.keeps k9
  have k69 : Stays g6 g9 := fun b o e => k9 b o (k8 b o e)
  have kk9 : Stays g g9 := fun b o e => k69 b o (kk6 b o e)
  have G9 := G6.keeps k69
  have hsll : sl.length = many := by
    have := congrArg List.length hmapL
    simpa using this
  clear FF8 S9 X8 G6
  refine law_9 (A := A.deeper _) (by k_dflt k_is) hW9 F5 X9 G9 c6 hroom1 hh (by omega) (by omega) ?_
  intro s10 p7 p8 sb nb so rem S10 F10 X10 hso hperm
  have FF10 := FF9.trans (JA.Same.fin S10)
  obtain ⟨hsub, hon, hnd, hxr, hbz⟩ := picked_facts hmapL hl4 hperm
  have hsh9 : ∀ c ∈ so, IsShare g9 c.a c.x c.b := fun c hc => hsl c (hsub c hc)
  have hS9 := hS.keeps k69
  have C9 := C160.keeps kk9
  have tab217 : ∃ p, g9.get? 217 = some (tabObj p) := h217.imp fun p e => k69 _ _ (k6 _ _ e)
  have tab210 : ∃ p, g9.get? 210 = some (tabObj p) := h210.imp fun p e => k69 _ _ e
  have k19 : Stays g1 g9 := fun b o e => k69 b o (k6 b o (k5 b o (k4 b o (k3 b o e))))
  have fin : ∀ (g' : Heap) s' m' mu' p, Stays g9 g' → JA.Fin s s' → Act g' LL s'.heap m' mu' → (156, tabObj p) ∈ mu' → R (.ok (.ret (.bool true))) s' := fun g' s' m' mu' p kx F X hm =>
    h s' F (fun b o hb e => X.keep _ _ (kx _ _ (k19 _ _ (hold1 b o hb e)))) ⟨p, X.get hm⟩ (tab210.imp fun p e => X.keep _ _ (kx _ _ e)) (tab217.imp fun p e => X.keep _ _ (kx _ _ e))
  clear FF9 S10 X9 hold hold1 hsame
  refine law_10 (A := A.deeper _) (by k_dflt k_is) hW9 X10 G9 C9 ok6 hS9 hsh9 hon hnd hso hroom1 hu1 hh rfl hmseal hl1 (by omega) hz1 hz2 ?_
  intro s11 ps11 S11 X11 ok11
  have FF11 := FF10.trans S11
  clear X10 S11 FF10
  refine law_11 (A := A.deeper _) (by k_dflt k_is) hW9 F10 X11 G9 C9 ok11 hsh9 hon hnd hso hroom1 hh rfl hl1 (by omega) hz1 hz2 (fun s' m' mu' p F X hm => fin g9 s' m' mu' p (fun _ _ e => e) (FF11.trans F) X hm) ?_
  intro s12 m12 ps12 p9 pa S12 F12 X12 ok12 h2 hm12
  have FF12 := FF11.trans S12
  clear X11 S12 FF11
  have X12b := X12.perm ((List.perm_append_comm (l₁ := [_, _]) (l₂ := [_])).append_left [_, _, _])
  dsimp only [List.cons_append, List.nil_append] at X12b
  refine law_12 (A := A.deeper _) (by k_dflt k_is) hW9 F12 X12b G9 ((c5.keeps k6).keeps k69) ((c4.keeps k6).keeps k69) d7 hsh9 hbz hso hroom1 hh (hm12 _ _ (by decide) rfl) (hm12 _ _ (by decide) hm6size) h2 (by omega) hz1 hz2 hmo ?_
  intro g13 s13 m13 pb pc l1 cc cn l2 hsplit ex eb S13 k13 X13 hsh13 hm13
  have FF13 := FF12.trans (JA.Same.fin S13)
  subst hsplit
  have hv : ∀ r ∈ rs, ∀ v ∈ r, v < 256 := fun r hr => (G9.vals r hr).2
  obtain ⟨e1, e1lt, e1ne, hI1⟩ := interp_bent hon hv hnd (hso.trans G9.len.symm) ex eb hmo hmo0 (x := 255) (by decide) (fun d hd q => by have := hxr d hd; omega)
  obtain ⟨e2, e2lt, e2ne, hI2⟩ := interp_bent hon hv hnd (hso.trans G9.len.symm) ex eb hmo hmo0 (x := 254) (by decide) (fun d hd q => by have := hxr d hd; omega)
  refine law_13 (A := A.deeper _) (by k_dflt k_is) (hW9.keeps k13) X13 (G9.keeps k13) (C9.keeps k13) ok12 (hS9.keeps k13) hsh13 ?hsx ?hnd ?hln hroom1 hu1 hh (hm13 _ _ (by decide) (by decide) (hm12 _ _ (by decide) rfl)) (hm13 _ _ (by decide) (by decide) (hm12 _ _ (by decide) hmseal)) h2 (by omega) hz1 hz2 ?hfr (fun _ => PassesOwnAt.never) hI1 hI2 (bent_size _ _ _ _) (bent_size _ _ _ _) (hash_off hz1 hoct hmo hmo0 e1lt e1ne e2lt e2ne htu htune) ?hret
  case hfr =>
    show A.frames.map _ = _
    rw [hfr]
    rfl
  case hsx =>
    intro d hd
    rcases List.mem_append.mp hd with hd | hd
    · have hm : d ∈ l1 ++ cc :: l2 := List.mem_append_left _ hd
      have := hxr d hm
      exact ⟨by omega, by omega, hbz d hm⟩
    · rcases List.mem_cons.mp hd with rfl | hd
      · have hm : cc ∈ l1 ++ cc :: l2 := List.mem_append_right _ (.head _)
        have := hxr cc hm
        exact ⟨by omega, by omega, by rw [eb, bent_size]⟩
      · have hm : d ∈ l1 ++ cc :: l2 := List.mem_append_right _ (.tail _ hd)
        have := hxr d hm
        exact ⟨by omega, by omega, hbz d hm⟩
  case hnd =>
    rw [List.map_append, List.map_cons, ex, ← List.map_cons, ← List.map_append]
    exact hnd
  case hln =>
    rw [← hso]
    simp
  case hret => exact fun s' m' mu' p F X hm => fin g13 s' m' mu' p k13 (FF13.trans F) X hm

end
end JA
end
section
open PySem PySem.W PyProof.Rows PySem.Calls
namespace JA
set_option maxRecDepth 100000
-- nomac
theorem free39 (w : World) : ((JA.hd.heap_1 w.params).all fun p => p.1 != 156 && p.1 != 210 && p.1 != 217) = true := by kernel_rfl
theorem codeOf_hd {h : Heap} {c P : Addr} (C : CodeHd h c P) : CodeOf h c P :=
  let ⟨o, vs, file, tf, flags, tg, inF, text, tt, e1, e2, e3, e4, f1, f2, f3, f4, f5, f6⟩ := C
  ⟨⟨o, vs, file, tf, flags, tg, inF, text, tt, e1, e3, f1, f2, f3, f4, f5, f6⟩, ⟨o, vs, e1, e2, e3, e4⟩⟩
theorem codeHd_at {h h' : Heap} {c P : Addr} (C : CodeHd h c P) (k : ∀ o, h.get? c = some o → h'.get? c = some o) : CodeHd h' c P :=
  let ⟨o, vs, file, tf, flags, tg, inF, text, tt, e, r⟩ := C; ⟨o, vs, file, tf, flags, tg, inF, text, tt, k _ e, r⟩
theorem was_table {h h' : Heap} {c P : Addr} {p : Array Value} {o : Obj} (C : CodeHd h c P) (e : h.get? P = some (tabObj #[])) (e' : h'.get? P = some (tabObj p)) (eo : h.get? P = some o) : asItWas h h' P o := by
  rw [e] at eo
  cases eo
  obtain ⟨oc, vs, file, tf, flags, tg, inF, text, tt, e1, e2, e3, e4, _⟩ := C
  refine .inr (.inl ⟨⟨c, oc, vs, e1, e2, e3, e4⟩, rfl, #[], p, rfl, ?_⟩)
  rw [e', Array.empty_append]
theorem law_main {prog : Program} {w : World} {s : Shared} {mg mb : Str → Option Value} {p : Program} {loose : List Str} {mean : ExcName → Option Value} {R : Result → Shared → Prop} {sc : Addr} {vs : List Value} {ws : List Int}
    (KX : (JA.hd.heap_1 w.params).In s.heap) (T : Top p loose mean mg mb s.heap) (h160 : CodeHd s.heap 160 156 ∧ s.heap.get? 156 = some (tabObj #[])) (h214 : CodeHd s.heap 214 210 ∧ s.heap.get? 210 = some (tabObj #[])) (h219 : CodeHd s.heap 219 217 ∧ s.heap.get? 217 = some (tabObj #[]))
    (hL : s.heap.IsList sc vs.toArray) (hI : IntsAre vs ws) (hlen : vs.length ≤ 63)
    (h : ∀ s', s'.os = s.os → (AllBare s.gens → AllBare s'.gens) → OldK s.heap s'.heap → R (.ok (.ret (.bool true))) s') : codeAny (model prog w) callerA (.call (.ref 220) ⟨[.ref sc], []⟩) R s := by
  have gk : ∀ b o, s.heap.get? b = some o → b ∉ ([156, 210, 217] : List Addr) → (hideAll s.heap [156, 210, 217]).get? b = some o := fun b o e hb => hideAll_get _ e hb
  have hk := hideAll_stays s.heap [156, 210, 217]
  have gns : ∀ {a m}, s.heap.Ns a m → a ∉ ([156, 210, 217] : List Addr) → (hideAll s.heap [156, 210, 217]).Ns a m := fun ⟨o, es, ep, e, r⟩ ha => ⟨o, es, ep, gk _ _ e ha, r⟩
  have tabs : ∀ {b o}, s.heap.get? b = some o → o.cls ≠ .none → b ∉ ([156, 210, 217] : List Addr) := fun {b o} e hc q => by
    simp only [List.mem_cons, List.not_mem_nil, or_false] at q
    rcases q with rfl | rfl | rfl
    · rw [h160.2] at e; cases e; exact hc rfl
    · rw [h214.2] at e; cases e; exact hc rfl
    · rw [h219.2] at e; cases e; exact hc rfl
  have hW : Wd w (hideAll s.heap [156, 210, 217]) := by
    refine ⟨fun a o e => gk a o (KX a o e) fun q => ?_, ⟨mg, gns T.g (by decide)⟩, ⟨mb, gns T.b (by decide), T.builtins⟩, ?_, ?_⟩
    · have := List.all_eq_true.mp (free39 w) (a, o) (mem_of_lookupK e)
      simp only [List.mem_cons, List.not_mem_nil, or_false] at q
      rcases q with rfl | rfl | rfl <;> simp at this
    · obtain ⟨mc, a, b⟩ := T.nolimit
      exact ⟨mc, gns a (by decide), b⟩
    · obtain ⟨bm, ob, h1, h2, h3, h4, h5, h6⟩ := T.bmain
      exact ⟨mg, bm, ob, gns T.g (by decide), h1, h2, gk _ _ h3 (tabs h3 (by rw [h4]; exact nofun)), h4, h5, h6⟩
  refine law_spec hW hk (by decide) (by decide) rfl rfl (let ⟨o, e, q, r⟩ := hL; ⟨o, gk _ _ e (tabs e (by rw [q]; exact nofun)), q, r⟩) hI hlen h160.2 trivial h214.2 h219.2
    (hideAll_none _ (by decide)) (hideAll_none _ (by decide)) (hideAll_none _ (by decide)) (codeOf_hd (codeHd_at h160.1 fun o e => gk _ _ e (by decide))) (codeHd_at h214.1 fun o e => gk _ _ e (by decide)) (codeHd_at h219.1 fun o e => gk _ _ e (by decide)) ?_
  rintro s' ⟨f1, f2⟩ off ⟨p1, q1⟩ ⟨p2, q2⟩ ⟨p3, q3⟩
  refine h s' f1 f2 ⟨fun b o e => ?_, fun b o e => ?_⟩
  · by_cases hb : b ∈ ([156, 210, 217] : List Addr)
    · simp only [List.mem_cons, List.not_mem_nil, or_false] at hb
      rcases hb with rfl | rfl | rfl
      · exact was_table h160.1 h160.2 q1 e
      · exact was_table h214.1 h214.2 q2 e
      · exact was_table h219.1 h219.2 q3 e
    · exact .inl (off b o hb e)
  · by_cases hb : b ∈ ([156, 210, 217] : List Addr)
    · simp only [List.mem_cons, List.not_mem_nil, or_false] at hb
      rcases hb with rfl | rfl | rfl
      · exact ⟨_, q1⟩
      · exact ⟨_, q2⟩
      · exact ⟨_, q3⟩
    · exact ⟨o, off b o hb e⟩

end JA
end
section
open PySem PySem.W PyProof.Rows PySem.Calls
namespace JA
set_option maxRecDepth 100000
theorem len_le {vs : List Value} {ws : List Int} (hI : IntsAre vs ws) (h : ¬ (63 : Int) < ws.length) : vs.length ≤ 63 := by
  have := IntsAre.length hI
  omega
end JA
end
open PySem PySem.W PyProof.Rows PySem.Calls
set_option maxRecDepth 100000 in
set_option maxHeartbeats 8000000 in
theorem PySem.Challenge.cw_ja0050_01_holds : PySem.Challenge.rw_ja0050_01.Holds := by
  refine JA.hd ?_
  k_fill
  intro w s₀ s₁ mg mb G Y fa o pm cd doc dV kV ho hd hcd hD hmg hg args vals as hpre hlay hrd hwl hlo
  have KX := km_in_of Y
  have KT := km_tabs_of Y
  refine Ground.open G ?_
  intro T B D TE TW
  wrow_args hpre hlay hrd hwl hlo
  refine enter_call ?_
  rename_i ws hs hlay0 hLay hr1 hl2 x1 x2 sc vs x3 hL ra w1 r0 hI hr2 hcond hcond2
  w_on
  have e1 := mg_of KX T.g (n := "law") (v := .ref 220) (by k_dflt k_is)
  have e2 : fa = 220 := by
    have := hmg.symm.trans e1
    injection this with this
    injection this
  subst e2
  refine JA.law_main KX T ?_ ?_ ?_ hL hI (JA.len_le hI hcond) ?_
  · exact tab_of T KX (x := "_interpolate") rfl (by kernel_rfl)
  · exact tab_of T KX (x := "_law_hash") rfl (by kernel_rfl)
  · exact tab_of T KX (x := "law") rfl (by kernel_rfl)
  intro s' f1 f2 f3
  refine ⟨.inl ⟨.bool true, .bool true, [], rfl, ?_, ?_, ?_, ?_⟩, f3, f1, f2 (by rw [hg]; exact .of_eq rfl)⟩
  · exact raisesW_false (by wrow_none_raised)
  · first | exact readsW_of_reads (Reads.bool true) | exact readsW_of_reads (Reads.bool _) | (w_reads; done)
  · first | exact postW_of (by wrow_shape) (by wtm_val) (by str_meet; first | done | w_fin) | rfl
  · first | exact unshared_nil | exact fun _ => ⟨List.nodup_nil, nofun⟩
