import PyProof.Rows.All
import Wide.All
import OpenK.AllK
import Wide.FinOn
import Lean
import PySem.Challenge.RW_wb0024_01
set_option Elab.async false
set_option linter.unusedVariables false
set_option linter.unusedSimpArgs false

section
section
open PySem PySem.W PyProof.Rows PySem.Calls
namespace Mine

abbrev P0 : Program := PySem.Challenge.pw_wb0024_01
def stAt (n : Nat) : Stmt := (P0.main.body.drop n).headD (.Pass default)
def paOf : Stmt → Arguments
  | .FunctionDef _ a _ _ _ _ _ _ _ _ => a
  | _ => default
def boOf : Stmt → List Stmt
  | .FunctionDef _ _ b _ _ _ _ _ _ _ => b
  | _ => []
def scOf : Stmt → Scope
  | .FunctionDef _ _ _ _ _ _ s _ _ _ => s
  | _ => default

/-- the names' values -/
structure Nms where
  mg : Str → Option Value
  mb : Str → Option Value
  aI : Addr
  aS : Addr
  aE : Addr
  aP : Addr
  aD : Addr
  aM : Addr
  aW : Addr

/-- the def number n of the top stands at a, under the name nm -/
structure FnAt (mg : Str → Option Value) (h : Heap) (n : Nat) (nm : Str) (a : Addr) : Prop where
  g : mg nm = some (.ref a)
  fn : ∃ o pm code doc, h.get? a = some o ∧ o.data = .func (docDef nm (paOf (stAt n)) (boOf (stAt n)) (scOf (stAt n)) pm code doc) ∧ h.CodeRec code nm

theorem FnAt.keeps {mg : Str → Option Value} {h h' : Heap} {n : Nat} {nm : Str} {a : Addr} (x : FnAt mg h n nm a) (hk : ∀ b o, h.get? b = some o → h'.get? b = some o) : FnAt mg h' n nm a :=
  ⟨x.g, let ⟨o, pm, c, d, e, f, g⟩ := x.fn; ⟨o, pm, c, d, hk _ _ e, f, g.keeps hk⟩⟩

/-- what is known of the top -/
structure Bs (k : Nms) (h : Heap) : Prop where
  g : h.Ns mainGlobals k.mg
  b : h.Ns builtinsNs k.mb
  nolimit : h.NoLimit
  bi : ∀ x : Str, x ≠ "__name__" → k.mb x = bootBuiltins x
  fI : FnAt k.mg h 1 "_iter_escaped_chars" k.aI
  fS : FnAt k.mg h 2 "_strip_quoted_realnames" k.aS
  fE : FnAt k.mg h 5 "_ellipsis_match" k.aE
  fP : FnAt k.mg h 9 "parse257" k.aP
  fD : FnAt k.mg h 11 "_law_dress" k.aD
  fM : FnAt k.mg h 12 "_law_mail" k.aM
  fW : FnAt k.mg h 13 "_law_shown" k.aW
  marker : ∃ t, k.mg "ELLIPSIS_MARKER" = some (.str "..." t)
  free : ∀ x ∈ (["len", "enumerate", "zip", "chr", "range", "sum"] : List Str), k.mg x = none

theorem Bs.keeps {k : Nms} {h h' : Heap} (x : Bs k h) (hk : ∀ b o, h.get? b = some o → h'.get? b = some o) : Bs k h' where
  g := x.g.keeps hk
  b := x.b.keeps hk
  nolimit := x.nolimit.keeps hk
  bi := x.bi
  fI := x.fI.keeps hk
  fS := x.fS.keeps hk
  fE := x.fE.keeps hk
  fP := x.fP.keeps hk
  fD := x.fD.keeps hk
  fM := x.fM.keeps hk
  fW := x.fW.keeps hk
  marker := x.marker
  free := x.free

/-- room around -/
structure Ok (A : Around) (d u : Nat) : Prop where
  hh : A.handled = none
  hd : A.depth + d < 1000
  hu : A.units + u < 9900
theorem Ok.room {A : Around} {d u : Nat} (x : Ok A d u) : A.depth < recursionLimit := by
  have := x.hd; unfold recursionLimit; omega
theorem Ok.line {A : Around} {d u : Nat} (x : Ok A d u) : A.units < cLine := by
  have := x.hu; unfold cLine; omega
theorem Ok.deeper {A : Around} {d u : Nat} {env : Env} (x : Ok A (d + 1) (u + 3)) : Ok (A.deeper env) d u :=
  ⟨x.hh, by have := x.hd; show A.depth + 1 + d < 1000; omega, by have := x.hu; show A.units + 3 + u < 9900; omega⟩
theorem Ok.less {A : Around} {d u d' u' : Nat} (x : Ok A d u) (h1 : d' ≤ d := by omega) (h2 : u' ≤ u := by omega) : Ok A d' u' :=
  ⟨x.hh, by have := x.hd; omega, by have := x.hu; omega⟩
theorem Ok.in1 {A : Around} {d u : Nat} (x : Ok A d (u + 1)) : Ok A.in1 d u := ⟨x.hh, x.hd, by have := x.hu; show A.units + 1 + u < 9900; omega⟩

/-- nothing that stood is lost -/
structure Grows (s s' : Shared) : Prop where
  heap : ∀ b o, s.heap.get? b = some o → s'.heap.get? b = some o
  drawn : s'.drawn = s.drawn
  os : s'.os = s.os
  gold : ∀ g, g < s.gens.size → s'.gens[g]? = s.gens[g]?
  gens : AllBare s.gens → AllBare s'.gens
theorem gold_trans {a b c : Array GenState} (x : ∀ g, g < a.size → b[g]? = a[g]?) (y : ∀ g, g < b.size → c[g]? = b[g]?) : ∀ g, g < a.size → c[g]? = a[g]? := fun g h => by
  have e := x g h
  rw [Array.getElem?_eq_getElem h] at e
  have hb : g < b.size := (Array.getElem?_eq_some_iff.mp e).1
  rw [y g hb, x g h]
theorem Grows.refl (s : Shared) : Grows s s := ⟨fun _ _ e => e, rfl, rfl, fun _ _ => rfl, id⟩
theorem Grows.trans {a b c : Shared} (x : Grows a b) (y : Grows b c) : Grows a c :=
  ⟨fun b o e => y.heap b o (x.heap b o e), y.drawn.trans x.drawn, y.os.trans x.os, gold_trans x.gold y.gold, fun g => y.gens (x.gens g)⟩
theorem Grows.toks (s : Shared) (t : Nat) : Grows s { s with toks := t } := ⟨fun _ _ e => e, rfl, rfl, fun _ _ => rfl, id⟩
theorem Grows.of {s : Shared} {h : Heap} {t : Nat} (hk : ∀ b o, s.heap.get? b = some o → h.get? b = some o) : Grows s { s with heap := h, toks := t } := ⟨hk, rfl, rfl, fun _ _ => rfl, id⟩
theorem Grows.ofH {s : Shared} {h : Heap} (hk : ∀ b o, s.heap.get? b = some o → h.get? b = some o) : Grows s { s with heap := h } := ⟨hk, rfl, rfl, fun _ _ => rfl, id⟩
theorem Grows.push (s : Shared) (o : Obj) : Grows s { s with heap := s.heap.push o } := Grows.ofH fun _ _ e => Heap.get?_push_of_some o e

def asg (l : List (Str × Value)) (r : Str → Option Value) : Str → Option Value := fun x => match l.lookup x with
  | some v => some v
  | none => r x

theorem asg_nil (r : Str → Option Value) : asg [] r = r := rfl
theorem asg_upd (l : List (Str × Value)) (r : Str → Option Value) (x : Str) (v : Value) : (fun y => if y = x then some v else asg l r y) = asg ((x, v) :: l) r := by
  funext y
  by_cases h : y = x
  · subst h; simp [asg]
  · have : (y == x) = false := by simpa using h
    simp [asg, List.lookup_cons, this, h]
theorem asg_of {l : List (Str × Value)} {m : Str → Option Value} (h : ∀ p ∈ l, m p.1 = some p.2) : asg l m = m := by
  funext x
  unfold asg
  cases e : l.lookup x with
  | none => rfl
  | some v => 
    have hm : (x, v) ∈ l := by
      clear h
      induction l with
      | nil => cases e
      | cons p r ih =>
        rw [List.lookup_cons] at e
        by_cases hp : (x == p.1) = true
        · rw [hp] at e
          cases e
          rw [beq_iff_eq.mp hp]
          exact List.mem_cons_self
        · have : (x == p.1) = false := by simpa using hp
          rw [this] at e
          exact List.mem_cons_of_mem _ (ih e)
    exact (h _ hm).symm

/-- a frame at L over what is kept (K), its locals m, its own things (news) -/
structure Stt (k : Nms) (K : Addr → Obj → Prop) (L : Addr) (s₀ s : Shared) (m : Str → Option Value) (news : List (Addr × Obj)) : Prop where
  bs : ∃ base, Bs k base ∧ ∀ b o, base.get? b = some o → K b o
  ns : s.heap.Ns L m
  keep : ∀ b o, K b o → s.heap.get? b = some o
  offL : ∀ o, ¬ K L o
  new : ∀ p ∈ news, s.heap.get? p.1 = some p.2
  off : ∀ p ∈ news, p.1 ≠ L ∧ ∀ o, ¬ K p.1 o
  nodup : (news.map (·.1)).Nodup
  drawn : s.drawn = s₀.drawn
  os : s.os = s₀.os
  gold : ∀ g, g < s₀.gens.size → s.gens[g]? = s₀.gens[g]?
  gens : AllBare s₀.gens → AllBare s.gens

section
variable {k : Nms} {K : Addr → Obj → Prop} {L : Addr} {s₀ s s' : Shared} {m : Str → Option Value} {news : List (Addr × Obj)}

theorem Stt.here (H : Stt k K L s₀ s m news) : Bs k s.heap := let ⟨_, b, h⟩ := H.bs; b.keeps fun b o e => H.keep b o (h b o e)

theorem Stt.grows (H : Stt k K L s₀ s m news) (g : Grows s s') : Stt k K L s₀ s' m news where
  bs := H.bs
  ns := H.ns.keeps g.heap
  keep := fun b o e => g.heap _ _ (H.keep b o e)
  offL := H.offL
  new := fun p hp => g.heap _ _ (H.new p hp)
  off := H.off
  nodup := H.nodup
  drawn := g.drawn.trans H.drawn
  os := g.os.trans H.os
  gold := gold_trans H.gold g.gold
  gens := fun x => g.gens (H.gens x)

/-- what the frame's end hands to its caller -/
theorem Stt.grown (H : Stt k K L s₀ s m news) (hK : ∀ b o, s₀.heap.get? b = some o → K b o) : Grows s₀ s := ⟨fun b o e => H.keep b o (hK b o e), H.drawn, H.os, H.gold, H.gens⟩

theorem Stt.asg (H : Stt k K L s₀ s m news) (l : List (Str × Value)) (h : ∀ p ∈ l, m p.1 = some p.2) : Stt k K L s₀ s (Mine.asg l m) news := by
  rw [asg_of h]; exact H

theorem Stt.set {m' : Str → Option Value} {h' : Heap} {t : Nat} (H : Stt k K L s₀ s m news) (hn : h'.Ns L m') (hs : Heap.SameBut L s.heap h') : Stt k K L s₀ { s with heap := h', toks := t } m' news where
  bs := H.bs
  ns := hn
  keep := fun b o e => (hs.2 b (fun q => H.offL o (q ▸ e))).trans (H.keep b o e)
  offL := H.offL
  new := fun p hp => (hs.2 p.1 (H.off p hp).1).trans (H.new p hp)
  off := H.off
  nodup := H.nodup
  drawn := H.drawn
  os := H.os
  gold := H.gold
  gens := H.gens

/-- a new thing of the frame's own -/
theorem Stt.alloc {o : Obj} (H : Stt k K L s₀ s m news) (ho : o.isFreed = false) : Stt k K L s₀ { s with heap := s.heap.push o } m ((s.heap.objs.size, o) :: news) where
  bs := H.bs
  ns := H.ns.push _
  keep := fun b o' e => Heap.get?_push_of_some _ (H.keep b o' e)
  offL := H.offL
  new := fun p hp => by
    rcases List.mem_cons.mp hp with rfl | hp
    · exact Heap.get?_push_size _ ho
    · exact Heap.get?_push_of_some _ (H.new p hp)
  off := fun p hp => by
    rcases List.mem_cons.mp hp with rfl | hp
    · exact ⟨Nat.ne_of_gt H.ns.lt, fun o' e => Nat.lt_irrefl _ (Heap.lt_size (H.keep _ _ e))⟩
    · exact H.off p hp
  nodup := by
    rw [List.map_cons, List.nodup_cons]
    refine ⟨fun hm => ?_, H.nodup⟩
    obtain ⟨p, hp, e⟩ := List.mem_map.mp hm
    exact Nat.lt_irrefl _ (Nat.lt_of_lt_of_eq (Heap.lt_size (H.new p hp)) e.symm)
  drawn := H.drawn
  os := H.os
  gold := H.gold
  gens := H.gens

/-- a thing that no longer changes -/
theorem Stt.freeze {p : Addr × Obj} (H : Stt k K L s₀ s m (p :: news)) : Stt k (fun b o => K b o ∨ (b = p.1 ∧ o = p.2)) L s₀ s m news where
  bs := let ⟨b, x, y⟩ := H.bs; ⟨b, x, fun a o e => .inl (y a o e)⟩
  ns := H.ns
  keep := fun b o e => by
    rcases e with e | ⟨rfl, rfl⟩
    · exact H.keep b o e
    · exact H.new p (.head _)
  offL := fun o e => by
    rcases e with e | ⟨e, _⟩
    · exact H.offL o e
    · exact (H.off p (.head _)).1 e.symm
  new := fun q hq => H.new q (.tail _ hq)
  off := fun q hq => ⟨(H.off q (.tail _ hq)).1, fun o e => by
    rcases e with e | ⟨e, _⟩
    · exact (H.off q (.tail _ hq)).2 o e
    · have := H.nodup
      rw [List.map_cons, List.nodup_cons] at this
      exact this.1 (List.mem_map.mpr ⟨q, hq, e⟩)⟩
  nodup := by have := H.nodup; rw [List.map_cons, List.nodup_cons] at this; exact this.2
  drawn := H.drawn
  os := H.os
  gold := H.gold
  gens := H.gens

/-- fewer things known -/
theorem Stt.drop {news' : List (Addr × Obj)} (H : Stt k K L s₀ s m news) (hs : news'.Sublist news) : Stt k K L s₀ s m news' where
  bs := H.bs
  ns := H.ns
  keep := H.keep
  offL := H.offL
  new := fun p hp => H.new p (hs.subset hp)
  off := fun p hp => H.off p (hs.subset hp)
  nodup := H.nodup.sublist (hs.map _)
  drawn := H.drawn
  os := H.os
  gold := H.gold
  gens := H.gens

/-- another K: more -/
theorem Stt.also {J : Addr → Obj → Prop} (H : Stt k K L s₀ s m news) (h1 : ∀ b o, J b o → s.heap.get? b = some o) (h2 : ∀ o, ¬ J L o) (h3 : ∀ p ∈ news, ∀ o, ¬ J p.1 o) : Stt k (fun b o => K b o ∨ J b o) L s₀ s m news where
  bs := let ⟨b, x, y⟩ := H.bs; ⟨b, x, fun a o e => .inl (y a o e)⟩
  ns := H.ns
  keep := fun b o e => e.elim (H.keep b o) (h1 b o)
  offL := fun o e => e.elim (H.offL o) (h2 o)
  new := H.new
  off := fun q hq => ⟨(H.off q hq).1, fun o e => e.elim ((H.off q hq).2 o) (h3 q hq o)⟩
  nodup := H.nodup
  drawn := H.drawn
  os := H.os
  gold := H.gold
  gens := H.gens
/-- another K: less -/
theorem Stt.only {J : Addr → Obj → Prop} (H : Stt k K L s₀ s m news) (hb : ∃ base, Bs k base ∧ ∀ b o, base.get? b = some o → J b o) (h1 : ∀ b o, J b o → K b o) : Stt k J L s₀ s m news where
  bs := hb
  ns := H.ns
  keep := fun b o e => H.keep b o (h1 b o e)
  offL := fun o e => H.offL o (h1 _ _ e)
  new := H.new
  off := fun q hq => ⟨(H.off q hq).1, fun o e => (H.off q hq).2 o (h1 _ _ e)⟩
  nodup := H.nodup
  drawn := H.drawn
  os := H.os
  gold := H.gold
  gens := H.gens

/-- one thing of the frame's own changes -/
theorem Stt.put {a : Addr} {o o' : Obj} {l r : List (Addr × Obj)} {h' : Heap} {t : Nat} (H : Stt k K L s₀ s m (l ++ (a, o) :: r)) (hs : Heap.SameBut a s.heap h') (hn : h'.get? a = some o') : Stt k K L s₀ { s with heap := h', toks := t } m (l ++ (a, o') :: r) := by
  have hoff := H.off (a, o) (List.mem_append_right _ (.head _))
  have hnd := H.nodup
  rw [List.map_append, List.map_cons, List.nodup_append, List.nodup_cons] at hnd
  exact {
    bs := H.bs
    ns := H.ns.sameBut hs (Ne.symm hoff.1)
    keep := fun b ob e => (hs.2 b (fun q => hoff.2 ob (q ▸ e))).trans (H.keep b ob e)
    offL := H.offL
    new := fun p hp => by
      rcases List.mem_append.mp hp with hp | hp
      · refine (hs.2 p.1 fun q => ?_).trans (H.new p (List.mem_append_left _ hp))
        exact hnd.2.2 p.1 (List.mem_map.mpr ⟨p, hp, rfl⟩) a List.mem_cons_self q
      · rcases List.mem_cons.mp hp with rfl | hp
        · exact hn
        · refine (hs.2 p.1 fun q => ?_).trans (H.new p (List.mem_append_right _ (.tail _ hp)))
          exact hnd.2.1.1 (List.mem_map.mpr ⟨p, hp, q⟩)
    off := fun p hp => by
      rcases List.mem_append.mp hp with hp | hp
      · exact H.off p (List.mem_append_left _ hp)
      · rcases List.mem_cons.mp hp with rfl | hp
        · exact hoff
        · exact H.off p (List.mem_append_right _ (.tail _ hp))
    nodup := by
      rw [List.map_append, List.map_cons]
      have := H.nodup
      rw [List.map_append, List.map_cons] at this
      exact this
    drawn := H.drawn
    os := H.os
    gold := H.gold
    gens := H.gens }

/-- the same frame, seen from an elder state -/
theorem Stt.from {s₁ : Shared} {J : Addr → Obj → Prop} (H : Stt k K L s₁ s m news) (hb : ∃ base, Bs k base ∧ ∀ b o, base.get? b = some o → J b o) (h1 : ∀ b o, J b o → K b o)
    (hd : s₁.drawn = s₀.drawn) (ho : s₁.os = s₀.os) (hg : ∀ g, g < s₀.gens.size → s₁.gens[g]? = s₀.gens[g]?) (hb' : AllBare s₀.gens → AllBare s₁.gens) : Stt k J L s₀ s m news where
  bs := hb
  ns := H.ns
  keep := fun b o e => H.keep b o (h1 b o e)
  offL := fun o e => H.offL o (h1 _ _ e)
  new := H.new
  off := fun q hq => ⟨(H.off q hq).1, fun o e => (H.off q hq).2 o (h1 _ _ e)⟩
  nodup := H.nodup
  drawn := H.drawn.trans hd
  os := H.os.trans ho
  gold := gold_trans hg H.gold
  gens := fun x => H.gens (hb' x)
/-- begin anew at this state -/
theorem Stt.anew (H : Stt k K L s₀ s m news) : Stt k K L s s m news where
  bs := H.bs
  ns := H.ns
  keep := H.keep
  offL := H.offL
  new := H.new
  off := H.off
  nodup := H.nodup
  drawn := rfl
  os := rfl
  gold := fun _ _ => rfl
  gens := id
end
end Mine
end

section
open PySem PySem.W PyProof.Rows PySem.Calls
namespace Mine

section
variable {prog : Program} {w : World} {A : Around} {s s₀ : Shared} {E Q : Value → Shared → Prop} {k : Nms} {K : Addr → Obj → Prop} {L : Addr} {m r : Str → Option Value} {news : List (Addr × Obj)}

/-- a call of a def of the top -/
theorem fn_callL {n : Nat} {nm : Str} {a : Addr} {vals : List Value} {binds : List (Str × Value)} (B : Bs k s.heap) (hf : FnAt k.mg s.heap n nm a) (hroom : A.depth < recursionLimit)
    (hbind : ∀ pm cd doc, bindArgs (docDef nm (paOf (stAt n)) (boOf (stAt n)) (scOf (stAt n)) pm cd doc) ⟨vals, []⟩ = pure binds)
    (hloc : ∀ x ∈ binds, (scOf (stAt n)).names.lookup x.1 = some .local)
    (h : ∀ cd L s₁, s.heap.objs.size ≤ L → Stt k (fun b o => s.heap.get? b = some o) L s s₁ (asg binds.reverse fun _ => none) [] →
      wpAny (model prog w) (A.deeper (envX nm (scOf (stAt n)) L a cd [])) (execs (boOf (stAt n)) (envX nm (scOf (stAt n)) L a cd []))
        (fun f s' => Q (match f with | .ret v => v | _ => .none) s') (fun _ _ => False) s₁)
    (hco : (scOf (stAt n)).isCoroutine = false := by rfl) (hgen : (scOf (stAt n)).isGenerator = false := by rfl) (hk : (scOf (stAt n)).kind = .function := by rfl)
    (hcell : ∀ x ∈ (scOf (stAt n)).names, x.2 ≠ .cell := by decide) : wpAny (model prog w) A (call (.ref a) vals) Q E s := by
  obtain ⟨o, pm, cd, doc, e, d, c⟩ := hf.fn
  refine wpAny_call (call_plain_ret hroom e d B.nolimit c (hbind pm cd doc) hloc (fun h₁ F => ?_) hco hgen hk hcell)
  refine h cd _ _ (Nat.le_refl _) ⟨⟨s.heap, B, fun _ _ e => e⟩, ?_, F.keep, fun o e => Nat.lt_irrefl _ (Heap.lt_size e), (fun _ hp => nomatch hp), (fun _ hp => nomatch hp), List.nodup_nil, rfl, rfl, fun _ _ => rfl, id⟩
  have : (asg binds.reverse fun _ => none) = fun x => binds.reverse.lookup x := by
    funext x; unfold asg; cases binds.reverse.lookup x <;> rfl
  rw [this]
  exact F.ns

/-- a call of a def of the top -/
theorem fn_call {n : Nat} {nm : Str} {a : Addr} {vals : List Value} {binds : List (Str × Value)} (B : Bs k s.heap) (hf : FnAt k.mg s.heap n nm a) (hroom : A.depth < recursionLimit)
    (hbind : ∀ pm cd doc, bindArgs (docDef nm (paOf (stAt n)) (boOf (stAt n)) (scOf (stAt n)) pm cd doc) ⟨vals, []⟩ = pure binds)
    (hloc : ∀ x ∈ binds, (scOf (stAt n)).names.lookup x.1 = some .local)
    (h : ∀ cd L s₁, Stt k (fun b o => s.heap.get? b = some o) L s s₁ (asg binds.reverse fun _ => none) [] →
      wpAny (model prog w) (A.deeper (envX nm (scOf (stAt n)) L a cd [])) (execs (boOf (stAt n)) (envX nm (scOf (stAt n)) L a cd []))
        (fun f s' => Q (match f with | .ret v => v | _ => .none) s') (fun _ _ => False) s₁)
    (hco : (scOf (stAt n)).isCoroutine = false := by rfl) (hgen : (scOf (stAt n)).isGenerator = false := by rfl) (hk : (scOf (stAt n)).kind = .function := by rfl)
    (hcell : ∀ x ∈ (scOf (stAt n)).names, x.2 ≠ .cell := by decide) : wpAny (model prog w) A (call (.ref a) vals) Q E s :=
  fn_callL B hf hroom hbind hloc (fun cd L s₁ _ H => h cd L s₁ H) hco hgen hk hcell

-- names
theorem r_loc {x : Str} {pos : Pos} {v : Value} {cn : Str} {cs : Scope} {a : Addr} {cd : Value} {cl : List (Str × Addr)} (H : Stt k K L s₀ s m news) (hv : m x = some v) (h : Q v s)
    (hk : cs.kind = .function := by rfl) (hx : (envX cn cs L a cd cl).kindOf x = some .local := by rfl) (hd : (x == ("__debug__" : Str)) = false := by decide) :
    wpAny (model prog w) A (eval (.Name x pos) (envX cn cs L a cd cl)) Q E s := wpAny_Name (wpAny_loadName_local hk hx H.ns hv h) hd
theorem r_locN {x : Str} {v : Value} {cn : Str} {cs : Scope} {a : Addr} {cd : Value} {cl : List (Str × Addr)} (H : Stt k K L s₀ s m news) (hv : m x = some v) (h : Q v s)
    (hk : cs.kind = .function := by rfl) (hx : (envX cn cs L a cd cl).kindOf x = some .local := by rfl) :
    wpAny (model prog w) A (loadName (envX cn cs L a cd cl) x) Q E s := wpAny_loadName_local hk hx H.ns hv h
theorem r_glob {x : Str} {pos : Pos} {v : Value} {cn : Str} {cs : Scope} {L' a : Addr} {cd : Value} {cl : List (Str × Addr)} (H : Stt k K L s₀ s m news) (hv : k.mg x = some v) (h : Q v s)
    (hk : cs.kind = .function := by rfl) (hx : (envX cn cs L' a cd cl).kindOf x = some .globalImplicit := by rfl) (hd : (x == ("__debug__" : Str)) = false := by decide) :
    wpAny (model prog w) A (eval (.Name x pos) (envX cn cs L' a cd cl)) Q E s := Name_function_global hk hx (loadGlobal_global (env := envX cn cs L' a cd cl) H.here.g hv h) hd
theorem r_bi {x : Str} {pos : Pos} {v : Value} {cn : Str} {cs : Scope} {L' a : Addr} {cd : Value} {cl : List (Str × Addr)} (H : Stt k K L s₀ s m news) (hx0 : x ∈ (["len", "enumerate", "zip", "chr", "range", "sum"] : List Str)) (hv : bootBuiltins x = some v) (h : Q v s)
    (hk : cs.kind = .function := by rfl) (hx : (envX cn cs L' a cd cl).kindOf x = some .globalImplicit := by rfl) (hd : (x == ("__debug__" : Str)) = false := by decide) :
    wpAny (model prog w) A (eval (.Name x pos) (envX cn cs L' a cd cl)) Q E s := by
  have B := H.here
  refine Name_function_global hk hx (loadGlobal_builtin (env := envX cn cs L' a cd cl) B.g (B.free x hx0) B.b ((B.bi x ?_).trans hv) h) hd
  intro e; subst e; revert hx0; decide
theorem r_st {Q : Unit → Shared → Prop} {x : Str} {v : Value} {l : List (Str × Value)} {cn : Str} {cs : Scope} {a : Addr} {cd : Value} {cl : List (Str × Addr)} (H : Stt k K L s₀ s (asg l r) news)
    (h : ∀ s', Stt k K L s₀ s' (asg ((x, v) :: l) r) news → Q () s')
    (hk : cs.kind = .function := by rfl) (hx : (envX cn cs L a cd cl).kindOf x = some .local := by rfl) :
    wpAny (model prog w) A (storeName (envX cn cs L a cd cl) x v) Q E s :=
  wpAny_storeName_local hx H.ns (fun h' hn hs => h _ (H.set (by rw [← asg_upd]; exact hn) hs)) (by show (cs.kind == .class || (cs.kind == .module && L != mainGlobals)) = false; rw [hk]; rfl)

-- constants
theorem r_str {env : Env} {x : Str} {kd : Nat} {pos : Pos} (H : Stt k K L s₀ s m news) (h : ∀ s' t, Stt k K L s₀ s' m news → Q (.str x t) s') :
    wpAny (model prog w) A (eval (.Constant (.str x) kd pos) env) Q E s := Constant_str (h _ _ (H.grows (Grows.toks _ _)))
theorem r_int {env : Env} {x : Int} {kd : Nat} {pos : Pos} (H : Stt k K L s₀ s m news) (h : ∀ s' t, Stt k K L s₀ s' m news → Q (.int x t) s') :
    wpAny (model prog w) A (eval (.Constant (.int x) kd pos) env) Q E s := wpAny_Constant_int (h _ _ (H.grows (Grows.toks _ _)))
theorem r_bool {env : Env} {x : Bool} {kd : Nat} {pos : Pos} (h : Q (.bool x) s) : wpAny (model prog w) A (eval (.Constant (.bool x) kd pos) env) Q E s := fun _ _ _ => h
theorem r_none {env : Env} {kd : Nat} {pos : Pos} (h : Q .none s) : wpAny (model prog w) A (eval (.Constant .none kd pos) env) Q E s := fun _ _ _ => h

-- arithmetic
theorem r_add_int {a b : Int} {t u : Tok} (H : Stt k K L s₀ s m news) (h : ∀ s' t, Stt k K L s₀ s' m news → Q (.int (a + b) t) s') : wpAny (model prog w) A (binaryOp .Add (.int a t) (.int b u)) Q E s :=
  add_int (h _ _ (H.grows (Grows.toks _ _)))
theorem r_sub_int {a b : Int} {t u : Tok} (H : Stt k K L s₀ s m news) (h : ∀ s' t, Stt k K L s₀ s' m news → Q (.int (a - b) t) s') : wpAny (model prog w) A (binaryOp .Sub (.int a t) (.int b u)) Q E s :=
  sub_int (h _ _ (H.grows (Grows.toks _ _)))
theorem r_mod_int {a b : Int} {t u : Tok} (H : Stt k K L s₀ s m news) (hb : 0 < b) (h : ∀ s' t, Stt k K L s₀ s' m news → Q (.int (a % b) t) s') : wpAny (model prog w) A (binaryOp .Mod (.int a t) (.int b u)) Q E s := by
  refine mod_int' (by omega) ?_
  rw [Int.fmod_eq_emod_of_nonneg _ (by omega)]
  exact h _ _ (H.grows (Grows.toks _ _))
theorem r_fdiv_int {a b : Int} {t u : Tok} (H : Stt k K L s₀ s m news) (hb : 0 < b) (h : ∀ s' t, Stt k K L s₀ s' m news → Q (.int (a / b) t) s')
    (hp : Builtin.divisionGoesByPylong a b = false) : wpAny (model prog w) A (binaryOp .FloorDiv (.int a t) (.int b u)) Q E s := by
  refine floordiv_int (by omega) ?_ (.inl hp)
  rw [Int.fdiv_eq_ediv_of_nonneg _ (by omega)]
  exact h _ _ (H.grows (Grows.toks _ _))
theorem r_add_str {x y : Str} {t u : Tok} (H : Stt k K L s₀ s m news) (hz : x.length + y.length ≤ sizeLine) (h : ∀ s' t, Stt k K L s₀ s' m news → Q (.str (x ++ y) t) s') : wpAny (model prog w) A (binaryOp .Add (.str x t) (.str y u)) Q E s :=
  add_str (fun _ _ => h _ _ (H.grows (Grows.toks _ _))) hz
theorem r_mul_str {x : Str} {n : Int} {t u : Tok} (H : Stt k K L s₀ s m news) (hm : MulOk x n) (h : ∀ s' t, Stt k K L s₀ s' m news → Q (.str (Txt.mul x n) t) s') : wpAny (model prog w) A (binaryOp .Mult (.str x t) (.int n u)) Q E s :=
  SB.mul hm (fun _ _ => h _ _ (H.grows (Grows.toks _ _)))

-- tuples, lists
abbrev tupObj (vs : List Value) : Obj := { cls := .type "tuple", data := .seq vs.toArray }
abbrev lstObj (vs : List Value) (n : Nat) : Obj := { cls := .type "list", data := .seq vs.toArray n }
/-- a new tuple, that is kept -/
theorem r_tup {vs : List Value} (H : Stt k K L s₀ s m news) (hz : vs.length ≤ 100) (h : ∀ s' a, Stt k K L s₀ s' m ((a, tupObj vs) :: news) → Q (.ref a) s') : wpAny (model prog w) A (newTuple vs) Q E s :=
  wpAny_newTuple (h _ _ (H.alloc rfl)) (by rw [sizeLine_eq]; omega)
theorem r_lst {vs : List Value} (H : Stt k K L s₀ s m news) (hz : vs.length ≤ 100) (h : ∀ s' a, Stt k K L s₀ s' m ((a, lstObj vs 0) :: news) → Q (.ref a) s') : wpAny (model prog w) A (newList vs) Q E s :=
  wpAny_newList (h _ _ (H.alloc rfl)) (by rw [sizeLine_eq]; omega)
end
end Mine
end

section
open PySem PySem.W PyProof.Rows PySem.Calls
namespace Mine

section
variable {prog : Program} {w : World} {A : Around} {s s₀ : Shared} {E Q : Value → Shared → Prop} {k : Nms} {K : Addr → Obj → Prop} {L : Addr} {m r : Str → Option Value} {news : List (Addr × Obj)}
theorem r_callWith {env : Env} {pos : Pos} {n : Nat} {nm : Str} {a : Addr} {e : Expr} {rest : List Expr} (hf : ∀ h, Bs k h → FnAt k.mg h n nm a)
    (h : wpAny (model prog w) A (spliced (backTo pos (starEach (e :: rest) env))) (fun vs s₁ => Bs k s₁.heap ∧ wpAny (model prog w) A (call (.ref a) vs) Q E s₁) E s)
    (he : starEach (e :: rest) env = (false, eval e env) :: starEach rest env := by rfl) (hplain : (backTo pos (starEach rest env)).any (·.1) = false := by rfl) :
    wpAny (model prog w) A (callWith pos (.ref a) [] (backTo pos (starEach (e :: rest) env)) []) Q E s := by
  rw [he] at h ⊢
  refine callWith_of (P := fun h => Bs k h) (by show ((false || (backTo pos (starEach rest env)).any (·.1)) || false) = false; rw [hplain]; rfl) (fun h B => ?_) (Calls.evalArgs_plain h)
  obtain ⟨o, pm, code, doc, ho, hd, _⟩ := (hf h B).fn
  obtain ⟨c, d, dt, sl⟩ := o
  simp only at hd; subst hd
  exact ⟨.frame, .inl rfl, (Looks.ld (part := none) ho).andThen .now⟩
end

/-- the step over what needs no thought -/
local macro_rules | `(tactic| walk_at "s") => `(tactic| first
  | (with_reducible refine wpAny_execs_cons ?_)
  | (with_reducible refine wpAny_execs_nil ?_)
  | ((with_reducible show wpAny _ _ (execs _ _) _ _ _); refine wpAny_execs_cons ?_)
  | (with_reducible refine wpAny_If ?_)
  | (with_reducible refine wpAny_Return_some ?_)
  | ((with_reducible show wpAny _ _ (exec (Stmt.Assign [Expr.Name _ _] _ _) _) _ _ _); refine wpAny_Assign_Name ?_)
  | ((with_reducible show wpAny _ _ (exec (Stmt.Assign [Expr.Tuple _ _ _] _ _) _) _ _ _); refine Assign_Tuple ?_)
  | ((with_reducible show wpAny _ _ (exec (Stmt.AugAssign (Expr.Name _ _) _ _ _) _) _ _ _); refine wpAny_AugAssign_Name ?_)
  | ((with_reducible show wpAny _ _ (exec (Stmt.Expr _ _) _) _ _ _); refine wpAny_Expr ?_)
  | (with_reducible refine wpAny_Break ?_)
  | ((with_reducible show wpAny _ _ (PySem.isTrue (Expr.Compare _ [_] [_] _) _ _) _ _ _); refine wpAny_isTrue_Compare1 ?_)
  | ((with_reducible show wpAny _ _ (PySem.isTrue (Expr.Name _ _) _ _) _ _ _); refine isTrue_plain ?_)
  | ((with_reducible show wpAny _ _ (PySem.isTrue (Expr.Call _ _ _ _) _ _) _ _ _); refine isTrue_plain ?_)
  | (with_reducible refine isTrue_or ?_)
  | (with_reducible refine isTrue_or_nil ?_)
  | (with_reducible refine wpAny_truthy_bool ?_)
  | ((with_reducible show wpAny _ _ (eval (Expr.Compare _ [_] [_] _) _) _ _ _); refine wpAny_Compare1 ?_)
  | (with_reducible refine wpAny_BinOp ?_)
  | (with_reducible refine wpAny_IfExp ?_)
  | ((with_reducible show wpAny _ _ (eval (Expr.Name _ _) _) _ _ _); (with_reducible rename Stt _ _ _ _ _ _ _ => H'); refine r_loc H' rfl ?_)
  | ((with_reducible show wpAny _ _ (loadName _ _) _ _ _); (with_reducible rename Stt _ _ _ _ _ _ _ => H'); refine r_locN H' rfl ?_)
  | ((with_reducible show wpAny _ _ (storeName _ _ _) _ _ _); (with_reducible rename Stt _ _ _ _ _ _ _ => H'); refine r_st H' ?_; clear H'; intro _ _)
  | ((with_reducible show wpAny _ _ (eval (Expr.Constant (Const.str _) _ _) _) _ _ _); (with_reducible rename Stt _ _ _ _ _ _ _ => H'); refine r_str H' ?_; clear H'; intro _ _ _)
  | ((with_reducible show wpAny _ _ (eval (Expr.Constant (Const.int _) _ _) _) _ _ _); (with_reducible rename Stt _ _ _ _ _ _ _ => H'); refine r_int H' ?_; clear H'; intro _ _ _)
  | (with_reducible refine r_bool ?_)
  | (with_reducible refine r_none ?_)
  | ((with_reducible show wpAny _ _ (binaryOp Operator.Add (Value.int _ _) (Value.int _ _)) _ _ _); (with_reducible rename Stt _ _ _ _ _ _ _ => H'); refine r_add_int H' ?_; clear H'; intro _ _ _)
  | ((with_reducible show wpAny _ _ (binaryOp Operator.Sub (Value.int _ _) (Value.int _ _)) _ _ _); (with_reducible rename Stt _ _ _ _ _ _ _ => H'); refine r_sub_int H' ?_; clear H'; intro _ _ _)
  | ((with_reducible show wpAny _ _ (binaryOp Operator.Mod (Value.int _ _) (Value.int _ _)) _ _ _); (with_reducible rename Stt _ _ _ _ _ _ _ => H'); refine r_mod_int H' (by decide) ?_; clear H'; intro _ _ _)
  | ((with_reducible show wpAny _ _ (binaryOp Operator.FloorDiv (Value.int _ _) (Value.int _ _)) _ _ _); (with_reducible rename Stt _ _ _ _ _ _ _ => H'); refine r_fdiv_int H' (by decide) ?_ (PyProof.noPylong_small (by decide)); clear H'; intro _ _ _)
  | (with_reducible refine eq_str ?_)
  | (with_reducible refine ne_str ?_)
  | (with_reducible refine eq_int ?_)
  | (with_reducible refine ne_int ?_)
  | (with_reducible refine lt_int ?_)
  | (with_reducible refine gt_int ?_)
  | (with_reducible refine ge_int ?_)
  | (with_reducible refine is_none ?_)
  | ((with_reducible show wpAny _ _ (eval (Expr.Tuple _ _ _) _) _ _ _); refine Tuple_ ?_)
  | ((with_reducible show wpAny _ _ (spliced _) _ _ _); first | refine spliced_more ?_ | refine spliced_none ?_)
  | ((with_reducible show wpAny _ _ (newTuple _) _ _ _); (with_reducible rename Stt _ _ _ _ _ _ _ => H'); refine r_tup H' (Nat.le_of_ble_eq_true rfl) ?_; clear H'; intro _ _ _)
  | ((with_reducible show wpAny _ _ (newList _) _ _ _); (with_reducible rename Stt _ _ _ _ _ _ _ => H'); refine r_lst H' (Nat.le_of_ble_eq_true rfl) ?_; clear H'; intro _ _ _)
  | ((with_reducible show wpAny _ _ (eval (Expr.Subscript _ _ _) _) _ _ _); refine Subscript_ ?_)
  | dsimp only
  )

def dKind (lies : Bool) (c : Int) : Int := if lies then c / 2 % 4 else c / 8 % 4
def dAhead (j : Int) : Str := if j = 1 then "\\\\" else if j = 2 then "\\\"" else ""
def dMarks (lies : Bool) (j : Int) : Nat := (if lies then 1 else 0) + (if j = 3 then 2 else 0)
def quotes (n : Nat) : Str := ⟨Array.replicate n 34⟩


theorem r_item_tup {prog : Program} {w : World} {A : Around} {s : Shared} {E Q : Value → Shared → Prop} {value slice : Expr} {t : Addr} {l : List Value} {i : Int} {u : Tok} {x : Value} (ht : s.heap.get? t = some (tupObj l)) (h0 : 0 ≤ i) (h1 : i < l.length) (hz : l.length < 100)
    (hx : l[i.toNat]? = some x) (h : Q x s)
    (hs : subscripted slice false (.ref t) (.int i u) = operate [.ref t, .int i u] (getItem (.ref t) (.int i u)) := by with_unfolding_all rfl) :
    wpAny (model prog w) A (subscriptTail value slice (.ref t) (.int i u)) Q E s :=
  item_tupleT (l := l) ⟨_, ht, rfl, _, rfl⟩ (by omega) (by omega) (seqIndex_of h0 h1) hx h hs
theorem ite_t {c : Bool} {a b : Prop} (hc : c = true) (h : a) : if c = true then a else b := by rw [if_pos hc]; exact h
theorem ite_f {c : Bool} {a b : Prop} (hc : c = false) (h : b) : if c = true then a else b := by rw [if_neg (by rw [hc]; decide)]; exact h
theorem ite_split {c : Bool} {a b : Prop} (ht : c = true → a) (hf : c = false → b) : if c = true then a else b := by cases c with | true => rw [if_pos rfl]; exact ht rfl | false => rw [if_neg (by decide)]; exact hf rfl
theorem mulOk_small {x : Str} {n : Int} (h0 : 0 ≤ n) (h1 : n ≤ 1000) (h2 : x.length ≤ 1000) : MulOk x n := by
  have hm : (x.length : Int) * n ≤ 1000 * 1000 := Int.mul_le_mul (by omega) h1 h0 (by omega)
  refine ⟨?_, fun hn _ => ?_, fun hn _ => ?_⟩
  · simp only [Bool.or_eq_false_iff, decide_eq_false_iff_not]; omega
  · have : (x.length : Int) ≤ (2 ^ 63 - 1) / n := Int.le_ediv_of_mul_le (by omega) (by omega)
    omega
  · have e : ((x.length * n.toNat : Nat) : Int) = (x.length : Int) * n := by rw [Int.natCast_mul, Int.toNat_of_nonneg h0]
    have : x.length * n.toNat ≤ 1000 * 1000 := by omega
    unfold Builtin.Str.tooLong
    simp only [decide_eq_false_iff_not]
    rw [sizeLine_eq]
    omega
theorem pick4 {a b c d : Value} {j : Int} (h0 : 0 ≤ j) (h4 : j < 4) : ([a, b, c, d] : List Value)[j.toNat]? = some (if j = 0 then a else if j = 1 then b else if j = 2 then c else d) := by
  have : j = 0 ∨ j = 1 ∨ j = 2 ∨ j = 3 := by omega
  rcases this with rfl | rfl | rfl | rfl <;> rfl
theorem aheads {t0 t1 t2 t3 : Tok} {j : Int} (h0 : 0 ≤ j) (h4 : j < 4) : ∃ t, (if j = 0 then Value.str "" t0 else if j = 1 then .str "\\\\" t1 else if j = 2 then .str "\\\"" t2 else .str "" t3) = .str (dAhead j) t := by
  have : j = 0 ∨ j = 1 ∨ j = 2 ∨ j = 3 := by omega
  rcases this with rfl | rfl | rfl | rfl <;> exact ⟨_, rfl⟩

section
variable {prog : Program} {w : World} {A : Around} {s : Shared} {E Q : Value → Shared → Prop} {k : Nms}
set_option maxRecDepth 100000 in
set_option maxHeartbeats 4000000 in
theorem dress_call {lies : Bool} {c : Int} {t : Tok} (B : Bs k s.heap) (O : Ok A 1 3)
    (h : ∀ s' a t1 t2, Grows s s' → s'.heap.get? a = some (tupObj [.str (dAhead (dKind lies c)) t1, .str (quotes (dMarks lies (dKind lies c))) t2]) → Q (.ref a) s') :
    wpAny (model prog w) A (call (.ref k.aD) [.bool lies, .int c t]) Q E s := by
  refine fn_call B B.fD O.room (binds := [("lies", .bool lies), ("cell", .int c t)]) (fun _ _ _ => rfl) (locs rfl) (fun cd L s₁ H => ?_)
  replace O := O.deeper (env := (envX "_law_dress" (scOf (stAt 11)) L k.aD cd []))
  have h8 : 0 ≤ c / 8 % 4 ∧ c / 8 % 4 < 4 := by omega
  have h2 : 0 ≤ c / 2 % 4 ∧ c / 2 % 4 < 4 := by omega
  have fin : ∀ (s' : Shared) (a : Addr) (t1 t2 : Tok) (j : Int) (n : Int) m' news', j = dKind lies c → Stt k (fun b o => s.heap.get? b = some o) L s s' m' ((a, tupObj [.str (dAhead j) t1, .str (Txt.mul "\"" n) t2]) :: news') →
      Txt.mul "\"" n = quotes (dMarks lies j) → Q (.ref a) s' := by
    intro s' a t1 t2 j n m' news' hj H e
    subst hj
    rw [e] at H
    exact h _ _ _ _ (H.grown fun _ _ e => e) (H.new _ (.head _))
  cases lies
  · repeat (walk_at "s")
    refine ite_f rfl ?_
    repeat (walk_at "s")
    (rename Stt _ _ _ _ _ _ _ => H)
    refine r_item_tup (H.new _ (.head _)) h8.1 (by exact h8.2) (by exact Nat.le_of_ble_eq_true rfl) (pick4 h8.1 h8.2) ?_
    obtain ⟨t1, e⟩ := aheads h8.1 h8.2
    rw [e]
    repeat (walk_at "s")
    refine ite_f rfl ?_
    repeat (walk_at "s")
    refine ite_split (fun q => ?_) (fun q => ?_)
    all_goals repeat (walk_at "s")
    all_goals (rename Stt _ _ _ _ _ _ _ => H; refine r_mul_str H (mulOk_small (by decide) (by decide) (by decide +kernel)) ?_; clear H; intro _ _ H; (repeat (walk_at "s")); rename Stt _ _ _ _ _ _ _ => H; refine fin _ _ _ _ _ _ _ _ rfl H ?_)
    · rw [show dMarks false (dKind false c) = 2 by unfold dMarks; rw [if_pos (show dKind _ c = 3 by simpa [dKind] using q)]; rfl]; decide +kernel
    · rw [show dMarks false (dKind false c) = 0 by unfold dMarks; rw [if_neg (show ¬ dKind _ c = 3 by simpa [dKind] using q)]; rfl]; decide +kernel
  · repeat (walk_at "s")
    refine ite_t rfl ?_
    repeat (walk_at "s")
    (rename Stt _ _ _ _ _ _ _ => H)
    refine r_item_tup (H.new _ (.head _)) h2.1 (by exact h2.2) (by exact Nat.le_of_ble_eq_true rfl) (pick4 h2.1 h2.2) ?_
    obtain ⟨t1, e⟩ := aheads h2.1 h2.2
    rw [e]
    repeat (walk_at "s")
    refine ite_t rfl ?_
    repeat (walk_at "s")
    refine ite_split (fun q => ?_) (fun q => ?_)
    all_goals repeat (walk_at "s")
    all_goals (rename Stt _ _ _ _ _ _ _ => H; refine r_mul_str H (mulOk_small (by decide) (by decide) (by decide +kernel)) ?_; clear H; intro _ _ H; (repeat (walk_at "s")); rename Stt _ _ _ _ _ _ _ => H; refine fin _ _ _ _ _ _ _ _ rfl H ?_)
    · rw [show dMarks true (dKind true c) = 3 by unfold dMarks; rw [if_pos (show dKind _ c = 3 by simpa [dKind] using q)]; rfl]; decide +kernel
    · rw [show dMarks true (dKind true c) = 1 by unfold dMarks; rw [if_neg (show ¬ dKind _ c = 3 by simpa [dKind] using q)]; rfl]; decide +kernel
end
end Mine
end

section
open PySem PySem.W PyProof.Rows PySem.Calls
namespace Mine

section
variable {M : Model} {A : Around} {R : GenEnd} {Y : Protocol} {n : Nat} {s₀ : Shared} {c : Code} {fs : List Frame} {s : Shared} {env : Env}
  {K : Flow → Sem Fin} {H : Value → Sem Fin} {gd : Bool → Bool} {lv : List Value → List Value}

/-- a statement that neither yields nor raises -/
theorem seg_plain {α : Type} {t : Sem α} {K : α → Sem Fin}
    (h : wpAny M (A.over c fs) t (fun a s' => Seg M A R Y n s₀ c (K a) fs s') (fun _ _ => False) s) : Seg M A R Y n s₀ c (t.wrap K H gd lv) fs s :=
  seg_wrap (wpAny_mono h (fun _ _ x => x) fun _ _ x => x.elim)

theorem seg_For {target iter : Expr} {body orelse : List Stmt} {pos : Pos} (hs : ∀ x, foldedSetIterable iter env x = pure x)
    (h : wpAny M (A.over c fs) (eval iter env) (fun x s₁ => wpAny M (A.over c fs) (pyIter x) (fun it s₂ => ∀ p, Seg M A R Y n s₀ (.forLoop target it body orelse env) (M.den (.forLoop target it body orelse env))
      (.ret (fun r => ((match r with | .ok f => (.pure f : Sem Flow) | .error e => .raise e).onRaise fun (x : Value) => do
        if (← field x 1) == Value.none then unsupported "frame.own-activation:exception-without-traceback"
        setFlight x env.frame).wrap K H gd lv) none (gd false) (lv []) c p [] :: fs) s₂) (fun _ _ => False) s₁) (fun _ _ => False) s) :
    Seg M A R Y n s₀ c ((exec (.For target iter body orelse pos) env).wrap K H gd lv) fs s := by
  rw [exec_For]
  refine seg_at ?_
  show Seg M A R Y n s₀ c ((do let x ← foldedSetIterable iter env (← eval iter env); standAt iter.pos; runOwn (.forLoop target (← holding [x] (pyIter x)) body orelse env) env : Sem Flow).wrap K H gd lv) fs s
  refine seg_bind_wrap (wpAny_mono h (fun x s₁ h₁ => ?_) fun _ _ e => e.elim)
  refine seg_bind_wrap (wpAny_of_eq (hs x) ?_)
  refine seg_bind_wrap (wpAny_standAt ?_)
  refine seg_bind_wrap (wpAny_holding (wpAny_mono h₁ (fun it s₂ h₂ => ?_) fun _ _ e => e.elim))
  exact seg_call h₂
end

section
variable {prog : Program} {w : World} {A : Around} {R : GenEnd} {Y : Protocol} {n : Nat} {s₀ : Shared} {fs : List Frame} {s : Shared} {env : Env}
theorem seg_forLoop {target : Expr} {it : Value} {body : List Stmt} {c : Code} (hc : c = .forLoop target it body [] env)
    (h : wpAny (model prog w) (A.over c fs) (pyNext it) (fun r s₁ => match r with
      | none => Seg (model prog w) A R Y n s₀ (.block [] env) (.pure (.done .next)) fs s₁
      | some v => wpAny (model prog w) (A.over c fs) (letOwnedTupleGo target it v) (fun _ s₂ => wpAny (model prog w) (A.over c fs) (assign target env v) (fun _ s₃ =>
          Seg (model prog w) A R Y n s₀ c ((execs body env).wrap (fun f => match f with
            | .next | .cont => .pure (.again c)
            | .brk => .pure (.done .next)
            | .ret v => .pure (.done (.ret v))) (fun e => (do noteFrame e env; theTreesLotGoes e : Sem Unit).wrap (fun _ => .raise e) .raise id id) id id) fs s₃)
          (fun _ _ => False) s₂) (fun _ _ => False) s₁) (fun _ _ => False) s) :
    Seg (model prog w) A R Y n s₀ c ((model prog w).den c) fs s := by
  subst hc
  show Seg _ A R Y n s₀ _ ((forTurn target it body [] env).onRaise (fun x => do noteFrame x env; theTreesLotGoes x)) fs s
  unfold forTurn
  rw [Sem.onRaise_eq_wrap]
  refine seg_bind_wrap (wpAny_standAt ?_)
  refine seg_bind_wrap (wpAny_onRaise (wpAny_mono h (fun r s₁ h₁ => ?_) fun _ _ e => e.elim))
  cases r with
  | none =>
    refine seg_again (c' := .block [] env) rfl ?_
    exact h₁
  | some v =>
    refine seg_bind_wrap (wpAny_mono h₁ (fun _ s₂ h₂ => ?_) fun _ _ e => e.elim)
    refine seg_bind_wrap (wpAny_mono h₂ (fun _ s₃ h₃ => ?_) fun _ _ e => e.elim)
    rw [Sem.bind_eq_wrap', Sem.wrap_wrap]
    rw [Sem.wrap_congr (execs body env) _ _ (K' := fun f => match f with
            | .next | .cont => .pure (.again (.forLoop target it body [] env))
            | .brk => .pure (.done .next)
            | .ret v => .pure (.done (.ret v))) (H' := (fun e => (do noteFrame e env; theTreesLotGoes e : Sem Unit).wrap (fun _ => .raise e) .raise id id))
        (fun f => by cases f <;> rfl)
        (fun e => by first | exact Sem.bind_eq_wrap _ _ | (show (do noteFrame e env; theTreesLotGoes e : Sem Unit).bind (fun _ => .raise e) = _; rw [Sem.bind_eq_wrap]))]
    exact h₃

/-- an if within a generator -/
theorem seg_If {M : Model} {test : Expr} {body orelse : List Stmt} {pos : Pos} {c : Code} {K : Flow → Sem Fin} {H : Value → Sem Fin} {gd : Bool → Bool} {lv : List Value → List Value}
    (h : wpAny M (A.over c fs) (isTrue test env (eval test env)) (fun b s' => if b = true then Seg M A R Y n s₀ c ((execs body env).wrap K H gd lv) fs s' else Seg M A R Y n s₀ c ((execs orelse env).wrap K H gd lv) fs s') (fun _ _ => False) s) :
    Seg M A R Y n s₀ c ((exec (.If test body orelse pos) env).wrap K H gd lv) fs s := by
  rw [exec_If]
  refine seg_at ?_
  show Seg M A R Y n s₀ c ((do if ← isTrue test env (eval test env) then execs body env else execs orelse env : Sem Flow).wrap K H gd lv) fs s
  refine seg_bind_wrap (wpAny_mono h (fun b s' hb => ?_) fun _ _ e => e.elim)
  cases b with
  | true => rw [if_pos rfl] at hb ⊢; exact hb
  | false => rw [if_neg Bool.false_ne_true] at hb ⊢; exact hb

theorem draws_str {prog : Program} {w : World} {A : Around} (hh : A.handled = none) (it : Addr) (x : Str) (t : Tok) :
    Draws prog w A it [it] x.cps.size (fun i v => ∃ c u, x.cps[i]? = some c ∧ v = .str ⟨#[c]⟩ u) (fun i h => h.IsStrIter it (strIterType x) x t i) := by
  unfold strIterType
  split
  · exact Draws.strAscii hh it x t
  · exact Draws.strWide hh it x t
end

section
variable {prog : Program} {w : World} {A : Around} {E : Value → Shared → Prop} {s : Shared}
/-- next of a generator function's own -/
theorem pyNext_gen {a : Addr} {g n : Nat} {gs : GenState} {P : Nat → Shared → Shared → Prop} {Y : Protocol} {Q : Option Value → Shared → Prop} (hh : A.handled = none)
    (hl : s.heap.NoLimit) (hroom : A.depth < recursionLimit)
    (hg : s.heap.IsGen a g) (hgs : s.gens[g]? = some gs)
    (hgo : gs.Goes (model prog w) A.in1 (fun n s₀ r s₁ => r = .ok (.ret .none) ∧ P n s₀ s₁) Y n (.send .none) (s.setGen g .running))
    (hY : ∀ v s₁ gs', gs'.bare = true → Y (n - 1) (s.setGen g .running) v s₁ (fun r' s'' => match n with
        | 0 => False
        | m + 1 => gs'.Goes (model prog w) A.in1 (fun n s₀ r s₁ => r = .ok (.ret .none) ∧ P n s₀ s₁) Y m r' s'') → Q (some v) (s₁.setGen g gs'))
    (hP : ∀ s₁, P n (s.setGen g .running) s₁ → ∀ h', (∀ b o, s₁.heap.get? b = some o → h'.get? b = some o) → Q none { s₁.setGen g .finished with heap := h' }) :
    wpAny (model prog w) A (pyNext (.ref a)) Q E s := by
  unfold pyNext
  refine wpAny_bind (wpAny_attempt (wpAny_callSpecial?_slot (name := Str.ofString "__next__") hg.typeIs slot_gen_next
    (wpAny_call_entry slot_gen_next hg.typeIs entry_gen_next ?_ (args_gen_next _))))
  show wpAny _ A.in1 (Builtin.Generator.genWake (.ref a) (.send .none)) _ _ s
  unfold Builtin.Generator.genWake
  refine wpAny_bind (wpAny_holding (wpAny_genNumber hg (wpAny_bind (wpAny_genState hgs ?_))))
  cases gs with
  | running => exact hgo.elim
  | finished => exact hgo.elim
  | _ =>
    refine wpAny_bind (wpAny_roomToWake hl hroom ?_)
    show wpAny _ A.in1 (.resume g (.send .none) [] _) _ _ s
    refine wpAny_resumeQ hgs hgo (fun x s₁ hx => ?_) (fun v s₁ gs' hb hv => ?_)
    · obtain ⟨rfl, hp⟩ := hx
      show wpAny _ A.in1 (newExc (.type "StopIteration") [] >>= _) _ _ _
      refine wpAny_bind ?_
      simp only [newExc, newTuple]
      refine wpAny_bind (wpAny_newObj_type ?_ (by size_fits))
      refine wpAny_bind (m := firstArgMember _ _) (wpAny_of_eq (a := Value.none) (by first | rfl | (simp only [firstArgMember]; rfl)) ?_)
      refine wpAny_newObj_type ?_ (by size_fits)
      simp only [raiseNew]
      refine wpAny_bind (wpAny_bind (wpAny_handled ?_))
      first | rw [show A.in1.handled = none from hh] | rw [hh]
      refine wpAny_throw ?_
      refine wpAny_bind (wpAny_isInstance (T := "StopIteration") (b := true) ⟨_, Heap.get?_push_size _ rfl, rfl⟩ isSubtype_stop ?_)
      exact wpAny_pure (hP s₁ hp _ fun b o hb => Heap.get?_push_of_some _ (Heap.get?_push_of_some _ hb))
    · exact wpAny_pure ⟨v, rfl, wpAny_pure (hY v s₁ gs' hb hv)⟩
end
end Mine
end

open PySem PySem.W PyProof.Rows PySem.Calls Mine

local macro_rules | `(tactic| walk_at "s") => `(tactic| first
  | (with_reducible refine wpAny_execs_cons ?_)
  | (with_reducible refine wpAny_execs_nil ?_)
  | ((with_reducible show wpAny _ _ (execs _ _) _ _ _); refine wpAny_execs_cons ?_)
  | (with_reducible refine wpAny_If ?_)
  | (with_reducible refine wpAny_Return_some ?_)
  | ((with_reducible show wpAny _ _ (exec (Stmt.Assign [Expr.Name _ _] _ _) _) _ _ _); refine wpAny_Assign_Name ?_)
  | ((with_reducible show wpAny _ _ (exec (Stmt.Assign [Expr.Tuple _ _ _] _ _) _) _ _ _); refine Assign_Tuple ?_)
  | ((with_reducible show wpAny _ _ (exec (Stmt.AugAssign (Expr.Name _ _) _ _ _) _) _ _ _); refine wpAny_AugAssign_Name ?_)
  | ((with_reducible show wpAny _ _ (exec (Stmt.Expr _ _) _) _ _ _); refine wpAny_Expr ?_)
  | (with_reducible refine wpAny_Break ?_)
  | ((with_reducible show wpAny _ _ (PySem.isTrue (Expr.Compare _ [_] [_] _) _ _) _ _ _); refine wpAny_isTrue_Compare1 ?_)
  | ((with_reducible show wpAny _ _ (PySem.isTrue (Expr.Name _ _) _ _) _ _ _); refine isTrue_plain ?_)
  | ((with_reducible show wpAny _ _ (PySem.isTrue (Expr.Call _ _ _ _) _ _) _ _ _); refine isTrue_plain ?_)
  | (with_reducible refine isTrue_or ?_)
  | (with_reducible refine isTrue_or_nil ?_)
  | (with_reducible refine wpAny_truthy_bool ?_)
  | ((with_reducible show wpAny _ _ (eval (Expr.Compare _ [_] [_] _) _) _ _ _); refine wpAny_Compare1 ?_)
  | (with_reducible refine wpAny_BinOp ?_)
  | (with_reducible refine wpAny_IfExp ?_)
  | ((with_reducible show wpAny _ _ (eval (Expr.Name _ _) _) _ _ _); (with_reducible rename Stt _ _ _ _ _ _ _ => H'); refine r_loc H' rfl ?_)
  | ((with_reducible show wpAny _ _ (loadName _ _) _ _ _); (with_reducible rename Stt _ _ _ _ _ _ _ => H'); refine r_locN H' rfl ?_)
  | ((with_reducible show wpAny _ _ (storeName _ _ _) _ _ _); (with_reducible rename Stt _ _ _ _ _ _ _ => H'); refine r_st H' ?_; clear H'; intro _ _)
  | ((with_reducible show wpAny _ _ (eval (Expr.Constant (Const.str _) _ _) _) _ _ _); (with_reducible rename Stt _ _ _ _ _ _ _ => H'); refine r_str H' ?_; clear H'; intro _ _ _)
  | ((with_reducible show wpAny _ _ (eval (Expr.Constant (Const.int _) _ _) _) _ _ _); (with_reducible rename Stt _ _ _ _ _ _ _ => H'); refine r_int H' ?_; clear H'; intro _ _ _)
  | (with_reducible refine r_bool ?_)
  | (with_reducible refine r_none ?_)
  | ((with_reducible show wpAny _ _ (binaryOp Operator.Add (Value.int _ _) (Value.int _ _)) _ _ _); (with_reducible rename Stt _ _ _ _ _ _ _ => H'); refine r_add_int H' ?_; clear H'; intro _ _ _)
  | ((with_reducible show wpAny _ _ (binaryOp Operator.Sub (Value.int _ _) (Value.int _ _)) _ _ _); (with_reducible rename Stt _ _ _ _ _ _ _ => H'); refine r_sub_int H' ?_; clear H'; intro _ _ _)
  | ((with_reducible show wpAny _ _ (binaryOp Operator.Mod (Value.int _ _) (Value.int _ _)) _ _ _); (with_reducible rename Stt _ _ _ _ _ _ _ => H'); refine r_mod_int H' (by decide) ?_; clear H'; intro _ _ _)
  | ((with_reducible show wpAny _ _ (binaryOp Operator.FloorDiv (Value.int _ _) (Value.int _ _)) _ _ _); (with_reducible rename Stt _ _ _ _ _ _ _ => H'); refine r_fdiv_int H' (by decide) ?_ (PyProof.noPylong_small (by decide)); clear H'; intro _ _ _)
  | (with_reducible refine eq_str ?_)
  | (with_reducible refine ne_str ?_)
  | (with_reducible refine eq_int ?_)
  | (with_reducible refine ne_int ?_)
  | (with_reducible refine lt_int ?_)
  | (with_reducible refine gt_int ?_)
  | (with_reducible refine ge_int ?_)
  | (with_reducible refine is_none ?_)
  | ((with_reducible show wpAny _ _ (eval (Expr.Tuple _ _ _) _) _ _ _); refine Tuple_ ?_)
  | ((with_reducible show wpAny _ _ (spliced _) _ _ _); first | refine spliced_more ?_ | refine spliced_none ?_)
  | ((with_reducible show wpAny _ _ (newTuple _) _ _ _); (with_reducible rename Stt _ _ _ _ _ _ _ => H'); refine r_tup H' (Nat.le_of_ble_eq_true rfl) ?_; clear H'; intro _ _ _)
  | ((with_reducible show wpAny _ _ (newList _) _ _ _); (with_reducible rename Stt _ _ _ _ _ _ _ => H'); refine r_lst H' (Nat.le_of_ble_eq_true rfl) ?_; clear H'; intro _ _ _)
  | ((with_reducible show wpAny _ _ (eval (Expr.Subscript _ _ _) _) _ _ _); refine Subscript_ ?_)
  | ((with_reducible show wpAny _ _ (eval (Expr.Call (Expr.Name _ _) _ [] _) _) _ _ _); refine PyProof.Rows.Call_ ?_)
  | ((with_reducible show wpAny _ _ (eval (Expr.Name _ _) _) _ _ _); (with_reducible rename Stt _ _ _ _ _ _ _ => H'); refine' r_bi H' ?a ?b ?_; (case b => boot_by_name); (case a => decide))
  | ((with_reducible show wpAny _ _ (callWith _ (Value.type _) [] _ []) _ _ _); refine PyProof.Rows.callWith_type1 ?_)
  | ((with_reducible show wpAny _ _ (callWith _ (Value.builtin _) [] _ []) _ _ _); refine PyProof.Rows.callWith_builtin1 ?_)
  | ((with_reducible show wpAny _ _ (callWith _ (Value.builtin _) _ _ []) _ _ _); refine PyProof.Rows.callWith_method1 ?_)
  | dsimp only
  )

section
open PySem PySem.W PyProof.Rows PySem.Calls
namespace Mine

section
variable {prog : Program} {w : World} {A : Around} {s s₀ : Shared} {E : Value → Shared → Prop} {k : Nms} {K : Addr → Obj → Prop} {L : Addr} {m r : Str → Option Value} {news : List (Addr × Obj)}
theorem r_unpack2 {Q : Unit → Shared → Prop} {cn : Str} {cs : Scope} {a : Addr} {cd : Value} {cl : List (Str × Addr)} {x0 x1 : Str} {p0 p1 pos : Pos} {kk : Nat} {T : Addr} {v0 v1 : Value} {l : List (Str × Value)} (hh : A.handled = none)
    (H : Stt k K L s₀ s (asg l r) news) (ht : s.heap.IsTuple T #[v0, v1])
    (h : ∀ s', Stt k K L s₀ s' (asg ((x1, v1) :: (x0, v0) :: l) r) news → (∀ b o, b ≠ L → s.heap.get? b = some o → s'.heap.get? b = some o) → Q () s')
    (hk : cs.kind = .function := by rfl) (hx0 : (envX cn cs L a cd cl).kindOf x0 = some .local := by rfl) (hx1 : (envX cn cs L a cd cl).kindOf x1 = some .local := by rfl) :
    wpAny (model prog w) A (assign (.Tuple [.Name x0 p0, .Name x1 p1] kk pos) (envX cn cs L a cd cl) (.ref T)) Q E s := by
  refine wpAny_assign_Tuple hh ht rfl rfl fun h₁ hx₁ => ?_
  have up : ∀ b o, s.heap.get? b = some o → h₁.get? b = some o := fun b o e => hx₁ b o (Nat.ne_of_lt (Heap.lt_size e)) e
  have H1 := H.grows (Grows.ofH up)
  show wpAny _ A (do holding [v1] (assign (.Name x0 p0) (envX cn cs L a cd cl) v0); do holding [] (assign (.Name x1 p1) (envX cn cs L a cd cl) v1); pure ()) _ _ _
  have hp : ((envX cn cs L a cd cl).scope.kind == .class || ((envX cn cs L a cd cl).scope.kind == .module && (envX cn cs L a cd cl).locals != (envX cn cs L a cd cl).globals)) = false := by
    show (cs.kind == .class || (cs.kind == .module && L != mainGlobals)) = false; rw [hk]; rfl
  refine wpAny_bind (wpAny_holding (wpAny_assign_Name (wpAny_storeName_local hx0 H1.ns (fun h₂ hn₂ hs₂ => ?_) hp)))
  have H2 := H1.set (t := s.toks + 1) hn₂ hs₂
  rw [asg_upd] at H2
  refine wpAny_bind (wpAny_holding (wpAny_assign_Name (wpAny_storeName_local hx1 H2.ns (fun h₃ hn₃ hs₃ => wpAny_pure ?_) hp)))
  have H3 := H2.set (t := s.toks + 1 + 1) hn₃ hs₃
  rw [asg_upd] at H3
  exact h _ H3 fun b o hb e => hs₃.extBut b o hb (hs₂.extBut b o hb (up b o e))
end

-- the generator function's own reading
def escGo : Nat → Bool → List Nat → List (Nat × Str)
  | i, true, [] => [(i - 1, ⟨#[92]⟩)]
  | _, false, [] => []
  | i, true, c :: r => (i, ⟨#[92, c]⟩) :: escGo (i + 1) false r
  | i, false, c :: r => if c = 92 then escGo (i + 1) true r else (i, ⟨#[c]⟩) :: escGo (i + 1) false r

theorem one_eq (c d : Nat) : ((⟨#[c]⟩ : Str) == ⟨#[d]⟩) = decide (c = d) := by
  by_cases h : c = d
  · subst h; simp
  · have : (⟨#[c]⟩ : Str) ≠ ⟨#[d]⟩ := by intro e; apply h; simpa using e
    simp [h, this]
theorem bs_is : Str.ofString "\\" = ⟨#[92]⟩ := by decide +kernel
theorem qt_is : Str.ofString "\"" = ⟨#[34]⟩ := by decide +kernel
theorem bs_app (c : Nat) : Str.ofString "\\" ++ (⟨#[c]⟩ : Str) = ⟨#[92, c]⟩ := by rw [bs_is]; rfl

theorem Stt.but {k : Nms} {K : Addr → Obj → Prop} {L : Addr} {s₀ s : Shared} {m : Str → Option Value} {news : List (Addr × Obj)} {wr : List Addr} {h' : Heap} {t : Nat} (H : Stt k K L s₀ s m news)
    (hk : ∀ b o, b ∉ wr → s.heap.get? b = some o → h'.get? b = some o) (hK : ∀ b ∈ wr, ∀ o, ¬ K b o) (hL : L ∉ wr) (hn : ∀ p ∈ news, p.1 ∉ wr) : Stt k K L s₀ { s with heap := h', toks := t } m news where
  bs := H.bs
  ns := H.ns.at' fun o e => hk L o hL e
  keep := fun b o e => hk b o (fun hb => hK b hb o e) (H.keep b o e)
  offL := H.offL
  new := fun p hp => hk _ _ (hn p hp) (H.new p hp)
  off := H.off
  nodup := H.nodup
  drawn := H.drawn
  os := H.os
  gold := H.gold
  gens := H.gens

def Fo (N b : Nat) : Prop := b < N ∨ b = N + 1
def KN (N : Nat) (s₀ : Shared) : Addr → Obj → Prop := fun b o => Fo N b ∧ s₀.heap.get? b = some o
/-- below N nothing is touched -/
structure Since (N : Nat) (s₀ s : Shared) : Prop where
  heap : ∀ b o, Fo N b → s₀.heap.get? b = some o → s.heap.get? b = some o
  drawn : s.drawn = s₀.drawn
  os : s.os = s₀.os
  gold : ∀ g, g < s₀.gens.size → s.gens[g]? = s₀.gens[g]?
  gens : AllBare s₀.gens → AllBare s.gens
def GP (N : Nat) : Nat → Shared → Shared → Prop := fun n s₀ s => n = 0 ∧ Since N s₀ s
def GR (N : Nat) : GenEnd := fun n s₀ r s => r = .ok (.ret .none) ∧ GP N n s₀ s
def GY (N : Nat) (base : Heap) (items : List (Nat × Str)) : Protocol := fun n s₀ v s kap =>
  (∃ pre it post a t1 t2, items = pre ++ it :: post ∧ post.length = n ∧ v = .ref a ∧ s.heap.get? a = some (tupObj [.int (it.1 : Int) t1, .str it.2 t2])) ∧ Since N s₀ s ∧
  ∀ s'' : Shared, (∀ b o, N ≤ b → s.heap.get? b = some o → s''.heap.get? b = some o) → (∀ b o, base.get? b = some o → s''.heap.get? b = some o) → kap (.send .none) s''

section
variable {k : Nms} {N : Nat} {L : Addr} {s₀ s s'' : Shared} {m : Str → Option Value} {news : List (Addr × Obj)} {base : Heap}
theorem Stt.since (H : Stt k (KN N s₀) L s₀ s m news) : Since N s₀ s := ⟨fun b o hb e => H.keep b o ⟨hb, e⟩, H.drawn, H.os, H.gold, H.gens⟩
theorem Stt.resumed {K : Addr → Obj → Prop} (hb : Bs k base) (hbN : base.objs.size ≤ N) (hL : L = N) (H : Stt k K L s₀ s m news) (h1 : ∀ b o, N ≤ b → s.heap.get? b = some o → s''.heap.get? b = some o)
    (h2 : ∀ b o, base.get? b = some o → s''.heap.get? b = some o) : Stt k (KN N s'') L s'' s'' m [] where
  bs := ⟨base, hb, fun b o e => ⟨.inl (Nat.lt_of_lt_of_le (Heap.lt_size e) hbN), h2 b o e⟩⟩
  ns := H.ns.at' fun o e => h1 L o (Nat.le_of_eq hL.symm) e
  keep := fun b o e => e.2
  offL := fun o e => by subst hL; rcases e.1 with q | q; exact Nat.lt_irrefl _ q; exact Nat.succ_ne_self _ q.symm
  new := fun _ hp => nomatch hp
  off := fun _ hp => nomatch hp
  nodup := List.nodup_nil
  drawn := rfl
  os := rfl
  gold := fun _ _ => rfl
  gens := id
end

def forTgt : Stmt → Expr | .For t _ _ _ _ => t | _ => default
def forBod : Stmt → List Stmt | .For _ _ b _ _ => b | _ => []
def itFor : Stmt := ((boOf (stAt 1)).drop 2).headD (.Pass default)
abbrev itEnv (L a : Addr) (cd : Value) : Env := envX "_iter_escaped_chars" (scOf (stAt 1)) L a cd []
abbrev itCode (e : Addr) (env : Env) : Code := .forLoop (forTgt itFor) (.ref e) (forBod itFor) [] env

section
variable {prog : Program} {w : World} {A : Around} {k : Nms} {N : Nat} {L a e it : Addr} {cd : Value} {base : Heap} {x : Str} {t : Tok} {fs : List Frame} {items : List (Nat × Str)}
set_option maxRecDepth 100000 in
set_option maxHeartbeats 4000000 in
theorem gen_loop (hb : Bs k base) (hbN : base.objs.size ≤ N) (hL : L = N) (he : N + 2 ≤ e) (hit : N + 2 ≤ it) (hei : e ≠ it) (hLe : L ≠ e) (hLi : L ≠ it)
    (hh : (A.over (itCode e (itEnv L a cd)) fs).handled = none) (hfs : splitAtGen fs = none) (hfg : fs.any Frame.guarded = false)
    (fin : ∀ esc (s₀ s : Shared) m p tp, Stt k (KN N s₀) L s₀ s m [] → (∀ b o, base.get? b = some o → s₀.heap.get? b = some o) → m "escape" = some (.bool esc) → m "pos" = some (.int p tp) → (esc = true → p = (x.cps.size : Int) - 1 ∧ 0 ≤ p) → (∃ pre, items = pre ++ escGo x.cps.size esc []) →
      Seg (model prog w) A (GR N) (GY N base items) (escGo x.cps.size esc []).length s₀ (.block [] (itEnv L a cd)) (.pure (.done .next)) fs s) :
    ∀ (r : List Nat) (i : Nat) (esc : Bool) (s₀ s : Shared) (m : Str → Option Value) (p : Int) (tp : Tok), x.cps.toList.drop i = r → i ≤ x.cps.size →
      (∀ b o, base.get? b = some o → s₀.heap.get? b = some o) → Stt k (KN N s₀) L s₀ s m [] → ((∃ old, IsEnum s.heap e it i old) ∧ s.heap.IsStrIter it (strIterType x) x t i) →
      m "escape" = some (.bool esc) → m "pos" = some (.int p tp) → (esc = true → p = (i : Int) - 1 ∧ 0 ≤ p) → (∃ pre, items = pre ++ escGo i esc r) →
      Seg (model prog w) A (GR N) (GY N base items) (escGo i esc r).length s₀ (itCode e (itEnv L a cd)) ((model prog w).den (itCode e (itEnv L a cd))) fs s := by
  have hh1 : (A.over (itCode e (itEnv L a cd)) fs).in1.handled = none := hh
  have W := WalksT.enumerateD (draws_str (prog := prog) (w := w) hh1 it x t) e hei (by simpa using hei) (by simp)
  have hwr : ∀ b ∈ [e, it], N + 2 ≤ b := by simp [he, hit]
  have hfo : ∀ b ∈ [e, it], ¬ Fo N b := fun b hb q => by have := hwr b hb; rcases q with q | q; exact absurd q (by omega); exact absurd q (by omega)
  intro r
  induction r with
  | nil =>
    intro i esc s₀ s m p tp hr hi hbs H hst hme hmp hesc hpre
    have hin : i = x.cps.size := by
      have := congrArg List.length hr
      simp only [List.length_drop, List.length_nil, Array.length_toList] at this
      omega
    subst hin
    refine seg_forLoop rfl (W.done s _ _ hst fun h' tk hk => ?_)
    have H1 : Stt k (KN N s₀) L s₀ { s with heap := h', toks := tk } m [] := H.but hk (fun b hb o q => hfo b hb q.1) (by simp [hLe, hLi]) (fun _ hp => nomatch hp)
    exact fin esc s₀ _ m p tp H1 hbs hme hmp hesc hpre
  | cons c r ih =>
    intro i esc s₀ s m p tp hr hi hbs H hst hme hmp hesc hpre
    have hlt : i < x.cps.size := by
      have := congrArg List.length hr
      simp only [List.length_drop, List.length_cons, Array.length_toList] at this
      omega
    have hci : x.cps[i]? = some c := by
      have e : (x.cps.toList.drop i)[0]? = some c := by rw [hr]; rfl
      rw [List.getElem?_drop] at e
      simpa using e
    have hr' : x.cps.toList.drop (i + 1) = r := by
      have e := congrArg (List.drop 1) hr
      rw [List.drop_drop] at e
      simpa [Nat.add_comm] using e
    refine seg_forLoop rfl (W.item i s _ _ hlt hst fun T vals h₁ tk₁ hP hsz hT hMid hk₁ => ?_)
    obtain ⟨t1, v1, ⟨c', u, hc', rfl⟩, rfl⟩ := hP
    obtain rfl : c = c' := by rw [hci] at hc'; exact Option.some.inj hc'
    have H1 : Stt k (KN N s₀) L s₀ { s with heap := h₁, toks := tk₁ } m [] := H.but hk₁ (fun b hb o q => hfo b hb q.1) (by simp [hLe, hLi]) (fun _ hp => nomatch hp)
    refine W.go _ _ _ i T _ _ _ hMid fun h₂ hst₂ hk₂ => ?_
    have H2 : Stt k (KN N s₀) L s₀ { s with heap := h₂, toks := tk₁ } m [] := H1.but (t := tk₁) hk₂ (fun b hb o q => hfo b hb q.1) (by simp [hLe, hLi]) (fun _ hp => nomatch hp)
    have hT2 : h₂.IsTuple T #[.int i t1, .str ⟨#[c]⟩ u] := hT.at fun o q => hk₂ T o (W.apart i T h₁ hMid) q
    replace H2 := H2.asg [("escape", .bool esc), ("pos", .int p tp)] (by simp [hme, hmp])
    refine r_unpack2 hh H2 hT2 fun s₃ H3 hk₃ => ?_
    have hst3 := W.frame (i + 1) h₂ s₃.heap hst₂ fun b hb o q => hk₃ b o (by rintro rfl; revert hb; simp [hLe, hLi]) q
    clear H2 H1 H hT2 hT hMid hk₁ hk₂ hk₃ hst₂ hst
    -- what the turn must keep
    have guard : ∀ {s₀ s : Shared} {m : Str → Option Value}, (∀ b o, base.get? b = some o → s₀.heap.get? b = some o) → Stt k (KN N s₀) L s₀ s m [] →
        ((∃ old, IsEnum s.heap e it ((i + 1 : Nat) : Int) old) ∧ s.heap.IsStrIter it (strIterType x) x t (i + 1)) →
        Stt k (fun b o => KN N s₀ b o ∨ ((b = e ∨ b = it) ∧ s.heap.get? b = some o)) L s₀ s m [] ∧
        ∀ (s' : Shared) (m' : Str → Option Value) (news' : List (Addr × Obj)), Stt k (fun b o => KN N s₀ b o ∨ ((b = e ∨ b = it) ∧ s.heap.get? b = some o)) L s₀ s' m' news' →
          Stt k (KN N s₀) L s₀ s' m' [] ∧ ((∃ old, IsEnum s'.heap e it ((i + 1 : Nat) : Int) old) ∧ s'.heap.IsStrIter it (strIterType x) x t (i + 1)) := by
      intro s₀ s m hbs H hst
      refine ⟨H.also (fun b o q => q.2) (fun o q => by rcases q.1 with q | q; exact hLe q; exact hLi q) (fun _ hp => nomatch hp), fun s' m' news' H' => ⟨?_, ?_⟩⟩
      · exact (H'.only ⟨base, hb, fun b o q => ⟨.inl (Nat.lt_of_lt_of_le (Heap.lt_size q) hbN), hbs b o q⟩⟩ (fun b o q => .inl q)).drop (List.nil_sublist _)
      · exact W.frame (i + 1) _ _ hst fun b hb o q => H'.keep b o (.inr ⟨by simpa using hb, q⟩)
    obtain ⟨H4, back⟩ := guard hbs H3 hst3
    clear H3 hst3
    obtain ⟨pre, hpre⟩ := hpre
    refine seg_execs_cons ?_
    refine seg_If ?_
    cases esc with
    | true =>
      repeat (walk_at "s")
      refine ite_t rfl ?_
      show Seg _ _ _ _ ((escGo (i + 1) false r).length + 1) _ _ _ _ _
      refine seg_execs_cons ?_
      refine seg_Expr_Yield hfs rfl hfg ?_
      repeat (walk_at "s")
      (rename Stt _ _ _ _ _ _ _ => H5)
      refine r_add_str H5 (by rw [bs_is, sizeLine_eq]; exact Nat.le_of_ble_eq_true rfl) ?_
      clear H5
      intro s5 t5 H5
      rw [bs_app]
      repeat (walk_at "s")
      (rename Stt _ _ _ _ _ _ _ => H6)
      intro kap hkap
      have B6 := back _ _ _ H6
      refine ⟨⟨pre, (i, ⟨#[92, c]⟩), escGo (i + 1) false r, _, _, _, hpre, rfl, rfl, H6.new _ (.head _)⟩, B6.1.since, fun s'' h1 h2 => hkap .none s'' ?_⟩
      have R := Stt.resumed hb hbN hL B6.1 h1 h2
      have hst7 := W.frame (i + 1) _ s''.heap B6.2 fun b hb o q => h1 b o (Nat.le_trans (Nat.le_add_right N 2) (hwr b hb)) q
      clear H6 B6
      obtain ⟨H7, back7⟩ := guard h2 R hst7
      clear R hst7
      dsimp only
      refine seg_execs_cons (seg_plain ?_)
      repeat (walk_at "s")
      (rename Stt _ _ _ _ _ _ _ => H8)
      have B8 := back7 _ _ _ H8
      refine seg_execs_nil (seg_execs_nil ?_)
      exact seg_again rfl (ih (i + 1) false s'' _ _ _ _ hr' hlt h2 B8.1 B8.2 rfl rfl (fun q => nomatch q) ⟨pre ++ [(i, ⟨#[92, c]⟩)], by rw [hpre]; simp [escGo]⟩)
    | false =>
      repeat (walk_at "s")
      refine ite_f rfl ?_
      refine seg_execs_cons ?_
      refine seg_If ?_
      repeat (walk_at "s")
      refine ite_split (fun q => ?_) (fun q => ?_)
      · rw [bs_is, one_eq] at q
        have hc : c = 92 := by simpa using q
        have e1 : escGo i false (c :: r) = escGo (i + 1) true r := by simp [escGo, hc]
        rw [e1]
        rw [e1] at hpre
        refine seg_execs_cons (seg_plain ?_)
        repeat (walk_at "s")
        (rename Stt _ _ _ _ _ _ _ => H8)
        have B8 := back _ _ _ H8
        refine seg_execs_nil (seg_execs_nil (seg_execs_nil ?_))
        exact seg_again rfl (ih (i + 1) true s₀ _ _ _ _ hr' hlt hbs B8.1 B8.2 rfl rfl (fun _ => ⟨by push_cast; omega, by omega⟩) ⟨pre, hpre⟩)
      · rw [bs_is, one_eq] at q
        have hc : ¬ c = 92 := by simpa using q
        have e1 : escGo i false (c :: r) = (i, ⟨#[c]⟩) :: escGo (i + 1) false r := by simp [escGo, hc]
        rw [e1]
        rw [e1] at hpre
        show Seg _ _ _ _ ((escGo (i + 1) false r).length + 1) _ _ _ _ _
        refine seg_execs_cons ?_
        refine seg_Expr_Yield hfs rfl hfg ?_
        repeat (walk_at "s")
        (rename Stt _ _ _ _ _ _ _ => H6)
        intro kap hkap
        have B6 := back _ _ _ H6
        refine ⟨⟨pre, (i, ⟨#[c]⟩), escGo (i + 1) false r, _, _, _, hpre, rfl, rfl, H6.new _ (.head _)⟩, B6.1.since, fun s'' h1 h2 => hkap .none s'' ?_⟩
        have R := Stt.resumed hb hbN hL B6.1 h1 h2
        have hst7 := W.frame (i + 1) _ s''.heap B6.2 fun b hb o q => h1 b o (Nat.le_trans (Nat.le_add_right N 2) (hwr b hb)) q
        clear H6 B6
        dsimp only
        refine seg_execs_nil (seg_execs_nil (seg_execs_nil ?_))
        exact seg_again rfl (ih (i + 1) false s'' _ _ _ _ hr' hlt h2 R hst7 rfl rfl (fun q => nomatch q) ⟨pre ++ [(i, ⟨#[c]⟩)], by rw [hpre]; simp⟩)
end
end Mine
end

section
open PySem PySem.W PyProof.Rows PySem.Calls
namespace Mine

section
variable {prog : Program} {w : World} {A : Around} {k : Nms} {N : Nat} {L a : Addr} {cd : Value} {base : Heap} {x : Str} {t : Tok}
set_option maxRecDepth 100000 in
set_option maxHeartbeats 4000000 in
theorem gen_start (hb : Bs k base) (hbN : base.objs.size ≤ N) (hL : L = N) (hh : A.handled = none) {s : Shared} (hbs : ∀ b o, base.get? b = some o → s.heap.get? b = some o) (hNs : ∃ o, s.heap.get? (N + 1) = some o)
    (H : Stt k (KN N s) L s s (asg [("addr", .str x t)] fun _ => none) []) :
    Seg (model prog w) A (GR N) (GY N base (escGo 0 false x.cps.toList)) (escGo 0 false x.cps.toList).length s (.func (boOf (stAt 1)) (itEnv L a cd)) ((model prog w).den (.func (boOf (stAt 1)) (itEnv L a cd))) [] s := by
  refine seg_func ?_
  refine seg_execs_cons (seg_plain ?_)
  repeat (walk_at "s")
  refine seg_execs_cons (seg_plain ?_)
  repeat (walk_at "s")
  refine seg_execs_cons ?_
  refine seg_For (fun _ => rfl) ?_
  have hold : ∃ o, s.heap.get? (N + 1) = some o := hNs
  repeat (walk_at "s")
  (rename Stt _ _ _ _ _ _ _ => H)
  obtain ⟨oa, hoa⟩ := hold
  have hNsz := Nat.succ_le_of_lt (Heap.lt_size (H.keep (N + 1) oa ⟨.inr rfl, hoa⟩))
  have hLs := H.ns.lt
  refine call_enumerate_str fun h' he hit hsz hk => ?_
  have H1 := H.grows (Grows.ofH hk)
  refine wpAny_pyIter_enum he ?_
  intro p
  refine gen_loop (t := t) hb hbN hL (Nat.le_succ_of_le hNsz) hNsz (Nat.succ_ne_self _) (Nat.ne_of_lt (Nat.lt_succ_of_lt hLs)) (Nat.ne_of_lt hLs) (by exact hh) (by exact rfl) (by exact rfl) ?_ x.cps.toList 0 false s _ _ 0 _ rfl (Nat.zero_le _) hbs H1 ⟨⟨_, he⟩, hit⟩ rfl rfl (fun q => nomatch q) ⟨[], rfl⟩
  clear H1 H hk hit he
  intro esc s₀ s1 m p1 tp H hbs0 hme hmp hesc hpre
  refine seg_leaf (.ok .next) ?_
  show Seg _ _ _ _ _ _ _ (Sem.wrap _ _ _ _ (execs _ _)) _ _
  refine seg_execs_cons ?_
  refine seg_If ?_
  replace H := H.asg [("escape", .bool esc), ("pos", .int p1 tp)] (by simp [hme, hmp])
  repeat (walk_at "s")
  cases esc with
  | false =>
    refine ite_f rfl ?_
    refine seg_execs_nil (seg_execs_nil ?_)
    (rename Stt _ _ _ _ _ _ _ => H)
    exact seg_end (.ok (.ret .none)) ⟨rfl, rfl, H.since⟩
  | true =>
    refine ite_t rfl ?_
    show Seg _ _ _ _ (0 + 1) _ _ _ _ _
    refine seg_execs_cons ?_
    refine seg_Expr_Yield rfl rfl rfl ?_
    repeat (walk_at "s")
    (rename Stt _ _ _ _ _ _ _ => H6)
    intro kap hkap
    obtain ⟨pre, hpre⟩ := hpre
    obtain ⟨e1, e2⟩ := hesc rfl
    have e3 : p1 = ((x.cps.size - 1 : Nat) : Int) := by omega
    subst e3
    rw [bs_is] at H6
    refine ⟨⟨pre, (x.cps.size - 1, ⟨#[92]⟩), [], _, _, _, hpre, rfl, rfl, H6.new _ (.head _)⟩, (H6.drop (List.nil_sublist _)).since, fun s'' h1 h2 => hkap .none s'' ?_⟩
    have R := Stt.resumed hb hbN hL H6 h1 h2
    clear H6
    dsimp only
    refine seg_execs_nil (seg_execs_nil ?_)
    exact seg_end (.ok (.ret .none)) ⟨rfl, rfl, R.since⟩
end
end Mine
end

section
open PySem PySem.W PyProof.Rows PySem.Calls
namespace Mine

def itemsOf (x : Str) : List (Nat × Str) := escGo 0 false x.cps.toList

/-- a generator that has these items still to give -/
def WaitsAt (prog : Program) (w : World) (A' : Around) (base : Heap) (N : Nat) (items : List (Nat × Str)) (n : Nat) (gs : GenState) (s : Shared) : Prop :=
  ∀ s'' : Shared, (∀ b o, N ≤ b → s.heap.get? b = some o → s''.heap.get? b = some o) →
    (∀ b o, base.get? b = some o → s''.heap.get? b = some o) → gs.Goes (model prog w) A' (GR N) (GY N base items) n (.send .none) s''
def Waits (prog : Program) (w : World) (k : Nms) (N : Nat) (items : List (Nat × Str)) (n : Nat) (gs : GenState) (s : Shared) : Prop :=
  ∀ (A' : Around), A'.handled = none → ∀ base, Bs k base → base.objs.size ≤ N → WaitsAt prog w A' base N items n gs s

section
variable {prog : Program} {w : World} {A : Around} {s : Shared} {E Q : Value → Shared → Prop} {k : Nms}
set_option maxRecDepth 100000 in
set_option maxHeartbeats 4000000 in
theorem call_iter {x : Str} {t : Tok} (B : Bs k s.heap) (hroom : A.depth < recursionLimit)
    (h : ∀ s' a g gs, Grows s s' → s'.heap.IsGen a g → s'.gens[g]? = some gs → s.gens.size ≤ g → a = s.heap.objs.size + 1 → Waits prog w k s.heap.objs.size (itemsOf x) (itemsOf x).length gs s' → Q (.ref a) s') :
    wpAny (model prog w) A (call (.ref k.aI) [.str x t]) Q E s := by
  obtain ⟨o, pm, cd, doc, e, d, c⟩ := B.fI.fn
  refine wpAny_call (codeAny_call_generator hroom e d rfl rfl rfl c ?_)
  refine wpAny_of_eq (a := ([("addr", Value.str x t)] : List (Str × Value))) rfl ?_
  refine wpAny_newFunctionEnv (by show ∀ x ∈ (scOf (stAt 1)).names, x.2 ≠ .cell; decide) (locs rfl) (fun h₁ hns hsb => ⟨B.nolimit.fresh _ hsb, ?_⟩) rfl
  have hz : h₁.objs.size = s.heap.objs.size + 1 := by rw [hsb.1, Heap.size_push]
  have up : ∀ b o, s.heap.get? b = some o → h₁.get? b = some o := fun b o q => hsb.extBut b o (Nat.ne_of_lt (Heap.lt_size q)) (Heap.get?_push_of_some _ q)
  refine h _ _ s.gens.size _ ⟨fun b o q => Heap.get?_push_of_some _ (up b o q), rfl, rfl, fun g hg => ?_, fun G => ?_⟩ ⟨_, _, _, Heap.get?_push_size _ rfl, rfl, rfl, rfl⟩ (Array.getElem?_push_size ..) (Nat.le_refl _) hz ?_
  · show (s.gens.push _)[g]? = _
    rw [Array.getElem?_push_lt hg, Array.getElem?_eq_getElem hg]
  · exact G.push rfl
  · intro A' hh base hb hbN s'' h1 h2
    refine ⟨rfl, ?_⟩
    have ha := Heap.get?_push_size h₁ (o := { cls := .type "generator", data := .fields #[.int s.gens.size 0, .str "_iter_escaped_chars" (s.toks + 1), .str "_iter_escaped_chars" (s.toks + 1 + 1)] }) rfl
    rw [hz] at ha
    have hL1 : s''.heap.Ns s.heap.objs.size (asg [("addr", .str x t)] fun _ => none) := by
      have hns' : h₁.Ns s.heap.objs.size (asg [("addr", .str x t)] fun _ => none) := by
        have e : (fun y => List.lookup y ([("addr", Value.str x t)] : List (Str × Value)).reverse) = asg [("addr", .str x t)] fun _ => none := by
          funext y
          show List.lookup y [("addr", Value.str x t)] = asg [("addr", .str x t)] (fun _ => none) y
          unfold asg
          cases List.lookup y [("addr", Value.str x t)] <;> rfl
        rw [← e]
        exact hns
      exact hns'.at' fun o q => h1 _ o (Nat.le_refl _) (Heap.get?_push_of_some _ q)
    exact gen_start hb hbN rfl hh h2 ⟨_, h1 _ _ (Nat.le_succ _) ha⟩ ⟨⟨base, hb, fun b o q => ⟨.inl (Nat.lt_of_lt_of_le (Heap.lt_size q) hbN), h2 b o q⟩⟩, hL1, fun b o q => q.2, fun o q => by rcases q.1 with q | q; exact Nat.lt_irrefl _ q; exact Nat.succ_ne_self _ q.symm, (fun _ hp => nomatch hp), (fun _ hp => nomatch hp), List.nodup_nil, rfl, rfl, fun _ _ => rfl, id⟩
end
end Mine
end

section
open PySem PySem.W PyProof.Rows PySem.Calls
set_option linter.unusedVariables false
namespace Mine

section
variable {prog : Program} {w : World} {A : Around} {s s₀ : Shared} {E Q : Value → Shared → Prop} {k : Nms} {K : Addr → Obj → Prop} {L : Addr} {m r : Str → Option Value} {news : List (Addr × Obj)}

theorem r_part_some {env : Env} {e : Expr} (h : wpAny (model prog w) A (eval e env) Q E s) : wpAny (model prog w) A (evalPart (some e) env) Q E s := h
theorem r_part_none {env : Env} (h : Q .none s) : wpAny (model prog w) A (evalPart none env) Q E s := wpAny_pure h

theorem keptOf (s : Shared) : KeptH (fun h => ∀ b o, s.heap.get? b = some o → h.get? b = some o) := fun _ ob hP b o e => Heap.get?_push_of_some ob (hP b o e)

section
variable {value slice : Expr} {x : Str} {t : Tok}
theorem r_slice_ss {i j : Int} {ui uj : Tok} (H : Stt k K L s₀ s m news) (hz : x.length ≤ sizeLine) (h : ∀ s' t', Stt k K L s₀ s' m news → Q (.str (Txt.slice x (some i) (some j)) t') s')
    (hs : subscripted slice false (.str x t) (.ref s.heap.objs.size) = operate [.ref s.heap.objs.size, .str x t] (getItem (.str x t) (.ref s.heap.objs.size)) := by with_unfolding_all rfl)
    (ht : ∀ r, letTemporaryGo value (.str x t) r = pure () := by intro _; with_unfolding_all rfl) :
    wpAny (model prog w) A (subscriptTail value slice (.str x t) (.ref s.heap.objs.size)) Q E { s with heap := s.heap.push { cls := .type "slice", data := .fields #[.int i ui, .int j uj, .none] } } :=
  tail_of_ItemOn (SBH.sliceItem_ss (keptOf s) (fun _ _ e => e) (fun h' t' c hP => h _ _ (H.grows (Grows.of hP))) hz) hs ht
theorem r_slice_sn {i : Int} {ui : Tok} (H : Stt k K L s₀ s m news) (hz : x.length ≤ sizeLine) (h : ∀ s' t', Stt k K L s₀ s' m news → Q (.str (Txt.slice x (some i) none) t') s')
    (hs : subscripted slice false (.str x t) (.ref s.heap.objs.size) = operate [.ref s.heap.objs.size, .str x t] (getItem (.str x t) (.ref s.heap.objs.size)) := by with_unfolding_all rfl)
    (ht : ∀ r, letTemporaryGo value (.str x t) r = pure () := by intro _; with_unfolding_all rfl) :
    wpAny (model prog w) A (subscriptTail value slice (.str x t) (.ref s.heap.objs.size)) Q E { s with heap := s.heap.push { cls := .type "slice", data := .fields #[.int i ui, .none, .none] } } :=
  tail_of_ItemOn (SBH.sliceItem_sn (keptOf s) (fun _ _ e => e) (fun h' t' c hP => h _ _ (H.grows (Grows.of hP))) hz) hs ht
theorem r_slice_ns {j : Int} {uj : Tok} (H : Stt k K L s₀ s m news) (hz : x.length ≤ sizeLine) (h : ∀ s' t', Stt k K L s₀ s' m news → Q (.str (Txt.slice x none (some j)) t') s')
    (hs : subscripted slice false (.str x t) (.ref s.heap.objs.size) = operate [.ref s.heap.objs.size, .str x t] (getItem (.str x t) (.ref s.heap.objs.size)) := by with_unfolding_all rfl)
    (ht : ∀ r, letTemporaryGo value (.str x t) r = pure () := by intro _; with_unfolding_all rfl) :
    wpAny (model prog w) A (subscriptTail value slice (.str x t) (.ref s.heap.objs.size)) Q E { s with heap := s.heap.push { cls := .type "slice", data := .fields #[.none, .int j uj, .none] } } :=
  tail_of_ItemOn (SBH.sliceItem_ns (keptOf s) (fun _ _ e => e) (fun h' t' c hP => h _ _ (H.grows (Grows.of hP))) hz) hs ht
/-- a sign of a text -/
theorem r_item_str {i : Int} {u : Tok} (H : Stt k K L s₀ s m news) (h0 : 0 ≤ i) (h1 : i < x.length) (hz : x.length ≤ sizeLine) (h : ∀ s' t', Stt k K L s₀ s' m news → Q (.str (Txt.item x i) t') s')
    (hs : subscripted slice false (.str x t) (.int i u) = operate [.str x t, .int i u] (getItem (.str x t) (.int i u)) := by with_unfolding_all rfl)
    (ht : ∀ r, letTemporaryGo value (.str x t) r = pure () := by intro _; with_unfolding_all rfl) :
    wpAny (model prog w) A (subscriptTail value slice (.str x t) (.int i u)) Q E s := by
  refine item_str ?_ (by omega) h1 (fun _ => h _ _ (H.grows (Grows.toks _ _))) hs ht
  rw [sizeLine_eq] at hz
  unfold fitsSsize
  simp only [Bool.not_eq_true', Bool.or_eq_false_iff, decide_eq_false_iff_not]
  omega
end

theorem r_len_str {x : Str} {t : Tok} (H : Stt k K L s₀ s m news) (hz : x.length ≤ sizeLine) (h : ∀ s' t', Stt k K L s₀ s' m news → Q (.int x.length t') s') : wpAny (model prog w) A (call (.builtin "len") [.str x t]) Q E s :=
  PySem.P.len_str (by rw [sizeLine_eq] at hz; omega) (h _ _ (H.grows (Grows.toks _ _)))
theorem r_chr {i : Int} {t : Tok} (H : Stt k K L s₀ s m news) (h0 : 0 ≤ i) (h1 : i ≤ 1114111) (h : ∀ s' t', Stt k K L s₀ s' m news → Q (.str ⟨#[i.toNat]⟩ t') s') : wpAny (model prog w) A (call (.builtin "chr") [.int i t]) Q E s :=
  chr_of_range h0 h1 (h _ _ (H.grows (Grows.toks _ _)))
theorem r_truthy_str {Q : Bool → Shared → Prop} {x : Str} {t : Tok} (H : Stt k K L s₀ s m news) (hz : x.length ≤ sizeLine) (h : ∀ s', Stt k K L s₀ s' m news → Q ((x.length : Int) != 0) s') : wpAny (model prog w) A (truthy (.str x t)) Q E s :=
  PySem.P.truthy_str (by rw [sizeLine_eq] at hz; omega) (h _ (H.grows (Grows.toks _ _)))

/-- append to a list of the frame's own -/
theorem r_append {D : Addr} {vs : List Value} {n : Nat} {v : Value} {l r : List (Addr × Obj)} (H : Stt k K L s₀ s m (l ++ (D, lstObj vs n) :: r)) (hz : vs.length ≤ sizeLine)
    (h : ∀ s', Stt k K L s₀ s' m (l ++ (D, lstObj (vs ++ [v]) (n + 1)) :: r) → Q .none s') : wpAny (model prog w) A (call (.builtin "list.append") [.ref D, v]) Q E s := by
  refine append_at (its := vs.toArray) (n := n) (H.new _ (List.mem_append_right _ (.head _))) (fun h' hs ho => ?_) (by simpa using hz)
  have := H.put (t := s.toks) (o' := lstObj (vs ++ [v]) (n + 1)) hs (by rw [ho]; simp [lstObj])
  exact h _ this

theorem r_join {D : Addr} {y : Str} {t : Tok} {l : List (Str × Tok)} {n : Nat} (H : Stt k K L s₀ s m news) (hD : s.heap.get? D = some (lstObj (strValues l) n)) (hok : JoinOk y (l.map (·.1)) = true)
    (h : ∀ s' t', Stt k K L s₀ s' m news → Q (.str (Txt.join y (l.map (·.1))) t') s') : wpAny (model prog w) A (call (.builtin "str.join") [.str y t, .ref D]) Q E s :=
  SC.join ⟨_, hD, rfl, _, rfl⟩ rfl hok fun _ _ => h _ _ (H.grows (Grows.toks _ _))
end

theorem joinOk_of {y : Str} {ts : List Str} {M : Nat} (h : ∀ x ∈ ts, x.length ≤ M) (hy : y.length ≤ 1000) (hM : M ≤ 1000) (hn : ts.length ≤ 2000) : JoinOk y ts = true := by
  unfold JoinOk
  have key : ∀ (ts : List Str) (a : Nat), (∀ x ∈ ts, x.length ≤ M) → ts.foldl (fun x1 x2 => x1 + x2.length + y.length) a ≤ a + ts.length * (M + y.length) := by
    intro ts
    induction ts with
    | nil => intro a _; simp
    | cons z r ih =>
      intro a h
      rw [List.foldl_cons]
      refine Nat.le_trans (ih _ fun x hx => h x (.tail _ hx)) ?_
      have := h z (.head _)
      rw [List.length_cons, Nat.add_mul]
      omega
  have e := key ts 0 h
  have e2 : ts.length * (M + y.length) ≤ 2000 * 2000 := Nat.mul_le_mul hn (by omega)
  have e3 : ts.toArray.foldl (fun x1 x2 => x1 + x2.length + y.length) 0 = ts.foldl (fun x1 x2 => x1 + x2.length + y.length) 0 := by simp
  rw [e3, Bool.not_eq_true']
  unfold Builtin.Str.tooLong
  rw [sizeLine_eq]
  simp only [decide_eq_false_iff_not]
  omega
end Mine
end

local macro_rules | `(tactic| walk_at "s") => `(tactic| first
  | (with_reducible refine wpAny_Slice ?_)
  | (with_reducible refine r_part_some ?_)
  | (with_reducible refine r_part_none ?_)
  | ((with_reducible show wpAny _ _ (call (Value.builtin "len") [Value.str _ _]) _ _ _); (with_reducible rename Stt _ _ _ _ _ _ _ => H'); refine r_len_str H' (by assumption) ?_; clear H'; intro _ _ _))

section
open PySem PySem.W PyProof.Rows PySem.Calls
set_option linter.unusedVariables false
namespace Mine

def stripStep (x : Str) (a : Nat × Option Nat × List Str) (it : Nat × Str) : Nat × Option Nat × List Str :=
  if it.2 = (⟨#[34]⟩ : Str) then match a.2.1 with
    | none => (a.1, some it.1, a.2.2)
    | some q => (it.1 + 1, none, if a.1 = q then a.2.2 else a.2.2 ++ [Txt.slice x (some a.1) (some q)])
  else a
def ovIs (ov : Value) : Option Nat → Prop
  | none => ov = .none
  | some q => ∃ tq, ov = .int q tq
def spFor : Stmt := ((boOf (stAt 2)).drop 4).headD (.Pass default)
abbrev spEnv (L a : Addr) (cd : Value) : Env := envX "_strip_quoted_realnames" (scOf (stAt 2)) L a cd []

theorem r_Append {prog : Program} {w : World} {A : Around} {E Q : Value → Shared → Prop} {s : Shared} {env : Env} {o elt : Expr} {apos pos : Pos}
    (h : wpAny (model prog w) A (eval o env) (fun ov s₁ => ∃ D vs n, ov = Value.ref D ∧ s₁.heap.get? D = some (lstObj vs n) ∧
      wpAny (model prog w) A (eval elt env) (fun y s₂ => wpAny (model prog w) A (call (Value.builtin "list.append") [Value.ref D, y]) Q E s₂) E s₁) E s)
    (hbase : attributeBase o (Str.ofString "append") env (eval o env) = eval o env := by rfl)
    (hfew : ((((backTo pos (starEach [elt] env)).all fun x => !x.fst) && (backToKw pos (keywordEach [] env)).all fun x => x.fst.isSome) && decide (([elt] : List Expr).length + ([] : List Keyword).length + (if ([] : List Keyword).isEmpty = true then 0 else 1) < 30)) = true := by rfl)
    (hline : (apos.endLine == pos.line) = true := by rfl) (htrees : backTo pos (starEach [elt] env) = [(false, eval elt env)] := by rfl) :
    wpAny (model prog w) A (eval (.Call (.Attribute o (Str.ofString "append") apos) [elt] [] pos) env) Q E s :=
  wpAny_Call_append hbase hfew hline htrees (wpAny_mono h (fun ov s₁ ⟨D, vs, n, e, hD, r⟩ => ⟨D, vs.toArray, e, ⟨_, n, hD, rfl, rfl, rfl⟩, r⟩) fun _ _ e => e)

section
variable {prog : Program} {w : World} {A : Around} {s s₀ : Shared} {k : Nms} {K : Addr → Obj → Prop} {L a D : Addr} {m : Str → Option Value} {cd : Value} {x c : Str} {t u tp ts : Tok} {p st nn : Nat} {ov : Value} {op : Option Nat} {l : List (Str × Tok)}
set_option maxRecDepth 100000 in
set_option maxHeartbeats 4000000 in
theorem strip_body (hx : x.length ≤ 1000) (hl : l.length ≤ 10000) (hov : ovIs ov op)
    (H : Stt k K L s₀ s (asg [("ch", .str c u), ("pos", .int p tp), ("addr", .str x t), ("start", .int st ts), ("open_pos", ov), ("result", .ref D)] m) [(D, lstObj (strValues l) nn)]) :
    wpAny (model prog w) A (execs (forBod spFor) (spEnv L a cd)) (fun f s' => f = .next ∧ ∃ m' l' nn' st' ts' ov' op', Stt k K L s₀ s' m' [(D, lstObj (strValues l') nn')] ∧
      m' "addr" = some (.str x t) ∧ m' "start" = some (.int (st' : Nat) ts') ∧ m' "open_pos" = some ov' ∧ m' "result" = some (.ref D) ∧
      stripStep x (st, op, l.map (·.1)) (p, c) = (st', op', l'.map (·.1)) ∧ ovIs ov' op' ∧ l'.length ≤ l.length + 1) (fun _ _ => False) s := by
  have hz : x.length ≤ sizeLine := by rw [sizeLine_eq]; omega
  repeat (walk_at "s")
  refine ite_split (fun q => ?_) (fun q => ?_)
  · rw [qt_is] at q
    have hc : c = ⟨#[34]⟩ := by simpa using q
    repeat (walk_at "s")
    cases op with
    | none =>
      obtain rfl : ov = .none := hov
      refine ite_t rfl ?_
      repeat (walk_at "s")
      (rename Stt _ _ _ _ _ _ _ => H)
      refine ⟨rfl, _, l, nn, st, ts, _, some p, H, rfl, rfl, rfl, rfl, ?_, ⟨_, rfl⟩, Nat.le_succ _⟩
      simp [stripStep, hc]
    | some q0 =>
      obtain ⟨tq, rfl⟩ := hov
      refine ite_f rfl ?_
      repeat (walk_at "s")
      refine ite_split (fun q1 => ?_) (fun q1 => ?_)
      · have hne : ¬ st = q0 := by
          intro e; subst e; simp at q1
        walk_at "s"
        walk_at "s"
        refine r_Append ?_
        walk_at "s"
        (rename Stt _ _ _ _ _ _ _ => H)
        refine ⟨D, strValues l, nn, rfl, H.new _ (.head _), ?_⟩
        repeat (walk_at "s")
        (rename Stt _ _ _ _ _ _ _ => H)
        refine r_slice_ss H hz ?_
        clear H
        intro s3 t3 H
        refine r_append (l := []) (r := []) H (by rw [sizeLine_eq]; simp [strValues]; omega) ?_
        clear H
        intro s4 H
        have e : ([] ++ (D, lstObj (strValues l ++ [Value.str (Txt.slice x (some (st : Int)) (some (q0 : Int))) t3]) (nn + 1)) :: [] : List (Addr × Obj)) =
            [(D, lstObj (strValues (l ++ [(Txt.slice x (some (st : Int)) (some (q0 : Int)), t3)])) (nn + 1))] := by simp [strValues]
        rw [e] at H
        repeat (walk_at "s")
        (rename Stt _ _ _ _ _ _ _ => H)
        refine ⟨rfl, _, _, _, p + 1, _, _, none, H, rfl, by push_cast; rfl, rfl, rfl, ?_, rfl, by simp⟩
        simp [stripStep, hc, hne]
      · have heq : st = q0 := by
          have : (st : Int) = q0 := by simpa using q1
          omega
        repeat (walk_at "s")
        (rename Stt _ _ _ _ _ _ _ => H)
        refine ⟨rfl, _, l, _, p + 1, _, _, none, H, rfl, by push_cast; rfl, rfl, rfl, ?_, rfl, Nat.le_succ _⟩
        simp [stripStep, hc, heq]
  · rw [qt_is] at q
    have hc : ¬ c = ⟨#[34]⟩ := by simpa using q
    repeat (walk_at "s")
    (rename Stt _ _ _ _ _ _ _ => H)
    refine ⟨rfl, _, l, nn, st, ts, ov, op, H, rfl, rfl, rfl, rfl, ?_, hov, Nat.le_succ _⟩
    simp [stripStep, hc]
end
end Mine
end

section
open PySem PySem.W PyProof.Rows PySem.Calls
set_option linter.unusedVariables false
namespace Mine

theorem letOwned_gen {prog : Program} {w : World} {A : Around} {E : Value → Shared → Prop} {Q : Unit → Shared → Prop} {s : Shared} {elts : List Expr} {kk : Nat} {pos : Pos} {a g ta : Addr} (hg : s.heap.IsGen a g) (h : Q () s) :
    wpAny (model prog w) A (letOwnedTupleGo (.Tuple elts kk pos) (.ref a) (.ref ta)) Q E s := by
  obtain ⟨⟨c, d, dt, sl⟩, nm, qn, ho, hc, hd, hs⟩ := hg
  simp only at hc hd hs
  subst hc hd hs
  unfold letOwnedTupleGo
  refine wpAny_bind (wpAny_load ho ?_)
  show wpAny _ _ (if (["enumerate", "zip", "dict_itemiterator", "dict_reverseitemiterator", "odict_iterator", "itertools.zip_longest", "itertools.pairwise"].contains "generator" && _) = true then _ else _) _ _ _
  rw [if_neg (by simp)]
  exact wpAny_pure h

theorem gens_set {s : Shared} {g j : Nat} {gs : GenState} (h : j ≠ g) : (s.setGen g gs).gens[j]? = s.gens[j]? := by
  simp [Shared.setGen, Ne.symm h]
theorem gens_size {s : Shared} {g : Nat} {gs : GenState} : (s.setGen g gs).gens.size = s.gens.size := by simp [Shared.setGen]
theorem bare_set {s : Shared} {g : Nat} {gs : GenState} (hb : gs.bare = true) (h : AllBare s.gens) : AllBare (s.setGen g gs).gens := by
  intro y hy
  obtain ⟨i, hi, rfl⟩ := Array.mem_iff_getElem.mp hy
  have e := Array.getElem?_eq_getElem hi
  by_cases q : i = g
  · subst q
    have hlt : i < s.gens.size := by rw [← gens_size (gs := gs)]; exact hi
    have e2 : (s.setGen i gs).gens[i]? = some gs := by simp [Shared.setGen, hlt]
    rw [e2] at e
    rw [← Option.some.inj e]; exact hb
  · rw [gens_set q] at e
    obtain ⟨hi', e'⟩ := Array.getElem?_eq_some_iff.mp e
    rw [← e']; exact h _ (Array.getElem_mem hi')

section
variable {prog : Program} {w : World} {k : Nms} {K : Addr → Obj → Prop} {L N : Addr} {s₀ s s₁ : Shared} {m : Str → Option Value} {news : List (Addr × Obj)} {g : Nat} {gs : GenState}
/-- behind a turn of a generator -/
theorem Stt.afterGen (H : Stt k K L s₀ s m news) (hK : ∀ b o, K b o → b < N) (hL : L < N) (hn : ∀ p ∈ news, p.1 < N) (hg : s₀.gens.size ≤ g) (hb : gs.bare = true) (S : Since N (s.setGen g .running) s₁) :
    Stt k K L s₀ (s₁.setGen g gs) m news where
  bs := H.bs
  ns := H.ns.at' fun o e => S.heap L o (.inl hL) e
  keep := fun b o e => S.heap b o (.inl (hK b o e)) (H.keep b o e)
  offL := H.offL
  new := fun p hp => S.heap _ _ (.inl (hn p hp)) (H.new p hp)
  off := H.off
  nodup := H.nodup
  drawn := S.drawn.trans H.drawn
  os := S.os.trans H.os
  gold := fun j hj => by
    have hjg : j ≠ g := fun e => Nat.lt_irrefl _ (Nat.lt_of_lt_of_le (e ▸ hj) hg)
    rw [gens_set hjg]
    have e1 := H.gold j hj
    rw [Array.getElem?_eq_getElem hj] at e1
    have hjs : j < s.gens.size := (Array.getElem?_eq_some_iff.mp e1).1
    rw [S.gold j (by rw [gens_size]; exact hjs), gens_set hjg, H.gold j hj]
  gens := fun G => bare_set hb (S.gens (bare_set rfl (H.gens G)))

theorem WaitsAt.moved {A' : Around} {base : Heap} {items : List (Nat × Str)} {n : Nat} {s' : Shared} (h : WaitsAt prog w A' base N items n gs s) (hk : ∀ b o, N ≤ b → s.heap.get? b = some o → s'.heap.get? b = some o) : WaitsAt prog w A' base N items n gs s' :=
  fun s'' h1 h2 => h s'' (fun b o q e => h1 b o q (hk b o q e)) h2
end

theorem escGo_len : ∀ (r : List Nat) (i : Nat) (e : Bool), (escGo i e r).length ≤ r.length + 1
  | [], i, e => by cases e <;> simp [escGo]
  | c :: r, i, true => by have := escGo_len r (i + 1) false; simp only [escGo, List.length_cons]; omega
  | c :: r, i, false => by
    have h1 := escGo_len r (i + 1) false
    have h2 := escGo_len r (i + 1) true
    simp only [escGo]
    split <;> simp only [List.length_cons] <;> omega
theorem items_len (x : Str) : (itemsOf x).length ≤ x.length + 1 := by
  have := escGo_len x.cps.toList 0 false
  have e : x.cps.toList.length = x.length := rfl
  unfold itemsOf
  omega

section
variable {prog : Program} {w : World} {A : Around} {k : Nms} {L N a D ca : Addr} {s₀ s : Shared} {m : Str → Option Value} {g : Nat} {gs : GenState} {x : Str} {t ts : Tok} {nn d u : Nat} {cd : Value}
set_option maxRecDepth 100000 in
set_option maxHeartbeats 4000000 in
theorem strip_loop {R : Result → Shared → Prop} (O : Ok A d (u + 1)) (hx : x.length ≤ 1000) (hBk : Bs k s₀.heap) (hsz : s₀.heap.objs.size ≤ N) (hL : L < N) (hD : D < N) (hg : s₀.gens.size ≤ g) (ha : a = N + 1)
    (H : Stt k (fun b o => s₀.heap.get? b = some o) L s₀ s m [(D, lstObj [] nn)]) (hgen : s.heap.IsGen a g) (hgs : s.gens[g]? = some gs) (hw : Waits prog w k N (itemsOf x) (itemsOf x).length gs s)
    (m1 : m "addr" = some (.str x t)) (m2 : m "start" = some (.int 0 ts)) (m3 : m "open_pos" = some .none) (m4 : m "result" = some (.ref D))
    (done : ∀ s' m' l nn' (st : Nat) ts' op, Stt k (fun b o => s₀.heap.get? b = some o) L s₀ s' m' [(D, lstObj (strValues l) nn')] → m' "addr" = some (.str x t) → m' "start" = some (.int st ts') → m' "result" = some (.ref D) →
      (itemsOf x).foldl (stripStep x) (0, none, []) = (st, op, l.map (·.1)) → l.length ≤ (itemsOf x).length → R (.ok .next) s') :
    codeAny (model prog w) A (.forLoop (forTgt spFor) (.ref a) (forBod spFor) [] (spEnv L ca cd)) R s := by
  have hKN : ∀ b o, s₀.heap.get? b = some o → b < N := fun b o e => Nat.lt_of_lt_of_le (Heap.lt_size e) hsz
  have hit := items_len x
  refine codeAny_forLoop_any (fun n s => ∃ (i : Nat) (m : Str → Option Value) (gs : GenState) (l : List (Str × Tok)) (nn st : Nat) (ts : Tok) (ov : Value) (op : Option Nat),
    Stt k (fun b o => s₀.heap.get? b = some o) L s₀ s m [(D, lstObj (strValues l) nn)] ∧ s.heap.IsGen a g ∧ s.gens[g]? = some gs ∧ WaitsAt prog w A.in1 s₀.heap N (itemsOf x) ((itemsOf x).length - i) gs s ∧
    (m "addr" = some (.str x t) ∧ m "start" = some (.int st ts) ∧ m "open_pos" = some ov ∧ m "result" = some (.ref D)) ∧
    ((itemsOf x).take i).foldl (stripStep x) (0, none, []) = (st, op, l.map (·.1)) ∧ ovIs ov op ∧ i ≤ (itemsOf x).length ∧ l.length ≤ i ∧ n = (itemsOf x).length + 1 - i) ?_ ((itemsOf x).length + 1)
    ⟨0, m, gs, [], nn, 0, ts, .none, none, H, hgen, hgs, by simpa using hw A.in1 O.in1.hh s₀.heap hBk hsz, ⟨m1, m2, m3, m4⟩, rfl, rfl, Nat.zero_le _, Nat.le_refl _, rfl⟩
  clear H hgen hgs hw m1 m2 m3 m4
  rintro n s ⟨i, m, gs, l, nn, st, ts, ov, op, H, hgen, hgs, hw, ⟨m1, m2, m3, m4⟩, hf, hov, hi, hl, rfl⟩
  have hgo := hw (s.setGen g .running) (fun b o _ e => e) (fun b o e => H.keep b o e)
  have hnews : ∀ p ∈ [(D, lstObj (strValues l) nn)], p.1 < N := by simpa using hD
  by_cases hlt : i < (itemsOf x).length
  · obtain ⟨n', hn'⟩ : ∃ n', (itemsOf x).length - i = n' + 1 := ⟨(itemsOf x).length - i - 1, by omega⟩
    rw [hn'] at hgo
    refine pyNext_gen (P := GP N) O.hh H.here.nolimit O.room hgen hgs hgo (fun v s₁ gs' hb hy => ?_) (fun s₁ hp => absurd hp.1 (Nat.succ_ne_zero n'))
    obtain ⟨⟨pre, it, post, ta, t1, t2, hpre, hlen, rfl, htup⟩, hS, hkap⟩ := hy
    have hpl : pre.length = i := by
      have := congrArg List.length hpre
      simp only [List.length_append, List.length_cons] at this
      omega
    have H1 := H.afterGen (gs := gs') hKN hL hnews hg hb hS
    have hgen1 : (s₁.setGen g gs').heap.IsGen a g := let ⟨o, nm, qn, ho, r⟩ := hgen; ⟨o, nm, qn, hS.heap a o (.inr ha) ho, r⟩
    have hgs1 : (s₁.setGen g gs').gens[g]? = some gs' := by
      have hlt' : g < s.gens.size := (Array.getElem?_eq_some_iff.mp hgs).1
      have e := hS.gold g (by rw [gens_size]; exact hlt')
      rw [setGen_self hgs] at e
      exact setGen_self e
    have hw1 : WaitsAt prog w A.in1 s₀.heap N (itemsOf x) n' gs' (s₁.setGen g gs') := fun s'' h1 h2 => hkap s'' h1 h2
    refine letOwned_gen hgen1 ?_
    have hsub : ∀ b o, s₀.heap.get? b = some o → (s₁.setGen g gs').heap.get? b = some o := fun b o e => H1.keep b o e
    have H2 := (H1.anew.also (J := fun b o => N ≤ b ∧ (s₁.setGen g gs').heap.get? b = some o) (fun b o q => q.2) (fun o q => Nat.not_lt.mpr q.1 hL) (fun p hp o q => Nat.not_lt.mpr q.1 (hnews p hp))).asg
      [("addr", .str x t), ("start", .int st ts), ("open_pos", ov), ("result", .ref D)] (by simp [m1, m2, m3, m4])
    refine r_unpack2 O.hh H2 ⟨_, htup, rfl, _, rfl⟩ fun s₃ H3 hk3 => ?_
    refine wpAny_mono (strip_body (cd := cd) (a := ca) hx (by omega) hov H3) (fun f s' hq => ?_) (fun _ _ e => e.elim)
    obtain ⟨rfl, m', l', nn', st', ts', ov', op', H5, f1, f2, f3, f4, f5, f6, f7⟩ := hq
    have hit' : (itemsOf x).take (i + 1) = (itemsOf x).take i ++ [it] := by
      have e : (itemsOf x)[i]? = some it := by rw [hpre, ← hpl, List.getElem?_append_right (Nat.le_refl _), Nat.sub_self]; rfl
      rw [List.take_add_one, e]
      rfl
    refine ⟨(itemsOf x).length + 1 - (i + 1), by omega, i + 1, m', gs', l', nn', st', ts', ov', op',
      H5.from ⟨s₀.heap, hBk, fun _ _ e => e⟩ (fun b o e => .inl e) H1.drawn H1.os H1.gold H1.gens, ?_, ?_, ?_, ⟨f1, f2, f3, f4⟩, ?_, f6, hlt, by omega, rfl⟩
    · obtain ⟨o, nm, qn, ho, r⟩ := hgen1
      exact ⟨o, nm, qn, H5.keep a o (.inr ⟨by rw [ha]; exact Nat.le_succ _, ho⟩), r⟩
    · rw [H5.gold g (Array.getElem?_eq_some_iff.mp hgs1).1, hgs1]
    · have e : (itemsOf x).length - (i + 1) = n' := by omega
      rw [e]
      exact hw1.moved fun b o q e => H5.keep b o (.inr ⟨q, e⟩)
    · rw [hit', List.foldl_append, hf]
      exact f5
  · obtain rfl : i = (itemsOf x).length := by omega
    rw [Nat.sub_self] at hgo
    refine pyNext_gen (P := GP N) O.hh H.here.nolimit O.room hgen hgs hgo (fun v s₁ gs' hb hy => ?_) (fun s₁ hp h' hk => ?_)
    · obtain ⟨_, hS, hkap⟩ := hy
      exact (hkap s₁ (fun _ _ _ e => e) (fun b o e => hS.heap b o (.inl (hKN b o e)) (H.keep b o e))).elim
    · have H1 := H.afterGen (gs := .finished) hKN hL hnews hg rfl hp.2
      have H2 := H1.grows (Grows.ofH hk)
      refine wpAny_execs_nil ?_
      rw [List.take_length] at hf
      exact done _ m l nn st ts op H2 m1 m2 m4 hf hl
end
end Mine
end

section
open PySem PySem.W PyProof.Rows PySem.Calls
set_option linter.unusedVariables false
namespace Mine
section
variable {prog : Program} {w : World} {A : Around} {s s₀ : Shared} {E Q : Value → Shared → Prop} {k : Nms} {K : Addr → Obj → Prop} {L : Addr} {m r : Str → Option Value} {news : List (Addr × Obj)}
theorem r_list0 {env : Env} {pos : Pos} (H : Stt k K L s₀ s m news) (h : ∀ s' a, Stt k K L s₀ s' m ((a, lstObj [] 0) :: news) → Q (.ref a) s') : wpAny (model prog w) A (eval (.List [] pos) env) Q E s :=
  wpAny_List (Calls.spliced_nil ⟨Nat.zero_le _, h _ _ (H.alloc rfl)⟩)
theorem gold_le {a b : Array GenState} (h : ∀ g, g < a.size → b[g]? = a[g]?) : a.size ≤ b.size := by
  rcases Nat.lt_or_ge b.size a.size with q | q
  · have e := h _ q
    rw [Array.getElem?_eq_getElem q] at e
    exact absurd (Array.getElem?_eq_some_iff.mp e).1 (Nat.lt_irrefl _)
  · exact q
end
end Mine
end

local macro_rules | `(tactic| walk_at "s") => `(tactic| first
  | ((with_reducible show wpAny _ _ (compareOp CmpOp.NotIn (Value.str _ _) (Value.str _ _)) _ _ _); refine PyProof.Rows.notIn_str ?_)
  | ((with_reducible show wpAny _ _ (compareOp CmpOp.In (Value.str _ _) (Value.str _ _)) _ _ _); refine PyProof.Rows.in_str ?_)
  | ((with_reducible show wpAny _ _ (eval (Expr.List [] _) _) _ _ _); (with_reducible rename Stt _ _ _ _ _ _ _ => H'); refine r_list0 H' ?_; clear H'; intro _ _ _)
  | ((with_reducible show wpAny _ _ (eval (Expr.Call (Expr.Attribute _ (PySem.Str.ofString "append") _) [_] [] _) _) _ _ _); refine r_Append ?_)
  | ((with_reducible show wpAny _ _ (eval (Expr.Call (Expr.Attribute (Expr.Constant _ _ _) _ _) _ [] _) _) _ _ _); refine PyProof.Rows.MethodCall_ ?_)
  | ((with_reducible show wpAny _ _ (eval (Expr.Call (Expr.Attribute (Expr.Name _ _) _ _) _ [] _) _) _ _ _); refine PyProof.Rows.MethodCall_ ?_)
  | ((with_reducible show wpAny _ _ (getMethod (Value.str _ _) _ _) _ _ _); first | refine GM.join ?_ | refine GM.split ?_ | refine GM.startswith ?_ | refine GM.endswith ?_ | refine GM.find ?_))

section
open PySem PySem.W PyProof.Rows PySem.Calls
namespace Mine
def stripF (x : Str) : Str :=
  if 34 ∈ x.cps.toList then
    let a := (itemsOf x).foldl (stripStep x) (0, none, [])
    Txt.join "" (if a.1 < x.length then a.2.2 ++ [Txt.slice x (some a.1) none] else a.2.2)
  else x

theorem strip_parts (x : Str) : ∀ (its : List (Nat × Str)) (a : Nat × Option Nat × List Str), (∀ y ∈ a.2.2, y.length ≤ x.length) → ∀ y ∈ (its.foldl (stripStep x) a).2.2, y.length ≤ x.length
  | [], a, h => h
  | it :: r, a, h => by
    refine strip_parts x r _ fun y hy => ?_
    unfold stripStep at hy
    split at hy
    · split at hy
      · exact h y hy
      · dsimp only at hy
        split at hy
        · exact h y hy
        · rcases List.mem_append.mp hy with hy | hy
          · exact h y hy
          · rw [List.mem_singleton.mp hy]
            exact Txt.slice_le x _ _
    · exact h y hy

section
variable {prog : Program} {w : World} {A : Around} {s : Shared} {E Q : Value → Shared → Prop} {k : Nms}
set_option maxRecDepth 100000 in
set_option maxHeartbeats 4000000 in
theorem strip_call {x : Str} {t : Tok} (B : Bs k s.heap) (O : Ok A 3 10) (hx : x.length ≤ 500) (h : ∀ s' t', Grows s s' → Q (.str (stripF x) t') s') :
    wpAny (model prog w) A (call (.ref k.aS) [.str x t]) Q E s := by
  refine fn_callL B B.fS O.room (binds := [("addr", .str x t)]) (fun _ _ _ => rfl) (locs rfl) (fun cd L s₁ hsz H => ?_)
  replace O : Ok (A.deeper (envX "_strip_quoted_realnames" (scOf (stAt 2)) L k.aS cd [])) 2 7 := O.deeper
  have hz : x.length ≤ sizeLine := by rw [sizeLine_eq]; omega
  repeat (walk_at "s")
  by_cases h34 : 34 ∈ x.cps.toList
  · refine ite_f (by rw [qt_is, StrLaws.found_one]; simp [h34]) ?_
    repeat (walk_at "s")
    refine wpAny_For ?_ (fun _ => rfl)
    repeat (walk_at "s")
    (rename Stt _ _ _ _ _ _ _ => H)
    refine r_glob H H.here.fI.g ?_
    refine r_callWith (fun h B => B.fI) ?_
    repeat (walk_at "s")
    (rename Stt _ _ _ _ _ _ _ => H)
    refine ⟨H.here, ?_⟩
    rename_i D sC
    refine call_iter H.here O.room fun s2 a g gs hgr hgen hgs hgg ha hw => ?_
    have hLn := H.ns.lt
    have hDn := Heap.lt_size (H.new _ (.head _))
    have hgl := gold_le H.gold
    replace H := H.grows hgr
    refine wpAny_pyIter_gen hgen ?_
    refine strip_loop (t := t) (O.less (d' := 2) (u' := 6)) (by omega) B (Nat.le_trans hsz (Nat.le_of_lt hLn)) hLn hDn (Nat.le_trans hgl hgg) ha H hgen hgs hw rfl rfl rfl rfl ?_
    clear H hgr hgen hgs hw
    intro s3 m3 l nn st ts op H f1 f2 f3 f4 f5
    replace H := H.asg [("addr", .str x t), ("start", .int st ts), ("result", .ref D)] (by simp [f1, f2, f3])
    dsimp only
    have hlen : ∀ y ∈ l.map (·.1), y.length ≤ 500 := fun y hy => by
      have := strip_parts x (itemsOf x) (0, none, []) (fun _ hp => nomatch hp) y (by rw [f4]; exact hy)
      omega
    have hcnt := items_len x
    have e1 : stripF x = Txt.join "" (if st < x.length then l.map (·.1) ++ [Txt.slice x (some (st : Int)) none] else l.map (·.1)) := by
      unfold stripF
      rw [if_pos h34, f4]
    repeat (walk_at "s")
    refine ite_split (fun q => ?_) (fun q => ?_)
    · have hst : st < x.length := by simpa using q
      walk_at "s"
      walk_at "s"
      walk_at "s"
      walk_at "s"
      (rename Stt _ _ _ _ _ _ _ => H)
      refine ⟨D, strValues l, nn, rfl, H.new _ (.head _), ?_⟩
      repeat (walk_at "s")
      (rename Stt _ _ _ _ _ _ _ => H)
      refine r_slice_sn H hz ?_
      clear H
      intro s4 t4 H
      refine r_append (l := []) (r := []) H (by rw [sizeLine_eq]; simp [strValues]; omega) ?_
      clear H
      intro s5 H
      have e : ([] ++ (D, lstObj (strValues l ++ [Value.str (Txt.slice x (some (st : Int)) none) t4]) (nn + 1)) :: [] : List (Addr × Obj)) =
          [(D, lstObj (strValues (l ++ [(Txt.slice x (some (st : Int)) none, t4)])) (nn + 1))] := by simp [strValues]
      rw [e] at H
      repeat (walk_at "s")
      (rename Stt _ _ _ _ _ _ _ => H)
      refine r_join (l := l ++ [(Txt.slice x (some (st : Int)) none, t4)]) H (H.new _ (.head _)) (joinOk_of (M := 500) ?_ (by decide +kernel) (by decide) (by simp; omega)) ?_
      · intro y hy
        rw [List.map_append] at hy
        rcases List.mem_append.mp hy with hy | hy
        · exact hlen y hy
        · rw [List.mem_singleton.mp hy]
          exact Nat.le_trans (Txt.slice_le x _ _) hx
      · clear H
        intro s6 t6 H
        have := h _ t6 (H.grown fun _ _ e => e)
        rw [e1, if_pos hst] at this
        rw [List.map_append]
        exact this
    · have hst : ¬ st < x.length := by simpa using q
      repeat (walk_at "s")
      (rename Stt _ _ _ _ _ _ _ => H)
      refine r_join (l := l) H (H.new _ (.head _)) (joinOk_of (M := 500) hlen (by decide +kernel) (by decide) (by simp; omega)) ?_
      clear H
      intro s6 t6 H
      have := h _ t6 (H.grown fun _ _ e => e)
      rw [e1, if_neg hst] at this
      exact this
  · refine ite_t (by rw [qt_is, StrLaws.found_one]; simp [h34]) ?_
    repeat (walk_at "s")
    (rename Stt _ _ _ _ _ _ _ => H)
    have e : stripF x = x := by unfold stripF; rw [if_neg h34]
    have := h _ t (H.grown fun _ _ e => e)
    rw [e] at this
    exact this
end
end Mine
end

section
open PySem PySem.W PyProof.Rows PySem.Calls
set_option linter.unusedVariables false
namespace Mine

section
variable {prog : Program} {w : World} {A : Around} {k : Nms} {K : Addr → Obj → Prop} {L : Addr} {s₀ s : Shared} {m : Str → Option Value} {news : List (Addr × Obj)} {R : Result → Shared → Prop} {body : List Stmt} {env : Env} {I : Addr} {fp wr : List Addr} {n : Nat}

/-- a turn's end -/
def TurnEnd (k : Nms) (K₁ : Addr → Obj → Prop) (L : Addr) (s₁ : Shared) (adr : List Addr) (J JB : (Str → Option Value) → List (Addr × Obj) → Prop) (f : Flow) (s₃ : Shared) : Prop := match f with
  | .next | .cont => ∃ m₂ news₂, Stt k K₁ L s₁ s₃ m₂ news₂ ∧ J m₂ news₂ ∧ news₂.map (·.1) = adr
  | .brk => ∃ m₂ news₂, Stt k K₁ L s₁ s₃ m₂ news₂ ∧ JB m₂ news₂
  | .ret _ => False

/-- a loop over an iterator of tuples -/
theorem for_T {Pt : Nat → Array Value → Prop} {St : Nat → Heap → Prop} {Mid : Nat → Addr → Heap → Prop} {elts : List Expr} {kk : Nat} {tpos : Pos} (W : WalksT prog w A I fp wr n Pt St Mid) (H : Stt k K L s₀ s m news) (hst : St 0 s.heap)
    (hL : L ∉ fp) (hn : ∀ a ∈ news.map (·.1), a ∉ fp) (hK : ∀ b ∈ wr, ∀ o, ¬ K b o) (J : Nat → (Str → Option Value) → List (Addr × Obj) → Prop) (JB : (Str → Option Value) → List (Addr × Obj) → Prop) (h0 : J 0 m news)
    (step : ∀ i T vals m₁ news₁ s₁ K₁, i < n → Pt i vals → J i m₁ news₁ → Stt k K₁ L s₁ s₁ m₁ news₁ → s₁.heap.IsTuple T vals → (∀ b o, K b o → K₁ b o) → news₁.map (·.1) = news.map (·.1) →
      wpAny (model prog w) A (assign (.Tuple elts kk tpos) env (.ref T)) (fun _ s₂ => wpAny (model prog w) A (execs body env) (TurnEnd k K₁ L s₁ (news.map (·.1)) (J (i + 1)) JB) (fun _ _ => False) s₂) (fun _ _ => False) s₁)
    (done : ∀ s' m' news', Stt k K L s₀ s' m' news' → J n m' news' → news'.map (·.1) = news.map (·.1) → R (.ok .next) s')
    (broke : ∀ s' m' news', Stt k K L s₀ s' m' news' → JB m' news' → R (.ok .next) s') :
    codeAny (model prog w) A (.forLoop (.Tuple elts kk tpos) (.ref I) body [] env) R s := by
  have hLw : L ∉ wr := fun h => hL (W.sub _ h)
  refine codeAny_forLoop_any (fun n' s => ∃ i m₁ news₁, Stt k K L s₀ s m₁ news₁ ∧ St i s.heap ∧ J i m₁ news₁ ∧ news₁.map (·.1) = news.map (·.1) ∧ i ≤ n ∧ n' = n + 1 - i) ?_ (n + 1) ⟨0, m, news, H, hst, h0, rfl, Nat.zero_le _, rfl⟩
  rintro n' s ⟨i, m₁, news₁, H, hst, hJ, had, hi, rfl⟩
  have hnf : ∀ p ∈ news₁, p.1 ∉ fp := fun p hp => hn p.1 (had ▸ List.mem_map.mpr ⟨p, hp, rfl⟩)
  have hnw : ∀ p ∈ news₁, p.1 ∉ wr := fun p hp h => hnf p hp (W.sub _ h)
  by_cases hlt : i < n
  · refine W.item i s _ _ hlt hst fun T vals h₁ tk₁ hPt hsz hT hMid hk₁ => ?_
    have H1 : Stt k K L s₀ { s with heap := h₁, toks := tk₁ } m₁ news₁ := H.but hk₁ hK hLw hnw
    refine W.go _ _ _ i T _ _ _ hMid fun h₂ hst₂ hk₂ => ?_
    have H2 : Stt k K L s₀ { s with heap := h₂, toks := tk₁ } m₁ news₁ := H1.but (t := tk₁) hk₂ hK hLw hnw
    have hT2 : h₂.IsTuple T vals := hT.at fun o q => hk₂ T o (W.apart i T h₁ hMid) q
    have H3 := H2.anew.also (J := fun b o => b ∈ fp ∧ h₂.get? b = some o) (fun b o q => q.2) (fun o q => hL q.1) (fun p hp o q => hnf p hp q.1)
    refine wpAny_mono (step i T vals m₁ news₁ _ _ hlt hPt hJ H3 hT2 (fun b o q => .inl q) had) (fun _ s₂ h₂' => wpAny_mono h₂' (fun f s₃ hf => ?_) fun _ _ e => e.elim) fun _ _ e => e.elim
    have back : ∀ {m' news'}, Stt k (fun b o => K b o ∨ (b ∈ fp ∧ h₂.get? b = some o)) L { s with heap := h₂, toks := tk₁ } s₃ m' news' → Stt k K L s₀ s₃ m' news' := fun H' =>
      H'.from H.bs (fun b o q => .inl q) H2.drawn H2.os H2.gold H2.gens
    have next : (∃ m₂ news₂, Stt k (fun b o => K b o ∨ (b ∈ fp ∧ h₂.get? b = some o)) L { s with heap := h₂, toks := tk₁ } s₃ m₂ news₂ ∧ J (i + 1) m₂ news₂ ∧ news₂.map (·.1) = news.map (·.1)) →
        ∃ m, m < n + 1 - i ∧ ∃ i m₁ news₁, Stt k K L s₀ s₃ m₁ news₁ ∧ St i s₃.heap ∧ J i m₁ news₁ ∧ news₁.map (·.1) = news.map (·.1) ∧ i ≤ n ∧ m = n + 1 - i := by
      rintro ⟨m₂, news₂, H4, hJ', had'⟩
      exact ⟨n + 1 - (i + 1), by omega, i + 1, m₂, news₂, back H4, W.frame (i + 1) _ _ hst₂ fun b hb o q => H4.keep b o (.inr ⟨hb, q⟩), hJ', had', hlt, rfl⟩
    cases f with
    | next => exact next hf
    | cont => exact next hf
    | brk => obtain ⟨m₂, news₂, H4, hJ'⟩ := hf; exact broke _ _ _ (back H4) hJ'
    | ret v => exact hf.elim
  · obtain rfl : i = n := by omega
    refine W.done s _ _ hst fun h₁ tk₁ hk₁ => wpAny_execs_nil ?_
    exact done _ _ _ (H.but hk₁ hK hLw hnw) hJ had

/-- a loop over an iterator of values -/
theorem for_W {P : Nat → Value → Prop} {St : Nat → Heap → Prop} {x : Str} {px : Pos} (W : Walks prog w A I fp wr n P St) (H : Stt k K L s₀ s m news) (hst : St 0 s.heap)
    (hL : L ∉ fp) (hn : ∀ a ∈ news.map (·.1), a ∉ fp) (hK : ∀ b ∈ wr, ∀ o, ¬ K b o) (J : Nat → (Str → Option Value) → List (Addr × Obj) → Prop) (JB : (Str → Option Value) → List (Addr × Obj) → Prop) (h0 : J 0 m news)
    (step : ∀ i v m₁ news₁ s₁ K₁, i < n → P i v → J i m₁ news₁ → Stt k K₁ L s₁ s₁ m₁ news₁ → (∀ b o, K b o → K₁ b o) → news₁.map (·.1) = news.map (·.1) →
      wpAny (model prog w) A (storeName env x v) (fun _ s₂ => wpAny (model prog w) A (execs body env) (TurnEnd k K₁ L s₁ (news.map (·.1)) (J (i + 1)) JB) (fun _ _ => False) s₂) (fun _ _ => False) s₁)
    (done : ∀ s' m' news', Stt k K L s₀ s' m' news' → J n m' news' → news'.map (·.1) = news.map (·.1) → R (.ok .next) s')
    (broke : ∀ s' m' news', Stt k K L s₀ s' m' news' → JB m' news' → R (.ok .next) s') :
    codeAny (model prog w) A (.forLoop (.Name x px) (.ref I) body [] env) R s := by
  have hLw : L ∉ wr := fun h => hL (W.sub _ h)
  refine codeAny_forLoop_any (fun n' s => ∃ i m₁ news₁, Stt k K L s₀ s m₁ news₁ ∧ St i s.heap ∧ J i m₁ news₁ ∧ news₁.map (·.1) = news.map (·.1) ∧ i ≤ n ∧ n' = n + 1 - i) ?_ (n + 1) ⟨0, m, news, H, hst, h0, rfl, Nat.zero_le _, rfl⟩
  rintro n' s ⟨i, m₁, news₁, H, hst, hJ, had, hi, rfl⟩
  have hnf : ∀ p ∈ news₁, p.1 ∉ fp := fun p hp => hn p.1 (had ▸ List.mem_map.mpr ⟨p, hp, rfl⟩)
  have hnw : ∀ p ∈ news₁, p.1 ∉ wr := fun p hp h => hnf p hp (W.sub _ h)
  by_cases hlt : i < n
  · refine W.item i s _ _ hlt hst fun v h₂ tk₁ hP hst₂ hk₂ => ?_
    have H2 : Stt k K L s₀ { s with heap := h₂, toks := tk₁ } m₁ news₁ := H.but (t := tk₁) hk₂ hK hLw hnw
    have H3 := H2.anew.also (J := fun b o => b ∈ fp ∧ h₂.get? b = some o) (fun b o q => q.2) (fun o q => hL q.1) (fun p hp o q => hnf p hp q.1)
    refine wpAny_of_eq (a := ()) rfl ?_
    refine wpAny_mono (wpAny_assign_Name (step i v m₁ news₁ _ _ hlt hP hJ H3 (fun b o q => .inl q) had)) (fun _ s₂ h₂' => wpAny_mono h₂' (fun f s₃ hf => ?_) fun _ _ e => e.elim) fun _ _ e => e.elim
    have back : ∀ {m' news'}, Stt k (fun b o => K b o ∨ (b ∈ fp ∧ h₂.get? b = some o)) L { s with heap := h₂, toks := tk₁ } s₃ m' news' → Stt k K L s₀ s₃ m' news' := fun H' =>
      H'.from H.bs (fun b o q => .inl q) H2.drawn H2.os H2.gold H2.gens
    have next : (∃ m₂ news₂, Stt k (fun b o => K b o ∨ (b ∈ fp ∧ h₂.get? b = some o)) L { s with heap := h₂, toks := tk₁ } s₃ m₂ news₂ ∧ J (i + 1) m₂ news₂ ∧ news₂.map (·.1) = news.map (·.1)) →
        ∃ m, m < n + 1 - i ∧ ∃ i m₁ news₁, Stt k K L s₀ s₃ m₁ news₁ ∧ St i s₃.heap ∧ J i m₁ news₁ ∧ news₁.map (·.1) = news.map (·.1) ∧ i ≤ n ∧ m = n + 1 - i := by
      rintro ⟨m₂, news₂, H4, hJ', had'⟩
      exact ⟨n + 1 - (i + 1), by omega, i + 1, m₂, news₂, back H4, W.frame (i + 1) _ _ hst₂ fun b hb o q => H4.keep b o (.inr ⟨hb, q⟩), hJ', had', hlt, rfl⟩
    cases f with
    | next => exact next hf
    | cont => exact next hf
    | brk => obtain ⟨m₂, news₂, H4, hJ'⟩ := hf; exact broke _ _ _ (back H4) hJ'
    | ret v => exact hf.elim
  · obtain rfl : i = n := by omega
    refine W.done s _ _ hst fun h₁ tk₁ hk₁ => wpAny_execs_nil ?_
    exact done _ _ _ (H.but hk₁ hK hLw hnw) hJ had
end
end Mine
end

section
open PySem PySem.W PyProof.Rows PySem.Calls
set_option linter.unusedVariables false
namespace Mine
theorem upd_seq {prog : Program} {w : World} {A : Around} {E : Value → Shared → Prop} {s : Shared} {T : Addr} {vs : List Value} {x : Value} {k : Nat} {Q : Unit → Shared → Prop} (hT : s.heap.get? T = some (tupObj vs)) (hl : vs.length ≤ 100)
    (h : ∀ h', h'.get? T = some { cls := .type "tuple", data := .seq (vs.toArray.setIfInBounds k x) } → Heap.SameBut T s.heap h' → Q () { s with heap := h' }) :
    wpAny (model prog w) A (updateSeq T (·.setIfInBounds k x)) Q E s := by
  refine wpAny_updateSeq (hz := by rw [sizeLine_eq]; simp; omega) (_hz' := by rw [sizeLine_eq]; simp; omega) hT rfl (h _ ?_ (Heap.SameBut.update ..))
  rw [Heap.get?_update_self _ hT rfl]
  simp [Obj.mapSeq]

section
variable {prog : Program} {w : World} {A : Around} {E : Value → Shared → Prop} {s : Shared} {z TI TO i1 i2 : Addr} {nn i : Nat} {fp1 : List Addr} {P1 : Nat → Value → Prop} {St1 : Nat → Heap → Prop} {fp2 : List Addr} {P2 : Nat → Value → Prop} {St2 : Nat → Heap → Prop}
structure Zip2 (z TI TO i1 i2 : Addr) (fp1 fp2 : List Addr) : Prop where
  TIz : TI ≠ z
  TOz : TO ≠ z
  TITO : TI ≠ TO
  m1 : i1 ∈ fp1
  z1 : z ∉ fp1
  o1 : TO ∉ fp1
  t1 : TI ≠ i1
  a12 : i1 ∉ fp2
  m2 : i2 ∈ fp2
  z2 : z ∉ fp2
  o2 : TO ∉ fp2
  t2 : TI ≠ i2
  a21 : i2 ∉ fp1
theorem zip2_next_item {a1 a2 : Value} {Q : Value → Shared → Prop} (D1 : Draws prog w A i1 fp1 nn P1 St1) (D2 : Draws prog w A i2 fp2 nn P2 St2) (Z : Zip2 z TI TO i1 i2 fp1 fp2) (hlt : i < nn)
    (hz : IsZip s.heap z TI TO .none) (hTI : s.heap.get? TI = some (tupObj [.ref i1, .ref i2])) (hTO : s.heap.get? TO = some (tupObj [a1, a2])) (st1 : St1 i s.heap) (st2 : St2 i s.heap)
    (hQ : ∀ x1 x2 h' tk, P1 i x1 → P2 i x2 → IsZip h' z TI TO (rawInt s.heap.objs.size) → h'.get? TO = some (tupObj [x1, x2]) → St1 (i + 1) h' → St2 (i + 1) h' → h'.get? s.heap.objs.size = some (tupObj [x1, x2]) → h'.objs.size = s.heap.objs.size + 1 →
      (∀ c o, c ∉ [z, TO, i1, i2] → s.heap.get? c = some o → h'.get? c = some o) → Q (.ref s.heap.objs.size) { s with heap := h', toks := tk }) :
    wpAny (model prog w) A (Builtin.«zip.__next__» ⟨[.ref z], []⟩) (fun fin s' => ∃ v, fin = .done (.ret v) ∧ Q v s') E s := by
  show wpAny _ _ (field (.ref z) 2 >>= _) _ _ _
  refine wpAny_bind (wpAny_field hz rfl (x := .bool false) rfl ?_)
  show wpAny _ _ (field (.ref z) 3 >>= _) _ _ _
  refine wpAny_bind (wpAny_field hz rfl (x := .ref TI) rfl ?_)
  refine wpAny_bind (wpAny_seqItems hTI rfl ?_)
  show wpAny _ _ (Builtin.SmallTypes.ownedTupleIsFree (.ref z) >>= _) _ _ _
  refine wpAny_bind ?_
  unfold Builtin.SmallTypes.ownedTupleIsFree
  refine wpAny_bind (wpAny_field hz rfl (x := .none) rfl (wpAny_pure ?_))
  simp only [if_true]
  refine wpAny_bind (wpAny_rule ?_)
  refine wpAny_bind (wpAny_field hz rfl (x := .ref TO) rfl ?_)
  refine wpAny_bind (wpAny_setField_rec hz (by simp) fun h₁ hz₁ hs₁ => ?_)
  replace hz₁ : IsZip h₁ z TI TO .ellipsis := hz₁
  have hTO₁ : h₁.get? TO = some (tupObj [a1, a2]) := hs₁.extBut _ _ Z.TOz hTO
  replace st1 : St1 i h₁ := D1.frame _ _ _ st1 fun b hb o e => hs₁.extBut b o (fun q => Z.z1 (q ▸ hb)) e
  replace st2 : St2 i h₁ := D2.frame _ _ _ st2 fun b hb o e => hs₁.extBut b o (fun q => Z.z2 (q ▸ hb)) e
  have hk : ∀ c o, c ∉ [z, TO, i1, i2] → s.heap.get? c = some o → h₁.get? c = some o := fun c o hc e => hs₁.extBut _ _ (fun q => hc (by simp [q])) e
  have hsz : h₁.objs.size = s.heap.objs.size := hs₁.1
  clear hs₁
  refine wpAny_bind ?_
  simp only [List.zipIdx_cons, List.zipIdx_nil, List.forIn_cons, List.forIn_nil]
  refine wpAny_bind (wpAny_bind (wpAny_onRaise ?_))
  show wpAny _ _ (Builtin.SmallTypes.nextOf (.ref i1) >>= _) _ _ _
  refine wpAny_bind (D1.item i _ _ _ hlt st1 fun x1 g1 tk1 hP1 sn1 hs => wpAny_pure ?_)
  replace hs : Heap.SameBut i1 h₁ g1 := hs
  replace hz₁ : IsZip g1 z TI TO .ellipsis := hs.extBut _ _ (fun q => Z.z1 (q ▸ Z.m1)) hz₁
  replace hTO₁ := hs.extBut TO _ (fun q : TO = i1 => Z.o1 (q ▸ Z.m1)) hTO₁
  replace st2 : St2 i g1 := D2.frame _ _ _ st2 fun b hb o e => hs.extBut b o (fun q => Z.a12 (q ▸ hb)) e
  replace hk : ∀ c o, c ∉ [z, TO, i1, i2] → s.heap.get? c = some o → g1.get? c = some o := fun c o hc e => hs.extBut _ _ (fun q => hc (by simp [q])) (hk c o hc e)
  replace hsz : g1.objs.size = s.heap.objs.size := hs.1.trans hsz
  clear hs
  refine wpAny_bind (wpAny_seqItems hTO₁ rfl ?_)
  refine wpAny_bind (upd_seq hTO₁ (Nat.le_of_ble_eq_true rfl) fun u1 hTO₂ hs => ?_)
  replace hTO₁ : u1.get? TO = some (tupObj [x1, a2]) := hTO₂
  clear hTO₂
  replace hs : Heap.SameBut TO g1 u1 := hs
  replace hz₁ : IsZip u1 z TI TO .ellipsis := hs.extBut _ _ Z.TOz.symm hz₁
  replace sn1 : St1 (i + 1) u1 := D1.frame _ _ _ sn1 fun b hb o e => hs.extBut b o (fun q => Z.o1 (q ▸ hb)) e
  replace st2 : St2 i u1 := D2.frame _ _ _ st2 fun b hb o e => hs.extBut b o (fun q => Z.o2 (q ▸ hb)) e
  replace hk : ∀ c o, c ∉ [z, TO, i1, i2] → s.heap.get? c = some o → u1.get? c = some o := fun c o hc e => hs.extBut _ _ (fun q => hc (by simp [q])) (hk c o hc e)
  replace hsz : u1.objs.size = s.heap.objs.size := hs.1.trans hsz
  clear hs
  refine wpAny_bind (wpAny_letGo (wpAny_pure ?_))
  refine wpAny_bind (wpAny_bind (wpAny_onRaise ?_))
  show wpAny _ _ (Builtin.SmallTypes.nextOf (.ref i2) >>= _) _ _ _
  refine wpAny_bind (D2.item i _ _ _ hlt st2 fun x2 g2 tk2 hP2 sn2 hs => wpAny_pure ?_)
  replace hs : Heap.SameBut i2 u1 g2 := hs
  replace hz₁ : IsZip g2 z TI TO .ellipsis := hs.extBut _ _ (fun q => Z.z2 (q ▸ Z.m2)) hz₁
  replace hTO₁ := hs.extBut TO _ (fun q : TO = i2 => Z.o2 (q ▸ Z.m2)) hTO₁
  replace sn1 : St1 (i + 1) g2 := D1.frame _ _ _ sn1 fun b hb o e => hs.extBut b o (fun q => Z.a21 (q ▸ hb)) e
  replace hk : ∀ c o, c ∉ [z, TO, i1, i2] → s.heap.get? c = some o → g2.get? c = some o := fun c o hc e => hs.extBut _ _ (fun q => hc (by simp [q])) (hk c o hc e)
  replace hsz : g2.objs.size = s.heap.objs.size := hs.1.trans hsz
  clear hs
  refine wpAny_bind (wpAny_seqItems hTO₁ rfl ?_)
  refine wpAny_bind (upd_seq hTO₁ (Nat.le_of_ble_eq_true rfl) fun u2 hTO₂ hs => ?_)
  replace hTO₁ : u2.get? TO = some (tupObj [x1, x2]) := hTO₂
  clear hTO₂
  replace hs : Heap.SameBut TO g2 u2 := hs
  replace hz₁ : IsZip u2 z TI TO .ellipsis := hs.extBut _ _ Z.TOz.symm hz₁
  replace sn1 : St1 (i + 1) u2 := D1.frame _ _ _ sn1 fun b hb o e => hs.extBut b o (fun q => Z.o1 (q ▸ hb)) e
  replace sn2 : St2 (i + 1) u2 := D2.frame _ _ _ sn2 fun b hb o e => hs.extBut b o (fun q => Z.o2 (q ▸ hb)) e
  replace hk : ∀ c o, c ∉ [z, TO, i1, i2] → s.heap.get? c = some o → u2.get? c = some o := fun c o hc e => hs.extBut _ _ (fun q => hc (by simp [q])) (hk c o hc e)
  replace hsz : u2.objs.size = s.heap.objs.size := hs.1.trans hsz
  clear hs
  refine wpAny_bind (wpAny_letGo (wpAny_pure (wpAny_pure ?_)))
  refine wpAny_bind (wpAny_seqItems hTO₁ rfl ?_)
  refine wpAny_bind (wpAny_newTuple ?_)
  have hzlt : z < u2.objs.size := Heap.lt_size hz₁
  show wpAny _ _ (Builtin.SmallTypes.ownedTupleHandOut (.ref z) (.ref u2.objs.size) >>= _) _ _ _
  refine wpAny_bind ?_
  unfold Builtin.SmallTypes.ownedTupleHandOut
  have hz₆ : IsZip (u2.push (tupObj [x1, x2])) z TI TO .ellipsis := Heap.get?_push_of_some _ hz₁
  refine wpAny_bind (wpAny_setField_rec hz₆ (by simp) fun h₇ hz₇ hs₇ => ?_)
  replace hz₇ : IsZip h₇ z TI TO (rawInt u2.objs.size) := hz₇
  refine wpAny_setField_rec hz₇ (by simp) fun h₈ hz₈ hs₈ => ?_
  replace hz₈ : IsZip h₈ z TI TO (rawInt u2.objs.size) := hz₈
  have up : ∀ c o, c ≠ z → u2.get? c = some o → h₈.get? c = some o := fun c o c1 e => hs₈.extBut _ _ c1 (hs₇.extBut _ _ c1 (Heap.get?_push_of_some _ e))
  have hT₈ : h₈.get? u2.objs.size = some (tupObj [x1, x2]) := hs₈.extBut _ _ (Nat.ne_of_gt hzlt) (hs₇.extBut _ _ (Nat.ne_of_gt hzlt) (Heap.get?_push_size _ rfl))
  have hz8 : h₈.objs.size = u2.objs.size + 1 := by rw [hs₈.1, hs₇.1, Heap.size_push]
  rw [hsz] at hz₈ hT₈ hz8
  refine wpAny_pure ⟨_, rfl, ?_⟩
  show Q (.ref u2.objs.size) _
  rw [hsz]
  exact hQ x1 x2 h₈ _ hP1 hP2 hz₈ (up _ _ Z.TOz hTO₁) (D1.frame _ _ _ sn1 fun b hb o e => up b o (fun q => Z.z1 (q ▸ hb)) e) (D2.frame _ _ _ sn2 fun b hb o e => up b o (fun q => Z.z2 (q ▸ hb)) e) hT₈ hz8 fun c o hc e => up c o (fun q => hc (by simp [q])) (hk c o hc e)

theorem zip2_next_end {a1 a2 : Value} {Q : Fin → Shared → Prop} (D1 : Draws prog w A i1 fp1 nn P1 St1) (D2 : Draws prog w A i2 fp2 nn P2 St2) (Z : Zip2 z TI TO i1 i2 fp1 fp2)
    (hz : IsZip s.heap z TI TO .none) (hTI : s.heap.get? TI = some (tupObj [.ref i1, .ref i2])) (hTO : s.heap.get? TO = some (tupObj [a1, a2])) (st1 : St1 nn s.heap) (st2 : St2 nn s.heap)
    (hE : ∀ h' e, (∀ c o, c ∉ [z, TO, i1, i2] → s.heap.get? c = some o → h'.get? c = some o) → (∃ o, h'.get? e = some o ∧ o.cls = .type "StopIteration") → E (.ref e) { s with heap := h' }) :
    wpAny (model prog w) A (Builtin.«zip.__next__» ⟨[.ref z], []⟩) Q E s := by
  show wpAny _ _ (field (.ref z) 2 >>= _) _ _ _
  refine wpAny_bind (wpAny_field hz rfl (x := .bool false) rfl ?_)
  show wpAny _ _ (field (.ref z) 3 >>= _) _ _ _
  refine wpAny_bind (wpAny_field hz rfl (x := .ref TI) rfl ?_)
  refine wpAny_bind (wpAny_seqItems hTI rfl ?_)
  show wpAny _ _ (Builtin.SmallTypes.ownedTupleIsFree (.ref z) >>= _) _ _ _
  refine wpAny_bind ?_
  unfold Builtin.SmallTypes.ownedTupleIsFree
  refine wpAny_bind (wpAny_field hz rfl (x := .none) rfl (wpAny_pure ?_))
  simp only [if_true]
  refine wpAny_bind (wpAny_rule ?_)
  refine wpAny_bind (wpAny_field hz rfl (x := .ref TO) rfl ?_)
  refine wpAny_bind (wpAny_setField_rec hz (by simp) fun h₁ hz₁ hs₁ => ?_)
  replace hz₁ : IsZip h₁ z TI TO .ellipsis := hz₁
  have hTO₁ : h₁.get? TO = some (tupObj [a1, a2]) := hs₁.extBut _ _ Z.TOz hTO
  replace st1 : St1 nn h₁ := D1.frame _ _ _ st1 fun b hb o e => hs₁.extBut b o (fun q => Z.z1 (q ▸ hb)) e
  replace st2 : St2 nn h₁ := D2.frame _ _ _ st2 fun b hb o e => hs₁.extBut b o (fun q => Z.z2 (q ▸ hb)) e
  have hk : ∀ c o, c ∉ [z, TO, i1, i2] → s.heap.get? c = some o → h₁.get? c = some o := fun c o hc e => hs₁.extBut _ _ (fun q => hc (by simp [q])) e
  have hsz : h₁.objs.size = s.heap.objs.size := hs₁.1
  clear hs₁
  refine wpAny_bind ?_
  simp only [List.zipIdx_cons, List.zipIdx_nil, List.forIn_cons, List.forIn_nil]
  refine wpAny_bind (wpAny_bind (wpAny_onRaise ?_))
  show wpAny _ _ (Builtin.SmallTypes.nextOf (.ref i1) >>= _) _ _ _
  refine wpAny_bind (D1.done _ _ _ st1 fun h₂ e hs₂ he => ?_)
  replace hs₂ : Heap.ExtBut i1 h₁ h₂ := hs₂
  obtain ⟨oe, hoe, hce⟩ := he
  have hz₂ : IsZip h₂ z TI TO .ellipsis := hs₂ _ _ (fun q => Z.z1 (q ▸ Z.m1)) hz₁
  have hez : e ≠ z := fun x => by subst x; rw [hz₂] at hoe; cases hoe; simp at hce
  refine wpAny_setField_rec hz₂ (by simp) fun h₃ _ hs₃ => hE h₃ e (fun c o hc x => hs₃.extBut _ _ (fun q => hc (by simp [q])) (hs₂ _ _ (fun q => hc (by simp [q])) (hk c o hc x))) ⟨oe, hs₃.extBut _ _ hez hoe, hce⟩

theorem zip2_walks (hD : Draws prog w A.in1 i1 fp1 nn P1 St1 ∧ Draws prog w A.in1 i2 fp2 nn P2 St2) (Z : Zip2 z TI TO i1 i2 fp1 fp2) : WalksT prog w A z (z :: TI :: TO :: (fp1 ++ fp2)) [z, TO, i1, i2] nn
      (fun i vals => ∃ x1 x2, P1 i x1 ∧ P2 i x2 ∧ vals = #[x1, x2])
      (fun i h => IsZip h z TI TO .none ∧ h.get? TI = some (tupObj [.ref i1, .ref i2]) ∧ (∃ a1 a2, h.get? TO = some (tupObj [a1, a2])) ∧ St1 i h ∧ St2 i h)
      (fun i T h => IsZip h z TI TO (rawInt T) ∧ h.get? TI = some (tupObj [.ref i1, .ref i2]) ∧ (∃ a1 a2, h.get? TO = some (tupObj [a1, a2])) ∧ (St1 (i + 1) h ∧ St2 (i + 1) h) ∧ T ∉ [z, TO, i1, i2]) where
  sub := fun c hc => by
    have m := Z
    simp only [List.mem_cons, List.not_mem_nil, or_false] at hc
    rcases hc with rfl | rfl | rfl | rfl <;> simp [Z.m1, Z.m2]
  frame := fun i h h' hst hk => by
    obtain ⟨D1, D2⟩ := hD
    obtain ⟨hz, hTI, ⟨a1, a2, hTO⟩, st1, st2⟩ := hst
    exact ⟨hk z (by simp) _ hz, hk TI (by simp) _ hTI, ⟨a1, a2, hk TO (by simp) _ hTO⟩, D1.frame _ _ _ st1 fun b hb o e => hk b (by simp [hb]) o e, D2.frame _ _ _ st2 fun b hb o e => hk b (by simp [hb]) o e⟩
  item := fun i s Q E hi hst hQ => by
    obtain ⟨D1, D2⟩ := hD
    obtain ⟨hz, hTI, ⟨a1, a2, hTO⟩, st1, st2⟩ := hst
    have hT : s.TypeIs (.ref z) "zip" := ⟨_, hz, rfl⟩
    have lt : ∀ {c o}, s.heap.get? c = some o → s.heap.objs.size ≠ c := fun e => Nat.ne_of_gt (Heap.lt_size e)
    have hfr : s.heap.objs.size ∉ [z, TO, i1, i2] := by
      intro hm
      simp only [List.mem_cons, List.not_mem_nil, or_false] at hm
      rcases hm with q | q | q | q
      · exact lt hz q
      · exact lt hTO q
      · obtain ⟨_, e⟩ := D1.live _ _ st1; exact lt e q
      · obtain ⟨_, e⟩ := D2.live _ _ st2; exact lt e q
    unfold pyNext
    exact wpAny_bind (wpAny_attempt (wpAny_callSpecial?_slot (name := Str.ofString "__next__") hT F.slot_zip_next
      (wpAny_call_entry F.slot_zip_next hT F.entry_zip_next
        (zip2_next_item D1 D2 Z hi hz hTI hTO st1 st2 fun x1 x2 h' tk hP1 hP2 b1 b2 c1 c2 b4 b5 hk => wpAny_pure (hQ s.heap.objs.size #[x1, x2] h' tk ⟨x1, x2, hP1, hP2, rfl⟩ (Nat.le_refl _) ⟨_, b4, rfl, _, rfl⟩
          ⟨b1, hk _ _ (by simp [Z.TIz, Z.TITO, Z.t1, Z.t2]) hTI, ⟨_, _,  b2⟩, ⟨c1, c2⟩, hfr⟩
          hk)) (F.args_zip_next_1 _))))
  go := fun elts k pos i T s Q E hm hQ => by
    obtain ⟨D1, D2⟩ := hD
    obtain ⟨hz, hTI, ⟨a1, a2, hTO⟩, ⟨st1, st2⟩, _⟩ := hm
    refine wpAny_letOwnedTupleGo_zip hz fun h' hz' hs' => hQ h' ⟨hz', hs'.extBut _ _ Z.TIz hTI, ⟨a1, a2, hs'.extBut _ _ Z.TOz hTO⟩, D1.frame _ _ _ st1 fun b hb o e => hs'.extBut b o (fun q => Z.z1 (q ▸ hb)) e, D2.frame _ _ _ st2 fun b hb o e => hs'.extBut b o (fun q => Z.z2 (q ▸ hb)) e⟩ fun c o hc e => hs'.extBut _ _ (fun x => hc (by simp [x])) e
  apart := fun i T h hm hT => hm.2.2.2.2 hT
  done := fun s Q E hst hQ => by
    obtain ⟨D1, D2⟩ := hD
    obtain ⟨hz, hTI, ⟨a1, a2, hTO⟩, st1, st2⟩ := hst
    have hT : s.TypeIs (.ref z) "zip" := ⟨_, hz, rfl⟩
    unfold pyNext
    refine wpAny_bind (wpAny_attempt (wpAny_callSpecial?_slot (name := Str.ofString "__next__") hT F.slot_zip_next
      (wpAny_call_entry F.slot_zip_next hT F.entry_zip_next (zip2_next_end D1 D2 Z hz hTI hTO st1 st2 fun h' e hk he => ?_) (F.args_zip_next_1 _))))
    obtain ⟨o, ho, hc⟩ := he
    refine wpAny_bind (wpAny_isInstance (T := "StopIteration") (b := true) ⟨o, ho, hc⟩ isSubtype_stop ?_)
    exact wpAny_pure (hQ _ s.toks hk)
  self := fun i s Q E hst hQ => wpAny_pyIter_zip hst.1 hQ
end

section
variable {prog : Program} {w : World} {A : Around} {E : Value → Shared → Prop} {s : Shared} {z TI TO i1 i2 i3 : Addr} {nn i : Nat} {fp1 : List Addr} {P1 : Nat → Value → Prop} {St1 : Nat → Heap → Prop} {fp2 : List Addr} {P2 : Nat → Value → Prop} {St2 : Nat → Heap → Prop} {fp3 : List Addr} {P3 : Nat → Value → Prop} {St3 : Nat → Heap → Prop}
structure Zip3 (z TI TO i1 i2 i3 : Addr) (fp1 fp2 fp3 : List Addr) : Prop where
  TIz : TI ≠ z
  TOz : TO ≠ z
  TITO : TI ≠ TO
  m1 : i1 ∈ fp1
  z1 : z ∉ fp1
  o1 : TO ∉ fp1
  t1 : TI ≠ i1
  a12 : i1 ∉ fp2
  a13 : i1 ∉ fp3
  m2 : i2 ∈ fp2
  z2 : z ∉ fp2
  o2 : TO ∉ fp2
  t2 : TI ≠ i2
  a21 : i2 ∉ fp1
  a23 : i2 ∉ fp3
  m3 : i3 ∈ fp3
  z3 : z ∉ fp3
  o3 : TO ∉ fp3
  t3 : TI ≠ i3
  a31 : i3 ∉ fp1
  a32 : i3 ∉ fp2
theorem zip3_next_item {a1 a2 a3 : Value} {Q : Value → Shared → Prop} (D1 : Draws prog w A i1 fp1 nn P1 St1) (D2 : Draws prog w A i2 fp2 nn P2 St2) (D3 : Draws prog w A i3 fp3 nn P3 St3) (Z : Zip3 z TI TO i1 i2 i3 fp1 fp2 fp3) (hlt : i < nn)
    (hz : IsZip s.heap z TI TO .none) (hTI : s.heap.get? TI = some (tupObj [.ref i1, .ref i2, .ref i3])) (hTO : s.heap.get? TO = some (tupObj [a1, a2, a3])) (st1 : St1 i s.heap) (st2 : St2 i s.heap) (st3 : St3 i s.heap)
    (hQ : ∀ x1 x2 x3 h' tk, P1 i x1 → P2 i x2 → P3 i x3 → IsZip h' z TI TO (rawInt s.heap.objs.size) → h'.get? TO = some (tupObj [x1, x2, x3]) → St1 (i + 1) h' → St2 (i + 1) h' → St3 (i + 1) h' → h'.get? s.heap.objs.size = some (tupObj [x1, x2, x3]) → h'.objs.size = s.heap.objs.size + 1 →
      (∀ c o, c ∉ [z, TO, i1, i2, i3] → s.heap.get? c = some o → h'.get? c = some o) → Q (.ref s.heap.objs.size) { s with heap := h', toks := tk }) :
    wpAny (model prog w) A (Builtin.«zip.__next__» ⟨[.ref z], []⟩) (fun fin s' => ∃ v, fin = .done (.ret v) ∧ Q v s') E s := by
  show wpAny _ _ (field (.ref z) 2 >>= _) _ _ _
  refine wpAny_bind (wpAny_field hz rfl (x := .bool false) rfl ?_)
  show wpAny _ _ (field (.ref z) 3 >>= _) _ _ _
  refine wpAny_bind (wpAny_field hz rfl (x := .ref TI) rfl ?_)
  refine wpAny_bind (wpAny_seqItems hTI rfl ?_)
  show wpAny _ _ (Builtin.SmallTypes.ownedTupleIsFree (.ref z) >>= _) _ _ _
  refine wpAny_bind ?_
  unfold Builtin.SmallTypes.ownedTupleIsFree
  refine wpAny_bind (wpAny_field hz rfl (x := .none) rfl (wpAny_pure ?_))
  simp only [if_true]
  refine wpAny_bind (wpAny_rule ?_)
  refine wpAny_bind (wpAny_field hz rfl (x := .ref TO) rfl ?_)
  refine wpAny_bind (wpAny_setField_rec hz (by simp) fun h₁ hz₁ hs₁ => ?_)
  replace hz₁ : IsZip h₁ z TI TO .ellipsis := hz₁
  have hTO₁ : h₁.get? TO = some (tupObj [a1, a2, a3]) := hs₁.extBut _ _ Z.TOz hTO
  replace st1 : St1 i h₁ := D1.frame _ _ _ st1 fun b hb o e => hs₁.extBut b o (fun q => Z.z1 (q ▸ hb)) e
  replace st2 : St2 i h₁ := D2.frame _ _ _ st2 fun b hb o e => hs₁.extBut b o (fun q => Z.z2 (q ▸ hb)) e
  replace st3 : St3 i h₁ := D3.frame _ _ _ st3 fun b hb o e => hs₁.extBut b o (fun q => Z.z3 (q ▸ hb)) e
  have hk : ∀ c o, c ∉ [z, TO, i1, i2, i3] → s.heap.get? c = some o → h₁.get? c = some o := fun c o hc e => hs₁.extBut _ _ (fun q => hc (by simp [q])) e
  have hsz : h₁.objs.size = s.heap.objs.size := hs₁.1
  clear hs₁
  refine wpAny_bind ?_
  simp only [List.zipIdx_cons, List.zipIdx_nil, List.forIn_cons, List.forIn_nil]
  refine wpAny_bind (wpAny_bind (wpAny_onRaise ?_))
  show wpAny _ _ (Builtin.SmallTypes.nextOf (.ref i1) >>= _) _ _ _
  refine wpAny_bind (D1.item i _ _ _ hlt st1 fun x1 g1 tk1 hP1 sn1 hs => wpAny_pure ?_)
  replace hs : Heap.SameBut i1 h₁ g1 := hs
  replace hz₁ : IsZip g1 z TI TO .ellipsis := hs.extBut _ _ (fun q => Z.z1 (q ▸ Z.m1)) hz₁
  replace hTO₁ := hs.extBut TO _ (fun q : TO = i1 => Z.o1 (q ▸ Z.m1)) hTO₁
  replace st2 : St2 i g1 := D2.frame _ _ _ st2 fun b hb o e => hs.extBut b o (fun q => Z.a12 (q ▸ hb)) e
  replace st3 : St3 i g1 := D3.frame _ _ _ st3 fun b hb o e => hs.extBut b o (fun q => Z.a13 (q ▸ hb)) e
  replace hk : ∀ c o, c ∉ [z, TO, i1, i2, i3] → s.heap.get? c = some o → g1.get? c = some o := fun c o hc e => hs.extBut _ _ (fun q => hc (by simp [q])) (hk c o hc e)
  replace hsz : g1.objs.size = s.heap.objs.size := hs.1.trans hsz
  clear hs
  refine wpAny_bind (wpAny_seqItems hTO₁ rfl ?_)
  refine wpAny_bind (upd_seq hTO₁ (Nat.le_of_ble_eq_true rfl) fun u1 hTO₂ hs => ?_)
  replace hTO₁ : u1.get? TO = some (tupObj [x1, a2, a3]) := hTO₂
  clear hTO₂
  replace hs : Heap.SameBut TO g1 u1 := hs
  replace hz₁ : IsZip u1 z TI TO .ellipsis := hs.extBut _ _ Z.TOz.symm hz₁
  replace sn1 : St1 (i + 1) u1 := D1.frame _ _ _ sn1 fun b hb o e => hs.extBut b o (fun q => Z.o1 (q ▸ hb)) e
  replace st2 : St2 i u1 := D2.frame _ _ _ st2 fun b hb o e => hs.extBut b o (fun q => Z.o2 (q ▸ hb)) e
  replace st3 : St3 i u1 := D3.frame _ _ _ st3 fun b hb o e => hs.extBut b o (fun q => Z.o3 (q ▸ hb)) e
  replace hk : ∀ c o, c ∉ [z, TO, i1, i2, i3] → s.heap.get? c = some o → u1.get? c = some o := fun c o hc e => hs.extBut _ _ (fun q => hc (by simp [q])) (hk c o hc e)
  replace hsz : u1.objs.size = s.heap.objs.size := hs.1.trans hsz
  clear hs
  refine wpAny_bind (wpAny_letGo (wpAny_pure ?_))
  refine wpAny_bind (wpAny_bind (wpAny_onRaise ?_))
  show wpAny _ _ (Builtin.SmallTypes.nextOf (.ref i2) >>= _) _ _ _
  refine wpAny_bind (D2.item i _ _ _ hlt st2 fun x2 g2 tk2 hP2 sn2 hs => wpAny_pure ?_)
  replace hs : Heap.SameBut i2 u1 g2 := hs
  replace hz₁ : IsZip g2 z TI TO .ellipsis := hs.extBut _ _ (fun q => Z.z2 (q ▸ Z.m2)) hz₁
  replace hTO₁ := hs.extBut TO _ (fun q : TO = i2 => Z.o2 (q ▸ Z.m2)) hTO₁
  replace sn1 : St1 (i + 1) g2 := D1.frame _ _ _ sn1 fun b hb o e => hs.extBut b o (fun q => Z.a21 (q ▸ hb)) e
  replace st3 : St3 i g2 := D3.frame _ _ _ st3 fun b hb o e => hs.extBut b o (fun q => Z.a23 (q ▸ hb)) e
  replace hk : ∀ c o, c ∉ [z, TO, i1, i2, i3] → s.heap.get? c = some o → g2.get? c = some o := fun c o hc e => hs.extBut _ _ (fun q => hc (by simp [q])) (hk c o hc e)
  replace hsz : g2.objs.size = s.heap.objs.size := hs.1.trans hsz
  clear hs
  refine wpAny_bind (wpAny_seqItems hTO₁ rfl ?_)
  refine wpAny_bind (upd_seq hTO₁ (Nat.le_of_ble_eq_true rfl) fun u2 hTO₂ hs => ?_)
  replace hTO₁ : u2.get? TO = some (tupObj [x1, x2, a3]) := hTO₂
  clear hTO₂
  replace hs : Heap.SameBut TO g2 u2 := hs
  replace hz₁ : IsZip u2 z TI TO .ellipsis := hs.extBut _ _ Z.TOz.symm hz₁
  replace sn1 : St1 (i + 1) u2 := D1.frame _ _ _ sn1 fun b hb o e => hs.extBut b o (fun q => Z.o1 (q ▸ hb)) e
  replace sn2 : St2 (i + 1) u2 := D2.frame _ _ _ sn2 fun b hb o e => hs.extBut b o (fun q => Z.o2 (q ▸ hb)) e
  replace st3 : St3 i u2 := D3.frame _ _ _ st3 fun b hb o e => hs.extBut b o (fun q => Z.o3 (q ▸ hb)) e
  replace hk : ∀ c o, c ∉ [z, TO, i1, i2, i3] → s.heap.get? c = some o → u2.get? c = some o := fun c o hc e => hs.extBut _ _ (fun q => hc (by simp [q])) (hk c o hc e)
  replace hsz : u2.objs.size = s.heap.objs.size := hs.1.trans hsz
  clear hs
  refine wpAny_bind (wpAny_letGo (wpAny_pure ?_))
  refine wpAny_bind (wpAny_bind (wpAny_onRaise ?_))
  show wpAny _ _ (Builtin.SmallTypes.nextOf (.ref i3) >>= _) _ _ _
  refine wpAny_bind (D3.item i _ _ _ hlt st3 fun x3 g3 tk3 hP3 sn3 hs => wpAny_pure ?_)
  replace hs : Heap.SameBut i3 u2 g3 := hs
  replace hz₁ : IsZip g3 z TI TO .ellipsis := hs.extBut _ _ (fun q => Z.z3 (q ▸ Z.m3)) hz₁
  replace hTO₁ := hs.extBut TO _ (fun q : TO = i3 => Z.o3 (q ▸ Z.m3)) hTO₁
  replace sn1 : St1 (i + 1) g3 := D1.frame _ _ _ sn1 fun b hb o e => hs.extBut b o (fun q => Z.a31 (q ▸ hb)) e
  replace sn2 : St2 (i + 1) g3 := D2.frame _ _ _ sn2 fun b hb o e => hs.extBut b o (fun q => Z.a32 (q ▸ hb)) e
  replace hk : ∀ c o, c ∉ [z, TO, i1, i2, i3] → s.heap.get? c = some o → g3.get? c = some o := fun c o hc e => hs.extBut _ _ (fun q => hc (by simp [q])) (hk c o hc e)
  replace hsz : g3.objs.size = s.heap.objs.size := hs.1.trans hsz
  clear hs
  refine wpAny_bind (wpAny_seqItems hTO₁ rfl ?_)
  refine wpAny_bind (upd_seq hTO₁ (Nat.le_of_ble_eq_true rfl) fun u3 hTO₂ hs => ?_)
  replace hTO₁ : u3.get? TO = some (tupObj [x1, x2, x3]) := hTO₂
  clear hTO₂
  replace hs : Heap.SameBut TO g3 u3 := hs
  replace hz₁ : IsZip u3 z TI TO .ellipsis := hs.extBut _ _ Z.TOz.symm hz₁
  replace sn1 : St1 (i + 1) u3 := D1.frame _ _ _ sn1 fun b hb o e => hs.extBut b o (fun q => Z.o1 (q ▸ hb)) e
  replace sn2 : St2 (i + 1) u3 := D2.frame _ _ _ sn2 fun b hb o e => hs.extBut b o (fun q => Z.o2 (q ▸ hb)) e
  replace sn3 : St3 (i + 1) u3 := D3.frame _ _ _ sn3 fun b hb o e => hs.extBut b o (fun q => Z.o3 (q ▸ hb)) e
  replace hk : ∀ c o, c ∉ [z, TO, i1, i2, i3] → s.heap.get? c = some o → u3.get? c = some o := fun c o hc e => hs.extBut _ _ (fun q => hc (by simp [q])) (hk c o hc e)
  replace hsz : u3.objs.size = s.heap.objs.size := hs.1.trans hsz
  clear hs
  refine wpAny_bind (wpAny_letGo (wpAny_pure (wpAny_pure ?_)))
  refine wpAny_bind (wpAny_seqItems hTO₁ rfl ?_)
  refine wpAny_bind (wpAny_newTuple ?_)
  have hzlt : z < u3.objs.size := Heap.lt_size hz₁
  show wpAny _ _ (Builtin.SmallTypes.ownedTupleHandOut (.ref z) (.ref u3.objs.size) >>= _) _ _ _
  refine wpAny_bind ?_
  unfold Builtin.SmallTypes.ownedTupleHandOut
  have hz₆ : IsZip (u3.push (tupObj [x1, x2, x3])) z TI TO .ellipsis := Heap.get?_push_of_some _ hz₁
  refine wpAny_bind (wpAny_setField_rec hz₆ (by simp) fun h₇ hz₇ hs₇ => ?_)
  replace hz₇ : IsZip h₇ z TI TO (rawInt u3.objs.size) := hz₇
  refine wpAny_setField_rec hz₇ (by simp) fun h₈ hz₈ hs₈ => ?_
  replace hz₈ : IsZip h₈ z TI TO (rawInt u3.objs.size) := hz₈
  have up : ∀ c o, c ≠ z → u3.get? c = some o → h₈.get? c = some o := fun c o c1 e => hs₈.extBut _ _ c1 (hs₇.extBut _ _ c1 (Heap.get?_push_of_some _ e))
  have hT₈ : h₈.get? u3.objs.size = some (tupObj [x1, x2, x3]) := hs₈.extBut _ _ (Nat.ne_of_gt hzlt) (hs₇.extBut _ _ (Nat.ne_of_gt hzlt) (Heap.get?_push_size _ rfl))
  have hz8 : h₈.objs.size = u3.objs.size + 1 := by rw [hs₈.1, hs₇.1, Heap.size_push]
  rw [hsz] at hz₈ hT₈ hz8
  refine wpAny_pure ⟨_, rfl, ?_⟩
  show Q (.ref u3.objs.size) _
  rw [hsz]
  exact hQ x1 x2 x3 h₈ _ hP1 hP2 hP3 hz₈ (up _ _ Z.TOz hTO₁) (D1.frame _ _ _ sn1 fun b hb o e => up b o (fun q => Z.z1 (q ▸ hb)) e) (D2.frame _ _ _ sn2 fun b hb o e => up b o (fun q => Z.z2 (q ▸ hb)) e) (D3.frame _ _ _ sn3 fun b hb o e => up b o (fun q => Z.z3 (q ▸ hb)) e) hT₈ hz8 fun c o hc e => up c o (fun q => hc (by simp [q])) (hk c o hc e)

theorem zip3_next_end {a1 a2 a3 : Value} {Q : Fin → Shared → Prop} (D1 : Draws prog w A i1 fp1 nn P1 St1) (D2 : Draws prog w A i2 fp2 nn P2 St2) (D3 : Draws prog w A i3 fp3 nn P3 St3) (Z : Zip3 z TI TO i1 i2 i3 fp1 fp2 fp3)
    (hz : IsZip s.heap z TI TO .none) (hTI : s.heap.get? TI = some (tupObj [.ref i1, .ref i2, .ref i3])) (hTO : s.heap.get? TO = some (tupObj [a1, a2, a3])) (st1 : St1 nn s.heap) (st2 : St2 nn s.heap) (st3 : St3 nn s.heap)
    (hE : ∀ h' e, (∀ c o, c ∉ [z, TO, i1, i2, i3] → s.heap.get? c = some o → h'.get? c = some o) → (∃ o, h'.get? e = some o ∧ o.cls = .type "StopIteration") → E (.ref e) { s with heap := h' }) :
    wpAny (model prog w) A (Builtin.«zip.__next__» ⟨[.ref z], []⟩) Q E s := by
  show wpAny _ _ (field (.ref z) 2 >>= _) _ _ _
  refine wpAny_bind (wpAny_field hz rfl (x := .bool false) rfl ?_)
  show wpAny _ _ (field (.ref z) 3 >>= _) _ _ _
  refine wpAny_bind (wpAny_field hz rfl (x := .ref TI) rfl ?_)
  refine wpAny_bind (wpAny_seqItems hTI rfl ?_)
  show wpAny _ _ (Builtin.SmallTypes.ownedTupleIsFree (.ref z) >>= _) _ _ _
  refine wpAny_bind ?_
  unfold Builtin.SmallTypes.ownedTupleIsFree
  refine wpAny_bind (wpAny_field hz rfl (x := .none) rfl (wpAny_pure ?_))
  simp only [if_true]
  refine wpAny_bind (wpAny_rule ?_)
  refine wpAny_bind (wpAny_field hz rfl (x := .ref TO) rfl ?_)
  refine wpAny_bind (wpAny_setField_rec hz (by simp) fun h₁ hz₁ hs₁ => ?_)
  replace hz₁ : IsZip h₁ z TI TO .ellipsis := hz₁
  have hTO₁ : h₁.get? TO = some (tupObj [a1, a2, a3]) := hs₁.extBut _ _ Z.TOz hTO
  replace st1 : St1 nn h₁ := D1.frame _ _ _ st1 fun b hb o e => hs₁.extBut b o (fun q => Z.z1 (q ▸ hb)) e
  replace st2 : St2 nn h₁ := D2.frame _ _ _ st2 fun b hb o e => hs₁.extBut b o (fun q => Z.z2 (q ▸ hb)) e
  replace st3 : St3 nn h₁ := D3.frame _ _ _ st3 fun b hb o e => hs₁.extBut b o (fun q => Z.z3 (q ▸ hb)) e
  have hk : ∀ c o, c ∉ [z, TO, i1, i2, i3] → s.heap.get? c = some o → h₁.get? c = some o := fun c o hc e => hs₁.extBut _ _ (fun q => hc (by simp [q])) e
  have hsz : h₁.objs.size = s.heap.objs.size := hs₁.1
  clear hs₁
  refine wpAny_bind ?_
  simp only [List.zipIdx_cons, List.zipIdx_nil, List.forIn_cons, List.forIn_nil]
  refine wpAny_bind (wpAny_bind (wpAny_onRaise ?_))
  show wpAny _ _ (Builtin.SmallTypes.nextOf (.ref i1) >>= _) _ _ _
  refine wpAny_bind (D1.done _ _ _ st1 fun h₂ e hs₂ he => ?_)
  replace hs₂ : Heap.ExtBut i1 h₁ h₂ := hs₂
  obtain ⟨oe, hoe, hce⟩ := he
  have hz₂ : IsZip h₂ z TI TO .ellipsis := hs₂ _ _ (fun q => Z.z1 (q ▸ Z.m1)) hz₁
  have hez : e ≠ z := fun x => by subst x; rw [hz₂] at hoe; cases hoe; simp at hce
  refine wpAny_setField_rec hz₂ (by simp) fun h₃ _ hs₃ => hE h₃ e (fun c o hc x => hs₃.extBut _ _ (fun q => hc (by simp [q])) (hs₂ _ _ (fun q => hc (by simp [q])) (hk c o hc x))) ⟨oe, hs₃.extBut _ _ hez hoe, hce⟩

theorem zip3_walks (hD : Draws prog w A.in1 i1 fp1 nn P1 St1 ∧ Draws prog w A.in1 i2 fp2 nn P2 St2 ∧ Draws prog w A.in1 i3 fp3 nn P3 St3) (Z : Zip3 z TI TO i1 i2 i3 fp1 fp2 fp3) : WalksT prog w A z (z :: TI :: TO :: (fp1 ++ fp2 ++ fp3)) [z, TO, i1, i2, i3] nn
      (fun i vals => ∃ x1 x2 x3, P1 i x1 ∧ P2 i x2 ∧ P3 i x3 ∧ vals = #[x1, x2, x3])
      (fun i h => IsZip h z TI TO .none ∧ h.get? TI = some (tupObj [.ref i1, .ref i2, .ref i3]) ∧ (∃ a1 a2 a3, h.get? TO = some (tupObj [a1, a2, a3])) ∧ St1 i h ∧ St2 i h ∧ St3 i h)
      (fun i T h => IsZip h z TI TO (rawInt T) ∧ h.get? TI = some (tupObj [.ref i1, .ref i2, .ref i3]) ∧ (∃ a1 a2 a3, h.get? TO = some (tupObj [a1, a2, a3])) ∧ (St1 (i + 1) h ∧ St2 (i + 1) h ∧ St3 (i + 1) h) ∧ T ∉ [z, TO, i1, i2, i3]) where
  sub := fun c hc => by
    have m := Z
    simp only [List.mem_cons, List.not_mem_nil, or_false] at hc
    rcases hc with rfl | rfl | rfl | rfl | rfl <;> simp [Z.m1, Z.m2, Z.m3]
  frame := fun i h h' hst hk => by
    obtain ⟨D1, D2, D3⟩ := hD
    obtain ⟨hz, hTI, ⟨a1, a2, a3, hTO⟩, st1, st2, st3⟩ := hst
    exact ⟨hk z (by simp) _ hz, hk TI (by simp) _ hTI, ⟨a1, a2, a3, hk TO (by simp) _ hTO⟩, D1.frame _ _ _ st1 fun b hb o e => hk b (by simp [hb]) o e, D2.frame _ _ _ st2 fun b hb o e => hk b (by simp [hb]) o e, D3.frame _ _ _ st3 fun b hb o e => hk b (by simp [hb]) o e⟩
  item := fun i s Q E hi hst hQ => by
    obtain ⟨D1, D2, D3⟩ := hD
    obtain ⟨hz, hTI, ⟨a1, a2, a3, hTO⟩, st1, st2, st3⟩ := hst
    have hT : s.TypeIs (.ref z) "zip" := ⟨_, hz, rfl⟩
    have lt : ∀ {c o}, s.heap.get? c = some o → s.heap.objs.size ≠ c := fun e => Nat.ne_of_gt (Heap.lt_size e)
    have hfr : s.heap.objs.size ∉ [z, TO, i1, i2, i3] := by
      intro hm
      simp only [List.mem_cons, List.not_mem_nil, or_false] at hm
      rcases hm with q | q | q | q | q
      · exact lt hz q
      · exact lt hTO q
      · obtain ⟨_, e⟩ := D1.live _ _ st1; exact lt e q
      · obtain ⟨_, e⟩ := D2.live _ _ st2; exact lt e q
      · obtain ⟨_, e⟩ := D3.live _ _ st3; exact lt e q
    unfold pyNext
    exact wpAny_bind (wpAny_attempt (wpAny_callSpecial?_slot (name := Str.ofString "__next__") hT F.slot_zip_next
      (wpAny_call_entry F.slot_zip_next hT F.entry_zip_next
        (zip3_next_item D1 D2 D3 Z hi hz hTI hTO st1 st2 st3 fun x1 x2 x3 h' tk hP1 hP2 hP3 b1 b2 c1 c2 c3 b4 b5 hk => wpAny_pure (hQ s.heap.objs.size #[x1, x2, x3] h' tk ⟨x1, x2, x3, hP1, hP2, hP3, rfl⟩ (Nat.le_refl _) ⟨_, b4, rfl, _, rfl⟩
          ⟨b1, hk _ _ (by simp [Z.TIz, Z.TITO, Z.t1, Z.t2, Z.t3]) hTI, ⟨_, _, _,  b2⟩, ⟨c1, c2, c3⟩, hfr⟩
          hk)) (F.args_zip_next_1 _))))
  go := fun elts k pos i T s Q E hm hQ => by
    obtain ⟨D1, D2, D3⟩ := hD
    obtain ⟨hz, hTI, ⟨a1, a2, a3, hTO⟩, ⟨st1, st2, st3⟩, _⟩ := hm
    refine wpAny_letOwnedTupleGo_zip hz fun h' hz' hs' => hQ h' ⟨hz', hs'.extBut _ _ Z.TIz hTI, ⟨a1, a2, a3, hs'.extBut _ _ Z.TOz hTO⟩, D1.frame _ _ _ st1 fun b hb o e => hs'.extBut b o (fun q => Z.z1 (q ▸ hb)) e, D2.frame _ _ _ st2 fun b hb o e => hs'.extBut b o (fun q => Z.z2 (q ▸ hb)) e, D3.frame _ _ _ st3 fun b hb o e => hs'.extBut b o (fun q => Z.z3 (q ▸ hb)) e⟩ fun c o hc e => hs'.extBut _ _ (fun x => hc (by simp [x])) e
  apart := fun i T h hm hT => hm.2.2.2.2 hT
  done := fun s Q E hst hQ => by
    obtain ⟨D1, D2, D3⟩ := hD
    obtain ⟨hz, hTI, ⟨a1, a2, a3, hTO⟩, st1, st2, st3⟩ := hst
    have hT : s.TypeIs (.ref z) "zip" := ⟨_, hz, rfl⟩
    unfold pyNext
    refine wpAny_bind (wpAny_attempt (wpAny_callSpecial?_slot (name := Str.ofString "__next__") hT F.slot_zip_next
      (wpAny_call_entry F.slot_zip_next hT F.entry_zip_next (zip3_next_end D1 D2 D3 Z hz hTI hTO st1 st2 st3 fun h' e hk he => ?_) (F.args_zip_next_1 _))))
    obtain ⟨o, ho, hc⟩ := he
    refine wpAny_bind (wpAny_isInstance (T := "StopIteration") (b := true) ⟨o, ho, hc⟩ isSubtype_stop ?_)
    exact wpAny_pure (hQ _ s.toks hk)
  self := fun i s Q E hst hQ => wpAny_pyIter_zip hst.1 hQ
end
end Mine
end

section
open PySem PySem.W PyProof.Rows PySem.Calls
set_option linter.unusedVariables false
namespace Mine
theorem typeCall_zip_3 (a b c : Value) : checkTypeCall "zip" ⟨[a, b, c], []⟩ = pure () := by kernel_rfl
theorem newCall_zip_3 (a b c : Value) : checkBuiltinCall "zip.__new__" ⟨[.type "zip", a, b, c], []⟩ = pure () := by kernel_rfl
theorem args_object_init_4 (a b c d : Value) : argsOk "object.__init__" ⟨[a, b, c, d], []⟩ := by
  unfold argsOk; rw [signature?_of (id := "object.__init__") (n := ['_', '_', 't', 'i', 'n', 'i', '_', '_']) (o := ['t', 'c', 'e', 'j', 'b', 'o']) (by kernel_rfl) F.owner_object]; kernel_rfl

abbrev sitObj (x : Str) (t : Tok) : Obj := { cls := .type (strIterType x), data := .fields #[.str x t, .int 0 0] }
abbrev litObj (l : Addr) : Obj := { cls := .type "list_iterator", data := .fields #[.ref l, .int 0 0] }
abbrev zipObj (TI TO : Addr) : Obj := { cls := .type "zip", data := .fields #[.none, .bool false, .bool false, .ref TI, .ref TO] }

set_option maxHeartbeats 4000000 in
theorem meets_zip_sl (x : Str) (t : Tok) (l : Addr) (xs : Array Value) :
    Meets (Builtin.«zip.__new__» ⟨[.type "zip", .str x t, .ref l], []⟩) (fun _ R s => s.heap.IsList l xs ∧
      R (.ok (.ret (.ref ((((s.heap.push (sitObj x t)).push (litObj l)).push (tupObj [.ref s.heap.objs.size, .ref (s.heap.push (sitObj x t)).objs.size])).push (tupObj [.none, .none])).objs.size)))
        { s with heap := ((((s.heap.push (sitObj x t)).push (litObj l)).push (tupObj [.ref s.heap.objs.size, .ref (s.heap.push (sitObj x t)).objs.size])).push (tupObj [.none, .none])).push (zipObj ((s.heap.push (sitObj x t)).push (litObj l)).objs.size (((s.heap.push (sitObj x t)).push (litObj l)).push (tupObj [.ref s.heap.objs.size, .ref (s.heap.push (sitObj x t)).objs.size])).objs.size) }) :=
  .of_wp fun prog w A R s h => by
    obtain ⟨hp, g, d, tk, os⟩ := s; obtain ⟨hl, h⟩ := h
    have hsub := sub_zip
    have hL : Heap.IsList (Shared.heap ⟨hp.push (sitObj x t), g, d, tk, os⟩) l xs := Heap.IsList.push hl _
    wp_walk using wpAny_pyIter_strU, wpAny_pyIter_list hL
    exact ⟨_, rfl, h⟩

set_option maxHeartbeats 4000000 in
theorem meets_zip_sll (x : Str) (t : Tok) (l l2 : Addr) (xs ys : Array Value) :
    Meets (Builtin.«zip.__new__» ⟨[.type "zip", .str x t, .ref l, .ref l2], []⟩) (fun _ R s => s.heap.IsList l xs ∧ s.heap.IsList l2 ys ∧
      R (.ok (.ret (.ref (((((s.heap.push (sitObj x t)).push (litObj l)).push (litObj l2)).push (tupObj [.ref s.heap.objs.size, .ref (s.heap.push (sitObj x t)).objs.size, .ref ((s.heap.push (sitObj x t)).push (litObj l)).objs.size])).push (tupObj [.none, .none, .none])).objs.size)))
        { s with heap := (((((s.heap.push (sitObj x t)).push (litObj l)).push (litObj l2)).push (tupObj [.ref s.heap.objs.size, .ref (s.heap.push (sitObj x t)).objs.size, .ref ((s.heap.push (sitObj x t)).push (litObj l)).objs.size])).push (tupObj [.none, .none, .none])).push (zipObj (((s.heap.push (sitObj x t)).push (litObj l)).push (litObj l2)).objs.size ((((s.heap.push (sitObj x t)).push (litObj l)).push (litObj l2)).push (tupObj [.ref s.heap.objs.size, .ref (s.heap.push (sitObj x t)).objs.size, .ref ((s.heap.push (sitObj x t)).push (litObj l)).objs.size])).objs.size) }) :=
  .of_wp fun prog w A R s h => by
    obtain ⟨hp, g, d, tk, os⟩ := s; obtain ⟨hl, hl2, h⟩ := h
    have hsub := sub_zip
    have hL : Heap.IsList (Shared.heap ⟨hp.push (sitObj x t), g, d, tk, os⟩) l xs := Heap.IsList.push hl _
    have hL2 : Heap.IsList (Shared.heap ⟨(hp.push (sitObj x t)).push (litObj l), g, d, tk, os⟩) l2 ys := Heap.IsList.push (Heap.IsList.push hl2 _) _
    wp_walk using wpAny_pyIter_strU, wpAny_pyIter_list hL, wpAny_pyIter_list hL2
    exact ⟨_, rfl, h⟩

section
variable {prog : Program} {w : World} {A : Around} {E : Value → Shared → Prop} {s : Shared}
theorem call_zip_sl {x : Str} {t : Tok} {l : Addr} {xs : Array Value} {Q : Value → Shared → Prop} (hl : s.heap.IsList l xs)
    (h : ∀ h', IsZip h' (s.heap.objs.size + 4) (s.heap.objs.size + 2) (s.heap.objs.size + 3) .none → h'.get? (s.heap.objs.size + 2) = some (tupObj [.ref s.heap.objs.size, .ref (s.heap.objs.size + 1)]) →
      h'.get? (s.heap.objs.size + 3) = some (tupObj [.none, .none]) → h'.IsStrIter s.heap.objs.size (strIterType x) x t 0 → h'.IsListIter (s.heap.objs.size + 1) l 0 →
      (∀ c o, s.heap.get? c = some o → h'.get? c = some o) → Q (.ref (s.heap.objs.size + 4)) { s with heap := h' }) :
    wpAny (model prog w) A (call (.type "zip") [.str x t, .ref l]) Q E s := by
  refine callType_new F.called_zip (by decide) (F.typeCall_zip_2 _ _) (F.newCall_zip_2 _ _) (fun obj => F.args_object_init_3 obj _ _) F.entry_zip_new
    (meets_zip_sl x t l xs) ⟨hl, ?_⟩
  generalize e1 : s.heap.push (sitObj x t) = h1
  have z1 : h1.objs.size = s.heap.objs.size + 1 := by rw [← e1]; exact Heap.size_push ..
  have k1 : ∀ c o, s.heap.get? c = some o → h1.get? c = some o := fun c o q => by rw [← e1]; exact Heap.get?_push_of_some _ q
  have g1 : h1.get? s.heap.objs.size = some (sitObj x t) := by rw [← e1]; exact Heap.get?_push_size _ rfl
  rw [z1]
  generalize e2 : h1.push (litObj l) = h2
  have z2 : h2.objs.size = s.heap.objs.size + 2 := by rw [← e2, Heap.size_push, z1]
  have k2 : ∀ c o, h1.get? c = some o → h2.get? c = some o := fun c o q => by rw [← e2]; exact Heap.get?_push_of_some _ q
  have g2 : h2.get? (s.heap.objs.size + 1) = some (litObj l) := by rw [← e2, ← z1]; exact Heap.get?_push_size _ rfl
  rw [z2]
  generalize e3 : h2.push (tupObj [.ref s.heap.objs.size, .ref (s.heap.objs.size + 1)]) = h3
  have z3 : h3.objs.size = s.heap.objs.size + 3 := by rw [← e3, Heap.size_push, z2]
  have k3 : ∀ c o, h2.get? c = some o → h3.get? c = some o := fun c o q => by rw [← e3]; exact Heap.get?_push_of_some _ q
  have g3 : h3.get? (s.heap.objs.size + 2) = some (tupObj [.ref s.heap.objs.size, .ref (s.heap.objs.size + 1)]) := by rw [← e3, ← z2]; exact Heap.get?_push_size _ rfl
  rw [z3]
  generalize e4 : h3.push (tupObj [.none, .none]) = h4
  have z4 : h4.objs.size = s.heap.objs.size + 4 := by rw [← e4, Heap.size_push, z3]
  have k4 : ∀ c o, h3.get? c = some o → h4.get? c = some o := fun c o q => by rw [← e4]; exact Heap.get?_push_of_some _ q
  have g4 : h4.get? (s.heap.objs.size + 3) = some (tupObj [.none, .none]) := by rw [← e4, ← z3]; exact Heap.get?_push_size _ rfl
  rw [z4]
  have g5 : (h4.push (zipObj (s.heap.objs.size + 2) (s.heap.objs.size + 3))).get? (s.heap.objs.size + 4) = some (zipObj (s.heap.objs.size + 2) (s.heap.objs.size + 3)) := by rw [← z4]; exact Heap.get?_push_size _ rfl
  have k5 : ∀ c o, h4.get? c = some o → (h4.push (zipObj (s.heap.objs.size + 2) (s.heap.objs.size + 3))).get? c = some o := fun c o q => Heap.get?_push_of_some _ q
  exact ⟨⟨_, g5, rfl⟩, h _ g5 (k5 _ _ (k4 _ _ g3)) (k5 _ _ g4) ⟨_, k5 _ _ (k4 _ _ (k3 _ _ (k2 _ _ g1))), rfl, rfl⟩ ⟨_, k5 _ _ (k4 _ _ (k3 _ _ g2)), rfl, rfl⟩
    fun c o q => k5 _ _ (k4 _ _ (k3 _ _ (k2 _ _ (k1 _ _ q))))⟩

theorem call_zip_sll {x : Str} {t : Tok} {l l2 : Addr} {xs ys : Array Value} {Q : Value → Shared → Prop} (hl : s.heap.IsList l xs) (hl2 : s.heap.IsList l2 ys)
    (h : ∀ h', IsZip h' (s.heap.objs.size + 5) (s.heap.objs.size + 3) (s.heap.objs.size + 4) .none → h'.get? (s.heap.objs.size + 3) = some (tupObj [.ref s.heap.objs.size, .ref (s.heap.objs.size + 1), .ref (s.heap.objs.size + 2)]) →
      h'.get? (s.heap.objs.size + 4) = some (tupObj [.none, .none, .none]) → h'.IsStrIter s.heap.objs.size (strIterType x) x t 0 → h'.IsListIter (s.heap.objs.size + 1) l 0 → h'.IsListIter (s.heap.objs.size + 2) l2 0 →
      (∀ c o, s.heap.get? c = some o → h'.get? c = some o) → Q (.ref (s.heap.objs.size + 5)) { s with heap := h' }) :
    wpAny (model prog w) A (call (.type "zip") [.str x t, .ref l, .ref l2]) Q E s := by
  refine callType_new F.called_zip (by decide) (typeCall_zip_3 _ _ _) (newCall_zip_3 _ _ _) (fun obj => args_object_init_4 obj _ _ _) F.entry_zip_new
    (meets_zip_sll x t l l2 xs ys) ⟨hl, hl2, ?_⟩
  generalize e1 : s.heap.push (sitObj x t) = h1
  have z1 : h1.objs.size = s.heap.objs.size + 1 := by rw [← e1]; exact Heap.size_push ..
  have k1 : ∀ c o, s.heap.get? c = some o → h1.get? c = some o := fun c o q => by rw [← e1]; exact Heap.get?_push_of_some _ q
  have g1 : h1.get? s.heap.objs.size = some (sitObj x t) := by rw [← e1]; exact Heap.get?_push_size _ rfl
  rw [z1]
  generalize e2 : h1.push (litObj l) = h2
  have z2 : h2.objs.size = s.heap.objs.size + 2 := by rw [← e2, Heap.size_push, z1]
  have k2 : ∀ c o, h1.get? c = some o → h2.get? c = some o := fun c o q => by rw [← e2]; exact Heap.get?_push_of_some _ q
  have g2 : h2.get? (s.heap.objs.size + 1) = some (litObj l) := by rw [← e2, ← z1]; exact Heap.get?_push_size _ rfl
  rw [z2]
  generalize e2' : h2.push (litObj l2) = h2'
  have z2' : h2'.objs.size = s.heap.objs.size + 3 := by rw [← e2', Heap.size_push, z2]
  have k2' : ∀ c o, h2.get? c = some o → h2'.get? c = some o := fun c o q => by rw [← e2']; exact Heap.get?_push_of_some _ q
  have g2' : h2'.get? (s.heap.objs.size + 2) = some (litObj l2) := by rw [← e2', ← z2]; exact Heap.get?_push_size _ rfl
  rw [z2']
  generalize e3 : h2'.push (tupObj [.ref s.heap.objs.size, .ref (s.heap.objs.size + 1), .ref (s.heap.objs.size + 2)]) = h3
  have z3 : h3.objs.size = s.heap.objs.size + 4 := by rw [← e3, Heap.size_push, z2']
  have k3 : ∀ c o, h2'.get? c = some o → h3.get? c = some o := fun c o q => by rw [← e3]; exact Heap.get?_push_of_some _ q
  have g3 : h3.get? (s.heap.objs.size + 3) = some (tupObj [.ref s.heap.objs.size, .ref (s.heap.objs.size + 1), .ref (s.heap.objs.size + 2)]) := by rw [← e3, ← z2']; exact Heap.get?_push_size _ rfl
  rw [z3]
  generalize e4 : h3.push (tupObj [.none, .none, .none]) = h4
  have z4 : h4.objs.size = s.heap.objs.size + 5 := by rw [← e4, Heap.size_push, z3]
  have k4 : ∀ c o, h3.get? c = some o → h4.get? c = some o := fun c o q => by rw [← e4]; exact Heap.get?_push_of_some _ q
  have g4 : h4.get? (s.heap.objs.size + 4) = some (tupObj [.none, .none, .none]) := by rw [← e4, ← z3]; exact Heap.get?_push_size _ rfl
  rw [z4]
  have g5 : (h4.push (zipObj (s.heap.objs.size + 3) (s.heap.objs.size + 4))).get? (s.heap.objs.size + 5) = some (zipObj (s.heap.objs.size + 3) (s.heap.objs.size + 4)) := by rw [← z4]; exact Heap.get?_push_size _ rfl
  have k5 : ∀ c o, h4.get? c = some o → (h4.push (zipObj (s.heap.objs.size + 3) (s.heap.objs.size + 4))).get? c = some o := fun c o q => Heap.get?_push_of_some _ q
  exact ⟨⟨_, g5, rfl⟩, h _ g5 (k5 _ _ (k4 _ _ g3)) (k5 _ _ g4) ⟨_, k5 _ _ (k4 _ _ (k3 _ _ (k2' _ _ (k2 _ _ g1)))), rfl, rfl⟩ ⟨_, k5 _ _ (k4 _ _ (k3 _ _ (k2' _ _ g2))), rfl, rfl⟩ ⟨_, k5 _ _ (k4 _ _ (k3 _ _ g2')), rfl, rfl⟩
    fun c o q => k5 _ _ (k4 _ _ (k3 _ _ (k2' _ _ (k2 _ _ (k1 _ _ q)))))⟩
end
end Mine
end

section
open PySem PySem.W PyProof.Rows PySem.Calls
set_option linter.unusedVariables false
namespace Mine
theorem len_app (x y : Str) : (x ++ y).length = x.length + y.length := by
  show (x.cps ++ y.cps).size = _
  rw [Array.size_append]; rfl
def iVals (l : List (Int × Tok)) : List Value := l.map fun p => .int p.1 p.2
def mailStep (on : Str) (text : Str) (p : Nat × Int) : Str :=
  text ++ dAhead (dKind ((⟨#[p.1]⟩ : Str) == on) p.2) ++ quotes (dMarks ((⟨#[p.1]⟩ : Str) == on) (dKind ((⟨#[p.1]⟩ : Str) == on) p.2)) ++ ⟨#[(192 + p.2 / 32).toNat]⟩
def mailF (row on : Str) (cells : List Int) : Str := (row.cps.toList.zip cells).foldl (mailStep on) "" ++ "\"z\"y"

theorem ane {a b : Nat} (h : a < b ∨ b < a) : a ≠ b := by omega
theorem iVals_at {cs : List (Int × Tok)} {i : Nat} {x : Value} (h : (iVals cs).toArray[i]? = some x) : ∃ c u, cs[i]? = some (c, u) ∧ x = .int c u := by
  simp only [iVals, List.getElem?_toArray, List.getElem?_map, Option.map_eq_some_iff] at h
  obtain ⟨⟨c, u⟩, h1, h2⟩ := h
  exact ⟨c, u, h1, h2.symm⟩
section
variable {prog : Program} {w : World} {A : Around}
theorem draws_strN (hh : A.handled = none) (it : Addr) {x : Str} (t : Tok) {n : Nat} (hn : x.cps.size = n) :
    Draws prog w A it [it] n (fun i v => ∃ c u, x.cps[i]? = some c ∧ v = .str ⟨#[c]⟩ u) (fun i h => h.IsStrIter it (strIterType x) x t i) := hn ▸ draws_str hh it x t
theorem draws_listN (hh : A.handled = none) (it l : Addr) (hne : l ≠ it) {items : Array Value} {n : Nat} (hn : items.size = n) :
    Draws prog w A it [it, l] n (fun i v => items[i]? = some v) (fun i h => h.IsListIter it l i ∧ h.IsList l items) := hn ▸ Draws.list hh it l hne items
end
def maFor : Stmt := ((boOf (stAt 12)).drop 1).headD (.Pass default)
abbrev maEnv (L a : Addr) (cd : Value) : Env := envX "_law_mail" (scOf (stAt 12)) L a cd []
section
variable {prog : Program} {w : World} {A : Around} {s s₀ : Shared} {k : Nms} {K : Addr → Obj → Prop} {L a D : Addr} {m : Str → Option Value} {cd : Value} {news : List (Addr × Obj)} {tx on : Str} {t u v e : Tok} {c : Nat} {cell : Int}
set_option maxRecDepth 100000 in
set_option maxHeartbeats 4000000 in
theorem mail_body (O : Ok A 1 10) (hx : tx.length ≤ 1000) (h0 : 0 ≤ cell) (h1 : cell < 1000000)
    (H : Stt k K L s₀ s (asg [("cell", .int cell u), ("ring", .str ⟨#[c]⟩ v), ("text", .str tx t), ("on", .str on e)] m) news) :
    wpAny (model prog w) A (execs (forBod maFor) (maEnv L a cd)) (fun f s' => f = .next ∧ ∃ m' t', Stt k K L s₀ s' m' news ∧
      m' "text" = some (.str (mailStep on tx (c, cell)) t') ∧ m' "on" = some (.str on e)) (fun _ _ => False) s := by
  repeat (walk_at "s")
  (rename Stt _ _ _ _ _ _ _ => H)
  refine r_glob H H.here.fD.g ?_
  refine r_callWith (fun h B => B.fD) ?_
  repeat (walk_at "s")
  (rename Stt _ _ _ _ _ _ _ => H)
  refine ⟨H.here, ?_⟩
  refine dress_call H.here (O.less) fun s2 a2 t1 t2 hg ht => ?_
  replace H := H.grows hg
  clear hg
  generalize hlies : ((⟨#[c]⟩ : Str) == on) = lies at ht
  have ha : (dAhead (dKind lies cell)).length ≤ 2 := by unfold dAhead; split; decide +kernel; split <;> decide +kernel
  have hq : (quotes (dMarks lies (dKind lies cell))).length ≤ 3 := by unfold quotes dMarks; show (Array.replicate _ 34).size ≤ 3; rw [Array.size_replicate]; split <;> split <;> omega
  refine r_unpack2 O.hh H ⟨_, ht, rfl, _, rfl⟩ fun s₃ H3 hk3 => ?_
  clear H ht
  repeat (walk_at "s")
  (rename Stt _ _ _ _ _ _ _ => H)
  refine r_add_str H (by rw [sizeLine_eq]; omega) ?_
  clear H
  intro s4 t4 H
  repeat (walk_at "s")
  (rename Stt _ _ _ _ _ _ _ => H)
  refine r_add_str H (by rw [sizeLine_eq, len_app]; omega) ?_
  clear H
  intro s5 t5 H
  repeat (walk_at "s")
  (rename Stt _ _ _ _ _ _ _ => H)
  refine r_chr H (by omega) (by omega) ?_
  clear H
  intro s6 t6 H
  refine r_add_str H (by rw [sizeLine_eq, len_app, len_app]; show _ + _ + _ + 1 ≤ _; omega) ?_
  clear H
  intro s7 t7 H
  repeat (walk_at "s")
  (rename Stt _ _ _ _ _ _ _ => H)
  refine ⟨rfl, _, t7, H, ?_, rfl⟩
  show some _ = _
  unfold mailStep
  rw [hlies]
end

section
variable {prog : Program} {w : World} {A : Around} {s : Shared} {E Q : Value → Shared → Prop} {k : Nms}
theorem mail_len (on : Str) : ∀ (l : List (Nat × Int)) (tx : Str), (l.foldl (mailStep on) tx).length ≤ tx.length + 6 * l.length
  | [], tx => by simp
  | p :: r, tx => by
    have h := mail_len on r (mailStep on tx p)
    have h2 : (mailStep on tx p).length ≤ tx.length + 6 := by
      unfold mailStep
      have ha : ∀ j, (dAhead j).length ≤ 2 := fun j => by unfold dAhead; split; decide +kernel; split <;> decide +kernel
      have hq : ∀ lies j, (quotes (dMarks lies j)).length ≤ 3 := fun lies j => by unfold quotes dMarks; show (Array.replicate _ 34).size ≤ 3; rw [Array.size_replicate]; split <;> split <;> omega
      rw [len_app, len_app, len_app]
      have h1 := ha (dKind ((⟨#[p.1]⟩ : Str) == on) p.2)
      have h2 := hq ((⟨#[p.1]⟩ : Str) == on) (dKind ((⟨#[p.1]⟩ : Str) == on) p.2)
      have h3 : (⟨#[(192 + p.2 / 32).toNat]⟩ : Str).length = 1 := rfl
      omega
    rw [List.foldl_cons, List.length_cons]
    omega
set_option maxRecDepth 100000 in
set_option maxHeartbeats 4000000 in
theorem mail_call {row on : Str} {tr to : Tok} {lc : Addr} {cs : List (Int × Tok)} (B : Bs k s.heap) (O : Ok A 2 20) (hr : row.cps.size = 4) (hc : cs.length = 4) (hcs : ∀ p ∈ cs, 0 ≤ p.1 ∧ p.1 < 1000000)
    (hl : s.heap.IsList lc (iVals cs).toArray) (h : ∀ s' t', Grows s s' → Q (.str (mailF row on (cs.map (·.1))) t') s') :
    wpAny (model prog w) A (call (.ref k.aM) [.str row tr, .str on to, .ref lc]) Q E s := by
  refine fn_callL B B.fM O.room (binds := [("row", .str row tr), ("on", .str on to), ("cells", .ref lc)]) (fun _ _ _ => rfl) (locs rfl) (fun cd L s₁ hsz H => ?_)
  replace O : Ok (A.deeper (envX "_law_mail" (scOf (stAt 12)) L k.aM cd [])) 1 17 := O.deeper
  have hl0 := hl
  repeat (walk_at "s")
  refine wpAny_For ?_ (fun _ => rfl)
  repeat (walk_at "s")
  (rename Stt _ _ _ _ _ _ _ => H)
  have hlt0 : @LT.lt Nat _ lc s.heap.objs.size := let ⟨_, e, _⟩ := hl0; Heap.lt_size e
  have hlt1 : @LT.lt Nat _ L _ := H.ns.lt
  refine call_zip_sl (hl0.at fun o e => H.keep _ _ e) fun h' hz hTI hTO hs1 hs2 hk => ?_
  replace H := H.grows (Grows.ofH hk)
  refine wpAny_pyIter_zip hz ?_
  rename Shared => sz
  generalize (sz.heap.objs.size : Nat) = N at *
  have D1 := draws_strN (prog := prog) (w := w) (A := (A.deeper (envX "_law_mail" (scOf (stAt 12)) L k.aM cd [])).in1) O.hh N tr hr
  have D2 := draws_listN (prog := prog) (w := w) (A := (A.deeper (envX "_law_mail" (scOf (stAt 12)) L k.aM cd [])).in1) O.hh (N + 1) lc (ane (by omega)) (items := (iVals cs).toArray) (n := 4) (by simp [iVals, hc])
  have Z : Zip2 (N + 4) (N + 2) (N + 3) N (N + 1) [N] [N + 1, lc] := by
    constructor <;> simp <;> (try (repeat' apply And.intro)) <;> exact ane (by omega)
  refine for_T (zip2_walks ⟨D1, D2⟩ Z) H ⟨hz, hTI, ⟨_, _, hTO⟩, hs1, hs2, hl0.at fun o e => H.keep _ _ e⟩ (by simp; exact ⟨ane (by omega), ane (by omega), ane (by omega), ane (by omega), ane (by omega), ane (by omega)⟩) (by simp)
    (fun b hb o q => by have : @LT.lt Nat _ b s.heap.objs.size := Heap.lt_size q; simp at hb; rcases hb with hb | hb | hb | hb <;> exact ane (by omega) hb)
    (fun i m news => news = [] ∧ (∃ t, m "text" = some (.str (((row.cps.toList.zip (cs.map (·.1))).take i).foldl (mailStep on) "") t)) ∧ m "on" = some (.str on to)) (fun _ _ => False)
    ⟨rfl, ⟨_, rfl⟩, rfl⟩ ?_ ?_ (fun _ _ _ _ e => e.elim)
  · rintro i T vals m₁ news₁ s₁ K₁ hi ⟨x1, x2, ⟨c, u, hc1, rfl⟩, hc2, rfl⟩ ⟨rfl, ⟨t, e1⟩, e2⟩ H hT hK had
    obtain ⟨cell, v, hc3, rfl⟩ := iVals_at hc2
    have hcell := hcs _ (List.mem_of_getElem? hc3)
    have hzip : (row.cps.toList.zip (cs.map (·.1)))[i]? = some (c, cell) := by
      rw [List.getElem?_zip_eq_some]
      exact ⟨by simpa using hc1, by simp [hc3]⟩
    have hlen := mail_len on ((row.cps.toList.zip (cs.map (·.1))).take i) ""
    rw [List.length_take] at hlen
    have hze : ("" : Str).length = 0 := by decide +kernel
    replace H := H.asg [("text", .str (((row.cps.toList.zip (cs.map (·.1))).take i).foldl (mailStep on) "") t), ("on", .str on to)] (by simp [e1, e2])
    refine r_unpack2 O.hh H hT fun s₃ H3 hk3 => ?_
    refine wpAny_mono (mail_body (cd := cd) (a := k.aM) (O.less) (by omega) hcell.1 hcell.2 H3) (fun f s' hq => ?_) (fun _ _ e => e.elim)
    obtain ⟨rfl, m', t', H4, f1, f2⟩ := hq
    refine ⟨m', [], H4, ⟨rfl, ⟨t', ?_⟩, f2⟩, rfl⟩
    rw [f1, List.take_add_one, hzip, List.foldl_append]
    rfl
  · rintro s' m' news' H ⟨rfl, ⟨t, e1⟩, e2⟩ had
    dsimp only
    replace H := H.asg [("text", .str (((row.cps.toList.zip (cs.map (·.1))).take 4).foldl (mailStep on) "") t)] (by simpa using e1)
    have hall : (row.cps.toList.zip (cs.map (·.1))).take 4 = row.cps.toList.zip (cs.map (·.1)) := List.take_of_length_le (by simp [hc, hr])
    have hlen := mail_len on (row.cps.toList.zip (cs.map (·.1))) ""
    have hze : ("" : Str).length = 0 := by decide +kernel
    have hzy : ("\"z\"y" : Str).length = 4 := by decide +kernel
    have hl4 : (row.cps.toList.zip (cs.map (·.1))).length = 4 := by simp [hc, hr]
    rw [hall] at H
    repeat (walk_at "s")
    (rename Stt _ _ _ _ _ _ _ => H)
    refine r_add_str H (by rw [sizeLine_eq]; omega) ?_
    clear H
    intro s9 t9 H
    exact h _ t9 (H.grown fun _ _ e => e)
end
end Mine
end

section
open PySem PySem.W PyProof.Rows PySem.Calls
set_option linter.unusedVariables false
namespace Mine
def shownStep (on : Str) (a : Str × Int) (p : (Nat × Int) × Int) : Str × Int :=
  (a.1 ++ (if a.2 = 0 then dAhead (dKind ((⟨#[p.1.1]⟩ : Str) == on) p.1.2) else ("" : Str)) ++ (if p.2 = 0 then (⟨#[(192 + p.1.2 / 32).toNat]⟩ : Str) else ("" : Str)), p.2)
def shownEnd (a : Str × Int) : Str := a.1 ++ (if a.2 = 0 then ("y" : Str) else ("z\"y" : Str))
def shownF (row on : Str) (cells figs : List Int) : Str := shownEnd (((row.cps.toList.zip cells).zip figs).foldl (shownStep on) ("", 0))

def shFor : Stmt := ((boOf (stAt 13)).drop 2).headD (.Pass default)
abbrev shEnv (L a : Addr) (cd : Value) : Env := envX "_law_shown" (scOf (stAt 13)) L a cd []
section
variable {prog : Program} {w : World} {A : Around} {s s₀ : Shared} {k : Nms} {K : Addr → Obj → Prop} {L a D : Addr} {m : Str → Option Value} {cd : Value} {news : List (Addr × Obj)} {tx on : Str} {t u v e t8 t9 : Tok} {c : Nat} {cell fig ab : Int}
theorem r_unpack3 {Q : Unit → Shared → Prop} {r : Str → Option Value} {cn : Str} {cs : Scope} {a : Addr} {cd : Value} {cl : List (Str × Addr)} {x0 x1 x2 : Str} {p0 p1 p2 pos : Pos} {kk : Nat} {T : Addr} {v0 v1 v2 : Value} {l : List (Str × Value)} (hh : A.handled = none)
    (H : Stt k K L s₀ s (asg l r) news) (ht : s.heap.IsTuple T #[v0, v1, v2])
    (h : ∀ s', Stt k K L s₀ s' (asg ((x2, v2) :: (x1, v1) :: (x0, v0) :: l) r) news → (∀ b o, b ≠ L → s.heap.get? b = some o → s'.heap.get? b = some o) → Q () s')
    (hk : cs.kind = .function := by rfl) (hx0 : (envX cn cs L a cd cl).kindOf x0 = some .local := by rfl) (hx1 : (envX cn cs L a cd cl).kindOf x1 = some .local := by rfl) (hx2 : (envX cn cs L a cd cl).kindOf x2 = some .local := by rfl) :
    wpAny (model prog w) A (assign (.Tuple [.Name x0 p0, .Name x1 p1, .Name x2 p2] kk pos) (envX cn cs L a cd cl) (.ref T)) Q (fun _ _ => False) s := by
  refine wpAny_assign_Tuple hh ht rfl rfl fun h₁ hx₁ => ?_
  have up : ∀ b o, s.heap.get? b = some o → h₁.get? b = some o := fun b o e => hx₁ b o (Nat.ne_of_lt (Heap.lt_size e)) e
  have H1 := H.grows (Grows.ofH up)
  show wpAny _ A (do holding [v1, v2] (assign (.Name x0 p0) (envX cn cs L a cd cl) v0); do holding [v2] (assign (.Name x1 p1) (envX cn cs L a cd cl) v1); do holding [] (assign (.Name x2 p2) (envX cn cs L a cd cl) v2); pure ()) _ _ _
  have hp : ((envX cn cs L a cd cl).scope.kind == .class || ((envX cn cs L a cd cl).scope.kind == .module && (envX cn cs L a cd cl).locals != (envX cn cs L a cd cl).globals)) = false := by
    show (cs.kind == .class || (cs.kind == .module && L != mainGlobals)) = false; rw [hk]; rfl
  refine wpAny_bind (wpAny_holding (wpAny_assign_Name (wpAny_storeName_local hx0 H1.ns (fun h₂ hn₂ hs₂ => ?_) hp)))
  have H2 := H1.set (t := s.toks + 1) hn₂ hs₂
  rw [asg_upd] at H2
  refine wpAny_bind (wpAny_holding (wpAny_assign_Name (wpAny_storeName_local hx1 H2.ns (fun h₃ hn₃ hs₃ => ?_) hp)))
  have H3 := H2.set (t := s.toks + 1 + 1) hn₃ hs₃
  rw [asg_upd] at H3
  refine wpAny_bind (wpAny_holding (wpAny_assign_Name (wpAny_storeName_local hx2 H3.ns (fun h₄ hn₄ hs₄ => wpAny_pure ?_) hp)))
  have H4 := H3.set (t := s.toks + 1 + 1 + 1) hn₄ hs₄
  rw [asg_upd] at H4
  exact h _ H4 fun b o hb e => hs₄.extBut b o hb (hs₃.extBut b o hb (hs₂.extBut b o hb (up b o e)))
set_option maxRecDepth 100000 in
set_option maxHeartbeats 4000000 in
theorem shown_body (O : Ok A 1 10) (hx : tx.length ≤ 1000) (h0 : 0 ≤ cell) (h1 : cell < 1000000)
    (H : Stt k K L s₀ s (asg [("figure", .int fig t9), ("cell", .int cell u), ("ring", .str ⟨#[c]⟩ v), ("text", .str tx t), ("above", .int ab t8), ("on", .str on e)] m) news) :
    wpAny (model prog w) A (execs (forBod shFor) (shEnv L a cd)) (fun f s' => f = .next ∧ ∃ m' t' t2, Stt k K L s₀ s' m' news ∧
      m' "text" = some (.str (shownStep on (tx, ab) ((c, cell), fig)).1 t') ∧ m' "above" = some (.int fig t2) ∧ m' "on" = some (.str on e)) (fun _ _ => False) s := by
  repeat (walk_at "s")
  (rename Stt _ _ _ _ _ _ _ => H)
  refine r_glob H H.here.fD.g ?_
  refine r_callWith (fun h B => B.fD) ?_
  repeat (walk_at "s")
  (rename Stt _ _ _ _ _ _ _ => H)
  refine ⟨H.here, ?_⟩
  refine dress_call H.here (O.less) fun s2 a2 t1 t2 hg ht => ?_
  replace H := H.grows hg
  clear hg
  unfold shownStep
  generalize hlies : ((⟨#[c]⟩ : Str) == on) = lies at ht
  have ha : (dAhead (dKind lies cell)).length ≤ 2 := by unfold dAhead; split; decide +kernel; split <;> decide +kernel
  refine r_unpack2 O.hh H ⟨_, ht, rfl, _, rfl⟩ fun s₃ H3 hk3 => ?_
  clear H ht
  have he : ("" : Str).length = 0 := by decide +kernel
  repeat (walk_at "s")
  refine ite_split (fun q => ?_) (fun q => ?_)
  · have hb : ab = 0 := by simpa using q
    repeat (walk_at "s")
    (rename Stt _ _ _ _ _ _ _ => H)
    refine r_add_str H (by rw [sizeLine_eq]; omega) ?_
    clear H
    intro s4 t4 H
    repeat (walk_at "s")
    refine ite_split (fun q2 => ?_) (fun q2 => ?_)
    · have hf : fig = 0 := by simpa using q2
      repeat (walk_at "s")
      (rename Stt _ _ _ _ _ _ _ => H)
      refine r_chr H (by omega) (by omega) ?_
      clear H
      intro s6 t6 H
      refine r_add_str H (by rw [sizeLine_eq, len_app]; show _ + _ + 1 ≤ _; omega) ?_
      clear H
      intro s7 t7 H
      repeat (walk_at "s")
      (rename Stt _ _ _ _ _ _ _ => H)
      exact ⟨rfl, _, t7, _, H, by show some _ = _; rw [if_pos hb, if_pos hf], rfl, rfl⟩
    · have hf : ¬ fig = 0 := by simpa using q2
      repeat (walk_at "s")
      (rename Stt _ _ _ _ _ _ _ => H)
      refine r_add_str H (by rw [sizeLine_eq, len_app]; omega) ?_
      clear H
      intro s7 t7 H
      repeat (walk_at "s")
      (rename Stt _ _ _ _ _ _ _ => H)
      exact ⟨rfl, _, t7, _, H, by show some _ = _; rw [if_pos hb, if_neg hf], rfl, rfl⟩
  · have hb : ¬ ab = 0 := by simpa using q
    repeat (walk_at "s")
    (rename Stt _ _ _ _ _ _ _ => H)
    refine r_add_str H (by rw [sizeLine_eq]; omega) ?_
    clear H
    intro s4 t4 H
    repeat (walk_at "s")
    refine ite_split (fun q2 => ?_) (fun q2 => ?_)
    · have hf : fig = 0 := by simpa using q2
      repeat (walk_at "s")
      (rename Stt _ _ _ _ _ _ _ => H)
      refine r_chr H (by omega) (by omega) ?_
      clear H
      intro s6 t6 H
      refine r_add_str H (by rw [sizeLine_eq, len_app]; show _ + _ + 1 ≤ _; omega) ?_
      clear H
      intro s7 t7 H
      repeat (walk_at "s")
      (rename Stt _ _ _ _ _ _ _ => H)
      exact ⟨rfl, _, t7, _, H, by show some _ = _; rw [if_neg hb, if_pos hf], rfl, rfl⟩
    · have hf : ¬ fig = 0 := by simpa using q2
      repeat (walk_at "s")
      (rename Stt _ _ _ _ _ _ _ => H)
      refine r_add_str H (by rw [sizeLine_eq, len_app]; omega) ?_
      clear H
      intro s7 t7 H
      repeat (walk_at "s")
      (rename Stt _ _ _ _ _ _ _ => H)
      exact ⟨rfl, _, t7, _, H, by show some _ = _; rw [if_neg hb, if_neg hf], rfl, rfl⟩
end

theorem ahead_le (j : Int) : (dAhead j).length ≤ 2 := by unfold dAhead; split; decide +kernel; split <;> decide +kernel
theorem shown_len (on : Str) : ∀ (l : List ((Nat × Int) × Int)) (a : Str × Int), (l.foldl (shownStep on) a).1.length ≤ a.1.length + 6 * l.length
  | [], a => by simp
  | p :: r, a => by
    have h := shown_len on r (shownStep on a p)
    have h2 : (shownStep on a p).1.length ≤ a.1.length + 6 := by
      unfold shownStep
      have he : ("" : Str).length = 0 := by decide +kernel
      have h1 := ahead_le (dKind ((⟨#[p.1.1]⟩ : Str) == on) p.1.2)
      have h3 : (⟨#[(192 + p.1.2 / 32).toNat]⟩ : Str).length = 1 := rfl
      dsimp only
      rw [len_app, len_app]
      split <;> split <;> omega
    rw [List.foldl_cons, List.length_cons]
    omega

section
variable {prog : Program} {w : World} {A : Around} {s : Shared} {E Q : Value → Shared → Prop} {k : Nms}
set_option maxRecDepth 100000 in
set_option maxHeartbeats 4000000 in
theorem shown_call {row on : Str} {tr to : Tok} {lc lf : Addr} {cs fs : List (Int × Tok)} (B : Bs k s.heap) (O : Ok A 2 20) (hr : row.cps.size = 4) (hc : cs.length = 4) (hf : fs.length = 4) (hcs : ∀ p ∈ cs, 0 ≤ p.1 ∧ p.1 < 1000000)
    (hl : s.heap.IsList lc (iVals cs).toArray) (hlf : s.heap.IsList lf (iVals fs).toArray) (h : ∀ s' t', Grows s s' → Q (.str (shownF row on (cs.map (·.1)) (fs.map (·.1))) t') s') :
    wpAny (model prog w) A (call (.ref k.aW) [.str row tr, .str on to, .ref lc, .ref lf]) Q E s := by
  refine fn_callL B B.fW O.room (binds := [("row", .str row tr), ("on", .str on to), ("cells", .ref lc), ("figures", .ref lf)]) (fun _ _ _ => rfl) (locs rfl) (fun cd L s₁ hsz H => ?_)
  replace O : Ok (A.deeper (envX "_law_shown" (scOf (stAt 13)) L k.aW cd [])) 1 17 := O.deeper
  have hl0 := hl
  have hlf0 := hlf
  repeat (walk_at "s")
  refine wpAny_For ?_ (fun _ => rfl)
  repeat (walk_at "s")
  (rename Stt _ _ _ _ _ _ _ => H)
  have hlt0 : @LT.lt Nat _ lc s.heap.objs.size := let ⟨_, e, _⟩ := hl0; Heap.lt_size e
  have hltf : @LT.lt Nat _ lf s.heap.objs.size := let ⟨_, e, _⟩ := hlf0; Heap.lt_size e
  have hlt1 : @LT.lt Nat _ L _ := H.ns.lt
  refine call_zip_sll (hl0.at fun o e => H.keep _ _ e) (hlf0.at fun o e => H.keep _ _ e) fun h' hz hTI hTO hs1 hs2 hs3 hk => ?_
  replace H := H.grows (Grows.ofH hk)
  refine wpAny_pyIter_zip hz ?_
  rename Shared => sz
  generalize (sz.heap.objs.size : Nat) = N at *
  have D1 := draws_strN (prog := prog) (w := w) (A := (A.deeper (envX "_law_shown" (scOf (stAt 13)) L k.aW cd [])).in1) O.hh N tr hr
  have D2 := draws_listN (prog := prog) (w := w) (A := (A.deeper (envX "_law_shown" (scOf (stAt 13)) L k.aW cd [])).in1) O.hh (N + 1) lc (ane (by omega)) (items := (iVals cs).toArray) (n := 4) (by simp [iVals, hc])
  have D3 := draws_listN (prog := prog) (w := w) (A := (A.deeper (envX "_law_shown" (scOf (stAt 13)) L k.aW cd [])).in1) O.hh (N + 2) lf (ane (by omega)) (items := (iVals fs).toArray) (n := 4) (by simp [iVals, hf])
  have Z : Zip3 (N + 5) (N + 3) (N + 4) N (N + 1) (N + 2) [N] [N + 1, lc] [N + 2, lf] := by
    constructor <;> simp <;> (try (repeat' apply And.intro)) <;> exact ane (by omega)
  refine for_T (zip3_walks ⟨D1, D2, D3⟩ Z) H ⟨hz, hTI, ⟨_, _, _, hTO⟩, hs1, ⟨hs2, hl0.at fun o e => H.keep _ _ e⟩, hs3, hlf0.at fun o e => H.keep _ _ e⟩
    (by simp; exact ⟨ane (by omega), ane (by omega), ane (by omega), ane (by omega), ane (by omega), ane (by omega), ane (by omega), ane (by omega)⟩) (by simp)
    (fun b hb o q => by have : @LT.lt Nat _ b s.heap.objs.size := Heap.lt_size q; simp at hb; rcases hb with hb | hb | hb | hb | hb <;> exact ane (by omega) hb)
    (fun i m news => news = [] ∧ (∃ t t2, m "text" = some (.str (((((row.cps.toList.zip (cs.map (·.1))).zip (fs.map (·.1))).take i).foldl (shownStep on) ("", 0)).1) t) ∧
      m "above" = some (.int (((((row.cps.toList.zip (cs.map (·.1))).zip (fs.map (·.1))).take i).foldl (shownStep on) ("", 0)).2) t2)) ∧ m "on" = some (.str on to)) (fun _ _ => False)
    ⟨rfl, ⟨_, _, rfl, rfl⟩, rfl⟩ ?_ ?_ (fun _ _ _ _ e => e.elim)
  · rintro i T vals m₁ news₁ s₁ K₁ hi ⟨x1, x2, x3, ⟨c, u, hc1, rfl⟩, hc2, hc4, rfl⟩ ⟨rfl, ⟨t, t2, e1, e3⟩, e2⟩ H hT hK had
    obtain ⟨cell, v, hc3, rfl⟩ := iVals_at hc2
    obtain ⟨fig, v2, hc5, rfl⟩ := iVals_at hc4
    have hcell := hcs _ (List.mem_of_getElem? hc3)
    have hzip : ((row.cps.toList.zip (cs.map (·.1))).zip (fs.map (·.1)))[i]? = some ((c, cell), fig) := by
      rw [List.getElem?_zip_eq_some, List.getElem?_zip_eq_some]
      exact ⟨⟨by simpa using hc1, by simp [hc3]⟩, by simp [hc5]⟩
    have hlen := shown_len on (((row.cps.toList.zip (cs.map (·.1))).zip (fs.map (·.1))).take i) ("", 0)
    rw [List.length_take] at hlen
    have hze : ("" : Str).length = 0 := by decide +kernel
    dsimp only at hlen
    replace H := H.asg [("text", .str (((((row.cps.toList.zip (cs.map (·.1))).zip (fs.map (·.1))).take i).foldl (shownStep on) ("", 0)).1) t), ("above", .int (((((row.cps.toList.zip (cs.map (·.1))).zip (fs.map (·.1))).take i).foldl (shownStep on) ("", 0)).2) t2), ("on", .str on to)] (by simp [e1, e2, e3])
    refine r_unpack3 O.hh H hT fun s₃ H3 hk3 => ?_
    refine wpAny_mono (shown_body (cd := cd) (a := k.aW) (O.less) (by omega) hcell.1 hcell.2 H3) (fun f s' hq => ?_) (fun _ _ e => e.elim)
    obtain ⟨rfl, m', t', t2', H4, f1, f2, f3⟩ := hq
    refine ⟨m', [], H4, ⟨rfl, ⟨t', t2', ?_, ?_⟩, f3⟩, rfl⟩
    · rw [f1, List.take_add_one, hzip, List.foldl_append]
      rfl
    · rw [f2, List.take_add_one, hzip, List.foldl_append]
      rfl
  · rintro s' m' news' H ⟨rfl, ⟨t, t2, e1, e3⟩, e2⟩ had
    dsimp only
    have hall : ((row.cps.toList.zip (cs.map (·.1))).zip (fs.map (·.1))).take 4 = (row.cps.toList.zip (cs.map (·.1))).zip (fs.map (·.1)) := List.take_of_length_le (by simp [hc, hr, hf])
    have hlen := shown_len on ((row.cps.toList.zip (cs.map (·.1))).zip (fs.map (·.1))) ("", 0)
    have hze : ("" : Str).length = 0 := by decide +kernel
    have hzy : ("z\"y" : Str).length = 3 := by decide +kernel
    have hzy2 : ("y" : Str).length = 1 := by decide +kernel
    have hl4 : ((row.cps.toList.zip (cs.map (·.1))).zip (fs.map (·.1))).length = 4 := by simp [hc, hr, hf]
    rw [hall] at e1 e3
    unfold shownF at h
    generalize ((row.cps.toList.zip (cs.map (·.1))).zip (fs.map (·.1))).foldl (shownStep on) ("", 0) = z at *
    obtain ⟨z1, z2⟩ := z
    dsimp only at e1 e3 hlen
    replace H := H.asg [("text", .str z1 t), ("above", .int z2 t2)] (by simp [e1, e3])
    repeat (walk_at "s")
    refine ite_split (fun q => ?_) (fun q => ?_)
    · have hb : z2 = 0 := by simpa using q
      repeat (walk_at "s")
      (rename Stt _ _ _ _ _ _ _ => H)
      refine r_add_str H (by rw [sizeLine_eq]; omega) ?_
      clear H
      intro s9 t9 H
      have := h _ t9 (H.grown fun _ _ e => e)
      unfold shownEnd at this
      rw [if_pos hb] at this
      exact this
    · have hb : ¬ z2 = 0 := by simpa using q
      repeat (walk_at "s")
      (rename Stt _ _ _ _ _ _ _ => H)
      refine r_add_str H (by rw [sizeLine_eq]; omega) ?_
      clear H
      intro s9 t9 H
      have := h _ t9 (H.grown fun _ _ e => e)
      unfold shownEnd at this
      rw [if_neg hb] at this
      exact this
end
end Mine
end

section
open PySem PySem.W PyProof.Rows PySem.Calls
set_option linter.unusedVariables false
namespace Mine
def parseGo : List Nat → List Nat
  | [] => []
  | c :: r => if c = 34 then (match r with | [] => [] | d :: r' => if d = 34 then 34 :: parseGo r' else []) else c :: parseGo r
theorem parseGo_nil : parseGo [] = [] := by rw [parseGo.eq_def]
theorem parseGo_cons {c : Nat} {r : List Nat} (h : c ≠ 34) : parseGo (c :: r) = c :: parseGo r := by rw [parseGo.eq_def]; simp [h]
theorem parseGo_two {r : List Nat} : parseGo (34 :: 34 :: r) = 34 :: parseGo r := by rw [parseGo.eq_def]; simp
theorem parseGo_one : parseGo [34] = [] := by rw [parseGo.eq_def]; simp
theorem parseGo_other {c : Nat} {r : List Nat} (h : c ≠ 34) : parseGo (34 :: c :: r) = [] := by rw [parseGo.eq_def]; simp [h]

def pResp (l : List Nat) : Str := ⟨(50 :: 53 :: 55 :: 32 :: 34 :: l).toArray⟩
def paWhile : Stmt := ((boOf (stAt 9)).drop 5).headD (.Pass default)
def whTest : Stmt → Expr
  | .While t _ _ _ => t
  | _ => default
def whBody : Stmt → List Stmt
  | .While _ b _ _ => b
  | _ => []
abbrev paEnv (L a : Addr) (cd : Value) : Env := envX "parse257" (scOf (stAt 9)) L a cd []

theorem pResp_len (l : List Nat) : (pResp l).length = l.length + 5 := rfl
theorem pResp_item {l : List Nat} {j c : Nat} (h : l[j]? = some c) : Txt.item (pResp l) (5 + (j : Int)) = ⟨#[c]⟩ := by
  rw [show (5 + (j : Int)) = ((5 + j : Nat) : Int) by omega]
  have hlt := (List.getElem?_eq_some_iff.mp h).1
  rw [item_meets ⟨by omega, by rw [pResp_len]; omega⟩]
  congr 2
  simp only [pResp, Int.toNat_natCast]
  rw [Nat.add_comm]
  simp [Array.getD_eq_getD_getElem?, h]

section
variable {prog : Program} {w : World} {A : Around} {s s₀ : Shared} {k : Nms} {K : Addr → Obj → Prop} {L a : Addr} {m : Str → Option Value} {cd : Value} {l d : List Nat} {j : Nat} {t u v e : Tok} {R dn : Str} {iv nv : Int}
theorem app_one {x : List Nat} {c : Nat} {y : Str} (h : y = ⟨x.toArray⟩) : y ++ (⟨#[c]⟩ : Str) = ⟨(x ++ [c]).toArray⟩ := by
  subst h
  show (⟨x.toArray ++ #[c]⟩ : Str) = _
  simp
set_option maxRecDepth 100000 in
set_option maxHeartbeats 4000000 in
theorem parse_turn {Q : Flow → Shared → Prop} (hR : ∀ (j : Nat) (c : Nat), l[j]? = some c → Txt.item R (5 + (j : Int)) = ⟨#[c]⟩) (hRl : R.length = l.length + 5) (hl : l.length ≤ 400) (hd : d.length ≤ j) {c : Nat} {r : List Nat} (hj : l.drop j = c :: r)
    (hiv : iv = 5 + (j : Int)) (hnv : nv = 5 + (l.length : Int)) (hdn : dn = ⟨d.toArray⟩)
    (H : Stt k K L s₀ s (asg [("resp", .str R t), ("i", .int iv u), ("n", .int nv v), ("dirname", .str dn e)] m) [])
    (next : ∀ (j' : Nat) d' s' u' e' m' iv' dn', Stt k K L s₀ s' m' [] → m' "resp" = some (.str R t) → m' "i" = some (.int iv' u') → m' "n" = some (.int nv v) → m' "dirname" = some (.str dn' e') → iv' = 5 + (j' : Int) → dn' = ⟨List.toArray d'⟩ → j < j' → j' ≤ l.length → d'.length ≤ j' →
      d' ++ parseGo (l.drop j') = d ++ parseGo (l.drop j) → Q .next s')
    (brk : ∀ s' m' e', Stt k K L s₀ s' m' [] → m' "dirname" = some (.str dn e') → parseGo (l.drop j) = [] → Q .brk s') :
    wpAny (model prog w) A (execs (whBody paWhile) (paEnv L a cd)) Q (fun _ _ => False) s := by
  have hz : R.length ≤ sizeLine := by rw [sizeLine_eq, hRl]; omega
  have hdl : dn.length = d.length := by subst hdn; rfl
  have hc : l[j]? = some c := by rw [← List.head?_drop, hj]; rfl
  have hlt := (List.getElem?_eq_some_iff.mp hc).1
  have e1 : l.drop (j + 1) = r := by rw [← List.drop_drop, hj]; rfl
  repeat (walk_at "s")
  (rename Stt _ _ _ _ _ _ _ => H)
  refine r_item_str H (by omega) (by omega) hz ?_
  clear H
  intro s2 t2 H
  have hit0 := hR j c hc
  rw [← hiv] at hit0
  generalize Txt.item R iv = R0 at hit0
  subst hit0
  repeat (walk_at "s")
  refine ite_split (fun q => ?_) (fun q => ?_)
  · rw [qt_is, one_eq] at q
    have hc34 : c = 34 := by simpa using q
    repeat (walk_at "s")
    refine ite_split (fun q2 => ?_) (fun q2 => ?_)
    · have hr : r = [] := by
        have : l.length ≤ j + 1 := by simp at q2; omega
        rw [← e1]; exact List.drop_eq_nil_of_le this
      refine ite_t rfl ?_
      repeat (walk_at "s")
      (rename Stt _ _ _ _ _ _ _ => H)
      exact brk _ _ _ H rfl (by rw [hj, hr, hc34, parseGo_one])
    · have hlt2 : j + 1 < l.length := by simp at q2; omega
      obtain ⟨d2, r2, hr⟩ : ∃ d2 r2, r = d2 :: r2 := by
        cases r with
        | nil => have := congrArg List.length e1; rw [List.length_drop] at this; simp at this; omega
        | cons d2 r2 => exact ⟨_, _, rfl⟩
      have hc2 : l[j + 1]? = some d2 := by rw [← List.head?_drop, e1, hr]; rfl
      repeat (walk_at "s")
      (rename Stt _ _ _ _ _ _ _ => H)
      refine r_item_str H (by omega) (by omega) hz ?_
      clear H
      intro s4 t4 H
      have hit := hR (j + 1) d2 hc2
      rw [show 5 + ((j + 1 : Nat) : Int) = iv + 1 by omega] at hit
      generalize Txt.item R (iv + 1) = R1 at hit
      subst hit
      repeat (walk_at "s")
      refine ite_split (fun q3 => ?_) (fun q3 => ?_)
      · rw [qt_is, bne, one_eq] at q3
        have hd2 : d2 ≠ 34 := by simpa using q3
        refine ite_t rfl ?_
        repeat (walk_at "s")
        (rename Stt _ _ _ _ _ _ _ => H)
        exact brk _ _ _ H rfl (by rw [hj, hr, hc34, parseGo_other hd2])
      · rw [qt_is, bne, one_eq] at q3
        have hd2 : d2 = 34 := by simpa using q3
        repeat (walk_at "s")
        refine ite_f rfl ?_
        repeat (walk_at "s")
        (rename Stt _ _ _ _ _ _ _ => H)
        refine r_add_str H (by rw [sizeLine_eq]; show _ + 1 ≤ _; omega) ?_
        clear H
        intro s5 t5 H
        have hq := app_one (c := c) hdn
        generalize dn ++ (⟨#[c]⟩ : Str) = dq at hq
        repeat (walk_at "s")
        (rename Stt _ _ _ _ _ _ _ => H)
        refine next (j + 2) (d ++ [34]) _ _ _ _ _ _ H rfl rfl rfl rfl (by omega) (by rw [hq, hc34]) (by omega) (by omega) (by simp; omega) ?_
        have e2 : l.drop (j + 2) = r2 := by rw [← List.drop_drop, hj, hr]; rfl
        rw [hj, hr, hc34, hd2, parseGo_two, e2]
        simp
  · rw [qt_is, one_eq] at q
    have hc34 : c ≠ 34 := by simpa using q
    repeat (walk_at "s")
    (rename Stt _ _ _ _ _ _ _ => H)
    refine r_add_str H (by rw [sizeLine_eq]; show _ + 1 ≤ _; omega) ?_
    clear H
    intro s5 t5 H
    have hq := app_one (c := c) hdn
    generalize dn ++ (⟨#[c]⟩ : Str) = dq at hq
    repeat (walk_at "s")
    (rename Stt _ _ _ _ _ _ _ => H)
    refine next (j + 1) (d ++ [c]) _ _ _ _ _ _ H rfl rfl rfl rfl (by omega) hq (by omega) (by omega) (by simp; omega) ?_
    rw [hj, parseGo_cons hc34, e1]
    simp
end
section
variable {prog : Program} {w : World} {A : Around} {s : Shared} {E Q : Value → Shared → Prop} {k : Nms} {l : List Nat} {R : Str} {t : Tok}
set_option maxRecDepth 100000 in
set_option maxHeartbeats 4000000 in
theorem parse_call' (B : Bs k s.heap) (O : Ok A 1 10) (hR : ∀ (j : Nat) (c : Nat), l[j]? = some c → Txt.item R (5 + (j : Int)) = ⟨#[c]⟩) (hRl : R.length = l.length + 5) (hl : l.length ≤ 400)
    (h1 : Txt.slice R none (some 3) = "257") (h2 : Txt.slice R (some 3) (some 5) = " \"") (h : ∀ s' t', Grows s s' → Q (.str ⟨(parseGo l).toArray⟩ t') s') :
    wpAny (model prog w) A (call (.ref k.aP) [.str R t]) Q E s := by
  refine fn_callL B B.fP O.room (binds := [("resp", .str R t)]) (fun _ _ _ => rfl) (locs rfl) (fun cd L s₁ hsz H => ?_)
  have hz : R.length ≤ sizeLine := by rw [sizeLine_eq, hRl]; omega
  repeat (walk_at "s")
  (rename Stt _ _ _ _ _ _ _ => H)
  refine r_slice_ns H hz ?_
  clear H
  intro s2 t2 H
  repeat (walk_at "s")
  rw [h1]
  refine ite_f (by decide +kernel) ?_
  repeat (walk_at "s")
  (rename Stt _ _ _ _ _ _ _ => H)
  refine r_slice_ss H hz ?_
  clear H
  intro s3 t3 H
  repeat (walk_at "s")
  rw [h2]
  refine ite_f (by decide +kernel) ?_
  repeat (walk_at "s")
  refine wpAny_While ?_
  (rename Stt _ _ _ _ _ _ _ => H)
  refine codeAny_whileLoop (fun n s' => ∃ (j : Nat) (d : List Nat) (m : Str → Option Value) (iv : Int) (u v e : Tok) (dn : Str), Stt k (fun b o => s.heap.get? b = some o) L s s' m [] ∧
    m "resp" = some (.str R t) ∧ m "i" = some (.int iv u) ∧ m "n" = some (.int R.length v) ∧ m "dirname" = some (.str dn e) ∧ iv = 5 + (j : Int) ∧ dn = ⟨d.toArray⟩ ∧ j ≤ l.length ∧ d.length ≤ j ∧
    d ++ parseGo (l.drop j) = parseGo l ∧ n = l.length - j) ?_ l.length ⟨0, [], _, _, _, _, _, _, H, rfl, rfl, rfl, rfl, rfl, by decide +kernel, Nat.zero_le _, Nat.le_refl _, rfl, rfl⟩
  clear H
  rintro n s' ⟨j, d, m, iv, u, v, e, dn, H, f1, f2, f3, f4, hiv, hdn, hj, hd, hgo, rfl⟩
  replace H := H.asg [("resp", .str R t), ("i", .int iv u), ("n", .int R.length v), ("dirname", .str dn e)] (by simp [f1, f2, f3, f4])
  repeat (walk_at "s")
  refine ite_split (fun q => ?_) (fun q => ?_)
  · have hlt : j < l.length := by simp at q; omega
    obtain ⟨c, r, hcr⟩ : ∃ c r, l.drop j = c :: r := by
      cases hq : l.drop j with
      | nil => have := List.drop_eq_nil_iff.mp hq; omega
      | cons c r => exact ⟨c, r, rfl⟩
    (rename Stt _ _ _ _ _ _ _ => H)
    refine wpAny_mono (parse_turn (cd := cd) (a := k.aP) (Q := fun f s₃ => (f = .next ∧ ∃ (j' : Nat) (d : List Nat) (m : Str → Option Value) (iv : Int) (u v e : Tok) (dn : Str), Stt k (fun b o => s.heap.get? b = some o) L s s₃ m [] ∧
      m "resp" = some (.str R t) ∧ m "i" = some (.int iv u) ∧ m "n" = some (.int R.length v) ∧ m "dirname" = some (.str dn e) ∧ iv = 5 + (j' : Int) ∧ dn = ⟨d.toArray⟩ ∧ j' ≤ l.length ∧ d.length ≤ j' ∧
      d ++ parseGo (l.drop j') = parseGo l ∧ j < j') ∨ (f = .brk ∧ ∃ m' e', Stt k (fun b o => s.heap.get? b = some o) L s s₃ m' [] ∧ m' "dirname" = some (.str dn e') ∧ parseGo (l.drop j) = []))
      hR hRl hl hd hcr hiv (by rw [hRl]; omega) hdn H ?_ ?_) ?_ (fun _ _ e => e.elim)
    · intro j' d' s' u' e' m' iv' dn' H g1 g2 g3 g4 g5 g6 g7 g8 g9 g10
      exact .inl ⟨rfl, j', d', m', iv', u', v, e', dn', H, g1, g2, g3, g4, g5, g6, g8, g9, g10.trans hgo, g7⟩
    · intro s' m' e' H g1 g2
      exact .inr ⟨rfl, m', e', H, g1, g2⟩
    · rintro f s₃ (⟨rfl, j', d', m', iv', u', v', e', dn', H, g1, g2, g3, g4, g5, g6, g8, g9, g10, g7⟩ | ⟨rfl, m', e', H, g1, g2⟩)
      · exact ⟨l.length - j', by omega, j', d', m', iv', u', v', e', dn', H, g1, g2, g3, g4, g5, g6, g8, g9, g10, rfl⟩
      · dsimp only
        replace H := H.asg [("dirname", .str dn e')] (by simp [g1])
        repeat (walk_at "s")
        (rename Stt _ _ _ _ _ _ _ => H)
        rw [g2, List.append_nil] at hgo
        rw [hgo] at hdn
        subst hdn
        exact h _ _ (H.grown fun _ _ e => e)
  · have hj2 : j = l.length := by simp at q; omega
    repeat (walk_at "s")
    (rename Stt _ _ _ _ _ _ _ => H)
    rw [hj2, List.drop_length, parseGo_nil, List.append_nil] at hgo
    rw [hgo] at hdn
    subst hdn
    exact h _ _ (H.grown fun _ _ e => e)

theorem parse_call (B : Bs k s.heap) (O : Ok A 1 10) (hl : l.length ≤ 400) (h : ∀ s' t', Grows s s' → Q (.str ⟨(parseGo l).toArray⟩ t') s') :
    wpAny (model prog w) A (call (.ref k.aP) [.str (pResp l) t]) Q E s := by
  refine parse_call' B O (fun j c => pResp_item) rfl hl ?_ ?_ h
  · rw [beq_iff_eq.mp (slice_closes_to (by simp [pResp]; omega))]
    simp [pResp]
    decide +kernel
  · rw [beq_iff_eq.mp (slice_closes (by simp [pResp]; omega))]
    simp [pResp]
    decide +kernel
end
end Mine
end

section
open PySem PySem.W PyProof.Rows PySem.Calls
set_option linter.unusedVariables false
namespace Mine
section
variable {prog : Program} {w : World} {A : Around} {s s₀ : Shared} {E Q : Value → Shared → Prop} {k : Nms} {K : Addr → Obj → Prop} {L : Addr} {m r : Str → Option Value} {news : List (Addr × Obj)} {x y : Str} {t u : Tok}
open Builtin Builtin.Str in
theorem r_split (H : Stt k K L s₀ s m news) (hy : (y.length == 0) = false) (hx : x.length ≤ 1000) (h : ∀ s' D l, l.map (·.1) = Txt.split x y → Stt k K L s₀ s' m ((D, lstObj (strValues l) 0) :: news) → Q (.ref D) s') :
    wpAny (model prog w) A (call (.builtin "str.split") [.str x t, .str y u]) Q E s := by
  have hsl := sizeLine_eq
  have hn : (partsBetween x (occurrences x y 0 x.length (x.length + 1)) y.length).length ≤ sizeLine := by
    rw [len_partsBetween]
    have := StrLaws.occ_length_le x y 0 x.length (x.length + 1)
    omega
  cases h1 : (decide (x.length < y.length) || decide (strKind x < strKind y))
  · cases hf : (occurrences x y 0 x.length (x.length + 1)).isEmpty
    · refine call_meets F.slot_str_split (typeIs_str _ _ _) F.entry_str_split (F.args_str_split_2 _ _) (meets_str_split_sep x y t u h1 hy hf (by omega) hn) ?_
      rw [strsFrom_eq]
      exact h _ _ (numbered s.toks _) ((numbered_texts _ _).trans ((if_neg (ne_true_of_eq_false h1)).trans (if_neg (ne_true_of_eq_false hf))).symm) ((H.alloc rfl).grows (Grows.toks _ _))
    · exact call_meets F.slot_str_split (typeIs_str _ _ _) F.entry_str_split (F.args_str_split_2 _ _) (meets_str_split_not_found x y t u h1 hy hf) (h _ _ [(x, t)] ((if_neg (ne_true_of_eq_false h1)).trans (if_pos hf)).symm (H.alloc rfl))
  · exact call_meets F.slot_str_split (typeIs_str _ _ _) F.entry_str_split (F.args_str_split_2 _ _) (meets_str_split_cannot_occur x y t u h1) (h _ _ [(x, t)] (if_pos h1).symm (H.alloc rfl))

theorem r_neg_int {a : Int} {t : Tok} (H : Stt k K L s₀ s m news) (h : ∀ s' t', Stt k K L s₀ s' m news → Q (.int (-a) t') s') : wpAny (model prog w) A (unaryOp .USub (.int a t)) Q E s :=
  PySem.P.neg_int (h _ _ (H.grows (Grows.toks _ _)))
theorem r_iadd_int {a b : Int} {t u : Tok} (H : Stt k K L s₀ s m news) (h : ∀ s' t, Stt k K L s₀ s' m news → Q (.int (a + b) t) s') : wpAny (model prog w) A (inplaceOp .Add (.int a t) (.int b u)) Q E s :=
  PySem.P.iadd_int (h _ _ (H.grows (Grows.toks _ _)))
theorem r_isub_int {a b : Int} {t u : Tok} (H : Stt k K L s₀ s m news) (h : ∀ s' t, Stt k K L s₀ s' m news → Q (.int (a - b) t) s') : wpAny (model prog w) A (inplaceOp .Sub (.int a t) (.int b u)) Q E s :=
  PySem.AutoIntOps.isub_0 (h _ _ (H.grows (Grows.toks _ _)))
theorem lst_is {h : Heap} {a : Addr} {vs : List Value} {n : Nat} (e : h.get? a = some (lstObj vs n)) : h.IsList a vs.toArray := ⟨_, e, rfl, _, rfl⟩
theorem r_len_list {a : Addr} {vs : List Value} {n : Nat} (H : Stt k K L s₀ s m news) (hl : s.heap.get? a = some (lstObj vs n)) (hz : vs.length ≤ 1000) (h : ∀ s' t', Stt k K L s₀ s' m news → Q (.int vs.length t') s') :
    wpAny (model prog w) A (call (.builtin "len") [.ref a]) Q E s := by
  refine len_list (lst_is hl) (by simp; omega) ?_
  have := h { s with toks := s.toks + 1 + 1 } (s.toks + 1) (H.grows (Grows.toks _ _))
  simpa using this
theorem r_item_list {value slice : Expr} {a : Addr} {vs : List Value} {n : Nat} {i : Int} {u : Tok} {x : Value} (hl : s.heap.get? a = some (lstObj vs n)) (j : Nat) (hj : i = j ∨ (i = (j : Int) - vs.length ∧ i < 0)) (hz : vs.length ≤ 1000) (hx : vs[j]? = some x) (h : Q x s)
    (hs : subscripted slice false (.ref a) (.int i u) = operate [.ref a, .int i u] (getItem (.ref a) (.int i u)) := by with_unfolding_all rfl) (hg : ∀ r, letTemporaryGo value (.ref a) r = pure () := by intro _; with_unfolding_all rfl) :
    wpAny (model prog w) A (subscriptTail value slice (.ref a) (.int i u)) Q E s := by
  have hlt := (List.getElem?_eq_some_iff.mp hx).1
  rcases hj with hj | ⟨hj, hn⟩
  · exact item_list (lst_is hl) (by omega) (by omega) (by subst hj; simpa using hx) h hs hg
  · refine subscriptTail_builtin (lst_is hl).typeIs slot_list_getitem.lookup (wpAny_getItem_list_neg (lst_is hl) hn (by simp; omega) (by omega) ?_ h) hs hg
    have : (i + ((vs.toArray.size : Nat) : Int)).toNat = j := by simp; omega
    rw [this]
    simpa using hx
/-- an item of a list of the frame's own goes -/
theorem r_del_item {Q : Unit → Shared → Prop} {D : Addr} {vs : List Value} {n : Nat} {i : Int} {u : Tok} {l r : List (Addr × Obj)} (H : Stt k K L s₀ s m (l ++ (D, lstObj vs n) :: r)) (hz : vs.length ≤ 1000) (j : Nat) (hj : seqIndex? i vs.length = some j) (hfit : Builtin.List.listFitsIndex i = true)
    (h : ∀ s', Stt k K L s₀ s' m (l ++ (D, lstObj (vs.eraseIdx j) (n + 1)) :: r) → Q () s') : wpAny (model prog w) A (delItem (.ref D) (.int i u)) Q E s := by
  refine delItem_at (its := vs.toArray) (n := n) (k := j) (H.new _ (List.mem_append_right _ (.head _))) hfit (by simpa using hj) (fun h' hs ho => ?_) (by simp [sizeLine_eq]; omega)
  have := H.put (t := s.toks) (o' := lstObj (vs.eraseIdx j) (n + 1)) hs (by rw [ho])
  exact h _ this
/-- a, b = (x, y): stored in the other order -/
theorem r_Swap2 {Q : Flow → Shared → Prop} {cn : Str} {cs : Scope} {a : Addr} {cd : Value} {cl : List (Str × Addr)} {x0 x1 : Str} {p0 p1 tpos pos : Pos} {kk : Nat} {value : Expr} (hh : A.handled = none)
    (h : wpAny (model prog w) A (eval value (envX cn cs L a cd cl)) (fun v s₁ => ∃ T v0 v1 l r, v = .ref T ∧ Stt k K L s₀ s₁ (asg l r) news ∧ s₁.heap.get? T = some (tupObj [v0, v1]) ∧ ∀ s', Stt k K L s₀ s' (asg ((x0, v0) :: (x1, v1) :: l) r) news → Q .next s') E s)
    (hk : cs.kind = .function := by rfl) (hx0 : (envX cn cs L a cd cl).kindOf x0 = some .local := by rfl) (hx1 : (envX cn cs L a cd cl).kindOf x1 = some .local := by rfl)
    (hs : swapsWithSole [.Tuple [.Name x0 p0, .Name x1 p1] kk tpos] value pos.line (envX cn cs L a cd cl) = pure false := by rfl)
    (hw : swappedStores [.Tuple [.Name x0 p0, .Name x1 p1] kk tpos] value (envX cn cs L a cd cl) = pure (some [x0, x1]) := by rfl) :
    wpAny (model prog w) A (exec (.Assign [.Tuple [.Name x0 p0, .Name x1 p1] kk tpos] value pos) (envX cn cs L a cd cl)) Q E s := by
  refine Assign_Tuple_swapped (names := [x0, x1]) (wpAny_mono h (fun v s₁ h₁ => ?_) fun _ _ e => e) hs hw
  obtain ⟨T, v0, v1, l, r, rfl, H, hT, hq⟩ := h₁
  refine unpackItems_tuple (items := #[v0, v1]) hh ⟨_, hT, rfl, _, rfl⟩ fun h' he => ?_
  have H4 := H.grows (Grows.ofH (h := h') fun b o e => he b o (Nat.ne_of_lt (Heap.lt_size e)) e)
  show wpAny _ _ (assignInOrder [fun v => bindName (envX cn cs L a cd cl) x1 v, fun v => bindName (envX cn cs L a cd cl) x0 v] [v1, v0]) _ _ _
  refine wpAny_assignInOrder_more (bindName_ (r_st H4 (fun s5 H5 => ?_) hk hx1))
  refine wpAny_assignInOrder_more (bindName_ (r_st H5 (fun s6 H6 => ?_) hk hx0))
  exact wpAny_assignInOrder_none (hq _ H6)
open Builtin Builtin.Str in
theorem gives_find4 (x y : Str) (i j : Int) (t u v v2 : Tok) : Gives («str.find» ⟨[.str x t, .str y u, .int i v, .int j v2], []⟩) (.int (match occurrences x y (fromIndex x.length i) (min (fromIndex x.length j) x.length) 1 with | k :: _ => (k : Int) | [] => -1)) := by
  show Gives (match occurrences x y (fromIndex x.length i) (min (fromIndex x.length j) x.length) 1 with | k :: _ => retInt k | [] => (do rule "str.find.not-found"; retInt (-1))) _
  cases occurrences x y (fromIndex x.length i) (min (fromIndex x.length j) x.length) 1 with
  | nil => exact .rule (.of_eq rfl)
  | cons k _ => exact .of_eq rfl
open Builtin Builtin.Str in
theorem r_find4 {i j : Int} {v v2 : Tok} (H : Stt k K L s₀ s m news) (h : ∀ s' t', Stt k K L s₀ s' m news → Q (.int (match occurrences x y (fromIndex x.length i) (min (fromIndex x.length j) x.length) 1 with | k :: _ => (k : Int) | [] => -1) t') s') :
    wpAny (model prog w) A (call (.builtin "str.find") [.str x t, .str y u, .int i v, .int j v2]) Q E s :=
  call_gives F.slot_str_find (typeIs_str _ _ _) F.entry_str_find (F.args_str_find_4 _ _ _ _) (gives_find4 x y i j t u v v2) (h _ _ (H.grows (Grows.toks _ _)))
open Builtin Builtin.Str in
theorem occ_empty (x : Str) (hi : Nat) (h : hi ≤ 4) : occurrences x "" 0 hi 1 = [0] := by
  have h0 : subAt x "" 0 = true := by
    unfold subAt
    have : ("" : Str).length = 0 := by decide +kernel
    rw [this]
    have h2 : ("" : Str).cps = #[] := by decide +kernel
    rw [h2]
    simp
  have hl : ("" : Str).length = 0 := by decide +kernel
  have : hi = 0 ∨ hi = 1 ∨ hi = 2 ∨ hi = 3 ∨ hi = 4 := by omega
  rcases this with rfl | rfl | rfl | rfl | rfl <;> simp [occurrences, Id.run, hl, h0, Std.Legacy.Range.size, List.range', forIn, ForIn.forIn] <;> rfl
end

end Mine
end

section
open PySem PySem.W PyProof.Rows PySem.Calls
set_option linter.unusedVariables false
namespace Mine
section
variable {prog : Program} {w : World} {A : Around} {s : Shared} {E Q : Value → Shared → Prop} {k : Nms} {want got wd : Str} {tw tg : Tok}
set_option maxRecDepth 100000 in
set_option maxHeartbeats 4000000 in
theorem ell_plain (B : Bs k s.heap) (O : Ok A 1 10) (hw : (Builtin.Str.occurrences want "..." 0 want.length 1).isEmpty = true) (h : ∀ s' , Grows s s' → Q (.bool (want == got)) s') :
    wpAny (model prog w) A (call (.ref k.aE) [.str want tw, .str got tg]) Q E s := by
  refine fn_callL B B.fE O.room (binds := [("want", .str want tw), ("got", .str got tg)]) (fun _ _ _ => rfl) (locs rfl) (fun cd L s₁ hsz H => ?_)
  repeat (walk_at "s")
  obtain ⟨tm, hm⟩ := B.marker
  (rename Stt _ _ _ _ _ _ _ => H)
  refine r_glob H hm ?_
  repeat (walk_at "s")
  rw [hw]
  refine ite_t rfl ?_
  repeat (walk_at "s")
  (rename Stt _ _ _ _ _ _ _ => H)
  exact h _ (H.grown fun _ _ e => e)

end
end Mine
end

local macro_rules | `(tactic| walk_at "s") => `(tactic| first
  | ((with_reducible show wpAny _ _ (getMethod (Value.str _ _) (PySem.Str.ofString "join") _) _ _ _); refine GM.join ?_)
  | ((with_reducible show wpAny _ _ (getMethod (Value.str _ _) (PySem.Str.ofString "split") _) _ _ _); refine GM.split ?_)
  | ((with_reducible show wpAny _ _ (getMethod (Value.str _ _) (PySem.Str.ofString "startswith") _) _ _ _); refine GM.startswith ?_)
  | ((with_reducible show wpAny _ _ (getMethod (Value.str _ _) (PySem.Str.ofString "endswith") _) _ _ _); refine GM.endswith ?_)
  | ((with_reducible show wpAny _ _ (getMethod (Value.str _ _) (PySem.Str.ofString "find") _) _ _ _); refine GM.find ?_)
  | ((with_reducible show wpAny _ _ (eval (Expr.UnaryOp _ _ _) _) _ _ _); refine wpAny_UnaryOp ?_)
  | ((with_reducible show wpAny _ _ (unaryOp UnaryOp.USub (Value.int _ _)) _ _ _); (with_reducible rename Stt _ _ _ _ _ _ _ => H'); refine r_neg_int H' ?_; clear H'; intro _ _ _)
  | ((with_reducible show wpAny _ _ (exec (Stmt.Assert _ _ _) _) _ _ _); refine wpAny_Assert_holds ?_)
  | ((with_reducible show wpAny _ _ (exec (Stmt.Delete _ _) _) _ _ _); refine wpAny_Delete ?_)
  | (with_reducible refine wpAny_deleteEach_cons ?_)
  | (with_reducible refine wpAny_deleteEach_nil ?_)
  | ((with_reducible show wpAny _ _ (delete (Expr.Subscript _ _ _) _) _ _ _); refine wpAny_delete_Subscript ?_)
  | ((with_reducible show wpAny _ _ (inplaceOp Operator.Add (Value.int _ _) (Value.int _ _)) _ _ _); (with_reducible rename Stt _ _ _ _ _ _ _ => H'); refine r_iadd_int H' ?_; clear H'; intro _ _ _)
  | ((with_reducible show wpAny _ _ (inplaceOp Operator.Sub (Value.int _ _) (Value.int _ _)) _ _ _); (with_reducible rename Stt _ _ _ _ _ _ _ => H'); refine r_isub_int H' ?_; clear H'; intro _ _ _)
  | ((with_reducible show wpAny _ _ (truthy (Value.str _ _)) _ _ _); (with_reducible rename Stt _ _ _ _ _ _ _ => H'); refine r_truthy_str H' (by first | assumption | decide +kernel) ?_; clear H'; intro _ _))

section
open PySem PySem.W PyProof.Rows PySem.Calls
set_option linter.unusedVariables false
namespace Mine
section
variable {prog : Program} {w : World} {A : Around} {s : Shared} {E Q : Value → Shared → Prop} {k : Nms} {want got wd : Str} {tw tg : Tok}
def elFor : Stmt := ((boOf (stAt 5)).drop 9).headD (.Pass default)
abbrev elEnv (L a : Addr) (cd : Value) : Env := envX "_ellipsis_match" (scOf (stAt 5)) L a cd []
set_option maxRecDepth 100000 in
set_option maxHeartbeats 4000000 in
theorem ell_turn {K : Addr → Obj → Prop} {L a : Addr} {s₀ : Shared} {m : Str → Option Value} {cd : Value} {news : List (Addr × Obj)} {ta t0 te : Tok} {e : Int} (hg : got.length = 4)
    (H : Stt k K L s₀ s (asg [("w", .str "" ta), ("got", .str got tg), ("startpos", .int 0 t0), ("endpos", .int e te)] m) news) :
    wpAny (model prog w) A (execs (forBod elFor) (elEnv L a cd)) (fun f s' => f = .next ∧ ∃ m', Stt k K L s₀ s' m' news) (fun _ _ => False) s := by
  have he : ("" : Str).length ≤ sizeLine := by decide +kernel
  repeat (walk_at "s")
  (rename Stt _ _ _ _ _ _ _ => H)
  refine r_find4 H ?_
  clear H
  intro s2 t2 H
  have hocc := occ_empty got (min (PySem.fromIndex got.length e) got.length) (by omega)
  rw [show PySem.fromIndex got.length 0 = 0 by unfold PySem.fromIndex; simp]
  rw [hocc]
  repeat (walk_at "s")
  refine ite_f (by decide) ?_
  repeat (walk_at "s")
  (rename Stt _ _ _ _ _ _ _ => H)
  exact ⟨rfl, _, H⟩
set_option maxRecDepth 100000 in
set_option maxHeartbeats 4000000 in
theorem ell_tail (B : Bs k s.heap) (O : Ok A 1 10) (hw : (Builtin.Str.occurrences want "..." 0 want.length 1).isEmpty = false) (hwl : want.length ≤ 100) (hsp : Txt.split want "..." = [("" : Str), wd]) (hg : got.length = 4) (h1 : 1 ≤ wd.length) (h3 : wd.length ≤ 3)
    (h : ∀ s' , Grows s s' → Q (.bool (Txt.endswith got wd)) s') :
    wpAny (model prog w) A (call (.ref k.aE) [.str want tw, .str got tg]) Q E s := by
  refine fn_callL B B.fE O.room (binds := [("want", .str want tw), ("got", .str got tg)]) (fun _ _ _ => rfl) (locs rfl) (fun cd L s₁ hsz H => ?_)
  repeat (walk_at "s")
  obtain ⟨tm, hm⟩ := B.marker
  (rename Stt _ _ _ _ _ _ _ => H)
  refine r_glob H hm ?_
  repeat (walk_at "s")
  rw [hw]
  refine ite_f rfl ?_
  repeat (walk_at "s")
  (rename Stt _ _ _ _ _ _ _ => H)
  refine r_glob H hm ?_
  repeat (walk_at "s")
  (rename Stt _ _ _ _ _ _ _ => H)
  refine r_split H (by decide +kernel) (by omega) ?_
  clear H
  intro s2 D l hl H
  rw [hsp] at hl
  obtain ⟨ta, tb, rfl⟩ : ∃ ta tb, l = [(("" : Str), ta), (wd, tb)] := by
    match l, hl with
    | [(x, ta), (y, tb)], hl =>
      simp only [List.map_cons, List.map_nil, List.cons.injEq, and_true] at hl
      exact ⟨ta, tb, by rw [hl.1, hl.2]⟩
  have hz : got.length ≤ sizeLine := by rw [sizeLine_eq]; omega
  have hzw : wd.length ≤ sizeLine := by rw [sizeLine_eq]; omega
  change Stt _ _ _ _ _ _ [(D, lstObj [.str "" ta, .str wd tb] 0)] at H
  repeat (walk_at "s")
  (rename Stt _ _ _ _ _ _ _ => H)
  refine r_len_list H (H.new _ (.head _)) (by simp) ?_
  clear H
  intro s3 t3 H
  repeat (walk_at "s")
  refine ⟨by simp, ?_⟩
  (rename Stt _ _ _ _ _ _ _ => H)
  walk_at "s"
  refine r_Swap2 (k := k) (K := fun b o => s.heap.get? b = some o) (s₀ := s) (news := [(D, lstObj [.str "" ta, .str wd tb] 0)]) O.hh ?_
  repeat (walk_at "s")
  (rename Stt _ _ _ _ _ _ _ => H)
  refine ⟨_, _, _, _, _, rfl, H.drop (List.sublist_cons_self _ _), H.new _ (.head _), ?_⟩
  clear H
  intro s4 H
  repeat (walk_at "s")
  (rename Stt _ _ _ _ _ _ _ => H)
  refine r_item_list (H.new _ (.head _)) 0 (.inl rfl) (by simp) rfl ?_
  repeat (walk_at "s")
  refine ite_f (by decide +kernel) ?_
  repeat (walk_at "s")
  (rename Stt _ _ _ _ _ _ _ => H)
  refine r_item_list (H.new _ (.head _)) 1 (.inr ⟨rfl, by decide⟩) (by simp) rfl ?_
  repeat (walk_at "s")
  refine ite_t (by simp; omega) ?_
  repeat (walk_at "s")
  refine SC.endswith ?_
  repeat (walk_at "s")
  refine ite_split (fun q => ?_) (fun q => ?_)
  · rw [q] at h
    repeat (walk_at "s")
    (rename Stt _ _ _ _ _ _ _ => H)
    refine r_del_item (l := []) (r := []) H (by simp) 1 (by rfl) (by decide +kernel) ?_
    clear H
    intro s7 H
    repeat (walk_at "s")
    refine ite_f (by simp; omega) ?_
    repeat (walk_at "s")
    refine wpAny_For ?_ (fun _ => rfl)
    repeat (walk_at "s")
    (rename Stt _ _ _ _ _ _ _ => H)
    have hD := H.new _ (.head _)
    change _ = some (lstObj [.str "" ta] 1) at hD
    refine wpAny_pyIter_list (lst_is hD) ?_
    replace H := H.freeze
    have H1 := H.grows (Grows.push _ { cls := .type "list_iterator", data := .fields #[.ref D, .int 0 0] })
    have hlt : @LT.lt Nat _ D s7.heap.objs.size := Heap.lt_size hD
    have hlL : @LT.lt Nat _ L s7.heap.objs.size := H.ns.lt
    have hit : (s7.heap.push { cls := .type "list_iterator", data := .fields #[.ref D, .int 0 0] }).IsListIter s7.heap.objs.size D 0 := ⟨_, Heap.get?_push_size _ rfl, rfl, rfl⟩
    have hne : L ≠ D := (fun hq : L = D => H.offL _ (.inr ⟨hq, rfl⟩))
    refine for_W (Walks.list (prog := prog) (w := w) (A := A.deeper (elEnv L k.aE cd)) O.hh s7.heap.objs.size D (ane (.inl hlt)) #[.str "" ta]) H1 ⟨hit, (lst_is hD).at fun o e => Heap.get?_push_of_some _ e⟩
      (by simp; exact ⟨ane (.inl hlL), hne⟩) (by simp) (fun b hb o q => ?_)
      (fun i m news => news = [] ∧ (i = 0 → ∃ e te t0, m "got" = some (.str got tg) ∧ m "endpos" = some (.int e te) ∧ m "startpos" = some (.int 0 t0))) (fun _ _ => False)
      ⟨rfl, fun _ => ⟨_, _, _, rfl, rfl, rfl⟩⟩ ?_ ?_ (fun _ _ _ _ e => e.elim)
    · simp at hb
      subst hb
      rcases q with q | ⟨q, _⟩
      · exact Nat.lt_irrefl _ (Heap.lt_size (H.keep _ _ (.inl q)))
      · exact ane (.inr hlt) q
    · rintro i v m₁ news₁ s₁ K₁ hi hv ⟨rfl, hm0⟩ H hK had
      have hi0 : i = 0 := by simp at hi; omega
      subst hi0
      obtain ⟨e, te, t0, g1, g2, g3⟩ := hm0 rfl
      obtain rfl : v = .str "" ta := by simpa using hv.symm
      replace H := H.asg [("got", .str got tg), ("startpos", .int 0 t0), ("endpos", .int e te)] (by simp [g1, g2, g3])
      refine r_st H fun s8 H => ?_
      refine wpAny_mono (ell_turn (cd := cd) (a := k.aE) hg H) (fun f s' hq => ?_) (fun _ _ e => e.elim)
      obtain ⟨rfl, m', H⟩ := hq
      exact ⟨m', [], H, ⟨rfl, fun q => nomatch q⟩, rfl⟩
    · rintro s' m' news' H ⟨rfl, _⟩ had
      dsimp only
      repeat (walk_at "s")
      exact h _ (H.grown fun _ _ e => .inl e)
  · rw [q] at h
    repeat (walk_at "s")
    (rename Stt _ _ _ _ _ _ _ => H)
    exact h _ (H.grown fun _ _ e => e)
end
end Mine
end

section
open PySem PySem.W PyProof.Rows PySem.Calls
set_option linter.unusedVariables false
namespace Mine

/-- a source of values for a comprehension -/
structure Src (prog : Program) (w : World) (A : Around) (target : Expr) (I : Addr) (fp wr : List Addr) (n : Nat) (Pv : Nat → Heap → Value → Prop) (St : Nat → Heap → Prop) : Prop where
  sub : ∀ b ∈ wr, b ∈ fp
  frame : ∀ i h h', St i h → (∀ b ∈ fp, ∀ o, h.get? b = some o → h'.get? b = some o) → St i h'
  item : ∀ i (s : Shared) (P : Option Value → Shared → Prop) (Q : Value → Shared → Prop) (E : Value → Shared → Prop), i < n → St i s.heap →
    (∀ v s₁, wpAny (model prog w) A (letOwnedTupleGo target (.ref I) v) (fun _ s₂ => Q v s₂) E s₁ → P (some v) s₁) →
    (∀ v h' tk, Pv i h' v → St (i + 1) h' → (∀ b o, b ∉ wr → s.heap.get? b = some o → h'.get? b = some o) → Q v { s with heap := h', toks := tk }) →
    wpAny (model prog w) A (pyNext (.ref I)) P E s
  done : ∀ (s : Shared) (Q : Option Value → Shared → Prop) (E : Value → Shared → Prop), St n s.heap →
    (∀ h' tk, (∀ b o, b ∉ wr → s.heap.get? b = some o → h'.get? b = some o) → Q none { s with heap := h', toks := tk }) → wpAny (model prog w) A (pyNext (.ref I)) Q E s
  self : ∀ i (s : Shared) (Q : Value → Shared → Prop) (E : Value → Shared → Prop), St i s.heap → Q (.ref I) s → wpAny (model prog w) A (pyIter (.ref I)) Q E s

section
variable {prog : Program} {w : World} {A : Around}
theorem Src.ofWalks {I : Addr} {fp wr : List Addr} {n : Nat} {P : Nat → Value → Prop} {St : Nat → Heap → Prop} {x : Str} {px : Pos} (W : Walks prog w A I fp wr n P St) :
    Src prog w A (.Name x px) I fp wr n (fun i _ v => P i v) St where
  sub := W.sub
  frame := W.frame
  item := fun i s P Q E hi hst hP hQ => W.item i s _ _ hi hst fun v h' tk hp hst' hk => hP v _ (wpAny_of_eq (a := ()) rfl (hQ v h' tk hp hst' hk))
  done := W.done
  self := W.self
theorem Src.ofT {I : Addr} {fp wr : List Addr} {n : Nat} {Pt : Nat → Array Value → Prop} {St : Nat → Heap → Prop} {Mid : Nat → Addr → Heap → Prop} {elts : List Expr} {kk : Nat} {tpos : Pos} (W : WalksT prog w A I fp wr n Pt St Mid) :
    Src prog w A (.Tuple elts kk tpos) I fp wr n (fun i h v => ∃ T vals, v = .ref T ∧ h.IsTuple T vals ∧ Pt i vals) St where
  sub := W.sub
  frame := W.frame
  item := fun i s P Q E hi hst hP hQ => W.item i s _ _ hi hst fun T vals h' tk hp _ hT hM hk => hP _ _ (W.go _ _ _ i T _ _ _ hM fun h₂ hst₂ hk₂ =>
    hQ _ h₂ tk ⟨T, vals, rfl, hT.at fun o q => hk₂ T o (W.apart i T h' hM) q, hp⟩ hst₂ fun b o hb e => hk₂ b o hb (hk b o hb e))
  done := W.done
  self := W.self

theorem compLoop_gen {elt target iter : Expr} {ifs : List Expr} {scope : Scope} {pos : Pos} {it acc : Value} {env : Env} {R : Result → Shared → Prop} {s : Shared} (I : Nat → Shared → Prop)
    (turn : ∀ n s, I n s → wpAny (model prog w) A (pyNext it) (fun r s₁ => match r with
      | none => R (.ok .next) s₁
      | some v => wpAny (model prog w) A (letOwnedTupleGo target it v) (fun _ s₁' => wpAny (model prog w) A (assign target env v) (fun _ s₂ =>
          wpAny (model prog w) A (forIn ifs true fun c r => if r = true then do let ok ← isTrue c env (eval c env); pure (ForInStep.yield ok) else pure (ForInStep.yield r)) (fun ok s₃ =>
            if ok = true then wpAny (model prog w) A (eval elt env) (fun x s₄ =>
              wpAny (model prog w) A (call (.builtin "list.append") [acc, x]) (fun _ s₅ => ∃ m, m < n ∧ I m s₅) (fun _ _ => False) s₄) (fun _ _ => False) s₃
            else ∃ m, m < n ∧ I m s₃) (fun _ _ => False) s₂) (fun _ _ => False) s₁') (fun _ _ => False) s₁) (fun _ _ => False) s)
    (n : Nat) (h : I n s) :
    codeAny (model prog w) A (.compLoop (.ListComp elt [⟨target, iter, ifs, 0⟩] scope pos) 0 it acc env) R s := by
  refine codeAny_loop rfl I (fun n s hI => ?_) n h
  show wpAny _ A ((compTurn (.ListComp elt [⟨target, iter, ifs, 0⟩] scope pos) 0 it acc env).onRaise (fun x => do noteFrame x env; theTreesLotGoes x)) _ _ s
  refine wpAny_noted ?_
  rw [compTurn_list]
  refine wpAny_bind (wpAny_standAt (wpAny_bind (wpAny_mono (turn n s hI) (fun r s₁ h₁ => ?_) fun _ _ h' => h'.elim)))
  cases r with
  | none => exact wpAny_pure h₁
  | some v =>
    refine wpAny_bind (wpAny_mono h₁ (fun _ s₁' h₁' => ?_) fun _ _ h' => h'.elim)
    refine wpAny_bind (wpAny_mono h₁' (fun _ s₂ h₂ => wpAny_bind (wpAny_mono h₂ (fun ok s₃ h₃ => ?_) fun _ _ h' => h'.elim)) fun _ _ h' => h'.elim)
    cases ok with
    | false => exact wpAny_pure ⟨rfl, h₃⟩
    | true =>
      exact wpAny_bind (wpAny_bind (wpAny_mono h₃ (fun x s₄ h₄ => wpAny_bind (wpAny_mono h₄ (fun _ s₅ h₅ => wpAny_pure (wpAny_pure ⟨rfl, h₅⟩)) fun _ _ h' => h'.elim)) fun _ _ h' => h'.elim))
end

section
variable {prog : Program} {w : World} {A : Around} {k : Nms} {K : Addr → Obj → Prop} {L : Addr} {s₀ s s₂ : Shared} {m r : Str → Option Value} {news : List (Addr × Obj)} {env : Env} {E : Value → Shared → Prop}

def CompTurn (prog : Program) (w : World) (A : Around) (k : Nms) (target : Expr) (ifs : List Expr) (elt : Expr) (wr : List Addr) (n : Nat) (Pv : Nat → Heap → Value → Prop) (R : Nat → List Value → Prop) (mk : Addr → Env) (s₂ : Shared) : Prop :=
  ∀ i v C D s₁ K₁ m₁ ys N, i < n → Pv i s₁.heap v → R i ys → Stt k K₁ C s₁ s₁ m₁ [(D, lstObj ys N)] → (∀ b o, b ∉ wr → s₂.heap.get? b = some o → K₁ b o) →
    wpAny (model prog w) A (assign target (mk C) v) (fun _ s₃ => wpAny (model prog w) A (forIn ifs true fun c r => if r = true then do let ok ← isTrue c (mk C) (eval c (mk C)); pure (ForInStep.yield ok) else pure (ForInStep.yield r))
      (fun ok s₄ => if ok = true then wpAny (model prog w) A (eval elt (mk C)) (fun y s₅ => (∃ m₂ news₂, Stt k K₁ C s₁ s₅ m₂ (news₂ ++ [(D, lstObj ys N)])) ∧ R (i + 1) (ys ++ [y])) (fun _ _ => False) s₄
        else (∃ m₂ news₂, Stt k K₁ C s₁ s₄ m₂ (news₂ ++ [(D, lstObj ys N)])) ∧ R (i + 1) ys) (fun _ _ => False) s₃) (fun _ _ => False) s₁

theorem comp_block {elt target iter : Expr} {ifs : List Expr} {scope : Scope} {cl : List (Str × Addr)} {pos : Pos} {I : Addr} {fp wr : List Addr} {n : Nat} {Pv : Nat → Heap → Value → Prop} {St : Nat → Heap → Prop} {RR : Value → Addr → Result → Shared → Prop}
    (W : Src prog w A target I fp wr n Pv St) (hsz : n ≤ 1000) (H : Stt k K L s₀ s₂ m news) (hst : St 0 s₂.heap) (hfp : ∀ b ∈ fp, b < s₂.heap.objs.size)
    (hK : ∀ b ∈ wr, ∀ o, ¬ K b o) (hLw : L ∉ wr) (hnw : ∀ p ∈ news, p.1 ∉ wr)
    (hcell : ∀ y ∈ scope.names, y.2 ≠ .cell) (hkind : scope.kind = .function)
    (R : Nat → List Value → Prop) (h0 : R 0 []) (turn : CompTurn prog w A k target ifs elt wr n Pv R (fun C => compEnvC scope cl C env) s₂)
    (hRR : ∀ D C s' m' ys N, Stt k K L s₀ s' m ((D, lstObj ys N) :: news) → s'.heap.Ns C m' → C ≠ L → C ≠ D → (∀ o, ¬ K C o) → (∀ p ∈ news, p.1 ≠ C) → R n ys → RR (.ref D) C (.ok .next) s') :
    wpAny (model prog w) A (newList []) (fun acc s₃ => wpAny (model prog w) A (newFunctionEnv scope env.globals cl [] env.qual none .none (some env)) (fun cenv s₄ =>
      codeAny (model prog w) A (.compStart (.ListComp elt [⟨target, iter, ifs, 0⟩] scope pos) 0 (.ref I) acc { cenv with scope := relabel scope env }) (RR acc cenv.locals) s₄) E s₃) E s₂ := by
  refine wpAny_newObj_type (wpAny_newFunctionEnv hcell (by intro y hy; simp at hy) (fun h₁ hns₁ hsb₁ => ?_) hkind)
  dsimp only at hns₁ hsb₁ ⊢
  generalize hH2 : s₂.heap.push { cls := .type "list", dict := none, data := .seq ([] : List Value).toArray } = H2 at hns₁ hsb₁ ⊢
  have hC : H2.objs.size = s₂.heap.objs.size + 1 := by rw [← hH2, Heap.size_push]
  have hDC : s₂.heap.objs.size ≠ H2.objs.size := by rw [hC]; exact Nat.ne_of_lt (Nat.lt_succ_self _)
  have below : ∀ b, b < s₂.heap.objs.size → b ≠ H2.objs.size ∧ b ≠ s₂.heap.objs.size := fun b hb => ⟨by rw [hC]; exact Nat.ne_of_lt (Nat.lt_succ_of_lt hb), Nat.ne_of_lt hb⟩
  have hDf : s₂.heap.objs.size ∉ fp := fun hm => Nat.lt_irrefl _ (hfp _ hm)
  have hCf : H2.objs.size ∉ fp := fun hm => by have := hfp _ hm; rw [hC] at this; exact Nat.lt_irrefl _ (Nat.lt_of_succ_lt this)
  have old : ∀ b o, s₂.heap.get? b = some o → h₁.get? b = some o := fun b o e => hsb₁.extBut b o (below b (Heap.lt_size e)).1 (Heap.get?_push_of_some _ (hH2 ▸ Heap.get?_push_of_some _ e))
  have hacc : h₁.get? s₂.heap.objs.size = some (lstObj [] 0) := hsb₁.extBut _ _ hDC (Heap.get?_push_of_some _ (hH2 ▸ Heap.get?_push_size _ rfl))
  have hst₁ : St 0 h₁ := W.frame _ _ _ hst fun b _ o e => old b o e
  have fresh : ∀ a o, s₂.heap.objs.size ≤ a → s₂.heap.get? a = some o → False := fun a o ha e => absurd (Heap.lt_size e) (Nat.not_lt.mpr ha)
  have hCle : s₂.heap.objs.size ≤ H2.objs.size := by rw [hC]; exact Nat.le_succ _
  have hLlt : L < s₂.heap.objs.size := H.ns.lt
  have hb : ∃ base, Bs k base ∧ ∀ b o, base.get? b = some o → (b ∉ wr ∧ s₂.heap.get? b = some o) := by
    obtain ⟨base, hb1, hb2⟩ := H.bs
    exact ⟨base, hb1, fun b o e => ⟨fun hw => hK b hw o (hb2 b o e), H.keep b o (hb2 b o e)⟩⟩
  have loop : ∀ s₃ : Shared, s₃ = { s₂ with heap := h₁, toks := s₂.toks + ([] : List (Str × Value)).length } →
      codeAny (model prog w) A (.compLoop (.ListComp elt [⟨target, iter, ifs, 0⟩] scope pos) 0 (.ref I) (.ref s₂.heap.objs.size) (compEnvC scope cl H2.objs.size env))
        (RR (.ref s₂.heap.objs.size) H2.objs.size) s₃ := by
    rintro s₃ rfl
    have H₁ : Stt k (fun b o => b ∉ wr ∧ s₂.heap.get? b = some o) H2.objs.size s₂ { s₂ with heap := h₁, toks := s₂.toks + ([] : List (Str × Value)).length } _ [(s₂.heap.objs.size, lstObj [] 0)] :=
      { bs := hb
        ns := hns₁
        keep := fun b o e => old b o e.2
        offL := fun o e => fresh _ o hCle e.2
        new := fun p hp => by rcases List.mem_singleton.mp hp with rfl; exact hacc
        off := fun p hp => by rcases List.mem_singleton.mp hp with rfl; exact ⟨hDC, fun o e => fresh _ o (Nat.le_refl _) e.2⟩
        nodup := by simp
        drawn := rfl
        os := rfl
        gold := fun _ _ => rfl
        gens := id }
    have hCw : H2.objs.size ∉ wr := fun h => hCf (W.sub _ h)
    have hDw : s₂.heap.objs.size ∉ wr := fun h => hDf (W.sub _ h)
    refine compLoop_gen (fun n' s' => ∃ i m₁ ys N, Stt k (fun b o => b ∉ wr ∧ s₂.heap.get? b = some o) H2.objs.size s₂ s' m₁ [(s₂.heap.objs.size, lstObj ys N)] ∧ St i s'.heap ∧ R i ys ∧ ys.length ≤ i ∧ i ≤ n ∧ n' = n + 1 - i)
      ?_ (n + 1) ⟨0, _, [], 0, H₁, hst₁, h0, Nat.le_refl _, Nat.zero_le _, rfl⟩
    rintro n' s ⟨i, m₁, ys, N, H1, hst', hR, hlen, hi, rfl⟩
    have hKw : ∀ b ∈ wr, ∀ o, ¬ (b ∉ wr ∧ s₂.heap.get? b = some o) := fun b hb o q => q.1 hb
    have hn1 : ∀ p ∈ [(s₂.heap.objs.size, lstObj ys N)], p.1 ∉ wr := fun p hp => by rcases List.mem_singleton.mp hp with rfl; exact hDw
    by_cases hlt : i < n
    · refine W.item i s _ _ _ hlt hst' (fun v s₁ hr => hr) fun v h₂ tk₁ hP hst₂ hk₂ => ?_
      have H2' := H1.but (t := tk₁) hk₂ hKw hCw hn1
      have H3 := H2'.anew.also (J := fun b o => b ∈ fp ∧ h₂.get? b = some o) (fun b o q => q.2) (fun o q => hCf q.1) (fun p hp o q => by rcases List.mem_singleton.mp hp with rfl; exact hDf q.1)
      refine wpAny_mono (turn i v _ _ _ _ _ ys N hlt hP hR H3 (fun b o q e => .inl ⟨q, e⟩)) (fun _ s₃ h₃ => wpAny_mono h₃ (fun ok s₄ h₄ => ?_) fun _ _ e => e) fun _ _ e => e
      have back : ∀ {s' m' news'}, Stt k (fun b o => (b ∉ wr ∧ s₂.heap.get? b = some o) ∨ (b ∈ fp ∧ h₂.get? b = some o)) H2.objs.size { s with heap := h₂, toks := tk₁ } s' m' news' → Stt k (fun b o => b ∉ wr ∧ s₂.heap.get? b = some o) H2.objs.size s₂ s' m' news' := fun H' =>
        H'.from H2'.bs (fun b o q => .inl q) H2'.drawn H2'.os H2'.gold H2'.gens
      cases ok with
      | false =>
        simp only [Bool.false_eq_true, if_false] at h₄ ⊢
        obtain ⟨⟨m₂, news₂, H4⟩, hR'⟩ := h₄
        exact ⟨n + 1 - (i + 1), by omega, i + 1, m₂, ys, N, back (H4.drop (List.sublist_append_right _ _)), W.frame (i + 1) _ _ hst₂ fun b hb o q => H4.keep b o (.inr ⟨hb, q⟩), hR', by omega, hlt, rfl⟩
      | true =>
        simp only [if_true] at h₄ ⊢
        refine wpAny_mono h₄ (fun y s₅ h₅ => ?_) fun _ _ e => e
        obtain ⟨⟨m₂, news₂, H4⟩, hR'⟩ := h₅
        refine r_append (l := []) (r := []) (H4.drop (List.sublist_append_right _ _)) (by rw [sizeLine_eq]; omega) fun s₆ H6 => ?_
        exact ⟨n + 1 - (i + 1), by omega, i + 1, m₂, ys ++ [y], N + 1, back H6, W.frame (i + 1) _ _ hst₂ fun b hb o q => H6.keep b o (.inr ⟨hb, q⟩), hR', by rw [List.length_append, List.length_singleton]; omega, hlt, rfl⟩
    · obtain rfl : i = n := by omega
      refine W.done s _ _ hst' fun h₂ tk₁ hk₂ => ?_
      have H2' := H1.but (t := tk₁) hk₂ hKw hCw hn1
      have fnew : ∀ p ∈ news, p.1 < s₂.heap.objs.size := fun p hp => Heap.lt_size (H.new p hp)
      have keepK : ∀ b o, K b o → h₂.get? b = some o := fun b o q => H2'.keep b o ⟨fun hw => hK b hw o q, H.keep b o q⟩
      have hKD : ∀ b o, s₂.heap.objs.size ≤ b → ¬ K b o := fun b o hb q => fresh _ o hb (H.keep _ o q)
      refine hRR s₂.heap.objs.size H2.objs.size _ _ ys N
        { bs := H.bs
          ns := H.ns.at' fun o q => H2'.keep L o ⟨hLw, q⟩
          keep := keepK
          offL := H.offL
          new := fun p hp => by
            rcases List.mem_cons.mp hp with rfl | hp
            · exact H2'.new _ (.head _)
            · exact H2'.keep p.1 p.2 ⟨hnw p hp, H.new p hp⟩
          off := fun p hp => by
            rcases List.mem_cons.mp hp with rfl | hp
            · exact ⟨Ne.symm (below L hLlt).2, fun o => hKD _ o (Nat.le_refl _)⟩
            · exact H.off p hp
          nodup := by
            rw [List.map_cons, List.nodup_cons]
            refine ⟨fun hm => ?_, H.nodup⟩
            obtain ⟨p, hp, e⟩ := List.mem_map.mp hm
            exact Nat.lt_irrefl _ (Nat.lt_of_lt_of_eq (fnew p hp) e.symm)
          drawn := H2'.drawn.trans H.drawn
          os := H2'.os.trans H.os
          gold := gold_trans H.gold H2'.gold
          gens := fun x => H2'.gens (H.gens x) } H2'.ns (Ne.symm (below L hLlt).1) (Ne.symm hDC) (fun o => hKD _ o hCle) (fun p hp => (below _ (fnew p hp)).1) hR
  exact codeAny_compStart_list (loop _ rfl) (W.self 0 _ _ _ hst₁ (loop _ rfl))

/-- what the walk of a comprehension hands over -/
def CompIn (prog : Program) (w : World) (A : Around) (env : Env) (scope : Scope) (cl : List (Str × Addr)) (target : Expr) (ifs : List Expr) (elt : Expr) (k : Nms) (K : Addr → Obj → Prop) (s₀ : Shared) (m : Str → Option Value) (Fin : Addr → List Value → Nat → List (Addr × Obj) → Shared → Prop) (it : Value) (s₂ : Shared) : Prop :=
  ∃ I fp wr n Pv St news R, it = .ref I ∧ Src prog w A target I fp wr n Pv St ∧ n ≤ 1000 ∧ Stt k K env.locals s₀ s₂ m news ∧ St 0 s₂.heap ∧ (∀ b ∈ fp, b < s₂.heap.objs.size) ∧
    (∀ b ∈ wr, ∀ o, ¬ K b o) ∧ env.locals ∉ wr ∧ (∀ p ∈ news, p.1 ∉ wr) ∧ R 0 [] ∧ CompTurn prog w A k target ifs elt wr n Pv R (fun C => compEnvC scope cl C env) s₂ ∧
    (∀ D s' ys N, Stt k K env.locals s₀ s' m ((D, lstObj ys N) :: news) → R n ys → Fin D ys N news s')

theorem r_comp {elt target iter : Expr} {ifs : List Expr} {scope : Scope} {cl : List (Str × Addr)} {pos : Pos} {Q : Value → Shared → Prop}
    (hclos : closureFor scope env = pure cl) (hcell : ∀ y ∈ scope.names, y.2 ≠ .cell) (hkind : scope.kind = .function)
    (hnames : ∀ y ∈ scope.names, y.2 = .local → scope.names.lookup y.1 = some .local)
    (h : wpAny (model prog w) A (eval iter env) (fun xv s₁ => wpAny (model prog w) A (pyIter xv) (CompIn prog w A env scope cl target ifs elt k K s₀ m (fun D _ _ _ s' => Q (.ref D) s')) E s₁) E s)
    (hs : ∀ x, foldedSetIterable iter env x = pure x := by intro _; rfl) :
    wpAny (model prog w) A (eval (.ListComp elt [⟨target, iter, ifs, 0⟩] scope pos) env) Q E s := by
  rw [eval_ListComp]
  refine wpAny_comprehension_free (use := none) rfl hs hclos hkind hnames (wpAny_mono h (fun xv s₁ h₁ => wpAny_mono h₁ (fun it s₂ h₂ => ?_) fun _ _ e => e) fun _ _ e => e)
  obtain ⟨I, fp, wr, n, Pv, St, news, R, rfl, W, hsz, H, hst, hfp, hK, hLw, hnw, h0, turn, fin⟩ := h₂
  refine comp_block (RR := fun acc C => compPost (model prog w) A E none Q acc C) W hsz H hst hfp hK hLw hnw hcell hkind R h0 turn ?_
  intro D C s' m' ys N H' hn hCL hCD hKC hnC hR
  refine ⟨m', hn, fun h'' hs'' => fin D _ ys N (H'.but (wr := [C]) (t := s'.toks) (fun b o hb e => hs''.extBut b o (by simpa using hb) e) (by simpa using hKC) (by simpa using Ne.symm hCL) ?_) hR⟩
  intro p hp
  rcases List.mem_cons.mp hp with rfl | hp
  · simpa using Ne.symm hCD
  · simpa using hnC p hp

theorem r_assign_comp {elt target iter : Expr} {ifs : List Expr} {scope : Scope} {cl : List (Str × Addr)} {pos spos : Pos} {y : Str} {py : Pos} {l : List (Str × Value)} {Q : Flow → Shared → Prop}
    (hsw : swapsWith (.ListComp elt [⟨target, iter, ifs, 0⟩] scope pos) (some (.Name y py)) spos.line env = pure true)
    (hclos : closureFor scope env = pure cl) (hcell : ∀ y ∈ scope.names, y.2 ≠ .cell) (hkind : scope.kind = .function)
    (hnames : ∀ y ∈ scope.names, y.2 = .local → scope.names.lookup y.1 = some .local)
    (hy : env.kindOf y = some .local) (hp : (env.scope.kind == .class || (env.scope.kind == .module && env.locals != env.globals)) = false)
    (h : wpAny (model prog w) A (eval iter env) (fun xv s₁ => wpAny (model prog w) A (pyIter xv) (CompIn prog w A env scope cl target ifs elt k K s₀ (asg l r) (fun D ys N news _ =>
      ∀ s', Stt k K env.locals s₀ s' (asg ((y, .ref D) :: l) r) ((D, lstObj ys N) :: news) → Q .next s')) E s₁) E s)
    (hs : ∀ x, foldedSetIterable iter env x = pure x := by intro _; rfl) :
    wpAny (model prog w) A (exec (.Assign [.Name y py] (.ListComp elt [⟨target, iter, ifs, 0⟩] scope pos) spos) env) Q E s := by
  rw [exec_Assign_Name_used _ _ _ _ hsw]
  refine wpAny_bind (wpAny_standAt (wpAny_bind ?_))
  show wpAny _ A (do let _ ← comprehension (.ListComp elt [⟨target, iter, ifs, 0⟩] scope pos) scope env _ (newList []) false (eval iter env) (some (assign (.Name y py) env))) _ _ s
  refine wpAny_bind (wpAny_mono (wpAny_comprehension_free (use := some (assign (.Name y py) env)) (Q := fun _ s' => Q .next s') rfl hs hclos hkind hnames
    (wpAny_mono h (fun xv s₁ h₁ => wpAny_mono h₁ (fun it s₂ h₂ => ?_) fun _ _ e => e) fun _ _ e => e)) (fun _ s' hq => wpAny_pure (wpAny_pure hq)) fun _ _ e => e)
  obtain ⟨I, fp, wr, n, Pv, St, news, R, rfl, W, hsz, H, hst, hfp, hK, hLw, hnw, h0, turn, fin⟩ := h₂
  refine comp_block (RR := fun acc C => compPost (model prog w) A E (some (assign (.Name y py) env)) (fun _ s' => Q .next s') acc C) W hsz H hst hfp hK hLw hnw hcell hkind R h0 turn ?_
  intro D C s' m' ys N H' hn hCL hCD hKC hnC hR
  show wpAny _ A (assign (.Name y py) env (.ref D)) _ _ _
  refine wpAny_assign_Name (wpAny_storeName_local hy H'.ns (fun h₂ hn₂ hs₂ => ?_) hp)
  have H'' := H'.set (t := s'.toks + 1) hn₂ hs₂
  rw [asg_upd] at H''
  refine ⟨m', hn.sameBut hs₂ hCL, fun h'' hs'' => fin D s' ys N H' hR _ (H''.but (wr := [C]) (t := s'.toks + 1) (fun b o hb e => hs''.extBut b o (by simpa using hb) e) (by simpa using hKC) (by simpa using Ne.symm hCL) ?_)⟩
  intro p hp
  rcases List.mem_cons.mp hp with rfl | hp
  · simpa using Ne.symm hCD
  · simpa using hnC p hp
end

-- names in any frame
section
variable {prog : Program} {w : World} {A : Around} {s s₀ : Shared} {E Q : Value → Shared → Prop} {k : Nms} {K : Addr → Obj → Prop} {L : Addr} {m r : Str → Option Value} {news : List (Addr × Obj)} {env : Env}
theorem q_loc {x : Str} {pos : Pos} {v : Value} (H : Stt k K L s₀ s m news) (hv : m x = some v) (h : Q v s) (hL : env.locals = L := by rfl)
    (hk : env.scope.kind = .function := by rfl) (hx : env.kindOf x = some .local := by rfl) (hd : (x == ("__debug__" : Str)) = false := by decide) :
    wpAny (model prog w) A (eval (.Name x pos) env) Q E s := wpAny_Name (wpAny_loadName_local hk hx (hL ▸ H.ns) hv h) hd
theorem q_glob {x : Str} {pos : Pos} {v : Value} (H : Stt k K L s₀ s m news) (hv : k.mg x = some v) (h : Q v s) (hg : env.globals = mainGlobals := by rfl)
    (hk : env.scope.kind = .function := by rfl) (hx : env.kindOf x = some .globalImplicit := by rfl) (hd : (x == ("__debug__" : Str)) = false := by decide) :
    wpAny (model prog w) A (eval (.Name x pos) env) Q E s := Name_function_global hk hx (loadGlobal_global (env := env) (hg ▸ H.here.g) hv h) hd
theorem q_bi {x : Str} {pos : Pos} {v : Value} (H : Stt k K L s₀ s m news) (hx0 : x ∈ (["len", "enumerate", "zip", "chr", "range", "sum"] : List Str)) (hv : bootBuiltins x = some v) (h : Q v s)
    (hg : env.globals = mainGlobals := by rfl) (hb : env.builtins = builtinsNs := by rfl)
    (hk : env.scope.kind = .function := by rfl) (hx : env.kindOf x = some .globalImplicit := by rfl) (hd : (x == ("__debug__" : Str)) = false := by decide) :
    wpAny (model prog w) A (eval (.Name x pos) env) Q E s := by
  have B := H.here
  refine Name_function_global hk hx (loadGlobal_builtin (env := env) (hg ▸ B.g) (B.free x hx0) (hb ▸ B.b) ((B.bi x ?_).trans hv) h) hd
  intro e; subst e; revert hx0; decide
theorem q_st {Q : Unit → Shared → Prop} {x : Str} {v : Value} {l : List (Str × Value)} (H : Stt k K L s₀ s (asg l r) news)
    (h : ∀ s', Stt k K L s₀ s' (asg ((x, v) :: l) r) news → Q () s') (hL : env.locals = L := by rfl)
    (hk : env.scope.kind = .function := by rfl) (hx : env.kindOf x = some .local := by rfl) :
    wpAny (model prog w) A (storeName env x v) Q E s := by
  subst hL
  exact wpAny_storeName_local hx H.ns (fun h' hn hs => h _ (H.set (by rw [← asg_upd]; exact hn) hs)) (by rw [hk]; rfl)

abbrev cellO (v : Option Value) : Obj := { cls := .type "cell", data := .cell v }
/-- a cell's value -/
theorem q_cell {x : Str} {pos : Pos} {v : Value} {c : Addr} (hc : env.cells.lookup x = some c) (hv : s.heap.IsCell c (some v)) (h : Q v s)
    (hk : env.scope.kind = .function := by rfl) (hx : env.kindOf x = some .cell := by rfl) (hd : (x == ("__debug__" : Str)) = false := by decide) :
    wpAny (model prog w) A (eval (.Name x pos) env) Q E s := wpAny_Name (wpAny_loadName_cell hk hx hc hv h) hd
theorem q_cellN {x : Str} {pos : Pos} {v : Value} {c : Addr} (H : Stt k K L s₀ s m news) (hc : env.cells.lookup x = some c) (hm : (c, cellO (some v)) ∈ news) (h : Q v s)
    (hk : env.scope.kind = .function := by rfl) (hx : env.kindOf x = some .cell := by rfl) (hd : (x == ("__debug__" : Str)) = false := by decide) :
    wpAny (model prog w) A (eval (.Name x pos) env) Q E s := q_cell hc ⟨_, H.new _ hm, rfl⟩ h hk hx hd
theorem q_stC {Q : Unit → Shared → Prop} {x : Str} {v : Value} {c : Addr} {v₀ : Option Value} {l r : List (Addr × Obj)} (H : Stt k K L s₀ s m (l ++ (c, cellO v₀) :: r)) (hc : env.cells.lookup x = some c)
    (h : ∀ s', Stt k K L s₀ s' m (l ++ (c, cellO (some v)) :: r) → Q () s')
    (hk : env.scope.kind = .function := by rfl) (hx : env.kindOf x = some .cell := by rfl) :
    wpAny (model prog w) A (storeName env x v) Q E s := by
  have ho := H.new (c, cellO v₀) (List.mem_append_right _ (.head _))
  unfold storeName
  simp only [hx, hk]
  refine wpAny_bind (wpAny_cellOf hc ?_)
  unfold cellSet
  refine wpAny_bind (wpAny_load ho ?_)
  exact wpAny_update ho (h _ (H.put (t := s.toks) (Heap.SameBut.update ..) (Heap.get?_update_self _ ho rfl)))
end
end Mine
end

section
open PySem PySem.W PyProof.Rows PySem.Calls
set_option linter.unusedVariables false
set_option maxRecDepth 100000
namespace Mine

section
variable {prog : Program} {w : World} {A : Around} {k : Nms} {K : Addr → Obj → Prop} {L : Addr} {s₀ s s₂ : Shared} {m r : Str → Option Value} {news : List (Addr × Obj)} {env : Env} {E Q : Value → Shared → Prop}

/-- an iterator of the frame's own -/
structure Itr (prog : Program) (w : World) (A : Around) (k : Nms) (K : Addr → Obj → Prop) (L : Addr) (s₀ s : Shared) (m : Str → Option Value) (news : List (Addr × Obj)) (I : Addr) (fp wr : List Addr) (n : Nat) (P : Nat → Value → Prop) (St : Nat → Heap → Prop) : Prop where
  H : Stt k K L s₀ s m news
  W : Walks prog w A I fp wr n P St
  st : St 0 s.heap
  hL : L ∉ fp
  hn : ∀ a ∈ news.map (·.1), a ∉ fp
  hK : ∀ b ∈ wr, ∀ o, ¬ K b o
  lt : ∀ b ∈ fp, b < s.heap.objs.size

theorem itr_of {o : Obj} {ax : Addr} {ob : Obj} {n : Nat} {P : Nat → Value → Prop} {St : Nat → Heap → Prop} (H : Stt k K L s₀ s m news) (hK : K ax ob) (ho : o.isFreed = false)
    (W : Walks prog w A s.heap.objs.size [s.heap.objs.size, ax] [s.heap.objs.size] n P St) (st : St 0 (s.heap.push o)) :
    Itr prog w A k K L s₀ { s with heap := s.heap.push o } m news s.heap.objs.size [s.heap.objs.size, ax] [s.heap.objs.size] n P St where
  H := H.grows (Grows.push _ _)
  W := W
  st := st
  hL := by
    intro h
    rcases List.mem_cons.mp h with h | h
    · exact absurd H.ns.lt (h ▸ Nat.lt_irrefl _)
    · rw [List.mem_singleton.mp h] at H; exact H.offL _ hK
  hn := by
    intro a ha h
    obtain ⟨p, hp, rfl⟩ := List.mem_map.mp ha
    rcases List.mem_cons.mp h with h | h
    · exact absurd (Heap.lt_size (H.new p hp)) (h ▸ Nat.lt_irrefl _)
    · exact (H.off p hp).2 _ (List.mem_singleton.mp h ▸ hK)
  hK := by
    intro b hb o' q
    rw [List.mem_singleton.mp hb] at q
    exact absurd (Heap.lt_size (H.keep _ _ q)) (Nat.lt_irrefl _)
  lt := by
    intro b hb
    show b < (s.heap.push _).objs.size
    rw [Heap.size_push]
    rcases List.mem_cons.mp hb with rfl | hb
    · exact Nat.lt_succ_self _
    · rw [List.mem_singleton.mp hb]; exact Nat.lt_succ_of_lt (Heap.lt_size (H.keep _ _ hK))

theorem it_list {ax : Addr} {vs : List Value} {N : Nat} (hh : A.handled = none) (H : Stt k K L s₀ s m news) (hK : K ax (lstObj vs N))
    (h : ∀ I s' St, Itr prog w A k K L s₀ s' m news I [I, ax] [I] vs.length (fun i v => vs[i]? = some v) St → Q (.ref I) s') : wpAny (model prog w) A (pyIter (.ref ax)) Q E s := by
  have hl := lst_is (H.keep _ _ hK)
  refine wpAny_pyIter_list hl (h _ _ (fun i h => h.IsListIter s.heap.objs.size ax i ∧ h.IsList ax vs.toArray) (itr_of H hK rfl ?_ ⟨⟨_, Heap.get?_push_size _ rfl, rfl, rfl⟩, hl.push _⟩))
  have W := Walks.list (prog := prog) (w := w) hh s.heap.objs.size ax (Nat.ne_of_lt (Heap.lt_size (H.keep _ _ hK))) vs.toArray
  simpa using W
theorem it_tuple {ax : Addr} {vs : List Value} (hh : A.handled = none) (H : Stt k K L s₀ s m news) (hK : K ax (tupObj vs))
    (h : ∀ I s' St, Itr prog w A k K L s₀ s' m news I [I, ax] [I] vs.length (fun i v => vs[i]? = some v) St → Q (.ref I) s') : wpAny (model prog w) A (pyIter (.ref ax)) Q E s := by
  have hl : s.heap.IsTuple ax vs.toArray := ⟨_, H.keep _ _ hK, rfl, _, rfl⟩
  refine wpAny_pyIter_tuple hl (h _ _ (fun i h => h.IsTupleIter s.heap.objs.size ax i ∧ h.IsTuple ax vs.toArray) (itr_of H hK rfl ?_ ⟨⟨_, Heap.get?_push_size _ rfl, rfl, rfl⟩, hl.push _⟩))
  have W := Walks.tuple (prog := prog) (w := w) hh s.heap.objs.size ax (Nat.ne_of_lt (Heap.lt_size (H.keep _ _ hK))) vs.toArray
  simpa using W
theorem it_range {ax : Addr} {a b : Int} {t u v : Tok} {n : Nat} (hh : A.handled = none) (H : Stt k K L s₀ s m ((ax, ({ cls := .type "range", data := .fields #[.int a t, .int b u, .int 1 v] } : Obj)) :: news)) (hsm : Builtin.Range.small a b 1 = true) (hn : Builtin.Range.rangeSize a b 1 = ((n : Nat) : Int))
    (h : ∀ I s' St, Itr prog w A k K L s₀ s' m news I [I] [I] n (fun i v => ∃ t, v = .int (a + i * 1) t) St → Q (.ref I) s') : wpAny (model prog w) A (pyIter (.ref ax)) Q E s := by
  have hr : IsRange s.heap ax a b 1 t u v := H.new _ (.head _)
  refine wpAny_pyIter_range hr hsm (h _ _ (fun i h => IsRangeIter h s.heap.objs.size (a + (i : Nat) * 1) ((n : Int) - (i : Nat)) 1) ?_)
  have H' := H.drop (List.sublist_cons_self _ _)
  have st := Heap.get?_push_size s.heap (o := { cls := .type "range_iterator", data := .fields #[rawInt a, rawInt (Builtin.Range.rangeSize a b 1), rawInt 1] }) rfl
  exact { H := H'.grows (Grows.push _ _)
          W := Walks.range hh s.heap.objs.size a 1 n
          st := by show IsRangeIter _ _ _ _ _; rw [hn] at st ⊢; simpa [IsRangeIter, rawInt] using st
          hL := fun h => absurd H'.ns.lt ((List.mem_singleton.mp h) ▸ Nat.lt_irrefl _)
          hn := fun a ha h => by
            obtain ⟨p, hp, rfl⟩ := List.mem_map.mp ha
            exact absurd (Heap.lt_size (H'.new p hp)) ((List.mem_singleton.mp h) ▸ Nat.lt_irrefl _)
          hK := fun b hb o q => by
            rw [List.mem_singleton.mp hb] at q
            exact absurd (Heap.lt_size (H'.keep _ _ q)) (Nat.lt_irrefl _)
          lt := fun b hb => by
            rw [List.mem_singleton.mp hb]
            show _ < (s.heap.push _).objs.size
            rw [Heap.size_push]; exact Nat.lt_succ_self _ }

theorem for_I {R : Result → Shared → Prop} {body : List Stmt} {I : Addr} {fp wr : List Addr} {n : Nat} {P : Nat → Value → Prop} {St : Nat → Heap → Prop} {x : Str} {px : Pos} (X : Itr prog w A k K L s₀ s m news I fp wr n P St)
    (J : Nat → (Str → Option Value) → List (Addr × Obj) → Prop) (JB : (Str → Option Value) → List (Addr × Obj) → Prop) (h0 : J 0 m news)
    (step : ∀ i v m₁ news₁ s₁ K₁, i < n → P i v → J i m₁ news₁ → Stt k K₁ L s₁ s₁ m₁ news₁ → (∀ b o, K b o → K₁ b o) → news₁.map (·.1) = news.map (·.1) →
      wpAny (model prog w) A (storeName env x v) (fun _ s₂ => wpAny (model prog w) A (execs body env) (TurnEnd k K₁ L s₁ (news.map (·.1)) (J (i + 1)) JB) (fun _ _ => False) s₂) (fun _ _ => False) s₁)
    (done : ∀ s' m' news', Stt k K L s₀ s' m' news' → J n m' news' → news'.map (·.1) = news.map (·.1) → R (.ok .next) s')
    (broke : ∀ s' m' news', Stt k K L s₀ s' m' news' → JB m' news' → R (.ok .next) s') :
    codeAny (model prog w) A (.forLoop (.Name x px) (.ref I) body [] env) R s := for_W X.W X.H X.st X.hL X.hn X.hK J JB h0 step done broke

theorem CompIn.of {scope : Scope} {cl : List (Str × Addr)} {x : Str} {px : Pos} {ifs : List Expr} {elt : Expr} {Fin : Addr → List Value → Nat → List (Addr × Obj) → Shared → Prop} {I : Addr} {fp wr : List Addr} {n : Nat} {P : Nat → Value → Prop} {St : Nat → Heap → Prop}
    (X : Itr prog w A k K env.locals s₀ s₂ m news I fp wr n P St) (hn : n ≤ 1000) (R : Nat → List Value → Prop) (h0 : R 0 [])
    (turn : CompTurn prog w A k (.Name x px) ifs elt wr n (fun i _ v => P i v) R (fun C => compEnvC scope cl C env) s₂)
    (fin : ∀ D s' ys N, Stt k K env.locals s₀ s' m ((D, lstObj ys N) :: news) → R n ys → Fin D ys N news s') :
    CompIn prog w A env scope cl (.Name x px) ifs elt k K s₀ m Fin (.ref I) s₂ :=
  ⟨I, fp, wr, n, _, St, news, R, rfl, Src.ofWalks X.W, hn, X.H, X.st, X.lt, X.hK, fun h => X.hL (X.W.sub _ h), fun p hp h => X.hn p.1 (List.mem_map.mpr ⟨p, hp, rfl⟩) (X.W.sub _ h), h0, turn, fin⟩

-- more lists
theorem r_slice_list {value slice : Expr} {l : Addr} {vs : List Value} {N : Nat} {vl vu vk : Value} {lo hi st : Option Int} {ops : List Value} (H : Stt k K L s₀ s m news) (hl : s.heap.get? l = some (lstObj vs N)) (pl : IsPart vl lo) (pu : IsPart vu hi) (pk : IsPart vk st) (h0 : st ≠ some 0) (hz : vs.length ≤ 1000)
    (h : ∀ s' D, Stt k K L s₀ s' m ((D, lstObj (slicePick vs.toArray lo hi st).toList 0) :: news) → Q (.ref D) s')
    (hs : subscripted slice false (.ref l) (.ref s.heap.objs.size) = operate ops (getItem (.ref l) (.ref s.heap.objs.size)) := by with_unfolding_all rfl)
    (ht : ∀ r, letTemporaryGo value (.ref l) r = pure () := by intro _; with_unfolding_all rfl) :
    wpAny (model prog w) A (subscriptTail value slice (.ref l) (.ref s.heap.objs.size)) Q E { s with heap := s.heap.push { cls := .type "slice", data := .fields #[vl, vu, vk] } } := by
  have hl' := lst_is hl
  refine subscriptTail_ops (Heap.IsList.typeIs (s := { s with heap := s.heap.push { cls := .type "slice", data := .fields #[vl, vu, vk] } }) (hl'.push _)) list_getitem_lookup
    (wpAny_getItem_list_slice (hl'.push _) (Heap.IsSliceOf.new ..) pl pu pk h0 ?_ (by rw [sizeLine_eq]; simp; omega)) hs ht
  exact h _ _ ((H.grows (Grows.push _ _)).alloc rfl)

theorem r_add_list {l b : Addr} {vs ws : List Value} {N N2 : Nat} (H : Stt k K L s₀ s m news) (hl : s.heap.get? l = some (lstObj vs N)) (hb : s.heap.get? b = some (lstObj ws N2)) (hz : vs.length + ws.length ≤ 1000)
    (h : ∀ s' D, Stt k K L s₀ s' m ((D, lstObj (vs ++ ws) 0) :: news) → Q (.ref D) s') :
    wpAny (model prog w) A (binaryOp .Add (.ref l) (.ref b)) Q E s := by
  have e : vs.toArray ++ ws.toArray = (vs ++ ws).toArray := by simp
  refine concat_meets ⟨_, hl, rfl⟩ ⟨_, hb, rfl⟩ noFill_list_add seq_list_add PySem.F.slot_list_add PySem.F.entry_list_add (PySem.F.args_list_add_2 _ _) (list_addW l b vs.toArray ws.toArray N N2 none none #[] #[] (by rw [sizeLine_eq]; simp; omega)) ⟨hl, hb, ?_⟩
  rw [e]
  exact h _ _ (H.alloc rfl)

theorem iVals_items (l : List (Int × Tok)) : (iVals l).toArray = intItems l.toArray := by simp [iVals, intItems]
theorem r_sum {l : Addr} {cs : List (Int × Tok)} {N : Nat} (hh : A.handled = none) (H : Stt k K L s₀ s m news) (hl : s.heap.get? l = some (lstObj (iVals cs) N))
    (h : ∀ s' t', Stt k K L s₀ s' m news → Q (.int (cs.map (·.1)).sum t') s') : wpAny (model prog w) A (call (.builtin "sum") [.ref l]) Q E s := by
  refine sum_intListG (xs := cs.toArray) hh (iVals_items cs ▸ lst_is hl) fun h' tk t' hk => ?_
  have := h { s with heap := h', toks := tk } t' (H.grows (Grows.of hk))
  rw [preSum_eq, List.take_of_length_le (by simp)]
  exact this

theorem r_pow_int {a n : Int} {t u : Tok} (H : Stt k K L s₀ s m news) (hn : 0 ≤ n) (hn2 : n ≤ 1000000) (ha : a.natAbs < 2 ^ 64) (h : ∀ s' t', Stt k K L s₀ s' m news → Q (.int (a ^ n.toNat) t') s') :
    wpAny (model prog w) A (binaryOp .Pow (.int a t) (.int n u)) Q E s := pow_int_small hn hn2 ha (h _ _ (H.grows (Grows.toks _ _)))

abbrev rngObj (a b : Int) (t u v : Tok) : Obj := { cls := .type "range", data := .fields #[.int a t, .int b u, .int 1 v] }
theorem r_range1 {n : Int} {t : Tok} (H : Stt k K L s₀ s m news) (h : ∀ s' D t u v, Stt k K L s₀ s' m ((D, rngObj 0 n t u v) :: news) → Q (.ref D) s') : wpAny (model prog w) A (call (.type "range") [.int n t]) Q E s :=
  call_range_1 (h _ _ _ _ _ ((H.alloc rfl).grows (Grows.toks _ _)))
theorem r_range2 {a b : Int} {t u : Tok} (H : Stt k K L s₀ s m news) (h : ∀ s' D t u v, Stt k K L s₀ s' m ((D, rngObj a b t u v) :: news) → Q (.ref D) s') : wpAny (model prog w) A (call (.type "range") [.int a t, .int b u]) Q E s :=
  call_range_2 (h _ _ _ _ _ ((H.alloc rfl).grows (Grows.toks _ _)))
end

-- enumerate of a tuple
section
variable {prog : Program} {w : World} {A : Around} {E : Value → Shared → Prop} {s : Shared}
theorem nextOf_tuple_item {it t : Addr} {i : Nat} {items} {x : Value} {Q : Value → Shared → Prop} (hit : s.heap.IsTupleIter it t i)
    (ht : s.heap.IsTuple t items) (hx : items[i]? = some x)
    (hQ : ∀ h', h'.IsTupleIter it t (i + 1) → Heap.SameBut it s.heap h' → Q x { s with heap := h' }) :
    wpAny (model prog w) A (Builtin.SmallTypes.nextOf (.ref it)) Q E s := by
  obtain ⟨o, ho, hc, hd⟩ := id hit
  obtain ⟨ol, hol, _, nl, hdl⟩ := ht
  unfold Builtin.SmallTypes.nextOf
  refine wpAny_bind (wpAny_callSpecial?_slot (name := PySem.Str.ofString "__next__") hit.typeIs PySem.F.slot_tuple_iterator_next
    (wpAny_call_entry PySem.F.slot_tuple_iterator_next hit.typeIs PySem.F.entry_tuple_iterator_next ?_ (PySem.F.args_tuple_iterator_next_1 _)))
  show wpAny _ _ (field (.ref it) 0 >>= _) _ _ s
  refine wpAny_bind (wpAny_field ho hd (x := .ref t) rfl ?_)
  show wpAny _ _ (if (Value.ref t == Value.none) = true then _ else _) _ _ s
  rw [if_neg (show ¬ ((Value.ref t == Value.none) = true) from Bool.false_ne_true)]
  show wpAny _ _ (field (.ref it) 1 >>= _) _ _ s
  refine wpAny_bind (wpAny_field ho hd (x := .int i 0) rfl ?_)
  show wpAny _ _ (seqItems? (.ref t) >>= _) _ _ s
  refine wpAny_bind (wpAny_seqItems hol hdl ?_)
  simp only [Int.toNat_natCast, hx]
  refine wpAny_bind (wpAny_setField ho hd (by simp) (wpAny_pure ⟨x, rfl, wpAny_pure (hQ _ ?_ (Heap.SameBut.update ..))⟩))
  exact ⟨_, Heap.get?_update_self _ ho (Obj.isFreed_of_fields (Obj.data_mapFields hd _)), (Obj.cls_mapFields ..).trans hc, by
    rw [Obj.data_mapFields hd]; simp [rawInt]⟩
theorem nextOf_tuple_end {it t : Addr} {i : Nat} {items} {Q : Value → Shared → Prop} (hh : A.handled = none) (hit : s.heap.IsTupleIter it t i)
    (ht : s.heap.IsTuple t items) (hx : items[i]? = none)
    (hE : ∀ h' e, Heap.ExtBut it s.heap h' → (∃ o, h'.get? e = some o ∧ o.cls = .type "StopIteration") → E (.ref e) { s with heap := h' }) :
    wpAny (model prog w) A (Builtin.SmallTypes.nextOf (.ref it)) Q E s := by
  obtain ⟨o, ho, hc, hd⟩ := id hit
  obtain ⟨ol, hol, _, nl, hdl⟩ := ht
  unfold Builtin.SmallTypes.nextOf
  refine wpAny_bind (wpAny_callSpecial?_slot (name := PySem.Str.ofString "__next__") hit.typeIs PySem.F.slot_tuple_iterator_next
    (wpAny_call_entry PySem.F.slot_tuple_iterator_next hit.typeIs PySem.F.entry_tuple_iterator_next ?_ (PySem.F.args_tuple_iterator_next_1 _)))
  show wpAny _ _ (field (.ref it) 0 >>= _) _ _ s
  refine wpAny_bind (wpAny_field ho hd (x := .ref t) rfl ?_)
  show wpAny _ _ (if (Value.ref t == Value.none) = true then _ else _) _ _ s
  rw [if_neg (show ¬ ((Value.ref t == Value.none) = true) from Bool.false_ne_true)]
  show wpAny _ _ (field (.ref it) 1 >>= _) _ _ s
  refine wpAny_bind (wpAny_field ho hd (x := .int i 0) rfl ?_)
  show wpAny _ _ (seqItems? (.ref t) >>= _) _ _ s
  refine wpAny_bind (wpAny_seqItems hol hdl ?_)
  simp only [Int.toNat_natCast, hx]
  refine wpAny_bind (wpAny_rule (wpAny_bind (wpAny_setField ho hd (by simp) ?_)))
  show wpAny _ _ (newExc (.type "StopIteration") [] >>= _) _ _ _
  refine wpAny_bind ?_
  simp only [newExc, newTuple]
  refine wpAny_bind (wpAny_newObj_type ?_ (by size_fits))
  refine wpAny_bind (m := firstArgMember _ _) (wpAny_of_eq (a := Value.none) (by first | rfl | (simp only [firstArgMember]; rfl)) ?_)
  refine wpAny_newObj_type ?_ (by size_fits)
  simp only [raiseNew]
  refine wpAny_bind (wpAny_handled ?_)
  first | rw [show A.in1.handled = none from hh] | rw [hh]
  refine wpAny_bind (wpAny_pure (wpAny_throw ?_))
  exact hE _ _ (((Heap.SameBut.update ..).extBut.push _).push _) ⟨_, Heap.get?_push_size _ rfl, rfl⟩

theorem draws_tuple (hh : A.handled = none) (it l : Addr) (hne : l ≠ it) (items : Array Value) :
    Draws prog w A it [it, l] items.size (fun i v => items[i]? = some v) (fun i h => h.IsTupleIter it l i ∧ h.IsTuple l items) where
  live := fun _ _ st => let ⟨o, ho, _⟩ := st.1; ⟨o, ho⟩
  frame := fun _ _ _ st hk => ⟨st.1.at fun o e => hk it (by simp) o e, st.2.at fun o e => hk l (by simp) o e⟩
  item := fun i s Q E hi st hQ => by
    refine nextOf_tuple_item st.1 st.2 (x := items[i]) (by simp [hi]) fun h' hit' hs' => ?_
    exact hQ _ h' s.toks (by simp [hi]) ⟨hit', st.2.extBut hs'.extBut hne⟩ hs'
  done := fun s Q E st hE => nextOf_tuple_end hh st.1 st.2 (by simp) hE

theorem meets_enumerate_newT (l : Addr) (items : Array Value) (n : Nat) (dct : Option Addr) (sl : Array (Option Value)) :
    Meets (Builtin.«enumerate.__new__» ⟨[.type "enumerate", .ref l], []⟩) (fun _ R s => s.heap.get? l = some { cls := .type "tuple", dict := dct, data := .seq items n, slots := sl } ∧
      R (.ok (.ret (.ref (s.heap.push { cls := .type "tuple_iterator", data := .fields #[.ref l, .int 0 0] }).objs.size)))
        { s with heap := (s.heap.push { cls := .type "tuple_iterator", data := .fields #[.ref l, .int 0 0] }).push { cls := .type "enumerate", data := .fields #[.none, .bool false, .ref s.heap.objs.size, rawInt 0, .none, .none] } }) :=
  .of_wp fun prog w A R s h => by
    obtain ⟨hp, g, d, tk, os⟩ := s; obtain ⟨hl, h⟩ := h
    have hsub := sub_enumerate
    have hL : Heap.IsTuple (Shared.heap ⟨hp, g, d, tk, os⟩) l items := ⟨_, hl, rfl, n, rfl⟩
    wp_walk using AutoSeq1.wpAny_loadPart' hl
    refine wpAny_stack_any fun st => wpAny_pure ?_
    split
    · rename_i c _ _ _ _ _
      cases (c == Value.type "enumerate")
      · wp_walk using AutoSeq1.wpAny_loadPart' hl, wpAny_pyIter_tuple hL
        exact ⟨_, rfl, h⟩
      · wp_walk using AutoSeq1.wpAny_loadPart' hl, wpAny_pyIter_tuple hL
        exact ⟨_, rfl, h⟩
    · wp_walk using AutoSeq1.wpAny_loadPart' hl, wpAny_pyIter_tuple hL
      exact ⟨_, rfl, h⟩

theorem call_enumerate_tuple {l : Addr} {items : Array Value} {n : Nat} {Q : Value → Shared → Prop} (hl : s.heap.get? l = some { cls := .type "tuple", data := .seq items n })
    (h : ∀ h', IsEnum h' (s.heap.objs.size + 1) s.heap.objs.size 0 .none → h'.IsTupleIter s.heap.objs.size l 0 → h'.objs.size = s.heap.objs.size + 2 →
      (∀ b o, s.heap.get? b = some o → h'.get? b = some o) → Q (.ref (s.heap.objs.size + 1)) { s with heap := h' }) :
    wpAny (model prog w) A (call (.type "enumerate") [.ref l]) Q E s := by
  refine callType_new PySem.F.called_enumerate (by decide) (PySem.F.typeCall_enumerate_1 _) (PySem.F.newCall_enumerate_1 _) (fun obj => PySem.F.args_object_init_2 obj _) PySem.F.entry_enumerate_new
    (meets_enumerate_newT l items n none #[]) ⟨hl, ?_⟩
  have hz : (s.heap.push { cls := .type "tuple_iterator", data := .fields #[.ref l, .int 0 0] }).objs.size = s.heap.objs.size + 1 := Heap.size_push ..
  show _ ∧ _
  rw [hz]
  have he : IsEnum ((s.heap.push { cls := .type "tuple_iterator", data := .fields #[.ref l, .int 0 0] }).push
      { cls := .type "enumerate", data := .fields #[.none, .bool false, .ref s.heap.objs.size, rawInt 0, .none, .none] }) (s.heap.objs.size + 1) s.heap.objs.size 0 .none := by
    have := Heap.get?_push_size (s.heap.push { cls := .type "tuple_iterator", data := .fields #[.ref l, .int 0 0] })
      (o := { cls := .type "enumerate", data := .fields #[.none, .bool false, .ref s.heap.objs.size, rawInt 0, .none, .none] }) rfl
    rw [hz] at this; exact this
  refine ⟨⟨_, he, rfl⟩, h _ he ⟨_, Heap.get?_push_of_some _ (Heap.get?_push_size _ rfl), rfl, rfl⟩ (by rw [Heap.size_push, hz]) fun b o x => Heap.get?_push_of_some _ (Heap.get?_push_of_some _ x)⟩
end
end Mine
end

section
open PySem PySem.W PyProof.Rows PySem.Calls
set_option linter.unusedVariables false
set_option maxRecDepth 100000
namespace Mine

abbrev cO (o : Obj) (v : Option Value) : Obj := { o with data := .cell v }
def names7 : List Str := ["script", "on", "off", "row", "rows", "turn", "moves"]
def cells7 (ca : Str → Addr) (ob : Str → Obj) (cm : Str → Option Value) : List (Addr × Obj) := names7.map fun x => (ca x, cO (ob x) (cm x))
abbrev cl7 (ca : Str → Addr) : List (Str × Addr) := [("moves", ca "moves"), ("turn", ca "turn"), ("rows", ca "rows"), ("row", ca "row"), ("off", ca "off"), ("on", ca "on"), ("script", ca "script")]
abbrev lawEnv (ca : Str → Addr) (L a : Addr) (cd : Value) : Env := envX "law" (scOf (stAt 14)) L a cd (cl7 ca)

theorem mem7 {ca : Str → Addr} {ob : Str → Obj} {cm : Str → Option Value} {x : Str} (h : x ∈ names7) : (ca x, cO (ob x) (cm x)) ∈ cells7 ca ob cm := List.mem_map.mpr ⟨x, h, rfl⟩

theorem split_at {x : Str} : ∀ {ns : List Str}, ns.Nodup → x ∈ ns → ∃ pre post, ns = pre ++ x :: post ∧ x ∉ pre ∧ x ∉ post
  | y :: r, hn, hm => by
    rw [List.nodup_cons] at hn
    by_cases h : x = y
    · subst h; exact ⟨[], r, rfl, by simp, hn.1⟩
    · have hm' : x ∈ r := by rcases List.mem_cons.mp hm with e | e; exact absurd e h; exact e
      obtain ⟨pre, post, e, h1, h2⟩ := split_at hn.2 hm'
      exact ⟨y :: pre, post, by rw [e]; rfl, by simp [h, h1], h2⟩
theorem nodup7 : names7.Nodup := by decide +kernel

theorem cells7_at {ca : Str → Addr} {ob : Str → Obj} {x : Str} (hx : x ∈ names7) (l : List (Str × Value)) (r : Str → Option Value) (v : Value) :
    ∃ pre post, cells7 ca ob (asg l r) = pre ++ (ca x, cO (ob x) (asg l r x)) :: post ∧ cells7 ca ob (asg ((x, v) :: l) r) = pre ++ (ca x, cO (ob x) (some v)) :: post := by
  obtain ⟨pre, post, e, h1, h2⟩ := split_at nodup7 hx
  refine ⟨pre.map fun x => (ca x, cO (ob x) (asg l r x)), post.map fun x => (ca x, cO (ob x) (asg l r x)), ?_, ?_⟩
  · unfold cells7; rw [e, List.map_append, List.map_cons]
  · unfold cells7
    rw [e, List.map_append, List.map_cons]
    have key : ∀ y, y ≠ x → asg ((x, v) :: l) r y = asg l r y := fun y h => by rw [← asg_upd]; simp [h]
    have kx : asg ((x, v) :: l) r x = some v := by rw [← asg_upd]; simp
    congr 1
    · exact List.map_congr_left fun y hy => by rw [key y (fun q => h1 (q ▸ hy))]
    · rw [kx]
      congr 1
      exact List.map_congr_left fun y hy => by rw [key y (fun q => h2 (q ▸ hy))]

def InCell (K : Addr → Obj → Prop) (c : Addr) (v : Value) : Prop := ∃ o, K c o ∧ o.data = .cell (some v)

section
variable {prog : Program} {w : World} {A : Around} {s s₀ : Shared} {E Q : Value → Shared → Prop} {k : Nms} {K K₁ : Addr → Obj → Prop} {L : Addr} {m r : Str → Option Value} {news : List (Addr × Obj)} {env : Env} {ca : Str → Addr} {ob : Str → Obj} {cm cr : Str → Option Value}

theorem q_cell7 {x : Str} {pos : Pos} {v : Value} (H : Stt k K L s₀ s m news) (hm : (ca x, cO (ob x) (cm x)) ∈ news) (hv : cm x = some v) (h : Q v s) (hc : env.cells.lookup x = some (ca x) := by rfl)
    (hk : env.scope.kind = .function := by rfl) (hx : env.kindOf x = some .cell := by rfl) (hd : (x == ("__debug__" : Str)) = false := by decide) :
    wpAny (model prog w) A (eval (.Name x pos) env) Q E s := q_cell hc ⟨_, H.new _ hm, congrArg _ hv⟩ h hk hx hd
theorem q_cellK {x : Str} {pos : Pos} {v : Value} {c : Addr} (H : Stt k K L s₀ s m news) (hc : env.cells.lookup x = some c) (hi : InCell K c v) (h : Q v s)
    (hk : env.scope.kind = .function := by rfl) (hx : env.kindOf x = some .cell := by rfl) (hd : (x == ("__debug__" : Str)) = false := by decide) :
    wpAny (model prog w) A (eval (.Name x pos) env) Q E s := q_cell hc (let ⟨o, h1, h2⟩ := hi; ⟨o, H.keep _ _ h1, h2⟩) h hk hx hd
theorem q_st7 {Q : Unit → Shared → Prop} {x : Str} {v : Value} (l : List (Addr × Obj)) {cl₀ : List (Str × Value)} (H : Stt k K L s₀ s m (l ++ cells7 ca ob (asg cl₀ cr))) (hx7 : x ∈ names7)
    (h : ∀ s', Stt k K L s₀ s' m (l ++ cells7 ca ob (asg ((x, v) :: cl₀) cr)) → Q () s') (hc : env.cells.lookup x = some (ca x) := by rfl)
    (hk : env.scope.kind = .function := by rfl) (hx : env.kindOf x = some .cell := by rfl) :
    wpAny (model prog w) A (storeName env x v) Q E s := by
  obtain ⟨pre, post, e1, e2⟩ := cells7_at (ca := ca) (ob := ob) hx7 cl₀ cr v
  rw [e1, ← List.append_assoc] at H
  have ho := H.new (ca x, cO (ob x) (asg cl₀ cr x)) (List.mem_append_right _ (.head _))
  unfold storeName
  simp only [hx, hk]
  refine wpAny_bind (wpAny_cellOf hc ?_)
  unfold cellSet
  refine wpAny_bind (wpAny_load ho ?_)
  refine wpAny_update ho (h _ ?_)
  rw [e2, ← List.append_assoc]
  have hu := Heap.get?_update_self (fun o : Obj => { o with data := .cell (some v) }) ho rfl
  exact H.put (t := s.toks) (Heap.SameBut.update ..) hu

theorem Itr.cell {I : Addr} {fp wr : List Addr} {n : Nat} {P : Nat → Value → Prop} {St : Nat → Heap → Prop} {c : Addr} {o : Obj} {v : Value} (X : Itr prog w A k K L s₀ s m news I fp wr n P St) (hm : (c, cO o (some v)) ∈ news)
    (hk : ∀ b o, b ∉ wr → s.heap.get? b = some o → K₁ b o) : InCell K₁ c v :=
  ⟨_, hk _ _ (fun h => X.hn c (List.mem_map.mpr ⟨_, hm, rfl⟩) (X.W.sub _ h)) (X.H.new _ hm), rfl⟩

theorem ltk (L : Nat) : L < L + 1 ∧ L < L + 1 + 1 ∧ L < L + 1 + 1 + 1 ∧ L < L + 1 + 1 + 1 + 1 ∧ L < L + 1 + 1 + 1 + 1 + 1 ∧ L < L + 1 + 1 + 1 + 1 + 1 + 1 ∧ L < L + 1 + 1 + 1 + 1 + 1 + 1 + 1 := by omega
theorem caL_eq (L : Addr) : ∃ ca : Str → Addr, cellsFrom (L + 1) (scOf (stAt 14)).names [] = cl7 ca ∧ (names7.map ca).Nodup ∧ ∀ x ∈ names7, L < ca x := by
  refine ⟨fun x => if x = "script" then L + 1 else if x = "on" then L + 1 + 1 else if x = "off" then L + 1 + 1 + 1 else if x = "row" then L + 1 + 1 + 1 + 1 else if x = "rows" then L + 1 + 1 + 1 + 1 + 1 else if x = "turn" then L + 1 + 1 + 1 + 1 + 1 + 1 else L + 1 + 1 + 1 + 1 + 1 + 1 + 1, rfl, ?_, ?_⟩
  · show ([L + 1, L + 1 + 1, L + 1 + 1 + 1, L + 1 + 1 + 1 + 1, L + 1 + 1 + 1 + 1 + 1, L + 1 + 1 + 1 + 1 + 1 + 1, L + 1 + 1 + 1 + 1 + 1 + 1 + 1] : List Nat).Nodup
    generalize (L : Nat) = L
    simp
  · intro x hx
    simp only [names7, List.mem_cons, List.not_mem_nil, or_false] at hx
    rcases hx with rfl | rfl | rfl | rfl | rfl | rfl | rfl
    · exact (ltk L).1
    · exact (ltk L).2.1
    · exact (ltk L).2.2.1
    · exact (ltk L).2.2.2.1
    · exact (ltk L).2.2.2.2.1
    · exact (ltk L).2.2.2.2.2.1
    · exact (ltk L).2.2.2.2.2.2

theorem CellsAre.seven {cm : Str → Option Value} {ca : Str → Addr} {cells : List (Addr × Obj)} (x : CellsAre cm (cl7 ca) cells) : ∃ ob : Str → Obj, ∀ p, p ∈ cells7 ca ob cm → p ∈ cells := by
  unfold cl7 at x
  cases x with | cons h1 x => cases x with | cons h2 x => cases x with | cons h3 x => cases x with | cons h4 x => cases x with | cons h5 x => cases x with | cons h6 x => cases x with | cons h7 x => cases x with | nil =>
  rename_i o1 o2 o3 o4 o5 o6 o7
  have eta : ∀ {o : Obj} {v : Option Value}, o.data = .cell v → cO o v = o := fun {o v} h => by cases o; subst h; rfl
  refine ⟨fun x => if x = "moves" then o1 else if x = "turn" then o2 else if x = "rows" then o3 else if x = "row" then o4 else if x = "off" then o5 else if x = "on" then o6 else o7, fun p hp => ?_⟩
  obtain ⟨y, hy, rfl⟩ := List.mem_map.mp hp
  simp only [names7, List.mem_cons, List.not_mem_nil, or_false] at hy
  rcases hy with rfl | rfl | rfl | rfl | rfl | rfl | rfl
  · show (ca _, cO o7 _) ∈ _; rw [eta h7]; simp
  · show (ca _, cO o6 _) ∈ _; rw [eta h6]; simp
  · show (ca _, cO o5 _) ∈ _; rw [eta h5]; simp
  · show (ca _, cO o4 _) ∈ _; rw [eta h4]; simp
  · show (ca _, cO o3 _) ∈ _; rw [eta h3]; simp
  · show (ca _, cO o2 _) ∈ _; rw [eta h2]; simp
  · show (ca _, cO o1 _) ∈ _; rw [eta h1]; simp

/-- the law is entered -/
theorem law_enter {a : Addr} {v : Value} (B : Bs k s.heap) (hf : FnAt k.mg s.heap 14 "law" a) (hroom : A.depth < recursionLimit)
    (h : ∀ cd L ca ob s₁, Stt k (fun b o => s.heap.get? b = some o) L s s₁ (asg [] fun _ => none) ([] ++ cells7 ca ob (asg [("script", v)] fun _ => none)) →
      wpAny (model prog w) (A.deeper (lawEnv ca L a cd)) (execs (boOf (stAt 14)) (lawEnv ca L a cd)) (fun f s' => Q (match f with | .ret v => v | _ => .none) s') (fun _ _ => False) s₁) :
    wpAny (model prog w) A (call (.ref a) [v]) Q E s := by
  obtain ⟨o, pm, cd, doc, e, d, c⟩ := hf.fn
  refine wpAny_call (call_cellsN_ret (binds := [("script", v)]) hroom e d B.nolimit c rfl (fun x hx => .inr ?_) (by decide +kernel) (fun h₁ tk cells F N Y => ?_))
  · rw [List.mem_singleton.mp hx]; exact ⟨rfl, rfl⟩
  · obtain ⟨ca, e1, e2, e3⟩ := caL_eq s.heap.objs.size
    rw [e1] at Y
    obtain ⟨ob, hob⟩ := CellsAre.seven Y
    have eenv : envOfC "law" (scOf (stAt 14)) s.heap.objs.size a cd = lawEnv ca s.heap.objs.size a cd := by unfold envOfC; rw [e1]
    rw [eenv] at F hob ⊢
    have ecm : bindC (lawEnv ca s.heap.objs.size a cd).kindOf [("script", v)] (fun _ => none) = asg [("script", v)] fun _ => none := by
      rw [← asg_upd, asg_nil]; rfl
    have elm : bindL (lawEnv ca s.heap.objs.size a cd).kindOf [("script", v)] (fun _ => none) = asg [] fun _ => none := rfl
    rw [ecm] at hob
    rw [elm] at F
    have N' : ∀ p ∈ cells7 ca ob (asg [("script", v)] fun _ => none), h₁.get? p.1 = some p.2 ∧ p.1 ≠ s.heap.objs.size ∧ s.heap.get? p.1 = none := fun p hp => N p (hob p hp)
    refine h cd _ ca ob _ ⟨⟨s.heap, B, fun _ _ e => e⟩, F.ns, F.keep, fun o e => Nat.lt_irrefl _ (Heap.lt_size e), fun p hp => (N' p hp).1, fun p hp => ⟨(N' p hp).2.1, fun o e => ?_⟩, ?_, rfl, rfl, fun _ _ => rfl, id⟩
    · have := (N' p hp).2.2
      rw [this] at e; cases e
    · show ((names7.map fun x => (ca x, cO (ob x) ((asg [("script", v)] fun _ => none) x))).map (·.1)).Nodup
      rw [List.map_map]; exact e2
end
end Mine
end

section
open PySem PySem.W PyProof.Rows PySem.Calls
set_option linter.unusedVariables false
namespace Mine
section
variable {prog : Program} {w : World} {A : Around} {s s₀ : Shared} {E : Value → Shared → Prop} {k : Nms} {K K₁ : Addr → Obj → Prop} {L T : Addr} {m r : Str → Option Value} {news : List (Addr × Obj)} {env : Env} {v0 v1 : Value} {l : List (Str × Value)}
theorem q_unpack2 {Q : Unit → Shared → Prop} {x0 x1 : Str} {p0 p1 pos : Pos} {kk : Nat} (hh : A.handled = none)
    (H : Stt k K L s₀ s (asg l r) news) (ht : s.heap.IsTuple T #[v0, v1])
    (h : ∀ s', Stt k K L s₀ s' (asg ((x1, v1) :: (x0, v0) :: l) r) news → Q () s')
    (hL : env.locals = L := by rfl) (hk : env.scope.kind = .function := by rfl) (hx0 : env.kindOf x0 = some .local := by rfl) (hx1 : env.kindOf x1 = some .local := by rfl) :
    wpAny (model prog w) A (assign (.Tuple [.Name x0 p0, .Name x1 p1] kk pos) env (.ref T)) Q (fun _ _ => False) s := by
  subst hL
  refine wpAny_assign_Tuple hh ht rfl rfl fun h₁ hx₁ => ?_
  have up : ∀ b o, s.heap.get? b = some o → h₁.get? b = some o := fun b o e => hx₁ b o (Nat.ne_of_lt (Heap.lt_size e)) e
  have H1 := H.grows (Grows.ofH up)
  show wpAny _ A (do holding [v1] (assign (.Name x0 p0) env v0); do holding [] (assign (.Name x1 p1) env v1); pure ()) _ _ _
  have hp : (env.scope.kind == .class || (env.scope.kind == .module && env.locals != env.globals)) = false := by rw [hk]; rfl
  refine wpAny_bind (wpAny_holding (wpAny_assign_Name (wpAny_storeName_local hx0 H1.ns (fun h₂ hn₂ hs₂ => ?_) hp)))
  have H2 := H1.set (t := s.toks + 1) hn₂ hs₂
  rw [asg_upd] at H2
  refine wpAny_bind (wpAny_holding (wpAny_assign_Name (wpAny_storeName_local hx1 H2.ns (fun h₃ hn₃ hs₃ => wpAny_pure ?_) hp)))
  have H3 := H2.set (t := s.toks + 1 + 1) hn₃ hs₃
  rw [asg_upd] at H3
  exact h _ H3

theorem r_slice_listI {Q : Value → Shared → Prop} {value slice : Expr} {l : Addr} {vs : List Value} {vl vu vk : Value} {lo hi st : Option Int} {ops : List Value} (H : Stt k K L s₀ s m news) (hl' : s.heap.IsList l vs.toArray) (pl : IsPart vl lo) (pu : IsPart vu hi) (pk : IsPart vk st) (h0 : st ≠ some 0) (hz : vs.length ≤ 1000)
    (h : ∀ s' D, Stt k K L s₀ s' m ((D, lstObj (slicePick vs.toArray lo hi st).toList 0) :: news) → Q (.ref D) s')
    (hs : subscripted slice false (.ref l) (.ref s.heap.objs.size) = operate ops (getItem (.ref l) (.ref s.heap.objs.size)) := by with_unfolding_all rfl)
    (ht : ∀ r, letTemporaryGo value (.ref l) r = pure () := by intro _; with_unfolding_all rfl) :
    wpAny (model prog w) A (subscriptTail value slice (.ref l) (.ref s.heap.objs.size)) Q E { s with heap := s.heap.push { cls := .type "slice", data := .fields #[vl, vu, vk] } } := by
  refine subscriptTail_ops (Heap.IsList.typeIs (s := { s with heap := s.heap.push { cls := .type "slice", data := .fields #[vl, vu, vk] } }) (hl'.push _)) list_getitem_lookup
    (wpAny_getItem_list_slice (hl'.push _) (Heap.IsSliceOf.new ..) pl pu pk h0 ?_ (by rw [sizeLine_eq]; simp; omega)) hs ht
  exact h _ _ ((H.grows (Grows.push _ _)).alloc rfl)
theorem iVals_pick (sc : List (Int × Tok)) (lo hi st : Option Int) : ∃ ps : List (Int × Tok), (slicePick (iVals sc).toArray lo hi st).toList = iVals ps := by
  refine ⟨(sliceRange (sliceBounds lo hi st (iVals sc).length).1 (sliceBounds lo hi st (iVals sc).length).2.1 (sliceBounds lo hi st (iVals sc).length).2.2).filterMap (sc[·]?), ?_⟩
  unfold slicePick
  simp only [List.size_toArray, List.getElem?_toArray]
  unfold iVals
  rw [List.map_filterMap]
  congr 1
  funext i
  simp
theorem tests0 {env : Env} {Q : Bool → Shared → Prop} (h : Q true s) : wpAny (model prog w) A (forIn ([] : List Expr) true fun c r => if r = true then do let ok ← PySem.isTrue c env (eval c env); pure (ForInStep.yield ok) else pure (ForInStep.yield r)) Q E s :=
  wpAny_tests_nil h

theorem CompTurn.mono {target elt : Expr} {ifs : List Expr} {wr : List Addr} {n : Nat} {Pv : Nat → Heap → Value → Prop} {R : Nat → List Value → Prop} {mk : Addr → Env} {s₂ : Shared}
    (T : CompTurn prog w A k target ifs elt [] n Pv R mk s) (hs : ∀ b o, s.heap.get? b = some o → b ∉ wr ∧ s₂.heap.get? b = some o) : CompTurn prog w A k target ifs elt wr n Pv R mk s₂ :=
  fun i v C D s₁ K₁ m₁ ys N hi hP hR H hk => T i v C D s₁ K₁ m₁ ys N hi hP hR H fun b o _ e => hk b o (hs b o e).1 (hs b o e).2

theorem size_not {b : Addr} {o : Obj} (e : s.heap.get? b = some o) : b ∉ [s.heap.objs.size] := fun h => absurd (Heap.lt_size e) (List.mem_singleton.mp h ▸ Nat.lt_irrefl _)

theorem comp_list {scope : Scope} {cl : List (Str × Addr)} {x : Str} {px : Pos} {ifs : List Expr} {elt : Expr} {Fin : Addr → List Value → Nat → List (Addr × Obj) → Shared → Prop} {ax : Addr} {vs : List Value} {NN : Nat} (hh : A.handled = none)
    (H : Stt k K env.locals s₀ s m news) (hl : s.heap.get? ax = some (lstObj vs NN)) (hz : vs.length ≤ 1000) (R : Nat → List Value → Prop) (h0 : R 0 [])
    (turn : CompTurn prog w A k (.Name x px) ifs elt [] vs.length (fun i _ v => vs[i]? = some v) R (fun C => compEnvC scope cl C env) s)
    (fin : ∀ D s' ys N, Stt k K env.locals s₀ s' m ((D, lstObj ys N) :: news) → R vs.length ys → Fin D ys N news s') :
    wpAny (model prog w) A (pyIter (.ref ax)) (CompIn prog w A env scope cl (.Name x px) ifs elt k K s₀ m Fin) E s := by
  have hl' := lst_is hl
  have lt := Heap.lt_size hl
  refine wpAny_pyIter_list hl' ⟨s.heap.objs.size, [s.heap.objs.size, ax], [s.heap.objs.size], vs.length, _, fun i h => h.IsListIter s.heap.objs.size ax i ∧ h.IsList ax vs.toArray, news, R, rfl, Src.ofWalks (P := fun i v => vs[i]? = some v) (n := vs.length) ?_, hz, H.grows (Grows.push _ _), ⟨⟨_, Heap.get?_push_size _ rfl, rfl, rfl⟩, hl'.push _⟩, ?_, ?_, ?_, ?_, h0, ?_, fin⟩
  · have W := Walks.list (prog := prog) (w := w) hh s.heap.objs.size ax (Nat.ne_of_lt lt) vs.toArray
    simpa using W
  · intro b hb
    show b < (s.heap.push _).objs.size
    rw [Heap.size_push]
    rcases List.mem_cons.mp hb with rfl | hb
    · exact Nat.lt_succ_self _
    · rw [List.mem_singleton.mp hb]; exact Nat.lt_succ_of_lt lt
  · intro b hb o q; exact size_not (H.keep _ _ q) hb
  · obtain ⟨o, _, _, e, _⟩ := H.ns; exact size_not e
  · intro p hp; exact size_not (H.new p hp)
  · exact turn.mono fun b o e => ⟨size_not e, Heap.get?_push_of_some _ e⟩
theorem comp_tuple {scope : Scope} {cl : List (Str × Addr)} {x : Str} {px : Pos} {ifs : List Expr} {elt : Expr} {Fin : Addr → List Value → Nat → List (Addr × Obj) → Shared → Prop} {ax : Addr} {vs : List Value} (hh : A.handled = none)
    (H : Stt k K env.locals s₀ s m news) (hl : s.heap.get? ax = some (tupObj vs)) (hz : vs.length ≤ 1000) (R : Nat → List Value → Prop) (h0 : R 0 [])
    (turn : CompTurn prog w A k (.Name x px) ifs elt [] vs.length (fun i _ v => vs[i]? = some v) R (fun C => compEnvC scope cl C env) s)
    (fin : ∀ D s' ys N, Stt k K env.locals s₀ s' m ((D, lstObj ys N) :: news) → R vs.length ys → Fin D ys N news s') :
    wpAny (model prog w) A (pyIter (.ref ax)) (CompIn prog w A env scope cl (.Name x px) ifs elt k K s₀ m Fin) E s := by
  have hl' : s.heap.IsTuple ax vs.toArray := ⟨_, hl, rfl, _, rfl⟩
  have lt := Heap.lt_size hl
  refine wpAny_pyIter_tuple hl' ⟨s.heap.objs.size, [s.heap.objs.size, ax], [s.heap.objs.size], vs.length, _, fun i h => h.IsTupleIter s.heap.objs.size ax i ∧ h.IsTuple ax vs.toArray, news, R, rfl, Src.ofWalks (P := fun i v => vs[i]? = some v) (n := vs.length) ?_, hz, H.grows (Grows.push _ _), ⟨⟨_, Heap.get?_push_size _ rfl, rfl, rfl⟩, hl'.push _⟩, ?_, ?_, ?_, ?_, h0, ?_, fin⟩
  · have W := Walks.tuple (prog := prog) (w := w) hh s.heap.objs.size ax (Nat.ne_of_lt lt) vs.toArray
    simpa using W
  · intro b hb
    show b < (s.heap.push _).objs.size
    rw [Heap.size_push]
    rcases List.mem_cons.mp hb with rfl | hb
    · exact Nat.lt_succ_self _
    · rw [List.mem_singleton.mp hb]; exact Nat.lt_succ_of_lt lt
  · intro b hb o q; exact size_not (H.keep _ _ q) hb
  · obtain ⟨o, _, _, e, _⟩ := H.ns; exact size_not e
  · intro p hp; exact size_not (H.new p hp)
  · exact turn.mono fun b o e => ⟨size_not e, Heap.get?_push_of_some _ e⟩
theorem comp_enumT {scope : Scope} {cl : List (Str × Addr)} {elts : List Expr} {kk : Nat} {tpos : Pos} {ifs : List Expr} {elt : Expr} {Fin : Addr → List Value → Nat → List (Addr × Obj) → Shared → Prop} {ax : Addr} {vs : List Value} (hh : A.handled = none)
    (H : Stt k K env.locals s₀ s m news) (hl : s.heap.get? ax = some (tupObj vs)) (hz : vs.length ≤ 1000) (R : Nat → List Value → Prop) (h0 : R 0 [])
    (turn : CompTurn prog w A k (.Tuple elts kk tpos) ifs elt [] vs.length (fun i h v => ∃ T t x, v = .ref T ∧ h.IsTuple T #[.int i t, x] ∧ vs[i]? = some x) R (fun C => compEnvC scope cl C env) s)
    (fin : ∀ D s' ys N, Stt k K env.locals s₀ s' m ((D, lstObj ys N) :: news) → R vs.length ys → Fin D ys N news s') :
    wpAny (model prog w) A (call (.type "enumerate") [.ref ax]) (fun xv s₁ => wpAny (model prog w) A (pyIter xv) (CompIn prog w A env scope cl (.Tuple elts kk tpos) ifs elt k K s₀ m Fin) E s₁) E s := by
  have hl' : s.heap.IsTuple ax vs.toArray := ⟨_, hl, rfl, _, rfl⟩
  have lt : @LT.lt Nat _ ax s.heap.objs.size := Heap.lt_size hl
  refine call_enumerate_tuple hl fun h' he hit hsz hk => ?_
  have nw : ∀ {b o}, s.heap.get? b = some o → b ∉ [s.heap.objs.size + 1, s.heap.objs.size] := fun {b o} e h => by
    have lt : @LT.lt Nat _ b s.heap.objs.size := Heap.lt_size e
    rcases List.mem_cons.mp h with rfl | h
    · exact absurd lt (by omega)
    · rw [List.mem_singleton.mp h] at lt; exact absurd lt (Nat.lt_irrefl _)
  refine wpAny_pyIter_enum he ⟨s.heap.objs.size + 1, [s.heap.objs.size + 1, s.heap.objs.size, ax], [s.heap.objs.size + 1, s.heap.objs.size], vs.length, _,
    _, news, R, rfl, Src.ofT (WalksT.enumerateD (n := vs.length) (P := fun i v => vs[i]? = some v) (St := fun i h => h.IsTupleIter s.heap.objs.size ax i ∧ h.IsTuple ax vs.toArray) (by
      have D := draws_tuple (prog := prog) (w := w) (A := A.in1) hh s.heap.objs.size ax (Nat.ne_of_lt lt) vs.toArray
      simpa using D) (s.heap.objs.size + 1) (ane (by omega)) ?_ (by simp)), hz, H.grows (Grows.ofH hk), ⟨⟨_, he⟩, hit, hl'.at fun o q => hk _ _ q⟩, ?_, ?_, ?_, ?_, h0, ?_, fin⟩
  · intro h
    rcases List.mem_cons.mp h with h | h
    · exact absurd h (ane (by omega))
    · exact absurd (List.mem_singleton.mp h) (ane (by omega))
  · intro b hb
    show @LT.lt Nat _ b h'.objs.size
    rw [hsz]
    rcases List.mem_cons.mp hb with rfl | hb
    · exact (by omega : s.heap.objs.size + 1 < s.heap.objs.size + 2)
    · rcases List.mem_cons.mp hb with rfl | hb
      · exact (by omega : s.heap.objs.size < s.heap.objs.size + 2)
      · rw [List.mem_singleton.mp hb]; exact Nat.lt_of_lt_of_le lt (by omega)
  · intro b hb o q; exact nw (H.keep _ _ q) hb
  · obtain ⟨o, _, _, e, _⟩ := H.ns; exact nw e
  · intro p hp; exact nw (H.new p hp)
  · intro i v C D s₁ K₁ m₁ ys N hi hP hR H1 hk1
    obtain ⟨T, vals, rfl, hT, t, y, hy, rfl⟩ := hP
    exact turn i _ C D s₁ K₁ m₁ ys N hi ⟨T, t, y, rfl, hT, hy⟩ hR H1 fun b o _ e => hk1 b o (nw e) (hk b o e)
end
end Mine
end

local macro_rules | `(tactic| walk_at "s") => `(tactic| first
  | ((with_reducible show wpAny _ _ (eval (Expr.Name _ _) _) _ _ _); (with_reducible rename Stt _ _ _ _ _ _ _ => H'); refine q_loc H' rfl ?_)
  | ((with_reducible show wpAny _ _ (eval (Expr.Name _ _) _) _ _ _); (with_reducible rename Stt _ _ _ _ _ _ _ => H'); refine q_cellK H' rfl (by with_reducible assumption) ?_)
  | ((with_reducible show wpAny _ _ (eval (Expr.Name _ _) _) _ _ _); (with_reducible rename Stt _ _ _ _ _ _ _ => H'); refine q_cell7 H' (mem7 (by decide)) rfl ?_)
  | ((with_reducible show wpAny _ _ (eval (Expr.Name _ _) _) _ _ _); (with_reducible rename Stt _ _ _ _ _ _ _ => H'); refine q_cell7 H' (List.mem_cons_of_mem _ (mem7 (by decide))) rfl ?_)
  | ((with_reducible show wpAny _ _ (eval (Expr.Name _ _) _) _ _ _); (with_reducible rename Stt _ _ _ _ _ _ _ => H'); refine q_cell7 H' (List.mem_cons_of_mem _ (List.mem_cons_of_mem _ (mem7 (by decide)))) rfl ?_)
  | ((with_reducible show wpAny _ _ (eval (Expr.Name _ _) _) _ _ _); (with_reducible rename Stt _ _ _ _ _ _ _ => H'); refine q_cell7 H' (List.mem_cons_of_mem _ (List.mem_cons_of_mem _ (List.mem_cons_of_mem _ (mem7 (by decide))))) rfl ?_)
  | ((with_reducible show wpAny _ _ (eval (Expr.Name _ _) _) _ _ _); (with_reducible rename Stt _ _ _ _ _ _ _ => H'); refine' q_bi H' ?a ?b ?_; (case b => boot_by_name); (case a => decide))
  | ((with_reducible show wpAny _ _ (storeName _ _ _) _ _ _); (with_reducible rename Stt _ _ _ _ _ _ _ => H'); refine q_st H' ?_; clear H'; intro _ _)
  | ((with_reducible show wpAny _ _ (assign (Expr.Name _ _) _ _) _ _ _); refine wpAny_assign_Name ?_)
  | ((with_reducible show wpAny _ _ (binaryOp Operator.Pow (Value.int _ _) (Value.int _ _)) _ _ _); (with_reducible rename Stt _ _ _ _ _ _ _ => H'); refine r_pow_int H' (by decide) (by decide) (by decide) ?_; clear H'; intro _ _ _)
  | ((with_reducible show wpAny _ _ (call (Value.type "range") [Value.int _ _]) _ _ _); (with_reducible rename Stt _ _ _ _ _ _ _ => H'); refine r_range1 H' ?_; clear H'; intro _ _ _ _ _ _)
  | ((with_reducible show wpAny _ _ (call (Value.type "range") [Value.int _ _, Value.int _ _]) _ _ _); (with_reducible rename Stt _ _ _ _ _ _ _ => H'); refine r_range2 H' ?_; clear H'; intro _ _ _ _ _ _)
  | ((with_reducible show wpAny _ _ (callWith _ (Value.type "range") [_, _] _ []) _ _ _); refine PyProof.Rows.callWith_type2 ?_))

section
open PySem PySem.W PyProof.Rows PySem.Calls
set_option linter.unusedVariables false
namespace Mine
def stm (j : Nat) : List Stmt := (boOf (stAt 14)).drop j
theorem iVals_snoc (l : List (Int × Tok)) (x : Int) (t : Tok) : iVals l ++ [.int x t] = iVals (l ++ [(x, t)]) := by simp [iVals]
section
variable {prog : Program} {w : World} {A : Around} {s s₀ : Shared} {Q : Flow → Shared → Prop} {k : Nms} {K : Addr → Obj → Prop} {L a ls : Addr} {m : Str → Option Value} {news : List (Addr × Obj)} {ca : Str → Addr} {ob : Str → Obj} {cr : Str → Option Value} {cd : Value}
set_option maxRecDepth 100000 in
set_option maxHeartbeats 4000000 in
theorem ph0 {sc : List (Int × Tok)} (O : Ok A 3 30) (H : Stt k K L s₀ s (asg [] m) ([] ++ cells7 ca ob (asg [("script", .ref ls)] cr))) (hs : ∃ o, K ls o ∧ o.cls = .type "list" ∧ ∃ n, o.data = .seq (iVals sc).toArray n) (hn : sc.length ≤ 100)
    (h : ∀ s' D cs N, cs.length = 4 → (∀ p ∈ cs, 0 ≤ p.1 ∧ p.1 < 1000000) → Stt k K L s₀ s' (asg [("cells", .ref D)] m) ((D, lstObj (iVals cs) N) :: cells7 ca ob (asg [("script", .ref ls)] cr)) →
      wpAny (model prog w) A (execs (stm 1) (lawEnv ca L a cd)) Q (fun _ _ => False) s') :
    wpAny (model prog w) A (execs (stm 0) (lawEnv ca L a cd)) Q (fun _ _ => False) s := by
  refine wpAny_execs_cons ?_
  refine r_assign_comp (k := k) (K := K) (s₀ := s₀) (l := []) (r := m) rfl rfl (by decide +kernel) rfl (by decide +kernel) rfl rfl ?_
  repeat (walk_at "s")
  (rename Stt _ _ _ _ _ _ _ => H)
  refine comp_enumT O.hh (H.drop (List.sublist_cons_self _ _)) (H.new _ (.head _)) (Nat.le_of_ble_eq_true rfl) (fun i ys => ∃ cs : List (Int × Tok), ys = iVals cs ∧ cs.length = i ∧ ∀ p ∈ cs, 0 ≤ p.1 ∧ p.1 < 1000000) ⟨[], rfl, rfl, by simp⟩ ?_ ?_
  · rintro i v C D s₁ K₁ m₁ ys N hi ⟨T, tt, x, rfl, hT, hx⟩ ⟨cs, rfl, hlen, hcs⟩ H1 hk
    obtain ⟨own, u, rfl⟩ : ∃ own u, x = .int own u := by
      rcases i with _ | _ | _ | _ | i
      · cases hx; exact ⟨_, _, rfl⟩
      · cases hx; exact ⟨_, _, rfl⟩
      · cases hx; exact ⟨_, _, rfl⟩
      · cases hx; exact ⟨_, _, rfl⟩
      · exact absurd hi (by simp)
    have hcell : InCell K₁ (ca "script") (.ref ls) := ⟨_, hk _ _ (by simp) (H.new (ca "script", _) (List.mem_cons_of_mem _ (mem7 (by decide)))), rfl⟩
    obtain ⟨ol, hol, hcl, nl, hdl⟩ := hs
    have hls : ∃ o, K₁ ls o ∧ o.cls = .type "list" ∧ ∃ n, o.data = .seq (iVals sc).toArray n := ⟨ol, hk _ _ (by simp) (H.keep _ _ hol), hcl, nl, hdl⟩
    clear hk H h hx
    replace H1 := H1.asg [] (by simp)
    refine q_unpack2 O.hh H1 hT fun s₂ H2 => tests0 ?_
    clear hT H1
    generalize (i : Int) = ii at *
    refine ite_t rfl ?_
    repeat (walk_at "s")
    (rename Stt _ _ _ _ _ _ _ => H)
    refine r_slice_listI H (let ⟨o, h1, h2, h3⟩ := hls; ⟨o, H.keep _ _ h1, h2, h3⟩) (.int _ _) .none (.int _ _) (by decide) (by simp [iVals]; omega) ?_
    clear H
    intro s3 D3 H
    obtain ⟨ps, hps⟩ := iVals_pick sc (some ii) none (some 4)
    rw [hps] at H
    clear hps hls
    repeat (walk_at "s")
    (rename Stt _ _ _ _ _ _ _ => H)
    refine r_sum O.hh H (H.new _ (.head _)) ?_
    clear H
    intro s4 t4 H
    generalize (ps.map (·.1)).sum = total at *
    repeat (walk_at "s")
    (rename Stt _ _ _ _ _ _ _ => H)
    refine ⟨⟨_, [_], H⟩, cs ++ [((own + total) % 10 ^ (6 : Int).toNat, _)], iVals_snoc _ _ _, by simp [hlen], fun p hp => ?_⟩
    rcases List.mem_append.mp hp with hp | hp
    · exact hcs p hp
    · rw [List.mem_singleton.mp hp]
      show 0 ≤ (own + total) % 1000000 ∧ (own + total) % 1000000 < 1000000
      omega
  · rintro D s' ys N H' ⟨cs, rfl, hlen, hcs⟩ s'' H''
    exact h _ D cs N hlen hcs H''
end
end Mine
end

section
open PySem PySem.W PyProof.Rows PySem.Calls
set_option linter.unusedVariables false
namespace Mine
theorem asg0 {m : Str → Option Value} : ∀ p ∈ ([] : List (Str × Value)), m p.1 = some p.2 := fun _ h => nomatch h
theorem asg1 {m : Str → Option Value} {x : Str} {v : Value} (h : m x = some v) : ∀ p ∈ [(x, v)], m p.1 = some p.2 := fun p hp => by rw [List.mem_singleton.mp hp]; exact h
theorem asgS {m : Str → Option Value} {x : Str} {v : Value} {l : List (Str × Value)} (h : m x = some v) (hl : ∀ p ∈ l, m p.1 = some p.2) : ∀ p ∈ (x, v) :: l, m p.1 = some p.2 := fun p hp => by
  rcases List.mem_cons.mp hp with rfl | hp
  · exact h
  · exact hl p hp
theorem asg2 {m : Str → Option Value} {x y : Str} {v u : Value} (h : m x = some v) (h2 : m y = some u) : ∀ p ∈ [(x, v), (y, u)], m p.1 = some p.2 := asgS h (asg1 h2)
theorem asg3 {m : Str → Option Value} {x y z : Str} {v u t : Value} (h : m x = some v) (h2 : m y = some u) (h3 : m z = some t) : ∀ p ∈ [(x, v), (y, u), (z, t)], m p.1 = some p.2 := asgS h (asg2 h2 h3)
theorem asg4 {m : Str → Option Value} {x y z y4 : Str} {v u t u4 : Value} (h : m x = some v) (h2 : m y = some u) (h3 : m z = some t) (h4 : m y4 = some u4) : ∀ p ∈ [(x, v), (y, u), (z, t), (y4, u4)], m p.1 = some p.2 := asgS h (asg3 h2 h3 h4)
def rowS (a b : Nat) (bits : List Bool) : Str := ⟨(bits.map fun x => if x then a else b).toArray⟩
theorem join_row (a b : Nat) (bits : List Bool) (h : bits.length = 4) : Txt.join "" (bits.map fun x => if x = true then (⟨#[a]⟩ : Str) else ⟨#[b]⟩) = rowS a b bits := by
  match bits, h with
  | [x0, x1, x2, x3], _ => cases x0 <;> cases x1 <;> cases x2 <;> cases x3 <;> rfl
theorem ons {T : Int} : ∃ a ∈ [120, 42, 63, 10], Txt.item "x*?\n" (T % 4) = ⟨#[a]⟩ := by
  have h : T % 4 = 0 ∨ T % 4 = 1 ∨ T % 4 = 2 ∨ T % 4 = 3 := by omega
  rcases h with h | h | h | h <;> rw [h]
  · exact ⟨120, by decide, by decide +kernel⟩
  · exact ⟨42, by decide, by decide +kernel⟩
  · exact ⟨63, by decide, by decide +kernel⟩
  · exact ⟨10, by decide, by decide +kernel⟩
theorem offs {T : Int} : ∃ a ∈ [45, 43, 32, 41], Txt.item "-+ )" (T % 4) = ⟨#[a]⟩ := by
  have h : T % 4 = 0 ∨ T % 4 = 1 ∨ T % 4 = 2 ∨ T % 4 = 3 := by omega
  rcases h with h | h | h | h <;> rw [h]
  · exact ⟨45, by decide, by decide +kernel⟩
  · exact ⟨43, by decide, by decide +kernel⟩
  · exact ⟨32, by decide, by decide +kernel⟩
  · exact ⟨41, by decide, by decide +kernel⟩
theorem sum_nn : ∀ {cs : List (Int × Tok)}, (∀ p ∈ cs, 0 ≤ p.1 ∧ p.1 < 1000000) → 0 ≤ (cs.map (·.1)).sum
  | [], _ => by simp
  | c :: r, h => by
    have h1 := h c (.head _)
    have h2 := sum_nn (cs := r) fun p hp => h p (.tail _ hp)
    rw [List.map_cons, List.sum_cons]
    omega
section
variable {prog : Program} {w : World} {A : Around} {s s₀ : Shared} {Q : Flow → Shared → Prop} {k : Nms} {K : Addr → Obj → Prop} {L a ls lc : Addr} {m : Str → Option Value} {news : List (Addr × Obj)} {ca : Str → Addr} {ob : Str → Obj} {cr : Str → Option Value} {cd : Value} {cs : List (Int × Tok)} {N : Nat}
set_option maxRecDepth 100000 in
set_option maxHeartbeats 4000000 in
theorem ph1 (O : Ok A 3 30) (H : Stt k K L s₀ s (asg [("cells", .ref lc)] m) (cells7 ca ob (asg [] cr))) (hlc : K lc (lstObj (iVals cs) N)) (hcs : ∀ p ∈ cs, 0 ≤ p.1 ∧ p.1 < 1000000)
    (h : ∀ s' m x y t1 t2, x ∈ [120, 42, 63, 10] → y ∈ [45, 43, 32, 41] → Stt k K L s₀ s' (asg [("cells", .ref lc)] m) (cells7 ca ob (asg [("off", .str ⟨#[y]⟩ t2), ("on", .str ⟨#[x]⟩ t1)] cr)) →
      wpAny (model prog w) A (execs (stm 4) (lawEnv ca L a cd)) Q (fun _ _ => False) s') :
    wpAny (model prog w) A (execs (stm 1) (lawEnv ca L a cd)) Q (fun _ _ => False) s := by
  have hT := sum_nn hcs
  refine wpAny_execs_cons ?_
  repeat (walk_at "s")
  (rename Stt _ _ _ _ _ _ _ => H)
  refine r_sum O.hh H (H.keep _ _ hlc) ?_
  clear H
  intro s1 t1 H
  generalize (cs.map (·.1)).sum = T at *
  walk_at "s"
  (rename Stt _ _ _ _ _ _ _ => H)
  obtain ⟨x, hx, ex⟩ := @ons T
  obtain ⟨y, hy, ey⟩ := @offs (T / 4)
  refine wpAny_execs_cons ?_
  repeat (walk_at "s")
  (rename Stt _ _ _ _ _ _ _ => H)
  refine r_item_str H (by omega) (by show T % 4 < 4; omega) (by decide +kernel) ?_
  clear H
  intro s2 t2 H
  rw [ex]
  refine q_st7 [] H (by decide) ?_
  clear H
  intro s3 H
  refine wpAny_execs_cons ?_
  repeat (walk_at "s")
  (rename Stt _ _ _ _ _ _ _ => H)
  refine r_item_str H (by omega) (by show T / 4 % 4 < 4; omega) (by decide +kernel) ?_
  clear H
  intro s4 t4 H
  rw [ey]
  refine q_st7 [] H (by decide) ?_
  clear H
  intro s5 H
  exact h _ _ x y t2 t4 hx hy (H.asg [("cells", .ref lc)] (asg1 rfl))

set_option maxRecDepth 100000 in
set_option maxHeartbeats 4000000 in
theorem ph4 {x y : Nat} {t1 t2 : Tok} (O : Ok A 3 30) (H : Stt k K L s₀ s (asg [("cells", .ref lc)] m) (cells7 ca ob (asg [("off", .str ⟨#[y]⟩ t2), ("on", .str ⟨#[x]⟩ t1)] cr))) (hlc : K lc (lstObj (iVals cs) N)) (hcl : cs.length = 4)
    (h : ∀ s' m bits t3, bits.length = 4 → Stt k K L s₀ s' (asg [("cells", .ref lc)] m) (cells7 ca ob (asg [("row", .str (rowS x y bits) t3), ("off", .str ⟨#[y]⟩ t2), ("on", .str ⟨#[x]⟩ t1)] cr)) →
      wpAny (model prog w) A (execs (stm 5) (lawEnv ca L a cd)) Q (fun _ _ => False) s') :
    wpAny (model prog w) A (execs (stm 4) (lawEnv ca L a cd)) Q (fun _ _ => False) s := by
  refine wpAny_execs_cons ?_
  repeat (walk_at "s")
  (rename Stt _ _ _ _ _ _ _ => H)
  refine r_comp (k := k) (K := K) (s₀ := s₀) (m := asg [("cells", .ref lc)] m) rfl (by decide +kernel) rfl (by decide +kernel) ?_
  repeat (walk_at "s")
  (rename Stt _ _ _ _ _ _ _ => H)
  refine comp_list O.hh H (H.keep _ _ hlc) (by simp [iVals, hcl]) (fun i ys => ∃ (bits : List Bool) (l : List (Str × Tok)), ys = strValues l ∧ l.map (·.1) = bits.map (fun z => if z = true then (⟨#[x]⟩ : Str) else ⟨#[y]⟩) ∧ bits.length = i) ⟨[], [], rfl, rfl, rfl⟩ ?_ ?_
  · rintro i v C D s₁ K₁ m₁ ys N1 hi hv ⟨bits, l, rfl, hl, hlen⟩ H1 hk
    obtain ⟨cell, u, hc3, rfl⟩ := iVals_at (cs := cs) (i := i) (x := v) (by simpa using hv)
    have hcell1 : InCell K₁ (ca "on") (.str ⟨#[x]⟩ t1) := ⟨_, hk _ _ (by simp) (H.new (ca "on", _) (mem7 (by decide))), rfl⟩
    have hcell2 : InCell K₁ (ca "off") (.str ⟨#[y]⟩ t2) := ⟨_, hk _ _ (by simp) (H.new (ca "off", _) (mem7 (by decide))), rfl⟩
    clear hk H h hv
    replace H1 := H1.asg [] asg0
    repeat (walk_at "s")
    refine tests0 ?_
    refine ite_t rfl ?_
    repeat (walk_at "s")
    refine ite_split (fun q => ?_) (fun q => ?_)
    · repeat (walk_at "s")
      (rename Stt _ _ _ _ _ _ _ => H)
      exact ⟨⟨_, [], H⟩, bits ++ [true], l ++ [(⟨#[x]⟩, t1)], by simp [strValues], by simp [hl], by simp [hlen]⟩
    · repeat (walk_at "s")
      (rename Stt _ _ _ _ _ _ _ => H)
      exact ⟨⟨_, [], H⟩, bits ++ [false], l ++ [(⟨#[y]⟩, t2)], by simp [strValues], by simp [hl], by simp [hlen]⟩
  · rintro D s' ys N1 H' ⟨bits, l, rfl, hl, hlen⟩
    replace hlen : bits.length = 4 := by simpa [iVals, hcl] using hlen
    clear H
    repeat (walk_at "s")
    (rename Stt _ _ _ _ _ _ _ => H)
    refine r_join H (H.new _ (.head _)) ?_ ?_
    · rw [hl]
      exact joinOk_of (M := 1) (fun z hz => by obtain ⟨b, _, rfl⟩ := List.mem_map.mp hz; cases b <;> exact Nat.le_refl 1) (by decide +kernel) (by decide) (by simp [hlen])
    · clear H
      intro s2 t3 H
      rw [hl, join_row _ _ _ hlen]
      refine q_st7 [(_, _)] H (by decide) ?_
      clear H
      intro s3 H
      exact h _ _ bits t3 hlen (H.drop (List.sublist_cons_self _ _))
end
end Mine
end

section
open PySem PySem.W PyProof.Rows PySem.Calls
set_option linter.unusedVariables false
namespace Mine
def betw (i : Nat) : Str := if i = 0 then ("" : Str) else if i = 1 then ("\"" : Str) else ("\\\"" : Str)
theorem betw_len (i : Nat) : (betw i).length ≤ 2 := by unfold betw; split; decide +kernel; split <;> decide +kernel
section
variable {prog : Program} {w : World} {A : Around} {s s₀ : Shared} {Q : Flow → Shared → Prop} {k : Nms} {K : Addr → Obj → Prop} {L a ls lc : Addr} {m : Str → Option Value} {news : List (Addr × Obj)} {ca : Str → Addr} {ob : Str → Obj} {cr : Str → Option Value} {cd : Value} {cs : List (Int × Tok)} {N : Nat} {row : Str} {t3 : Tok}
set_option maxRecDepth 100000 in
set_option maxHeartbeats 4000000 in
theorem ph5 (O : Ok A 4 30) (H : Stt k K L s₀ s (asg [("cells", .ref lc)] m) (cells7 ca ob (asg [("row", .str row t3)] cr))) (hrow : row.length = 4)
    (hPL : ∀ i, i < 3 → stripF (row ++ betw i ++ row) = row ++ betw i ++ row)
    (h : ∀ s' m, Stt k K L s₀ s' (asg [("cells", .ref lc)] m) (cells7 ca ob (asg [("row", .str row t3)] cr)) →
      wpAny (model prog w) A (execs (stm 6) (lawEnv ca L a cd)) Q (fun _ _ => False) s') :
    wpAny (model prog w) A (execs (stm 5) (lawEnv ca L a cd)) Q (fun _ _ => False) s := by
  refine wpAny_execs_cons (rest := stm 6) ?_
  refine wpAny_For ?_ (fun _ => rfl)
  repeat (walk_at "s")
  (rename Stt _ _ _ _ _ _ _ => H)
  have hbs := H.bs
  replace H := H.freeze
  refine it_tuple O.hh H (.inr ⟨rfl, rfl⟩) fun I s1 St X => ?_
  refine for_I X (fun i m news => m "cells" = some (.ref lc) ∧ news = cells7 ca ob (asg [("row", .str row t3)] cr)) (fun _ _ => False) ⟨rfl, rfl⟩ ?_ ?_ (fun _ _ _ _ e => e.elim)
  · rintro i v m₁ news₁ s₁ K₁ hi hv ⟨e1, rfl⟩ H hK had
    obtain ⟨u, rfl⟩ : ∃ u, v = .str (betw i) u := by
      rcases i with _ | _ | _ | i
      · cases hv; exact ⟨_, rfl⟩
      · cases hv; exact ⟨_, rfl⟩
      · cases hv; exact ⟨_, rfl⟩
      · exact absurd hi (by simp)
    have hi3 : i < 3 := by simpa using hi
    have hb := betw_len i
    replace hPL := hPL i hi3
    clear hv X
    generalize betw i = z at *
    replace H := H.asg [("cells", .ref lc)] (asg1 e1)
    repeat (walk_at "s")
    (rename Stt _ _ _ _ _ _ _ => H)
    refine r_glob H H.here.fS.g ?_
    refine r_callWith (fun h B => B.fS) ?_
    repeat (walk_at "s")
    (rename Stt _ _ _ _ _ _ _ => H)
    refine r_add_str H (by rw [sizeLine_eq]; omega) ?_
    clear H
    intro s2 t2 H
    repeat (walk_at "s")
    (rename Stt _ _ _ _ _ _ _ => H)
    refine r_add_str H (by rw [sizeLine_eq, len_app]; omega) ?_
    clear H
    intro s4 t4 H
    repeat (walk_at "s")
    (rename Stt _ _ _ _ _ _ _ => H)
    refine ⟨H.here, ?_⟩
    refine strip_call H.here (O.less) (by rw [len_app, len_app]; omega) fun s5 t5 hg => ?_
    replace H := H.grows hg
    clear hg
    rw [hPL]
    repeat (walk_at "s")
    (rename Stt _ _ _ _ _ _ _ => H)
    refine r_add_str H (by rw [sizeLine_eq]; omega) ?_
    clear H
    intro s6 t6 H
    repeat (walk_at "s")
    (rename Stt _ _ _ _ _ _ _ => H)
    refine r_add_str H (by rw [sizeLine_eq, len_app]; omega) ?_
    clear H
    intro s7 t7 H
    repeat (walk_at "s")
    refine ite_f (by simp) ?_
    repeat (walk_at "s")
    (rename Stt _ _ _ _ _ _ _ => H)
    exact ⟨_, _, H, ⟨rfl, rfl⟩, had⟩
  · rintro s' m' news' H ⟨e1, rfl⟩ had
    exact h _ m' ((H.asg [("cells", .ref lc)] (asg1 e1)).only hbs fun b o e => .inl e)
end
end Mine
end

section
open PySem PySem.W PyProof.Rows PySem.Calls
set_option linter.unusedVariables false
namespace Mine
section
variable {prog : Program} {w : World} {A : Around} {s s₀ : Shared} {Q : Flow → Shared → Prop} {k : Nms} {K : Addr → Obj → Prop} {L a ls lc : Addr} {m : Str → Option Value} {news : List (Addr × Obj)} {ca : Str → Addr} {ob : Str → Obj} {cr : Str → Option Value} {cd : Value} {cs : List (Int × Tok)} {N : Nat} {row : Str} {t3 : Tok}
set_option maxRecDepth 100000 in
set_option maxHeartbeats 4000000 in
theorem ph6 (O : Ok A 4 30) (H : Stt k K L s₀ s (asg [("cells", .ref lc)] m) (cells7 ca ob (asg [("row", .str row t3)] cr))) (hrow : row.length = 4)
    (hPL : stripF (row ++ "\"\\" ++ row ++ "\"") = row)
    (h : ∀ s' m D1 D2, Stt k K L s₀ s' (asg [("shown", .ref D2), ("cells", .ref lc)] m) ((D2, lstObj [] 0) :: (D1, lstObj [] 0) :: cells7 ca ob (asg [("rows", .ref D1), ("row", .str row t3)] cr)) →
      wpAny (model prog w) A (execs (stm 9) (lawEnv ca L a cd)) Q (fun _ _ => False) s') :
    wpAny (model prog w) A (execs (stm 6) (lawEnv ca L a cd)) Q (fun _ _ => False) s := by
  refine wpAny_execs_cons (rest := stm 7) ?_
  repeat (walk_at "s")
  (rename Stt _ _ _ _ _ _ _ => H)
  refine r_glob H H.here.fS.g ?_
  refine r_callWith (fun h B => B.fS) ?_
  have e1 : ("\"\\" : Str).length = 2 := by decide +kernel
  have e2 : ("\"" : Str).length = 1 := by decide +kernel
  repeat (walk_at "s")
  (rename Stt _ _ _ _ _ _ _ => H)
  refine r_add_str H (by rw [sizeLine_eq]; omega) ?_
  clear H
  intro s2 t2 H
  repeat (walk_at "s")
  (rename Stt _ _ _ _ _ _ _ => H)
  refine r_add_str H (by rw [sizeLine_eq, len_app]; omega) ?_
  clear H
  intro s4 t4 H
  repeat (walk_at "s")
  (rename Stt _ _ _ _ _ _ _ => H)
  refine r_add_str H (by rw [sizeLine_eq, len_app, len_app]; omega) ?_
  clear H
  intro s4 t4 H
  repeat (walk_at "s")
  (rename Stt _ _ _ _ _ _ _ => H)
  refine ⟨H.here, ?_⟩
  refine strip_call H.here (O.less) (by rw [len_app, len_app, len_app]; omega) fun s5 t5 hg => ?_
  replace H := H.grows hg
  clear hg
  rw [hPL]
  repeat (walk_at "s")
  refine ite_f (by simp) ?_
  repeat (walk_at "s")
  (rename Stt _ _ _ _ _ _ _ => H)
  refine q_st7 [(_, _)] H (by decide) ?_
  clear H
  intro s6 H
  iterate 4 (walk_at "s")
  (rename Stt _ _ _ _ _ _ _ => H)
  exact h _ _ _ _ H
end
end Mine
end

section
open PySem PySem.W PyProof.Rows PySem.Calls
set_option linter.unusedVariables false
namespace Mine
def twFor : Stmt := (stm 9).headD (.Pass default)
def bd (j : Nat) : List Stmt := (forBod twFor).drop j
section
variable {prog : Program} {w : World} {A : Around} {s s₀ : Shared} {Q : Flow → Shared → Prop} {k : Nms} {K : Addr → Obj → Prop} {L a ls lc D1 D2 : Addr} {m : Str → Option Value} {news : List (Addr × Obj)} {ca : Str → Addr} {ob : Str → Obj} {cr : Str → Option Value} {cd : Value} {cs : List (Int × Tok)} {N N1 N2 : Nat} {row on off left : Str} {t3 t1 t2 : Tok} {vS vR : List Value} {tv : Value}
set_option maxRecDepth 100000 in
set_option maxHeartbeats 4000000 in
theorem tA (O : Ok A 4 40) (H : Stt k K L s₀ s (asg [("shown", .ref D2), ("cells", .ref lc)] m) ((D2, lstObj vS N2) :: (D1, lstObj vR N1) :: cells7 ca ob (asg [("turn", tv), ("rows", .ref D1), ("row", .str row t3), ("off", .str off t2), ("on", .str on t1)] cr)))
    (hlc : K lc (lstObj (iVals cs) N)) (hcl : cs.length = 4) (hcs : ∀ p ∈ cs, 0 ≤ p.1 ∧ p.1 < 1000000)
    (hrow : row.cps.size = 4) (hoff : off.length = 1) (hocc : (Builtin.Str.occurrences (Txt.mul off 4) "..." 0 (Txt.mul off 4).length 1).isEmpty = true) (hstrip : stripF (mailF row on (cs.map (·.1))) = left) (hlen : (mailF row on (cs.map (·.1))).length ≤ 500) (hvS : vS.length ≤ 100) (hvR : vR.length ≤ 100)
    (h1 : (Txt.mul off 4 == row) = true → ∀ s' m' t, Stt k K L s₀ s' (asg [("shown", .ref D2), ("cells", .ref lc)] m') ((D2, lstObj (vS ++ [.str left t]) (N2 + 1)) :: (D1, lstObj (vR ++ [.str row t3]) (N1 + 1)) :: cells7 ca ob (asg [("turn", tv), ("rows", .ref D1), ("row", .str row t3), ("off", .str off t2), ("on", .str on t1)] cr)) → Q .brk s')
    (h2 : (Txt.mul off 4 == row) = false → ∀ s' m' t, Stt k K L s₀ s' (asg [("left", .str left t), ("shown", .ref D2), ("cells", .ref lc)] m') ((D2, lstObj (vS ++ [.str left t]) (N2 + 1)) :: (D1, lstObj (vR ++ [.str row t3]) (N1 + 1)) :: cells7 ca ob (asg [("turn", tv), ("rows", .ref D1), ("row", .str row t3), ("off", .str off t2), ("on", .str on t1)] cr)) →
      wpAny (model prog w) A (execs (bd 4) (lawEnv ca L a cd)) Q (fun _ _ => False) s') :
    wpAny (model prog w) A (execs (bd 0) (lawEnv ca L a cd)) Q (fun _ _ => False) s := by
  refine wpAny_execs_cons (rest := bd 1) ?_
  repeat (walk_at "s")
  (rename Stt _ _ _ _ _ _ _ => H)
  refine r_glob H H.here.fS.g ?_
  refine r_callWith (fun h B => B.fS) ?_
  repeat (walk_at "s")
  (rename Stt _ _ _ _ _ _ _ => H)
  refine r_glob H H.here.fM.g ?_
  refine r_callWith (fun h B => B.fM) ?_
  repeat (walk_at "s")
  (rename Stt _ _ _ _ _ _ _ => H)
  refine ⟨H.here, ?_⟩
  refine mail_call H.here (O.less) hrow hcl hcs (lst_is (H.keep _ _ hlc)) fun s3 t3 hg => ?_
  replace H := H.grows hg
  clear hg
  generalize mailF row on (cs.map (·.1)) = mail at *
  repeat (walk_at "s")
  (rename Stt _ _ _ _ _ _ _ => H)
  refine ⟨H.here, ?_⟩
  refine strip_call H.here (O.less) hlen fun s5 t5 hg => ?_
  replace H := H.grows hg
  clear hg
  rw [hstrip]
  clear hstrip hlen
  repeat (walk_at "s")
  (rename Stt _ _ _ _ _ _ _ => H)
  refine ⟨D1, vR, N1, rfl, H.new _ (.tail _ (.head _)), ?_⟩
  repeat (walk_at "s")
  (rename Stt _ _ _ _ _ _ _ => H)
  refine r_append (l := [(_, _)]) H (by rw [sizeLine_eq]; omega) ?_
  clear H
  intro s6 H
  repeat (walk_at "s")
  (rename Stt _ _ _ _ _ _ _ => H)
  refine ⟨D2, vS, N2, rfl, H.new _ (.head _), ?_⟩
  repeat (walk_at "s")
  (rename Stt _ _ _ _ _ _ _ => H)
  refine r_append (l := []) H (by rw [sizeLine_eq]; omega) ?_
  clear H
  intro s7 H
  repeat (walk_at "s")
  (rename Stt _ _ _ _ _ _ _ => H)
  refine r_glob H H.here.fE.g ?_
  refine r_callWith (fun h B => B.fE) ?_
  repeat (walk_at "s")
  (rename Stt _ _ _ _ _ _ _ => H)
  refine r_mul_str H (mulOk_small (by decide) (by decide) (by omega)) ?_
  clear H
  intro s8 t8 H
  generalize Txt.mul off 4 = want at *
  repeat (walk_at "s")
  (rename Stt _ _ _ _ _ _ _ => H)
  refine ⟨H.here, ?_⟩
  refine ell_plain H.here (O.less) hocc fun s9 hg => ?_
  replace H := H.grows hg
  clear hg
  repeat (walk_at "s")
  cases hb : want == row with
  | true =>
    refine ite_t rfl ?_
    repeat (walk_at "s")
    (rename Stt _ _ _ _ _ _ _ => H)
    exact h1 hb _ _ _ (H.asg [("shown", .ref D2), ("cells", .ref lc)] (asg2 rfl rfl))
  | false =>
    refine ite_f rfl ?_
    walk_at "s"
    (rename Stt _ _ _ _ _ _ _ => H)
    exact h2 hb _ _ _ H
end
end Mine
end

section
open PySem PySem.W PyProof.Rows PySem.Calls
set_option linter.unusedVariables false
namespace Mine
def flipS (row on off : Str) (at' : Int) : Str := Txt.slice row none (some at') ++ (if Txt.item row at' = on then off else on) ++ Txt.slice row (some (at' + 1)) none
theorem slice_le4 {x : Str} {i j : Option Int} (h : x.length = 4) : (Txt.slice x i j).length ≤ 4 := h ▸ Txt.slice_le x i j
section
variable {prog : Program} {w : World} {A : Around} {s s₀ : Shared} {Q : Flow → Shared → Prop} {k : Nms} {K : Addr → Obj → Prop} {L a ls lc D1 D2 : Addr} {m : Str → Option Value} {news : List (Addr × Obj)} {ca : Str → Addr} {ob : Str → Obj} {cr : Str → Option Value} {cd : Value} {cs : List (Int × Tok)} {N N1 N2 : Nat} {row on off left row' : Str} {t3 t1 t2 ta tl : Tok} {oS oR : Obj} {tv : Value} {at' : Int}
set_option maxRecDepth 100000 in
set_option maxHeartbeats 4000000 in
theorem tC (O : Ok A 4 40) (H : Stt k K L s₀ s (asg [("at", .int at' ta), ("shown", .ref D2), ("cells", .ref lc)] m) ((D2, oS) :: (D1, oR) :: cells7 ca ob (asg [("turn", tv), ("rows", .ref D1), ("row", .str row t3), ("off", .str off t2), ("on", .str on t1)] cr)))
    (hrow : row.length = 4) (hoff : off.length = 1) (hon : on.length = 1) (h0 : 0 ≤ at') (h4 : at' < 4) (hflip : flipS row on off at' = row')
    (h1 : ∀ s' m' t, Stt k K L s₀ s' (asg [("shown", .ref D2), ("cells", .ref lc)] m') ((D2, oS) :: (D1, oR) :: cells7 ca ob (asg [("row", .str row' t), ("turn", tv), ("rows", .ref D1), ("row", .str row t3), ("off", .str off t2), ("on", .str on t1)] cr)) → Q .next s') :
    wpAny (model prog w) A (execs (bd 6) (lawEnv ca L a cd)) Q (fun _ _ => False) s := by
  have hz : row.length ≤ sizeLine := by rw [sizeLine_eq]; omega
  have z1 : (Txt.slice row none (some at')).length ≤ 4 := slice_le4 hrow
  have z2 : (Txt.slice row (some (at' + 1)) none).length ≤ 4 := slice_le4 hrow
  refine wpAny_execs_cons (rest := []) ?_
  repeat (walk_at "s")
  (rename Stt _ _ _ _ _ _ _ => H)
  refine r_slice_ns H hz ?_
  clear H
  intro s2 t4 H
  repeat (walk_at "s")
  (rename Stt _ _ _ _ _ _ _ => H)
  refine r_item_str H h0 (by omega) hz ?_
  clear H
  intro s3 t5 H
  unfold flipS at hflip
  generalize Txt.slice row none (some at') = x1 at *
  generalize hx : Txt.item row at' = x3 at *
  repeat (walk_at "s")
  refine ite_split (fun q => ?_) (fun q => ?_)
  · have q' : x3 = on := by simpa using q
    rw [if_pos q'] at hflip
    repeat (walk_at "s")
    (rename Stt _ _ _ _ _ _ _ => H)
    refine r_add_str H (by rw [sizeLine_eq]; omega) ?_
    clear H
    intro s4 t6 H
    repeat (walk_at "s")
    (rename Stt _ _ _ _ _ _ _ => H)
    refine r_slice_sn H hz ?_
    clear H
    intro s5 t7 H
    repeat (walk_at "s")
    (rename Stt _ _ _ _ _ _ _ => H)
    refine r_add_str H (by rw [sizeLine_eq, len_app]; omega) ?_
    clear H
    intro s6 t8 H
    rw [hflip]
    refine q_st7 [(_, _), (_, _)] H (by decide) ?_
    clear H
    intro s7 H
    refine wpAny_execs_nil ?_
    exact h1 _ _ _ (H.asg [("shown", .ref D2), ("cells", .ref lc)] (asg2 rfl rfl))
  · have q' : ¬ x3 = on := by simpa using q
    rw [if_neg q'] at hflip
    repeat (walk_at "s")
    (rename Stt _ _ _ _ _ _ _ => H)
    refine r_add_str H (by rw [sizeLine_eq]; omega) ?_
    clear H
    intro s4 t6 H
    repeat (walk_at "s")
    (rename Stt _ _ _ _ _ _ _ => H)
    refine r_slice_sn H hz ?_
    clear H
    intro s5 t7 H
    repeat (walk_at "s")
    (rename Stt _ _ _ _ _ _ _ => H)
    refine r_add_str H (by rw [sizeLine_eq, len_app]; omega) ?_
    clear H
    intro s6 t8 H
    rw [hflip]
    refine q_st7 [(_, _), (_, _)] H (by decide) ?_
    clear H
    intro s7 H
    refine wpAny_execs_nil ?_
    exact h1 _ _ _ (H.asg [("shown", .ref D2), ("cells", .ref lc)] (asg2 rfl rfl))
end
end Mine
end

section
open PySem PySem.W PyProof.Rows PySem.Calls
set_option linter.unusedVariables false
namespace Mine
structure EllW (row on off : Str) (bt : Nat → Bool) (wd : Nat → Str) (j : Nat) : Prop where
  occ : (Builtin.Str.occurrences ("..." ++ on ++ Txt.mul off ((j : Int) + 1 - 1)) "..." 0 ("..." ++ on ++ Txt.mul off ((j : Int) + 1 - 1)).length 1).isEmpty = false
  len : ("..." ++ on ++ Txt.mul off ((j : Int) + 1 - 1)).length ≤ 100
  mul : (Txt.mul off ((j : Int) + 1 - 1)).length ≤ 10
  spl : Txt.split ("..." ++ on ++ Txt.mul off ((j : Int) + 1 - 1)) "..." = [("" : Str), wd j]
  lo : 1 ≤ (wd j).length
  hi : (wd j).length ≤ 3
  res : Txt.endswith row (wd j) = bt j
def lastL (bt : Nat → Bool) (i : Nat) : List Int := ((List.range i).filter bt).map fun j : Nat => (j : Int) + 1
theorem lastL_t {bt : Nat → Bool} {i : Nat} (h : bt i = true) : lastL bt (i + 1) = lastL bt i ++ [(i : Int) + 1] := by simp [lastL, List.range_succ, h]
theorem lastL_f {bt : Nat → Bool} {i : Nat} (h : bt i = false) : lastL bt (i + 1) = lastL bt i := by simp [lastL, List.range_succ, h]
section
variable {prog : Program} {w : World} {A : Around} {s s₀ : Shared} {Q : Flow → Shared → Prop} {k : Nms} {K : Addr → Obj → Prop} {L a ls lc D1 D2 : Addr} {m : Str → Option Value} {news : List (Addr × Obj)} {ca : Str → Addr} {ob : Str → Obj} {cr : Str → Option Value} {cd : Value} {cs : List (Int × Tok)} {N N1 N2 : Nat} {row on off left row' : Str} {t3 t1 t2 ta tl : Tok} {oS oR : Obj} {tv : Value} {at' : Int} {bt : Nat → Bool} {wd : Nat → Str}
set_option maxRecDepth 100000 in
set_option maxHeartbeats 4000000 in
theorem tB (O : Ok A 4 40) (H : Stt k K L s₀ s (asg [("left", .str left tl), ("shown", .ref D2), ("cells", .ref lc)] m) ((D2, oS) :: (D1, oR) :: cells7 ca ob (asg [("turn", tv), ("rows", .ref D1), ("row", .str row t3), ("off", .str off t2), ("on", .str on t1)] cr)))
    (hrow : row.length = 4) (hoff : off.length = 1) (hon : on.length = 1)
    (hz : Txt.contains left "z" = true ∧ flipS row on off 3 = row' ∨ Txt.contains left "z" = false ∧ (∀ j, j < 3 → EllW row on off bt wd j) ∧ ∃ kk : Int, lastL bt 3 = [kk] ∧ 1 ≤ kk ∧ kk ≤ 3 ∧ flipS row on off (3 - kk) = row')
    (h1 : ∀ s' m' t, Stt k K L s₀ s' (asg [("shown", .ref D2), ("cells", .ref lc)] m') ((D2, oS) :: (D1, oR) :: cells7 ca ob (asg [("row", .str row' t), ("turn", tv), ("rows", .ref D1), ("row", .str row t3), ("off", .str off t2), ("on", .str on t1)] cr)) → Q .next s') :
    wpAny (model prog w) A (execs (bd 4) (lawEnv ca L a cd)) Q (fun _ _ => False) s := by
  refine wpAny_execs_cons (rest := bd 5) ?_
  repeat (walk_at "s")
  rcases hz with ⟨hz, hf⟩ | ⟨hz, hW, kk, hl, hk1, hk3, hf⟩
  · refine ite_f (by simpa [Txt.contains] using hz) ?_
    walk_at "s"
    (rename Stt _ _ _ _ _ _ _ => H)
    exact tC O (H.asg [("at", .int 3 _), ("shown", .ref D2), ("cells", .ref lc)] (asg3 rfl rfl rfl)) hrow hoff hon (by decide) (by decide) hf h1
  · refine ite_t (by simpa [Txt.contains] using hz) ?_
    (rename Stt _ _ _ _ _ _ _ => H)
    obtain ⟨m2, H⟩ : ∃ m2, Stt k K L s₀ _ (asg [("shown", .ref D2), ("cells", .ref lc)] m2) _ := ⟨_, H.asg _ (asg2 rfl rfl)⟩
    refine wpAny_execs_cons ?_
    refine r_assign_comp (k := k) (K := K) (s₀ := s₀) (l := [("shown", .ref D2), ("cells", .ref lc)]) (r := m2) rfl rfl (by decide +kernel) rfl (by decide +kernel) rfl rfl ?_
    repeat (walk_at "s")
    (rename Stt _ _ _ _ _ _ _ => H)
    refine comp_tuple O.hh H (H.new _ (.head _)) (Nat.le_of_ble_eq_true rfl) (fun i ys => ∃ l : List (Int × Tok), ys = iVals l ∧ l.map (·.1) = lastL bt i) ⟨[], rfl, rfl⟩ ?_ ?_
    · rintro i v C D s₁ K₁ m₁ ys N1 hi hv ⟨l, rfl, hl2⟩ H1 hk
      obtain ⟨u, rfl⟩ : ∃ u, v = .int ((i : Int) + 1) u := by
        rcases i with _ | _ | _ | i
        · cases hv; exact ⟨_, rfl⟩
        · cases hv; exact ⟨_, rfl⟩
        · cases hv; exact ⟨_, rfl⟩
        · exact absurd hi (by simp)
      have hi3 : i < 3 := by simpa using hi
      have hcell1 : InCell K₁ (ca "on") (.str on t1) := ⟨_, hk _ _ (by simp) (H.new (ca "on", _) (List.mem_cons_of_mem _ (List.mem_cons_of_mem _ (List.mem_cons_of_mem _ (mem7 (by decide)))))), rfl⟩
      have hcell2 : InCell K₁ (ca "off") (.str off t2) := ⟨_, hk _ _ (by simp) (H.new (ca "off", _) (List.mem_cons_of_mem _ (List.mem_cons_of_mem _ (List.mem_cons_of_mem _ (mem7 (by decide)))))), rfl⟩
      have hcell3 : InCell K₁ (ca "row") (.str row t3) := ⟨_, hk _ _ (by simp) (H.new (ca "row", _) (List.mem_cons_of_mem _ (List.mem_cons_of_mem _ (List.mem_cons_of_mem _ (mem7 (by decide)))))), rfl⟩
      clear hk H h1 hv
      obtain ⟨w1, w2, w7, w3, w4, w5, w6⟩ := hW i hi3
      have hdots : ("..." : Str).length = 3 := by decide +kernel
      have hlt := @lastL_t bt i
      have hlf := @lastL_f bt i
      have hka : 1 ≤ (i : Int) + 1 := by omega
      have hkb : (i : Int) + 1 ≤ 3 := by omega
      generalize (i : Int) + 1 = kk1 at *
      replace H1 := H1.asg [] asg0
      repeat (walk_at "s")
      refine wpAny_tests_one ?_
      repeat (walk_at "s")
      (rename Stt _ _ _ _ _ _ _ => H)
      refine q_glob H H.here.fE.g ?_
      refine r_callWith (fun h B => B.fE) ?_
      repeat (walk_at "s")
      (rename Stt _ _ _ _ _ _ _ => H)
      refine r_add_str H (by rw [sizeLine_eq]; omega) ?_
      clear H
      intro s4 t6 H
      repeat (walk_at "s")
      (rename Stt _ _ _ _ _ _ _ => H)
      refine r_mul_str H (mulOk_small (by omega) (by omega) (by omega)) ?_
      clear H
      intro s5 t7 H
      generalize Txt.mul off (kk1 - 1) = ml at *
      repeat (walk_at "s")
      (rename Stt _ _ _ _ _ _ _ => H)
      refine r_add_str H (by rw [sizeLine_eq, len_app]; omega) ?_
      clear H
      intro s6 t8 H
      generalize "..." ++ on ++ ml = want at *
      repeat (walk_at "s")
      (rename Stt _ _ _ _ _ _ _ => H)
      refine ⟨H.here, ?_⟩
      refine ell_tail H.here (O.less) w1 w2 w3 hrow w4 w5 fun s7 hg => ?_
      replace H := H.grows hg
      clear hg
      rw [w6]
      repeat (walk_at "s")
      cases hb : bt i with
      | true =>
        refine ite_t rfl ?_
        repeat (walk_at "s")
        (rename Stt _ _ _ _ _ _ _ => H)
        exact ⟨⟨_, [], H⟩, l ++ [(kk1, u)], iVals_snoc _ _ _, by rw [List.map_append, hl2, hlt hb]; rfl⟩
      | false =>
        refine ite_f rfl ?_
        (rename Stt _ _ _ _ _ _ _ => H)
        exact ⟨⟨_, [], H⟩, l, rfl, by rw [hl2, hlf hb]⟩
    · rintro D s' ys N1 H' ⟨l, rfl, hl2⟩ s'' H''
      have hl3 : l.map (·.1) = [kk] := hl2.trans hl
      obtain ⟨tk, rfl⟩ : ∃ tk, l = [(kk, tk)] := by
        match l, hl3 with
        | [(z, tk)], e => simp at e; exact ⟨tk, by rw [e]⟩
      clear H H' hl2 hl3 hl hW
      repeat (walk_at "s")
      (rename Stt _ _ _ _ _ _ _ => H)
      refine r_len_list H (H.new _ (.head _)) (Nat.le_of_ble_eq_true rfl) ?_
      clear H
      intro s4 t6 H
      repeat (walk_at "s")
      refine ite_f rfl ?_
      repeat (walk_at "s")
      (rename Stt _ _ _ _ _ _ _ => H)
      refine r_item_list (x := .int kk tk) (H.new _ (.head _)) 0 (.inl rfl) (Nat.le_of_ble_eq_true rfl) rfl ?_
      iterate 3 (walk_at "s")
      (rename Stt _ _ _ _ _ _ _ => H)
      exact tC O ((H.asg [("at", .int (3 - kk) _), ("shown", .ref D2), ("cells", .ref lc)] (asg3 rfl rfl rfl)).drop (.cons _ (.cons _ (List.Sublist.refl _)))) hrow hoff hon (by omega) (by omega) hf h1
end
end Mine
end

section
open PySem PySem.W PyProof.Rows PySem.Calls
set_option linter.unusedVariables false
namespace Mine
structure Rings (on off : Str) (cells : List Int) (rw' sh : Nat → Str) (bt : Nat → Nat → Bool) (wd : Nat → Str) : Prop where
  on1 : on.length = 1
  off1 : off.length = 1
  size : ∀ n, n < 16 → (rw' n).cps.size = 4
  mail : ∀ n, n < 16 → stripF (mailF (rw' n) on cells) = sh n
  mlen : ∀ n, n < 16 → (mailF (rw' n) on cells).length ≤ 500
  bare : ∀ n, n < 16 → (Txt.mul off 4 == rw' n) = (n == 0)
  occ : (Builtin.Str.occurrences (Txt.mul off 4) "..." 0 (Txt.mul off 4).length 1).isEmpty = true
  zin : ∀ n, n < 16 → Txt.contains (sh n) "z" = (n % 2 == 1)
  ell : ∀ n, n < 16 → ∀ j, j < 3 → EllW (rw' n) on off (bt n) wd j
  odd : ∀ n, n < 16 → n % 2 = 1 → flipS (rw' n) on off 3 = rw' (n - 1)
  even : ∀ n, n < 16 → n % 2 = 0 → n ≠ 0 → ∃ kk : Int, lastL (bt n) 3 = [kk] ∧ 1 ≤ kk ∧ kk ≤ 3 ∧ flipS (rw' n) on off (3 - kk) = rw' (n - 1)

theorem cells7_addr (ca : Str → Addr) (ob : Str → Obj) (cm : Str → Option Value) : (cells7 ca ob cm).map (·.1) = names7.map ca := by
  unfold cells7; rw [List.map_map]; rfl
theorem strValues_snoc (l : List (Str × Tok)) (x : Str) (t : Tok) : strValues l ++ [.str x t] = strValues (l ++ [(x, t)]) := by simp [strValues]
def back (f : Nat → Str) (n0 i : Nat) : List Str := (List.range i).map fun j => f (n0 - j)
theorem back_snoc (f : Nat → Str) (n0 i : Nat) : back f n0 (i + 1) = back f n0 i ++ [f (n0 - i)] := by simp [back, List.range_succ]
theorem back_len (f : Nat → Str) (n0 i : Nat) : (back f n0 i).length = i := by simp [back]

section
variable {prog : Program} {w : World} {A : Around} {s s₀ : Shared} {Q : Flow → Shared → Prop} {k : Nms} {K : Addr → Obj → Prop} {L a ls lc D1 D2 : Addr} {m : Str → Option Value} {news : List (Addr × Obj)} {ca : Str → Addr} {ob : Str → Obj} {cr : Str → Option Value} {cd : Value} {cs : List (Int × Tok)} {N n0 : Nat} {on off : Str} {t3 t1 t2 ta tl : Tok} {rw' sh : Nat → Str} {bt : Nat → Nat → Bool} {wd : Nat → Str}
set_option maxRecDepth 100000 in
set_option maxHeartbeats 4000000 in
theorem ph9 (O : Ok A 4 40) (R : Rings on off (cs.map (·.1)) rw' sh bt wd) (hn0 : n0 < 16) (H : Stt k K L s₀ s (asg [("shown", .ref D2), ("cells", .ref lc)] m) ((D2, lstObj [] 0) :: (D1, lstObj [] 0) :: cells7 ca ob (asg [("rows", .ref D1), ("row", .str (rw' n0) t3), ("off", .str off t2), ("on", .str on t1)] cr)))
    (hlc : K lc (lstObj (iVals cs) N)) (hcl : cs.length = 4) (hcs : ∀ p ∈ cs, 0 ≤ p.1 ∧ p.1 < 1000000)
    (h : ∀ s' m cr lS lR N1 N2, lS.map (·.1) = back sh n0 (n0 + 1) → lR.map (·.1) = back rw' n0 (n0 + 1) →
      Stt k K L s₀ s' (asg [("shown", .ref D2), ("cells", .ref lc)] m) ((D2, lstObj (strValues lS) N2) :: (D1, lstObj (strValues lR) N1) :: cells7 ca ob (asg [("rows", .ref D1), ("off", .str off t2), ("on", .str on t1)] cr)) →
      wpAny (model prog w) A (execs (stm 10) (lawEnv ca L a cd)) Q (fun _ _ => False) s') :
    wpAny (model prog w) A (execs (stm 9) (lawEnv ca L a cd)) Q (fun _ _ => False) s := by
  refine wpAny_execs_cons (rest := stm 10) ?_
  refine wpAny_For ?_ (fun _ => rfl)
  repeat (walk_at "s")
  (rename Stt _ _ _ _ _ _ _ => H)
  refine it_range (n := 16) O.hh H (by decide) (by decide) fun I s1 St X => ?_
  refine for_I X (fun i m news => i ≤ n0 ∧ m "shown" = some (.ref D2) ∧ m "cells" = some (.ref lc) ∧ ∃ cm lS lR N1 N2 t, news = (D2, lstObj (strValues lS) N2) :: (D1, lstObj (strValues lR) N1) :: cells7 ca ob cm ∧
      lS.map (·.1) = back sh n0 i ∧ lR.map (·.1) = back rw' n0 i ∧ cm "rows" = some (.ref D1) ∧ cm "row" = some (.str (rw' (n0 - i)) t) ∧ cm "off" = some (.str off t2) ∧ cm "on" = some (.str on t1))
    (fun m news => m "shown" = some (.ref D2) ∧ m "cells" = some (.ref lc) ∧ ∃ cm lS lR N1 N2, news = (D2, lstObj (strValues lS) N2) :: (D1, lstObj (strValues lR) N1) :: cells7 ca ob cm ∧
      lS.map (·.1) = back sh n0 (n0 + 1) ∧ lR.map (·.1) = back rw' n0 (n0 + 1) ∧ cm "rows" = some (.ref D1) ∧ cm "off" = some (.str off t2) ∧ cm "on" = some (.str on t1))
    ⟨Nat.zero_le _, rfl, rfl, _, [], [], 0, 0, t3, rfl, rfl, rfl, rfl, rfl, rfl, rfl⟩ ?_ ?_ ?_
  · rintro i v m₁ news₁ s₁ K₁ hi ⟨tv, rfl⟩ ⟨hin, e1, e2, cm, lS, lR, N1, N2, t4, rfl, eS, eR, c1, c2, c3, c4⟩ H hK had
    have ecm := asg_of (l := [("rows", .ref D1), ("row", .str (rw' (n0 - i)) t4), ("off", .str off t2), ("on", .str on t1)]) (asg4 c1 c2 c3 c4)
    rw [← ecm] at H
    replace H := H.asg [("shown", .ref D2), ("cells", .ref lc)] (asg2 e1 e2)
    have hn : n0 - i < 16 := by omega
    have lenS : (strValues lS).length ≤ 100 := by have := congrArg List.length eS; rw [back_len] at this; simp [strValues] at this ⊢; omega
    have lenR : (strValues lR).length ≤ 100 := by have := congrArg List.length eR; rw [back_len] at this; simp [strValues] at this ⊢; omega
    refine q_st7 [(_, _), (_, _)] H (by decide) ?_
    clear H X
    intro s2 H
    refine tA O H (hK _ _ hlc) hcl hcs (R.size _ hn) R.off1 R.occ (R.mail _ hn) (R.mlen _ hn) lenS lenR ?_ ?_
    · intro hb s3 m3 t5 H
      rw [R.bare _ hn] at hb
      have hz : n0 - i = 0 := by simpa using hb
      have hie : i = n0 := by omega
      rw [strValues_snoc, strValues_snoc] at H
      refine ⟨_, _, H, rfl, rfl, _, _, _, _, _, rfl, ?_, ?_, rfl, rfl, rfl⟩
      · rw [List.map_append, eS, hie, back_snoc]; simp
      · rw [List.map_append, eR, hie, back_snoc]; simp
    · intro hb s3 m3 t5 H
      rw [R.bare _ hn] at hb
      have hz : n0 - i ≠ 0 := by simpa using hb
      rw [strValues_snoc, strValues_snoc] at H
      refine tB (bt := bt (n0 - i)) (wd := wd) (row' := rw' (n0 - i - 1)) O H (R.size _ hn) R.off1 R.on1 ?_ ?_
      · rcases Nat.mod_two_eq_zero_or_one (n0 - i) with h2 | h2
        · right
          exact ⟨by rw [R.zin _ hn, h2]; rfl, R.ell _ hn, R.even _ hn h2 hz⟩
        · left
          exact ⟨by rw [R.zin _ hn, h2]; rfl, R.odd _ hn h2⟩
      · intro s4 m4 t6 H
        refine ⟨_, _, H, ⟨by omega, rfl, rfl, _, _, _, _, _, t6, rfl, ?_, ?_, rfl, ?_, rfl, rfl⟩, ?_⟩
        · rw [List.map_append, eS, back_snoc]; rfl
        · rw [List.map_append, eR, back_snoc]; rfl
        · show some _ = _
          rw [show n0 - i - 1 = n0 - (i + 1) by omega]
        · rw [← had]
          simp only [List.map_cons, cells7_addr]
  · rintro s' m' news' H ⟨hin, _⟩ had
    omega
  · rintro s' m' news' H ⟨e1, e2, cm, lS, lR, N1, N2, rfl, eS, eR, c1, c3, c4⟩
    have ecm := asg_of (l := [("rows", .ref D1), ("off", .str off t2), ("on", .str on t1)]) (asg3 c1 c3 c4)
    rw [← ecm] at H
    exact h _ _ _ _ _ _ _ eS eR (H.asg [("shown", .ref D2), ("cells", .ref lc)] (asg2 e1 e2))
end
end Mine
end

section
open PySem PySem.W PyProof.Rows PySem.Calls
set_option linter.unusedVariables false
namespace Mine
section
variable {prog : Program} {w : World} {A : Around} {k : Nms} {K : Addr → Obj → Prop} {L : Addr} {s₀ s : Shared} {m : Str → Option Value} {news : List (Addr × Obj)} {R : Result → Shared → Prop} {body : List Stmt} {env : Env}
/-- a turn's end, the frame's own things anew -/
def TurnEndV (k : Nms) (K₁ : Addr → Obj → Prop) (L : Addr) (s₁ : Shared) (J : (Str → Option Value) → List (Addr × Obj) → Prop) (f : Flow) (s₃ : Shared) : Prop := match f with
  | .next | .cont => ∃ m₂ news₂, Stt k K₁ L s₁ s₃ m₂ news₂ ∧ J m₂ news₂
  | .brk => False
  | .ret _ => False
theorem for_V {I : Addr} {fp wr : List Addr} {n : Nat} {P : Nat → Value → Prop} {St : Nat → Heap → Prop} {x : Str} {px : Pos} (X : Itr prog w A k K L s₀ s m news I fp wr n P St)
    (live : ∀ i h, St i h → ∀ b ∈ fp, ∃ o, h.get? b = some o)
    (J : Nat → (Str → Option Value) → List (Addr × Obj) → Prop) (h0 : J 0 m news)
    (step : ∀ i v m₁ news₁ s₁ K₁, i < n → P i v → J i m₁ news₁ → Stt k K₁ L s₁ s₁ m₁ news₁ → (∀ b o, K b o → K₁ b o) →
      wpAny (model prog w) A (storeName env x v) (fun _ s₂ => wpAny (model prog w) A (execs body env) (TurnEndV k K₁ L s₁ (J (i + 1))) (fun _ _ => False) s₂) (fun _ _ => False) s₁)
    (done : ∀ s' m' news', Stt k K L s₀ s' m' news' → J n m' news' → R (.ok .next) s') :
    codeAny (model prog w) A (.forLoop (.Name x px) (.ref I) body [] env) R s := by
  obtain ⟨H, W, hst, hL, hn, hK, _⟩ := X
  have hLw : L ∉ wr := fun h => hL (W.sub _ h)
  refine codeAny_forLoop_any (fun n' s => ∃ i m₁ news₁, Stt k K L s₀ s m₁ news₁ ∧ St i s.heap ∧ J i m₁ news₁ ∧ (∀ p ∈ news₁, p.1 ∉ fp) ∧ i ≤ n ∧ n' = n + 1 - i) ?_ (n + 1) ⟨0, m, news, H, hst, h0, fun p hp => hn _ (List.mem_map.mpr ⟨p, hp, rfl⟩), Nat.zero_le _, rfl⟩
  rintro n' s ⟨i, m₁, news₁, H, hst, hJ, hnf, hi, rfl⟩
  have hnw : ∀ p ∈ news₁, p.1 ∉ wr := fun p hp h => hnf p hp (W.sub _ h)
  by_cases hlt : i < n
  · refine W.item i s _ _ hlt hst fun v h₂ tk₁ hP hst₂ hk₂ => ?_
    have H2 : Stt k K L s₀ { s with heap := h₂, toks := tk₁ } m₁ news₁ := H.but (t := tk₁) hk₂ hK hLw hnw
    have H3 := H2.anew.also (J := fun b o => b ∈ fp ∧ h₂.get? b = some o) (fun b o q => q.2) (fun o q => hL q.1) (fun p hp o q => hnf p hp q.1)
    refine wpAny_of_eq (a := ()) rfl ?_
    refine wpAny_mono (wpAny_assign_Name (step i v m₁ news₁ _ _ hlt hP hJ H3 (fun b o q => .inl q))) (fun _ s₂ h₂' => wpAny_mono h₂' (fun f s₃ hf => ?_) fun _ _ e => e.elim) fun _ _ e => e.elim
    have back : ∀ {m' news'}, Stt k (fun b o => K b o ∨ (b ∈ fp ∧ h₂.get? b = some o)) L { s with heap := h₂, toks := tk₁ } s₃ m' news' → Stt k K L s₀ s₃ m' news' := fun H' =>
      H'.from H.bs (fun b o q => .inl q) H2.drawn H2.os H2.gold H2.gens
    have next : (∃ m₂ news₂, Stt k (fun b o => K b o ∨ (b ∈ fp ∧ h₂.get? b = some o)) L { s with heap := h₂, toks := tk₁ } s₃ m₂ news₂ ∧ J (i + 1) m₂ news₂) →
        ∃ m, m < n + 1 - i ∧ ∃ i m₁ news₁, Stt k K L s₀ s₃ m₁ news₁ ∧ St i s₃.heap ∧ J i m₁ news₁ ∧ (∀ p ∈ news₁, p.1 ∉ fp) ∧ i ≤ n ∧ m = n + 1 - i := by
      rintro ⟨m₂, news₂, H4, hJ'⟩
      refine ⟨n + 1 - (i + 1), by omega, i + 1, m₂, news₂, back H4, W.frame (i + 1) _ _ hst₂ fun b hb o q => H4.keep b o (.inr ⟨hb, q⟩), hJ', fun p hp hf => ?_, hlt, rfl⟩
      obtain ⟨o, ho⟩ := live _ _ hst₂ p.1 hf
      exact (H4.off p hp).2 o (.inr ⟨hf, ho⟩)
    cases f with
    | next => exact next hf
    | cont => exact next hf
    | brk => exact hf.elim
    | ret v => exact hf.elim
  · obtain rfl : i = n := by omega
    refine W.done s _ _ hst fun h₁ tk₁ hk₁ => wpAny_execs_nil ?_
    exact done _ _ _ (H.but hk₁ hK hLw hnw) hJ
end
section
variable {prog : Program} {w : World} {A : Around} {s s₀ : Shared} {Q : Flow → Shared → Prop} {k : Nms} {K : Addr → Obj → Prop} {L a ls lc D1 D2 : Addr} {m : Str → Option Value} {news : List (Addr × Obj)} {ca : Str → Addr} {ob : Str → Obj} {cr : Str → Option Value} {cd : Value} {cs : List (Int × Tok)} {N n0 : Nat} {on off : Str} {t3 t1 t2 ta tl : Tok}
theorem ofs_quotes : ∀ n : Nat, n < 16 → Txt.mul "\"" (n : Int) = quotes n := by decide +kernel
set_option maxRecDepth 100000 in
set_option maxHeartbeats 4000000 in
theorem ph10 {lR : List (Str × Tok)} {NR : Nat} (O : Ok A 4 40) (H : Stt k K L s₀ s (asg [("shown", .ref D2), ("cells", .ref lc)] m) (cells7 ca ob (asg [("rows", .ref D1), ("off", .str off t2), ("on", .str on t1)] cr)))
    (hD1 : K D1 (lstObj (strValues lR) NR)) (hlen : lR.length = n0 + 1) (hn0 : n0 < 16)
    (h : ∀ s' m D3 tm t4, Stt k K L s₀ s' (asg [("marks", .str (quotes n0) tm), ("figures", .ref D3), ("shown", .ref D2), ("cells", .ref lc)] m) ((D3, lstObj (iVals []) 0) :: cells7 ca ob (asg [("moves", .int n0 t4), ("rows", .ref D1), ("off", .str off t2), ("on", .str on t1)] cr)) →
      wpAny (model prog w) A (execs (stm 13) (lawEnv ca L a cd)) Q (fun _ _ => False) s') :
    wpAny (model prog w) A (execs (stm 10) (lawEnv ca L a cd)) Q (fun _ _ => False) s := by
  refine wpAny_execs_cons (rest := stm 11) ?_
  repeat (walk_at "s")
  (rename Stt _ _ _ _ _ _ _ => H)
  refine r_len_list H (H.keep _ _ hD1) (by simp [strValues]; omega) ?_
  clear H
  intro s1 t4 H
  rw [show (strValues lR).length = n0 + 1 by simp [strValues, hlen]]
  repeat (walk_at "s")
  rw [show ((n0 + 1 : Nat) : Int) - 1 = (n0 : Int) by omega]
  (rename Stt _ _ _ _ _ _ _ => H)
  refine q_st7 [] H (by decide) ?_
  clear H
  intro s2 H
  repeat (walk_at "s")
  (rename Stt _ _ _ _ _ _ _ => H)
  refine r_mul_str H (mulOk_small (by omega) (by omega) (by decide +kernel)) ?_
  clear H
  intro s3 tm H
  rw [ofs_quotes n0 hn0]
  walk_at "s"
  (rename Stt _ _ _ _ _ _ _ => H)
  exact h _ _ _ _ _ H
end
end Mine
end

section
open PySem PySem.W PyProof.Rows PySem.Calls
set_option linter.unusedVariables false
set_option maxRecDepth 100000
namespace Mine
def toldS (q sg : Nat) : Str := ⟨(List.replicate (q / 2) 34 ++ if q % 2 = 0 then [sg] else []).toArray⟩
theorem told_parse {sg : Nat} (h : sg ≠ 34) : ∀ q : Nat, parseGo (List.replicate q 34 ++ [sg]) = List.replicate (q / 2) 34 ++ (if q % 2 = 0 then [sg] else [])
  | 0 => by simp [parseGo_cons h, parseGo_nil]
  | 1 => by simp [parseGo_other h]
  | q + 2 => by
    have ih := told_parse h q
    rw [List.replicate_succ, List.replicate_succ, List.cons_append, List.cons_append, parseGo_two, ih]
    have e1 : (q + 2) / 2 = q / 2 + 1 := by omega
    have e2 : (q + 2) % 2 = q % 2 := by omega
    rw [e1, e2, List.replicate_succ, List.cons_append]
theorem told_resp (q sg : Nat) : ("257 \"" : Str) ++ quotes q ++ ⟨#[sg]⟩ = pResp (List.replicate q 34 ++ [sg]) := by
  have e : ("257 \"" : Str) = ⟨#[50, 53, 55, 32, 34]⟩ := by decide +kernel
  rw [e]
  show Str.mk ((#[50, 53, 55, 32, 34] ++ Array.replicate q 34) ++ #[sg]) = _
  unfold pResp
  congr 1
  apply Array.ext'
  simp
structure Told (q sg : Nat) : Prop where
  last : (Txt.slice (toldS q sg) (some (-1)) none == (⟨#[sg]⟩ : Str)) = (q % 2 == 0)
  rest : Txt.slice (toldS q sg) none (some (((toldS q sg).length : Int) - 1 + ((q % 2 : Nat) : Int))) = quotes (q / 2)
  len : (toldS q sg).length ≤ 20
theorem told_len (q sg : Nat) : (toldS q sg).length = q / 2 + (1 - q % 2) := by
  show (toldS q sg).cps.size = _
  unfold toldS
  rw [List.size_toArray, List.length_append, List.length_replicate]
  split <;> simp <;> omega
theorem told_all {q sg : Nat} (h : sg ≠ 34) (hq : q < 16) : Told q sg := by
  have hl := told_len q sg
  refine ⟨?_, ?_, by omega⟩
  · by_cases h1 : q = 1
    · subst h1
      show ((⟨#[]⟩ : Str) == ⟨#[sg]⟩) = false
      simp
    · have e := beq_iff_eq.mp (slice_closes_from_neg (x := toldS q sg) (i := -1) (a := ((toldS q sg).length : Int) - 1) (b := (toldS q sg).length) (by decide) (by omega) (by omega) rfl)
      rw [e]
      rcases Nat.mod_two_eq_zero_or_one q with h2 | h2
      · rw [show (((toldS q sg).length : Int) - 1).toNat = q / 2 by omega, show (((toldS q sg).length : Int) - (((toldS q sg).length : Int) - 1)).toNat = 1 by omega]
        rw [h2]
        unfold toldS
        rw [if_pos h2]
        rw [List.drop_left' (by simp)]
        simp
      · rw [show (((toldS q sg).length : Int) - 1).toNat = q / 2 - 1 by omega, show (((toldS q sg).length : Int) - (((toldS q sg).length : Int) - 1)).toNat = 1 by omega]
        rw [h2]
        unfold toldS
        rw [if_neg (by omega)]
        obtain ⟨n, hn⟩ : ∃ n, q / 2 = n + 1 := ⟨q / 2 - 1, by omega⟩
        rw [hn]
        have : ((List.replicate (n + 1) 34 ++ []).drop (n + 1 - 1)) = [34] := by simp [List.drop_replicate]
        rw [this]
        show ((⟨#[34]⟩ : Str) == ⟨#[sg]⟩) = false
        rw [one_eq]
        simp; exact fun e => h e.symm
  · have e := beq_iff_eq.mp (slice_closes_to (x := toldS q sg) (j := ((toldS q sg).length : Int) - 1 + ((q % 2 : Nat) : Int)) (by have : (toldS q sg).cps.toList.length = (toldS q sg).length := by simp [Str.length]
                                                                                                                                  omega))
    rw [e, show (((toldS q sg).length : Int) - 1 + ((q % 2 : Nat) : Int) - 0).toNat = q / 2 by omega]
    unfold toldS quotes
    simp [List.take_left']
end Mine
end

section
open PySem PySem.W PyProof.Rows PySem.Calls
set_option linter.unusedVariables false
namespace Mine
/-- the figures of the low i places -/
def lowF (n0 : Nat) : Nat → List Int
  | 0 => []
  | i + 1 => ((n0 / 2 ^ i % 2 : Nat) : Int) :: lowF n0 i
def paFor : Stmt := (stm 13).headD (.Pass default)
def pb (j : Nat) : List Stmt := (forBod paFor).drop j
section
variable {prog : Program} {w : World} {A : Around} {s s₀ : Shared} {Q : Flow → Shared → Prop} {k : Nms} {K : Addr → Obj → Prop} {L a ls lc D1 D2 F : Addr} {m : Str → Option Value} {news : List (Addr × Obj)} {ca : Str → Addr} {ob : Str → Obj} {cr : Str → Option Value} {cd : Value} {cs fs : List (Int × Tok)} {N n0 q NF : Nat} {on off : Str} {t3 t1 t2 ta tl tm tc : Tok} {cell : Int} {tail : List (Addr × Obj)}
set_option maxRecDepth 100000 in
set_option maxHeartbeats 4000000 in
theorem pT (O : Ok A 4 40) (H : Stt k K L s₀ s (asg [("cell", .int cell tc), ("marks", .str (quotes q) tm), ("figures", .ref F), ("shown", .ref D2), ("cells", .ref lc)] m) ((F, lstObj (iVals fs) NF) :: tail))
    (h0 : 0 ≤ cell) (h1 : cell < 1000000) (hq : q < 16) (hfs : fs.length ≤ 10)
    (h : ∀ s' m' D tm' tf, Stt k K L s₀ s' (asg [("marks", .str (quotes (q / 2)) tm'), ("figures", .ref D), ("shown", .ref D2), ("cells", .ref lc)] m') ((D, lstObj (iVals ((((q % 2 : Nat) : Int), tf) :: fs)) 0) :: tail) → Q .next s') :
    wpAny (model prog w) A (execs (pb 0) (lawEnv ca L a cd)) Q (fun _ _ => False) s := by
  have hql : (quotes q).length ≤ 20 := by show (Array.replicate q 34).size ≤ 20; rw [Array.size_replicate]; omega
  have hsg : (192 + cell / 32).toNat ≠ 34 := by omega
  obtain ⟨T1, T2, T3⟩ := told_all hsg hq
  have T0 := told_parse hsg q
  have Tr := told_resp q (192 + cell / 32).toNat
  have hlen : (List.replicate q 34 ++ [(192 + cell / 32).toNat]).length ≤ 400 := by simp; omega
  have e257 : ("257 \"" : Str).length = 5 := by decide +kernel
  generalize hs : (192 + cell / 32).toNat = sg at *
  generalize List.replicate q 34 ++ [sg] = lst at *
  have htold : (⟨(parseGo lst).toArray⟩ : Str) = toldS q sg := by rw [T0]; rfl
  generalize toldS q sg = told at *
  clear T0
  refine wpAny_execs_cons (rest := pb 1) ?_
  repeat (walk_at "s")
  (rename Stt _ _ _ _ _ _ _ => H)
  refine r_chr H (by omega) (by omega) ?_
  clear H
  intro s1 t4 H
  rw [hs]
  generalize quotes q = qs at *
  have hs1 : (⟨#[sg]⟩ : Str).length = 1 := rfl
  generalize (⟨#[sg]⟩ : Str) = sgs at *
  repeat (walk_at "s")
  (rename Stt _ _ _ _ _ _ _ => H)
  refine r_glob H H.here.fP.g ?_
  refine r_callWith (fun h B => B.fP) ?_
  repeat (walk_at "s")
  (rename Stt _ _ _ _ _ _ _ => H)
  refine r_add_str H (by rw [sizeLine_eq]; omega) ?_
  clear H
  intro s2 t5 H
  repeat (walk_at "s")
  (rename Stt _ _ _ _ _ _ _ => H)
  refine r_add_str H (by rw [sizeLine_eq, len_app]; omega) ?_
  clear H
  intro s3 t6 H
  rw [Tr]
  repeat (walk_at "s")
  (rename Stt _ _ _ _ _ _ _ => H)
  refine ⟨H.here, ?_⟩
  refine parse_call H.here (O.less) hlen fun s4 t7 hg => ?_
  replace H := H.grows hg
  clear hg
  rw [htold]
  clear htold Tr hlen
  repeat (walk_at "s")
  have hz : told.length ≤ sizeLine := by rw [sizeLine_eq]; omega
  refine List_ ?_
  repeat (walk_at "s")
  (rename Stt _ _ _ _ _ _ _ => H)
  refine r_slice_sn H hz ?_
  clear H
  intro s5 t8 H
  repeat (walk_at "s")
  rw [T1]
  rcases Nat.mod_two_eq_zero_or_one q with hq2 | hq2
  · refine ite_t (by rw [hq2]; rfl) ?_
    rw [hq2] at h
    repeat (walk_at "s")
    (rename Stt _ _ _ _ _ _ _ => H)
    refine r_add_list (ws := iVals fs) H (H.new _ (.head _)) (H.new _ (.tail _ (.head _))) (by simp [iVals]; omega) ?_
    clear H
    intro s6 D H
    repeat (walk_at "s")
    (rename Stt _ _ _ _ _ _ _ => H)
    refine r_item_list (x := .int 0 _) (H.new _ (.head _)) 0 (.inl rfl) (by simp [iVals]; omega) rfl ?_
    repeat (walk_at "s")
    (rename Stt _ _ _ _ _ _ _ => H)
    refine r_slice_ns H hz ?_
    clear H
    intro s7 t9 H
    rw [hq2] at T2
    rw [show ((told.length : Int) - 1 + 0) = (told.length : Int) - 1 + ((0 : Nat) : Int) by rfl, T2]
    repeat (walk_at "s")
    (rename Stt _ _ _ _ _ _ _ => H)
    refine h _ _ D t9 _ ((H.asg [("marks", .str (quotes (q / 2)) t9), ("figures", .ref D), ("shown", .ref D2), ("cells", .ref lc)] (asg4 rfl rfl rfl rfl)).drop (.cons₂ _ (.cons _ (.cons _ (List.Sublist.refl _)))))
  · refine ite_f (by rw [hq2]; rfl) ?_
    rw [hq2] at h
    repeat (walk_at "s")
    (rename Stt _ _ _ _ _ _ _ => H)
    refine r_add_list (ws := iVals fs) H (H.new _ (.head _)) (H.new _ (.tail _ (.head _))) (by simp [iVals]; omega) ?_
    clear H
    intro s6 D H
    repeat (walk_at "s")
    (rename Stt _ _ _ _ _ _ _ => H)
    refine r_item_list (x := .int 1 _) (H.new _ (.head _)) 0 (.inl rfl) (by simp [iVals]; omega) rfl ?_
    repeat (walk_at "s")
    (rename Stt _ _ _ _ _ _ _ => H)
    refine r_slice_ns H hz ?_
    clear H
    intro s7 t9 H
    rw [hq2] at T2
    rw [show ((told.length : Int) - 1 + 1) = (told.length : Int) - 1 + ((1 : Nat) : Int) by rfl, T2]
    repeat (walk_at "s")
    (rename Stt _ _ _ _ _ _ _ => H)
    refine h _ _ D t9 _ ((H.asg [("marks", .str (quotes (q / 2)) t9), ("figures", .ref D), ("shown", .ref D2), ("cells", .ref lc)] (asg4 rfl rfl rfl rfl)).drop (.cons₂ _ (.cons _ (.cons _ (List.Sublist.refl _)))))
end
end Mine
end

section
open PySem PySem.W PyProof.Rows PySem.Calls
set_option linter.unusedVariables false
namespace Mine
section
variable {prog : Program} {w : World} {A : Around} {k : Nms} {K : Addr → Obj → Prop} {L : Addr} {s₀ s s₂ : Shared} {m r : Str → Option Value} {news : List (Addr × Obj)} {env : Env} {E Q : Value → Shared → Prop}
theorem it_listL {ax : Addr} {vs : List Value} {N : Nat} (hh : A.handled = none) (H : Stt k K L s₀ s m news) (hK : K ax (lstObj vs N))
    (h : ∀ I s' St, (∀ i h, St i h → ∀ b ∈ [I, ax], ∃ o, h.get? b = some o) → Itr prog w A k K L s₀ s' m news I [I, ax] [I] vs.length (fun i v => vs[i]? = some v) St → Q (.ref I) s') : wpAny (model prog w) A (pyIter (.ref ax)) Q E s := by
  have hl := lst_is (H.keep _ _ hK)
  refine wpAny_pyIter_list hl (h _ _ (fun i h => h.IsListIter s.heap.objs.size ax i ∧ h.IsList ax vs.toArray) ?_ (itr_of H hK rfl ?_ ⟨⟨_, Heap.get?_push_size _ rfl, rfl, rfl⟩, hl.push _⟩))
  · rintro i h ⟨⟨o, e, _⟩, ⟨o2, e2, _⟩⟩ b hb
    rcases List.mem_cons.mp hb with rfl | hb
    · exact ⟨_, e⟩
    · rw [List.mem_singleton.mp hb]; exact ⟨_, e2⟩
  · have W := Walks.list (prog := prog) (w := w) hh s.heap.objs.size ax (Nat.ne_of_lt (Heap.lt_size (H.keep _ _ hK))) vs.toArray
    simpa using W
end
theorem pick_rev {cs : List (Int × Tok)} (h : cs.length = 4) : ∃ ps : List (Int × Tok), (slicePick (iVals cs).toArray none none (some (-1))).toList = iVals ps ∧ ps.length = 4 ∧ ∀ p ∈ ps, p ∈ cs := by
  match cs, h with
  | [a, b, c, d], _ => exact ⟨[d, c, b, a], by simp [slicePick, sliceBounds, sliceRange, iVals, List.range_succ], rfl, by simp⟩
section
variable {prog : Program} {w : World} {A : Around} {s s₀ : Shared} {Q : Flow → Shared → Prop} {k : Nms} {K : Addr → Obj → Prop} {L a ls lc D1 D2 F : Addr} {m : Str → Option Value} {news : List (Addr × Obj)} {ca : Str → Addr} {ob : Str → Obj} {cm : Str → Option Value} {cd : Value} {cs fs : List (Int × Tok)} {N n0 q NF : Nat} {on off : Str} {t3 t1 t2 ta tl tm tc : Tok} {cell : Int}
set_option maxRecDepth 100000 in
set_option maxHeartbeats 4000000 in
theorem ph13 (O : Ok A 4 40) (H : Stt k K L s₀ s (asg [("marks", .str (quotes n0) tm), ("figures", .ref F), ("shown", .ref D2), ("cells", .ref lc)] m) ((F, lstObj (iVals []) 0) :: cells7 ca ob cm))
    (hlc : K lc (lstObj (iVals cs) N)) (hcl : cs.length = 4) (hcs : ∀ p ∈ cs, 0 ≤ p.1 ∧ p.1 < 1000000) (hn : n0 < 16)
    (h : ∀ s' m F fs NF tm, fs.map (·.1) = lowF n0 4 → Stt k K L s₀ s' (asg [("marks", .str (quotes 0) tm), ("figures", .ref F), ("shown", .ref D2), ("cells", .ref lc)] m) ((F, lstObj (iVals fs) NF) :: cells7 ca ob cm) →
      wpAny (model prog w) A (execs (stm 14) (lawEnv ca L a cd)) Q (fun _ _ => False) s') :
    wpAny (model prog w) A (execs (stm 13) (lawEnv ca L a cd)) Q (fun _ _ => False) s := by
  refine wpAny_execs_cons (rest := stm 14) ?_
  refine wpAny_For ?_ (fun _ => rfl)
  repeat (walk_at "s")
  (rename Stt _ _ _ _ _ _ _ => H)
  refine r_slice_list H (H.keep _ _ hlc) .none .none (.int _ _) (by decide) (by simp [iVals]; omega) ?_
  clear H
  intro s1 Dr H
  obtain ⟨ps, hps, hpl, hpm⟩ := pick_rev hcl
  rw [hps] at H
  clear hps
  have hbs := H.bs
  replace H := H.freeze
  refine it_listL O.hh H (.inr ⟨rfl, rfl⟩) fun I s1 St live X => ?_
  refine for_V X live (fun i m news => m "shown" = some (.ref D2) ∧ m "cells" = some (.ref lc) ∧ ∃ F fs NF tm, m "figures" = some (.ref F) ∧ m "marks" = some (.str (quotes (n0 / 2 ^ i)) tm) ∧ fs.map (·.1) = lowF n0 i ∧ news = (F, lstObj (iVals fs) NF) :: cells7 ca ob cm)
    ⟨rfl, rfl, F, [], 0, tm, rfl, by rw [Nat.pow_zero, Nat.div_one]; rfl, rfl, rfl⟩ ?_ ?_
  · rintro i v m₁ news₁ s₁ K₁ hi hv ⟨e1, e2, F, fs, NF, tm, e3, e4, e5, rfl⟩ H hK
    obtain ⟨cell, u, hc3, rfl⟩ := iVals_at (cs := ps) (i := i) (x := v) (by simpa using hv)
    have hcell := hcs _ (hpm _ (List.mem_of_getElem? hc3))
    have hq : n0 / 2 ^ i < 16 := Nat.lt_of_le_of_lt (Nat.div_le_self _ _) hn
    have hi4 : i < 4 := by simpa [iVals, hpl] using hi
    have hfl : fs.length ≤ 10 := by
      have := congrArg List.length e5
      have h2 : ∀ i, (lowF n0 i).length = i := fun i => by induction i with | zero => rfl | succ i ih => simp [lowF, ih]
      rw [h2, List.length_map] at this
      omega
    replace H := H.asg [("marks", .str (quotes (n0 / 2 ^ i)) tm), ("figures", .ref F), ("shown", .ref D2), ("cells", .ref lc)] (asg4 e4 e3 e1 e2)
    clear X
    walk_at "s"
    (rename Stt _ _ _ _ _ _ _ => H)
    refine pT O H hcell.1 hcell.2 hq hfl fun s' m' D tm' tf H => ?_
    refine ⟨_, _, H, rfl, rfl, D, _, 0, tm', rfl, ?_, ?_, rfl⟩
    · show some _ = _
      rw [Nat.div_div_eq_div_mul, ← Nat.pow_succ]
    · rw [List.map_cons, e5]; rfl
  · rintro s' m' news' H ⟨e1, e2, F, fs, NF, tm, e3, e4, e5, rfl⟩
    rw [show (iVals ps).length = 4 by simp [iVals, hpl]] at e4 e5
    rw [show n0 / 2 ^ 4 = 0 by omega] at e4
    exact h _ _ F fs NF tm e5 ((H.asg [("marks", .str (quotes 0) tm), ("figures", .ref F), ("shown", .ref D2), ("cells", .ref lc)] (asg4 e4 e3 e1 e2)).only hbs fun b o e => .inl e)
end
end Mine
end

section
open PySem PySem.W PyProof.Rows PySem.Calls
set_option linter.unusedVariables false
namespace Mine
def figsN (n : Nat) : List Int := lowF n 4
theorem back_at {f : Nat → Str} {n0 i : Nat} {l : List (Str × Tok)} (h : l.map (·.1) = back f n0 (n0 + 1)) (hi : i ≤ n0) : ∃ t, (strValues l)[i]? = some (.str (f (n0 - i)) t) := by
  have e : (l.map (·.1))[i]? = some (f (n0 - i)) := by
    rw [h]; unfold back
    rw [List.getElem?_map, List.getElem?_range (by omega)]; rfl
  rw [List.getElem?_map] at e
  obtain ⟨⟨y, t⟩, h1, h2⟩ := Option.map_eq_some_iff.mp e
  refine ⟨t, ?_⟩
  unfold strValues
  rw [List.getElem?_map, h1]
  simp at h2
  rw [← h2]; rfl
theorem back_vals {f : Nat → Str} {n0 : Nat} {l : List (Str × Tok)} (h : l.map (·.1) = back f n0 (n0 + 1)) : (strValues l).length = n0 + 1 := by
  have := congrArg List.length h
  rw [back_len, List.length_map] at this
  simp [strValues, this]
section
variable {prog : Program} {w : World} {A : Around} {s s₀ : Shared} {Q : Flow → Shared → Prop} {k : Nms} {K : Addr → Obj → Prop} {L a ls lc D1 D2 F : Addr} {m : Str → Option Value} {news : List (Addr × Obj)} {ca : Str → Addr} {ob : Str → Obj} {cr : Str → Option Value} {cd : Value} {cs fs : List (Int × Tok)} {N n0 q NF N1 N2 : Nat} {on off : Str} {t3 t1 t2 ta tl tm tc : Tok} {rw' : Nat → Str} {lS lR : List (Str × Tok)} {mv : Value}
set_option maxRecDepth 100000 in
set_option maxHeartbeats 4000000 in
theorem ph14 (O : Ok A 4 40) (H : Stt k K L s₀ s (asg [("marks", .str (quotes 0) tm), ("figures", .ref F), ("shown", .ref D2), ("cells", .ref lc)] m) ((F, lstObj (iVals fs) NF) :: cells7 ca ob (asg [("moves", mv), ("rows", .ref D1), ("off", .str off t2), ("on", .str on t1)] cr)))
    (hlc : K lc (lstObj (iVals cs) N)) (hcl : cs.length = 4) (hcs : ∀ p ∈ cs, 0 ≤ p.1 ∧ p.1 < 1000000) (hn : n0 < 16) (hsz : (rw' n0).cps.size = 4)
    (hD1 : K D1 (lstObj (strValues lR) N1)) (hD2 : K D2 (lstObj (strValues lS) N2)) (hS : lS.map (·.1) = back (fun n => shownF (rw' n) on (cs.map (·.1)) (figsN n)) n0 (n0 + 1)) (hR : lR.map (·.1) = back rw' n0 (n0 + 1))
    (hfs : fs.map (·.1) = figsN n0)
    (h : ∀ s' m, Stt k K L s₀ s' (asg [("shown", .ref D2), ("cells", .ref lc)] m) (cells7 ca ob (asg [("moves", mv), ("rows", .ref D1), ("off", .str off t2), ("on", .str on t1)] cr)) →
      wpAny (model prog w) A (execs (stm 15) (lawEnv ca L a cd)) Q (fun _ _ => False) s') :
    wpAny (model prog w) A (execs (stm 14) (lawEnv ca L a cd)) Q (fun _ _ => False) s := by
  have hfl : fs.length = 4 := by have := congrArg List.length hfs; rw [List.length_map] at this; exact this
  have lenS := back_vals hS
  have lenR := back_vals hR
  obtain ⟨tS, eS⟩ := back_at hS (Nat.zero_le n0)
  obtain ⟨tR, eR⟩ := back_at hR (Nat.zero_le n0)
  rw [Nat.sub_zero] at eS eR
  rw [← hfs] at eS
  refine wpAny_execs_cons (rest := stm 15) ?_
  repeat (walk_at "s")
  refine ite_f (by decide +kernel) ?_
  repeat (walk_at "s")
  (rename Stt _ _ _ _ _ _ _ => H)
  refine r_item_list (H.keep _ _ hD2) 0 (.inl rfl) (by omega) eS ?_
  repeat (walk_at "s")
  (rename Stt _ _ _ _ _ _ _ => H)
  refine r_glob H H.here.fW.g ?_
  refine r_callWith (fun h B => B.fW) ?_
  repeat (walk_at "s")
  (rename Stt _ _ _ _ _ _ _ => H)
  refine r_item_list (H.keep _ _ hD1) 0 (.inl rfl) (by omega) eR ?_
  repeat (walk_at "s")
  (rename Stt _ _ _ _ _ _ _ => H)
  refine ⟨H.here, ?_⟩
  refine shown_call H.here (O.less) hsz hcl hfl hcs (lst_is (H.keep _ _ hlc)) (lst_is (H.new _ (.head _))) fun s4 t7 hg => ?_
  replace H := H.grows hg
  clear hg
  repeat (walk_at "s")
  refine ite_f (by simp) ?_
  walk_at "s"
  refine ite_f rfl ?_
  walk_at "s"
  (rename Stt _ _ _ _ _ _ _ => H)
  exact h _ _ ((H.asg [("shown", .ref D2), ("cells", .ref lc)] (asg2 rfl rfl)).drop (List.sublist_cons_self _ _))
end
end Mine
end

section
open PySem PySem.W PyProof.Rows PySem.Calls
set_option linter.unusedVariables false
namespace Mine
def shFor2 : Stmt := (stm 15).headD (.Pass default)
def sb (j : Nat) : List Stmt := (forBod shFor2).drop j
theorem figs_take (d : Nat) (l : List (Int × Tok)) : (∀ t : Tok, l.map (·.1) = (figsN d).take 0 → (l ++ [((d : Int) / 8 % 2, t)]).map (·.1) = (figsN d).take 1) ∧ (∀ t : Tok, l.map (·.1) = (figsN d).take 1 → (l ++ [((d : Int) / 4 % 2, t)]).map (·.1) = (figsN d).take 2) ∧
    (∀ t : Tok, l.map (·.1) = (figsN d).take 2 → (l ++ [((d : Int) / 2 % 2, t)]).map (·.1) = (figsN d).take 3) ∧ (∀ t : Tok, l.map (·.1) = (figsN d).take 3 → (l ++ [((d : Int) / 1 % 2, t)]).map (·.1) = (figsN d).take 4) := by
  refine ⟨fun t h => ?_, fun t h => ?_, fun t h => ?_, fun t h => ?_⟩ <;> (rw [List.map_append, h]; simp [figsN, lowF])
section
variable {prog : Program} {w : World} {A : Around} {s s₀ : Shared} {Q : Flow → Shared → Prop} {k : Nms} {K : Addr → Obj → Prop} {L a ls lc D1 D2 F : Addr} {m : Str → Option Value} {news : List (Addr × Obj)} {ca : Str → Addr} {ob : Str → Obj} {cr : Str → Option Value} {cd : Value} {cs fs : List (Int × Tok)} {N n0 d NF N1 N2 : Nat} {on off row : Str} {t3 t1 t2 t4 ta tl tm tc tt tS tR : Tok} {mv tv : Int} {vS vR : List Value} {j : Nat}
set_option maxRecDepth 100000 in
set_option maxHeartbeats 4000000 in
theorem sT (O : Ok A 4 40) (H : Stt k K L s₀ s (asg [("shown", .ref D2), ("cells", .ref lc)] m) (cells7 ca ob (asg [("turn", .int tv tt), ("moves", .int mv t4), ("rows", .ref D1), ("off", .str off t2), ("on", .str on t1)] cr)))
    (hlc : K lc (lstObj (iVals cs) N)) (hcl : cs.length = 4) (hcs : ∀ p ∈ cs, 0 ≤ p.1 ∧ p.1 < 1000000) (hsz : row.cps.size = 4)
    (hD1 : K D1 (lstObj vR N1)) (hD2 : K D2 (lstObj vS N2)) (hd : mv - tv = (d : Int)) (hj : tv = (j : Int)) (lenS : vS.length ≤ 100) (lenR : vR.length ≤ 100)
    (eS : vS[j]? = some (.str (shownF row on (cs.map (·.1)) (figsN d)) tS)) (eR : vR[j]? = some (.str row tR))
    (h : ∀ s' m, Stt k K L s₀ s' (asg [("shown", .ref D2), ("cells", .ref lc)] m) (cells7 ca ob (asg [("turn", .int tv tt), ("moves", .int mv t4), ("rows", .ref D1), ("off", .str off t2), ("on", .str on t1)] cr)) → Q .next s') :
    wpAny (model prog w) A (execs (sb 0) (lawEnv ca L a cd)) Q (fun _ _ => False) s := by
  refine wpAny_execs_cons (rest := sb 1) ?_
  refine r_assign_comp (k := k) (K := K) (s₀ := s₀) (l := [("shown", .ref D2), ("cells", .ref lc)]) (r := m) rfl rfl (by decide +kernel) rfl (by decide +kernel) rfl rfl ?_
  repeat (walk_at "s")
  (rename Stt _ _ _ _ _ _ _ => H)
  refine comp_tuple O.hh H (H.new _ (.head _)) (Nat.le_of_ble_eq_true rfl) (fun i ys => ∃ l : List (Int × Tok), ys = iVals l ∧ l.map (·.1) = (figsN d).take i) ⟨[], rfl, rfl⟩ ?_ ?_
  · rintro i v C D s₁ K₁ m₁ ys N1 hi hv ⟨l, rfl, hl2⟩ H1 hk
    have hcell1 : InCell K₁ (ca "moves") (.int mv t4) := ⟨_, hk _ _ (by simp) (H.new (ca "moves", _) (List.mem_cons_of_mem _ (mem7 (by decide)))), rfl⟩
    have hcell2 : InCell K₁ (ca "turn") (.int tv tt) := ⟨_, hk _ _ (by simp) (H.new (ca "turn", _) (List.mem_cons_of_mem _ (mem7 (by decide)))), rfl⟩
    clear hk H h
    obtain ⟨f1, f2, f3, f4⟩ := figs_take d l
    rw [← hd] at f1 f2 f3 f4
    generalize figsN d = fg at *
    replace H1 := H1.asg [] asg0
    rcases i with _ | _ | _ | _ | i
    · cases hv
      repeat (walk_at "s")
      refine tests0 ?_
      refine ite_t rfl ?_
      repeat (walk_at "s")
      (rename Stt _ _ _ _ _ _ _ => H)
      exact ⟨⟨_, [], H⟩, _, iVals_snoc _ _ _, f1 _ hl2⟩
    · cases hv
      repeat (walk_at "s")
      refine tests0 ?_
      refine ite_t rfl ?_
      repeat (walk_at "s")
      (rename Stt _ _ _ _ _ _ _ => H)
      exact ⟨⟨_, [], H⟩, _, iVals_snoc _ _ _, f2 _ hl2⟩
    · cases hv
      repeat (walk_at "s")
      refine tests0 ?_
      refine ite_t rfl ?_
      repeat (walk_at "s")
      (rename Stt _ _ _ _ _ _ _ => H)
      exact ⟨⟨_, [], H⟩, _, iVals_snoc _ _ _, f3 _ hl2⟩
    · cases hv
      repeat (walk_at "s")
      refine tests0 ?_
      refine ite_t rfl ?_
      repeat (walk_at "s")
      (rename Stt _ _ _ _ _ _ _ => H)
      exact ⟨⟨_, [], H⟩, _, iVals_snoc _ _ _, f4 _ hl2⟩
    · exact absurd hi (by simp)
  · rintro F s' ys NF H' ⟨fs, rfl, hl2⟩ s'' H''
    have hfs : fs.map (·.1) = figsN d := hl2
    have hfl : fs.length = 4 := by have := congrArg List.length hfs; rw [List.length_map] at this; exact this
    rw [← hfs] at eS
    clear H H' hl2
    repeat (walk_at "s")
    (rename Stt _ _ _ _ _ _ _ => H)
    refine r_item_list (H.keep _ _ hD2) j (.inl hj) (by omega) eS ?_
    repeat (walk_at "s")
    (rename Stt _ _ _ _ _ _ _ => H)
    refine r_glob H H.here.fW.g ?_
    refine r_callWith (fun h B => B.fW) ?_
    repeat (walk_at "s")
    (rename Stt _ _ _ _ _ _ _ => H)
    refine r_item_list (H.keep _ _ hD1) j (.inl hj) (by omega) eR ?_
    repeat (walk_at "s")
    (rename Stt _ _ _ _ _ _ _ => H)
    refine ⟨H.here, ?_⟩
    refine shown_call H.here (O.less) hsz hcl hfl hcs (lst_is (H.keep _ _ hlc)) (lst_is (H.new _ (.head _))) fun s4 t7 hg => ?_
    replace H := H.grows hg
    clear hg
    repeat (walk_at "s")
    refine ite_f (by simp) ?_
    repeat (walk_at "s")
    (rename Stt _ _ _ _ _ _ _ => H)
    exact h _ _ ((H.asg [("shown", .ref D2), ("cells", .ref lc)] (asg2 rfl rfl)).drop (.cons _ (.cons _ (List.Sublist.refl _))))
end
end Mine
end

section
open PySem PySem.W PyProof.Rows PySem.Calls
set_option linter.unusedVariables false
namespace Mine
theorem small_n : ∀ n : Nat, n < 17 → Builtin.Range.small 1 (n : Int) 1 = true := by decide +kernel
section
variable {prog : Program} {w : World} {A : Around} {s s₀ : Shared} {Q : Flow → Shared → Prop} {k : Nms} {K : Addr → Obj → Prop} {L a ls lc D1 D2 F : Addr} {m : Str → Option Value} {news : List (Addr × Obj)} {ca : Str → Addr} {ob : Str → Obj} {cr : Str → Option Value} {cd : Value} {cs fs : List (Int × Tok)} {N n0 d NF N1 N2 : Nat} {on off row : Str} {t3 t1 t2 t4 ta tl tm tc tt tS tR : Tok} {rw' : Nat → Str} {lS lR : List (Str × Tok)}
set_option maxRecDepth 100000 in
set_option maxHeartbeats 4000000 in
theorem ph15 (O : Ok A 4 40) (H : Stt k K L s₀ s (asg [("shown", .ref D2), ("cells", .ref lc)] m) (cells7 ca ob (asg [("moves", .int n0 t4), ("rows", .ref D1), ("off", .str off t2), ("on", .str on t1)] cr)))
    (hlc : K lc (lstObj (iVals cs) N)) (hcl : cs.length = 4) (hcs : ∀ p ∈ cs, 0 ≤ p.1 ∧ p.1 < 1000000) (hn : n0 < 16) (hsz : ∀ n, n < 16 → (rw' n).cps.size = 4)
    (hD1 : K D1 (lstObj (strValues lR) N1)) (hD2 : K D2 (lstObj (strValues lS) N2)) (hS : lS.map (·.1) = back (fun n => shownF (rw' n) on (cs.map (·.1)) (figsN n)) n0 (n0 + 1)) (hR : lR.map (·.1) = back rw' n0 (n0 + 1))
    (h : ∀ s' m cr, Stt k K L s₀ s' (asg [("shown", .ref D2), ("cells", .ref lc)] m) (cells7 ca ob (asg [("moves", .int n0 t4), ("rows", .ref D1), ("off", .str off t2), ("on", .str on t1)] cr)) →
      wpAny (model prog w) A (execs (stm 16) (lawEnv ca L a cd)) Q (fun _ _ => False) s') :
    wpAny (model prog w) A (execs (stm 15) (lawEnv ca L a cd)) Q (fun _ _ => False) s := by
  have lenS := back_vals hS
  have lenR := back_vals hR
  refine wpAny_execs_cons (rest := stm 16) ?_
  refine wpAny_For ?_ (fun _ => rfl)
  repeat (walk_at "s")
  (rename Stt _ _ _ _ _ _ _ => H)
  refine it_range (n := n0) O.hh H (small_n (n0 + 1) (by omega)) (by rw [rangeSize_one]; split <;> omega) fun I s1 St X => ?_
  refine for_I X (fun i m news => m "shown" = some (.ref D2) ∧ m "cells" = some (.ref lc) ∧ ∃ cm, news = cells7 ca ob cm ∧ cm "moves" = some (.int n0 t4) ∧ cm "rows" = some (.ref D1) ∧ cm "off" = some (.str off t2) ∧ cm "on" = some (.str on t1)) (fun _ _ => False)
    ⟨rfl, rfl, _, rfl, rfl, rfl, rfl, rfl⟩ ?_ ?_ (fun _ _ _ _ e => e.elim)
  · rintro i v m₁ news₁ s₁ K₁ hi ⟨tt, rfl⟩ ⟨e1, e2, cm, rfl, c1, c2, c3, c4⟩ H hK had
    have ecm := asg_of (l := [("moves", .int n0 t4), ("rows", .ref D1), ("off", .str off t2), ("on", .str on t1)]) (asg4 c1 c2 c3 c4)
    rw [← ecm] at H
    replace H := H.asg [("shown", .ref D2), ("cells", .ref lc)] (asg2 e1 e2)
    obtain ⟨tS, eS⟩ := back_at hS (i := 1 + i) (by omega)
    obtain ⟨tR, eR⟩ := back_at hR (i := 1 + i) (by omega)
    refine q_st7 [] H (by decide) ?_
    clear H X
    intro s2 H
    refine sT (d := n0 - (1 + i)) (j := 1 + i) O H (hK _ _ hlc) hcl hcs (hsz _ (by omega)) (hK _ _ hD1) (hK _ _ hD2) (by omega) (by omega) (by omega) (by omega) eS eR fun s' m' H => ?_
    exact ⟨_, _, H, ⟨rfl, rfl, _, rfl, rfl, rfl, rfl, rfl⟩, by rw [cells7_addr, cells7_addr]⟩
  · rintro s' m' news' H ⟨e1, e2, cm, rfl, c1, c2, c3, c4⟩ had
    have ecm := asg_of (l := [("moves", .int n0 t4), ("rows", .ref D1), ("off", .str off t2), ("on", .str on t1)]) (asg4 c1 c2 c3 c4)
    rw [← ecm] at H
    exact h _ _ _ (H.asg [("shown", .ref D2), ("cells", .ref lc)] (asg2 e1 e2))
end
end Mine
end

section
open PySem PySem.W PyProof.Rows PySem.Calls
set_option linter.unusedVariables false
namespace Mine
section
variable {prog : Program} {w : World} {A : Around} {s s₀ : Shared} {Q : Flow → Shared → Prop} {k : Nms} {K : Addr → Obj → Prop} {L a ls lc D1 D2 : Addr} {m : Str → Option Value} {news : List (Addr × Obj)} {ca : Str → Addr} {ob : Str → Obj} {cr : Str → Option Value} {cd : Value} {cs : List (Int × Tok)} {N N1 N2 : Nat} {row on off left row' : Str} {t3 t1 t2 t4 ta tl tR : Tok} {oS oR : Obj} {mv : Value} {at' : Int} {bt : Nat → Bool} {wd : Nat → Str} {vR : List Value}
set_option maxRecDepth 100000 in
set_option maxHeartbeats 4000000 in
theorem ph16 (O : Ok A 4 40) (H : Stt k K L s₀ s (asg [("shown", .ref D2), ("cells", .ref lc)] m) (cells7 ca ob (asg [("moves", mv), ("rows", .ref D1), ("off", .str off t2), ("on", .str on t1)] cr)))
    (hrow : row.length = 4) (hoff : off.length = 1) (hon : on.length = 1) (hD1 : K D1 (lstObj vR N1)) (lenR : vR.length ≤ 100) (eR : vR[0]? = some (.str row tR)) (hW : ∀ j, j < 3 → EllW row on off bt wd j)
    (h : ∀ s' m D l NL, l.map (·.1) = lastL bt 3 → Stt k K L s₀ s' (asg [("last", .ref D), ("shown", .ref D2), ("cells", .ref lc)] m) ((D, lstObj (iVals l) NL) :: cells7 ca ob (asg [("moves", mv), ("rows", .ref D1), ("off", .str off t2), ("on", .str on t1)] cr)) →
      wpAny (model prog w) A (execs (stm 17) (lawEnv ca L a cd)) Q (fun _ _ => False) s') :
    wpAny (model prog w) A (execs (stm 16) (lawEnv ca L a cd)) Q (fun _ _ => False) s := by
    refine wpAny_execs_cons (rest := stm 17) ?_
    refine r_assign_comp (k := k) (K := K) (s₀ := s₀) (l := [("shown", .ref D2), ("cells", .ref lc)]) (r := m) rfl rfl (by decide +kernel) rfl (by decide +kernel) rfl rfl ?_
    repeat (walk_at "s")
    (rename Stt _ _ _ _ _ _ _ => H)
    refine comp_tuple O.hh H (H.new _ (.head _)) (Nat.le_of_ble_eq_true rfl) (fun i ys => ∃ l : List (Int × Tok), ys = iVals l ∧ l.map (·.1) = lastL bt i) ⟨[], rfl, rfl⟩ ?_ ?_
    · rintro i v C D s₁ K₁ m₁ ys N2 hi hv ⟨l, rfl, hl2⟩ H1 hk
      obtain ⟨u, rfl⟩ : ∃ u, v = .int ((i : Int) + 1) u := by
        rcases i with _ | _ | _ | i
        · cases hv; exact ⟨_, rfl⟩
        · cases hv; exact ⟨_, rfl⟩
        · cases hv; exact ⟨_, rfl⟩
        · exact absurd hi (by simp)
      have hi3 : i < 3 := by simpa using hi
      have hcell1 : InCell K₁ (ca "on") (.str on t1) := ⟨_, hk _ _ (by simp) (H.new (ca "on", _) (List.mem_cons_of_mem _ (mem7 (by decide)))), rfl⟩
      have hcell2 : InCell K₁ (ca "off") (.str off t2) := ⟨_, hk _ _ (by simp) (H.new (ca "off", _) (List.mem_cons_of_mem _ (mem7 (by decide)))), rfl⟩
      have hcell3 : InCell K₁ (ca "rows") (.ref D1) := ⟨_, hk _ _ (by simp) (H.new (ca "rows", _) (List.mem_cons_of_mem _ (mem7 (by decide)))), rfl⟩
      have hD1' : K₁ D1 (lstObj vR N1) := hk _ _ (by simp) (H.keep _ _ hD1)
      clear hk H h hv
      obtain ⟨w1, w2, w7, w3, w4, w5, w6⟩ := hW i hi3
      have hdots : ("..." : Str).length = 3 := by decide +kernel
      have hlt := @lastL_t bt i
      have hlf := @lastL_f bt i
      have hka : 1 ≤ (i : Int) + 1 := by omega
      have hkb : (i : Int) + 1 ≤ 3 := by omega
      generalize (i : Int) + 1 = kk1 at *
      replace H1 := H1.asg [] asg0
      repeat (walk_at "s")
      refine wpAny_tests_one ?_
      repeat (walk_at "s")
      (rename Stt _ _ _ _ _ _ _ => H)
      refine q_glob H H.here.fE.g ?_
      refine r_callWith (fun h B => B.fE) ?_
      repeat (walk_at "s")
      (rename Stt _ _ _ _ _ _ _ => H)
      refine r_add_str H (by rw [sizeLine_eq]; omega) ?_
      clear H
      intro s4 t6 H
      repeat (walk_at "s")
      (rename Stt _ _ _ _ _ _ _ => H)
      refine r_mul_str H (mulOk_small (by omega) (by omega) (by omega)) ?_
      clear H
      intro s5 t7 H
      generalize Txt.mul off (kk1 - 1) = ml at *
      repeat (walk_at "s")
      (rename Stt _ _ _ _ _ _ _ => H)
      refine r_add_str H (by rw [sizeLine_eq, len_app]; omega) ?_
      clear H
      intro s6 t8 H
      generalize "..." ++ on ++ ml = want at *
      repeat (walk_at "s")
      (rename Stt _ _ _ _ _ _ _ => H)
      refine r_item_list (H.keep _ _ hD1') 0 (.inl rfl) (by omega) eR ?_
      repeat (walk_at "s")
      (rename Stt _ _ _ _ _ _ _ => H)
      refine ⟨H.here, ?_⟩
      refine ell_tail H.here (O.less) w1 w2 w3 hrow w4 w5 fun s7 hg => ?_
      replace H := H.grows hg
      clear hg
      rw [w6]
      repeat (walk_at "s")
      cases hb : bt i with
      | true =>
        refine ite_t rfl ?_
        repeat (walk_at "s")
        (rename Stt _ _ _ _ _ _ _ => H)
        exact ⟨⟨_, [], H⟩, l ++ [(kk1, u)], iVals_snoc _ _ _, by rw [List.map_append, hl2, hlt hb]; rfl⟩
      | false =>
        refine ite_f rfl ?_
        (rename Stt _ _ _ _ _ _ _ => H)
        exact ⟨⟨_, [], H⟩, l, rfl, by rw [hl2, hlf hb]⟩
    · rintro D s' ys N2 H' ⟨l, rfl, hl2⟩ s'' H''
      exact h _ _ D l N2 hl2 (H''.drop (.cons_cons _ (.cons _ (List.Sublist.refl _))))
end
end Mine
end

section
open PySem PySem.W PyProof.Rows PySem.Calls
set_option linter.unusedVariables false
namespace Mine
section
variable {prog : Program} {w : World} {A : Around} {s s₀ : Shared} {Q : Flow → Shared → Prop} {k : Nms} {K : Addr → Obj → Prop} {L a ls lc D1 D2 D : Addr} {m : Str → Option Value} {news : List (Addr × Obj)} {ca : Str → Addr} {ob : Str → Obj} {cr : Str → Option Value} {cd : Value} {l : List (Int × Tok)} {N N1 N2 NL n0 : Nat} {t4 : Tok} {c1 c2 c3 : Str × Value}
set_option maxRecDepth 100000 in
set_option maxHeartbeats 4000000 in
theorem ph17 (O : Ok A 4 40) (H : Stt k K L s₀ s (asg [("last", .ref D), ("shown", .ref D2), ("cells", .ref lc)] m) ((D, lstObj (iVals l) NL) :: cells7 ca ob (asg [("moves", .int n0 t4), c1, c2, c3] cr)))
    (hl : l.length ≤ 10)
    (h : ∀ s' m D lo NO, lo.map (·.1) = (if n0 % 2 = 0 then [3] else (l.map (·.1)).map (fun x : Int => 3 - x)) → Stt k K L s₀ s' (asg [("other", .ref D), ("shown", .ref D2), ("cells", .ref lc)] m) ((D, lstObj (iVals lo) NO) :: cells7 ca ob (asg [("moves", .int n0 t4), c1, c2, c3] cr)) →
      wpAny (model prog w) A (execs (stm 18) (lawEnv ca L a cd)) Q (fun _ _ => False) s') :
    wpAny (model prog w) A (execs (stm 17) (lawEnv ca L a cd)) Q (fun _ _ => False) s := by
  refine wpAny_execs_cons (rest := stm 18) ?_
  repeat (walk_at "s")
  refine ite_split (fun q => ?_) (fun q => ?_)
  · have q' : n0 % 2 = 0 := by have : (n0 : Int) % 2 = 0 := by simpa using q
                               omega
    rw [if_pos q'] at h
    refine List_ ?_
    iterate 5 (walk_at "s")
    (rename Stt _ _ _ _ _ _ _ => H)
    exact h _ _ _ [(3, _)] 0 rfl ((H.asg [("other", .ref _), ("shown", .ref D2), ("cells", .ref lc)] (asg3 rfl rfl rfl)).drop (.cons_cons _ (.cons _ (List.Sublist.refl _))))
  · have q' : ¬ n0 % 2 = 0 := by have : ¬ (n0 : Int) % 2 = 0 := by simpa using q
                                 omega
    rw [if_neg q'] at h
    (rename Stt _ _ _ _ _ _ _ => H)
    refine r_comp (k := k) (K := K) (s₀ := s₀) (m := asg [("last", .ref D), ("shown", .ref D2), ("cells", .ref lc)] m) rfl (by decide +kernel) rfl (by decide +kernel) ?_
    repeat (walk_at "s")
    (rename Stt _ _ _ _ _ _ _ => H)
    refine comp_list O.hh H (H.new _ (.head _)) (by simp [iVals]; omega) (fun i ys => ∃ lo : List (Int × Tok), ys = iVals lo ∧ lo.map (·.1) = ((l.take i).map (·.1)).map (fun x : Int => 3 - x)) ⟨[], rfl, rfl⟩ ?_ ?_
    · rintro i v C Do s₁ K₁ m₁ ys N2 hi hv ⟨lo, rfl, hlo⟩ H1 hk
      obtain ⟨x, u, hc3, rfl⟩ := iVals_at (cs := l) (i := i) (x := v) (by simpa using hv)
      clear hk H h hv
      replace H1 := H1.asg [] asg0
      repeat (walk_at "s")
      refine tests0 ?_
      refine ite_t rfl ?_
      repeat (walk_at "s")
      (rename Stt _ _ _ _ _ _ _ => H)
      refine ⟨⟨_, [], H⟩, lo ++ [(3 - x, _)], iVals_snoc _ _ _, ?_⟩
      rw [List.map_append, hlo, List.take_add_one, hc3]
      simp
    · rintro Do s' ys NO H' ⟨lo, rfl, hlo⟩
      rw [show (iVals l).length = l.length by simp [iVals], List.take_length] at hlo
      clear H
      walk_at "s"
      (rename Stt _ _ _ _ _ _ _ => H)
      exact h _ _ _ lo NO hlo ((H.asg [("other", .ref _), ("shown", .ref D2), ("cells", .ref lc)] (asg3 rfl rfl rfl)).drop (.cons_cons _ (.cons _ (List.Sublist.refl _))))
set_option maxRecDepth 100000 in
set_option maxHeartbeats 4000000 in
theorem ph18 (O : Ok A 4 40) (H : Stt k K L s₀ s (asg [("other", .ref D), ("shown", .ref D2), ("cells", .ref lc)] m) ((D, lstObj (iVals l) NL) :: cells7 ca ob (asg [("moves", .int n0 t4), c1, c2, c3] cr)))
    (hl : l.length = if n0 = 15 then 0 else 1)
    (h : ∀ s' m, Stt k K L s₀ s' (asg [("other", .ref D), ("shown", .ref D2), ("cells", .ref lc)] m) ((D, lstObj (iVals l) NL) :: cells7 ca ob (asg [("moves", .int n0 t4), c1, c2, c3] cr)) →
      wpAny (model prog w) A (execs (stm 19) (lawEnv ca L a cd)) Q (fun _ _ => False) s') :
    wpAny (model prog w) A (execs (stm 18) (lawEnv ca L a cd)) Q (fun _ _ => False) s := by
  have hl10 : l.length ≤ 10 := by rw [hl]; split <;> omega
  refine wpAny_execs_cons (rest := stm 19) ?_
  repeat (walk_at "s")
  (rename Stt _ _ _ _ _ _ _ => H)
  refine r_len_list H (H.new _ (.head _)) (by simp [iVals]; omega) ?_
  clear H
  intro s1 t5 H
  rw [show (iVals l).length = l.length by simp [iVals]]
  generalize l.length = len at *
  repeat (walk_at "s")
  refine ite_split (fun q => ?_) (fun q => ?_)
  · have q' : n0 = 15 := by have : (n0 : Int) = 15 := by simpa using q
                            omega
    rw [if_pos q'] at hl
    repeat (walk_at "s")
    refine ite_f (by simp [hl]) ?_
    walk_at "s"
    (rename Stt _ _ _ _ _ _ _ => H)
    exact h _ _ H
  · have q' : ¬ n0 = 15 := by have : ¬ (n0 : Int) = 15 := by simpa using q
                              omega
    rw [if_neg q'] at hl
    repeat (walk_at "s")
    refine ite_f (by simp [hl]) ?_
    walk_at "s"
    (rename Stt _ _ _ _ _ _ _ => H)
    exact h _ _ H
end
end Mine
end

section
open PySem PySem.W PyProof.Rows PySem.Calls
set_option linter.unusedVariables false
namespace Mine
def otFor : Stmt := (stm 19).headD (.Pass default)
def obd (j : Nat) : List Stmt := (forBod otFor).drop j
section
variable {prog : Program} {w : World} {A : Around} {s s₀ : Shared} {Q : Flow → Shared → Prop} {k : Nms} {K : Addr → Obj → Prop} {L a ls lc D1 D2 D : Addr} {m : Str → Option Value} {news : List (Addr × Obj)} {ca : Str → Addr} {ob : Str → Obj} {cr : Str → Option Value} {cd : Value} {cs lo : List (Int × Tok)} {N N1 N2 NO n0 d : Nat} {row on off row' : Str} {t3 t1 t2 t4 ta tl tR : Tok} {mv at' : Int} {vR : List Value}
set_option maxRecDepth 100000 in
set_option maxHeartbeats 4000000 in
/-- the row that is flipped -/
theorem oA (O : Ok A 4 40) (H : Stt k K L s₀ s (asg [("at", .int at' ta), ("shown", .ref D2), ("cells", .ref lc)] m) (cells7 ca ob (asg [("moves", .int mv t4), ("rows", .ref D1), ("off", .str off t2), ("on", .str on t1)] cr)))
    (hrow : row.length = 4) (hoff : off.length = 1) (hon : on.length = 1) (h0 : 0 ≤ at') (h4 : at' < 4) (hflip : flipS row on off at' = row') (hD1 : K D1 (lstObj vR N1)) (lenR : vR.length ≤ 100) (eR : vR[0]? = some (.str row tR))
    (h : ∀ s' m' t, Stt k K L s₀ s' (asg [("shown", .ref D2), ("cells", .ref lc)] m') (cells7 ca ob (asg [("row", .str row' t), ("moves", .int mv t4), ("rows", .ref D1), ("off", .str off t2), ("on", .str on t1)] cr)) →
      wpAny (model prog w) A (execs (obd 1) (lawEnv ca L a cd)) Q (fun _ _ => False) s') :
    wpAny (model prog w) A (execs (obd 0) (lawEnv ca L a cd)) Q (fun _ _ => False) s := by
  have hz : row.length ≤ sizeLine := by rw [sizeLine_eq]; omega
  have z1 : (Txt.slice row none (some at')).length ≤ 4 := slice_le4 hrow
  have z2 : (Txt.slice row (some (at' + 1)) none).length ≤ 4 := slice_le4 hrow
  refine wpAny_execs_cons (rest := obd 1) ?_
  repeat (walk_at "s")
  (rename Stt _ _ _ _ _ _ _ => H)
  refine r_item_list (H.keep _ _ hD1) 0 (.inl rfl) (by omega) eR ?_
  repeat (walk_at "s")
  (rename Stt _ _ _ _ _ _ _ => H)
  refine r_slice_ns H hz ?_
  clear H
  intro s2 t4 H
  repeat (walk_at "s")
  (rename Stt _ _ _ _ _ _ _ => H)
  refine r_item_list (H.keep _ _ hD1) 0 (.inl rfl) (by omega) eR ?_
  repeat (walk_at "s")
  (rename Stt _ _ _ _ _ _ _ => H)
  refine r_item_str H h0 (by omega) hz ?_
  clear H
  intro s3 t5 H
  unfold flipS at hflip
  generalize Txt.slice row none (some at') = x1 at *
  generalize hx : Txt.item row at' = x3 at *
  repeat (walk_at "s")
  refine ite_split (fun q => ?_) (fun q => ?_)
  · have q' : x3 = on := by simpa using q
    rw [if_pos q'] at hflip
    repeat (walk_at "s")
    (rename Stt _ _ _ _ _ _ _ => H)
    refine r_add_str H (by rw [sizeLine_eq]; omega) ?_
    clear H
    intro s4 t6 H
    repeat (walk_at "s")
    (rename Stt _ _ _ _ _ _ _ => H)
    refine r_item_list (H.keep _ _ hD1) 0 (.inl rfl) (by omega) eR ?_
    repeat (walk_at "s")
    (rename Stt _ _ _ _ _ _ _ => H)
    refine r_slice_sn H hz ?_
    clear H
    intro s5 t7 H
    repeat (walk_at "s")
    (rename Stt _ _ _ _ _ _ _ => H)
    refine r_add_str H (by rw [sizeLine_eq, len_app]; omega) ?_
    clear H
    intro s6 t8 H
    rw [hflip]
    refine q_st7 [] H (by decide) ?_
    clear H
    intro s7 H
    exact h _ _ _ (H.asg [("shown", .ref D2), ("cells", .ref lc)] (asg2 rfl rfl))
  · have q' : ¬ x3 = on := by simpa using q
    rw [if_neg q'] at hflip
    repeat (walk_at "s")
    (rename Stt _ _ _ _ _ _ _ => H)
    refine r_add_str H (by rw [sizeLine_eq]; omega) ?_
    clear H
    intro s4 t6 H
    repeat (walk_at "s")
    (rename Stt _ _ _ _ _ _ _ => H)
    refine r_item_list (H.keep _ _ hD1) 0 (.inl rfl) (by omega) eR ?_
    repeat (walk_at "s")
    (rename Stt _ _ _ _ _ _ _ => H)
    refine r_slice_sn H hz ?_
    clear H
    intro s5 t7 H
    repeat (walk_at "s")
    (rename Stt _ _ _ _ _ _ _ => H)
    refine r_add_str H (by rw [sizeLine_eq, len_app]; omega) ?_
    clear H
    intro s6 t8 H
    rw [hflip]
    refine q_st7 [] H (by decide) ?_
    clear H
    intro s7 H
    exact h _ _ _ (H.asg [("shown", .ref D2), ("cells", .ref lc)] (asg2 rfl rfl))

set_option maxRecDepth 100000 in
set_option maxHeartbeats 4000000 in
theorem oB (O : Ok A 4 40) (H : Stt k K L s₀ s (asg [("shown", .ref D2), ("cells", .ref lc)] m) (cells7 ca ob (asg [("row", .str row' t3), ("moves", .int mv t4), ("rows", .ref D1), ("off", .str off t2), ("on", .str on t1)] cr)))
    (hlc : K lc (lstObj (iVals cs) N)) (hcl : cs.length = 4) (hcs : ∀ p ∈ cs, 0 ≤ p.1 ∧ p.1 < 1000000) (hrow : row'.cps.size = 4) (hd : mv + 1 = (d : Int))
    (hstrip : stripF (mailF row' on (cs.map (·.1))) = shownF row' on (cs.map (·.1)) (figsN d)) (hlen : (mailF row' on (cs.map (·.1))).length ≤ 500)
    (h : ∀ s' m', Stt k K L s₀ s' (asg [("shown", .ref D2), ("cells", .ref lc)] m') (cells7 ca ob (asg [("row", .str row' t3), ("moves", .int mv t4), ("rows", .ref D1), ("off", .str off t2), ("on", .str on t1)] cr)) → Q .next s') :
    wpAny (model prog w) A (execs (obd 1) (lawEnv ca L a cd)) Q (fun _ _ => False) s := by
  refine wpAny_execs_cons (rest := obd 2) ?_
  refine r_assign_comp (k := k) (K := K) (s₀ := s₀) (l := [("shown", .ref D2), ("cells", .ref lc)]) (r := m) rfl rfl (by decide +kernel) rfl (by decide +kernel) rfl rfl ?_
  repeat (walk_at "s")
  (rename Stt _ _ _ _ _ _ _ => H)
  refine comp_tuple O.hh H (H.new _ (.head _)) (Nat.le_of_ble_eq_true rfl) (fun i ys => ∃ l : List (Int × Tok), ys = iVals l ∧ l.map (·.1) = (figsN d).take i) ⟨[], rfl, rfl⟩ ?_ ?_
  · rintro i v C D s₁ K₁ m₁ ys N1 hi hv ⟨l, rfl, hl2⟩ H1 hk
    have hcell1 : InCell K₁ (ca "moves") (.int mv t4) := ⟨_, hk _ _ (by simp) (H.new (ca "moves", _) (List.mem_cons_of_mem _ (mem7 (by decide)))), rfl⟩
    clear hk H h
    obtain ⟨f1, f2, f3, f4⟩ := figs_take d l
    rw [← hd] at f1 f2 f3 f4
    clear hstrip
    generalize figsN d = fg at *
    replace H1 := H1.asg [] asg0
    rcases i with _ | _ | _ | _ | i
    · cases hv
      repeat (walk_at "s")
      refine tests0 ?_
      refine ite_t rfl ?_
      repeat (walk_at "s")
      (rename Stt _ _ _ _ _ _ _ => H)
      exact ⟨⟨_, [], H⟩, _, iVals_snoc _ _ _, f1 _ hl2⟩
    · cases hv
      repeat (walk_at "s")
      refine tests0 ?_
      refine ite_t rfl ?_
      repeat (walk_at "s")
      (rename Stt _ _ _ _ _ _ _ => H)
      exact ⟨⟨_, [], H⟩, _, iVals_snoc _ _ _, f2 _ hl2⟩
    · cases hv
      repeat (walk_at "s")
      refine tests0 ?_
      refine ite_t rfl ?_
      repeat (walk_at "s")
      (rename Stt _ _ _ _ _ _ _ => H)
      exact ⟨⟨_, [], H⟩, _, iVals_snoc _ _ _, f3 _ hl2⟩
    · cases hv
      repeat (walk_at "s")
      refine tests0 ?_
      refine ite_t rfl ?_
      repeat (walk_at "s")
      (rename Stt _ _ _ _ _ _ _ => H)
      exact ⟨⟨_, [], H⟩, _, iVals_snoc _ _ _, f4 _ hl2⟩
    · exact absurd hi (by simp)
  · rintro F s' ys NF H' ⟨fs, rfl, hl2⟩ s'' H''
    have hfs : fs.map (·.1) = figsN d := hl2
    have hfl : fs.length = 4 := by have := congrArg List.length hfs; rw [List.length_map] at this; exact this
    rw [← hfs] at hstrip
    clear H H' hl2
    repeat (walk_at "s")
    (rename Stt _ _ _ _ _ _ _ => H)
    refine r_glob H H.here.fS.g ?_
    refine r_callWith (fun h B => B.fS) ?_
    repeat (walk_at "s")
    (rename Stt _ _ _ _ _ _ _ => H)
    refine r_glob H H.here.fM.g ?_
    refine r_callWith (fun h B => B.fM) ?_
    repeat (walk_at "s")
    (rename Stt _ _ _ _ _ _ _ => H)
    refine ⟨H.here, ?_⟩
    refine mail_call H.here (O.less) hrow hcl hcs (lst_is (H.keep _ _ hlc)) fun s3 t3 hg => ?_
    replace H := H.grows hg
    clear hg
    generalize mailF row' on (cs.map (·.1)) = mail at *
    repeat (walk_at "s")
    (rename Stt _ _ _ _ _ _ _ => H)
    refine ⟨H.here, ?_⟩
    refine strip_call H.here (O.less) hlen fun s5 t5 hg => ?_
    replace H := H.grows hg
    clear hg
    rw [hstrip]
    clear hstrip hlen
    repeat (walk_at "s")
    (rename Stt _ _ _ _ _ _ _ => H)
    refine r_glob H H.here.fW.g ?_
    refine r_callWith (fun h B => B.fW) ?_
    repeat (walk_at "s")
    (rename Stt _ _ _ _ _ _ _ => H)
    refine ⟨H.here, ?_⟩
    refine shown_call H.here (O.less) hrow hcl hfl hcs (lst_is (H.keep _ _ hlc)) (lst_is (H.new _ (.head _))) fun s4 t7 hg => ?_
    replace H := H.grows hg
    clear hg
    repeat (walk_at "s")
    refine ite_f (by simp) ?_
    repeat (walk_at "s")
    (rename Stt _ _ _ _ _ _ _ => H)
    exact h _ _ ((H.asg [("shown", .ref D2), ("cells", .ref lc)] (asg2 rfl rfl)).drop (.cons _ (.cons _ (List.Sublist.refl _))))

set_option maxRecDepth 100000 in
set_option maxHeartbeats 4000000 in
theorem ph19 {rowN : Str} (O : Ok A 4 40) (H : Stt k K L s₀ s (asg [("other", .ref D), ("shown", .ref D2), ("cells", .ref lc)] m) (cells7 ca ob (asg [("moves", .int n0 t4), ("rows", .ref D1), ("off", .str off t2), ("on", .str on t1)] cr)))
    (hD : K D (lstObj (iVals lo) NO)) (hlc : K lc (lstObj (iVals cs) N)) (hcl : cs.length = 4) (hcs : ∀ p ∈ cs, 0 ≤ p.1 ∧ p.1 < 1000000) (hrow : row.length = 4) (hoff : off.length = 1) (hon : on.length = 1)
    (hD1 : K D1 (lstObj vR N1)) (lenR : vR.length ≤ 100) (eR : vR[0]? = some (.str row tR))
    (hlo : ∀ p ∈ lo, 0 ≤ p.1 ∧ p.1 < 4 ∧ ∃ row', flipS row on off p.1 = row' ∧ row'.cps.size = 4 ∧ stripF (mailF row' on (cs.map (·.1))) = shownF row' on (cs.map (·.1)) (figsN (n0 + 1)) ∧ (mailF row' on (cs.map (·.1))).length ≤ 500)
    (h : ∀ s', Grows s₀ s' → Q (.ret (.bool true)) s') (hK : ∀ b o, s₀.heap.get? b = some o → K b o) :
    wpAny (model prog w) A (execs (stm 19) (lawEnv ca L a cd)) Q (fun _ _ => False) s := by
  refine wpAny_execs_cons (rest := stm 20) ?_
  refine wpAny_For ?_ (fun _ => rfl)
  repeat (walk_at "s")
  (rename Stt _ _ _ _ _ _ _ => H)
  refine it_list O.hh H hD fun I s1 St X => ?_
  refine for_I X (fun i m news => m "shown" = some (.ref D2) ∧ m "cells" = some (.ref lc) ∧ ∃ cm, news = cells7 ca ob cm ∧ cm "moves" = some (.int n0 t4) ∧ cm "rows" = some (.ref D1) ∧ cm "off" = some (.str off t2) ∧ cm "on" = some (.str on t1)) (fun _ _ => False)
    ⟨rfl, rfl, _, rfl, rfl, rfl, rfl, rfl⟩ ?_ ?_ (fun _ _ _ _ e => e.elim)
  · rintro i v m₁ news₁ s₁ K₁ hi hv ⟨e1, e2, cm, rfl, c1, c2, c3, c4⟩ H hK' had
    obtain ⟨at', u, hc3, rfl⟩ := iVals_at (cs := lo) (i := i) (x := v) (by simpa using hv)
    obtain ⟨a0, a4, row', hf, hs, hst, hml⟩ := hlo _ (List.mem_of_getElem? hc3)
    dsimp only at a0 a4 hf
    have ecm := asg_of (l := [("moves", .int n0 t4), ("rows", .ref D1), ("off", .str off t2), ("on", .str on t1)]) (asg4 c1 c2 c3 c4)
    rw [← ecm] at H
    replace H := H.asg [("shown", .ref D2), ("cells", .ref lc)] (asg2 e1 e2)
    clear X
    walk_at "s"
    (rename Stt _ _ _ _ _ _ _ => H)
    refine oA O H hrow hoff hon a0 a4 hf (hK' _ _ hD1) lenR eR fun s2 m2 t3 H => ?_
    refine oB (d := n0 + 1) O H (hK' _ _ hlc) hcl hcs hs (by omega) hst hml fun s3 m3 H => ?_
    exact ⟨_, _, H, ⟨rfl, rfl, _, rfl, rfl, rfl, rfl, rfl⟩, by rw [cells7_addr, cells7_addr]⟩
  · rintro s' m' news' H ⟨e1, e2, cm, rfl, c1, c2, c3, c4⟩ had
    dsimp only
    repeat (walk_at "s")
    exact h _ (H.grown hK)
end
end Mine
end

section
open PySem PySem.W PyProof.Rows PySem.Calls
set_option linter.unusedVariables false
set_option maxRecDepth 100000
namespace Mine
/-- the row of n moves -/
def pt (n : Nat) : List Bool := [n / 8 % 2 == 1, (n / 8 + n / 4) % 2 == 1, (n / 4 + n / 2) % 2 == 1, (n / 2 + n) % 2 == 1]
def rwN (x y n : Nat) : Str := rowS x y (pt n)
def btN (n j : Nat) : Bool := match j with
  | 0 => (n / 2 + n) % 2 == 1
  | 1 => (n / 4 + n / 2) % 2 == 1 && (n / 2 + n) % 2 == 0
  | 2 => (n / 8 + n / 4) % 2 == 1 && (n / 4 + n / 2) % 2 == 0 && (n / 2 + n) % 2 == 0
  | _ => false
def wdN (x y j : Nat) : Str := ⟨(x :: List.replicate j y).toArray⟩
def kkN (n : Nat) : Int := if btN n 0 then 1 else if btN n 1 then 2 else 3
abbrev xs4 : List Nat := [120, 42, 63, 10]
abbrev ys4 : List Nat := [45, 43, 32, 41]
theorem pl_bare : ∀ x ∈ xs4, ∀ y ∈ ys4, ∀ n, n < 16 → (Txt.mul ⟨#[y]⟩ 4 == rwN x y n) = (n == 0) := by decide +kernel
theorem pl_occ : ∀ y ∈ ys4, (Builtin.Str.occurrences (Txt.mul ⟨#[y]⟩ 4) "..." 0 (Txt.mul ⟨#[y]⟩ 4).length 1).isEmpty = true := by decide +kernel
theorem pl_odd : ∀ x ∈ xs4, ∀ y ∈ ys4, ∀ n, n < 16 → n % 2 = 1 → flipS (rwN x y n) ⟨#[x]⟩ ⟨#[y]⟩ 3 = rwN x y (n - 1) := by decide +kernel
theorem pl_even : ∀ x ∈ xs4, ∀ y ∈ ys4, ∀ n, n < 16 → n % 2 = 0 → n ≠ 0 → flipS (rwN x y n) ⟨#[x]⟩ ⟨#[y]⟩ (3 - kkN n) = rwN x y (n - 1) := by decide +kernel
theorem pl_even2 : ∀ n, n < 16 → n % 2 = 0 → n ≠ 0 → lastL (btN n) 3 = [kkN n] := by decide +kernel
theorem pl_upE : ∀ x ∈ xs4, ∀ y ∈ ys4, ∀ n, n < 15 → n % 2 = 0 → flipS (rwN x y n) ⟨#[x]⟩ ⟨#[y]⟩ 3 = rwN x y (n + 1) := by decide +kernel
theorem pl_upO : ∀ x ∈ xs4, ∀ y ∈ ys4, ∀ n, n < 15 → n % 2 = 1 → flipS (rwN x y n) ⟨#[x]⟩ ⟨#[y]⟩ (3 - kkN n) = rwN x y (n + 1) := by decide +kernel
theorem pl_upO2 : ∀ n, n < 15 → n % 2 = 1 → lastL (btN n) 3 = [kkN n] := by decide +kernel
theorem pl_15 : lastL (btN 15) 3 = [] := by decide +kernel
theorem pl_exists : ∀ bits : List Bool, bits.length = 4 → ∃ n, n < 16 ∧ bits = pt n
  | [a, b, c, d], _ => by cases a <;> cases b <;> cases c <;> cases d <;> decide +kernel
theorem pl_ell : ∀ x ∈ xs4, ∀ y ∈ ys4, ∀ j : Nat, j < 3 → (Builtin.Str.occurrences ("..." ++ ⟨#[x]⟩ ++ Txt.mul ⟨#[y]⟩ ((j : Int) + 1 - 1)) "..." 0 ("..." ++ ⟨#[x]⟩ ++ Txt.mul ⟨#[y]⟩ ((j : Int) + 1 - 1)).length 1).isEmpty = false ∧
   ("..." ++ ⟨#[x]⟩ ++ Txt.mul ⟨#[y]⟩ ((j : Int) + 1 - 1)).length ≤ 100 ∧ (Txt.mul ⟨#[y]⟩ ((j : Int) + 1 - 1)).length ≤ 10 ∧ Txt.split ("..." ++ ⟨#[x]⟩ ++ Txt.mul ⟨#[y]⟩ ((j : Int) + 1 - 1)) "..." = [("" : Str), wdN x y j] ∧ 1 ≤ (wdN x y j).length ∧ (wdN x y j).length ≤ 3 := by decide +kernel
theorem pl_ends : ∀ x ∈ xs4, ∀ y ∈ ys4, ∀ n, n < 16 → ∀ j, j < 3 → Txt.endswith (rwN x y n) (wdN x y j) = btN n j := by decide +kernel
end Mine
end

section
open PySem PySem.W PyProof.Rows PySem.Calls
set_option linter.unusedVariables false
namespace Mine
/-- what is left of a text: outside of marks, and behind an open one -/
def rd : Option (List Nat) → Bool → List Nat → List Nat
  | none, _, [] => []
  | some p, _, [] => p
  | none, false, c :: r => if c = 34 then rd (some [34]) false r else c :: rd none (c == 92) r
  | none, true, c :: r => c :: rd none false r
  | some p, false, c :: r => if c = 34 then rd none false r else rd (some (p ++ [c])) (c == 92) r
  | some p, true, c :: r => rd (some (p ++ [c])) false r

def catP (l : List Str) : List Nat := (l.map (·.cps.toList)).flatten
theorem sjoin_cat : ∀ l : List Str, (PySem.Str.join "" l).cps.toList = catP l
  | [] => rfl
  | [x] => by simp [catP, PySem.Str.join]
  | x :: y :: r => by
    have ih := sjoin_cat (y :: r)
    have he : ("" : Str).cps = #[] := by decide +kernel
    show ((x.cps ++ ("" : Str).cps) ++ (PySem.Str.join "" (y :: r)).cps).toList = _
    rw [Array.toList_append, ih, he]
    simp [catP]
theorem join_cat (l : List Str) : (Txt.join "" l).cps.toList = catP l := by
  rw [beq_iff_eq.mp (join_closes (sep := ("" : Str)) rfl)]
  exact sjoin_cat l
def finS (x : Str) (a : Nat × Option Nat × List Str) : List Nat := catP (if a.1 < x.length then a.2.2 ++ [Txt.slice x (some (a.1 : Int)) none] else a.2.2)
theorem slice_from {x : Str} {i : Nat} (h : i ≤ x.length) : (Txt.slice x (some (i : Int)) none).cps.toList = x.cps.toList.drop i := by
  have e := beq_iff_eq.mp (slice_closes_from (x := x) (i := (i : Int)) ⟨by omega, by simp [Str.length] at h ⊢; omega⟩)
  rw [e]
  simp
  exact List.take_of_length_le (by simp)
theorem slice_mid {x : Str} {i j : Nat} (h : i ≤ j) (hj : j ≤ x.length) : (Txt.slice x (some (i : Int)) (some (j : Int))).cps.toList = (x.cps.toList.drop i).take (j - i) := by
  have e := beq_iff_eq.mp (slice_closes (x := x) (i := (i : Int)) (j := (j : Int)) ⟨by omega, by omega, by simp [Str.length] at hj ⊢; omega⟩)
  rw [e]
  simp
theorem catP_snoc (l : List Str) (x : Str) : catP (l ++ [x]) = catP l ++ x.cps.toList := by simp [catP]

theorem fin_closed (x : Str) {st : Nat} (h : st ≤ x.length) (parts : List Str) : finS x (st, none, parts) = catP parts ++ x.cps.toList.drop st := by
  unfold finS
  dsimp only
  split
  · rw [catP_snoc, slice_from h]
  · rw [List.drop_of_length_le (by simp [Str.length] at *; omega)]; simp
theorem fin_open (x : Str) {st q : Nat} (h : st ≤ q) (hq : q ≤ x.length) (parts : List Str) : finS x (st, some q, parts) = catP parts ++ (x.cps.toList.take q).drop st ++ x.cps.toList.drop q := by
  have e : finS x (st, some q, parts) = finS x (st, none, parts) := rfl
  rw [e, fin_closed x (by omega), List.append_assoc]
  congr 1
  rw [← List.drop_append_of_le_length (by simp [Str.length] at hq ⊢; omega), List.take_append_drop]
theorem noop {x : Str} {a : Nat × Option Nat × List Str} {it : Nat × Str} (h : it.2 ≠ ⟨#[34]⟩) : stripStep x a it = a := by unfold stripStep; rw [if_neg h]
theorem one_ne {c : Nat} (h : c ≠ 34) : (⟨#[c]⟩ : Str) ≠ ⟨#[34]⟩ := by intro e; apply h; simpa using e
theorem two_ne {c d : Nat} : (⟨#[c, d]⟩ : Str) ≠ ⟨#[34]⟩ := by intro e; simp at e

theorem rd_main (x : Str) : ∀ (r pre : List Nat) (esc : Bool), x.cps.toList = pre ++ r →
    (∀ st parts, st ≤ pre.length → finS x ((escGo pre.length esc r).foldl (stripStep x) (st, none, parts)) = catP parts ++ pre.drop st ++ rd none esc r) ∧
    (∀ st q parts, st ≤ q → q ≤ pre.length → finS x ((escGo pre.length esc r).foldl (stripStep x) (st, some q, parts)) = catP parts ++ (pre.take q).drop st ++ rd (some (pre.drop q)) esc r)
  | [], pre, esc, hx => by
    have hl : x.length = pre.length := by show x.cps.size = _; rw [← Array.length_toList, hx]; simp
    have hp : x.cps.toList = pre := by simpa using hx
    have e : ∀ a, (escGo pre.length esc []).foldl (stripStep x) a = a := fun a => by
      cases esc
      · rfl
      · rw [show escGo pre.length true [] = [(pre.length - 1, ⟨#[92]⟩)] by simp [escGo]]
        show stripStep x a (pre.length - 1, ⟨#[92]⟩) = a
        exact noop (one_ne (c := 92) (by decide))
    refine ⟨fun st parts h => ?_, fun st q parts h hq => ?_⟩
    · rw [e, fin_closed x (by omega), hp]; simp [rd]
    · rw [e, fin_open x h (by omega), hp]; simp [rd]
  | c :: r, pre, esc, hx => by
    obtain ⟨ih1, ih2⟩ := rd_main x r (pre ++ [c]) false (by simp [hx])
    obtain ⟨ie1, ie2⟩ := rd_main x r (pre ++ [c]) true (by simp [hx])
    have hl : pre.length + 1 ≤ x.length := by show _ ≤ x.cps.size; rw [← Array.length_toList, hx]; simp
    have len1 : (pre ++ [c]).length = pre.length + 1 := by simp
    rw [len1] at ih1 ih2 ie1 ie2
    have d1 : ∀ st, st ≤ pre.length → (pre ++ [c]).drop st = pre.drop st ++ [c] := fun st h => by rw [List.drop_append_of_le_length h]
    have t1 : ∀ q, q ≤ pre.length → (pre ++ [c]).take q = pre.take q := fun q h => by rw [List.take_append_of_le_length h]
    cases esc with
    | true =>
      have e : ∀ a, (escGo pre.length true (c :: r)).foldl (stripStep x) a = (escGo (pre.length + 1) false r).foldl (stripStep x) a := fun a => by
        show (escGo (pre.length + 1) false r).foldl (stripStep x) (stripStep x a _) = _
        rw [noop two_ne]
      refine ⟨fun st parts h => ?_, fun st q parts h hq => ?_⟩
      · rw [e, ih1 st parts (by omega), d1 st h]; simp [rd]
      · rw [e, ih2 st q parts h (by omega), d1 q hq, t1 q hq]; simp [rd]
    | false =>
      by_cases h92 : c = 92
      · subst h92
        have e : ∀ a, (escGo pre.length false (92 :: r)).foldl (stripStep x) a = (escGo (pre.length + 1) true r).foldl (stripStep x) a := fun a => by
          rw [show escGo pre.length false (92 :: r) = escGo (pre.length + 1) true r by simp [escGo]]
        refine ⟨fun st parts h => ?_, fun st q parts h hq => ?_⟩
        · rw [e, ie1 st parts (by omega), d1 st h]; simp [rd]
        · rw [e, ie2 st q parts h (by omega), d1 q hq, t1 q hq]; simp [rd]
      · have hg : escGo pre.length false (c :: r) = (pre.length, ⟨#[c]⟩) :: escGo (pre.length + 1) false r := by simp [escGo, h92]
        have hb : (c == 92) = false := by simpa using h92
        by_cases h34 : c = 34
        · subst h34
          refine ⟨fun st parts h => ?_, fun st q parts h hq => ?_⟩
          · rw [hg, List.foldl_cons]
            have e : stripStep x (st, none, parts) (pre.length, ⟨#[34]⟩) = (st, some pre.length, parts) := by simp [stripStep]
            rw [e, ih2 st pre.length parts h (by omega), t1 _ (Nat.le_refl _), d1 _ (Nat.le_refl _)]
            simp [rd]
          · rw [hg, List.foldl_cons]
            have e : stripStep x (st, some q, parts) (pre.length, ⟨#[34]⟩) = (pre.length + 1, none, if st = q then parts else parts ++ [Txt.slice x (some (st : Int)) (some (q : Int))]) := by simp [stripStep]
            rw [e, ih1 _ _ (Nat.le_refl _), List.drop_of_length_le (by simp)]
            have e2 : catP (if st = q then parts else parts ++ [Txt.slice x (some (st : Int)) (some (q : Int))]) = catP parts ++ (pre.take q).drop st := by
              split
              · rename_i hs; subst hs; rw [List.drop_of_length_le (by rw [List.length_take]; omega)]; simp
              · rw [catP_snoc, slice_mid h (by omega), hx, List.take_drop, show st + (q - st) = q by omega, List.take_append_of_le_length hq]
            rw [e2]
            simp [rd]
        · refine ⟨fun st parts h => ?_, fun st q parts h hq => ?_⟩
          · rw [hg, List.foldl_cons, noop (one_ne h34), ih1 st parts (by omega), d1 st h]; simp [rd, h34, hb]
          · rw [hg, List.foldl_cons, noop (one_ne h34), ih2 st q parts h (by omega), d1 q hq, t1 q hq]; simp [rd, h34, hb]

theorem rd_no34 : ∀ (l : List Nat) (e : Bool), 34 ∉ l → rd none e l = l
  | [], _, _ => by simp [rd]
  | c :: r, e, h => by
    have h1 : c ≠ 34 := fun q => h (by simp [q])
    have h2 : 34 ∉ r := fun q => h (by simp [q])
    cases e <;> simp [rd, h1, rd_no34 r _ h2]

theorem strip_rd (x : Str) : (stripF x).cps.toList = rd none false x.cps.toList := by
  unfold stripF
  split
  · have := (rd_main x x.cps.toList [] false (by simp)).1 0 [] (Nat.le_refl _)
    rw [join_cat]
    have e : catP [] ++ List.drop 0 ([] : List Nat) ++ rd none false x.cps.toList = rd none false x.cps.toList := by simp [catP]
    exact this.trans e
  · rename_i h
    rw [rd_no34 _ _ h]
theorem strip_is {x y : Str} (h : rd none false x.cps.toList = y.cps.toList) : stripF x = y := by
  have e := (strip_rd x).trans h
  cases hx : stripF x; cases y
  rw [hx] at e
  congr 1
  exact Array.ext' e
end Mine
end

section
open PySem PySem.W PyProof.Rows PySem.Calls
set_option linter.unusedVariables false
namespace Mine
def aheadL (j : Int) : List Nat := if j = 1 then [92, 92] else if j = 2 then [92, 34] else []
theorem ahead_list (j : Int) : (dAhead j).cps.toList = aheadL j := by
  unfold dAhead aheadL; split
  · decide +kernel
  · split <;> decide +kernel
def sgL (c : Int) : Nat := (192 + c / 32).toNat
def chunk (lies : Bool) (c : Int) : List Nat := aheadL (dKind lies c) ++ List.replicate (dMarks lies (dKind lies c)) 34 ++ [sgL c]
abbrev lieOf (on : Str) (p : Nat × Int) : Bool := (⟨#[p.1]⟩ : Str) == on
theorem app_list (x y : Str) : (x ++ y).cps.toList = x.cps.toList ++ y.cps.toList := by
  show (x.cps ++ y.cps).toList = _; simp
theorem mail_list (on : Str) : ∀ (l : List (Nat × Int)) (t : Str), (l.foldl (mailStep on) t).cps.toList = t.cps.toList ++ l.flatMap fun p => chunk (lieOf on p) p.2
  | [], t => by simp
  | p :: r, t => by
    rw [List.foldl_cons, mail_list on r, List.flatMap_cons]
    unfold mailStep
    rw [app_list, app_list, app_list, ahead_list]
    simp [chunk, quotes, sgL]
/-- what a mail shows, sign for sign -/
def V (on : Str) : Bool → List (Nat × Int) → List Nat
  | ab, [] => if ab then [122, 34, 121] else [121]
  | ab, p :: r => (if ab then [] else aheadL (dKind (lieOf on p) p.2)) ++ (if (ab ^^ lieOf on p) then [] else [sgL p.2]) ++ V on (ab ^^ lieOf on p) r
theorem dkind_cases (lies : Bool) (c : Int) : dKind lies c = 0 ∨ dKind lies c = 1 ∨ dKind lies c = 2 ∨ dKind lies c = 3 := by
  unfold dKind; split <;> omega
theorem rd_mail (on : Str) : ∀ l : List (Nat × Int), (∀ p ∈ l, sgL p.2 ≠ 34 ∧ sgL p.2 ≠ 92) →
    rd none false ((l.flatMap fun p => chunk (lieOf on p) p.2) ++ [34, 122, 34, 121]) = V on false l ∧
    ∀ q, rd (some q) false ((l.flatMap fun p => chunk (lieOf on p) p.2) ++ [34, 122, 34, 121]) = V on true l
  | [], _ => by simp [rd, V]
  | p :: r, h => by
    obtain ⟨ih1, ih2⟩ := rd_mail on r fun q hq => h q (.tail _ hq)
    obtain ⟨s1, s2⟩ := h p (.head _)
    have hb : (sgL p.2 == 92) = false := by simpa using s2
    rw [List.flatMap_cons]
    generalize (r.flatMap fun p => chunk (lieOf on p) p.2) = tl at *
    unfold V chunk
    generalize sgL p.2 = sg at *
    rcases dkind_cases (lieOf on p) p.2 with hk | hk | hk | hk <;> rw [hk] <;> cases lieOf on p <;> (refine ⟨?_, fun q => ?_⟩) <;> simp [rd, aheadL, dMarks, s1, hb, ih1, ih2]
/-- the figures of a row: how many rings up to here lie on the bar, odd or not -/
def pfx : Bool → List Bool → List Int
  | _, [] => []
  | ab, b :: r => (if (ab ^^ b) then 1 else 0) :: pfx (ab ^^ b) r
theorem shown_list (on : Str) : ∀ (l : List (Nat × Int)) (t : Str) (ab : Bool),
    (shownEnd ((l.zip (pfx ab (l.map (lieOf on)))).foldl (shownStep on) (t, if ab then 1 else 0))).cps.toList = t.cps.toList ++ V on ab l
  | [], t, ab => by
    show (shownEnd (t, if ab then 1 else 0)).cps.toList = _
    unfold shownEnd V
    rw [app_list]
    cases ab
    · have e : ("y" : Str).cps.toList = [121] := by decide +kernel
      simp [e]
    · have e : ("z\"y" : Str).cps.toList = [122, 34, 121] := by decide +kernel
      simp [e]
  | p :: r, t, ab => by
    rw [List.map_cons]
    show (shownEnd ((((p, (if (ab ^^ lieOf on p) then (1 : Int) else 0)) :: r.zip (pfx (ab ^^ lieOf on p) (r.map (lieOf on)))).foldl (shownStep on) (t, if ab then 1 else 0)))).cps.toList = _
    rw [List.foldl_cons]
    have e : shownStep on (t, if ab then 1 else 0) (p, (if (ab ^^ lieOf on p) then (1 : Int) else 0)) = ((shownStep on (t, if ab then 1 else 0) (p, (if (ab ^^ lieOf on p) then (1 : Int) else 0))).1, if (ab ^^ lieOf on p) then 1 else 0) := rfl
    rw [e, shown_list on r]
    have he : ("" : Str).cps.toList = [] := by decide +kernel
    have hV : V on ab (p :: r) = (if ab then [] else aheadL (dKind (lieOf on p) p.2)) ++ (if (ab ^^ lieOf on p) then [] else [sgL p.2]) ++ V on (ab ^^ lieOf on p) r := rfl
    rw [hV]
    unfold shownStep
    dsimp only
    rw [app_list, app_list]
    have e1 : (if (if ab = true then (1 : Int) else 0) = 0 then dAhead (dKind (lieOf on p) p.2) else ("" : Str)).cps.toList = if ab = true then [] else aheadL (dKind (lieOf on p) p.2) := by
      cases ab
      · simp [ahead_list]
      · simp [he]
    have e2 : (if (if (ab ^^ lieOf on p) = true then (1 : Int) else 0) = 0 then (⟨#[(192 + p.2 / 32).toNat]⟩ : Str) else ("" : Str)).cps.toList = if (ab ^^ lieOf on p) = true then [] else [sgL p.2] := by
      cases (ab ^^ lieOf on p)
      · simp [sgL]
      · simp [he]
    rw [e1, e2]
    simp only [List.append_assoc]
/-- what strip leaves of a mail -/
theorem strip_mail (row on : Str) (cells : List Int) (hc : ∀ c ∈ cells, 0 ≤ c) : stripF (mailF row on cells) = shownF row on cells (pfx false ((row.cps.toList.zip cells).map (lieOf on))) := by
  refine strip_is ?_
  have h1 := shown_list on (row.cps.toList.zip cells) "" false
  have he : ("" : Str).cps.toList = [] := by decide +kernel
  have hz : ("\"z\"y" : Str).cps.toList = [34, 122, 34, 121] := by decide +kernel
  unfold shownF
  rw [he] at h1
  refine Eq.trans ?_ (Eq.trans h1.symm ?_)
  · unfold mailF
    rw [app_list, mail_list, he, hz]
    refine (rd_mail on _ fun p hp => ?_).1.trans (by simp)
    have hp2 := hc _ (List.of_mem_zip hp).2
    unfold sgL
    omega
  · rfl
end Mine
end

section
open PySem PySem.W PyProof.Rows PySem.Calls
set_option linter.unusedVariables false
set_option maxRecDepth 100000
namespace Mine
theorem rd_plain : ∀ (l r : List Nat), (∀ c ∈ l, c ≠ 34 ∧ c ≠ 92) → rd none false (l ++ r) = l ++ rd none false r ∧ ∀ p, rd (some p) false (l ++ r) = rd (some (p ++ l)) false r
  | [], r, _ => by simp
  | c :: l, r, h => by
    obtain ⟨h1, h2⟩ := h c (.head _)
    obtain ⟨i1, i2⟩ := rd_plain l r fun d hd => h d (.tail _ hd)
    have hb : (c == 92) = false := by simpa using h2
    refine ⟨by simp [rd, h1, hb, i1], fun p => by simp [rd, h1, hb, i2]⟩
theorem row_list (x y n : Nat) : (rwN x y n).cps.toList = (pt n).map fun b => if b then x else y := rfl
theorem row_ok {x y n : Nat} (hx : x ∈ xs4) (hy : y ∈ ys4) : ∀ c ∈ (rwN x y n).cps.toList, c ≠ 34 ∧ c ≠ 92 := by
  intro c hc
  rw [row_list] at hc
  obtain ⟨b, _, rfl⟩ := List.mem_map.mp hc
  have h1 : ∀ x ∈ xs4, x ≠ 34 ∧ x ≠ 92 := by decide
  have h2 : ∀ y ∈ ys4, y ≠ 34 ∧ y ≠ 92 := by decide
  cases b
  · exact h2 y hy
  · exact h1 x hx
theorem row_size (x y n : Nat) : (rwN x y n).cps.size = 4 := rfl
theorem x_ne_y {x y : Nat} (hx : x ∈ xs4) (hy : y ∈ ys4) : x ≠ y := by
  have : ∀ x ∈ xs4, ∀ y ∈ ys4, x ≠ y := by decide
  exact this x hx y hy
theorem pl_same' {x y n : Nat} (hx : x ∈ xs4) (hy : y ∈ ys4) (i : Nat) : stripF (rwN x y n ++ betw i ++ rwN x y n) = rwN x y n ++ betw i ++ rwN x y n := by
  refine strip_is ?_
  have hr := row_ok (n := n) hx hy
  rw [app_list, app_list]
  generalize (rwN x y n).cps.toList = l at *
  rw [List.append_assoc, (rd_plain l _ hr).1]
  congr 1
  have e := rd_plain l [] hr
  rw [List.append_nil] at e
  have e1 : rd none false l = l := by rw [e.1]; simp [rd]
  have e2 : ∀ p, rd (some p) false l = p ++ l := fun p => by rw [e.2]; simp [rd]
  unfold betw
  split
  · rw [show ("" : Str).cps.toList = [] by decide +kernel]; simp [e1]
  · split
    · rw [show ("\"" : Str).cps.toList = [34] by decide +kernel]; simp [rd, e2]
    · rw [show ("\\\"" : Str).cps.toList = [92, 34] by decide +kernel]; simp [rd, e1]
theorem pl_esc' {x y n : Nat} (hx : x ∈ xs4) (hy : y ∈ ys4) : stripF (rwN x y n ++ "\"\\" ++ rwN x y n ++ "\"") = rwN x y n := by
  refine strip_is ?_
  have hr := row_ok (n := n) hx hy
  have hl : (rwN x y n).cps.toList.length = 4 := rfl
  rw [app_list, app_list, app_list]
  generalize (rwN x y n).cps.toList = l at *
  rw [show ("\"\\" : Str).cps.toList = [34, 92] by decide +kernel, show ("\"" : Str).cps.toList = [34] by decide +kernel]
  rw [List.append_assoc, List.append_assoc, (rd_plain l _ hr).1]
  match l, hl with
  | c :: l', _ =>
    have e := (rd_plain l' [34] fun d hd => hr d (.tail _ hd)).2
    simp [rd, e]
theorem lies_of {x y n : Nat} {cells : List Int} (hx : x ∈ xs4) (hy : y ∈ ys4) (hc : cells.length = 4) : ((rwN x y n).cps.toList.zip cells).map (lieOf ⟨#[x]⟩) = pt n := by
  have hne := x_ne_y hx hy
  have key : ∀ b : Bool, ∀ c : Int, lieOf ⟨#[x]⟩ ((if b then x else y), c) = b := fun b c => by
    unfold lieOf
    rw [one_eq]
    cases b
    · simp; exact fun e => hne e.symm
    · simp
  rw [row_list]
  unfold pt
  match cells, hc with
  | [c0, c1, c2, c3], _ => simp only [List.map_cons, List.map_nil, List.zip_cons_cons, List.zip_nil_left, key]
theorem pfx_pt : ∀ n, n < 16 → pfx false (pt n) = figsN n := by decide +kernel
theorem pl_strip {x y n : Nat} {cells : List Int} (hx : x ∈ xs4) (hy : y ∈ ys4) (hn : n < 16) (hc : cells.length = 4) (h0 : ∀ c ∈ cells, 0 ≤ c) :
    stripF (mailF (rwN x y n) ⟨#[x]⟩ cells) = shownF (rwN x y n) ⟨#[x]⟩ cells (figsN n) := by
  rw [strip_mail _ _ _ h0, lies_of hx hy hc, pfx_pt n hn]
def lastB : Bool → List Bool → Bool
  | a, [] => a
  | a, b :: r => lastB (a ^^ b) r
theorem V_z (on : Str) : ∀ (l : List (Nat × Int)) (ab : Bool), (∀ p ∈ l, 0 ≤ p.2) → (122 ∈ V on ab l ↔ lastB ab (l.map (lieOf on)) = true)
  | [], ab, _ => by cases ab <;> simp [V, lastB]
  | p :: r, ab, h => by
    have ih := V_z on r (ab ^^ lieOf on p) fun q hq => h q (.tail _ hq)
    have h0 := h p (.head _)
    have hs : sgL p.2 ≠ 122 := by unfold sgL; omega
    have ha : 122 ∉ aheadL (dKind (lieOf on p) p.2) := by unfold aheadL; split; simp; split <;> simp
    have hV : V on ab (p :: r) = (if ab then [] else aheadL (dKind (lieOf on p) p.2)) ++ (if (ab ^^ lieOf on p) then [] else [sgL p.2]) ++ V on (ab ^^ lieOf on p) r := rfl
    rw [hV, List.map_cons]
    show _ ↔ lastB (ab ^^ lieOf on p) _ = true
    rw [← ih]
    constructor
    · intro hm
      rcases List.mem_append.mp hm with hm | hm
      · rcases List.mem_append.mp hm with hm | hm
        · split at hm
          · cases hm
          · exact absurd hm ha
        · split at hm
          · cases hm
          · exact absurd (List.mem_singleton.mp hm).symm hs
      · exact hm
    · intro hm; exact List.mem_append_right _ hm
theorem last_pt : ∀ n, n < 16 → lastB false (pt n) = (n % 2 == 1) := by decide +kernel
theorem pl_z {x y n : Nat} {cells : List Int} (hx : x ∈ xs4) (hy : y ∈ ys4) (hn : n < 16) (hc : cells.length = 4) (h0 : ∀ c ∈ cells, 0 ≤ c) :
    (122 ∈ (shownF (rwN x y n) ⟨#[x]⟩ cells (figsN n)).cps.toList) ↔ (n % 2 == 1) = true := by
  have h1 := shown_list ⟨#[x]⟩ ((rwN x y n).cps.toList.zip cells) "" false
  rw [lies_of hx hy hc, pfx_pt n hn] at h1
  have he : ("" : Str).cps.toList = [] := by decide +kernel
  rw [he] at h1
  unfold shownF
  have h2 : (shownEnd (List.foldl (shownStep ⟨#[x]⟩) ("", 0) (((rwN x y n).cps.toList.zip cells).zip (figsN n)))).cps.toList = V ⟨#[x]⟩ false ((rwN x y n).cps.toList.zip cells) := h1
  rw [h2, V_z _ _ _ (fun p hp => h0 _ (List.of_mem_zip hp).2), lies_of hx hy hc, last_pt n hn]
end Mine
end

section
open PySem PySem.W PyProof.Rows PySem.Calls
set_option linter.unusedVariables false
set_option maxRecDepth 100000
namespace Mine
def shN (x y : Nat) (cells : List Int) (n : Nat) : Str := shownF (rwN x y n) ⟨#[x]⟩ cells (figsN n)
theorem mail_le {x y n : Nat} {cells : List Int} (hc : cells.length = 4) : (mailF (rwN x y n) ⟨#[x]⟩ cells).length ≤ 500 := by
  unfold mailF
  have h := mail_len ⟨#[x]⟩ ((rwN x y n).cps.toList.zip cells) ""
  have hze : ("" : Str).length = 0 := by decide +kernel
  have hzy : ("\"z\"y" : Str).length = 4 := by decide +kernel
  rw [len_app]
  have hl : ((rwN x y n).cps.toList.zip cells).length ≤ 4 := by rw [List.length_zip, hc]; omega
  omega
theorem pl_rings {x y : Nat} {cells : List Int} (hx : x ∈ xs4) (hy : y ∈ ys4) (hc : cells.length = 4) (h0 : ∀ c ∈ cells, 0 ≤ c) :
    Rings ⟨#[x]⟩ ⟨#[y]⟩ cells (rwN x y) (shN x y cells) btN (wdN x y) where
  on1 := rfl
  off1 := rfl
  size := fun n _ => rfl
  mail := fun n hn => pl_strip hx hy hn hc h0
  mlen := fun n _ => mail_le hc
  bare := fun n hn => pl_bare x hx y hy n hn
  occ := pl_occ y hy
  zin := fun n hn => by
    have h := pl_z hx hy hn hc h0
    unfold shN Txt.contains
    rw [show ("z" : Str) = ⟨#[122]⟩ by decide +kernel, StrLaws.found_one]
    rw [Bool.eq_iff_iff, ← h]
    simp
  ell := fun n hn j hj => by
    obtain ⟨w1, w2, w7, w3, w4, w5⟩ := pl_ell x hx y hy j hj
    exact ⟨w1, w2, w7, w3, w4, w5, pl_ends x hx y hy n hn j hj⟩
  odd := fun n hn h => pl_odd x hx y hy n hn h
  even := fun n hn h hz => ⟨kkN n, pl_even2 n hn h hz, by unfold kkN; split; decide; split <;> decide, by unfold kkN; split; decide; split <;> decide, pl_even x hx y hy n hn h hz⟩
end Mine
end

section
open PySem PySem.W PyProof.Rows PySem.Calls
set_option linter.unusedVariables false
set_option maxRecDepth 100000
namespace Mine
section
variable {prog : Program} {w : World} {A : Around} {s s₀ : Shared} {E Q : Value → Shared → Prop} {k : Nms} {K : Addr → Obj → Prop} {L a ls : Addr} {m : Str → Option Value} {ca : Str → Addr} {ob : Str → Obj} {cm : Str → Option Value}
theorem Stt.cel (pre : List (Addr × Obj)) (H : Stt k K L s₀ s m (pre ++ cells7 ca ob cm)) (l : List (Str × Value)) (h : ∀ p ∈ l, cm p.1 = some p.2) : Stt k K L s₀ s m (pre ++ cells7 ca ob (Mine.asg l cm)) := by
  rw [asg_of h]; exact H
theorem lastL_len (bt : Nat → Bool) : (lastL bt 3).length ≤ 3 := by
  unfold lastL
  rw [List.length_map]
  exact Nat.le_trans (List.length_filter_le _ _) (by simp)
theorem law_call {sc : List (Int × Tok)} (B : Bs k s.heap) (hf : FnAt k.mg s.heap 14 "law" a) (O : Ok A 5 60) (hs : ∃ o, s.heap.get? ls = some o ∧ o.cls = .type "list" ∧ ∃ n, o.data = .seq (iVals sc).toArray n) (hn : sc.length ≤ 100)
    (h : ∀ s', Grows s s' → Q (.bool true) s') : wpAny (model prog w) A (call (.ref a) [.ref ls]) Q E s := by
  refine law_enter B hf O.room fun cd L ca ob s₁ H => ?_
  replace O : Ok (A.deeper (lawEnv ca L a cd)) 4 50 := (O.less (d' := 5) (u' := 53)).deeper
  show wpAny _ _ (execs (stm 0) _) _ _ _
  refine ph0 (O.less) H hs hn fun s1 lc cs N hcl hcs H => ?_
  clear hs
  replace H := H.freeze
  refine ph1 (cr := asg [("script", .ref ls)] fun _ => none) (O.less) H (.inr ⟨rfl, rfl⟩) hcs fun s2 m2 x y t1 t2 hx hy H => ?_
  refine ph4 (O.less) H (.inr ⟨rfl, rfl⟩) hcl fun s3 m3 bits t3 hbits H => ?_
  obtain ⟨n0, hn0, rfl⟩ := pl_exists bits hbits
  change Stt _ _ _ _ _ _ (cells7 ca ob (asg [("row", .str (rwN x y n0) t3), ("off", .str ⟨#[y]⟩ t2), ("on", .str ⟨#[x]⟩ t1)] _)) at H
  have hc0 : ∀ c ∈ cs.map (·.1), 0 ≤ c := fun c hc => by obtain ⟨p, hp, rfl⟩ := List.mem_map.mp hc; exact (hcs p hp).1
  have hc4 : (cs.map (·.1)).length = 4 := by rw [List.length_map]; exact hcl
  have R := pl_rings hx hy hc4 hc0
  refine ph5 (row := rwN x y n0) (t3 := t3) (O.less) (H.cel [] [("row", _)] (asg1 rfl)) rfl (fun i _ => pl_same' hx hy i) fun s4 m4 H => ?_
  refine ph6 (O.less) H rfl (pl_esc' hx hy) fun s5 m5 D1 D2 H => ?_
  refine ph9 (n0 := n0) (t3 := t3) (t1 := t1) (t2 := t2) (O.less) R hn0 (H.cel [(_, _), (_, _)] [("rows", .ref D1), ("row", .str (rwN x y n0) t3), ("off", .str ⟨#[y]⟩ t2), ("on", .str ⟨#[x]⟩ t1)] (asg4 rfl rfl rfl rfl)) (.inr ⟨rfl, rfl⟩) hcl hcs fun s6 m6 cr lS lR N1 N2 eS eR H => ?_
  replace H := H.freeze
  replace H := H.freeze
  have lenR := back_vals eR
  have lenS := back_vals eS
  have hlR : lR.length = n0 + 1 := by simpa [strValues] using lenR
  refine ph10 (n0 := n0) (O.less) H (.inr ⟨rfl, rfl⟩) hlR hn0 fun s7 m7 D3 tm t4 H => ?_
  refine ph13 (cs := cs) (N := N) (O.less) H (.inl (.inl (.inr ⟨rfl, rfl⟩))) hcl hcs hn0 fun s8 m8 F fs NF tm8 hfs H => ?_
  refine ph14 (rw' := rwN x y) (cs := cs) (N := N) (n0 := n0) (O.less) H (.inl (.inl (.inr ⟨rfl, rfl⟩))) hcl hcs hn0 rfl (.inr ⟨rfl, rfl⟩) (.inl (.inr ⟨rfl, rfl⟩)) eS eR hfs fun s9 m9 H => ?_
  refine ph15 (rw' := rwN x y) (cs := cs) (N := N) (n0 := n0) (O.less) H (.inl (.inl (.inr ⟨rfl, rfl⟩))) hcl hcs hn0 (fun _ _ => rfl) (.inr ⟨rfl, rfl⟩) (.inl (.inr ⟨rfl, rfl⟩)) eS eR fun s10 m10 cr2 H => ?_
  obtain ⟨tR, e0⟩ := back_at eR (Nat.zero_le n0)
  rw [Nat.sub_zero] at e0
  refine ph16 (row := rwN x y n0) (bt := btN n0) (wd := wdN x y) (O.less) H rfl rfl rfl (.inr ⟨rfl, rfl⟩) (by omega) e0 (R.ell n0 hn0) fun s11 m11 D4 l NL hl H => ?_
  refine ph17 (n0 := n0) (O.less) H (by have := congrArg List.length hl; rw [List.length_map] at this; have := lastL_len (btN n0); omega) fun s12 m12 D5 lo NO hlo H => ?_
  rw [hl] at hlo
  have hlo2 : lo.length = (if n0 = 15 then 0 else 1) ∧ ∀ p ∈ lo, n0 ≠ 15 ∧ 0 ≤ p.1 ∧ p.1 < 4 ∧ flipS (rwN x y n0) ⟨#[x]⟩ ⟨#[y]⟩ p.1 = rwN x y (n0 + 1) := by
    rcases Nat.mod_two_eq_zero_or_one n0 with h2 | h2
    · rw [if_pos h2] at hlo
      have h15 : n0 ≠ 15 := by omega
      have hll : lo.length = 1 := by have := congrArg List.length hlo; rwa [List.length_map] at this
      refine ⟨by rw [if_neg h15]; exact hll, fun p hp => ?_⟩
      have : p.1 ∈ lo.map (·.1) := List.mem_map.mpr ⟨p, hp, rfl⟩
      rw [hlo] at this
      rw [List.mem_singleton.mp this]
      exact ⟨h15, by decide, by decide, pl_upE x hx y hy n0 (by omega) h2⟩
    · rw [if_neg (by omega)] at hlo
      by_cases h15 : n0 = 15
      · subst h15
        rw [pl_15] at hlo
        have : lo = [] := by simpa using hlo
        subst this
        exact ⟨rfl, fun p hp => nomatch hp⟩
      · rw [pl_upO2 n0 (by omega) h2] at hlo
        have hll : lo.length = 1 := by have := congrArg List.length hlo; rwa [List.length_map] at this
        refine ⟨by rw [if_neg h15]; exact hll, fun p hp => ?_⟩
        have : p.1 ∈ lo.map (·.1) := List.mem_map.mpr ⟨p, hp, rfl⟩
        rw [hlo] at this
        rw [List.mem_singleton.mp this]
        have hk : 1 ≤ kkN n0 ∧ kkN n0 ≤ 3 := by unfold kkN; split; decide; split <;> decide
        exact ⟨h15, by show 0 ≤ 3 - kkN n0; omega, by show 3 - kkN n0 < 4; omega, pl_upO x hx y hy n0 (by omega) h2⟩
  refine ph18 (n0 := n0) (O.less) H hlo2.1 fun s13 m13 H => ?_
  replace H := H.freeze
  refine ph19 (row := rwN x y n0) (rowN := "") (cs := cs) (N := N) (O.less) H (.inr ⟨rfl, rfl⟩) (.inl (.inl (.inl (.inr ⟨rfl, rfl⟩)))) hcl hcs rfl rfl rfl (.inl (.inr ⟨rfl, rfl⟩)) (by omega) e0 (fun p hp => ?_) (fun s' hg => h s' hg) (fun b o e => .inl (.inl (.inl (.inl e))))
  obtain ⟨h15, p0, p4, hfl⟩ := hlo2.2 p hp
  exact ⟨p0, p4, _, hfl, rfl, pl_strip hx hy (by omega) hc4 hc0, mail_le hc4⟩
end
end Mine
end

section
open PySem PySem.W PyProof.Rows PySem.Calls
set_option linter.unusedVariables false
set_option maxRecDepth 100000
namespace Mine
def nmOf : Stmt → Str
  | .FunctionDef n _ _ _ _ _ _ _ _ _ => n
  | _ => ""
def psOf : Stmt → Pos
  | .FunctionDef _ _ _ _ _ _ _ _ _ p => p
  | _ => default
def recAt (n : Nat) : DefRec := ⟨nmOf (stAt n), paOf (stAt n), boOf (stAt n), scOf (stAt n), psOf (stAt n)⟩
theorem fnAt_of {p : Program} {loose : List Str} {mean : ExcName → Option Value} {mg mb : Str → Option Value} {h : Heap} (T : Top p loose mean mg mb h) {n : Nat} {nm : Str} (hm : recAt n ∈ recsOf p) (hn : nmOf (stAt n) = nm) : ∃ a, FnAt mg h n nm a := by
  obtain ⟨a, o, pm, code, doc, h1, h2, h3, h4⟩ := T.fn (recAt n) hm
  subst hn
  exact ⟨a, h1, o, pm, code, doc, h2, h3, h4⟩
/-- what the head hands over -/
structure View (p : Program) (loose : List Str) : Prop where
  r1 : recAt 1 ∈ recsOf p
  r2 : recAt 2 ∈ recsOf p
  r5 : recAt 5 ∈ recsOf p
  r9 : recAt 9 ∈ recsOf p
  r11 : recAt 11 ∈ recsOf p
  r12 : recAt 12 ∈ recsOf p
  r13 : recAt 13 ∈ recsOf p
  r14 : recAt 14 ∈ recsOf p
  marker : valOf p "ELLIPSIS_MARKER" = some (.str "...")
  free : ∀ x ∈ (["len", "enumerate", "zip", "chr", "range", "sum"] : List Str), x ∉ startupNames ∧ x ∉ loose ∧ x ∉ (recsOf p).map (·.name) ∧ x ∉ (litsOf p).map (·.1) ∧ x ∉ (clssOf p loose).map (·.name)
theorem bs_of {p : Program} {loose : List Str} {mean : ExcName → Option Value} {mg mb : Str → Option Value} {h : Heap} (T : Top p loose mean mg mb h) (V : View p loose) :
    ∃ k : Nms, k.mg = mg ∧ Bs k h ∧ ∃ a, FnAt mg h 14 "law" a := by
  obtain ⟨aI, fI⟩ := fnAt_of (nm := "_iter_escaped_chars") T V.r1 rfl
  obtain ⟨aS, fS⟩ := fnAt_of (nm := "_strip_quoted_realnames") T V.r2 rfl
  obtain ⟨aE, fE⟩ := fnAt_of (nm := "_ellipsis_match") T V.r5 rfl
  obtain ⟨aP, fP⟩ := fnAt_of (nm := "parse257") T V.r9 rfl
  obtain ⟨aD, fD⟩ := fnAt_of (nm := "_law_dress") T V.r11 rfl
  obtain ⟨aM, fM⟩ := fnAt_of (nm := "_law_mail") T V.r12 rfl
  obtain ⟨aW, fW⟩ := fnAt_of (nm := "_law_shown") T V.r13 rfl
  obtain ⟨aL, fL⟩ := fnAt_of (nm := "law") T V.r14 rfl
  obtain ⟨v, hv1, hv2⟩ := T.const _ _ V.marker
  refine ⟨⟨mg, mb, aI, aS, aE, aP, aD, aM, aW⟩, rfl, ⟨T.g, T.b, T.nolimit, T.builtins, fI, fS, fE, fP, fD, fM, fW, ?_, fun x hx => ?_⟩, aL, fL⟩
  · have := hv2 h
    cases this with
    | str x t => exact ⟨t, hv1⟩
  · obtain ⟨h1, h2, h3, h4, h5⟩ := V.free x hx
    exact T.free x h1 h2 h3 h4 h5
theorem ints_iVals : ∀ {vs : List Value} {ns : List Int}, IntsAre vs ns → ∃ sc : List (Int × Tok), vs = iVals sc ∧ sc.length = ns.length
  | _, _, .nil => ⟨[], rfl, rfl⟩
  | _, _, .cons n t h => by
    obtain ⟨sc, e, l⟩ := ints_iVals h
    exact ⟨(n, t) :: sc, by rw [e]; rfl, by simp [l]⟩
theorem law_ends {prog : Program} {w : World} {E Q : Value → Shared → Prop} {p : Program} {loose : List Str} {mean : ExcName → Option Value} {mg mb : Str → Option Value} {s : Shared} {fa ls : Addr} {vs : List Value} {ns : List Int} (T : Top p loose mean mg mb s.heap) (V : View p loose) (hmg : mg "law" = some (.ref fa))
    (hl : s.heap.IsList ls vs.toArray) (hi : IntsAre vs ns) (hn : ¬ (63 : Int) < (ns.length : Int)) (h : ∀ s', Grows s s' → Q (.bool true) s') : wpAny (model prog w) callerA (call (.ref fa) [.ref ls]) Q E s := by
  obtain ⟨k, ek, B, a, fL⟩ := bs_of T V
  obtain ⟨sc, rfl, hlen⟩ := ints_iVals hi
  have : fa = a := by have := fL.g; rw [hmg] at this; cases this; rfl
  subst this
  exact law_call (sc := sc) B (ek ▸ fL) ⟨rfl, by decide, by decide⟩ hl (by omega) h
end Mine
end

end

section
open PySem PySem.W PyProof.Rows
set_option maxRecDepth 100000 in
set_option maxHeartbeats 8000000 in
theorem PySem.Challenge.cw_wb0024_01_holds : PySem.Challenge.rw_wb0024_01.Holds := by
  w_on
  o_law
  o_head Hook.none
  (case hw => w_witness2)
  intro w s₀ s₁ mg mb G Y fa o pm cd doc dV kV ho hd hcd hD hmg hg args vals as hpre hlay hrd hwl hlo
  refine Ground.open G ?_
  intro T B D TE TW
  wrow_args hpre hlay hrd hwl hlo
  rename Heap.IsList _ _ _ => hL
  rename IntsAre _ _ => hI
  refine Mine.law_ends T ⟨List.mem_of_getElem? (i := 0) (by kernel_rfl), List.mem_of_getElem? (i := 1) (by kernel_rfl), List.mem_of_getElem? (i := 2) (by kernel_rfl), List.mem_of_getElem? (i := 3) (by kernel_rfl),
    List.mem_of_getElem? (i := 4) (by kernel_rfl), List.mem_of_getElem? (i := 5) (by kernel_rfl), List.mem_of_getElem? (i := 6) (by kernel_rfl), List.mem_of_getElem? (i := 7) (by kernel_rfl), by kernel_rfl, by decide +kernel⟩ hmg hL hI (by assumption) ?_
  intro s' gr
  refine ⟨.inl ⟨.bool true, .bool true, [], rfl, ?_, .bool true, ?_, ?_⟩, .of_keep gr.heap, gr.os, ?_⟩
  · intro _; rfl
  · wrow_post
  · exact fun _ => ⟨List.nodup_nil, fun _ h => nomatch h⟩
  · exact gr.gens (.of_eq hg)
end
