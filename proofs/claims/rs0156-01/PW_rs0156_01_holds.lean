import PyProof.Rows.All
import Wide.All
import OpenK.AllK
import Wide.FinOn
import PySem.Challenge.RW_rs0156_01
open PySem PySem.W PySem.Calls PyProof.Rows
set_option Elab.async false
set_option linter.unusedVariables false
set_option maxRecDepth 100000

/-! part HdTop -/
namespace Mine
/-- the run to the end of the text's top, in each of the two worlds that it can meet, and what is seen there -/
theorem leftBoth {p q : Program} {loose : List Str} {Xt : Shared → Bool} {α : Type} {Yf : Shared → α} {Ya : World → α} {N : Nat} (row : String)
    (hf : ∀ w : World, (openEnds treeTable p (w.withFollow row false) N).map (fun s => (openSeen q loose (importedModules p.main.body) Xt true s, Yf s)) = some (openGood q loose, Ya (w.withFollow row false)))
    (ht : ∀ w : World, (openEnds treeTable p (w.withFollow row true) N).map (fun s => (openSeen q loose (importedModules p.main.body) Xt true s, Yf s)) = some (openGood q loose, Ya (w.withFollow row true))) : LeftO p q loose Xt Yf Ya N := fun w => by
  have e := World.withFollow_self w row
  cases hb : w.params.followText row <;> rw [hb] at e
  · have h := hf w; rw [e] at h; exact h
  · have h := ht w; rw [e] at h; exact h
noncomputable def lawView : Program := PySem.W.view PySem.Challenge.pw_rs0156_01 [5, 6, 7, 8, 9, 10, 11, 13, 14, 16, 17, 18, 19, 20, 21, 22, 23]
noncomputable def lawLoose : List Str := [Str.ofString "insort_right", Str.ofString "bisect_right", Str.ofString "bisect_left", Str.ofString "COMPILER_FLAG_NAMES"]
noncomputable def lawXt (s : Shared) : Bool := xlAt lawView [] s && recOk (RowW.records PySem.Challenge.rw_rs0156_01.row.toRowW) s
local macro_rules | `(tactic| o_head $H) => do
  let hw := Lean.mkIdent `hw
  `(tactic| (rename_i said
             refine (fun h => PySem.W.holds_open (q := lawView) (loose := lawLoose) (Xt := lawXt) (XP := XL lawView []) (Yf := Hook.obs $H) (Ya := Hook.val $H) (YP := Hook.says $H) (N := 1690) (And.left h) (Hook.of $H) (Hook.keeps $H) (fun s e => xl_of s (Bool.and_eq_true_iff.mp e).1) XL.keeps (by rfl) (by rfl) (by rfl) (fun s e => recFacts_of (Bool.and_eq_true_iff.mp e).2) (by rfl) said (by decide +kernel) ⟨rfl, rfl, rfl, rfl, rfl, by decide +kernel⟩ ?$hw (And.right h)) ?hlc
             all_goals clear said))
set_option maxRecDepth 100000 in
set_option maxHeartbeats 4000000 in
open_top hd for PySem.Challenge.rw_rs0156_01
def lawAddrs : List Addr := [2, 3, 15, 16, 17, 19, 20, 22, 23, 24, 25, 26, 28, 29, 31, 32, 33, 34, 35, 37, 38, 40, 41, 42, 44, 45, 47, 48, 49, 51, 52, 54, 55, 56, 58, 59, 61, 62, 63, 65, 66, 68, 69, 70, 72, 73, 75, 76, 77, 79, 80, 82, 83, 84, 85, 87, 88, 90, 91, 92, 94, 95, 97, 98, 99, 102, 103, 104, 107, 108, 109, 111, 112, 114, 115, 116, 119, 120, 121, 124, 125, 126, 128, 129, 131, 132, 133, 136, 137]
theorem lawAddrsE (P : Params) : lawAddrs = (hd.heap_39 P).map (·.1) := by kernel_rfl
noncomputable def lawHook : Hook := kmHook hd.heap_39 lawAddrs lawAddrsE [64, 57]
theorem lawLeftF (w : World) : (openEnds treeTable PySem.Challenge.rw_rs0156_01.row.prog (w.withFollow "special-get-raises" false) 1690).map (fun s => (openSeen lawView lawLoose (importedModules PySem.Challenge.rw_rs0156_01.row.prog.main.body) lawXt true s, lawHook.obs s)) = some (openGood lawView lawLoose, lawHook.val (w.withFollow "special-get-raises" false)) := by kernel_rfl
theorem lawLeftT (w : World) : (openEnds treeTable PySem.Challenge.rw_rs0156_01.row.prog (w.withFollow "special-get-raises" true) 1690).map (fun s => (openSeen lawView lawLoose (importedModules PySem.Challenge.rw_rs0156_01.row.prog.main.body) lawXt true s, lawHook.obs s)) = some (openGood lawView lawLoose, lawHook.val (w.withFollow "special-get-raises" true)) := by kernel_rfl
theorem lawLeft : LeftO PySem.Challenge.rw_rs0156_01.row.prog lawView lawLoose lawXt lawHook.obs lawHook.val 1690 := leftBoth "special-get-raises" lawLeftF lawLeftT
end Mine

/-! part Fw -/
namespace Mine

/-! ## heaps: extension, hiding -/
def Ext (h h' : Heap) : Prop := ∀ b o, h.get? b = some o → h'.get? b = some o
theorem Ext.refl (h : Heap) : Ext h h := fun _ _ e => e
theorem Ext.trans {a b c : Heap} (x : Ext a b) (y : Ext b c) : Ext a c := fun i o e => y i o (x i o e)
theorem Ext.push (h : Heap) (o : Obj) : Ext h (h.push o) := fun _ _ e => Heap.get?_push_of_some _ e
/-- all but the addresses of M stand -/
def Eff (M : List Addr) (h h' : Heap) : Prop := ∀ b o, b ∉ M → h.get? b = some o → h'.get? b = some o
theorem Ext.eff {h h' : Heap} (x : Ext h h') (M : List Addr) : Eff M h h' := fun b o _ e => x b o e
theorem Eff.ext {h h' : Heap} (x : Eff [] h h') : Ext h h' := fun b o e => x b o (List.not_mem_nil) e
theorem Eff.trans {M : List Addr} {a b c : Heap} (x : Eff M a b) (y : Eff M b c) : Eff M a c := fun i o n e => y i o n (x i o n e)
theorem Eff.refl (M : List Addr) (h : Heap) : Eff M h h := fun _ _ _ e => e
theorem Eff.mono {M N : List Addr} {a b : Heap} (x : Eff M a b) (hs : ∀ i ∈ M, i ∈ N) : Eff N a b := fun i o n e => x i o (fun q => n (hs i q)) e

abbrev Bas := Addr → Option Obj
def hid (M : List Addr) (h : Heap) : Bas := fun b => if b ∈ M then none else h.get? b
theorem hid_some {M : List Addr} {h : Heap} {b : Addr} {o : Obj} : hid M h b = some o ↔ b ∉ M ∧ h.get? b = some o := by
  unfold hid
  by_cases q : b ∈ M
  · simp [q]
  · simp [q]
theorem hid_mem {M : List Addr} {h : Heap} {b : Addr} (q : b ∈ M) : hid M h b = none := by unfold hid; rw [if_pos q]

/-! ## the ground: the text's own objects, the globals, the builtins -/
structure Base (w : World) (mg mb : Str → Option Value) (h : Heap) : Prop where
  K : (hd.heap_39 w.params).In h
  g : h.Ns mainGlobals mg
  b : h.Ns builtinsNs mb
  bb : ∀ x : Str, x ≠ "__name__" → mb x = bootBuiltins x
  lim : h.NoLimit
  c1 : CodeHd h 68 64
  c2 : CodeHd h 61 57
  bm : ∃ bm ob, mg "__builtins__" = some (.ref bm) ∧ bm ≠ builtinsNs ∧ h.get? bm = some ob ∧ ob.cls = .type "module" ∧ ob.dict = some builtinsNs ∧ ob.data = .plain
theorem Base.ext {w : World} {mg mb : Str → Option Value} {h h' : Heap} (x : Base w mg mb h) (k : Ext h h') : Base w mg mb h' :=
  ⟨x.K.keeps k, x.g.keeps k, x.b.keeps k, x.bb, x.lim.keeps k, x.c1.keeps k, x.c2.keeps k, let ⟨bm, ob, a1, a2, a3, r⟩ := x.bm; ⟨bm, ob, a1, a2, k _ _ a3, r⟩⟩
def Bs (w : World) (mg mb : Str → Option Value) (B : Bas) : Prop := ∃ G, Base w mg mb G ∧ ∀ b o, G.get? b = some o → B b = some o
theorem Bs.at {w : World} {mg mb : Str → Option Value} {B : Bas} {h : Heap} (x : Bs w mg mb B) (k : ∀ b o, B b = some o → h.get? b = some o) : Base w mg mb h := by
  obtain ⟨G, g, e⟩ := x
  exact g.ext fun b o q => k b o (e b o q)
theorem Bs.mono {w : World} {mg mb : Str → Option Value} {B B' : Bas} (x : Bs w mg mb B) (k : ∀ b o, B b = some o → B' b = some o) : Bs w mg mb B' := by
  obtain ⟨G, g, e⟩ := x
  exact ⟨G, g, fun b o q => k b o (e b o q)⟩

/-! ## a frame's state -/
structure St (B : Bas) (L : Addr) (h : Heap) (vars : List (Str × Value)) (l : List (Addr × Obj)) : Prop where
  ns : ∃ m, h.Ns L m ∧ ∀ x v, vars.lookup x = some v → m x = some v
  keep : ∀ b o, B b = some o → h.get? b = some o
  own : ∀ p ∈ l, h.get? p.1 = some p.2
  sep : ∀ p ∈ l, B p.1 = none
  sepL : ∀ p ∈ l, p.1 ≠ L
  nL : B L = none
  nodup : (l.map (·.1)).Nodup
section
variable {B : Bas} {L : Addr} {h h' : Heap} {vars vars' : List (Str × Value)} {l l' : List (Addr × Obj)} {a : Addr} {o o' : Obj}
theorem St.get (S : St B L h vars ((a, o) :: l)) : h.get? a = some o := S.own _ (.head _)
theorem St.ltL (S : St B L h vars l) : L < h.objs.size := let ⟨_, n, _⟩ := S.ns; n.lt
theorem St.fresh (S : St B L h vars l) : B h.objs.size = none := by
  cases e : B h.objs.size with
  | none => rfl
  | some o => exact absurd (Heap.lt_size (S.keep _ _ e)) (Nat.lt_irrefl _)
theorem St.ext (S : St B L h vars l) (k : Ext h h') : St B L h' vars l :=
  ⟨let ⟨m, n, f⟩ := S.ns; ⟨m, n.keeps k, f⟩, fun b o e => k b o (S.keep b o e), fun p hp => k _ _ (S.own p hp), S.sep, S.sepL, S.nL, S.nodup⟩
theorem St.push (S : St B L h vars l) (o : Obj) (hf : o.isFreed = false := by rfl) : St B L (h.push o) vars ((h.objs.size, o) :: l) := by
  have S' := S.ext (Ext.push h o)
  refine ⟨S'.ns, S'.keep, fun p hp => ?_, fun p hp => ?_, fun p hp => ?_, S.nL, ?_⟩
  · rcases List.mem_cons.mp hp with rfl | hp
    · exact Heap.get?_push_size _ hf
    · exact S'.own p hp
  · rcases List.mem_cons.mp hp with rfl | hp
    · exact S.fresh
    · exact S.sep p hp
  · rcases List.mem_cons.mp hp with rfl | hp
    · exact Nat.ne_of_gt S.ltL
    · exact S.sepL p hp
  · rw [List.map_cons, List.nodup_cons]
    refine ⟨fun q => ?_, S.nodup⟩
    obtain ⟨p, hp, e⟩ := List.mem_map.mp q
    have := Heap.lt_size (S.own p hp)
    rw [e] at this
    exact Nat.lt_irrefl _ this
theorem St.upd (S : St B L h vars ((a, o) :: l)) (k : Eff [a] h h') (e : h'.get? a = some o') : St B L h' vars ((a, o') :: l) := by
  have nd := List.nodup_cons.mp S.nodup
  have off : ∀ b, b ≠ a → b ∉ [a] := fun b q m => q (List.mem_singleton.mp m)
  refine ⟨?_, fun b o e => ?_, fun p hp => ?_, fun p hp => ?_, fun p hp => ?_, S.nL, ?_⟩
  · obtain ⟨m, ⟨oL, es, ep, e1, r⟩, f⟩ := S.ns
    exact ⟨m, ⟨oL, es, ep, k _ _ (off _ (Ne.symm (S.sepL _ (.head _)))) e1, r⟩, f⟩
  · refine k b o (off _ fun q => ?_) (S.keep b o e)
    have := S.sep _ (.head _)
    rw [q] at e
    rw [e] at this
    cases this
  · rcases List.mem_cons.mp hp with rfl | hp
    · exact e
    · exact k _ _ (off _ fun q => nd.1 (List.mem_map.mpr ⟨p, hp, q⟩)) (S.own p (.tail _ hp))
  · rcases List.mem_cons.mp hp with rfl | hp
    · exact S.sep (a, o) (.head _)
    · exact S.sep p (.tail _ hp)
  · rcases List.mem_cons.mp hp with rfl | hp
    · exact S.sepL (a, o) (.head _)
    · exact S.sepL p (.tail _ hp)
  · exact S.nodup
theorem SameBut.eff (s : Heap.SameBut a h h') : Eff [a] h h' := fun b _ n e => (s.2 b fun q => n (q ▸ List.mem_singleton.mpr rfl)).trans e
theorem ExtBut.eff (s : Heap.ExtBut a h h') : Eff [a] h h' := fun b o n e => s b o (fun q => n (q ▸ List.mem_singleton.mpr rfl)) e
/-- what is forgotten, and the order of what is kept -/
theorem St.only (S : St B L h vars l) (hs : ∀ p ∈ l', p ∈ l) (nd : (l'.map (·.1)).Nodup) : St B L h vars l' :=
  ⟨S.ns, S.keep, fun p hp => S.own p (hs p hp), fun p hp => S.sep p (hs p hp), fun p hp => S.sepL p (hs p hp), S.nL, nd⟩
theorem St.drop1 {p : Addr × Obj} (S : St B L h vars (p :: l)) : St B L h vars l :=
  S.only (fun q hq => .tail _ hq) (List.nodup_cons.mp S.nodup).2
theorem St.empty (S : St B L h vars l) : St B L h vars [] := S.only (fun _ hq => nomatch hq) List.nodup_nil
theorem St.swap {p q : Addr × Obj} (S : St B L h vars (p :: q :: l)) : St B L h vars (q :: p :: l) := by
  refine S.only (fun r hr => ?_) ?_
  · simp only [List.mem_cons] at hr ⊢; rcases hr with h | h | h <;> simp [h]
  · have := S.nodup
    simp only [List.map_cons, List.nodup_cons, List.mem_cons, not_or] at this ⊢
    exact ⟨⟨Ne.symm this.1.1, this.2.1⟩, this.1.2, this.2.2⟩
theorem St.drop2 {p q : Addr × Obj} (S : St B L h vars (p :: q :: l)) : St B L h vars (p :: l) := S.swap.drop1
/-- local names: which are known -/
def AllV (vars : List (Str × Value)) : List (Str × Value) → Prop
  | [] => True
  | p :: r => vars.lookup p.1 = some p.2 ∧ AllV vars r
theorem AllV.mem : ∀ {vars' : List (Str × Value)}, AllV vars vars' → ∀ p ∈ vars', vars.lookup p.1 = some p.2
  | _ :: _, h, _, .head _ => h.1
  | _ :: _, h, p, .tail _ m => AllV.mem h.2 p m
theorem mem_of_lookup {x : Str} {v : Value} : ∀ {vs : List (Str × Value)}, vs.lookup x = some v → (x, v) ∈ vs
  | (y, u) :: r, e => by
    rw [List.lookup_cons] at e
    cases q : x == y with
    | true => rw [q] at e; cases e; rw [eq_of_beq q]; exact .head _
    | false => rw [q] at e; exact .tail _ (mem_of_lookup e)
theorem St.lets (S : St B L h vars l) (k : AllV vars vars') : St B L h vars' l :=
  ⟨let ⟨m, n, f⟩ := S.ns; ⟨m, n, fun x v e => f x v (AllV.mem k _ (mem_of_lookup e))⟩, S.keep, S.own, S.sep, S.sepL, S.nL, S.nodup⟩
theorem St.set {x : Str} {v : Value} {m : Str → Option Value} (S : St B L h vars l) (hm : ∀ y u, vars.lookup y = some u → m y = some u)
    (hn : h'.Ns L (fun y => if y = x then some v else m y)) (hs : Heap.SameBut L h h') : St B L h' ((x, v) :: vars) l := by
  refine ⟨⟨_, hn, fun y u e => ?_⟩, fun b o e => ?_, fun p hp => (hs.2 _ (S.sepL p hp)).trans (S.own p hp), S.sep, S.sepL, S.nL, S.nodup⟩
  · rw [List.lookup_cons] at e
    by_cases q : y = x
    · subst q; simp at e; simp [e]
    · have : (y == x) = false := by simpa using q
      rw [this] at e
      simp only [if_neg q]
      exact hm y u e
  · refine (hs.2 b fun q => ?_).trans (S.keep b o e)
    rw [q, S.nL] at e; cases e
/-- a call that mutates nothing of ours -/
theorem St.bs {w : World} {mg mb : Str → Option Value} (S : St B L h vars l) (X : Bs w mg mb B) : Bs w mg mb (hid [] h) :=
  X.mono fun b o e => hid_some.mpr ⟨List.not_mem_nil, S.keep b o e⟩
/-- a call that mutates one object of ours -/
theorem St.bs1 {w : World} {mg mb : Str → Option Value} (S : St B L h vars ((a, o) :: l)) (X : Bs w mg mb B) : Bs w mg mb (hid [a] h) :=
  X.mono fun b o' e => hid_some.mpr ⟨(fun q => by
    have h1 := S.sep _ (.head _)
    have h2 := e
    rw [List.mem_singleton.mp q] at h2
    rw [h2] at h1; cases h1), S.keep b o' e⟩
end

/-! ## names -/
section
variable {M : Model} {A : Around} {E : Value → Shared → Prop} {s : Shared} {B : Bas} {L : Addr} {vars : List (Str × Value)} {l : List (Addr × Obj)} {env : Env} {w : World} {mg mb : Str → Option Value}
theorem rLoc {x : Str} {pos : Pos} {v : Value} {Q : Value → Shared → Prop} (S : St B L s.heap vars l) (hv : vars.lookup x = some v) (k : Q v s)
    (hL : env.locals = L := by rfl) (hk : env.scope.kind = .function := by rfl) (hl : env.kindOf x = some .local := by rfl) (hd : (x == ("__debug__" : Str)) = false := by rfl) :
    wpAny M A (eval (.Name x pos) env) Q E s := by
  obtain ⟨m, n, f⟩ := S.ns
  subst hL
  exact wpAny_Name (wpAny_loadName_local hk hl n (f _ _ hv) k) hd
theorem rLocN {x : Str} {v : Value} {Q : Value → Shared → Prop} (S : St B L s.heap vars l) (hv : vars.lookup x = some v) (k : Q v s)
    (hL : env.locals = L := by rfl) (hk : env.scope.kind = .function := by rfl) (hl : env.kindOf x = some .local := by rfl) :
    wpAny M A (loadName env x) Q E s := by
  obtain ⟨m, n, f⟩ := S.ns
  subst hL
  exact wpAny_loadName_local hk hl n (f _ _ hv) k
theorem rSt {x : Str} {v : Value} {Q : Unit → Shared → Prop} (S : St B L s.heap vars l) (k : ∀ h', St B L h' ((x, v) :: vars) l → Q () { s with heap := h', toks := s.toks + 1 })
    (hL : env.locals = L := by rfl) (hk : env.scope.kind = .function := by rfl) (hl : env.kindOf x = some .local := by rfl) :
    wpAny M A (storeName env x v) Q E s := by
  obtain ⟨m, n, f⟩ := S.ns
  subst hL
  refine wpAny_storeName_local hl n (fun h' hn hs => k h' (S.set f hn hs)) ?_
  rw [hk]; rfl
theorem rGlob {x : Str} {pos : Pos} {v : Value} {Q : Value → Shared → Prop} (S : St B L s.heap vars l) (X : Bs w mg mb B) (e : nsIn (hd.heap_39 w.params) mainGlobals x = some (some v)) (k : Q v s)
    (hk : env.scope.kind = .function := by rfl) (hl : env.kindOf x = some .globalImplicit := by rfl) (hG : env.globals = mainGlobals := by rfl) (hd : (x == ("__debug__" : Str)) = false := by rfl) :
    wpAny M A (eval (.Name x pos) env) Q E s := by
  have Y := X.at S.keep
  exact Calls.Name_function_global hk hl (Calls.loadGlobal_global (env := env) (hG ▸ Y.g) (mg_of Y.K Y.g e) k) hd
theorem rBoot {x : Str} {pos : Pos} {v : Value} {Q : Value → Shared → Prop} (S : St B L s.heap vars l) (X : Bs w mg mb B) (e : nsIn (hd.heap_39 w.params) mainGlobals x = some none) (hv : bootBuiltins x = some v) (k : Q v s)
    (hn : x ≠ "__name__" := by decide) (hk : env.scope.kind = .function := by rfl) (hl : env.kindOf x = some .globalImplicit := by rfl) (hG : env.globals = mainGlobals := by rfl) (hB : env.builtins = builtinsNs := by rfl) (hd : (x == ("__debug__" : Str)) = false := by rfl) :
    wpAny M A (eval (.Name x pos) env) Q E s := by
  have Y := X.at S.keep
  exact Calls.Name_function_global hk hl (Calls.loadGlobal_builtin (env := env) (hG ▸ Y.g) (mg_none_of Y.K Y.g e) (hB ▸ Y.b) ((Y.bb x hn).trans hv) k) hd
end
end Mine

/-! part Fw2 -/
namespace Mine
structure Room (A : Around) (d u : Nat) : Prop where
  hh : A.handled = none
  dep : A.depth + d < recursionLimit
  un : A.units + u < cLine
theorem Room.deeper {A : Around} {d u : Nat} (r : Room A (d + 1) (u + 3)) (env : Env) : Room (A.deeper env) d u :=
  ⟨r.hh, by show A.depth + 1 + d < _; have := r.dep; lia, by show A.units + 3 + u < _; have := r.un; lia⟩
theorem Room.less {A : Around} {d u d' u' : Nat} (r : Room A d u) (hd : d' ≤ d := by omega) (hu : u' ≤ u := by omega) : Room A d' u' :=
  ⟨r.hh, by have := r.dep; lia, by have := r.un; lia⟩
theorem Room.ul {A : Around} {d u m : Nat} (r : Room A d u) (h : m ≤ u) : A.units + m < cLine := Nat.lt_of_le_of_lt (Nat.add_le_add_left h _) r.un
abbrev sh (s : Shared) (h : Heap) (t : Nat) : Shared := { s with heap := h, toks := t }

section
variable {prog : Program} {w : World} {mg mb : Str → Option Value} {A : Around} {E : Value → Shared → Prop} {s : Shared}
theorem St.start {M : List Addr} {h h₁ : Heap} {binds : List (Str × Value)} {own : List (Addr × Obj)} (hns : h₁.Ns h.objs.size (fun x => binds.lookup x)) (hk : Ext h h₁)
    (ho : ∀ p ∈ own, h.get? p.1 = some p.2) (hM : ∀ p ∈ own, p.1 ∈ M) (nd : (own.map (·.1)).Nodup) : St (hid M h) h.objs.size h₁ binds own := by
  refine ⟨⟨_, hns, fun _ _ e => e⟩, fun b o e => hk b o (hid_some.mp e).2, fun p hp => hk _ _ (ho p hp), fun p hp => hid_mem (hM p hp), fun p hp => Nat.ne_of_lt (Heap.lt_size (ho p hp)), ?_, nd⟩
  cases e : hid M h h.objs.size with
  | none => rfl
  | some o => exact absurd (Heap.lt_size (hid_some.mp e).2) (Nat.lt_irrefl _)
theorem St.eff {M : List Addr} {L : Addr} {h h' : Heap} {vars : List (Str × Value)} {l : List (Addr × Obj)} (S : St (hid M h) L h' vars l) : Eff M h h' := fun b o n e => S.keep b o (hid_some.mpr ⟨n, e⟩)

/-- into a def of the text -/
theorem enter {name qual : Str} {params : Arguments} {body : List Stmt} {scope : Scope} {dV kV doc pm cdv ct oc : Value} {an od : Option Addr} {osl : Array (Option Value)} {f : Addr} {args : List Value} {binds : List (Str × Value)}
    {Q : Value → Shared → Prop} (M : List Addr) (own : List (Addr × Obj)) {d u : Nat} (X : Bs w mg mb (hid M s.heap)) (rm : Room A (d + 1) (u + 3))
    (ho : (hd.heap_39 w.params).lookup f = some ⟨oc, od, .func (fnX name qual params body scope [] dV kV doc pm an cdv ct), osl⟩)
    (hcd : codeIn (hd.heap_39 w.params) cdv qual = true)
    (hbind : (hd.heap_39 w.params).In s.heap → BindsTo s (fnX name qual params body scope [] dV kV doc pm an cdv ct) ⟨args, []⟩ binds)
    (hown : ∀ p ∈ own, s.heap.get? p.1 = some p.2) (hM : ∀ p ∈ own, p.1 ∈ M) (nd : (own.map (·.1)).Nodup)
    (h : ∀ L h₁ t₁ env (A' : Around) (K : Flow → Shared → Prop) (E' : Value → Shared → Prop), (∀ v s', Q v s' → K (.ret v) s') → (∀ s', Q .none s' → K .next s') → env = envX qual scope L f cdv [] → St (hid M s.heap) L h₁ binds.reverse own → Room A' d u → wpAny (model prog w) A' (execs body env) K E' (sh s h₁ t₁))
    (hcell : ∀ x ∈ scope.names, x.2 ≠ .cell) (hloc : ∀ x ∈ binds, scope.names.lookup x.1 = some .local)
    (hco : scope.isCoroutine = false := by rfl) (hgen : scope.isGenerator = false := by rfl) (hk : scope.kind = .function := by rfl) :
    wpAny (model prog w) A (call (.ref f) args) Q E s := by
  have Y : Base w mg mb s.heap := X.at fun b o e => (hid_some.mp e).2
  refine wpAny_call (codeAny_call_def (fd := fnX name qual params body scope [] dV kV doc pm an cdv ct) (body := body) (binds := binds) (by have := rm.dep; lia  ) (Y.K _ _ ho) rfl Y.lim (codeRec_of Y.K hcd) rfl
    (hbind Y.K) hcell hloc (fun h₁ hns hk₁ => ?_) hco hgen hk)
  exact h _ h₁ _ _ _ _ _ (fun _ _ q => q) (fun _ q => q) rfl (St.start hns hk₁ hown hM nd) (rm.deeper _)

theorem enter0 {name qual : Str} {params : Arguments} {body : List Stmt} {scope : Scope} {dV kV doc pm cdv ct oc : Value} {an od : Option Addr} {osl : Array (Option Value)} {f : Addr} {args : List Value} {binds : List (Str × Value)}
    {Q : Value → Shared → Prop} {d u : Nat} (X : Bs w mg mb (hid [] s.heap)) (rm : Room A (d + 1) (u + 3))
    (ho : (hd.heap_39 w.params).lookup f = some ⟨oc, od, .func (fnX name qual params body scope [] dV kV doc pm an cdv ct), osl⟩)
    (hcd : codeIn (hd.heap_39 w.params) cdv qual = true)
    (hbind : (hd.heap_39 w.params).In s.heap → BindsTo s (fnX name qual params body scope [] dV kV doc pm an cdv ct) ⟨args, []⟩ binds)
    (h : ∀ L h₁ t₁ env (A' : Around) (K : Flow → Shared → Prop) (E' : Value → Shared → Prop), (∀ v s', Q v s' → K (.ret v) s') → (∀ s', Q .none s' → K .next s') → env = envX qual scope L f cdv [] → St (hid [] s.heap) L h₁ binds.reverse [] → Room A' d u → wpAny (model prog w) A' (execs body env) K E' (sh s h₁ t₁))
    (hcell : ∀ x ∈ scope.names, x.2 ≠ .cell) (hloc : ∀ x ∈ binds, scope.names.lookup x.1 = some .local)
    (hco : scope.isCoroutine = false := by rfl) (hgen : scope.isGenerator = false := by rfl) (hk : scope.kind = .function := by rfl) :
    wpAny (model prog w) A (call (.ref f) args) Q E s :=
  enter [] [] X rm ho hcd hbind (fun _ hp => nomatch hp) (fun _ hp => nomatch hp) List.nodup_nil h hcell hloc hco hgen hk
end
theorem binds_kd {w : World} {s : Shared} {fd : FuncData} {args : Args} {binds : List (Str × Value)} {T D : Addr} {o od : Obj} {items : Array Value} {n : Nat} 
    (X : (hd.heap_39 w.params).In s.heap) : True := trivial
end Mine

/-! part Fw3 -/
namespace Mine
theorem BindsTo.peek {w : World} {s : Shared} {fd : FuncData} {args : Args} {binds : List (Str × Value)} (X : (hd.heap_39 w.params).In s.heap)
    (e : ∀ S, peek (hd.heap_39 w.params) S (bindArgs fd args) = some binds) : BindsTo s fd args binds :=
  fun _ _ _ _ q => (Looks.of_peek X (e _)).here q
theorem ifT {c : Prop} [Decidable c] {X Y : Prop} (h : c) (x : X) : if decide c = true then X else Y := by rw [decide_eq_true h]; exact x
theorem ifF {c : Prop} [Decidable c] {X Y : Prop} (h : ¬ c) (y : Y) : if decide c = true then X else Y := by rw [decide_eq_false h]; exact y
theorem ifD {c : Prop} [Decidable c] {X Y : Prop} (x : c → X) (y : ¬ c → Y) : if decide c = true then X else Y := by
  by_cases h : c
  · exact ifT h (x h)
  · exact ifF h (y h)
theorem ifB {b : Bool} {X Y : Prop} (x : b = true → X) (y : b = false → Y) : if b = true then X else Y := by
  cases b
  · exact y rfl
  · exact x rfl

section
variable {prog : Program} {A : Around} {E : Value → Shared → Prop} {s : Shared} {B : Bas} {L : Addr} {vars : List (Str × Value)} {l : List (Addr × Obj)} {env : Env} {w : World} {mg mb : Str → Option Value}
/-- a call of a def of the text by its name -/
theorem rCall {x : Str} {np pos : Pos} {f : Addr} {e : Expr} {rest : List Expr} {Q : Value → Shared → Prop} (S : St B L s.heap vars l) (X : Bs w mg mb B)
    (en : nsIn (hd.heap_39 w.params) mainGlobals x = some (some (.ref f))) (hk : keepIn (hd.heap_39 w.params) (.ref f) = true)
    (h : wpAny (model prog w) A (spliced (backTo pos (starEach (e :: rest) env))) (fun vs s₁ => Base w mg mb s₁.heap ∧ wpAny (model prog w) A (call (.ref f) vs) Q E s₁) E s)
    (he : starEach (e :: rest) env = (false, eval e env) :: starEach rest env := by rfl) (hplain : (backTo pos (starEach rest env)).any (·.1) = false := by rfl)
    (hkk : env.scope.kind = .function := by rfl) (hl : env.kindOf x = some .globalImplicit := by rfl) (hG : env.globals = mainGlobals := by rfl) (hd : (x == ("__debug__" : Str)) = false := by rfl) :
    wpAny (model prog w) A (eval (.Call (.Name x np) (e :: rest) [] pos) env) Q E s := by
  refine wpAny_Call_NameR (rGlob S X en ?_ hkk hl hG hd)
  refine callWith_K (X.at S.keep).K hk (wpAny_mono h (fun vs s₁ h₁ => ⟨h₁.1.K, ?_⟩) fun _ _ x => x) he hplain
  rw [List.nil_append]; exact h₁.2
theorem rCall0 {x : Str} {np pos : Pos} {f : Addr} {Q : Value → Shared → Prop} (S : St B L s.heap vars l) (X : Bs w mg mb B)
    (en : nsIn (hd.heap_39 w.params) mainGlobals x = some (some (.ref f))) (hk : keepIn (hd.heap_39 w.params) (.ref f) = true)
    (h : wpAny (model prog w) A (call (.ref f) []) Q E s)
    (hkk : env.scope.kind = .function := by rfl) (hl : env.kindOf x = some .globalImplicit := by rfl) (hG : env.globals = mainGlobals := by rfl) (hd : (x == ("__debug__" : Str)) = false := by rfl) :
    wpAny (model prog w) A (eval (.Call (.Name x np) [] [] pos) env) Q E s := by
  refine wpAny_Call_NameR (rGlob S X en ?_ hkk hl hG hd)
  exact callWith_K0 (X.at S.keep).K hk h
/-- a call of a builtin function by its name -/
theorem rCallB {x : Str} {np pos : Pos} {id : String} {e : Expr} {rest : List Expr} {Q : Value → Shared → Prop} (S : St B L s.heap vars l) (X : Bs w mg mb B)
    (en : nsIn (hd.heap_39 w.params) mainGlobals x = some none) (hv : bootBuiltins x = some (.builtin id))
    (h : wpAny (model prog w) A (spliced (backTo pos (starEach (e :: rest) env))) (fun vs s₁ => wpAny (model prog w) A (call (.builtin id) vs) Q E s₁) E s)
    (hn : x ≠ "__name__" := by decide)
    (he : starEach (e :: rest) env = (false, eval e env) :: starEach rest env := by rfl) (hplain : (backTo pos (starEach rest env)).any (·.1) = false := by rfl)
    (hkk : env.scope.kind = .function := by rfl) (hl : env.kindOf x = some .globalImplicit := by rfl) (hG : env.globals = mainGlobals := by rfl) (hB : env.builtins = builtinsNs := by rfl) (hd : (x == ("__debug__" : Str)) = false := by rfl) :
    wpAny (model prog w) A (eval (.Call (.Name x np) (e :: rest) [] pos) env) Q E s := by
  refine wpAny_Call_NameR (rBoot S X en hv ?_ hn hkk hl hG hB hd)
  exact callWith_method1 h he hplain
theorem rCallT {x : Str} {np pos : Pos} {T : String} {e : Expr} {rest : List Expr} {Q : Value → Shared → Prop} (S : St B L s.heap vars l) (X : Bs w mg mb B)
    (en : nsIn (hd.heap_39 w.params) mainGlobals x = some none) (hv : bootBuiltins x = some (.type T))
    (h : wpAny (model prog w) A (spliced (backTo pos (starEach (e :: rest) env))) (fun vs s₁ => wpAny (model prog w) A (call (.type T) vs) Q E s₁) E s)
    (hn : x ≠ "__name__" := by decide)
    (he : starEach (e :: rest) env = (false, eval e env) :: starEach rest env := by rfl) (hplain : (backTo pos (starEach rest env)).any (·.1) = false := by rfl)
    (hkk : env.scope.kind = .function := by rfl) (hl : env.kindOf x = some .globalImplicit := by rfl) (hG : env.globals = mainGlobals := by rfl) (hB : env.builtins = builtinsNs := by rfl) (hd : (x == ("__debug__" : Str)) = false := by rfl) :
    wpAny (model prog w) A (eval (.Call (.Name x np) (e :: rest) [] pos) env) Q E s := by
  refine wpAny_Call_NameR (rBoot S X en hv ?_ hn hkk hl hG hB hd)
  exact PyProof.Rows.callWith_type1 h he hplain
/-- a turn of a while loop's state, kept apart -/
theorem rWhile {test : Expr} {body orelse : List Stmt} {pos : Pos} {Q : Flow → Shared → Prop} (I : Nat → Shared → Prop) (n : Nat) (h : I n s)
    (turn : ∀ n s E' (K : Flow → Shared → Prop), (∀ m s', m < n → I m s' → K .next s') → I n s →
      wpAny (model prog w) A (isTrue test env (eval test env)) (fun b s₂ =>
        if b then wpAny (model prog w) A (execs body env) K E' s₂
        else wpAny (model prog w) A (execs orelse env) (fun f s₃ => Q f s₃) E' s₂) E' s) :
    wpAny (model prog w) A (exec (.While test body orelse pos) env) Q E s := by
  refine wpAny_While (codeAny_whileLoop I (fun n s hI => ?_) n h)
  exact turn n s _ (fun f s₃ => match f with | .next | .cont => ∃ m, m < n ∧ I m s₃ | .brk => Q .next s₃ | .ret v => Q (.ret v) s₃) (fun m s' a b => ⟨m, a, b⟩) hI
end
/-! names of the module -/
section
variable (P : Params)
theorem g_insort_right : nsIn (hd.heap_39 P) mainGlobals "insort_right" = some (some (.ref 23)) := by kernel_rfl
theorem g_bisect_right : nsIn (hd.heap_39 P) mainGlobals "bisect_right" = some (some (.ref 32)) := by kernel_rfl
theorem g_bisect_left : nsIn (hd.heap_39 P) mainGlobals "bisect_left" = some (some (.ref 41)) := by kernel_rfl
theorem g_DIV_LIMIT : ∃ t, nsIn (hd.heap_39 P) mainGlobals "_DIV_LIMIT" = some (some (.int 4000 t)) := ⟨_, rfl⟩
theorem g_div2n1n : nsIn (hd.heap_39 P) mainGlobals "_div2n1n" = some (some (.ref 48)) := by kernel_rfl
theorem g_int2digits : nsIn (hd.heap_39 P) mainGlobals "_int2digits" = some (some (.ref 62)) := by kernel_rfl
theorem g_digits2int : nsIn (hd.heap_39 P) mainGlobals "_digits2int" = some (some (.ref 69)) := by kernel_rfl
theorem g_divmod_pos : nsIn (hd.heap_39 P) mainGlobals "_divmod_pos" = some (some (.ref 76)) := by kernel_rfl
theorem g_int_divmod : nsIn (hd.heap_39 P) mainGlobals "int_divmod" = some (some (.ref 83)) := by kernel_rfl
theorem g_FLAGS : nsIn (hd.heap_39 P) mainGlobals "COMPILER_FLAG_NAMES" = some (some (.ref 84)) := by kernel_rfl
theorem g_pretty_flags : nsIn (hd.heap_39 P) mainGlobals "pretty_flags" = some (some (.ref 91)) := by kernel_rfl
theorem g_law_cells : nsIn (hd.heap_39 P) mainGlobals "_law_cells" = some (some (.ref 98)) := by kernel_rfl
theorem g_law_words : nsIn (hd.heap_39 P) mainGlobals "_law_words" = some (some (.ref 103)) := by kernel_rfl
theorem g_law_by_size : nsIn (hd.heap_39 P) mainGlobals "_law_by_size" = some (some (.ref 108)) := by kernel_rfl
theorem g_law_below : nsIn (hd.heap_39 P) mainGlobals "_law_below" = some (some (.ref 115)) := by kernel_rfl
theorem g_law_within : nsIn (hd.heap_39 P) mainGlobals "_law_within" = some (some (.ref 120)) := by kernel_rfl
theorem g_law_cascade : nsIn (hd.heap_39 P) mainGlobals "_law_cascade" = some (some (.ref 125)) := by kernel_rfl
theorem g_law_cast : nsIn (hd.heap_39 P) mainGlobals "_law_cast" = some (some (.ref 132)) := by kernel_rfl
theorem keep_of {f : Addr} (h : f ∈ [23, 32, 41, 48, 62, 69, 76, 83, 91, 98, 103, 108, 115, 120, 125, 132]) : keepIn (hd.heap_39 P) (.ref f) = true := by
  simp only [List.mem_cons, List.mem_nil_iff, or_false] at h
  rcases h with rfl | rfl | rfl | rfl | rfl | rfl | rfl | rfl | rfl | rfl | rfl | rfl | rfl | rfl | rfl | rfl <;> kernel_rfl
theorem n_len : nsIn (hd.heap_39 P) mainGlobals "len" = some none := by kernel_rfl
theorem n_range : nsIn (hd.heap_39 P) mainGlobals "range" = some none := by kernel_rfl
theorem n_enumerate : nsIn (hd.heap_39 P) mainGlobals "enumerate" = some none := by kernel_rfl
theorem n_zip : nsIn (hd.heap_39 P) mainGlobals "zip" = some none := by kernel_rfl
theorem n_reversed : nsIn (hd.heap_39 P) mainGlobals "reversed" = some none := by kernel_rfl
theorem n_divmod : nsIn (hd.heap_39 P) mainGlobals "divmod" = some none := by kernel_rfl
theorem n_hex : nsIn (hd.heap_39 P) mainGlobals "hex" = some none := by kernel_rfl
theorem n_sum : nsIn (hd.heap_39 P) mainGlobals "sum" = some none := by kernel_rfl
end
end Mine

/-! part Fw4 -/
namespace Mine
section
variable {prog : Program} {A : Around} {E : Value → Shared → Prop} {s : Shared} {B : Bas} {L : Addr} {vars : List (Str × Value)} {l : List (Addr × Obj)} {env : Env} {w : World} {mg mb : Str → Option Value}
theorem isL {h : Heap} {a : Addr} {its : Array Value} {n : Nat} (e : h.get? a = some (listOf its n)) : h.IsList a its := ⟨_, e, rfl, _, rfl⟩
/-- a method of a list, with arguments -/
theorem rLM {o : Expr} {name : Str} {id : String} {apos pos : Pos} {e : Expr} {rest : List Expr} {pl : Sem Bool} {Q : Value → Shared → Prop} (slot : Slot "list" name id)
    (hty : typeOf (.builtin id) = pure (.type "method_descriptor"))
    (h : wpAny (model prog w) A (eval o env) (fun ov s₁ => ∃ D its n, ov = .ref D ∧ s₁.heap.get? D = some (listOf its n) ∧
      wpAny (model prog w) A (spliced (backTo pos (starEach (e :: rest) env))) (fun vs s₂ => wpAny (model prog w) A (call (.builtin id) (.ref D :: vs)) Q E s₂) E s₁) E s)
    (hm : eval (.Call (.Attribute o name apos) (e :: rest) [] pos) env = (do
      let ov ← eval o env
      standAt apos.atName
      let (f, first) ← holding [ov] (getMethod ov name pl)
      callWith pos f first (backTo pos (starEach (e :: rest) env)) []) := by rfl)
    (he : starEach (e :: rest) env = (false, eval e env) :: starEach rest env := by rfl) (hplain : (backTo pos (starEach rest env)).any (·.1) = false := by rfl) :
    wpAny (model prog w) A (eval (.Call (.Attribute o name apos) (e :: rest) [] pos) env) Q E s := by
  refine MethodCall_ (pl := pl) (wpAny_mono h (fun ov s₁ h₁ => ?_) fun _ _ x => x) hm
  obtain ⟨D, its, n, rfl, hD, h₂⟩ := h₁
  refine getMethod_list_of slot hty (isL hD) ⟨_, hD, rfl⟩ ?_
  exact callWith_method1 h₂ he hplain
theorem rLM0 {o : Expr} {name : Str} {id : String} {apos pos : Pos} {pl : Sem Bool} {Q : Value → Shared → Prop} (slot : Slot "list" name id)
    (hty : typeOf (.builtin id) = pure (.type "method_descriptor"))
    (h : wpAny (model prog w) A (eval o env) (fun ov s₁ => ∃ D its n, ov = .ref D ∧ s₁.heap.get? D = some (listOf its n) ∧
      wpAny (model prog w) A (call (.builtin id) [.ref D]) Q E s₁) E s)
    (hm : eval (.Call (.Attribute o name apos) [] [] pos) env = (do
      let ov ← eval o env
      standAt apos.atName
      let (f, first) ← holding [ov] (getMethod ov name pl)
      callWith pos f first (backTo pos (starEach [] env)) []) := by rfl) :
    wpAny (model prog w) A (eval (.Call (.Attribute o name apos) [] [] pos) env) Q E s := by
  refine MethodCall_ (pl := pl) (wpAny_mono h (fun ov s₁ h₁ => ?_) fun _ _ x => x) hm
  obtain ⟨D, its, n, rfl, hD, h₂⟩ := h₁
  refine getMethod_list_of slot hty (isL hD) ⟨_, hD, rfl⟩ ?_
  exact callWith_method0 h₂
theorem upd_list {h : Heap} {a : Addr} {its its' : Array Value} {n : Nat} {f : Array Value → Array Value} (e : h.get? a = some (listOf its n)) (hf : f its = its') :
    ∃ n', (h.update a (Obj.mapSeq f)).get? a = some (listOf its' n') := ⟨_, hf ▸ PySem.IsL.update e f⟩
/-- list.append upon a list of the frame's own -/
theorem rAppend {D : Addr} {its : Array Value} {n : Nat} {v : Value} {Q : Value → Shared → Prop} (S : St B L s.heap vars ((D, listOf its n) :: l)) (hz : its.size ≤ sizeLine)
    (k : ∀ h' n', St B L h' vars ((D, listOf (its.push v) n') :: l) → Q .none { s with heap := h' }) : wpAny (model prog w) A (call (.builtin "list.append") [.ref D, v]) Q E s := by
  obtain ⟨n', hn⟩ := upd_list (f := fun x => x.push v) S.get rfl
  refine call_meets slot_list_append ⟨_, S.get, rfl⟩ entry_list_append (args_list_append _ _) (PySem.list_append D its n v hz) ?_
  first | exact ⟨S.get, k _ n' (S.upd (SameBut.eff (Heap.SameBut.update ..)) hn)⟩ | exact k _ n' (S.upd (SameBut.eff (Heap.SameBut.update ..)) hn)
theorem ins_at (li : List Value) (i : Nat) (x : Int) (hx : x = i) (hi : i ≤ li.length) (v : Value) : (fun xs : Array Value => have k := if x < 0 then (x + (xs.size : Int)).toNat else min x.toNat xs.size; (xs.extract 0 k).push v ++ xs.extract k) li.toArray = (li.take i ++ v :: li.drop i).toArray := by
  show (li.toArray.extract 0 (if x < 0 then (x + (li.toArray.size : Int)).toNat else min x.toNat li.toArray.size)).push v ++ li.toArray.extract (if x < 0 then (x + (li.toArray.size : Int)).toNat else min x.toNat li.toArray.size) = _
  have e : (if x < 0 then (x + (li.toArray.size : Int)).toNat else min x.toNat li.toArray.size) = i := by
    rw [if_neg (by first | decide | lia), List.size_toArray]; lia
  rw [e, kl_ins_eq]
theorem fits_index {x : Int} (h0 : 0 ≤ x) (h1 : x < 100000) : ¬(!Builtin.List.listFitsIndex x) = true := by
  have hfit : Builtin.List.listFitsIndex x = true := by
    unfold Builtin.List.listFitsIndex
    rw [Bool.and_eq_true]
    have e : (2 : Int) ^ 63 = 9223372036854775808 := by decide
    rw [e]
    exact ⟨decide_eq_true (by first | decide | lia), decide_eq_true (by first | decide | lia)⟩
  rw [hfit]; decide
theorem rInsert {D : Addr} {li : List Value} {n i : Nat} {x : Int} {u : Tok} {v : Value} {Q : Value → Shared → Prop} (S : St B L s.heap vars ((D, listOf li.toArray n) :: l)) (hz : li.length ≤ 1000) (hx : x = i) (hi : i ≤ li.length)
    (k : ∀ h' n', St B L h' vars ((D, listOf (li.take i ++ v :: li.drop i).toArray n') :: l) → Q .none { s with heap := h' }) : wpAny (model prog w) A (call (.builtin "list.insert") [.ref D, .int x u, v]) Q E s := by
  have hsz : li.toArray.size ≤ sizeLine := by rw [List.size_toArray, sizeLine_eq]; (exact Nat.le_trans (by assumption) (by decide))
  obtain ⟨n', hn⟩ := upd_list (f := fun xs : Array Value => have k := if x < 0 then (x + (xs.size : Int)).toNat else min x.toNat xs.size; (xs.extract 0 k).push v ++ xs.extract k) S.get (ins_at li i x hx hi v)
  have g := PySem.AutoSeq1.list_insert_list_int_val_1 D li.toArray n x u v (fits_index (by first | decide | lia) (by first | decide | lia)) hsz
  refine call_meets PySem.F.slot_list_insert ⟨_, S.get, rfl⟩ PySem.F.entry_list_insert (PySem.F.args_list_insert_3 (.ref D) (.int x u) v) g ?_
  exact ⟨S.get, k _ n' (S.upd (SameBut.eff (Heap.SameBut.update ..)) hn)⟩
theorem rReverse {D : Addr} {li : List Value} {n : Nat} {Q : Value → Shared → Prop} (S : St B L s.heap vars ((D, listOf li.toArray n) :: l)) (hz : li.length ≤ 1000)
    (k : ∀ h' n', St B L h' vars ((D, listOf li.reverse.toArray n') :: l) → Q .none { s with heap := h' }) : wpAny (model prog w) A (call (.builtin "list.reverse") [.ref D]) Q E s := by
  obtain ⟨n', hn⟩ := upd_list (its' := li.reverse.toArray) (f := fun x => x.reverse) S.get (by simp)
  refine call_meets PySem.F.slot_list_reverse ⟨_, S.get, rfl⟩ PySem.F.entry_list_reverse (PySem.F.args_list_reverse_1 _) (PySem.AutoSeq1.list_reverse_list_0 D li.toArray n (by rw [List.size_toArray, sizeLine_eq]; (exact Nat.le_trans (by assumption) (by decide)))) ?_
  exact ⟨S.get, k _ n' (S.upd (SameBut.eff (Heap.SameBut.update ..)) hn)⟩
end
end Mine

/-! part Bis -/
namespace Mine
/-! ## plain: where a test turns in a row that is in order -/
theorem countP_turn {p : Int → Bool} : ∀ {xs : List Int}, xs.Pairwise (fun a b => p b = true → p a = true) → ∀ (i : Nat) (hi : i < xs.length), (p xs[i] = true ↔ i < xs.countP p)
  | [], _, i, hi => absurd hi (Nat.not_lt_zero _)
  | x :: xs, h, i, hi => by
    have h' := List.pairwise_cons.mp h
    rw [List.countP_cons]
    cases i with
    | zero =>
      simp only [List.getElem_cons_zero]
      cases q : p x with
      | true => simp
      | false =>
        have : xs.countP p = 0 := List.countP_eq_zero.mpr fun y hy => fun py => by rw [h'.1 y hy py] at q; cases q
        simp [this]
    | succ j =>
      simp only [List.getElem_cons_succ]
      have hj : j < xs.length := Nat.lt_of_succ_lt_succ hi
      have ih := countP_turn h'.2 j hj
      cases q : p x with
      | true => simp [ih]
      | false =>
        have : xs.countP p = 0 := List.countP_eq_zero.mpr fun y hy => fun py => by rw [h'.1 y hy py] at q; cases q
        simp only [Bool.false_eq_true, if_false, Nat.add_zero, this]
        rw [this] at ih
        constructor
        · intro e; exact absurd (ih.mp e) (Nat.not_lt_zero _)
        · intro e; exact absurd e (Nat.not_lt_zero _)
theorem IntsAre.at {vs : List Value} {ns : List Int} (h : IntsAre vs ns) (i : Nat) (hi : i < ns.length) : ∃ t, vs.toArray[i]? = some (.int ns[i] t) := by
  obtain ⟨t, e⟩ := h.get i ns[i] (by simp [hi])
  exact ⟨t, by simpa using e⟩
theorem ints_append {vs us : List Value} {ns ms : List Int} (h : IntsAre vs ns) (h' : IntsAre us ms) : IntsAre (vs ++ us) (ns ++ ms) := by
  induction h with
  | nil => exact h'
  | cons n t _ ih => exact .cons n t ih
theorem ints_take {vs : List Value} {ns : List Int} (h : IntsAre vs ns) (i : Nat) : IntsAre (vs.take i) (ns.take i) := by
  induction h generalizing i with
  | nil => simp; exact .nil
  | cons n t _ ih => cases i with
    | zero => exact .nil
    | succ i => exact .cons n t (ih i)
theorem ints_drop {vs : List Value} {ns : List Int} (h : IntsAre vs ns) (i : Nat) : IntsAre (vs.drop i) (ns.drop i) := by
  induction h generalizing i with
  | nil => simp; exact .nil
  | cons n t h ih => cases i with
    | zero => exact .cons n t h
    | succ i => exact ih i
theorem ints_insert {vs : List Value} {ns : List Int} (h : IntsAre vs ns) (i : Nat) (x : Int) (t : Tok) : IntsAre (vs.take i ++ .int x t :: vs.drop i) (ns.take i ++ x :: ns.drop i) :=
  ints_append (ints_take h i) (.cons x t (ints_drop h i))
set_option maxHeartbeats 2000000
section
variable {prog : Program} {w : World} {mg mb : Str → Option Value} {A : Around} {E : Value → Shared → Prop} {s : Shared} {Q : Value → Shared → Prop}
theorem bisect_left_at {a : Addr} {x : Int} {tx : Tok} {vs : List Value} {xs : List Int} {n : Nat}
    (X : Bs w mg mb (hid [] s.heap)) (rm : Room A 1 3) (ha : s.heap.get? a = some (listOf vs.toArray n)) (hi : IntsAre vs xs) (hlen : xs.length < 1000) (hs : xs.Pairwise (· ≤ ·))
    (k : ∀ t h' tk', Ext s.heap h' → Q (.int (xs.countP (fun y => decide (y < x))) t) (sh s h' tk')) :
    wpAny (model prog w) A (call (.ref 41) [.ref a, .int x tx]) Q E s := by
  refine' enter0 (d := 0) (u := 0) (binds := [("a", .ref a), ("x", .int x tx), ("lo", .int 0 216), ("hi", .none), ("key", .none)]) X rm rfl rfl (fun Y => BindsTo.peek Y fun _ => rfl) ?_ (by decide) (locs rfl)
  intro L h₁ t₁ env A' K E₀ hR hN hE S rm
  subst hE
  have S := S.lets (vars' := [("a", .ref a), ("x", .int x tx), ("lo", .int 0 216), ("hi", .none), ("key", .none)]) ⟨rfl, rfl, rfl, rfl, rfl, trivial⟩
  refine wpAny_execs_cons (wpAny_If (wpAny_isTrue_Compare1 ?_))
  refine rLoc S rfl ?_
  refine wpAny_Constant_int ?_
  refine lt_int (wpAny_truthy_bool (ifF (by first | decide | omega) (wpAny_execs_nil ?_)))
  refine wpAny_execs_cons (wpAny_If (wpAny_isTrue_Compare1 ?_))
  refine rLoc S rfl ?_
  refine wpAny_Constant_none ?_
  refine wpAny_is_self rfl (wpAny_truthy_bool ?_)
  show wpAny _ _ _ _ _ _
  refine wpAny_execs_cons (wpAny_Assign_Name ?_)
  refine rCallB S X (n_len _) boot_len ?_
  refine wpAny_items_cons ?_
  refine rLoc S rfl ?_
  refine wpAny_items_nil ?_
  have hl : (sh s h₁ t₁).heap.IsList a vs.toArray := ⟨_, S.keep _ _ (hid_some.mpr ⟨List.not_mem_nil, ha⟩), rfl, _, rfl⟩
  refine len_list hl (by rw [List.size_toArray, hi.length]; lia) ?_
  refine rSt S fun h₂ S => ?_
  refine wpAny_execs_nil ?_
  refine wpAny_execs_cons (wpAny_If (wpAny_isTrue_Compare1 ?_))
  refine rLoc S rfl ?_
  refine wpAny_Constant_none ?_
  refine wpAny_is_self rfl (wpAny_truthy_bool ?_)
  show wpAny _ _ _ _ _ _
  refine wpAny_execs_cons ?_
  have hc : xs.countP (fun y => decide (y < x)) ≤ xs.length := List.countP_le_length
  refine rWhile (fun n s' => ∃ h t lo hi tlo thi, s' = sh s h t ∧ St (hid [] s.heap) L h [("lo", .int lo tlo), ("hi", .int hi thi), ("a", .ref a), ("x", .int x tx)] [] ∧
    0 ≤ lo ∧ lo ≤ xs.countP (fun y => decide (y < x)) ∧ xs.countP (fun y => decide (y < x)) ≤ hi ∧ hi ≤ xs.length ∧ n = (hi - lo).toNat) _
    ⟨_, _, 0, _, _, _, rfl, S.lets ⟨rfl, rfl, rfl, rfl, trivial⟩, by decide, by lia, by rw [List.size_toArray, hi.length]; omega, by rw [List.size_toArray, hi.length]; lia, rfl⟩ ?_
  rintro n _ E' K hK ⟨h, t, lo, hi', tlo, thi, rfl, S, h0, h1, h2, h3, rfl⟩
  refine wpAny_isTrue_Compare1 ?_
  refine rLoc S rfl ?_
  refine rLoc S rfl ?_
  refine lt_int (wpAny_truthy_bool (ifD (fun hlt => ?_) fun hge => ?_))
  · refine wpAny_execs_cons (wpAny_Assign_Name ?_)
    refine wpAny_BinOp (wpAny_BinOp ?_)
    refine rLoc S rfl ?_
    refine rLoc S rfl ?_
    refine add_int ?_
    refine wpAny_Constant_int ?_
    refine floordiv_int (by decide) ?_ (Or.inl (PyProof.noPylong_small (by first | decide | omega)))
    refine rSt S fun h₃ S => ?_
    have hmid := Int.fdiv_eq_ediv_of_nonneg (lo + hi') (b := 2) (by decide)
    rw [hmid] at S
    have m0 : 0 ≤ (lo + hi') / 2 := by lia
    have m1 : ((lo + hi') / 2).toNat < xs.length := by lia
    obtain ⟨tm, em⟩ := IntsAre.at hi _ m1
    have hl : h₃.IsList a vs.toArray := ⟨_, S.keep _ _ (hid_some.mpr ⟨List.not_mem_nil, ha⟩), rfl, _, rfl⟩
    have key := countP_turn (p := fun y => decide (y < x)) (xs := xs) (hs.imp fun {a b} hab hb => by simp only [decide_eq_true_eq] at hb ⊢; lia) _ m1
    refine wpAny_execs_cons (wpAny_If (wpAny_isTrue_Compare1 ?_))
    refine Subscript_ ?_
    refine rLoc S rfl ?_
    refine rLoc S rfl ?_
    refine item_list hl m0 (by first | decide | lia) em ?_
    refine rLoc S rfl ?_
    refine lt_int (wpAny_truthy_bool (ifD (fun hp => ?_) fun hp => ?_))
    · refine wpAny_execs_cons (wpAny_Assign_Name ?_)
      refine wpAny_BinOp ?_
      refine rLoc S rfl ?_
      refine wpAny_Constant_int ?_
      refine add_int ?_
      refine rSt S fun h₄ S => ?_
      refine wpAny_execs_nil ?_
      refine wpAny_execs_nil ?_
      have := key.mp (decide_eq_true hp)
      exact hK _ _ (by first | decide | lia) ⟨h₄, _, _, _, _, _, rfl, S.lets ⟨rfl, rfl, rfl, rfl, trivial⟩, by omega, by lia, by omega, by omega, rfl⟩
    · refine wpAny_execs_cons (wpAny_Assign_Name ?_)
      refine rLoc S rfl ?_
      refine rSt S fun h₄ S => ?_
      refine wpAny_execs_nil ?_
      refine wpAny_execs_nil ?_
      have : ¬ ((lo + hi') / 2).toNat < xs.countP (fun y => decide (y < x)) := fun q => hp (of_decide_eq_true (key.mpr q))
      exact hK _ _ (by first | decide | omega) ⟨h₄, _, _, _, _, _, rfl, S.lets ⟨rfl, rfl, rfl, rfl, trivial⟩, by omega, by omega, by omega, by lia, rfl⟩
  · refine wpAny_execs_nil ?_
    refine wpAny_execs_nil ?_
    refine wpAny_execs_cons (wpAny_Return_some ?_)
    refine rLoc S rfl ?_
    have : lo = xs.countP (fun y => decide (y < x)) := by lia
    rw [this]
    exact hR _ _ (k _ _ _ S.eff.ext)
theorem bisect_right_at {a : Addr} {x : Int} {tx tl : Tok} {args : List Value} {vs : List Value} {xs : List Int} {n : Nat}
    (X : Bs w mg mb (hid [] s.heap)) (rm : Room A 1 3) (hargs : (args = [.ref a, .int x tx] ∧ tl = 202) ∨ args = [.ref a, .int x tx, .int 0 tl, .none]) (ha : s.heap.get? a = some (listOf vs.toArray n)) (hi : IntsAre vs xs) (hlen : xs.length < 1000) (hs : xs.Pairwise (· ≤ ·))
    (k : ∀ t h' tk', Ext s.heap h' → Q (.int (xs.countP (fun y => decide (y ≤ x))) t) (sh s h' tk')) :
    wpAny (model prog w) A (call (.ref 32) args) Q E s := by
  refine' enter0 (d := 0) (u := 0) (binds := [("a", .ref a), ("x", .int x tx), ("lo", .int 0 tl), ("hi", .none), ("key", .none)]) X rm rfl rfl ?hb ?_ (by decide) (locs rfl)
  case hb =>
    rcases hargs with ⟨rfl, rfl⟩ | rfl
    · exact fun Y => BindsTo.peek Y fun _ => rfl
    · exact fun Y => BindsTo.peek Y fun _ => rfl
  intro L h₁ t₁ env A' K E₀ hR hN hE S rm
  subst hE
  have S := S.lets (vars' := [("a", .ref a), ("x", .int x tx), ("lo", .int 0 tl), ("hi", .none), ("key", .none)]) ⟨rfl, rfl, rfl, rfl, rfl, trivial⟩
  refine wpAny_execs_cons (wpAny_If (wpAny_isTrue_Compare1 ?_))
  refine rLoc S rfl ?_
  refine wpAny_Constant_int ?_
  refine lt_int (wpAny_truthy_bool (ifF (by first | decide | omega) (wpAny_execs_nil ?_)))
  refine wpAny_execs_cons (wpAny_If (wpAny_isTrue_Compare1 ?_))
  refine rLoc S rfl ?_
  refine wpAny_Constant_none ?_
  refine wpAny_is_self rfl (wpAny_truthy_bool ?_)
  show wpAny _ _ _ _ _ _
  refine wpAny_execs_cons (wpAny_Assign_Name ?_)
  refine rCallB S X (n_len _) boot_len ?_
  refine wpAny_items_cons ?_
  refine rLoc S rfl ?_
  refine wpAny_items_nil ?_
  have hl : (sh s h₁ t₁).heap.IsList a vs.toArray := ⟨_, S.keep _ _ (hid_some.mpr ⟨List.not_mem_nil, ha⟩), rfl, _, rfl⟩
  refine len_list hl (by rw [List.size_toArray, hi.length]; lia) ?_
  refine rSt S fun h₂ S => ?_
  refine wpAny_execs_nil ?_
  refine wpAny_execs_cons (wpAny_If (wpAny_isTrue_Compare1 ?_))
  refine rLoc S rfl ?_
  refine wpAny_Constant_none ?_
  refine wpAny_is_self rfl (wpAny_truthy_bool ?_)
  show wpAny _ _ _ _ _ _
  refine wpAny_execs_cons ?_
  have hc : xs.countP (fun y => decide (y ≤ x)) ≤ xs.length := List.countP_le_length
  refine rWhile (fun n s' => ∃ h t lo hi tlo thi, s' = sh s h t ∧ St (hid [] s.heap) L h [("lo", .int lo tlo), ("hi", .int hi thi), ("a", .ref a), ("x", .int x tx)] [] ∧
    0 ≤ lo ∧ lo ≤ xs.countP (fun y => decide (y ≤ x)) ∧ xs.countP (fun y => decide (y ≤ x)) ≤ hi ∧ hi ≤ xs.length ∧ n = (hi - lo).toNat) _
    ⟨_, _, 0, _, _, _, rfl, S.lets ⟨rfl, rfl, rfl, rfl, trivial⟩, by decide, by lia, by rw [List.size_toArray, hi.length]; omega, by rw [List.size_toArray, hi.length]; lia, rfl⟩ ?_
  rintro n _ E' K hK ⟨h, t, lo, hi', tlo, thi, rfl, S, h0, h1, h2, h3, rfl⟩
  refine wpAny_isTrue_Compare1 ?_
  refine rLoc S rfl ?_
  refine rLoc S rfl ?_
  refine lt_int (wpAny_truthy_bool (ifD (fun hlt => ?_) fun hge => ?_))
  · refine wpAny_execs_cons (wpAny_Assign_Name ?_)
    refine wpAny_BinOp (wpAny_BinOp ?_)
    refine rLoc S rfl ?_
    refine rLoc S rfl ?_
    refine add_int ?_
    refine wpAny_Constant_int ?_
    refine floordiv_int (by decide) ?_ (Or.inl (PyProof.noPylong_small (by first | decide | omega)))
    refine rSt S fun h₃ S => ?_
    have hmid := Int.fdiv_eq_ediv_of_nonneg (lo + hi') (b := 2) (by decide)
    rw [hmid] at S
    have m0 : 0 ≤ (lo + hi') / 2 := by lia
    have m1 : ((lo + hi') / 2).toNat < xs.length := by lia
    obtain ⟨tm, em⟩ := IntsAre.at hi _ m1
    have hl : h₃.IsList a vs.toArray := ⟨_, S.keep _ _ (hid_some.mpr ⟨List.not_mem_nil, ha⟩), rfl, _, rfl⟩
    have key := countP_turn (p := fun y => decide (y ≤ x)) (xs := xs) (hs.imp fun {a b} hab hb => by simp only [decide_eq_true_eq] at hb ⊢; lia) _ m1
    refine wpAny_execs_cons (wpAny_If (wpAny_isTrue_Compare1 ?_))
    refine rLoc S rfl ?_
    refine Subscript_ ?_
    refine rLoc S rfl ?_
    refine rLoc S rfl ?_
    refine item_list hl m0 (by first | decide | lia) em ?_
    refine lt_int (wpAny_truthy_bool (ifD (fun hp => ?_) fun hp => ?_))
    rotate_left
    · refine wpAny_execs_cons (wpAny_Assign_Name ?_)
      refine wpAny_BinOp ?_
      refine rLoc S rfl ?_
      refine wpAny_Constant_int ?_
      refine add_int ?_
      refine rSt S fun h₄ S => ?_
      refine wpAny_execs_nil ?_
      refine wpAny_execs_nil ?_
      have := key.mp (decide_eq_true (by first | decide | lia))
      exact hK _ _ (by first | decide | lia) ⟨h₄, _, _, _, _, _, rfl, S.lets ⟨rfl, rfl, rfl, rfl, trivial⟩, by lia, by lia, by omega, by omega, rfl⟩
    · refine wpAny_execs_cons (wpAny_Assign_Name ?_)
      refine rLoc S rfl ?_
      refine rSt S fun h₄ S => ?_
      refine wpAny_execs_nil ?_
      refine wpAny_execs_nil ?_
      have : ¬ ((lo + hi') / 2).toNat < xs.countP (fun y => decide (y ≤ x)) := fun q => absurd (of_decide_eq_true (key.mpr q)) (by first | decide | omega)
      exact hK _ _ (by first | decide | omega) ⟨h₄, _, _, _, _, _, rfl, S.lets ⟨rfl, rfl, rfl, rfl, trivial⟩, by omega, by omega, by omega, by lia, rfl⟩
  · refine wpAny_execs_nil ?_
    refine wpAny_execs_nil ?_
    refine wpAny_execs_cons (wpAny_Return_some ?_)
    refine rLoc S rfl ?_
    have : lo = xs.countP (fun y => decide (y ≤ x)) := by lia
    rw [this]
    exact hR _ _ (k _ _ _ S.eff.ext)
theorem insort_right_at {a : Addr} {x : Int} {tx : Tok} {vs : List Value} {xs : List Int} {n : Nat}
    (X : Bs w mg mb (hid [a] s.heap)) (rm : Room A 2 6) (ha : s.heap.get? a = some (listOf vs.toArray n)) (hi : IntsAre vs xs) (hlen : xs.length < 1000) (hs : xs.Pairwise (· ≤ ·))
    (k : ∀ vs' n' h' tk', IntsAre vs' (xs.take (xs.countP (fun y => decide (y ≤ x))) ++ x :: xs.drop (xs.countP (fun y => decide (y ≤ x)))) → h'.get? a = some (listOf vs'.toArray n') → Eff [a] s.heap h' → Q .none (sh s h' tk')) :
    wpAny (model prog w) A (call (.ref 23) [.ref a, .int x tx]) Q E s := by
  refine' enter [a] [(a, listOf vs.toArray n)] (d := 1) (u := 3) (binds := [("a", .ref a), ("x", .int x tx), ("lo", .int 0 189), ("hi", .none), ("key", .none)]) X rm rfl rfl (fun Y => BindsTo.peek Y fun _ => rfl)
    (by intro p hp; rw [List.mem_singleton.mp hp]; exact ha) (by intro p hp; rw [List.mem_singleton.mp hp]; exact .head _) (by simp) ?_ (by decide) (locs rfl)
  intro L h₁ t₁ env A' K E₀ hR hN hE S rm
  subst hE
  have S := S.lets (vars' := [("a", .ref a), ("x", .int x tx), ("lo", .int 0 189), ("hi", .none), ("key", .none)]) ⟨rfl, rfl, rfl, rfl, rfl, trivial⟩
  refine wpAny_execs_cons (wpAny_If (wpAny_isTrue_Compare1 ?_))
  refine rLoc S rfl ?_
  refine wpAny_Constant_none ?_
  refine wpAny_is_self rfl (wpAny_truthy_bool ?_)
  show wpAny _ _ _ _ _ _
  refine wpAny_execs_cons (wpAny_Assign_Name ?_)
  refine rCall S X (g_bisect_right _) (keep_of _ (by decide)) ?_
  refine wpAny_items_cons (rLoc S rfl ?_)
  refine wpAny_items_cons (rLoc S rfl ?_)
  refine wpAny_items_cons (rLoc S rfl ?_)
  refine wpAny_items_cons (rLoc S rfl ?_)
  refine wpAny_items_nil ⟨X.at S.keep, ?_⟩
  refine bisect_right_at (S.bs X) rm (.inr rfl) S.get hi hlen hs fun t h' tk' ex => ?_
  have S := S.ext ex
  refine rSt S fun h₂ S => ?_
  refine wpAny_execs_nil ?_
  refine wpAny_execs_cons (wpAny_Expr ?_)
  refine rLM PySem.F.slot_list_insert PySem.F.type_list_insert ?_
  refine rLoc S rfl ⟨_, _, _, rfl, S.get, ?_⟩
  refine wpAny_items_cons (rLoc S rfl ?_)
  refine wpAny_items_cons (rLoc S rfl ?_)
  refine wpAny_items_nil ?_
  have hc : xs.countP (fun y => decide (y ≤ x)) ≤ xs.length := List.countP_le_length
  refine rInsert S (by rw [hi.length]; (exact Nat.le_of_lt ‹_›)) rfl (by rw [hi.length]; exact hc) fun h₃ n₃ S => ?_
  refine wpAny_execs_nil ?_
  exact hN _ (k _ _ _ _ (ints_insert hi _ _ _) S.get S.eff)
end
end Mine

/-! part Fw5 -/
namespace Mine
/-! ## iterators -/
structure Itr (prog : Program) (w : World) (A : Around) (target : Expr) (I : Addr) (fp wr : List Addr) (n : Nat) (P : Nat → Value → Heap → Prop) (Z : Nat → Heap → Prop) : Prop where
  frame : ∀ i h h', Z i h → (∀ b ∈ fp, ∀ o, h.get? b = some o → h'.get? b = some o) → Z i h'
  alive : ∀ i h, Z i h → ∀ b ∈ wr, ∃ o, h.get? b = some o
  item : ∀ i (s : Shared) (Q : Value → Shared → Prop) (E : Value → Shared → Prop), i < n → Z i s.heap → (∀ v h' tk, P i v h' → Z (i + 1) h' → Eff wr s.heap h' → Q v (sh s h' tk)) →
    wpAny (model prog w) A (pyNext (.ref I)) (fun r s₁ => ∃ v, r = some v ∧ wpAny (model prog w) A (letOwnedTupleGo target (.ref I) v) (fun _ s₂ => Q v s₂) E s₁) E s
  done : ∀ (s : Shared) (Q : Shared → Prop) (E : Value → Shared → Prop), Z n s.heap → (∀ h' tk, Eff wr s.heap h' → Q (sh s h' tk)) → wpAny (model prog w) A (pyNext (.ref I)) (fun r s₁ => r = none ∧ Q s₁) E s
  self : ∀ i (s : Shared) (Q : Value → Shared → Prop) (E : Value → Shared → Prop), Z i s.heap → Q (.ref I) s → wpAny (model prog w) A (pyIter (.ref I)) Q E s

section
variable {prog : Program} {w : World} {A : Around} {target : Expr} {I : Addr} {fp wr : List Addr} {n : Nat} {P : Nat → Value → Heap → Prop} {Z : Nat → Heap → Prop}
theorem Itr.itemK (W : Itr prog w A target I fp wr n P Z) {i : Nat} {s : Shared} {Q : Value → Shared → Prop} {E : Value → Shared → Prop} {K : Option Value → Shared → Prop} (hi : i < n) (hz : Z i s.heap)
    (hK : ∀ v s₁, wpAny (model prog w) A (letOwnedTupleGo target (.ref I) v) (fun _ s₂ => Q v s₂) E s₁ → K (some v) s₁)
    (h : ∀ v h' tk, P i v h' → Z (i + 1) h' → Eff wr s.heap h' → Q v (sh s h' tk)) : wpAny (model prog w) A (pyNext (.ref I)) K E s :=
  wpAny_mono (W.item i s Q E hi hz h) (fun r s₁ h₁ => by obtain ⟨v, rfl, h₂⟩ := h₁; exact hK v s₁ h₂) fun _ _ x => x
theorem Itr.doneK (W : Itr prog w A target I fp wr n P Z) {s : Shared} {E : Value → Shared → Prop} {K : Option Value → Shared → Prop} (hz : Z n s.heap)
    (h : ∀ h' tk, Eff wr s.heap h' → K none (sh s h' tk)) : wpAny (model prog w) A (pyNext (.ref I)) K E s :=
  wpAny_mono (W.done s (fun s' => K none s') E hz h) (fun r s₁ h₁ => by obtain ⟨rfl, h₂⟩ := h₁; exact h₂) fun _ _ x => x
end

theorem entries_of {h : Heap} : ∀ {wr : List Addr}, (∀ b ∈ wr, ∃ o, h.get? b = some o) → ∃ ob : List (Addr × Obj), ob.map (·.1) = wr ∧ ∀ p ∈ ob, h.get? p.1 = some p.2
  | [], _ => ⟨[], rfl, fun _ hp => nomatch hp⟩
  | b :: r, k => by
    obtain ⟨o, e⟩ := k b (.head _)
    obtain ⟨ob, e1, e2⟩ := entries_of (wr := r) fun c hc => k c (.tail _ hc)
    refine ⟨(b, o) :: ob, by simp [e1], fun p hp => ?_⟩
    rcases List.mem_cons.mp hp with rfl | hp
    · exact e
    · exact e2 p hp
section
variable {B : Bas} {L : Addr} {h h' : Heap} {vars : List (Str × Value)} {l ob ob' : List (Addr × Obj)}
/-- the objects at the end of the row are written anew -/
theorem St.tail (S : St B L h vars (l ++ ob)) (k : Eff (ob.map (·.1)) h h') (e1 : ob'.map (·.1) = ob.map (·.1)) (e2 : ∀ p ∈ ob', h'.get? p.1 = some p.2) : St B L h' vars (l ++ ob') := by
  have nd := S.nodup
  rw [List.map_append] at nd
  have dj := (List.nodup_append.mp nd)
  have mem' : ∀ p ∈ ob', ∃ q ∈ ob, q.1 = p.1 := fun p hp => by
    have : p.1 ∈ ob.map (·.1) := e1 ▸ List.mem_map_of_mem hp
    obtain ⟨q, hq, e⟩ := List.mem_map.mp this
    exact ⟨q, hq, e⟩
  refine ⟨?_, fun b o e => ?_, fun p hp => ?_, fun p hp => ?_, fun p hp => ?_, S.nL, ?_⟩
  · obtain ⟨m, ⟨oL, es, ep, q1, r⟩, f⟩ := S.ns
    refine ⟨m, ⟨oL, es, ep, k _ _ (fun q => ?_) q1, r⟩, f⟩
    obtain ⟨p, hp, e⟩ := List.mem_map.mp q
    exact S.sepL p (List.mem_append_right _ hp) e
  · refine k b o (fun q => ?_) (S.keep b o e)
    obtain ⟨p, hp, e'⟩ := List.mem_map.mp q
    have := S.sep p (List.mem_append_right _ hp)
    rw [e', e] at this; cases this
  · rcases List.mem_append.mp hp with hp | hp
    · exact k _ _ (fun q => dj.2.2 _ (List.mem_map_of_mem hp) _ q rfl) (S.own p (List.mem_append_left _ hp))
    · exact e2 p hp
  · rcases List.mem_append.mp hp with hp | hp
    · exact S.sep p (List.mem_append_left _ hp)
    · obtain ⟨q, hq, e⟩ := mem' p hp; rw [← e]; exact S.sep q (List.mem_append_right _ hq)
  · rcases List.mem_append.mp hp with hp | hp
    · exact S.sepL p (List.mem_append_left _ hp)
    · obtain ⟨q, hq, e⟩ := mem' p hp; rw [← e]; exact S.sepL q (List.mem_append_right _ hq)
  · rw [List.map_append, e1, ← List.map_append]; exact S.nodup
theorem St.front (S : St B L h vars (l ++ ob)) : St B L h vars l :=
  S.only (fun p hp => List.mem_append_left _ hp) (by have := S.nodup; rw [List.map_append] at this; exact (List.nodup_append.mp this).1)
end

section
variable {prog : Program} {w : World} {A : Around} {s : Shared} {env : Env} {B : Bas} {L : Addr}
theorem rForI {target : Expr} {body orelse : List Stmt} {I : Addr} {fp wr : List Addr} {n : Nat} {P : Nat → Value → Heap → Prop} {Z : Nat → Heap → Prop} {E : Value → Shared → Prop} {Q : Flow → Shared → Prop}
    (W : Itr prog w A target I fp wr n P Z) (fx : List (Addr × Obj)) (J : Nat → List (Str × Value) → List (Addr × Obj) → Prop) {vars : List (Str × Value)} {l ob : List (Addr × Obj)}
    (hfp : ∀ b ∈ fp, b ∈ wr ∨ b ∈ fx.map (·.1) ∨ ∃ o, B b = some o) (hob : ob.map (·.1) = wr) (h0 : J 0 vars l) (S : St B L s.heap vars (l ++ (fx ++ ob))) (hz : Z 0 s.heap)
    (turn : ∀ i v vars l rest h t E', i < n → J i vars l → (∀ p ∈ fx, p ∈ rest) → P i v h → St B L h vars (l ++ rest) →
      ∀ K : Flow → Shared → Prop, (∀ h' t' vars' l', J (i + 1) vars' l' → St B L h' vars' (l' ++ rest) → K .next (sh s h' t')) → (∀ s', Q .next s' → K .brk s') → (∀ v s', Q (.ret v) s' → K (.ret v) s') → wpAny (model prog w) A (assign target env v) (fun _ s₂ => wpAny (model prog w) A (execs body env) K E' s₂) E' (sh s h t))
    (done : ∀ vars l h t E', J n vars l → St B L h vars (l ++ fx) → wpAny (model prog w) A (execs orelse env) (fun f s₃ => Q f s₃) E' (sh s h t)) :
    codeAny (model prog w) A (.forLoop target (.ref I) body orelse env) (fun r s' => match r with | .ok f => Q f s' | .error e => cameBackBy (model prog w) A env E e s') s := by
  refine codeAny_forLoop_any (fun k s' => ∃ i vars l ob h t, s' = sh s h t ∧ i ≤ n ∧ k = n - i ∧ J i vars l ∧ ob.map (·.1) = wr ∧ St B L h vars (l ++ (fx ++ ob)) ∧ Z i h) ?_ n
    ⟨0, vars, l, ob, s.heap, s.toks, rfl, Nat.zero_le _, rfl, h0, hob, S, hz⟩
  rintro k _ ⟨i, vars, l, ob, h, t, rfl, hi, rfl, hJ, hob, S, hz⟩
  by_cases hn : i < n
  · refine W.itemK hn hz (fun v s₁ h => h) fun v h' tk hP hz' eff => ?_
    obtain ⟨ob', e1, e2⟩ := entries_of (W.alive _ _ hz')
    have S' : St B L h' vars (l ++ (fx ++ ob')) := by
      rw [← List.append_assoc] at S ⊢
      exact S.tail (hob ▸ eff) (e1.trans hob.symm) e2
    refine wpAny_mono (turn i v vars l (fx ++ ob') h' tk _ hn hJ (fun p hp => List.mem_append_left _ hp) hP S' (fun f s₃ => match f with | .next | .cont => ∃ h' t' vars' l', s₃ = sh s h' t' ∧ J (i + 1) vars' l' ∧ St B L h' vars' (l' ++ (fx ++ ob')) | .brk => Q .next s₃ | .ret v => Q (.ret v) s₃) (fun h' t' vars' l' hJ hS => ⟨h', t', vars', l', rfl, hJ, hS⟩) (fun _ q => q) (fun _ _ q => q)) (fun _ s₂ h₂ => wpAny_mono h₂ (fun f s₃ h₃ => ?_) fun _ _ x => x) fun _ _ x => x
    have fin : (∃ h' t' vars' l', s₃ = sh s h' t' ∧ J (i + 1) vars' l' ∧ St B L h' vars' (l' ++ (fx ++ ob'))) → ∃ m, m < n - i ∧ ∃ i vars l ob h t, s₃ = sh s h t ∧ i ≤ n ∧ m = n - i ∧ J i vars l ∧ ob.map (·.1) = wr ∧ St B L h vars (l ++ (fx ++ ob)) ∧ Z i h := by
      rintro ⟨h'', t'', vars'', l'', rfl, hJ'', S''⟩
      refine ⟨n - (i + 1), by omega, i + 1, vars'', l'', ob', h'', t'', rfl, hn, rfl, hJ'', e1, S'', W.frame _ _ _ hz' fun b hb o e => ?_⟩
      rcases hfp b hb with q | q | ⟨o', q⟩
      · rw [← e1] at q
        obtain ⟨p, hp, e'⟩ := List.mem_map.mp q
        have a1 := S'.own p (List.mem_append_right _ (List.mem_append_right _ hp))
        have a2 := S''.own p (List.mem_append_right _ (List.mem_append_right _ hp))
        rw [e'] at a1 a2
        rw [a1] at e; rw [a2]; exact e
      · obtain ⟨p, hp, e'⟩ := List.mem_map.mp q
        have a1 := S'.own p (List.mem_append_right _ (List.mem_append_left _ hp))
        have a2 := S''.own p (List.mem_append_right _ (List.mem_append_left _ hp))
        rw [e'] at a1 a2
        rw [a1] at e; rw [a2]; exact e
      · have a1 := S'.keep b o' q
        have a2 := S''.keep b o' q
        rw [a1] at e; rw [a2]; exact e
    cases f with
    | next => exact fin h₃
    | cont => exact fin h₃
    | brk => exact h₃
    | ret v => exact h₃
  · have : i = n := by lia
    subst this
    refine W.doneK hz fun h' tk eff => ?_
    have S' : St B L h' vars (l ++ fx) := by
      rw [← List.append_assoc] at S
      have F := S.front
      have nd := S.nodup
      rw [List.map_append] at nd
      have dj := (List.nodup_append.mp nd).2.2
      refine ⟨?_, fun b o e => ?_, fun p hp => ?_, F.sep, F.sepL, F.nL, F.nodup⟩
      · obtain ⟨m, ⟨oL, es, ep, q1, r⟩, f⟩ := S.ns
        refine ⟨m, ⟨oL, es, ep, eff _ _ (fun q => ?_) q1, r⟩, f⟩
        rw [← hob] at q
        obtain ⟨p, hp, e⟩ := List.mem_map.mp q
        exact S.sepL p (List.mem_append_right _ hp) e
      · refine eff b o (fun q => ?_) (S.keep b o e)
        rw [← hob] at q
        obtain ⟨p, hp, e'⟩ := List.mem_map.mp q
        have := S.sep p (List.mem_append_right _ hp)
        rw [e', e] at this; cases this
      · exact eff _ _ (fun q => dj _ (List.mem_map_of_mem hp) _ (hob ▸ q) rfl) (S.own p (List.mem_append_left _ hp))
    exact done vars l h' tk _ hJ S'
end
end Mine

/-! part Fw6 -/
namespace Mine
theorem St.perm {B : Bas} {L : Addr} {h : Heap} {vars : List (Str × Value)} {l l' : List (Addr × Obj)} (S : St B L h vars l) (p : l.Perm l') : St B L h vars l' :=
  S.only (fun q hq => p.mem_iff.mpr hq) ((p.map (·.1)).nodup_iff.mp S.nodup)
theorem St.mid {B : Bas} {L : Addr} {h : Heap} {vars : List (Str × Value)} {l r : List (Addr × Obj)} {p : Addr × Obj} (S : St B L h vars (l ++ p :: r)) : St B L h vars (p :: (l ++ r)) := S.perm List.perm_middle
theorem St.unmid {B : Bas} {L : Addr} {h : Heap} {vars : List (Str × Value)} {l r : List (Addr × Obj)} {p : Addr × Obj} (S : St B L h vars (p :: (l ++ r))) : St B L h vars (l ++ p :: r) := S.perm List.perm_middle.symm
/-- the loop of a comprehension, tuple targets too -/
theorem codeAny_compLoop_go {prog : Program} {w : World} {A : Around} {R : Result → Shared → Prop} {s : Shared} {elt target iter : Expr} {ifs : List Expr} {scope : Scope} {pos : Pos} {it acc : Value} {env : Env} (I : Nat → Shared → Prop)
    (turn : ∀ n s, I n s → wpAny (model prog w) A (pyNext it) (fun r s₁ => match r with
      | none => R (.ok .next) s₁
      | some v => wpAny (model prog w) A (letOwnedTupleGo target it v) (fun _ s₁' => wpAny (model prog w) A (assign target env v) (fun _ s₂ =>
          wpAny (model prog w) A (forIn ifs true fun c r => if r = true then do let ok ← isTrue c env (eval c env); pure (ForInStep.yield ok) else pure (ForInStep.yield r)) (fun ok s₃ =>
            if ok = true then wpAny (model prog w) A (eval elt env) (fun x s₄ =>
              wpAny (model prog w) A (call (.builtin "list.append") [acc, x]) (fun _ s₅ => ∃ m, m < n ∧ I m s₅) (notedBy (model prog w) A env fun e s' => R (.error e) s') s₄) (notedBy (model prog w) A env fun e s' => R (.error e) s') s₃
            else ∃ m, m < n ∧ I m s₃) (notedBy (model prog w) A env fun e s' => R (.error e) s') s₂) (notedBy (model prog w) A env fun e s' => R (.error e) s') s₁') (notedBy (model prog w) A env fun e s' => R (.error e) s') s₁) (notedBy (model prog w) A env fun e s' => R (.error e) s') s)
    (n : Nat) (h : I n s) :
    codeAny (model prog w) A (.compLoop (.ListComp elt [⟨target, iter, ifs, 0⟩] scope pos) 0 it acc env) R s := by
  refine codeAny_loop rfl I (fun n s hI => ?_) n h
  show wpAny _ A ((compTurn (.ListComp elt [⟨target, iter, ifs, 0⟩] scope pos) 0 it acc env).onRaise (fun x => do noteFrame x env; theTreesLotGoes x)) _ _ s
  refine wpAny_noted ?_
  rw [compTurn_list]
  refine wpAny_bind (wpAny_standAt (wpAny_bind (wpAny_mono (turn n s hI) (fun r s₁ h₁ => ?_) fun _ _ h' => h')))
  cases r with
  | none => exact wpAny_pure h₁
  | some v =>
    refine wpAny_bind (wpAny_mono h₁ (fun _ s₁' h₁' => ?_) fun _ _ h' => h')
    refine wpAny_bind (wpAny_mono h₁' (fun _ s₂ h₂ => wpAny_bind (wpAny_mono h₂ (fun ok s₃ h₃ => ?_) fun _ _ h' => h')) fun _ _ h' => h')
    cases ok with
    | false => exact wpAny_pure ⟨rfl, h₃⟩
    | true =>
      exact wpAny_bind (wpAny_bind (wpAny_mono h₃ (fun x s₄ h₄ => wpAny_bind (wpAny_mono h₄ (fun _ s₅ h₅ => wpAny_pure (wpAny_pure ⟨rfl, h₅⟩)) fun _ _ h' => h')) fun _ _ h' => h'))

section
variable {prog : Program} {w : World} {A : Around} {s : Shared} {env : Env}
/-- the turns of a comprehension; B: what stood; C: its frame; D: the list that is filled -/
theorem rCompI {elt target iter : Expr} {ifs : List Expr} {scope : Scope} {pos : Pos} {I D C : Addr} {fp wr : List Addr} {n : Nat} {P : Nat → Value → Heap → Prop} {Z : Nat → Heap → Prop} {R : Result → Shared → Prop} {B : Bas} {cv : List (Str × Value)}
    (W : Itr prog w A target I fp wr n P Z) (J : Nat → List Value → List (Addr × Obj) → Prop) {l ob : List (Addr × Obj)} {n₀ : Nat} (hn : n ≤ 1000)
    (hfp : ∀ b ∈ fp, b ∈ wr ∨ ∃ o, B b = some o) (hob : ob.map (·.1) = wr) (h0 : J 0 [] l) (S : St B C s.heap cv (l ++ ((D, listOf #[] n₀) :: ob))) (hz : Z 0 s.heap)
    (turn : ∀ i v acc l rest h t E', i < n → J i acc l → P i v h → St B C h cv (l ++ rest) →
      ∀ (Kt : Value → Shared → Prop) (Kf : Shared → Prop), (∀ x h' t' l', J (i + 1) (acc ++ [x]) l' → St B C h' cv (l' ++ rest) → Kt x (sh s h' t')) → (∀ h' t' l', J (i + 1) acc l' → St B C h' cv (l' ++ rest) → Kf (sh s h' t')) → wpAny (model prog w) A (assign target env v) (fun _ s₂ =>
        wpAny (model prog w) A (forIn ifs true fun c r => if r = true then do let ok ← isTrue c env (eval c env); pure (ForInStep.yield ok) else pure (ForInStep.yield r)) (fun ok s₃ =>
          if ok = true then wpAny (model prog w) A (eval elt env) Kt E' s₃ else Kf s₃) E' s₂) E' (sh s h t))
    (done : ∀ acc l h t n', J n acc l → (∀ p ∈ l ++ [(D, listOf acc.toArray n')], p.1 ∉ wr) → St B C h cv (l ++ [(D, listOf acc.toArray n')]) → R (.ok .next) (sh s h t)) :
    codeAny (model prog w) A (.compLoop (.ListComp elt [⟨target, iter, ifs, 0⟩] scope pos) 0 (.ref I) (.ref D) env) R s := by
  refine codeAny_compLoop_go (fun k s' => ∃ i acc l ob h t n', s' = sh s h t ∧ i ≤ n ∧ acc.length ≤ i ∧ k = n - i ∧ J i acc l ∧ ob.map (·.1) = wr ∧ St B C h cv (l ++ ((D, listOf acc.toArray n') :: ob)) ∧ Z i h) ?_ n
    ⟨0, [], l, ob, s.heap, s.toks, n₀, rfl, Nat.zero_le _, Nat.le_refl _, rfl, h0, hob, S, hz⟩
  rintro k _ ⟨i, acc, l, ob, h, t, n', rfl, hi, hacc, rfl, hJ, hob, S, hz⟩
  have split : ∀ {x : Addr × Obj} {l r : List (Addr × Obj)}, l ++ (x :: r) = (l ++ [x]) ++ r := fun {x l r} => by simp
  by_cases hlt : i < n
  · refine W.itemK hlt hz (fun v s₁ h => h) fun v h' tk hP hz' eff => ?_
    obtain ⟨ob', e1, e2⟩ := entries_of (W.alive _ _ hz')
    have S' : St B C h' cv (l ++ ((D, listOf acc.toArray n') :: ob')) := by
      rw [split] at S ⊢
      exact S.tail (hob ▸ eff) (e1.trans hob.symm) e2
    have fr : ∀ {h'' : Heap} {acc'' : List Value} {l'' : List (Addr × Obj)} {n'' : Nat}, St B C h'' cv (l'' ++ ((D, listOf acc''.toArray n'') :: ob')) → Z (i + 1) h'' := fun {h'' acc'' l'' n''} S'' => by
      refine W.frame _ _ _ hz' fun b hb o e => ?_
      rcases hfp b hb with q | ⟨o', q⟩
      · rw [← e1] at q
        obtain ⟨p, hp, e'⟩ := List.mem_map.mp q
        have a1 := S'.own p (List.mem_append_right _ (.tail _ hp))
        have a2 := S''.own p (List.mem_append_right _ (.tail _ hp))
        rw [e'] at a1 a2
        rw [a1] at e; rw [a2]; exact e
      · have a1 := S'.keep b o' q
        have a2 := S''.keep b o' q
        rw [a1] at e; rw [a2]; exact e
    refine wpAny_mono (turn i v acc l ((D, listOf acc.toArray n') :: ob') h' tk _ hlt hJ hP S' (fun x s₄ => ∃ h'' t' l', s₄ = sh s h'' t' ∧ J (i + 1) (acc ++ [x]) l' ∧ St B C h'' cv (l' ++ ((D, listOf acc.toArray n') :: ob'))) (fun s₃ => ∃ h'' t' l', s₃ = sh s h'' t' ∧ J (i + 1) acc l' ∧ St B C h'' cv (l' ++ ((D, listOf acc.toArray n') :: ob'))) (fun x h'' t' l' a b => ⟨h'', t', l', rfl, a, b⟩) (fun h'' t' l' a b => ⟨h'', t', l', rfl, a, b⟩)) (fun _ s₂ h₂ => wpAny_mono h₂ (fun ok s₃ h₃ => ?_) fun _ _ x => x) fun _ _ x => x
    cases ok with
    | false =>
      obtain ⟨h'', t'', l'', rfl, hJ'', S''⟩ := (by simpa only [Bool.false_eq_true, if_false] using h₃ : ∃ h' t' l', s₃ = sh s h' t' ∧ J (i + 1) acc l' ∧ St B C h' cv (l' ++ ((D, listOf acc.toArray n') :: ob')))
      exact ⟨n - (i + 1), by omega, i + 1, acc, l'', ob', h'', t'', n', rfl, hlt, by lia, rfl, hJ'', e1, S'', fr S''⟩
    | true =>
      simp only [if_true] at h₃ ⊢
      refine wpAny_mono h₃ (fun x s₄ h₄ => ?_) fun _ _ x => x
      obtain ⟨h'', t'', l'', rfl, hJ'', S''⟩ := h₄
      refine rAppend S''.mid (by rw [List.size_toArray, sizeLine_eq]; lia) fun h₅ n₅ S₅ => ?_
      have S₅' : St B C h₅ cv (l'' ++ ((D, listOf (acc ++ [x]).toArray n₅) :: ob')) := by
        have e : (acc ++ [x]).toArray = acc.toArray.push x := by simp
        rw [e]; exact S₅.unmid
      exact ⟨n - (i + 1), by omega, i + 1, acc ++ [x], l'', ob', h₅, t'', n₅, rfl, hlt, by simp; omega, rfl, hJ'', e1, S₅', fr S₅'⟩
  · have : i = n := by lia
    subst this
    refine W.doneK hz fun h' tk eff => ?_
    rw [split] at S
    have F := S.front
    have nd := S.nodup
    rw [List.map_append] at nd
    have dj := (List.nodup_append.mp nd).2.2
    refine done acc l h' tk n' hJ (fun p hp q => dj _ (List.mem_map_of_mem hp) _ (hob ▸ q) rfl) ?_
    refine ⟨?_, fun b o e => ?_, fun p hp => ?_, F.sep, F.sepL, F.nL, F.nodup⟩
    · obtain ⟨m, ⟨oL, es, ep, q1, r⟩, f⟩ := S.ns
      refine ⟨m, ⟨oL, es, ep, eff _ _ (fun q => ?_) q1, r⟩, f⟩
      rw [← hob] at q
      obtain ⟨p, hp, e⟩ := List.mem_map.mp q
      exact S.sepL p (List.mem_append_right _ hp) e
    · refine eff b o (fun q => ?_) (S.keep b o e)
      rw [← hob] at q
      obtain ⟨p, hp, e'⟩ := List.mem_map.mp q
      have := S.sep p (List.mem_append_right _ hp)
      rw [e', e] at this; cases this
    · exact eff _ _ (fun q => dj _ (List.mem_map_of_mem hp) _ (hob ▸ q) rfl) (S.own p (List.mem_append_left _ hp))
end

/-- back from a comprehension's frame into the frame around it -/
theorem St.back {B : Bas} {L C : Addr} {h₂ h₃ : Heap} {vars cv : List (Str × Value)} {lo ob l : List (Addr × Obj)} (S : St B L h₂ vars (lo ++ ob)) (S' : St (hid (ob.map (·.1)) h₂) C h₃ cv l) (hl : ∀ p ∈ l, p.1 ∉ ob.map (·.1)) :
    St B L h₃ vars (l ++ lo) := by
  have nd := S.nodup
  rw [List.map_append] at nd
  have dj := List.nodup_append.mp nd
  have kp : ∀ b o, b ∉ ob.map (·.1) → h₂.get? b = some o → h₃.get? b = some o := fun b o n e => S'.keep b o (hid_some.mpr ⟨n, e⟩)
  have dead : ∀ p ∈ l, h₂.get? p.1 = none := fun p hp => by
    cases e : h₂.get? p.1 with
    | none => rfl
    | some o =>
      have h1 := S'.sep p hp
      rw [hid_some.mpr ⟨hl p hp, e⟩] at h1; cases h1
  have offB : ∀ b o, B b = some o → b ∉ ob.map (·.1) := fun b o e q => by
    obtain ⟨p, hp, e'⟩ := List.mem_map.mp q
    have := S.sep p (List.mem_append_right _ hp)
    rw [e', e] at this; cases this
  refine ⟨?_, fun b o e => kp b o (offB b o e) (S.keep b o e), fun p hp => ?_, fun p hp => ?_, fun p hp => ?_, S.nL, ?_⟩
  · obtain ⟨m, ⟨oL, es, ep, q1, r⟩, f⟩ := S.ns
    refine ⟨m, ⟨oL, es, ep, kp _ _ (fun q => ?_) q1, r⟩, f⟩
    obtain ⟨p, hp, e⟩ := List.mem_map.mp q
    exact S.sepL p (List.mem_append_right _ hp) e
  · rcases List.mem_append.mp hp with hp | hp
    · exact S'.own p hp
    · exact kp _ _ (fun q => dj.2.2 _ (List.mem_map_of_mem hp) _ q rfl) (S.own p (List.mem_append_left _ hp))
  · rcases List.mem_append.mp hp with hp | hp
    · cases e : B p.1 with
      | none => rfl
      | some o => have := S.keep _ _ e; rw [dead p hp] at this; cases this
    · exact S.sep p (List.mem_append_left _ hp)
  · rcases List.mem_append.mp hp with hp | hp
    · intro e
      obtain ⟨m, ⟨oL, es, ep, q1, r⟩, f⟩ := S.ns
      have := dead p hp
      rw [e, q1] at this; cases this
    · exact S.sepL p (List.mem_append_left _ hp)
  · rw [List.map_append]
    refine List.nodup_append.mpr ⟨S'.nodup, dj.1, fun a ha b hb e => ?_⟩
    obtain ⟨p, hp, rfl⟩ := List.mem_map.mp ha
    obtain ⟨q, hq, rfl⟩ := List.mem_map.mp hb
    have h1 := S.own q (List.mem_append_left _ hq)
    rw [← e, dead p hp] at h1; cases h1
theorem St.letC {B : Bas} {L C : Addr} {h h' : Heap} {vars : List (Str × Value)} {l : List (Addr × Obj)} (S : St B L h vars l) (hs : Heap.SameBut C h h') (hL : C ≠ L) (hB : B C = none) (hl : ∀ p ∈ l, p.1 ≠ C) : St B L h' vars l := by
  refine ⟨?_, fun b o e => (hs.2 b fun q => by rw [q, hB] at e; cases e).trans (S.keep b o e), fun p hp => (hs.2 _ (hl p hp)).trans (S.own p hp), S.sep, S.sepL, S.nL, S.nodup⟩
  obtain ⟨m, ⟨oL, es, ep, q1, r⟩, f⟩ := S.ns
  exact ⟨m, ⟨oL, es, ep, (hs.2 L (Ne.symm hL)).trans q1, r⟩, f⟩
end Mine
namespace Mine
section
variable {prog : Program} {w : World} {A : Around} {E : Value → Shared → Prop} {s : Shared} {env : Env} {B : Bas} {L : Addr} {vars : List (Str × Value)} {lo ob : List (Addr × Obj)}
/-- the block of a comprehension without cells of its own, from its iterator on -/
theorem comp_block {elt target iter : Expr} {ifs : List Expr} {scope : Scope} {cl : List (Str × Addr)} {pos : Pos} {I : Addr} {fp wr : List Addr} {n : Nat} {P : Nat → Value → Heap → Prop} {Z : Nat → Heap → Prop} {RR : Value → Addr → Result → Shared → Prop}
    (W : Itr prog w A target I fp wr n P Z) (J : Nat → List Value → List (Addr × Obj) → Prop) (hn : n ≤ 1000)
    (hfp : ∀ b ∈ fp, ∃ o, s.heap.get? b = some o) (hob : ob.map (·.1) = wr) (h0 : J 0 [] []) (S : St B L s.heap vars (lo ++ ob)) (hz : Z 0 s.heap)
    (hcell : ∀ y ∈ scope.names, y.2 ≠ .cell) (hkind : scope.kind = .function)
    (turn : ∀ i v acc l rest C h t E', i < n → J i acc l → P i v h → St (hid wr s.heap) C h [] (l ++ rest) →
      ∀ (Kt : Value → Shared → Prop) (Kf : Shared → Prop), (∀ x h' t' l', J (i + 1) (acc ++ [x]) l' → St (hid wr s.heap) C h' [] (l' ++ rest) → Kt x (sh s h' t')) → (∀ h' t' l', J (i + 1) acc l' → St (hid wr s.heap) C h' [] (l' ++ rest) → Kf (sh s h' t')) → wpAny (model prog w) A (assign target (compEnvC scope cl C env) v) (fun _ s₂ =>
        wpAny (model prog w) A (forIn ifs true fun c r => if r = true then do let ok ← isTrue c (compEnvC scope cl C env) (eval c (compEnvC scope cl C env)); pure (ForInStep.yield ok) else pure (ForInStep.yield r)) (fun ok s₃ =>
          if ok = true then wpAny (model prog w) A (eval elt (compEnvC scope cl C env)) Kt E' s₃ else Kf s₃) E' s₂) E' (sh s h t))
    (hRR : ∀ D C acc l h t n', J n acc l → (∃ m, h.Ns C m) → C ≠ L → B C = none → (∀ p ∈ (D, listOf acc.toArray n') :: (l ++ lo), p.1 ≠ C) → St B L h vars ((D, listOf acc.toArray n') :: (l ++ lo)) → RR (.ref D) C (.ok .next) (sh s h t)) :
    wpAny (model prog w) A (newList []) (fun acc s₃ => wpAny (model prog w) A (newFunctionEnv scope env.globals cl [] env.qual none .none (some env)) (fun cenv s₄ =>
      codeAny (model prog w) A (.compStart (.ListComp elt [⟨target, iter, ifs, 0⟩] scope pos) 0 (.ref I) acc { cenv with scope := relabel scope env }) (RR acc cenv.locals) s₄) E s₃) E s := by
  refine wpAny_newObj_type (wpAny_newFunctionEnv hcell (by intro y hy; simp at hy) (fun h₁ hns₁ hsb₁ => ?_) hkind)
  dsimp only at hns₁ hsb₁ ⊢
  generalize hH2 : s.heap.push { cls := .type "list", dict := none, data := .seq ([] : List Value).toArray } = H2 at hns₁ hsb₁ ⊢
  have hC : H2.objs.size = s.heap.objs.size + 1 := by rw [← hH2, Heap.size_push]
  have hDC : s.heap.objs.size ≠ H2.objs.size := by rw [hC]; exact Nat.ne_of_lt (Nat.lt_succ_self _)
  have old : ∀ b o, s.heap.get? b = some o → h₁.get? b = some o := fun b o e => hsb₁.extBut b o (by have := Heap.lt_size e; rw [hC]; exact Nat.ne_of_lt (Nat.lt_succ_of_lt this)) (Heap.get?_push_of_some _ (hH2 ▸ Heap.get?_push_of_some _ e))
  have gone : ∀ a, s.heap.objs.size ≤ a → s.heap.get? a = none := fun a ha => Heap.get?_none_of_le ha
  have hD : h₁.get? s.heap.objs.size = some (listOf #[] 0) := hsb₁.extBut _ _ hDC (Heap.get?_push_of_some _ (hH2 ▸ Heap.get?_push_size _ rfl))
  have hid_gone : ∀ a, s.heap.objs.size ≤ a → hid wr s.heap a = none := fun a ha => by
    cases e : hid wr s.heap a with
    | none => rfl
    | some o => have := (hid_some.mp e).2; rw [gone a ha] at this; cases this
  have obl : ∀ p ∈ ob, p.1 < s.heap.objs.size := fun p hp => Heap.lt_size (S.own p (List.mem_append_right _ hp))
  have S₁ : St (hid wr s.heap) H2.objs.size h₁ [] ([] ++ ((s.heap.objs.size, listOf #[] 0) :: ob)) := by
    refine ⟨⟨_, hns₁, fun _ _ e => by cases e⟩, fun b o e => old b o (hid_some.mp e).2, fun p hp => ?_, fun p hp => ?_, fun p hp => ?_, hid_gone _ (by rw [hC]; exact Nat.le_succ _), ?_⟩
    · rcases List.mem_cons.mp hp with rfl | hp
      · exact hD
      · exact old _ _ (S.own p (List.mem_append_right _ hp))
    · rcases List.mem_cons.mp hp with rfl | hp
      · exact hid_gone _ (Nat.le_refl _)
      · exact hid_mem (hob ▸ List.mem_map_of_mem hp)
    · rcases List.mem_cons.mp hp with rfl | hp
      · exact hDC
      · have := obl p hp; rw [hC]; exact Nat.ne_of_lt (Nat.lt_succ_of_lt this)
    · have nd := S.nodup
      rw [List.map_append] at nd
      show (s.heap.objs.size :: ob.map (·.1)).Nodup
      refine List.nodup_cons.mpr ⟨fun q => ?_, (List.nodup_append.mp nd).2.1⟩
      obtain ⟨p, hp, e⟩ := List.mem_map.mp q
      have := obl p hp
      rw [e] at this; exact Nat.lt_irrefl _ this
  have hz₁ : Z 0 h₁ := W.frame _ _ _ hz fun b _ o e => old b o e
  have loop : ∀ s₃ : Shared, s₃ = { s with heap := h₁, toks := s.toks + ([] : List (Str × Value)).length } →
      codeAny (model prog w) A (.compLoop (.ListComp elt [⟨target, iter, ifs, 0⟩] scope pos) 0 (.ref I) (.ref s.heap.objs.size) (compEnvC scope cl H2.objs.size env))
        (RR (.ref s.heap.objs.size) H2.objs.size) s₃ := by
    rintro s₃ rfl
    refine rCompI W J hn (fun b hb => ?_) hob h0 S₁ hz₁ (fun i v acc l rest h t E' hi hJ hP S => turn i v acc l rest _ h t E' hi hJ hP S) fun acc l h t n' hJ offw S₂ => ?_
    · by_cases q : b ∈ wr
      · exact .inl q
      · obtain ⟨o, e⟩ := hfp b hb
        exact .inr ⟨o, hid_some.mpr ⟨q, e⟩⟩
    · have S₂ : St (hid wr s.heap) H2.objs.size h [] ((s.heap.objs.size, listOf acc.toArray n') :: l) := by have := S₂.mid; rwa [List.append_nil] at this
      have off : ∀ p ∈ (s.heap.objs.size, listOf acc.toArray n') :: l, p.1 ∉ ob.map (·.1) := fun p hp q => by
        refine offw p ?_ (hob ▸ q)
        rcases List.mem_cons.mp hp with rfl | hp
        · exact List.mem_append_right _ (.head _)
        · exact List.mem_append_left _ hp
      have S₃ := S.back (hob ▸ S₂) off
      obtain ⟨m, nC, _⟩ := S₂.ns
      refine hRR _ _ acc l h t n' hJ ⟨m, nC⟩ ?_ ?_ (fun p hp => ?_) S₃
      · have := S.ltL; rw [hC]; exact Nat.ne_of_gt (Nat.lt_succ_of_lt this)
      · cases e : B H2.objs.size with
        | none => rfl
        | some o => have := Heap.lt_size (S.keep _ _ e); rw [hC] at this; exact absurd (Nat.lt_of_succ_lt this) (Nat.lt_irrefl _)
      · rw [← List.cons_append] at hp
        rcases List.mem_append.mp hp with hp | hp
        · exact S₂.sepL p hp
        · have := Heap.lt_size (S.own p (List.mem_append_left _ hp)); rw [hC]; exact Nat.ne_of_lt (Nat.lt_succ_of_lt this)
  exact codeAny_compStart_list (loop _ rfl) (W.self 0 _ _ _ hz₁ (loop _ rfl))
end
end Mine

/-! part Fw7 -/
namespace Mine
theorem Itr.ofWalks {prog : Program} {w : World} {A : Around} {x : Str} {px : Pos} {I : Addr} {fp wr : List Addr} {n : Nat} {P : Nat → Value → Prop} {Z : Nat → Heap → Prop} (W : Walks prog w A I fp wr n P Z)
    (al : ∀ i h, Z i h → ∀ b ∈ wr, ∃ o, h.get? b = some o) : Itr prog w A (.Name x px) I fp wr n (fun i v _ => P i v) Z where
  frame := W.frame
  alive := al
  item := fun i s Q E hi hz h => W.item i s _ E hi hz fun v h' tk hP hz' k => ⟨v, rfl, wpAny_of_eq (a := ()) rfl (h v h' tk hP hz' fun b o n e => k b o n e)⟩
  done := fun s Q E hz h => W.done s _ E hz fun h' tk k => ⟨rfl, h h' tk fun b o n e => k b o n e⟩
  self := W.self
theorem Itr.ofU {prog : Program} {w : World} {A : Around} {elts : List Expr} {k : Nat} {pos : Pos} {I : Addr} {fp wr : List Addr} {n : Nat} {Pt : Nat → Array Value → Prop} {Z : Nat → Heap → Prop} {Mid : Nat → Addr → Heap → Prop}
    (W : WalksU prog w A I fp wr n Pt Z Mid) (al : ∀ i h, Z i h → ∀ b ∈ wr, ∃ o, h.get? b = some o) :
    Itr prog w A (.Tuple elts k pos) I fp wr n (fun i v h => ∃ T vals, v = .ref T ∧ Pt i vals ∧ h.IsTuple T vals) Z where
  frame := W.frame
  alive := al
  item := fun i s Q E hi hz h => W.item i s _ E hi hz fun T vals h' tk hP hT hM k => ⟨.ref T, rfl, W.go _ _ _ i T _ _ E hM fun h'' hz'' k' =>
    h (.ref T) h'' tk ⟨T, vals, rfl, hP, (let ⟨o, ho, r⟩ := hT; ⟨o, k' _ _ (W.apart _ _ _ hM) ho, r⟩)⟩ hz'' fun b o n e => k' b o n (k b o n e)⟩
  done := fun s Q E hz h => W.done s _ E hz fun h' tk k => ⟨rfl, h h' tk fun b o n e => k b o n e⟩
  self := W.self

abbrev itL (a : Addr) (i : Nat) : Obj := { cls := .type "list_iterator", data := .fields #[.ref a, .int i 0] }
section
variable {prog : Program} {w : World} {A : Around}
theorem Itr.list (hh : A.handled = none) {x : Str} {px : Pos} (I a : Addr) (hne : a ≠ I) (its : Array Value) : Itr prog w A (.Name x px) I [I, a] [I] its.size (fun i v _ => its[i]? = some v) (fun i h => h.IsListIter I a i ∧ h.IsList a its) :=
  .ofWalks (Walks.list hh I a hne its) fun i h z b hb => by rw [List.mem_singleton.mp hb]; obtain ⟨⟨o, e, _⟩, _⟩ := z; exact ⟨o, e⟩
theorem Itr.tuple (hh : A.handled = none) {x : Str} {px : Pos} (I a : Addr) (hne : a ≠ I) (its : Array Value) : Itr prog w A (.Name x px) I [I, a] [I] its.size (fun i v _ => its[i]? = some v) (fun i h => h.IsTupleIter I a i ∧ h.IsTuple a its) :=
  .ofWalks (Walks.tuple hh I a hne its) fun i h z b hb => by rw [List.mem_singleton.mp hb]; obtain ⟨⟨o, e, _⟩, _⟩ := z; exact ⟨o, e⟩
theorem Itr.range (hh : A.handled = none) {x : Str} {px : Pos} (I : Addr) (a c : Int) (n : Nat) : Itr prog w A (.Name x px) I [I] [I] n (fun i v _ => ∃ t, v = .int (a + i * c) t) (fun i h => IsRangeIter h I (a + (i : Nat) * c) ((n : Int) - (i : Nat)) c) :=
  .ofWalks (Walks.range hh I a c n) fun i h z b hb => by rw [List.mem_singleton.mp hb]; exact ⟨_, z⟩
theorem Itr.rev (hh : A.handled = none) {x : Str} {px : Pos} (I a : Addr) (hne : a ≠ I) (its : Array Value) :
    Itr prog w A (.Name x px) I [I, a] [I] its.size (fun i v _ => its[its.size - 1 - i]? = some v) (fun i h => i ≤ its.size ∧ h.IsRevIter I a ((its.size : Int) - 1 - (i : Int)) ∧ h.IsList a its) :=
  .ofWalks (Walks.listRev hh I a hne its) fun i h z b hb => by rw [List.mem_singleton.mp hb]; obtain ⟨_, ⟨o, e, _⟩, _⟩ := z; exact ⟨o, e⟩
end

/-! for loops -/
section
variable {prog : Program} {w : World} {A : Around} {E : Value → Shared → Prop} {s : Shared} {env : Env} {B : Bas} {L : Addr} {vars : List (Str × Value)} {l fx : List (Addr × Obj)} {Q : Flow → Shared → Prop}
/-- what a for loop comes to, once its iterator stands -/
abbrev ForAt (prog : Program) (w : World) (A : Around) (E : Value → Shared → Prop) (env : Env) (target : Expr) (body orelse : List Stmt) (Q : Flow → Shared → Prop) (it : Value) (s₂ : Shared) : Prop :=
  codeAny (model prog w) A (.forLoop target it body orelse env) (fun r s' => match r with | .ok f => Q f s' | .error e => cameBackBy (model prog w) A env E e s') s₂
theorem St.newIt {B : Bas} {L : Addr} {h : Heap} {vars : List (Str × Value)} {l fx : List (Addr × Obj)} {o : Obj} (S : St B L h vars (l ++ fx)) (hf : o.isFreed = false := by rfl) : St B L (h.push o) vars (l ++ (fx ++ [(h.objs.size, o)])) := by
  refine (S.push o hf).perm ?_
  rw [← List.append_assoc]
  exact (List.perm_append_singleton _ _).symm
theorem rForL {target : Expr} {body orelse : List Stmt} {a : Addr} {its : Array Value} {x : Str} {px : Pos} (ht : target = .Name x px) (hh : A.handled = none) (J : Nat → List (Str × Value) → List (Addr × Obj) → Prop)
    (S : St B L s.heap vars (l ++ fx)) (ha : (∃ n, B a = some (listOf its n)) ∨ ∃ n, (a, listOf its n) ∈ fx) (h0 : J 0 vars l)
    (turn : ∀ i v vars l rest h t E', its[i]? = some v → J i vars l → (∀ p ∈ fx, p ∈ rest) → St B L h vars (l ++ rest) →
      ∀ K : Flow → Shared → Prop, (∀ h' t' vars' l', J (i + 1) vars' l' → St B L h' vars' (l' ++ rest) → K .next (sh s h' t')) → (∀ s', Q .next s' → K .brk s') → (∀ v s', Q (.ret v) s' → K (.ret v) s') → wpAny (model prog w) A (assign target env v) (fun _ s₂ => wpAny (model prog w) A (execs body env) K E' s₂) E' (sh s h t))
    (done : ∀ vars l h t E', J its.size vars l → St B L h vars (l ++ fx) → wpAny (model prog w) A (execs orelse env) (fun f s₃ => Q f s₃) E' (sh s h t)) :
    wpAny (model prog w) A (pyIter (.ref a)) (ForAt prog w A E env target body orelse Q) E s := by
  subst ht
  have hget : ∃ n, s.heap.get? a = some (listOf its n) := by
    rcases ha with ⟨n, e⟩ | ⟨n, e⟩
    · exact ⟨n, S.keep _ _ e⟩
    · exact ⟨n, S.own _ (List.mem_append_right _ e)⟩
  obtain ⟨n, hget⟩ := hget
  refine wpAny_pyIter_list (isL hget) ?_
  refine rForI (s := { s with heap := s.heap.push (itL a 0) }) (Itr.list hh s.heap.objs.size a (Nat.ne_of_lt (Heap.lt_size hget)) its) fx J (fun b hb => ?_) rfl h0 (S.newIt (o := itL a 0)) ?_ (fun i v vars l rest h t E' hi hJ hr hP S => turn i v vars l rest h t E' hP hJ hr S) done
  · rcases List.mem_cons.mp hb with rfl | hb
    · exact .inl (.head _)
    · rw [List.mem_singleton.mp hb]
      rcases ha with ⟨n, e⟩ | ⟨n, e⟩
      · exact .inr (.inr ⟨_, e⟩)
      · exact .inr (.inl (List.mem_map_of_mem e))
  · exact ⟨⟨_, Heap.get?_push_size _ rfl, rfl, rfl⟩, (isL hget).push _⟩
theorem rForR {target : Expr} {body orelse : List Stmt} {r : Addr} {a b c : Int} {t₀ u₀ v₀ : Tok} {n : Nat} {x : Str} {px : Pos} (ht : target = .Name x px) (hh : A.handled = none) (J : Nat → List (Str × Value) → List (Addr × Obj) → Prop)
    (S : St B L s.heap vars (l ++ fx)) (hr : IsRange s.heap r a b c t₀ u₀ v₀) (hsm : Builtin.Range.small a b c = true) (hn : Builtin.Range.rangeSize a b c = n) (h0 : J 0 vars l)
    (turn : ∀ (i : Nat) tv vars l rest h t E', i < n → J i vars l → (∀ p ∈ fx, p ∈ rest) → St B L h vars (l ++ rest) →
      ∀ K : Flow → Shared → Prop, (∀ h' t' vars' l', J (i + 1) vars' l' → St B L h' vars' (l' ++ rest) → K .next (sh s h' t')) → (∀ s', Q .next s' → K .brk s') → (∀ v s', Q (.ret v) s' → K (.ret v) s') → wpAny (model prog w) A (assign target env (.int (a + i * c) tv)) (fun _ s₂ => wpAny (model prog w) A (execs body env) K E' s₂) E' (sh s h t))
    (done : ∀ vars l h t E', J n vars l → St B L h vars (l ++ fx) → wpAny (model prog w) A (execs orelse env) (fun f s₃ => Q f s₃) E' (sh s h t)) :
    wpAny (model prog w) A (pyIter (.ref r)) (ForAt prog w A E env target body orelse Q) E s := by
  subst ht
  refine wpAny_pyIter_range hr hsm ?_
  rw [hn]
  refine rForI (s := { s with heap := s.heap.push { cls := .type "range_iterator", data := .fields #[rawInt a, rawInt n, rawInt c] } }) (Itr.range hh s.heap.objs.size a c n) fx J (fun b hb => .inl hb) rfl h0 S.newIt ?_ (fun i v vars l rest h t E' hi hJ hr hP S => ?_) done
  · have e := Heap.get?_push_size s.heap (o := { cls := .type "range_iterator", data := .fields #[rawInt a, rawInt n, rawInt c] }) rfl
    show _ = _
    rw [e]
    simp
  · obtain ⟨tv, rfl⟩ := hP
    exact turn i tv vars l rest h t E' hi hJ hr S
end
end Mine

/-! part Fw8 -/
namespace Mine
/-! ## the library's rules over Fr and News, in a state of ours -/
def cutTo (h : Heap) (L : Nat) : Heap := ⟨h.objs.extract 0 L, h.life⟩
theorem cutTo_size {h : Heap} {L : Nat} (hL : L ≤ h.objs.size) : (cutTo h L).objs.size = L := by
  show (h.objs.extract 0 L).size = L
  simp; lia
theorem cutTo_get {h : Heap} {L b : Nat} (hb : b < L) (hL : L ≤ h.objs.size) : (cutTo h L).get? b = h.get? b := by
  have e : (cutTo h L).objs[b]? = h.objs[b]? := by
    show (h.objs.extract 0 L)[b]? = _
    rw [Array.getElem?_extract]
    simp; lia
  unfold Heap.get?
  rw [e]
theorem cutTo_none {h : Heap} {L b : Nat} (hb : L ≤ b) (hL : L ≤ h.objs.size) : (cutTo h L).get? b = none := Heap.get?_none_of_le (by rw [cutTo_size hL]; exact hb)
def newsFrom (h : Heap) (L : Nat) : List (Nat × Obj) := (List.range h.objs.size).filterMap fun b => if b ≤ L then none else (h.get? b).map fun o => (b, o)
theorem newsFrom_mem {h : Heap} {L : Nat} {p : Nat × Obj} : p ∈ newsFrom h L ↔ L < p.1 ∧ h.get? p.1 = some p.2 := by
  unfold newsFrom
  rw [List.mem_filterMap]
  constructor
  · rintro ⟨b, hb, e⟩
    by_cases q : b ≤ L
    · rw [if_pos q] at e; cases e
    · rw [if_neg q] at e
      obtain ⟨o, ho, rfl⟩ := Option.map_eq_some_iff.mp e
      exact ⟨by lia, ho⟩
  · rintro ⟨h1, h2⟩
    refine ⟨p.1, List.mem_range.mpr (Heap.lt_size h2), ?_⟩
    rw [if_neg (by first | decide | lia), h2]; rfl
theorem fr_of {h : Heap} {L : Addr} {m : Str → Option Value} (hn : h.Ns L m) : Fr (cutTo h L) L h m ∧ News (cutTo h L) L h (newsFrom h L) := by
  have hL : L ≤ h.objs.size := Nat.le_of_lt hn.lt
  refine ⟨⟨hn, fun b o e => ?_, Nat.le_of_eq (cutTo_size hL)⟩, fun p hp => ?_⟩
  · have : b < L := by have := Heap.lt_size e; rwa [cutTo_size hL] at this
    rw [cutTo_get this hL] at e; exact e
  · obtain ⟨a1, a2⟩ := newsFrom_mem.mp hp
    exact ⟨a2, Nat.ne_of_gt a1, cutTo_none (Nat.le_of_lt a1) hL⟩
theorem eff_of_fr {h h' : Heap} {L : Addr} {m : Str → Option Value} {more : List (Addr × Obj)} (hn : h.Ns L m) (F : Fr (cutTo h L) L h' m) (N : News (cutTo h L) L h' (more ++ newsFrom h L)) : Eff [L] h h' := fun b o nb e => by
  have hL : L ≤ h.objs.size := Nat.le_of_lt hn.lt
  have ne : b ≠ L := fun q => nb (by rw [q]; exact .head _)
  rcases Nat.lt_or_gt_of_ne ne with q | q
  · exact F.keep b o (by rw [cutTo_get q hL]; exact e)
  · exact (N (b, o) (List.mem_append_right _ (newsFrom_mem.mpr ⟨q, e⟩))).1
theorem St.ofFr {B : Bas} {L : Addr} {h h' : Heap} {vars : List (Str × Value)} {l more : List (Addr × Obj)} {m : Str → Option Value} (S : St B L h vars l) (hm : ∀ x v, vars.lookup x = some v → m x = some v) (hn : h.Ns L m)
    (F : Fr (cutTo h L) L h' m) (N : News (cutTo h L) L h' (more ++ newsFrom h L)) (hmore : ∀ p ∈ more, h.objs.size ≤ p.1) (nd : (more.map (·.1)).Nodup) : St B L h' vars (more ++ l) := by
  have eff := eff_of_fr hn F N
  have off : ∀ b, b ≠ L → b ∉ [L] := fun b q r => q (List.mem_singleton.mp r)
  refine ⟨⟨m, F.ns, hm⟩, fun b o e => eff b o (off b fun q => by rw [q, S.nL] at e; cases e) (S.keep b o e), fun p hp => ?_, fun p hp => ?_, fun p hp => ?_, S.nL, ?_⟩
  · rcases List.mem_append.mp hp with hp | hp
    · exact (N p (List.mem_append_left _ hp)).1
    · exact eff _ _ (off _ (S.sepL p hp)) (S.own p hp)
  · rcases List.mem_append.mp hp with hp | hp
    · cases e : B p.1 with
      | none => rfl
      | some o => exact absurd (Heap.lt_size (S.keep _ _ e)) (Nat.not_lt.mpr (hmore p hp))
    · exact S.sep p hp
  · rcases List.mem_append.mp hp with hp | hp
    · exact (N p (List.mem_append_left _ hp)).2.1
    · exact S.sepL p hp
  · rw [List.map_append]
    refine List.nodup_append.mpr ⟨nd, S.nodup, fun a ha b hb e => ?_⟩
    obtain ⟨p, hp, rfl⟩ := List.mem_map.mp ha
    obtain ⟨q, hq, rfl⟩ := List.mem_map.mp hb
    have := Heap.lt_size (S.own q hq)
    rw [← e] at this
    exact absurd this (Nat.not_lt.mpr (hmore p hp))

section
variable {prog : Program} {A : Around} {E : Value → Shared → Prop} {s : Shared} {B : Bas} {L : Addr} {vars : List (Str × Value)} {l : List (Addr × Obj)} {env : Env} {w : World} {mg mb : Str → Option Value} {Q : Value → Shared → Prop}
theorem rSplit {x y : Str} {t u : Tok} (S : St B L s.heap vars l) (hy : (y.length == 0) = false) (hsz : x.length ≤ 1000)
    (k : ∀ D vs h' tk, StrsAre vs (Txt.split x y) → St B L h' vars ((D, listOf vs.toArray 0) :: l) → Q (.ref D) (sh s h' tk)) :
    wpAny (model prog w) A (call (.builtin "str.split") [.str x t, .str y u]) Q E s := by
  obtain ⟨m, hn, hm⟩ := S.ns
  obtain ⟨F, N⟩ := fr_of hn
  refine splitN1 F N hy (fun li h' k' e F' N' => ?_) (by rw [sizeLine_eq]; lia)
  have S' := S.ofFr (more := [(s.heap.objs.size, listOf (strValues li).toArray 0)]) hm hn F' N' (fun p hp => by rw [List.mem_singleton.mp hp]; exact Nat.le_refl _) (by simp)
  exact k _ _ _ _ (e ▸ strsAre_of_values li) S'
theorem rStrM {o : Expr} {name : Str} {id : String} {apos pos : Pos} {e : Expr} {rest : List Expr} {pl : Sem Bool} 
    (hg : ∀ (x : Str) (t : Tok) (s : Shared) (R : Value × List Value → Shared → Prop), R (.builtin id, [.str x t]) s → wpAny (model prog w) A (getMethod (.str x t) name pl) R E s)
    (h : wpAny (model prog w) A (eval o env) (fun ov s₁ => ∃ x t, ov = .str x t ∧
      wpAny (model prog w) A (spliced (backTo pos (starEach (e :: rest) env))) (fun vs s₂ => wpAny (model prog w) A (call (.builtin id) (.str x t :: vs)) Q E s₂) E s₁) E s)
    (hm : eval (.Call (.Attribute o name apos) (e :: rest) [] pos) env = (do
      let ov ← eval o env
      standAt apos.atName
      let (f, first) ← holding [ov] (getMethod ov name pl)
      callWith pos f first (backTo pos (starEach (e :: rest) env)) []) := by rfl)
    (he : starEach (e :: rest) env = (false, eval e env) :: starEach rest env := by rfl) (hplain : (backTo pos (starEach rest env)).any (·.1) = false := by rfl) :
    wpAny (model prog w) A (eval (.Call (.Attribute o name apos) (e :: rest) [] pos) env) Q E s := by
  refine MethodCall_ (pl := pl) (wpAny_mono h (fun ov s₁ h₁ => ?_) fun _ _ x => x) hm
  obtain ⟨x, t, rfl, h₂⟩ := h₁
  exact hg x t s₁ _ (callWith_method1 h₂ he hplain)
theorem strs_get {vs : List Value} {ys : List Str} (h : StrsAre vs ys) : vs.length = ys.length ∧ ∀ (i : Nat) (h1 : i < vs.length) (h2 : i < ys.length), ∃ t, vs[i] = .str ys[i] t := by
  induction h with
  | nil => exact ⟨rfl, fun i h1 => absurd h1 (Nat.not_lt_zero _)⟩
  | cons y t _ ih =>
    refine ⟨by simp [ih.1], fun i h1 h2 => ?_⟩
    cases i with
    | zero => exact ⟨t, rfl⟩
    | succ i => exact ih.2 i (Nat.lt_of_succ_lt_succ h1) (Nat.lt_of_succ_lt_succ h2)
theorem rIndexStr {a : Addr} {vs : List Value} {ys : List Str} {n j : Nat} {k : Str} {t : Tok} (hget : s.heap.get? a = some (listOf vs.toArray n)) (hs : StrsAre vs ys) (hj : j < ys.length) (hlen : ys.length ≤ 1000)
    (hit : ys[j] = k) (hno : ∀ i (h : i < ys.length), i < j → ys[i] ≠ k) (h : Q (.int j s.toks) { s with toks := s.toks + 1 }) :
    wpAny (model prog w) A (call (.builtin "list.index") [.ref a, .str k t]) Q E s := by
  obtain ⟨hl, hg⟩ := strs_get hs
  refine call_meets PySem.F.slot_list_index ⟨_, hget, rfl⟩ PySem.F.entry_list_index (PySem.F.args_list_index_2 _ _)
    (SeqAt.list_indexAt a vs.toArray n none #[] (.str k t) (isStrOf k) j (by simpa [hl] using hj) (by first | decide | lia) ?_ ?_) ⟨hget, fun y hy => (eq_isStrOf k t hs y (by simpa using hy)).at _ _, h⟩
  · obtain ⟨u, e⟩ := hg j (by first | decide | lia) hj
    show isStrOf k vs[j] = true
    rw [e]; simp [isStrOf, hit]
  · intro i hi hlt
    have hi' : i < vs.length := by simpa using hi
    obtain ⟨u, e⟩ := hg i hi' (by first | decide | lia)
    show isStrOf k vs[i] = false
    rw [e]
    simpa [isStrOf] using hno i (by first | decide | lia) hlt
end
/-! COMPILER_FLAG_NAMES -/
def flagName (i : Nat) : Str := match i with
  | 0 => "OPTIMIZED" | 1 => "NEWLOCALS" | 2 => "VARARGS" | 3 => "VARKEYWORDS" | 4 => "NESTED" | 5 => "GENERATOR" | 6 => "NOFREE" | 7 => "COROUTINE" | 8 => "ITERABLE_COROUTINE" | 9 => "ASYNC_GENERATOR"
  | i => baseText "0x" 16 (2 ^ i : Nat)
theorem flags_map {prog : Program} {w : World} {h : Heap} (X : (hd.heap_39 w.params).In h) : ∃ f, h.MapOf (intKind prog w) 84 f ∧ (∀ i, i < 10 → ∃ t, f ((2 ^ i : Nat) : Int) = some (.str (flagName i) t)) ∧ ∀ i, 10 ≤ i → i < 32 → f ((2 ^ i : Nat) : Int) = none := by
  have ho : ∃ es : List DictEntry, (hd.heap_39 w.params).lookup 84 = some ⟨.type "dict", none, .dict es.toArray 10, #[]⟩ ∧ (es.all fun e => match e.key with | .int k _ => e.hash == hashInt k | _ => false) = true ∧
      ((List.range 32).all fun i => match es.find? (fun e => e.key.isInt ((2 ^ i : Nat) : Int)) with | some e => decide (i < 10) && (match e.val with | .str x _ => x == flagName i | _ => false) | none => decide (10 ≤ i)) = true := ⟨_, rfl, by decide +kernel, by decide +kernel⟩
  obtain ⟨es, ho, hk, hf⟩ := ho
  refine ⟨fun k => findBy Value.isInt es.toArray k, ⟨_, es.toArray, 10, X _ _ ho, ⟨rfl, rfl, rfl⟩, rfl, fun e he => ?_, fun k => rfl⟩, fun i hi => ?_, fun i h1 h2 => ?_⟩
  · have := List.all_eq_true.mp hk e (by simpa using he)
    split at this
    · rename_i k t hkey
      exact ⟨k, by show Value.isInt k e.key = true; rw [hkey]; simp [Value.isInt], by show e.hash = hashInt k; simpa using this⟩
    · cases this
  · have := List.all_eq_true.mp hf i (List.mem_range.mpr (by first | decide | (exact Nat.lt_of_lt_of_le (by assumption) (by decide))))
    unfold findBy
    dsimp only
    rw [List.find?_toArray]
    split at this
    · rename_i e he
      rw [he]
      simp only [Bool.and_eq_true] at this
      have h2 := this.2
      split at h2
      · rename_i x t hv
        exact ⟨t, by simp [hv, beq_iff_eq.mp h2]⟩
      · cases h2
    · have := of_decide_eq_true this; omega
  · have := List.all_eq_true.mp hf i (List.mem_range.mpr (by first | decide | omega))
    unfold findBy
    dsimp only
    rw [List.find?_toArray]
    split at this
    · simp only [Bool.and_eq_true, decide_eq_true_eq] at this; omega
    · rename_i he
      rw [he]; rfl
end Mine

/-! part Fw9 -/
namespace Mine
abbrev rgO (a b c : Int) (t u v : Tok) : Obj := { cls := .type "range", data := .fields #[.int a t, .int b u, .int c v] }
abbrev tupO (its : Array Value) : Obj := { cls := .type "tuple", data := .seq its }
section
variable {prog : Program} {A : Around} {E : Value → Shared → Prop} {s : Shared} {B : Bas} {L : Addr} {vars : List (Str × Value)} {l : List (Addr × Obj)} {env : Env} {w : World} {mg mb : Str → Option Value} {Q : Value → Shared → Prop}
theorem rRange1 {n : Int} {t : Tok} (S : St B L s.heap vars l) (k : ∀ r t u v h' tk, St B L h' vars ((r, rgO 0 n 1 t u v) :: l) → Q (.ref r) (sh s h' tk)) : wpAny (model prog w) A (call (.type "range") [.int n t]) Q E s :=
  call_range_1 (k _ _ _ _ _ _ (S.push _))
theorem rRange2 {a b : Int} {t u : Tok} (S : St B L s.heap vars l) (k : ∀ r t u v h' tk, St B L h' vars ((r, rgO a b 1 t u v) :: l) → Q (.ref r) (sh s h' tk)) : wpAny (model prog w) A (call (.type "range") [.int a t, .int b u]) Q E s :=
  call_range_2 (k _ _ _ _ _ _ (S.push _))
theorem rRange3 {a b c : Int} {t u v : Tok} (S : St B L s.heap vars l) (hc : c ≠ 0) (hp : Builtin.divisionGoesByPylong (b - a) c = false) (k : ∀ r t u v h' tk, St B L h' vars ((r, rgO a b c t u v) :: l) → Q (.ref r) (sh s h' tk)) : wpAny (model prog w) A (call (.type "range") [.int a t, .int b u, .int c v]) Q E s :=
  call_range_3 hc (k _ _ _ _ _ _ (S.push _)) (.inl hp)
/-- the empty list's display -/
theorem rList0 {pos : Pos} (S : St B L s.heap vars l) (k : ∀ D h', St B L h' vars ((D, listOf #[] 0) :: l) → Q (.ref D) { s with heap := h' }) : wpAny (model prog w) A (eval (.List [] pos) env) Q E s :=
  wpAny_List (wpAny_items_nil ⟨by decide, k _ _ (S.push _)⟩)
/-- a list's display: what follows its items -/
theorem rListEnd {vs : List Value} (S : St B L s.heap vars l) (hz : vs.length ≤ 1000) (k : ∀ D h', St B L h' vars ((D, listOf vs.toArray 0) :: l) → Q (.ref D) { s with heap := h' }) :
    vs.length ≤ sizeLine ∧ Q (.ref s.heap.objs.size) { s with heap := s.heap.push { cls := .type "list", data := .seq vs.toArray } } := ⟨by rw [sizeLine_eq]; (exact Nat.le_trans (by assumption) (by decide)), k _ _ (S.push _)⟩
theorem rTupEnd {vs : List Value} (S : St B L s.heap vars l) (hz : vs.length ≤ 1000) (k : ∀ D h', St B L h' vars ((D, tupO vs.toArray) :: l) → Q (.ref D) { s with heap := h' }) :
    vs.length ≤ sizeLine ∧ Q (.ref s.heap.objs.size) { s with heap := s.heap.push { cls := .type "tuple", data := .seq vs.toArray } } := ⟨by rw [sizeLine_eq]; (exact Nat.le_trans (by assumption) (by decide)), k _ _ (S.push _)⟩
end
theorem fits_long {x : Int} (h : -100000000 ≤ x) (h' : x ≤ 100000000) : Builtin.Range.rangeFitsLong x = true := by
  have e : (2 : Int) ^ 63 = 9223372036854775808 := by decide
  unfold Builtin.Range.rangeFitsLong
  rw [Bool.and_eq_true, e]
  exact ⟨decide_eq_true (by first | decide | lia), decide_eq_true (by first | decide | lia)⟩
theorem range_small_of {a b c : Int} (ha : -1000000 ≤ a) (ha' : a ≤ 1000000) (hb : -1000000 ≤ b) (hb' : b ≤ 1000000) (hc : -1000 ≤ c) (hc' : c ≤ 1000)
    (h1 : -100000000 ≤ Builtin.Range.rangeSize a b c) (h2 : Builtin.Range.rangeSize a b c ≤ 100000000) : Builtin.Range.small a b c = true := by
  unfold Builtin.Range.small
  rw [fits_long (by first | decide | lia) (by first | decide | lia), fits_long (by first | decide | lia) (by first | decide | lia), fits_long (by first | decide | lia) (by first | decide | lia), fits_long h1 h2]
  split
  · rw [fits_long (by first | decide | lia) (by first | decide | lia)]; simp
  · rw [fits_long (by first | decide | lia) (by first | decide | lia)]; simp
theorem range_small {a b : Int} (ha : -1000000 ≤ a) (ha' : a ≤ 1000000) (hb : -1000000 ≤ b) (hb' : b ≤ 1000000) : Builtin.Range.small a b 1 = true := by
  refine range_small_of ha ha' hb hb' (by first | decide | omega) (by first | decide | omega) ?_ ?_ <;> (rw [rangeSize_one]; split <;> lia)
theorem range_size1 {a b : Int} {n : Nat} (h : b = a + n) : Builtin.Range.rangeSize a b 1 = n := by
  rw [rangeSize_one, h]; split <;> lia
section
variable {prog : Program} {w : World} {A : Around} {E : Value → Shared → Prop} {s : Shared} {Q : Value → Shared → Prop} {a b c : Int} {t u : Tok}
theorem oAdd (e : a + b = c) (h : Q (.int c s.toks) { s with toks := s.toks + 1 }) : wpAny (model prog w) A (binaryOp .Add (.int a t) (.int b u)) Q E s := by subst e; exact add_int h
theorem oSub (e : a - b = c) (h : Q (.int c s.toks) { s with toks := s.toks + 1 }) : wpAny (model prog w) A (binaryOp .Sub (.int a t) (.int b u)) Q E s := by subst e; exact sub_int h
theorem oMul (e : a * b = c) (hm : IntMulOk a b) (h : Q (.int c s.toks) { s with toks := s.toks + 1 }) : wpAny (model prog w) A (binaryOp .Mult (.int a t) (.int b u)) Q E s := by subst e; exact mul_int h hm
theorem oAnd (e : Builtin.bitAnd a b = c) (h : Q (.int c s.toks) { s with toks := s.toks + 1 }) : wpAny (model prog w) A (binaryOp .BitAnd (.int a t) (.int b u)) Q E s := by subst e; exact and_int h
theorem oXor (e : Builtin.bitXor a b = c) (h : Q (.int c s.toks) { s with toks := s.toks + 1 }) : wpAny (model prog w) A (binaryOp .BitXor (.int a t) (.int b u)) Q E s := by subst e; exact xor_int h
theorem oIXor (e : Builtin.bitXor a b = c) (h : Q (.int c s.toks) { s with toks := s.toks + 1 }) : wpAny (model prog w) A (inplaceOp .BitXor (.int a t) (.int b u)) Q E s := by subst e; exact ixor_int h
theorem oISub (e : a - b = c) (h : Q (.int c s.toks) { s with toks := s.toks + 1 }) : wpAny (model prog w) A (inplaceOp .Sub (.int a t) (.int b u)) Q E s := by subst e; exact isub_int h
theorem oIAdd (e : a + b = c) (h : Q (.int c s.toks) { s with toks := s.toks + 1 }) : wpAny (model prog w) A (inplaceOp .Add (.int a t) (.int b u)) Q E s := by subst e; exact iadd_int h
theorem oShl {n : Nat} (hb : b = n) (hn : n ≤ 100000) (ha : a.natAbs < 2 ^ 64) (e : a * 2 ^ n = c) (h : Q (.int c s.toks) { s with toks := s.toks + 1 }) : wpAny (model prog w) A (binaryOp .LShift (.int a t) (.int b u)) Q E s := by
  subst e
  refine lshift_int_small (by first | decide | lia) (by first | decide | lia) ha ?_
  rw [show b.toNat = n by lia]; exact h
theorem oShr {n : Nat} (hb : b = n) (e : a / 2 ^ n = c) (h : Q (.int c s.toks) { s with toks := s.toks + 1 }) : wpAny (model prog w) A (binaryOp .RShift (.int a t) (.int b u)) Q E s := by
  subst e
  refine rshift_int (by first | decide | lia) ?_
  rw [show b.toNat = n by lia, Int.fdiv_eq_ediv_of_nonneg _ (Int.pow_nonneg (by decide))]; exact h
theorem oMod (hb : 0 < b) (e : a % b = c) (h : Q (.int c s.toks) { s with toks := s.toks + 1 }) : wpAny (model prog w) A (binaryOp .Mod (.int a t) (.int b u)) Q E s := by
  subst e
  refine mod_int (by first | decide | lia) ?_
  rw [Int.fmod_eq_emod_of_nonneg _ (by first | decide | lia)]; exact h
theorem oDiv (hb : 0 < b) (e : a / b = c) (hp : Builtin.divisionGoesByPylong a b = false) (h : Q (.int c s.toks) { s with toks := s.toks + 1 }) : wpAny (model prog w) A (binaryOp .FloorDiv (.int a t) (.int b u)) Q E s := by
  subst e
  refine floordiv_int (by first | decide | lia) ?_ (.inl hp)
  rw [Int.fdiv_eq_ediv_of_nonneg _ (by first | decide | lia)]; exact h
theorem oPow {n : Nat} (hb : b = n) (hn : n ≤ 100000) (ha : a.natAbs < 2 ^ 64) (e : a ^ n = c) (h : Q (.int c s.toks) { s with toks := s.toks + 1 }) : wpAny (model prog w) A (binaryOp .Pow (.int a t) (.int b u)) Q E s := by
  subst e
  refine pow_int_small (by first | decide | lia) (by first | decide | lia) ha ?_
  rw [show b.toNat = n by lia]; exact h
theorem oTruth {R : Bool → Shared → Prop} {b' : Bool} (e : (a != 0) = b') (h : R b' s) : wpAny (model prog w) A (truthy (.int a t)) R E s := by subst e; exact PyProof.Rows.truthy_int h
end
end Mine

/-! part Pf -/
namespace Mine
/-! ## plain: bits -/
theorem xor_sub {x y : Int} (h : Builtin.bitAnd x y = y) : Builtin.bitXor x y = x - y := by
  unfold Builtin.bitXor
  rw [bitOr_and, h]; lia
def topBits (v i : Nat) : Nat := v / 2 ^ i * 2 ^ i
theorem top_and (v i : Nat) : topBits v i &&& 2 ^ i = if v.testBit i then 2 ^ i else 0 := by
  apply Nat.eq_of_testBit_eq
  intro j
  rw [Nat.testBit_and, Nat.testBit_two_pow, topBits, Nat.testBit_mul_two_pow, Nat.testBit_div_two_pow]
  by_cases h : i = j
  · subst h
    simp only [decide_true, Bool.and_true, Nat.le_refl, decide_true, Bool.true_and, Nat.sub_self, Nat.zero_add]
    cases hb : v.testBit i <;> simp [Nat.testBit_two_pow]
  · simp only [decide_eq_false h, Bool.and_false]
    cases hb : v.testBit i <;> simp [Nat.testBit_two_pow, h]
theorem top_succ_t {v i : Nat} (h : v.testBit i = true) : topBits v i = topBits v (i + 1) + 2 ^ i := by
  have h2 : v / 2 ^ i % 2 = 1 := by
    rw [Nat.testBit_eq_decide_div_mod_eq] at h; exact of_decide_eq_true h
  unfold topBits
  have e : v / 2 ^ (i + 1) = v / 2 ^ i / 2 := by rw [Nat.pow_succ, Nat.div_div_eq_div_mul]
  rw [e, Nat.pow_succ]
  have : v / 2 ^ i = v / 2 ^ i / 2 * 2 + 1 := by lia
  generalize v / 2 ^ i / 2 = q at *
  rw [this, Nat.add_mul, Nat.one_mul, Nat.mul_assoc, Nat.mul_comm 2]
theorem top_succ_f {v i : Nat} (h : v.testBit i = false) : topBits v i = topBits v (i + 1) := by
  have h2 : ¬ v / 2 ^ i % 2 = 1 := by
    rw [Nat.testBit_eq_decide_div_mod_eq] at h; exact of_decide_eq_false h
  unfold topBits
  have e : v / 2 ^ (i + 1) = v / 2 ^ i / 2 := by rw [Nat.pow_succ, Nat.div_div_eq_div_mul]
  rw [e, Nat.pow_succ]
  have : v / 2 ^ i = v / 2 ^ i / 2 * 2 := by lia
  generalize v / 2 ^ i / 2 = q at *
  rw [this, Nat.mul_assoc, Nat.mul_comm 2]
/-- the words of the bits below k -/
def wordsTo (v k : Nat) : List Str := ((List.range k).filter fun j => v.testBit j).map flagName
theorem wordsTo_succ (v k : Nat) : wordsTo v (k + 1) = wordsTo v k ++ if v.testBit k then [flagName k] else [] := by
  unfold wordsTo
  rw [List.range_succ, List.filter_append, List.map_append]
  congr 1
  cases h : v.testBit k <;> simp [h]
theorem wordsTo_zero {v : Nat} : ∀ {k m : Nat}, v / 2 ^ k = 0 → wordsTo v (k + m) = wordsTo v k
  | k, 0, _ => rfl
  | k, m + 1, h => by
    rw [← Nat.add_assoc, wordsTo_succ, wordsTo_zero h]
    have : v.testBit (k + m) = false := by
      rw [Nat.testBit_eq_decide_div_mod_eq, Nat.pow_add, ← Nat.div_div_eq_div_mul, h]; simp
    simp [this]
theorem flagName_len : ∀ i, i < 32 → (flagName i).length ≤ 20 := by decide +kernel
theorem hex_len : ∀ i, i < 32 → (baseText "0x" 16 ((2 ^ i : Nat) : Int)).length ≤ 20 := by decide +kernel
theorem wordsTo_len (v : Nat) : ∀ k, k ≤ 32 → (wordsTo v k).length ≤ k ∧ ((wordsTo v k).map (·.length)).sum ≤ 20 * k
  | 0, _ => ⟨Nat.le_refl _, Nat.le_refl _⟩
  | k + 1, hk => by
    have ih := wordsTo_len v k (by first | decide | (exact Nat.le_of_lt ‹_›))
    have h20 := flagName_len k (by first | decide | assumption)
    rw [wordsTo_succ]
    cases h : v.testBit k <;> simp <;> lia
theorem strs_snoc {vs : List Value} {ys : List Str} (h : StrsAre vs ys) (y : Str) (t : Tok) : StrsAre (vs ++ [.str y t]) (ys ++ [y]) := by
  induction h with
  | nil => exact .cons y t .nil
  | cons z u _ ih => exact .cons z u ih
set_option maxHeartbeats 2000000
section
variable {prog : Program} {w : World} {mg mb : Str → Option Value} {A : Around} {E : Value → Shared → Prop} {s : Shared} {Q : Value → Shared → Prop}
theorem rGet84 {B : Bas} {L : Addr} {vars : List (Str × Value)} {l : List (Addr × Obj)} {i : Nat} {tk th : Tok} (S : St B L s.heap vars l) (X : Bs w mg mb B) (hi : i < 32)
    (k : ∀ t, Q (.str (flagName i) t) { s with toks := s.toks + 1 }) :
    wpAny (model prog w) A (call (.builtin "dict.get") [.ref 84, .int ((2 ^ i : Nat) : Int) tk, .str (baseText "0x" 16 ((2 ^ i : Nat) : Int)) th]) Q E s := by
  obtain ⟨f, hm, f1, f2⟩ := flags_map (prog := prog) (X.at S.keep).K
  refine call_meetsIn F.slot_dict_get hm.typeIs F.entry_dict_get (F.args_dict_get_3 _ _ _) (meets_dict_get_default (intKind prog w) 84 (k := ((2 ^ i : Nat) : Int)) (by simp [intKind, Value.isInt]) rfl _) ⟨f, hm, ?_⟩
  by_cases h10 : i < 10
  · obtain ⟨t, e⟩ := f1 i h10
    rw [e]; exact k t
  · rw [f2 i (by first | decide | lia) hi]
    have e : flagName i = baseText "0x" 16 ((2 ^ i : Nat) : Int) := by
      match i, h10 with
      | i + 10, _ => rfl
    have := k th
    rw [e] at this
    exact this
theorem pretty_flags_at {v : Nat} {x : Int} {tx : Tok} (X : Bs w mg mb (hid [] s.heap)) (rm : Room A 1 3) (hx : x = v) (h0 : 0 < v) (h1 : v < 2 ^ 13)
    (k : ∀ t h' tk', Ext s.heap h' → Q (.str (Txt.join ", " (wordsTo v 13)) t) (sh s h' tk')) :
    wpAny (model prog w) A (call (.ref 91) [.int x tx]) Q E s := by
  refine' enter0 (d := 0) (u := 0) (binds := [("flags", .int x tx)]) X rm rfl rfl (fun Y => BindsTo.peek Y fun _ => rfl) ?_ (by decide) (locs rfl)
  intro L h₁ t₁ env A' K E₀ hR hN hE S rm
  subst hE
  have S := S.lets (vars' := [("flags", .int x tx)]) ⟨rfl, trivial⟩
  refine wpAny_execs_cons (wpAny_Assign_Name ?_)
  refine rList0 S fun D h' S => ?_
  refine rSt S fun h₂ S => ?_
  refine wpAny_execs_cons (wpAny_For ?_)
  refine rCallT S X (n_range _) boot_range ?_
  refine wpAny_items_cons (wpAny_Constant_int (wpAny_items_nil ?_))
  refine rRange1 S fun r tr ur vr h₃ tk₃ S => ?_
  refine rForR (n := 32) rfl rm.hh (fun i vars l => ∃ vs n t, vars = ([("flags", .int (topBits v i : Nat) t), ("names", .ref D)] : List (Str × Value)) ∧ l = [(D, listOf vs.toArray n)] ∧ StrsAre vs (wordsTo v i) ∧ v / 2 ^ i ≠ 0) (fx := [])
    (S.drop1.lets (vars' := [("flags", .int (topBits v 0 : Nat) tx), ("names", .ref D)]) ⟨by rw [hx]; simp [topBits]; rfl, rfl, trivial⟩) S.get (range_small (by first | decide | omega) (by first | decide | omega) (by first | decide | omega) (by first | decide | omega)) (range_size1 rfl) ⟨[], _, _, rfl, rfl, .nil, by simpa using Nat.ne_of_gt h0⟩ ?_ ?_
  · rintro i tv _ _ rest h t E' hi ⟨vs, n, tf, rfl, rfl, hvs, hnz⟩ _ S K hK hB hV
    refine wpAny_assign_Name (rSt S fun h₄ S => ?_)
    refine wpAny_execs_cons (wpAny_Assign_Name ?_)
    refine wpAny_BinOp (wpAny_Constant_int ?_)
    refine rLoc S rfl ?_
    refine oShl (n := i) (c := ((2 ^ i : Nat) : Int)) (by first | decide | lia) (by first | decide | (exact Nat.le_of_lt (Nat.lt_of_lt_of_le (by assumption) (by decide)))) (by decide) (by push_cast; lia) ?_
    refine rSt S fun h₅ S => ?_
    have h13 : i < 13 := by
      refine Nat.lt_of_not_le fun q => hnz (Nat.div_eq_of_lt (Nat.lt_of_lt_of_le h1 (Nat.pow_le_pow_right (by decide) q)))
    have ea : Builtin.bitAnd (topBits v i : Nat) ((2 ^ i : Nat) : Int) = ((if v.testBit i then 2 ^ i else 0 : Nat) : Int) := by
      rw [bitAnd_pp (Int.natCast_nonneg _) (Int.natCast_nonneg _), Int.toNat_natCast, Int.toNat_natCast, top_and]
    refine wpAny_execs_cons (wpAny_If (wpAny_isTrue_value (wpAny_BinOp ?_)))
    refine rLoc S rfl ?_
    refine rLoc S rfl ?_
    refine oAnd ea ?_
    refine PyProof.Rows.truthy_int ?_
    cases hb : v.testBit i with
    | false =>
      refine wpAny_execs_nil ?_
      refine wpAny_execs_nil ?_
      refine hK h₅ _ _ _ ⟨vs, n, tf, rfl, rfl, ?_, ?_⟩ (S.lets ⟨?_, rfl, trivial⟩)
      · rw [wordsTo_succ, hb]; simpa using hvs
      · intro q
        rw [Nat.pow_succ, ← Nat.div_div_eq_div_mul] at q
        have := Nat.testBit_eq_decide_div_mod_eq (x := v) (i := i)
        rw [hb] at this
        have := of_decide_eq_false this.symm
        lia
      · rw [← top_succ_f hb]; rfl
    | true =>
      have hp : ((2 ^ i : Nat) : Int) ≠ 0 := Int.natCast_ne_zero.mpr (Nat.ne_of_gt (Nat.two_pow_pos i))
      refine ifB (fun _ => ?_) fun q => absurd (show ((2 ^ i : Nat) : Int) = 0 by simpa using q) hp
      refine wpAny_execs_cons (wpAny_Expr ?_)
      refine rLM PySem.F.slot_list_append PySem.F.type_list_append ?_
      refine rLoc S rfl ⟨_, _, _, rfl, S.get, ?_⟩
      refine wpAny_items_cons ?_
      refine MethodCall_ (rGlob S X (g_FLAGS _) ?_)
      obtain ⟨f, hm, _⟩ := flags_map (prog := prog) (h := h₅) (X.at S.keep).K
      refine getMethod_builtin hm.typeIs F.plainAttrs_dict F.slot_dict_get F.type_dict_get hm.noDict ?_
      refine callWith_method1 ?_
      refine wpAny_items_cons (rLoc S rfl ?_)
      refine wpAny_items_cons ?_
      refine rCallB S X (n_hex _) boot_hex ?_
      refine wpAny_items_cons (rLoc S rfl (wpAny_items_nil ?_))
      refine P.hex_of_int ?_ (by have := hex_len i hi; rw [sizeLine_eq]; (exact Nat.le_trans (by assumption) (by decide)))
      refine wpAny_items_nil ?_
      refine rGet84 S X hi fun tg => ?_
      refine wpAny_items_nil ?_
      refine rAppend S (by rw [List.size_toArray, (strs_get hvs).1, sizeLine_eq]; have := (wordsTo_len v i (by first | decide | (exact Nat.le_of_lt ‹_›))).1; lia) fun h₆ n₆ S => ?_
      rw [List.push_toArray] at S
      have hvs' : StrsAre (vs ++ [.str (flagName i) tg]) (wordsTo v (i + 1)) := by
        rw [wordsTo_succ, hb]; exact strs_snoc hvs _ _
      refine wpAny_execs_cons (wpAny_AugAssign_Name ?_)
      refine rLocN S rfl ?_
      refine rLoc S rfl ?_
      have ex : Builtin.bitXor (topBits v i : Nat) ((2 ^ i : Nat) : Int) = (topBits v (i + 1) : Nat) := by
        have e1 : Builtin.bitAnd (topBits v i : Nat) ((2 ^ i : Nat) : Int) = ((2 ^ i : Nat) : Int) := by rw [ea, hb]; rfl
        rw [xor_sub e1]
        have e2 := top_succ_t hb
        generalize topBits v i = p at *
        generalize topBits v (i + 1) = q at *
        generalize 2 ^ i = r at *
        lia
      refine oIXor ex ?_
      refine rSt S fun h₇ S => ?_
      refine wpAny_execs_cons (wpAny_If (wpAny_isTrue_Not (wpAny_isTrue_value ?_)))
      refine rLoc S rfl ?_
      refine PyProof.Rows.truthy_int ?_
      refine ifB (fun hz => ?_) fun hz => ?_
      · have hz0 : topBits v (i + 1) = 0 := by
          simp at hz; omega
        have hd0 : v / 2 ^ (i + 1) = 0 := by
          unfold topBits at hz0
          rcases Nat.mul_eq_zero.mp hz0 with q | q
          · exact q
          · exact absurd q (Nat.ne_of_gt (Nat.two_pow_pos _))
        refine wpAny_execs_cons (wpAny_Break (hB _ ?_))
        refine wpAny_execs_cons (wpAny_Return_some ?_)
        refine rStrM (fun x t s R h => GM.join h) ?_
        refine wpAny_Constant_str ⟨_, _, rfl, ?_⟩
        refine wpAny_items_cons (rLoc S rfl (wpAny_items_nil ?_))
        have wl := wordsTo_len v (i + 1) (by first | decide | omega)
        have ew : wordsTo v 13 = wordsTo v (i + 1) := by
          have := wordsTo_zero (m := 13 - (i + 1)) hd0
          rw [← this]; congr 1; omega
        have hvs' := ew.symm ▸ hvs'
        have wl := wordsTo_len v 13 (by first | decide | omega)
        exact join_list (isL S.get) hvs' (by have : (Str.ofString ", ").length = 2 := by decide
                                             rw [this]; omega) fun t' k' => hR _ _ (k _ _ _ S.eff.ext)
      · refine wpAny_execs_nil (wpAny_execs_nil (wpAny_execs_nil ?_))
        refine hK h₇ _ _ _ ⟨_, _, _, rfl, rfl, hvs', ?_⟩ (S.lets ⟨rfl, rfl, trivial⟩)
        intro q
        simp [topBits, q] at hz
  · rintro _ _ h t E' ⟨vs, n, tf, rfl, rfl, hvs, hnz⟩ S
    exact absurd (Nat.div_eq_of_lt (Nat.lt_of_lt_of_le h1 (by decide))) hnz
end
end Mine

/-! part Fw10 -/
namespace Mine
/-! ## comprehensions: the whole -/
abbrev tests (ifs : List Expr) (cenv : Env) : Sem Bool := forIn ifs true fun c r => if r = true then do let ok ← isTrue c cenv (eval c cenv); pure (ForInStep.yield ok) else pure (ForInStep.yield r)
/-- what a comprehension comes to, once its iterator stands -/
abbrev CompAt (prog : Program) (w : World) (A : Around) (E : Value → Shared → Prop) (env : Env) (e : Expr) (scope : Scope) (cl : List (Str × Addr)) (use : Option (Value → Sem Unit)) (Q : Value → Shared → Prop) (it : Value) (s₂ : Shared) : Prop :=
  wpAny (model prog w) A (newList []) (fun acc s₃ => wpAny (model prog w) A (newFunctionEnv scope env.globals cl [] env.qual none .none (some env)) (fun cenv s₄ =>
    codeAny (model prog w) A (.compStart e 0 it acc { cenv with scope := relabel scope env }) (compPost (model prog w) A E use Q acc cenv.locals) s₄) E s₃) E s₂
section
variable {prog : Program} {w : World} {A : Around} {E : Value → Shared → Prop} {s : Shared} {env : Env} {B : Bas} {L : Addr} {vars : List (Str × Value)} {lo : List (Addr × Obj)} {Q : Value → Shared → Prop}
theorem rLC {elt target iter : Expr} {ifs : List Expr} {scope : Scope} {cl : List (Str × Addr)} {pos : Pos} (hclos : closureFor scope env = pure cl) (hkind : scope.kind = .function)
    (hnames : ∀ x ∈ scope.names, x.2 = .local → scope.names.lookup x.1 = some .local)
    (h : wpAny (model prog w) A (eval iter env) (fun x s₁ => wpAny (model prog w) A (pyIter x) (CompAt prog w A E env (.ListComp elt [⟨target, iter, ifs, 0⟩] scope pos) scope cl none Q) E s₁) E s)
    (hs : ∀ x, foldedSetIterable iter env x = pure x := by intro _; rfl) : wpAny (model prog w) A (eval (.ListComp elt [⟨target, iter, ifs, 0⟩] scope pos) env) Q E s := by
  rw [eval_ListComp]
  exact wpAny_comprehension_free (use := none) rfl hs hclos hkind hnames h
theorem rLCA {elt target iter : Expr} {ifs : List Expr} {scope : Scope} {cl : List (Str × Addr)} {pos py spos : Pos} {y : Str} {R : Flow → Shared → Prop} (hclos : closureFor scope env = pure cl) (hkind : scope.kind = .function)
    (hnames : ∀ x ∈ scope.names, x.2 = .local → scope.names.lookup x.1 = some .local)
    (h : wpAny (model prog w) A (eval iter env) (fun x s₁ => wpAny (model prog w) A (pyIter x) (CompAt prog w A E env (.ListComp elt [⟨target, iter, ifs, 0⟩] scope pos) scope cl (some (assign (.Name y py) env)) (fun _ s' => R .next s')) E s₁) E s)
    (hsw : swapsWith (.ListComp elt [⟨target, iter, ifs, 0⟩] scope pos) (some (.Name y py)) spos.line env = pure true := by rfl)
    (hs : ∀ x, foldedSetIterable iter env x = pure x := by intro _; rfl) : wpAny (model prog w) A (exec (.Assign [.Name y py] (.ListComp elt [⟨target, iter, ifs, 0⟩] scope pos) spos) env) R E s := by
  rw [exec_Assign_Name_used _ _ _ _ hsw]
  refine wpAny_bind (wpAny_standAt (wpAny_bind ?_))
  show wpAny _ A (do let _ ← comprehension (.ListComp elt [⟨target, iter, ifs, 0⟩] scope pos) scope env _ (newList []) false (eval iter env) (some (assign (.Name y py) env))) _ _ s
  exact wpAny_bind (wpAny_mono (wpAny_comprehension_free (use := some (assign (.Name y py) env)) (Q := fun _ s' => R .next s') rfl hs hclos hkind hnames h) (fun _ s' hq => wpAny_pure (wpAny_pure hq)) fun _ _ e => e)

/-- the end of a comprehension, seen from the frame around it -/
structure CEnd (B : Bas) (L : Addr) (vars : List (Str × Value)) (l : List (Addr × Obj)) (C : Addr) (h : Heap) : Prop where
  ns : ∃ m, h.Ns C m
  ne : C ≠ L
  dead : B C = none
  off : ∀ p ∈ l, p.1 ≠ C
  S : St B L h vars l
theorem CEnd.post {l : List (Addr × Obj)} {C : Addr} {h : Heap} {t : Nat} {acc : Value} (F : CEnd B L vars l C h) (k : ∀ h', St B L h' vars l → Q acc (sh s h' t)) :
    compPost (model prog w) A E none Q acc C (.ok .next) (sh s h t) := by
  obtain ⟨m, n⟩ := F.ns
  exact ⟨m, n, fun h' hs => k h' (F.S.letC hs F.ne F.dead F.off)⟩
theorem CEnd.assign {l : List (Addr × Obj)} {C : Addr} {h : Heap} {t : Nat} {acc : Value} {y : Str} {py : Pos} (F : CEnd B L vars l C h) (k : ∀ h' tk, St B L h' ((y, acc) :: vars) l → Q .none (sh s h' tk))
    (hL : env.locals = L := by rfl) (hk : env.scope.kind = .function := by rfl) (hl : env.kindOf y = some .local := by rfl) :
    compPost (model prog w) A E (some (PySem.assign (.Name y py) env)) Q acc C (.ok .next) (sh s h t) := by
  obtain ⟨m, n⟩ := F.ns
  obtain ⟨mL, nL, fL⟩ := F.S.ns
  subst hL
  refine wpAny_assign_Name (wpAny_storeName_local hl nL (fun h' hn hs => ?_) (by rw [hk]; rfl))
  refine ⟨m, n.sameBut hs F.ne, fun h'' hs'' => ?_⟩
  exact k _ _ ((F.S.set fL hn hs).letC hs'' F.ne F.dead F.off)

variable {use : Option (Value → Sem Unit)}
theorem rCompL {elt target iter : Expr} {ifs : List Expr} {scope : Scope} {cl : List (Str × Addr)} {pos : Pos} {a : Addr} {its : Array Value} {na : Nat} {x : Str} {px : Pos} (ht : target = .Name x px) (hh : A.handled = none)
    (J : Nat → List Value → List (Addr × Obj) → Prop) (S : St B L s.heap vars lo) (ha : s.heap.get? a = some (listOf its na)) (hn : its.size ≤ 1000) (h0 : J 0 [] []) (hcell : ∀ y ∈ scope.names, y.2 ≠ .cell) (hkind : scope.kind = .function)
    (turn : ∀ B' i v acc l rest C h t E', (∀ b o, s.heap.get? b = some o → B' b = some o) → its[i]? = some v → J i acc l → St B' C h [] (l ++ rest) →
      ∀ (Kt : Value → Shared → Prop) (Kf : Shared → Prop), (∀ x h' t' l', J (i + 1) (acc ++ [x]) l' → St B' C h' [] (l' ++ rest) → Kt x (sh s h' t')) → (∀ h' t' l', J (i + 1) acc l' → St B' C h' [] (l' ++ rest) → Kf (sh s h' t')) → wpAny (model prog w) A (assign target (compEnvC scope cl C env) v) (fun _ s₂ => wpAny (model prog w) A (tests ifs (compEnvC scope cl C env)) (fun ok s₃ =>
          if ok = true then wpAny (model prog w) A (eval elt (compEnvC scope cl C env)) Kt E' s₃ else Kf s₃) E' s₂) E' (sh s h t))
    (done : ∀ D C acc l h t n', J its.size acc l → CEnd B L vars ((D, listOf acc.toArray n') :: (l ++ lo)) C h → compPost (model prog w) A E use Q (.ref D) C (.ok .next) (sh s h t)) :
    wpAny (model prog w) A (pyIter (.ref a)) (CompAt prog w A E env (.ListComp elt [⟨target, iter, ifs, 0⟩] scope pos) scope cl use Q) E s := by
  subst ht
  refine wpAny_pyIter_list (isL ha) ?_
  have hI : a ≠ s.heap.objs.size := Nat.ne_of_lt (Heap.lt_size ha)
  refine comp_block (s := { s with heap := s.heap.push (itL a 0) }) (ob := [(s.heap.objs.size, itL a 0)]) (Itr.list hh s.heap.objs.size a hI its) J hn (fun b hb => ?_) rfl h0 (St.newIt (l := lo) (fx := []) (by rw [List.append_nil]; exact S)) ?_ hcell hkind
    (fun i v acc l rest C h t E' hi hJ hP S' => turn _ i v acc l rest C h t E' (fun b o e => hid_some.mpr ⟨fun q => ?_, Heap.get?_push_of_some _ e⟩) hP hJ S') (fun D C acc l h t n' hJ a1 a2 a3 a4 a5 => done D C acc l h t n' hJ ⟨a1, a2, a3, a4, a5⟩)
  · rcases List.mem_cons.mp hb with rfl | hb
    · exact ⟨_, Heap.get?_push_size _ rfl⟩
    · rw [List.mem_singleton.mp hb]; exact ⟨_, Heap.get?_push_of_some _ ha⟩
  · exact ⟨⟨_, Heap.get?_push_size _ rfl, rfl, rfl⟩, (isL ha).push _⟩
  · have := Heap.lt_size e
    rw [List.mem_singleton.mp q] at this
    exact Nat.lt_irrefl _ this
theorem rCompR {elt target iter : Expr} {ifs : List Expr} {scope : Scope} {cl : List (Str × Addr)} {pos : Pos} {r : Addr} {a b c : Int} {t₀ u₀ v₀ : Tok} {n : Nat} {x : Str} {px : Pos} (ht : target = .Name x px) (hh : A.handled = none)
    (J : Nat → List Value → List (Addr × Obj) → Prop) (S : St B L s.heap vars lo) (hr : IsRange s.heap r a b c t₀ u₀ v₀) (hsm : Builtin.Range.small a b c = true) (hrn : Builtin.Range.rangeSize a b c = n) (hn : n ≤ 1000) (h0 : J 0 [] [])
    (hcell : ∀ y ∈ scope.names, y.2 ≠ .cell) (hkind : scope.kind = .function)
    (turn : ∀ B' (i : Nat) tv acc l rest C h t E', (∀ b o, s.heap.get? b = some o → B' b = some o) → i < n → J i acc l → St B' C h [] (l ++ rest) →
      ∀ (Kt : Value → Shared → Prop) (Kf : Shared → Prop), (∀ x h' t' l', J (i + 1) (acc ++ [x]) l' → St B' C h' [] (l' ++ rest) → Kt x (sh s h' t')) → (∀ h' t' l', J (i + 1) acc l' → St B' C h' [] (l' ++ rest) → Kf (sh s h' t')) → wpAny (model prog w) A (assign target (compEnvC scope cl C env) (.int (a + i * c) tv)) (fun _ s₂ => wpAny (model prog w) A (tests ifs (compEnvC scope cl C env)) (fun ok s₃ =>
          if ok = true then wpAny (model prog w) A (eval elt (compEnvC scope cl C env)) Kt E' s₃ else Kf s₃) E' s₂) E' (sh s h t))
    (done : ∀ D C acc l h t n', J n acc l → CEnd B L vars ((D, listOf acc.toArray n') :: (l ++ lo)) C h → compPost (model prog w) A E use Q (.ref D) C (.ok .next) (sh s h t)) :
    wpAny (model prog w) A (pyIter (.ref r)) (CompAt prog w A E env (.ListComp elt [⟨target, iter, ifs, 0⟩] scope pos) scope cl use Q) E s := by
  subst ht
  refine wpAny_pyIter_range hr hsm ?_
  rw [hrn]
  refine comp_block (s := { s with heap := s.heap.push { cls := .type "range_iterator", data := .fields #[rawInt a, rawInt n, rawInt c] } }) (ob := [(s.heap.objs.size, { cls := .type "range_iterator", data := .fields #[rawInt a, rawInt n, rawInt c] })]) (Itr.range hh s.heap.objs.size a c n) J hn (fun b hb => ?_) rfl h0 (St.newIt (l := lo) (fx := []) (by rw [List.append_nil]; exact S)) ?_ hcell hkind
    (fun i v acc l rest C h t E' hi hJ hP S' => ?_) (fun D C acc l h t n' hJ a1 a2 a3 a4 a5 => done D C acc l h t n' hJ ⟨a1, a2, a3, a4, a5⟩)
  · rw [List.mem_singleton.mp hb]; exact ⟨_, Heap.get?_push_size _ rfl⟩
  · have e := Heap.get?_push_size s.heap (o := { cls := .type "range_iterator", data := .fields #[rawInt a, rawInt n, rawInt c] }) rfl
    show _ = _
    rw [e]
    simp
  · obtain ⟨tv, rfl⟩ := hP
    refine turn _ i tv acc l rest C h t E' (fun b o e => hid_some.mpr ⟨fun q => ?_, Heap.get?_push_of_some _ e⟩) hi hJ S'
    have := Heap.lt_size e
    rw [List.mem_singleton.mp q] at this
    exact Nat.lt_irrefl _ this
end
/-! ## names of cells -/
section
variable {M : Model} {A : Around} {E : Value → Shared → Prop} {s : Shared} {env : Env} {Q : Value → Shared → Prop}
theorem rCell {x : Str} {pos : Pos} {c : Addr} {o : Obj} {v : Value} (hc : env.cells.lookup x = some c) (ho : s.heap.get? c = some o) (hd' : o.data = .cell (some v)) (k : Q v s)
    (hk : env.scope.kind = .function := by rfl) (hl : env.kindOf x = some .cell := by rfl) (hd : (x == ("__debug__" : Str)) = false := by rfl) : wpAny M A (eval (.Name x pos) env) Q E s :=
  wpAny_Name (wpAny_loadName_cell hk hl hc ⟨o, ho, hd'⟩ k) hd
theorem rFree {x : Str} {pos : Pos} {c : Addr} {o : Obj} {v : Value} (hc : env.cells.lookup x = some c) (ho : s.heap.get? c = some o) (hd' : o.data = .cell (some v)) (k : Q v s)
    (hk : env.scope.kind = .function := by rfl) (hl : env.kindOf x = some .free := by rfl) (hd : (x == ("__debug__" : Str)) = false := by rfl) (hn : (x == ("__classdict__" : Str)) = false := by rfl) : wpAny M A (eval (.Name x pos) env) Q E s :=
  wpAny_Name (wpAny_loadName_free hk hl hc ⟨o, ho, hd'⟩ k hn) hd
theorem rCellSt {B : Bas} {L : Addr} {vars : List (Str × Value)} {l : List (Addr × Obj)} {x : Str} {c : Addr} {o : Obj} {v : Value} {v₀ : Option Value} {R : Unit → Shared → Prop} (S : St B L s.heap vars ((c, o) :: l)) (hc : env.cells.lookup x = some c) (hd' : o.data = .cell v₀)
    (k : ∀ o' h', o'.data = .cell (some v) → St B L h' vars ((c, o') :: l) → R () { s with heap := h' })
    (hk : env.scope.kind = .function := by rfl) (hl : env.kindOf x = some .cell := by rfl) : wpAny M A (storeName env x v) R E s := by
  refine wpAny_storeName_cell hk hl hc ⟨o, S.get, hd'⟩ fun h' hcell hs => ?_
  obtain ⟨o', e, d⟩ := hcell
  exact k o' h' d (S.upd (SameBut.eff hs) e)
end
end Mine

/-! part Fw11 -/
namespace Mine
def AllM (m : Str → Option Value) : List (Str × Value) → Prop
  | [] => True
  | p :: r => m p.1 = some p.2 ∧ AllM m r
theorem AllM.mem {m : Str → Option Value} : ∀ {vars : List (Str × Value)}, AllM m vars → ∀ x v, vars.lookup x = some v → m x = some v
  | (y, u) :: r, h, x, v, e => by
    rw [List.lookup_cons] at e
    cases q : x == y with
    | true => rw [q] at e; cases e; rw [eq_of_beq q]; exact h.1
    | false => rw [q] at e; exact AllM.mem h.2 x v e
theorem cellsAre_fst {cm : Str → Option Value} : ∀ {cs : List (Str × Addr)} {cells : List (Addr × Obj)}, CellsAre cm cs cells → cells.map (·.1) = cs.map (·.2)
  | _, _, .nil => rfl
  | _, _, .cons _ r => by simp [cellsAre_fst r]
section
variable {prog : Program} {w : World} {mg mb : Str → Option Value} {A : Around} {E : Value → Shared → Prop} {s : Shared}
/-- into a def of the text that has cells -/
theorem enterC {name qual : Str} {params : Arguments} {body : List Stmt} {scope : Scope} {dV kV doc pm cdv ct oc : Value} {an od : Option Addr} {osl : Array (Option Value)} {f : Addr} {args : List Value} {binds vars : List (Str × Value)}
    {Q : Value → Shared → Prop} (M : List Addr) (own : List (Addr × Obj)) {d u : Nat} (X : Bs w mg mb (hid M s.heap)) (rm : Room A (d + 1) (u + 3))
    (ho : (hd.heap_39 w.params).lookup f = some ⟨oc, od, .func (fnX name qual params body scope [] dV kV doc pm an cdv ct), osl⟩)
    (hcd : codeIn (hd.heap_39 w.params) cdv qual = true)
    (hbind : (hd.heap_39 w.params).In s.heap → BindsTo s (fnX name qual params body scope [] dV kV doc pm an cdv ct) ⟨args, []⟩ binds)
    (hown : ∀ p ∈ own, s.heap.get? p.1 = some p.2) (hM : ∀ p ∈ own, p.1 ∈ M) (nd : (own.map (·.1)).Nodup)
    (hvars : ∀ L, AllM (bindL (envOfC qual scope L f cdv).kindOf binds fun _ => none) vars)
    (h : ∀ L h₁ t₁ env cells (A' : Around) (K : Flow → Shared → Prop) (E' : Value → Shared → Prop), (∀ v s', Q v s' → K (.ret v) s') → (∀ s', Q .none s' → K .next s') → env = envOfC qual scope L f cdv → CellsAre (bindC (envOfC qual scope L f cdv).kindOf binds fun _ => none) (cellsFrom (L + 1) scope.names []) cells → St (hid M s.heap) L h₁ vars (cells ++ own) → Room A' d u → wpAny (model prog w) A' (execs body env) K E' (sh s h₁ t₁))
    (hkind : (binds.all fun y => scope.names.lookup y.1 == some .local || scope.names.lookup y.1 == some .cell) = true)
    (hnd : ((cellsFrom 0 scope.names []).map (·.1)).Nodup)
    (hco : scope.isCoroutine = false := by rfl) (hgen : scope.isGenerator = false := by rfl) (hk : scope.kind = .function := by rfl) :
    wpAny (model prog w) A (call (.ref f) args) Q E s := by
  have Y : Base w mg mb s.heap := X.at fun b o e => (hid_some.mp e).2
  refine wpAny_call (codeAny_call_function (fd := fnX name qual params body scope [] dV kV doc pm an cdv ct) (by have := rm.dep; lia) (Y.K _ _ ho) rfl hco hgen rfl (codeRec_of Y.K hcd) (hbind Y.K _ _ _ _ ?_))
  refine wpAny_newFunctionEnv_cells hk (kindsX hkind _) fun env' he s' x => ?_
  subst he
  refine ⟨(Y.lim).keeps x.toInCall.keep, codeAny_func ?_⟩
  obtain ⟨h₁, tk, rfl, _⟩ := x.done
  have hk₁ := x.toInCall.keep
  obtain ⟨cells, NC, CA⟩ := Cl.news (h₀ := s.heap) (Nat.le_refl _) fun n c hm => ⟨x.cell n c (lookup_of_mem_nodup (cellsFrom_names scope.names 0 (s.heap.objs.size + 1) [] [] rfl ▸ hnd) hm), x.above n c hm⟩
  refine h s.heap.objs.size h₁ tk _ cells _ _ _ (fun _ _ q => q) (fun _ q => q) rfl CA ?_ (rm.deeper _)
  have e1 := cellsAre_fst CA
  have fresh : ∀ p ∈ cells, hid M s.heap p.1 = none := fun p hp => by
    cases e : hid M s.heap p.1 with
    | none => rfl
    | some o => have := (hid_some.mp e).2; rw [(NC p hp).2.2] at this; cases this
  refine ⟨⟨_, x.toInCall.ns, (hvars _).mem⟩, fun b o e => hk₁ b o (hid_some.mp e).2, fun p hp => ?_, fun p hp => ?_, fun p hp => ?_, ?_, ?_⟩
  · rcases List.mem_append.mp hp with hp | hp
    · exact (NC p hp).1
    · exact hk₁ _ _ (hown p hp)
  · rcases List.mem_append.mp hp with hp | hp
    · exact fresh p hp
    · exact hid_mem (hM p hp)
  · rcases List.mem_append.mp hp with hp | hp
    · exact (NC p hp).2.1
    · exact Nat.ne_of_lt (Heap.lt_size (hown p hp))
  · cases e : hid M s.heap s.heap.objs.size with
    | none => rfl
    | some o => exact absurd (Heap.lt_size (hid_some.mp e).2) (Nat.lt_irrefl _)
  · rw [List.map_append]
    refine List.nodup_append.mpr ⟨?_, nd, fun a ha b hb e => ?_⟩
    · rw [e1]
      exact List.Pairwise.map _ (fun _ _ h => h) x.apart
    · obtain ⟨p, hp, rfl⟩ := List.mem_map.mp ha
      obtain ⟨q, hq, rfl⟩ := List.mem_map.mp hb
      have h1 := hown q hq
      rw [← e, (NC p hp).2.2] at h1; cases h1
end
end Mine

/-! part Fw12 -/
namespace Mine
abbrev dctO : Obj := { cls := .type "dict", data := .dict #[] }
abbrev celO : Obj := { cls := .type "cell", data := .cell none }
section
variable {prog : Program} {w : World} {A : Around} {E : Value → Shared → Prop} {s : Shared} {env : Env} {B : Bas} {L : Addr} {vars : List (Str × Value)} {lo ob : List (Addr × Obj)}
/-- the block of a comprehension with one cell of its own, from its iterator on -/
theorem comp_block1 {elt target iter : Expr} {ifs : List Expr} {scope : Scope} {cl : List (Str × Addr)} {pos : Pos} {I : Addr} {fp wr : List Addr} {n : Nat} {P : Nat → Value → Heap → Prop} {Z : Nat → Heap → Prop} {RR : Value → Addr → Result → Shared → Prop}
    {cellsOf : Addr → List (Str × Addr)} (W : Itr prog w A target I fp wr n P Z) (J : Nat → List Value → List (Addr × Obj) → Addr → Prop) (hn : n ≤ 1000)
    (hfp : ∀ b ∈ fp, ∃ o, s.heap.get? b = some o) (hob : ob.map (·.1) = wr) (h0 : ∀ c, J 0 [] [(c, celO)] c) (S : St B L s.heap vars (lo ++ ob)) (hz : Z 0 s.heap)
    (hnew : newFunctionEnv scope env.globals cl [] env.qual none .none (some env) = (alloc dctO >>= fun C => alloc celO >>= fun c => pure ({ scope, locals := C, globals := env.globals, cells := cellsOf c, qual := env.qual, func := none, code := env.code, frame := env.frame, builtins := env.builtins } : Env)))
    (turn : ∀ i v acc l rest C c h t E', i < n → J i acc l c → P i v h → St (hid wr s.heap) C h [] (l ++ rest) →
      ∀ (Kt : Value → Shared → Prop) (Kf : Shared → Prop), (∀ x h' t' l', J (i + 1) (acc ++ [x]) l' c → St (hid wr s.heap) C h' [] (l' ++ rest) → Kt x (sh s h' t')) → (∀ h' t' l', J (i + 1) acc l' c → St (hid wr s.heap) C h' [] (l' ++ rest) → Kf (sh s h' t')) → wpAny (model prog w) A (assign target (compEnvC scope (cellsOf c) C env) v) (fun _ s₂ => wpAny (model prog w) A (tests ifs (compEnvC scope (cellsOf c) C env)) (fun ok s₃ =>
          if ok = true then wpAny (model prog w) A (eval elt (compEnvC scope (cellsOf c) C env)) Kt E' s₃ else Kf s₃) E' s₂) E' (sh s h t))
    (hRR : ∀ D C c acc l h t n', J n acc l c → CEnd B L vars ((D, listOf acc.toArray n') :: (l ++ lo)) C h → RR (.ref D) C (.ok .next) (sh s h t)) :
    wpAny (model prog w) A (newList []) (fun acc s₃ => wpAny (model prog w) A (newFunctionEnv scope env.globals cl [] env.qual none .none (some env)) (fun cenv s₄ =>
      codeAny (model prog w) A (.compStart (.ListComp elt [⟨target, iter, ifs, 0⟩] scope pos) 0 (.ref I) acc { cenv with scope := relabel scope env }) (RR acc cenv.locals) s₄) E s₃) E s := by
  refine wpAny_newObj_type ?_
  rw [hnew]
  refine wpAny_bind (wpAny_alloc (wpAny_bind (wpAny_alloc (wpAny_pure ?_))))
  have hz1 : (s.heap.push (listOf #[] 0)).objs.size = s.heap.objs.size + 1 := Heap.size_push ..
  have hz2 : ((s.heap.push (listOf #[] 0)).push dctO).objs.size = s.heap.objs.size + 2 := by rw [Heap.size_push, hz1]
  have old : Ext s.heap (((s.heap.push (listOf #[] 0)).push dctO).push celO) := fun b o e => Heap.get?_push_of_some _ (Heap.get?_push_of_some _ (Heap.get?_push_of_some _ e))
  have gone : ∀ a, s.heap.objs.size ≤ a → hid wr s.heap a = none := fun a ha => by
    cases e : hid wr s.heap a with
    | none => rfl
    | some o => have := (hid_some.mp e).2; rw [Heap.get?_none_of_le ha] at this; cases this
  have obl : ∀ p ∈ ob, p.1 < s.heap.objs.size := fun p hp => Heap.lt_size (S.own p (List.mem_append_right _ hp))
  have hC : (((s.heap.push (listOf #[] 0)).push dctO).push celO).Ns (s.heap.push (listOf #[] 0)).objs.size (fun _ => none) := (Heap.Ns.new (s.heap.push (listOf #[] 0)) (.type "dict")).push _
  have S₁ : St (hid wr s.heap) (s.heap.push (listOf #[] 0)).objs.size (((s.heap.push (listOf #[] 0)).push dctO).push celO) []
      ([(((s.heap.push (listOf #[] 0)).push dctO).objs.size, celO)] ++ ((s.heap.objs.size, listOf #[] 0) :: ob)) := by
    refine ⟨⟨_, hC, fun _ _ e => by cases e⟩, fun b o e => old b o (hid_some.mp e).2, fun p hp => ?_, fun p hp => ?_, fun p hp => ?_, gone _ (by rw [hz1]; exact Nat.le_succ _), ?_⟩
    · rcases List.mem_cons.mp hp with rfl | hp
      · exact Heap.get?_push_size _ rfl
      · rcases List.mem_cons.mp hp with rfl | hp
        · exact Heap.get?_push_of_some _ (Heap.get?_push_of_some _ (Heap.get?_push_size _ rfl))
        · exact old _ _ (S.own p (List.mem_append_right _ hp))
    · rcases List.mem_cons.mp hp with rfl | hp
      · exact gone _ (by rw [hz2]; exact Nat.le_add_right _ _)
      · rcases List.mem_cons.mp hp with rfl | hp
        · exact gone _ (Nat.le_refl _)
        · exact hid_mem (hob ▸ List.mem_map_of_mem hp)
    · rcases List.mem_cons.mp hp with rfl | hp
      · rw [hz1, hz2]; exact Nat.succ_ne_self _
      · rcases List.mem_cons.mp hp with rfl | hp
        · rw [hz1]; exact (Nat.succ_ne_self _).symm
        · have := obl p hp; rw [hz1]; exact Nat.ne_of_lt (Nat.lt_succ_of_lt this)
    · have nd := S.nodup
      rw [List.map_append] at nd
      show (((s.heap.push (listOf #[] 0)).push dctO).objs.size :: s.heap.objs.size :: ob.map (·.1)).Nodup
      rw [hz2]
      refine List.nodup_cons.mpr ⟨fun q => ?_, List.nodup_cons.mpr ⟨fun q => ?_, (List.nodup_append.mp nd).2.1⟩⟩
      · rcases List.mem_cons.mp q with q | q
        · exact absurd q (by have := Nat.lt_add_of_pos_right (n := s.heap.objs.size) (k := 2) (by decide); exact Nat.ne_of_gt this)
        · obtain ⟨p, hp, e⟩ := List.mem_map.mp q
          have := obl p hp
          rw [e] at this; exact absurd (Nat.lt_of_le_of_lt (Nat.le_add_right _ 2) this) (Nat.lt_irrefl _)
      · obtain ⟨p, hp, e⟩ := List.mem_map.mp q
        have := obl p hp
        rw [e] at this; exact Nat.lt_irrefl _ this
  have hz₁ : Z 0 (((s.heap.push (listOf #[] 0)).push dctO).push celO) := W.frame _ _ _ hz fun b _ o e => old b o e
  generalize hCC : (s.heap.push (listOf #[] 0)).objs.size = C at *
  generalize hcc : ((s.heap.push (listOf #[] 0)).push dctO).objs.size = c at *
  generalize (((s.heap.push (listOf #[] 0)).push dctO).push celO) = h₁ at *
  have loop : ∀ s₃ : Shared, s₃ = { s with heap := h₁ } →
      codeAny (model prog w) A (.compLoop (.ListComp elt [⟨target, iter, ifs, 0⟩] scope pos) 0 (.ref I) (.ref s.heap.objs.size) (compEnvC scope (cellsOf c) C env)) (RR (.ref s.heap.objs.size) C) s₃ := by
    rintro s₃ rfl
    refine rCompI W (fun i acc l => J i acc l c) hn (fun b hb => ?_) hob (h0 c) S₁ hz₁ (fun i v acc l rest h t E' hi hJ hP S => turn i v acc l rest C c h t E' hi hJ hP S) fun acc l h t n' hJ offw S₂ => ?_
    · by_cases q : b ∈ wr
      · exact .inl q
      · obtain ⟨o, e⟩ := hfp b hb
        exact .inr ⟨o, hid_some.mpr ⟨q, e⟩⟩
    · have S₂ : St (hid wr s.heap) C h [] ((s.heap.objs.size, listOf acc.toArray n') :: l) := by have := S₂.mid; rwa [List.append_nil] at this
      have off : ∀ p ∈ (s.heap.objs.size, listOf acc.toArray n') :: l, p.1 ∉ ob.map (·.1) := fun p hp q => by
        refine offw p ?_ (hob ▸ q)
        rcases List.mem_cons.mp hp with rfl | hp
        · exact List.mem_append_right _ (.head _)
        · exact List.mem_append_left _ hp
      have S₃ := S.back (hob ▸ S₂) off
      obtain ⟨m, nC, _⟩ := S₂.ns
      refine hRR _ _ c acc l h t n' hJ ⟨⟨m, nC⟩, ?_, ?_, (fun p hp => ?_), S₃⟩
      · have := S.ltL; rw [hz1]; exact Nat.ne_of_gt (Nat.lt_succ_of_lt this)
      · cases e : B C with
        | none => rfl
        | some o => have := Heap.lt_size (S.keep _ _ e); rw [hz1] at this; exact absurd (Nat.lt_of_succ_lt this) (Nat.lt_irrefl _)
      · rw [← List.cons_append] at hp
        rcases List.mem_append.mp hp with hp | hp
        · exact S₂.sepL p hp
        · have := Heap.lt_size (S.own p (List.mem_append_left _ hp)); rw [hz1]; exact Nat.ne_of_lt (Nat.lt_succ_of_lt this)
  exact codeAny_compStart_list (loop _ rfl) (W.self 0 _ _ _ hz₁ (loop _ rfl))
variable {use : Option (Value → Sem Unit)} {Q : Value → Shared → Prop}
theorem rCompL1 {elt target iter : Expr} {ifs : List Expr} {scope : Scope} {cl : List (Str × Addr)} {pos : Pos} {a : Addr} {its : Array Value} {na : Nat} {x : Str} {px : Pos} (cellsOf : Addr → List (Str × Addr)) (ht : target = .Name x px) (hh : A.handled = none)
    (J : Nat → List Value → List (Addr × Obj) → Addr → Prop) (S : St B L s.heap vars lo) (ha : s.heap.get? a = some (listOf its na)) (hn : its.size ≤ 1000) (h0 : ∀ c, J 0 [] [(c, celO)] c)
    (hnew : newFunctionEnv scope env.globals cl [] env.qual none .none (some env) = (alloc dctO >>= fun C => alloc celO >>= fun c => pure ({ scope, locals := C, globals := env.globals, cells := cellsOf c, qual := env.qual, func := none, code := env.code, frame := env.frame, builtins := env.builtins } : Env)))
    (turn : ∀ B' i v acc l rest C c h t E', (∀ b o, s.heap.get? b = some o → B' b = some o) → its[i]? = some v → J i acc l c → St B' C h [] (l ++ rest) →
      ∀ (Kt : Value → Shared → Prop) (Kf : Shared → Prop), (∀ x h' t' l', J (i + 1) (acc ++ [x]) l' c → St B' C h' [] (l' ++ rest) → Kt x (sh s h' t')) → (∀ h' t' l', J (i + 1) acc l' c → St B' C h' [] (l' ++ rest) → Kf (sh s h' t')) → wpAny (model prog w) A (assign target (compEnvC scope (cellsOf c) C env) v) (fun _ s₂ => wpAny (model prog w) A (tests ifs (compEnvC scope (cellsOf c) C env)) (fun ok s₃ =>
          if ok = true then wpAny (model prog w) A (eval elt (compEnvC scope (cellsOf c) C env)) Kt E' s₃ else Kf s₃) E' s₂) E' (sh s h t))
    (done : ∀ D C c acc l h t n', J its.size acc l c → CEnd B L vars ((D, listOf acc.toArray n') :: (l ++ lo)) C h → compPost (model prog w) A E use Q (.ref D) C (.ok .next) (sh s h t)) :
    wpAny (model prog w) A (pyIter (.ref a)) (CompAt prog w A E env (.ListComp elt [⟨target, iter, ifs, 0⟩] scope pos) scope cl use Q) E s := by
  subst ht
  refine wpAny_pyIter_list (isL ha) ?_
  have hI : a ≠ s.heap.objs.size := Nat.ne_of_lt (Heap.lt_size ha)
  refine comp_block1 (s := { s with heap := s.heap.push (itL a 0) }) (ob := [(s.heap.objs.size, itL a 0)]) (cellsOf := cellsOf) (Itr.list hh s.heap.objs.size a hI its) J hn (fun b hb => ?_) rfl h0 (St.newIt (l := lo) (fx := []) (by rw [List.append_nil]; exact S)) ?_ hnew
    (fun i v acc l rest C c h t E' hi hJ hP S' => turn _ i v acc l rest C c h t E' (fun b o e => hid_some.mpr ⟨fun q => ?_, Heap.get?_push_of_some _ e⟩) hP hJ S') (fun D C c acc l h t n' hJ F => done D C c acc l h t n' hJ F)
  · rcases List.mem_cons.mp hb with rfl | hb
    · exact ⟨_, Heap.get?_push_size _ rfl⟩
    · rw [List.mem_singleton.mp hb]; exact ⟨_, Heap.get?_push_of_some _ ha⟩
  · exact ⟨⟨_, Heap.get?_push_size _ rfl, rfl, rfl⟩, (isL ha).push _⟩
  · have := Heap.lt_size e
    rw [List.mem_singleton.mp q] at this
    exact Nat.lt_irrefl _ this
end
end Mine

/-! part Wi -/
namespace Mine
theorem ints_snoc {vs : List Value} {ns : List Int} (h : IntsAre vs ns) (n : Int) (t : Tok) : IntsAre (vs ++ [.int n t]) (ns ++ [n]) := by
  induction h with
  | nil => exact .cons n t .nil
  | cons m u _ ih => exact .cons m u ih
theorem ints_item {vs : List Value} {ns : List Int} (h : IntsAre vs ns) {i : Nat} {v : Value} (e : vs.toArray[i]? = some v) : ∃ n t, ns[i]? = some n ∧ v = .int n t := by
  have e' : vs[i]? = some v := by simpa using e
  induction h generalizing i with
  | nil => simp at e'
  | cons n t _ ih =>
    cases i with
    | zero => simp at e'; exact ⟨n, t, rfl, e'.symm⟩
    | succ i =>
      obtain ⟨m, u, a, b⟩ := ih (i := i) (by simpa using e') (by simpa using e')
      exact ⟨m, u, by simpa using a, b⟩
theorem take_snoc {α : Type} {l : List α} {i : Nat} {x : α} (h : l[i]? = some x) : l.take (i + 1) = l.take i ++ [x] := by
  rw [List.take_add_one, h]; rfl
theorem filter_take_succ {α : Type} (p : α → Bool) {l : List α} {i : Nat} {x : α} (h : l[i]? = some x) : (l.take (i + 1)).filter p = (l.take i).filter p ++ if p x then [x] else [] := by
  rw [take_snoc h, List.filter_append]
  cases hp : p x <;> simp [hp]
set_option maxHeartbeats 2000000
section
variable {prog : Program} {w : World} {mg mb : Str → Option Value} {A : Around} {E : Value → Shared → Prop} {s : Shared} {Q : Value → Shared → Prop}
theorem within_at {a b : Addr} {vs us : List Value} {xs ys : List Int} {na nb : Nat}
    (X : Bs w mg mb (hid [] s.heap)) (rm : Room A 1 100) (ha : s.heap.get? a = some (listOf vs.toArray na)) (hi : IntsAre vs xs) (hb : s.heap.get? b = some (listOf us.toArray nb)) (hj : IntsAre us ys) (hx : xs.length ≤ 1000) (hy : ys.length ≤ 1000)
    (k : ∀ D rs n' h' tk', IntsAre rs (xs.filter fun less => ys.any fun one => Builtin.bitAnd one less == less) → s.heap.get? D = none → h'.get? D = some (listOf rs.toArray n') → Ext s.heap h' → Q (.ref D) (sh s h' tk')) :
    wpAny (model prog w) A (call (.ref 120) [.ref a, .ref b]) Q E s := by
  refine' enterC (d := 0) (u := 97) (binds := [("sets", .ref a), ("family", .ref b)]) (vars := [("sets", .ref a)]) [] [] X rm rfl rfl (fun Y => BindsTo.peek Y fun _ => rfl) (fun _ hp => nomatch hp) (fun _ hp => nomatch hp) List.nodup_nil (fun L => ⟨rfl, trivial⟩) ?_ rfl (by decide +kernel)
  intro L h₁ t₁ env cells A' K E₀ hR hN hE CA S rm
  subst hE
  obtain ⟨o, rfl, ho⟩ := CellsAre.one CA
  have ho : o.data = .cell (some (.ref b)) := ho
  refine wpAny_execs_cons (wpAny_Return_some ?_)
  refine rLC (cl := [("family", L + 1)]) rfl rfl (by decide) ?_
  refine rLoc S rfl ?_
  have hbk : ∀ {h : Heap}, (∀ b o, hid [] s.heap b = some o → h.get? b = some o) → h.get? b = some (listOf us.toArray nb) := fun kp => kp _ _ (hid_some.mpr ⟨List.not_mem_nil, hb⟩)
  have eL : (sh s h₁ t₁).heap.get? (L + 1) = some o := S.own (L + 1, o) (.head _)
  refine rCompL1 (fun c => [("less", c), ("family", L + 1)]) rfl rm.hh (fun i acc l c => ∃ oc v₀, l = [(c, oc)] ∧ oc.data = .cell v₀ ∧ IntsAre acc ((xs.take i).filter fun less => ys.any fun one => Builtin.bitAnd one less == less))
    S (S.keep _ _ (hid_some.mpr ⟨List.not_mem_nil, ha⟩)) (by rw [List.size_toArray, hi.length]; exact hx) (fun c => ⟨_, _, rfl, rfl, .nil⟩) rfl ?_ ?_
  · rintro B' i v acc _ rest C c h t E' kB hv ⟨oc, v₀, rfl, hoc, hacc⟩ S' Kt Kf hT hF
    obtain ⟨less, tl, hless, rfl⟩ := ints_item hi hv
    refine wpAny_assign_Name (rCellSt S' rfl hoc fun o' h' ho' S' => ?_)
    refine wpAny_tests_one (wpAny_isTrue_Compare1 ?_)
    have eo : h'.get? (L + 1) = some o := S'.keep _ _ (kB _ _ eL)
    have eb : h'.get? b = some (listOf us.toArray nb) := S'.keep _ _ (kB _ _ (hbk S.keep))
    refine rLC (cl := [("less", c)]) rfl rfl (by decide) ?_
    refine rCell (c := L + 1) rfl eo ho ?_
    refine rCompL rfl rm.hh (fun i acc l => l = [] ∧ IntsAre acc ((ys.take i).filter fun one => Builtin.bitAnd one less == less)) S' eb (by rw [List.size_toArray, hj.length]; exact hy) ⟨rfl, .nil⟩ (by decide) rfl ?_ ?_
    · rintro B₂ i₂ v₂ acc₂ _ rest₂ C₂ h₂ t₂ E₂ kB₂ hv₂ ⟨rfl, hacc₂⟩ S₂ Kt₂ Kf₂ hT₂ hF₂
      obtain ⟨one, to, hone, rfl⟩ := ints_item hj hv₂
      refine wpAny_assign_Name (rSt S₂ fun h₃ S₂ => ?_)
      have ec : h₃.get? c = some o' := S₂.keep _ _ (kB₂ _ _ S'.get)
      refine wpAny_tests_one (wpAny_isTrue_Compare1 (wpAny_BinOp ?_))
      refine rLoc S₂ rfl ?_
      refine rCell (c := c) rfl ec ho' ?_
      refine and_int ?_
      refine rCell (c := c) rfl ec ho' ?_
      refine eq_int (wpAny_truthy_bool (ifB (fun he => ?_) fun he => ?_))
      · refine rLoc S₂ rfl (hT₂ _ h₃ _ [] ⟨rfl, ?_⟩ (S₂.lets trivial))
        rw [filter_take_succ _ hone, he]; exact ints_snoc hacc₂ _ _
      · refine hF₂ h₃ _ [] ⟨rfl, ?_⟩ (S₂.lets trivial)
        rw [filter_take_succ _ hone, he]; simpa using hacc₂
    · rintro D₂ C₂ acc₂ _ h₂ t₂ n₂ ⟨rfl, hacc₂⟩ F
      rw [List.size_toArray, hj.length, List.take_length] at hacc₂
      refine F.post fun h₃ S₂ => ?_
      refine rList0 S₂ fun D₃ h₄ S₂ => ?_
      have g2 := S₂.own (D₂, listOf acc₂.toArray n₂) (.tail _ (.head _))
      refine ne_intsK (isL g2) hacc₂ (isL (n := 0) S₂.get) .nil (rm.ul (by decide)) ?_
      have S₃ : St B' C h₄ [] ([(c, o')] ++ rest) := S₂.drop1.drop1
      have ec : h₄.get? c = some o' := S₃.get
      have ep : (ys.any fun one => Builtin.bitAnd one less == less) = !decide ((ys.filter fun one => Builtin.bitAnd one less == less) = []) := by
        rw [Bool.eq_iff_iff]
        simp [List.filter_eq_nil_iff]
      refine wpAny_truthy_bool (ifB (fun he => ?_) fun he => ?_)
      · refine rCell (c := c) rfl ec ho' (hT _ h₄ _ [(c, o')] ⟨_, _, rfl, ho', ?_⟩ S₃)
        rw [filter_take_succ _ hless, ep, he]; exact ints_snoc hacc _ _
      · refine hF h₄ _ [(c, o')] ⟨_, _, rfl, ho', ?_⟩ S₃
        rw [filter_take_succ _ hless, ep, he]; simpa using hacc
  · rintro D C c acc l h t n' ⟨oc, v₀, rfl, hoc, hacc⟩ F
    rw [List.size_toArray, hi.length, List.take_length] at hacc
    refine F.post fun h' S => ?_
    refine hR _ _ (k D acc n' h' _ hacc ?_ S.get S.eff.ext)
    have := S.sep _ (.head _)
    cases e : s.heap.get? D with
    | none => rfl
    | some o => rw [hid_some.mpr ⟨List.not_mem_nil, e⟩] at this; cases this
end
end Mine

/-! part Fw13 -/
namespace Mine
section
variable {B : Bas} {L : Addr} {h h' : Heap} {vars : List (Str × Value)} {l ob ob' : List (Addr × Obj)}
/-- what a call leaves: what it may write stands at the head of the row -/
theorem St.call (S : St B L h vars (ob ++ l)) (k : Eff (ob.map (·.1)) h h') (own : ∀ p ∈ ob', h'.get? p.1 = some p.2) (new : ∀ p ∈ ob', p.1 ∈ ob.map (·.1) ∨ h.get? p.1 = none) (nd : (ob'.map (·.1)).Nodup) : St B L h' vars (ob' ++ l) := by
  have nd0 := S.nodup
  rw [List.map_append] at nd0
  have dj := List.nodup_append.mp nd0
  have obm : ∀ a ∈ ob.map (·.1), ∃ o, (a, o) ∈ ob := fun a ha => by
    obtain ⟨p, hp, e⟩ := List.mem_map.mp ha
    exact ⟨p.2, e ▸ hp⟩
  have offB : ∀ b o, B b = some o → b ∉ ob.map (·.1) := fun b o e q => by
    obtain ⟨o', hp⟩ := obm b q
    have := S.sep _ (List.mem_append_left _ hp)
    rw [e] at this; cases this
  have offL : L ∉ ob.map (·.1) := fun q => by
    obtain ⟨o', hp⟩ := obm L q
    exact S.sepL _ (List.mem_append_left _ hp) rfl
  refine ⟨?_, fun b o e => k b o (offB b o e) (S.keep b o e), fun p hp => ?_, fun p hp => ?_, fun p hp => ?_, S.nL, ?_⟩
  · obtain ⟨m, ⟨oL, es, ep, q1, r⟩, f⟩ := S.ns
    exact ⟨m, ⟨oL, es, ep, k _ _ offL q1, r⟩, f⟩
  · rcases List.mem_append.mp hp with hp | hp
    · exact own p hp
    · exact k _ _ (fun q => dj.2.2 _ q _ (List.mem_map_of_mem hp) rfl) (S.own p (List.mem_append_right _ hp))
  · rcases List.mem_append.mp hp with hp | hp
    · rcases new p hp with q | q
      · obtain ⟨o', hp'⟩ := obm _ q
        exact S.sep (p.1, o') (List.mem_append_left _ hp')
      · cases e : B p.1 with
        | none => rfl
        | some o => have := S.keep _ _ e; rw [q] at this; cases this
    · exact S.sep p (List.mem_append_right _ hp)
  · rcases List.mem_append.mp hp with hp | hp
    · rcases new p hp with q | q
      · exact fun e => offL (e ▸ q)
      · intro e
        obtain ⟨m, ⟨oL, es, ep, q1, r⟩, f⟩ := S.ns
        rw [e, q1] at q; cases q
    · exact S.sepL p (List.mem_append_right _ hp)
  · rw [List.map_append]
    refine List.nodup_append.mpr ⟨nd, dj.2.1, fun a ha b hb e => ?_⟩
    subst e
    obtain ⟨p, hp, rfl⟩ := List.mem_map.mp ha
    obtain ⟨q, hq, e⟩ := List.mem_map.mp hb
    rcases new p hp with r | r
    · exact dj.2.2 _ r _ hb rfl
    · have := S.own q (List.mem_append_right _ hq)
      rw [e, r] at this; cases this
theorem St.news (S : St B L h vars l) (k : Ext h h') (own : ∀ p ∈ ob', h'.get? p.1 = some p.2) (new : ∀ p ∈ ob', h.get? p.1 = none) (nd : (ob'.map (·.1)).Nodup) : St B L h' vars (ob' ++ l) :=
  St.call (ob := []) S (k.eff _) own (fun p hp => .inr (new p hp)) nd
theorem St.new1 {a : Addr} {o : Obj} (S : St B L h vars l) (k : Ext h h') (own : h'.get? a = some o) (new : h.get? a = none) : St B L h' vars ((a, o) :: l) :=
  St.news (ob' := [(a, o)]) S k (fun p hp => by rw [List.mem_singleton.mp hp]; exact own) (fun p hp => by rw [List.mem_singleton.mp hp]; exact new) (by simp)
theorem St.bsM {w : World} {mg mb : Str → Option Value} (S : St B L h vars (ob ++ l)) (X : Bs w mg mb B) : Bs w mg mb (hid (ob.map (·.1)) h) :=
  X.mono fun b o e => hid_some.mpr ⟨(fun q => by
    obtain ⟨p, hp, e'⟩ := List.mem_map.mp q
    have := S.sep p (List.mem_append_left _ hp)
    rw [e', e] at this; cases this), S.keep b o e⟩
theorem St.dead {M : List Addr} {h0 : Heap} {a : Addr} {o : Obj} (S : St (hid M h0) L h vars ((a, o) :: l)) (hm : a ∉ M) : h0.get? a = none := by
  have := S.sep _ (.head _)
  cases e : h0.get? a with
  | none => rfl
  | some o => rw [hid_some.mpr ⟨hm, e⟩] at this; cases this
end
section
variable {M : Model} {A : Around} {E : Value → Shared → Prop} {s : Shared} {h : Heap} {t : Nat} {env : Env} {Q : Value → Shared → Prop} {B : Bas} {L : Addr} {vars : List (Str × Value)} {l : List (Addr × Obj)}
theorem nList {elts : List Expr} {pos : Pos} (H : wpAny M A (spliced (backTo pos (starEach elts env))) (fun vs s₁ => ∃ B L vars l h' t', s₁ = sh s h' t' ∧ St B L h' vars l ∧ vs.length ≤ 1000 ∧ ∀ D h', St B L h' vars ((D, listOf vs.toArray 0) :: l) → Q (.ref D) (sh s h' t')) E (sh s h t)) :
    wpAny M A (eval (.List elts pos) env) Q E (sh s h t) :=
  wpAny_List (wpAny_mono H (fun vs s₁ ⟨B, L, vars, l, h', t', e, S, hz, k⟩ => ⟨by rw [sizeLine_eq]; (exact Nat.le_trans (by assumption) (by decide)), by subst e; exact k _ _ (S.push _)⟩) fun _ _ x => x)
theorem nTup {elts : List Expr} {n : Nat} {pos : Pos} (H : wpAny M A (spliced (backTo pos (starEach elts env))) (fun vs s₁ => ∃ B L vars l h' t', s₁ = sh s h' t' ∧ St B L h' vars l ∧ vs.length ≤ 1000 ∧ ∀ D h', St B L h' vars ((D, tupO vs.toArray) :: l) → Q (.ref D) (sh s h' t')) E (sh s h t)) :
    wpAny M A (eval (.Tuple elts n pos) env) Q E (sh s h t) :=
  wpAny_Tuple (wpAny_mono H (fun vs s₁ ⟨B, L, vars, l, h', t', e, S, hz, k⟩ => ⟨by rw [sizeLine_eq]; (exact Nat.le_trans (by assumption) (by decide)), by subst e; exact k _ _ (S.push _)⟩) fun _ _ x => x)
theorem nStr {x : Str} {kk pos} (k : ∀ u v, Q (.str x u) (sh s h v)) : wpAny M A (eval (.Constant (.str x) kk pos) env) Q E (sh s h t) := wpAny_Constant_str (k _ _)
theorem nInt {x : Int} {kk pos} (k : ∀ u v, Q (.int x u) (sh s h v)) : wpAny M A (eval (.Constant (.int x) kk pos) env) Q E (sh s h t) := wpAny_Constant_int (k _ _)
theorem nSt {x : Str} {v : Value} {R : Unit → Shared → Prop} (S : St B L h vars l) (k : ∀ h' u, St B L h' ((x, v) :: vars) l → R () (sh s h' u))
    (hL : env.locals = L := by rfl) (hk : env.scope.kind = .function := by rfl) (hl : env.kindOf x = some .local := by rfl) :
    wpAny M A (storeName env x v) R E (sh s h t) := rSt (s := sh s h t) S (fun h' S' => k h' _ S') hL hk hl
theorem nCellSt {x : Str} {c : Addr} {o : Obj} {v : Value} {v₀ : Option Value} {R : Unit → Shared → Prop} (S : St B L h vars ((c, o) :: l)) (hc : env.cells.lookup x = some c) (hd' : o.data = .cell v₀)
    (k : ∀ o' h', o'.data = .cell (some v) → St B L h' vars ((c, o') :: l) → R () (sh s h' t))
    (hk : env.scope.kind = .function := by rfl) (hl : env.kindOf x = some .cell := by rfl) : wpAny M A (storeName env x v) R E (sh s h t) := rCellSt (s := sh s h t) S hc hd' k hk hl
end
section
variable {prog : Program} {w : World} {A : Around} {E : Value → Shared → Prop} {s : Shared} {h : Heap} {t : Nat} {Q : Value → Shared → Prop} {a b c : Int} {u v : Tok} {B : Bas} {L : Addr} {vars : List (Str × Value)} {l : List (Addr × Obj)}
theorem nList0 {env : Env} {pos : Pos} (S : St B L h vars l) (k : ∀ D h', St B L h' vars ((D, listOf #[] 0) :: l) → Q (.ref D) (sh s h' t)) : wpAny (model prog w) A (eval (.List [] pos) env) Q E (sh s h t) := rList0 (s := sh s h t) S k
theorem nAdd (e : a + b = c) (k : ∀ u v, Q (.int c u) (sh s h v)) : wpAny (model prog w) A (binaryOp .Add (.int a u) (.int b v)) Q E (sh s h t) := oAdd e (k _ _)
theorem nSub (e : a - b = c) (k : ∀ u v, Q (.int c u) (sh s h v)) : wpAny (model prog w) A (binaryOp .Sub (.int a u) (.int b v)) Q E (sh s h t) := oSub e (k _ _)
theorem nMul (e : a * b = c) (hm : IntMulOk a b) (k : ∀ u v, Q (.int c u) (sh s h v)) : wpAny (model prog w) A (binaryOp .Mult (.int a u) (.int b v)) Q E (sh s h t) := oMul e hm (k _ _)
theorem nAnd (e : Builtin.bitAnd a b = c) (k : ∀ u v, Q (.int c u) (sh s h v)) : wpAny (model prog w) A (binaryOp .BitAnd (.int a u) (.int b v)) Q E (sh s h t) := oAnd e (k _ _)
theorem nXor (e : Builtin.bitXor a b = c) (k : ∀ u v, Q (.int c u) (sh s h v)) : wpAny (model prog w) A (binaryOp .BitXor (.int a u) (.int b v)) Q E (sh s h t) := oXor e (k _ _)
theorem nISub (e : a - b = c) (k : ∀ u v, Q (.int c u) (sh s h v)) : wpAny (model prog w) A (inplaceOp .Sub (.int a u) (.int b v)) Q E (sh s h t) := oISub e (k _ _)
theorem nIAdd (e : a + b = c) (k : ∀ u v, Q (.int c u) (sh s h v)) : wpAny (model prog w) A (inplaceOp .Add (.int a u) (.int b v)) Q E (sh s h t) := oIAdd e (k _ _)
theorem nShl {n : Nat} (hb : b = n) (hn : n ≤ 100000) (ha : a.natAbs < 2 ^ 64) (e : a * 2 ^ n = c) (k : ∀ u v, Q (.int c u) (sh s h v)) : wpAny (model prog w) A (binaryOp .LShift (.int a u) (.int b v)) Q E (sh s h t) := oShl hb hn ha e (k _ _)
theorem nShr {n : Nat} (hb : b = n) (e : a / 2 ^ n = c) (k : ∀ u v, Q (.int c u) (sh s h v)) : wpAny (model prog w) A (binaryOp .RShift (.int a u) (.int b v)) Q E (sh s h t) := oShr hb e (k _ _)
theorem nMod (hb : 0 < b) (e : a % b = c) (k : ∀ u v, Q (.int c u) (sh s h v)) : wpAny (model prog w) A (binaryOp .Mod (.int a u) (.int b v)) Q E (sh s h t) := oMod hb e (k _ _)
theorem nDiv (hb : 0 < b) (e : a / b = c) (hp : Builtin.divisionGoesByPylong a b = false) (k : ∀ u v, Q (.int c u) (sh s h v)) : wpAny (model prog w) A (binaryOp .FloorDiv (.int a u) (.int b v)) Q E (sh s h t) := oDiv hb e hp (k _ _)
theorem nPow {n : Nat} (hb : b = n) (hn : n ≤ 100000) (ha : a.natAbs < 2 ^ 64) (e : a ^ n = c) (k : ∀ u v, Q (.int c u) (sh s h v)) : wpAny (model prog w) A (binaryOp .Pow (.int a u) (.int b v)) Q E (sh s h t) := oPow hb hn ha e (k _ _)
theorem nNeg (e : -a = c) (k : ∀ u v, Q (.int c u) (sh s h v)) : wpAny (model prog w) A (unaryOp .USub (.int a u)) Q E (sh s h t) := by subst e; exact neg_int (k _ _)
theorem nInv (e : Builtin.bitNot a = c) (k : ∀ u v, Q (.int c u) (sh s h v)) : wpAny (model prog w) A (unaryOp .Invert (.int a u)) Q E (sh s h t) := by subst e; exact invert_int (k _ _)
theorem nAppend {D : Addr} {its : Array Value} {n : Nat} {x : Value} (S : St B L h vars ((D, listOf its n) :: l)) (hz : its.size ≤ 1000)
    (k : ∀ h' n', St B L h' vars ((D, listOf (its.push x) n') :: l) → Q .none (sh s h' t)) : wpAny (model prog w) A (call (.builtin "list.append") [.ref D, x]) Q E (sh s h t) := rAppend (s := sh s h t) S (by rw [sizeLine_eq]; (exact Nat.le_trans (by assumption) (by decide))) k
theorem nRange1 {n : Int} (S : St B L h vars l) (k : ∀ r t u v h' tk, St B L h' vars ((r, rgO 0 n 1 t u v) :: l) → Q (.ref r) (sh s h' tk)) : wpAny (model prog w) A (call (.type "range") [.int n u]) Q E (sh s h t) := rRange1 (s := sh s h t) S k
theorem nRange2 (S : St B L h vars l) (k : ∀ r t u v h' tk, St B L h' vars ((r, rgO a b 1 t u v) :: l) → Q (.ref r) (sh s h' tk)) : wpAny (model prog w) A (call (.type "range") [.int a u, .int b v]) Q E (sh s h t) := rRange2 (s := sh s h t) S k
theorem nRange3 {x : Tok} (S : St B L h vars l) (hc : c ≠ 0) (hp : Builtin.divisionGoesByPylong (b - a) c = false) (k : ∀ r t u v h' tk, St B L h' vars ((r, rgO a b c t u v) :: l) → Q (.ref r) (sh s h' tk)) : wpAny (model prog w) A (call (.type "range") [.int a u, .int b v, .int c x]) Q E (sh s h t) := rRange3 (s := sh s h t) S hc hp k
end
end Mine

/-! part Wo -/
namespace Mine
theorem flagName_big {i : Nat} (h : 10 ≤ i) : flagName i = baseText "0x" 16 ((2 ^ i : Nat) : Int) := by
  match i, h with
  | i + 10, _ => rfl
theorem ten_at (t0 t1 t2 t3 t4 t5 t6 t7 t8 t9 : Tok) (i : Nat) (h : i < 10) : ∃ t, ([.str "OPTIMIZED" t0, .str "NEWLOCALS" t1, .str "VARARGS" t2, .str "VARKEYWORDS" t3, .str "NESTED" t4, .str "GENERATOR" t5, .str "NOFREE" t6, .str "COROUTINE" t7, .str "ITERABLE_COROUTINE" t8, .str "ASYNC_GENERATOR" t9] : List Value).toArray[i]? = some (.str (flagName i) t) := by
  match i, h with
  | 0, _ => exact ⟨_, rfl⟩
  | 1, _ => exact ⟨_, rfl⟩
  | 2, _ => exact ⟨_, rfl⟩
  | 3, _ => exact ⟨_, rfl⟩
  | 4, _ => exact ⟨_, rfl⟩
  | 5, _ => exact ⟨_, rfl⟩
  | 6, _ => exact ⟨_, rfl⟩
  | 7, _ => exact ⟨_, rfl⟩
  | 8, _ => exact ⟨_, rfl⟩
  | 9, _ => exact ⟨_, rfl⟩
set_option maxHeartbeats 2000000
section
variable {prog : Program} {w : World} {mg mb : Str → Option Value} {A : Around} {E : Value → Shared → Prop} {s : Shared} {Q : Value → Shared → Prop}
theorem words_range {r : Addr} {t₀ u₀ v₀ : Tok} {q : Nat}
    (X : Bs w mg mb (hid [] s.heap)) (rm : Room A 1 100) (hr : s.heap.get? r = some (rgO q (q + 6) 1 t₀ u₀ v₀)) (hq : q ≤ 20)
    (k : ∀ D rs n' h' tk', StrsAre rs ((List.range 6).map fun j => flagName (q + j)) → s.heap.get? D = none → h'.get? D = some (listOf rs.toArray n') → Ext s.heap h' → Q (.ref D) (sh s h' tk')) :
    wpAny (model prog w) A (call (.ref 103) [.ref r]) Q E s := by
  refine' enterC (d := 0) (u := 97) (binds := [("places", .ref r)]) (vars := [("places", .ref r)]) [] [] X rm ?ho ?hcd ?hb (fun _ hp => nomatch hp) (fun _ hp => nomatch hp) List.nodup_nil ?hv ?_ ?hk ?hn ?c1 ?c2 ?c3
  case ho => exact rfl
  case hcd => exact rfl
  case hb => exact fun Y => BindsTo.peek Y fun _ => rfl
  case hv => exact fun L => ⟨rfl, trivial⟩
  case hk => exact rfl
  case hn => decide +kernel
  case c1 => exact rfl
  case c2 => exact rfl
  case c3 => exact rfl
  intro L h₁ t₁ env cells A' K E₀ hR hN hE CA S rm
  subst hE
  obtain ⟨o, rfl, ho⟩ := CellsAre.one CA
  refine wpAny_execs_cons ?_
  refine wpAny_Assign_Name ?_ ?hsw
  case hsw => rfl
  refine nList ?_
  iterate 10 refine wpAny_items_cons (nStr fun _ _ => ?_)
  refine wpAny_items_nil ⟨_, _, _, _, _, _, rfl, S, ?hlen, fun D₀ h₂ S => ?_⟩
  case hlen => show (10 : Nat) ≤ 1000; omega
  obtain ⟨vs₀, hv₀, S⟩ : ∃ vs₀ : List Value, (∀ i, i < 10 → ∃ t, vs₀.toArray[i]? = some (.str (flagName i) t)) ∧ St (hid [] s.heap) L h₂ [("places", .ref r)] ((D₀, listOf vs₀.toArray 0) :: [(L + 1, o)]) := ⟨_, ten_at _ _ _ _ _ _ _ _ _ _, S⟩
  refine nCellSt (c := L + 1) S.swap rfl ho fun o' h₃ ho' S => ?_
  refine wpAny_execs_cons (wpAny_Return_some ?_)
  refine rLC (cl := [("names", L + 1)]) rfl rfl (by decide) ?_
  refine rLoc S rfl ?_
  have eL := S.get
  have eD := S.drop1.get
  refine rCompR (n := 6) (a := q) (b := q + 6) (c := 1) rfl rm.hh (fun i acc l => l = [] ∧ StrsAre acc ((List.range i).map fun j => flagName (q + j))) S (S.keep _ _ (hid_some.mpr ⟨List.not_mem_nil, hr⟩)) (range_small (by first | decide | omega) (by first | decide | omega) (by first | decide | omega) (by first | decide | omega)) (range_size1 (by first | decide | omega)) (by first | decide | omega) ⟨rfl, .nil⟩ (by decide) rfl ?_ ?_
  · rintro B' i tv acc _ rest C h t E' kB hi ⟨rfl, hacc⟩ S' Kt Kf hT hF
    refine wpAny_assign_Name (nSt S' fun h' _ S' => ?_)
    refine wpAny_tests_nil ?_
    show wpAny _ _ _ _ _ _
    refine wpAny_IfExp (wpAny_isTrue_Compare1 ?_)
    refine rLoc S' rfl ?_
    refine nInt fun _ _ => ?_
    skip
    refine lt_int (wpAny_truthy_bool (ifD (fun hlt => ?_) fun hge => ?_))
    · refine Subscript_ ?_
      refine rCell (c := L + 1) rfl (S'.keep _ _ (kB _ _ eL)) ho' ?_
      refine rLoc S' rfl ?_
      obtain ⟨tn, en⟩ := hv₀ (q + i) (by first | decide | omega)
      refine item_list (isL (S'.keep _ _ (kB _ _ eD))) (by first | decide | omega) (by first | decide | omega) (x := .str (flagName (q + i)) tn) (by rw [show (((q : Int) + (i : Int) * 1)).toNat = q + i by omega]; exact en) ?_
      refine hT _ h' _ [] ⟨rfl, ?_⟩ (S'.lets trivial)
      rw [List.range_succ, List.map_append]; exact strs_snoc hacc _ _
    · refine rCallB S' (X.mono fun b o e => kB _ _ (S.keep _ _ e)) (n_hex _) boot_hex ?_
      refine wpAny_items_cons (wpAny_BinOp (nInt fun _ _ => ?_))
      refine rLoc S' rfl ?_
      refine nShl (n := q + i) (c := ((2 ^ (q + i) : Nat) : Int)) (by first | decide | omega) (by first | decide | omega) (by decide) (by push_cast; omega) fun _ _ => ?_
      refine wpAny_items_nil ?_
      refine P.hex_of_int ?_ (by have := hex_len (q + i) (by first | decide | omega); rw [sizeLine_eq]; omega)
      refine hT _ h' _ [] ⟨rfl, ?_⟩ (S'.lets trivial)
      rw [← flagName_big (by omega : 10 ≤ q + i)]
      rw [List.range_succ, List.map_append]; exact strs_snoc hacc _ _
  · rintro D C acc l h t n' ⟨rfl, hacc⟩ F
    skip
    refine F.post fun h' S => ?_
    refine hR _ _ (k D acc n' h' _ hacc ?_ S.get S.eff.ext)
    have := S.sep _ (.head _)
    cases e : s.heap.get? D with
    | none => rfl
    | some o => rw [hid_some.mpr ⟨List.not_mem_nil, e⟩] at this; cases this
theorem words_list {r : Addr} {vs : List Value} {ps : List Int} {na : Nat}
    (X : Bs w mg mb (hid [] s.heap)) (rm : Room A 1 100) (hr : s.heap.get? r = some (listOf vs.toArray na)) (hi : IntsAre vs ps) (hp : ∀ p ∈ ps, 0 ≤ p ∧ p < 32) (hx : ps.length ≤ 1000)
    (k : ∀ D rs n' h' tk', StrsAre rs (ps.map fun p => flagName p.toNat) → s.heap.get? D = none → h'.get? D = some (listOf rs.toArray n') → Ext s.heap h' → Q (.ref D) (sh s h' tk')) :
    wpAny (model prog w) A (call (.ref 103) [.ref r]) Q E s := by
  refine' enterC (d := 0) (u := 97) (binds := [("places", .ref r)]) (vars := [("places", .ref r)]) [] [] X rm ?ho ?hcd ?hb (fun _ hp => nomatch hp) (fun _ hp => nomatch hp) List.nodup_nil ?hv ?_ ?hk ?hn ?c1 ?c2 ?c3
  case ho => exact rfl
  case hcd => exact rfl
  case hb => exact fun Y => BindsTo.peek Y fun _ => rfl
  case hv => exact fun L => ⟨rfl, trivial⟩
  case hk => exact rfl
  case hn => decide +kernel
  case c1 => exact rfl
  case c2 => exact rfl
  case c3 => exact rfl
  intro L h₁ t₁ env cells A' K E₀ hR hN hE CA S rm
  subst hE
  obtain ⟨o, rfl, ho⟩ := CellsAre.one CA
  refine wpAny_execs_cons ?_
  refine wpAny_Assign_Name ?_ ?hsw
  case hsw => rfl
  refine nList ?_
  iterate 10 refine wpAny_items_cons (nStr fun _ _ => ?_)
  refine wpAny_items_nil ⟨_, _, _, _, _, _, rfl, S, ?hlen, fun D₀ h₂ S => ?_⟩
  case hlen => show (10 : Nat) ≤ 1000; omega
  obtain ⟨vs₀, hv₀, S⟩ : ∃ vs₀ : List Value, (∀ i, i < 10 → ∃ t, vs₀.toArray[i]? = some (.str (flagName i) t)) ∧ St (hid [] s.heap) L h₂ [("places", .ref r)] ((D₀, listOf vs₀.toArray 0) :: [(L + 1, o)]) := ⟨_, ten_at _ _ _ _ _ _ _ _ _ _, S⟩
  refine nCellSt (c := L + 1) S.swap rfl ho fun o' h₃ ho' S => ?_
  refine wpAny_execs_cons (wpAny_Return_some ?_)
  refine rLC (cl := [("names", L + 1)]) rfl rfl (by decide) ?_
  refine rLoc S rfl ?_
  have eL := S.get
  have eD := S.drop1.get
  refine rCompL rfl rm.hh (fun i acc l => l = [] ∧ StrsAre acc ((ps.take i).map fun p => flagName p.toNat)) S (S.keep _ _ (hid_some.mpr ⟨List.not_mem_nil, hr⟩)) (by rw [List.size_toArray, hi.length]; exact hx) ⟨rfl, .nil⟩ (by decide) rfl ?_ ?_
  · rintro B' i v acc _ rest C h t E' kB hv ⟨rfl, hacc⟩ S' Kt Kf hT hF
    obtain ⟨p, tp, hpi, rfl⟩ := ints_item hi hv
    refine wpAny_assign_Name (nSt S' fun h' _ S' => ?_)
    refine wpAny_tests_nil ?_
    show wpAny _ _ _ _ _ _
    refine wpAny_IfExp (wpAny_isTrue_Compare1 ?_)
    refine rLoc S' rfl ?_
    refine nInt fun _ _ => ?_
    have hpp := hp p (List.mem_of_getElem? hpi)
    refine lt_int (wpAny_truthy_bool (ifD (fun hlt => ?_) fun hge => ?_))
    · refine Subscript_ ?_
      refine rCell (c := L + 1) rfl (S'.keep _ _ (kB _ _ eL)) ho' ?_
      refine rLoc S' rfl ?_
      obtain ⟨tn, en⟩ := hv₀ (p.toNat) (by first | decide | omega)
      refine item_list (isL (S'.keep _ _ (kB _ _ eD))) (by first | decide | omega) (by first | decide | omega) (x := .str (flagName (p.toNat)) tn) (by rw [show (p).toNat = p.toNat by omega]; exact en) ?_
      refine hT _ h' _ [] ⟨rfl, ?_⟩ (S'.lets trivial)
      rw [take_snoc hpi, List.map_append]; exact strs_snoc hacc _ _
    · refine rCallB S' (X.mono fun b o e => kB _ _ (S.keep _ _ e)) (n_hex _) boot_hex ?_
      refine wpAny_items_cons (wpAny_BinOp (nInt fun _ _ => ?_))
      refine rLoc S' rfl ?_
      refine nShl (n := p.toNat) (c := ((2 ^ (p.toNat) : Nat) : Int)) (by first | decide | omega) (by first | decide | omega) (by decide) (by push_cast; omega) fun _ _ => ?_
      refine wpAny_items_nil ?_
      refine P.hex_of_int ?_ (by have := hex_len (p.toNat) (by first | decide | omega); rw [sizeLine_eq]; omega)
      refine hT _ h' _ [] ⟨rfl, ?_⟩ (S'.lets trivial)
      rw [← flagName_big (by omega : 10 ≤ p.toNat)]
      rw [take_snoc hpi, List.map_append]; exact strs_snoc hacc _ _
  · rintro D C acc l h t n' ⟨rfl, hacc⟩ F
    rw [List.size_toArray, hi.length, List.take_length] at hacc
    refine F.post fun h' S => ?_
    refine hR _ _ (k D acc n' h' _ hacc ?_ S.get S.eff.ext)
    have := S.sep _ (.head _)
    cases e : s.heap.get? D with
    | none => rfl
    | some o => rw [hid_some.mpr ⟨List.not_mem_nil, e⟩] at this; cases this
end
end Mine

/-! part Fw14 -/
namespace Mine
section
variable {prog : Program} {w : World} {A : Around} {E : Value → Shared → Prop} {s : Shared} {h : Heap} {t : Nat} {env : Env} {B : Bas} {L : Addr} {vars : List (Str × Value)} {l : List (Addr × Obj)} {Q : Value → Shared → Prop} {mg mb : Str → Option Value}
theorem nLen {a : Addr} {its : Array Value} {n : Nat} (ha : h.get? a = some (listOf its n)) (hz : its.size ≤ 100000) (k : ∀ u v, Q (.int its.size u) (sh s h v)) : wpAny (model prog w) A (call (.builtin "len") [.ref a]) Q E (sh s h t) :=
  len_list (isL (h := (sh s h t).heap) ha) (by first | decide | lia) (k _ _)
theorem nItem {value slice : Expr} {a : Addr} {vs : List Value} {n : Nat} {k : Int} {u : Tok} {x : Value} (ha : h.get? a = some (listOf vs.toArray n)) (h0 : 0 ≤ k) (h1 : k < 100000) (hx : vs[k.toNat]? = some x) (H : Q x (sh s h t))
    (hs : subscripted slice false (.ref a) (.int k u) = operate [.ref a, .int k u] (getItem (.ref a) (.int k u)) := by with_unfolding_all rfl)
    (hg : ∀ r, letTemporaryGo value (.ref a) r = pure () := by intro _; with_unfolding_all rfl) :
    wpAny (model prog w) A (subscriptTail value slice (.ref a) (.int k u)) Q E (sh s h t) :=
  item_list (isL (h := (sh s h t).heap) ha) h0 (by first | decide | lia) (by simpa using hx) H hs hg
theorem nSetItem {D : Addr} {vs : List Value} {n : Nat} {k : Int} {u : Tok} {x : Value} {R : Unit → Shared → Prop} (S : St B L h vars ((D, listOf vs.toArray n) :: l)) (h0 : 0 ≤ k) (h1 : k < vs.length) (h2 : k < 100000)
    (H : ∀ h' n', St B L h' vars ((D, listOf (vs.set k.toNat x).toArray n') :: l) → R () (sh s h' t)) : wpAny (model prog w) A (setItem (.ref D) (.int k u) x) R E (sh s h t) := by
  obtain ⟨n', hn⟩ := upd_list (f := fun a : Array Value => a.setIfInBounds k.toNat x) (its' := (vs.set k.toNat x).toArray) S.get (by apply Array.toList_inj.mp; simp)
  exact ki_setAt S.get h0 (by first | decide | lia) (by rw [List.size_toArray]; exact h1) (H _ n' (S.upd (SameBut.eff (Heap.SameBut.update ..)) hn))
theorem foldl_rep (v : Value) : ∀ (n : Nat) (acc : Array Value), List.foldl (fun x1 x2 => x1 ++ x2) acc (List.replicate n #[v]) = acc ++ (List.replicate n v).toArray
  | 0, acc => by simp
  | n + 1, acc => by
    rw [List.replicate_succ, List.foldl_cons, foldl_rep v n]
    apply Array.toList_inj.mp
    simp [List.replicate_succ]
theorem nMulL1 {a : Addr} {x : Value} {n : Nat} {m : Int} {u : Tok} (S : St B L h vars l) (ha : h.get? a = some (listOf [x].toArray n)) (h0 : 0 ≤ m) (h1 : m ≤ 1000)
    (k : ∀ D h', St B L h' vars ((D, listOf (List.replicate m.toNat x).toArray 0) :: l) → Q (.ref D) (sh s h' t)) : wpAny (model prog w) A (binaryOp .Mult (.ref a) (.int m u)) Q E (sh s h t) := by
  obtain ⟨mm, hn, hm⟩ := S.ns
  obtain ⟨F, N⟩ := fr_of hn
  refine mul_list (s := sh s h t) F N ha (by first | decide | lia) (by first | decide | lia) (by show 1 * m.toNat ≤ _; lia) fun h' F' N' => ?_
  have e : (List.foldl (fun x1 x2 : Array Value => x1 ++ x2) #[] (List.replicate (if ([x].toArray : Array Value).isEmpty = true then 0 else m.toNat) [x].toArray)) = (List.replicate m.toNat x).toArray := by
    have := foldl_rep x m.toNat #[]
    simpa using this
  rw [e] at N'
  have S' := S.ofFr (more := [(h.objs.size, listOf (List.replicate m.toNat x).toArray 0)]) hm hn F' N' (fun p hp => by rw [List.mem_singleton.mp hp]; exact Nat.le_refl _) (by simp)
  exact k _ _ S'
theorem nAddL {a b : Addr} {vs us : List Value} {n m : Nat} (S : St B L h vars l) (ha : h.get? a = some (listOf vs.toArray n)) (hb : h.get? b = some (listOf us.toArray m)) (hz : vs.length + us.length ≤ 1000)
    (k : ∀ D h', St B L h' vars ((D, listOf (vs ++ us).toArray 0) :: l) → Q (.ref D) (sh s h' t)) : wpAny (model prog w) A (binaryOp .Add (.ref a) (.ref b)) Q E (sh s h t) := by
  obtain ⟨mm, hn, hm⟩ := S.ns
  obtain ⟨F, N⟩ := fr_of hn
  refine add_arrays (s := sh s h t) F N (isL ha) (isL hb) (fun h' F' N' => ?_) (by rw [List.size_toArray, List.size_toArray, sizeLine_eq]; (exact Nat.le_trans (by assumption) (by decide)))
  have S' := S.ofFr (more := [(h.objs.size, listOf (vs ++ us).toArray 0)]) hm hn F' (by simpa using N') (fun p hp => by rw [List.mem_singleton.mp hp]; exact Nat.le_refl _) (by simp)
  exact k _ _ S'
theorem nSliceTail {value slice : Expr} {a : Addr} {its : Array Value} {n : Nat} {vl vu : Value} {lo hi : Option Int} (S : St B L h vars l) (ha : h.get? a = some (listOf its n)) (pl : IsPart vl lo) (pu : IsPart vu hi) (hz : its.size ≤ 1000)
    (k : ∀ D h', St B L h' vars ((D, listOf (slicePick its lo hi none) 0) :: l) → Q (.ref D) (sh s h' t))
    (hs : subscripted slice false (.ref a) (.ref h.objs.size) = operate [.ref h.objs.size, .ref a] (getItem (.ref a) (.ref h.objs.size)) := by with_unfolding_all rfl)
    (ht : ∀ r, letTemporaryGo value (.ref a) r = pure () := by intro _; with_unfolding_all rfl) :
    wpAny (model prog w) A (subscriptTail value slice (.ref a) (.ref h.objs.size)) Q E (sh s (h.push { cls := .type "slice", data := .fields #[vl, vu, .none] }) t) := by
  obtain ⟨mm, hn, hm⟩ := S.ns
  obtain ⟨F, N⟩ := fr_of hn
  refine slice_list (s := sh s h t) F N (isL ha) pl pu (fun h' F' N' => ?_) hs ht (by rw [sizeLine_eq]; (exact Nat.le_trans (by assumption) (by decide)))
  have S' := S.ofFr (more := [(h.objs.size + 1, listOf (slicePick its lo hi none) 0)]) hm hn F' N' (fun p hp => by rw [List.mem_singleton.mp hp]; exact Nat.le_succ _) (by simp)
  exact k _ _ S'
theorem nSliceTail3 {value slice : Expr} {a : Addr} {its : Array Value} {n : Nat} {vl vu vk : Value} {lo hi st : Option Int} {ops : List Value} (S : St B L h vars l) (ha : h.get? a = some (listOf its n)) (pl : IsPart vl lo) (pu : IsPart vu hi) (pk : IsPart vk st) (h0 : st ≠ some 0) (hz : its.size ≤ 1000)
    (k : ∀ D h', St B L h' vars ((D, listOf (slicePick its lo hi st) 0) :: l) → Q (.ref D) (sh s h' t))
    (hs : subscripted slice false (.ref a) (.ref h.objs.size) = operate ops (getItem (.ref a) (.ref h.objs.size)) := by with_unfolding_all rfl)
    (ht : ∀ r, letTemporaryGo value (.ref a) r = pure () := by intro _; with_unfolding_all rfl) :
    wpAny (model prog w) A (subscriptTail value slice (.ref a) (.ref h.objs.size)) Q E (sh s (h.push { cls := .type "slice", data := .fields #[vl, vu, vk] }) t) := by
  obtain ⟨mm, hn, hm⟩ := S.ns
  obtain ⟨F, N⟩ := fr_of hn
  refine slice_list3 (s := sh s h t) F N (isL ha) pl pu pk h0 (fun h' F' N' => ?_) hs ht (by rw [sizeLine_eq]; (exact Nat.le_trans (by assumption) (by decide)))
  have S' := S.ofFr (more := [(h.objs.size + 1, listOf (slicePick its lo hi st) 0)]) hm hn F' N' (fun p hp => by rw [List.mem_singleton.mp hp]; exact Nat.le_succ _) (by simp)
  exact k _ _ S'
theorem nEqI {a b : Addr} {vs us : List Value} {xs ys : List Int} {n m : Nat} (ha : h.get? a = some (listOf vs.toArray n)) (hb : h.get? b = some (listOf us.toArray m)) (hi : IntsAre vs xs) (hj : IntsAre us ys) (hu : A.units + 64 < cLine) (k : Q (.bool (decide (xs = ys))) (sh s h t)) :
    wpAny (model prog w) A (compareOp .Eq (.ref a) (.ref b)) Q E (sh s h t) := ke_eq_ints (isL (h := (sh s h t).heap) ha) (isL (h := (sh s h t).heap) hb) hi hj hu k
theorem nNeI {a b : Addr} {vs us : List Value} {xs ys : List Int} {n m : Nat} (ha : h.get? a = some (listOf vs.toArray n)) (hb : h.get? b = some (listOf us.toArray m)) (hi : IntsAre vs xs) (hj : IntsAre us ys) (hu : A.units + 64 < cLine) (k : Q (.bool (!decide (xs = ys))) (sh s h t)) :
    wpAny (model prog w) A (compareOp .NotEq (.ref a) (.ref b)) Q E (sh s h t) := ke_ne_ints (isL (h := (sh s h t).heap) ha) (isL (h := (sh s h t).heap) hb) hi hj hu k
/-- a method of an int without arguments -/
theorem nBits {o : Expr} {apos pos : Pos} {pl : Sem Bool}
    (H : wpAny (model prog w) A (eval o env) (fun ov s₁ => ∃ x u h' v, ov = .int x u ∧ s₁ = sh s h' v ∧ ∀ u' v', Q (.int (Builtin.Int.intBits x) u') (sh s h' v')) E (sh s h t))
    (hm : eval (.Call (.Attribute o "bit_length" apos) [] [] pos) env = (do
      let ov ← eval o env
      standAt apos.atName
      let (f, first) ← holding [ov] (getMethod ov "bit_length" pl)
      callWith pos f first (backTo pos (starEach [] env)) []) := by rfl) :
    wpAny (model prog w) A (eval (.Call (.Attribute o "bit_length" apos) [] [] pos) env) Q E (sh s h t) := by
  refine MethodCall_ (pl := pl) (wpAny_mono H (fun ov s₁ h₁ => ?_) fun _ _ x => x) hm
  obtain ⟨x, u, h', v, rfl, rfl, k⟩ := h₁
  refine getMethod_int_bit_length ?_
  exact callWith_method0 (call_int_bit_length (k _ _))
end

/-! ## defs made in a body -/
abbrev nsPos (p : Pos) : Value × Value := (rawInt p.line, rawInt p.col)
/-- the table of a code: nothing made yet, or the one code of the one def inside -/
inductive TabL (P : Addr) (qual : Str) (p : Pos) : List (Addr × Obj) → Prop
  | new : TabL P qual p [(P, tabObj #[])]
  | made (c' : Addr) (oc : Obj) (vs : Array Value) (t : Tok) (hd : oc.data = .fields vs) (hv : vs[1]? = some (.str qual t)) : TabL P qual p [(P, tabObj #[rawInt p.line, rawInt p.col, .ref c']), (c', oc)]
def CodeIn (tb : List (Addr × Obj)) (c' : Addr) (qual : Str) : Prop := ∃ oc vs t, (c', oc) ∈ tb ∧ oc.data = .fields vs ∧ vs[1]? = some (.str qual t)
theorem CodeIn.rec' {tb : List (Addr × Obj)} {c' : Addr} {qual : Str} {h : Heap} (C : CodeIn tb c' qual) (own : ∀ p ∈ tb, h.get? p.1 = some p.2) : h.CodeRec (.ref c') qual :=
  let ⟨oc, vs, t, m, hd, hv⟩ := C; ⟨c', oc, vs, t, rfl, own _ m, hd, hv⟩
section
variable {M : Model} {A : Around} {E : Value → Shared → Prop} {s : Shared} {h : Heap} {t : Nat} {env : Env} {w : World} {mg mb : Str → Option Value} {B : Bas} {L : Addr} {vars : List (Str × Value)} {l tb : List (Addr × Obj)} {Q : Value → Shared → Prop}
theorem Base.builtinsAt {w : World} {P : Addr} {ps : Array Value} (Y : Base w mg mb h) (hP : h.get? P = some (tabObj ps)) : h.BuiltinsAt mg P := by
  obtain ⟨bm, ob, b1, b2, b3, b4, b5, b6⟩ := Y.bm
  have hbP : bm ≠ P := fun q => by
    rw [q, hP] at b3; cases b3; cases b4
  have hbG : bm ≠ mainGlobals := fun q => by
    obtain ⟨o, es, ep, e, hd, _⟩ := Y.g
    rw [q, e] at b3; cases b3; rw [hd] at b6; cases b6
  exact ⟨bm, ob, b1, b2, hbG, hbP, b3, b4, b5, b6⟩
theorem Base.gP {w : World} {P : Addr} {ps : Array Value} (Y : Base w mg mb h) (hP : h.get? P = some (tabObj ps)) : mainGlobals ≠ P := fun q => by
  obtain ⟨o, es, ep, e, hd, _⟩ := Y.g
  rw [q, hP] at e; cases e; cases hd
theorem gone_of_le {a : Addr} (ha : h.objs.size ≤ a) : h.get? a = none := Heap.get?_none_of_le ha
/-- a def in a body is made: its code stands in the table or is laid there -/
theorem nMake {name qual : Str} {params : Arguments} {body : List Stmt} {scope : Scope} {clos : List (Str × Addr)} {c P : Addr} {pos : Pos} {firstLine : Nat} (S : St B L h vars (tb ++ l)) (X : Bs w mg mb B) (T : TabL P qual pos tb)
    (hC : ∀ h, Base w mg mb h → CodeHd h c P) (hcode : env.code = .ref c) (hcl : closureFor scope env = pure clos) (hge : env.globals = mainGlobals)
    (k : ∀ f c' doc pm ctv tb' h' t', St B L h' vars ((f, fnMade name qual params body scope clos doc pm c' ctv) :: (tb' ++ l)) → TabL P qual pos tb' → CodeIn tb' c' qual → Q (.ref f) (sh s h' t')) :
    wpAny M A (makeFunction name qual params (.stmts body) scope env [] [] [] pos firstLine) Q E (sh s h t) := by
  have Y := X.at S.keep
  cases T with
  | new =>
    have hP : h.get? P = some (tabObj #[]) := S.own (P, _) (.head _)
    refine makeFunction_K (s := sh s h t) (mg := mg) hcl hge Y.g hcode (hC _ Y) hP trivial rfl (Y.gP hP) (Y.builtinsAt hP) fun c' ctv doc h' tk hx hge' hlt hrec htb => ?_
    have hrec0 := hrec
    obtain ⟨c₂, oc, vs, t', e2, hoc, hd, hv⟩ := hrec
    cases e2
    have hge'' : h.objs.size ≤ c' := hge'
    have hPc : P < c' := Nat.lt_of_lt_of_le (Heap.lt_size hP) hge''
    have hkk : ∀ b o, h'.get? b = some o → (h'.push (fnMade name qual params body scope clos doc ((mg "__name__").getD .none) c' ctv)).get? b = some o := fun b o e => Heap.get?_push_of_some _ e
    refine k _ c' doc ((mg "__name__").getD .none) ctv [(P, tabObj #[rawInt pos.line, rawInt pos.col, .ref c']), (c', oc)] _ tk ?_ (.made c' oc vs t' hd hv) ⟨oc, vs, t', .tail _ (.head _), hd, hv⟩
    · refine St.call (ob' := (h'.objs.size, fnMade name qual params body scope clos doc ((mg "__name__").getD .none) c' ctv) :: [(P, tabObj #[rawInt pos.line, rawInt pos.col, .ref c']), (c', oc)]) S (fun b o n e => ?_) (fun p hp => ?_) (fun p hp => ?_) ?_
      · exact hkk _ _ (hx b o (fun q => n (by rw [q]; exact .head _)) e)
      · rcases List.mem_cons.mp hp with rfl | hp
        · exact Heap.get?_push_size _ rfl
        · rcases List.mem_cons.mp hp with rfl | hp
          · exact hkk _ _ htb
          · rw [List.mem_singleton.mp hp]; exact hkk _ _ hoc
      · rcases List.mem_cons.mp hp with rfl | hp
        · exact .inr (gone_of_le (Nat.le_trans hge'' (Nat.le_of_lt hlt)))
        · rcases List.mem_cons.mp hp with rfl | hp
          · exact .inl (.head _)
          · rw [List.mem_singleton.mp hp]; exact .inr (gone_of_le hge'')
      · show [h'.objs.size, P, c'].Nodup
        have a1 : h'.objs.size ≠ P := Nat.ne_of_gt (Nat.lt_trans hPc hlt)
        have a2 : h'.objs.size ≠ c' := Nat.ne_of_gt hlt
        have a3 : P ≠ c' := Nat.ne_of_lt hPc
        simp [a1, a2, a3]
  | made c' oc vs t' hd hv =>
    have hP : h.get? P = some (tabObj #[rawInt pos.line, rawInt pos.col, .ref c']) := S.own (P, _) (.head _)
    have hoc : h.get? c' = some oc := S.own (c', oc) (.tail _ (.head _))
    refine makeFunction_hit (s := sh s h t) (cv := .ref c') (mg := mg) hcl hge Y.g hcode (hC _ Y) hP (by simp [TriplesOk, rawInt]) (by simp [codeAmong, rawInt]) (Y.builtinsAt hP) fun ctv doc h' tk hk hsz => ?_
    have hkk : ∀ b o, h.get? b = some o → (h'.push (fnMade name qual params body scope clos doc ((mg "__name__").getD .none) c' ctv)).get? b = some o := fun b o e => Heap.get?_push_of_some _ (hk b o e)
    refine k _ c' doc ((mg "__name__").getD .none) ctv [(P, tabObj #[rawInt pos.line, rawInt pos.col, .ref c']), (c', oc)] _ tk ?_ (.made c' oc vs t' hd hv) ⟨oc, vs, t', .tail _ (.head _), hd, hv⟩
    · refine St.new1 (h := h) S hkk (Heap.get?_push_size _ rfl) (gone_of_le hsz)
end
section
variable {prog : Program} {w : World} {mg mb : Str → Option Value} {A : Around} {E : Value → Shared → Prop} {s : Shared}
/-- into a def made in a body -/
theorem enterN {name qual : Str} {params : Arguments} {body : List Stmt} {scope : Scope} {cl : List (Str × Addr)} {doc pm ctv : Value} {c' f : Addr} {args : List Value} {binds : List (Str × Value)}
    {Q : Value → Shared → Prop} (M : List Addr) (own : List (Addr × Obj)) {d u : Nat} (X : Bs w mg mb (hid M s.heap)) (rm : Room A (d + 1) (u + 3))
    (ho : s.heap.get? f = some (fnMade name qual params body scope cl doc pm c' ctv)) (hcd : s.heap.CodeRec (.ref c') qual)
    (hbind : BindsTo s (fnX name qual params body scope cl .none .none doc pm none (.ref c') ctv) ⟨args, []⟩ binds)
    (hown : ∀ p ∈ own, s.heap.get? p.1 = some p.2) (hM : ∀ p ∈ own, p.1 ∈ M) (nd : (own.map (·.1)).Nodup)
    (h : ∀ L h₁ t₁ env (A' : Around) (K : Flow → Shared → Prop) (E' : Value → Shared → Prop), (∀ v s', Q v s' → K (.ret v) s') → (∀ s', Q .none s' → K .next s') → env = envX qual scope L f (.ref c') cl → St (hid M s.heap) L h₁ binds.reverse own → Room A' d u → wpAny (model prog w) A' (execs body env) K E' (sh s h₁ t₁))
    (hcell : ∀ x ∈ scope.names, x.2 ≠ .cell) (hloc : ∀ x ∈ binds, scope.names.lookup x.1 = some .local)
    (hco : scope.isCoroutine = false := by rfl) (hgen : scope.isGenerator = false := by rfl) (hk : scope.kind = .function := by rfl) :
    wpAny (model prog w) A (call (.ref f) args) Q E s := by
  have Y : Base w mg mb s.heap := X.at fun b o e => (hid_some.mp e).2
  refine wpAny_call (codeAny_call_def (fd := fnX name qual params body scope cl .none .none doc pm none (.ref c') ctv) (body := body) (binds := binds) (by have := rm.dep; lia  ) ho rfl Y.lim hcd rfl
    hbind hcell hloc (fun h₁ hns hk₁ => ?_) hco hgen hk)
  exact h _ h₁ _ _ _ _ _ (fun _ _ q => q) (fun _ q => q) rfl (St.start hns hk₁ hown hM nd) (rm.deeper _)
/-- a call of it by its name, out of a cell -/
theorem nCallC {env : Env} {h : Heap} {t : Nat} {x : Str} {np pos : Pos} {c f : Addr} {o fo : Obj} {fd : FuncData} {e : Expr} {rest : List Expr} {Q : Value → Shared → Prop} (hc : env.cells.lookup x = some c) (ho : h.get? c = some o) (hd' : o.data = .cell (some (.ref f)))
    (hf : h.get? f = some fo) (hfd : fo.data = .func fd)
    (H : wpAny (model prog w) A (spliced (backTo pos (starEach (e :: rest) env))) (fun vs s₁ => s₁.heap.get? f = some fo ∧ wpAny (model prog w) A (call (.ref f) vs) Q E s₁) E (sh s h t))
    (hk : env.scope.kind = .function := by rfl) (hl : env.kindOf x = some .cell := by rfl) (hd : (x == ("__debug__" : Str)) = false := by rfl)
    (he : starEach (e :: rest) env = (false, eval e env) :: starEach rest env := by rfl) (hplain : (backTo pos (starEach rest env)).any (·.1) = false := by rfl) :
    wpAny (model prog w) A (eval (.Call (.Name x np) (e :: rest) [] pos) env) Q E (sh s h t) := by
  refine wpAny_Call_NameR (rCell (s := sh s h t) hc ho hd' ?_ hk hl hd)
  have fn : ∀ {h : Heap}, h.get? f = some fo → FnAt f h := fun {h} q => by
    obtain ⟨oc, od, dd, sl⟩ := fo
    cases (show dd = _ from hfd)
    exact ⟨oc, od, fd, sl, q⟩
  exact callWith_F (first := []) (fn hf) (wpAny_mono H (fun vs s₁ h₁ => ⟨fn h₁.1, by rw [List.nil_append]; exact h₁.2⟩) fun _ _ x => x) he hplain
theorem nCallF {env : Env} {h : Heap} {t : Nat} {x : Str} {np pos : Pos} {c f : Addr} {o fo : Obj} {fd : FuncData} {e : Expr} {rest : List Expr} {Q : Value → Shared → Prop} (hc : env.cells.lookup x = some c) (ho : h.get? c = some o) (hd' : o.data = .cell (some (.ref f)))
    (hf : h.get? f = some fo) (hfd : fo.data = .func fd)
    (H : wpAny (model prog w) A (spliced (backTo pos (starEach (e :: rest) env))) (fun vs s₁ => s₁.heap.get? f = some fo ∧ wpAny (model prog w) A (call (.ref f) vs) Q E s₁) E (sh s h t))
    (hk : env.scope.kind = .function := by rfl) (hl : env.kindOf x = some .free := by rfl) (hd : (x == ("__debug__" : Str)) = false := by rfl) (hn : (x == ("__classdict__" : Str)) = false := by rfl)
    (he : starEach (e :: rest) env = (false, eval e env) :: starEach rest env := by rfl) (hplain : (backTo pos (starEach rest env)).any (·.1) = false := by rfl) :
    wpAny (model prog w) A (eval (.Call (.Name x np) (e :: rest) [] pos) env) Q E (sh s h t) := by
  refine wpAny_Call_NameR (rFree (s := sh s h t) hc ho hd' ?_ hk hl hd hn)
  have fn : ∀ {h : Heap}, h.get? f = some fo → FnAt f h := fun {h} q => by
    obtain ⟨oc, od, dd, sl⟩ := fo
    cases (show dd = _ from hfd)
    exact ⟨oc, od, fd, sl, q⟩
  exact callWith_F (first := []) (fn hf) (wpAny_mono H (fun vs s₁ h₁ => ⟨fn h₁.1, by rw [List.nil_append]; exact h₁.2⟩) fun _ _ x => x) he hplain
end
end Mine

/-! part I2d -/
namespace Mine
def defIn : List Stmt → Option (Str × Arguments × List Stmt × Scope × Pos)
  | [] => none
  | .FunctionDef name params body _ _ _ scope _ _ pos :: _ => some (name, params, body, scope, pos)
  | _ :: r => defIn r
def innOf (K : Frag) (a : Addr) : Option (Str × Arguments × List Stmt × Scope × Pos) := match K.lookup a with
  | some ⟨_, _, .func fd, _⟩ => (match fd.body with | .stmts b => defIn b | _ => none)
  | _ => none
/-! plain: the figures of a number -/
def digs (n x k : Nat) : List Int := (List.range k).map fun i => ((x / 2 ^ (n * i) % 2 ^ n : Nat) : Int)
theorem digs_len (n x k : Nat) : (digs n x k).length = k := by simp [digs]
theorem digs_one {n x : Nat} (h : x < 2 ^ n) : digs n x 1 = [(x : Int)] := by
  have : List.range 1 = [0] := rfl
  simp only [digs, this, List.map_cons, List.map_nil, Nat.mul_zero, Nat.pow_zero, Nat.div_one, Nat.mod_eq_of_lt h]
theorem digs_add (n x j k : Nat) : digs n x (j + k) = digs n (x % 2 ^ (n * j)) j ++ digs n (x / 2 ^ (n * j)) k := by
  unfold digs
  rw [List.range_add, List.map_append, List.map_map]
  congr 1
  · refine List.map_congr_left fun i hi => ?_
    have hi := List.mem_range.mp hi
    have e : n * j = n * i + n * (j - i) := by rw [← Nat.mul_add]; congr 1; lia
    rw [e, Nat.pow_add, Nat.mod_mul_right_div_self]
    have d : 2 ^ n ∣ 2 ^ (n * (j - i)) := Nat.pow_dvd_pow 2 (Nat.le_mul_of_pos_right n (by first | decide | lia))
    rw [Nat.mod_mod_of_dvd _ d]
  · refine List.map_congr_left fun i hi => ?_
    show (((x / 2 ^ (n * (j + i)) % 2 ^ n : Nat)) : Int) = _
    rw [Nat.div_div_eq_div_mul, ← Nat.pow_add, ← Nat.mul_add]
theorem and_top (v i : Nat) : v &&& topBits v i = topBits v i := by
  apply Nat.eq_of_testBit_eq
  intro j
  rw [Nat.testBit_and, topBits, Nat.testBit_mul_two_pow, Nat.testBit_div_two_pow]
  by_cases h : i ≤ j
  · rw [show j - i + i = j by lia]; simp [h]
  · simp [h]
theorem xor_top (v i : Nat) : Builtin.bitXor (v : Int) ((v / 2 ^ i * 2 ^ i : Nat) : Int) = ((v % 2 ^ i : Nat) : Int) := by
  rw [xor_sub]
  · have := Nat.div_add_mod v (2 ^ i)
    rw [Nat.mul_comm] at this
    omega
  · rw [bitAnd_pp (Int.natCast_nonneg _) (Int.natCast_nonneg _), Int.toNat_natCast, Int.toNat_natCast]
    exact congrArg _ (and_top v i)
theorem splice1 {ds : List Int} {L M R : Nat} {p q : List Int} (hL : L ≤ M) (hM : M ≤ R) (hR : R ≤ ds.length) (hp : p.length = M - L) :
    (ds.take L ++ p ++ ds.drop M).take M ++ q ++ (ds.take L ++ p ++ ds.drop M).drop R = ds.take L ++ (p ++ q) ++ ds.drop R := by
  have hl : (ds.take L ++ p).length = M := by rw [List.length_append, List.length_take, hp]; lia
  rw [List.take_left' hl, List.drop_append, hl, List.drop_drop, show M + (R - M) = R by lia, List.drop_eq_nil_of_le (by lia : (ds.take L ++ p).length ≤ R)]
  simp
/-- what stands of a def that was made in a body -/
structure Nest (h : Heap) (f : Addr) (fo : Obj) (c' : Addr) (qual : Str) (cells : List (Addr × Value)) : Prop where
  fn : h.get? f = some fo
  isf : ∃ fd, fo.data = .func fd
  code : h.CodeRec (.ref c') qual
  cell : ∀ p ∈ cells, ∃ o, h.get? p.1 = some o ∧ o.data = .cell (some p.2)
theorem Nest.eff {h h' : Heap} {f c' D : Addr} {fo : Obj} {qual : Str} {cells : List (Addr × Value)} {its : Array Value} {n : Nat} (N : Nest h f fo c' qual cells) (k : Eff [D] h h') (hD : h.get? D = some (listOf its n)) : Nest h' f fo c' qual cells := by
  have off : ∀ b o, h.get? b = some o → (∀ a m, o.data ≠ .seq a m) → h'.get? b = some o := fun b o e hd => k b o (fun q => by
    rw [List.mem_singleton.mp q, hD] at e; cases e; exact hd _ _ rfl) e
  refine ⟨off _ _ N.fn fun a m e => ?_, N.isf, ?_, fun p hp => ?_⟩
  · obtain ⟨fd, q⟩ := N.isf
    rw [q] at e; cases e
  · obtain ⟨c, o, vs, t, e1, e2, e3, e4⟩ := N.code
    exact ⟨c, o, vs, t, e1, off _ _ e2 (fun a m e => by rw [e3] at e; cases e), e3, e4⟩
  · obtain ⟨o, e1, e2⟩ := N.cell p hp
    exact ⟨o, off _ _ e1 (fun a m e => by rw [e2] at e; cases e), e2⟩
theorem Nest.ext {h h' : Heap} {f c' : Addr} {fo : Obj} {qual : Str} {cells : List (Addr × Value)} (N : Nest h f fo c' qual cells) (k : Ext h h') : Nest h' f fo c' qual cells :=
  ⟨k _ _ N.fn, N.isf, N.code.keeps k, fun p hp => let ⟨o, e1, e2⟩ := N.cell p hp; ⟨o, k _ _ e1, e2⟩⟩
theorem mul_ok {a b : Int} (h : a.natAbs < 2 ^ 64) : IntMulOk a b := .of_left (intBits_le_iff.mpr h)
set_option maxHeartbeats 4000000
section
variable {prog : Program} {w : World} {mg mb : Str → Option Value}
theorem inner62 {name qual : Str} {params : Arguments} {body : List Stmt} {scope : Scope} {pos : Pos} {cl : List (Str × Addr)} {doc pm ctv : Value} {c' f cA cI cN D : Addr} {n : Nat} {tn : Tok}
    (hb : innOf (hd.heap_39 w.params) 62 = some (name, params, body, scope, pos)) (hA : cl.lookup ("a_digits" : Str) = some cA) (hI : cl.lookup ("inner" : Str) = some cI) (hN : cl.lookup ("n" : Str) = some cN) (hn : 0 < n) (hn' : n ≤ 100) :
    ∀ (d : Nat) {A : Around} {E : Value → Shared → Prop} {s : Shared} {Q : Value → Shared → Prop} {x L R : Nat} {tx tL tR : Tok} {vs : List Value} {ds : List Int} {m : Nat},
      Bs w mg mb (hid [D] s.heap) → Room A (d + 1) (3 * d + 3) → Nest s.heap f (fnMade name qual params body scope cl doc pm c' ctv) c' qual [(cA, .ref D), (cI, .ref f), (cN, .int n tn)] →
      s.heap.get? D = some (listOf vs.toArray m) → IntsAre vs ds → ds.length ≤ 1000 → L < R → R ≤ ds.length → R - L ≤ 2 ^ d → x < 2 ^ (n * (R - L)) → x < 2 ^ 64 →
      (∀ vs' m' h' tk', IntsAre vs' (ds.take L ++ digs n x (R - L) ++ ds.drop R) → h'.get? D = some (listOf vs'.toArray m') → Eff [D] s.heap h' → Q .none (sh s h' tk')) →
      wpAny (model prog w) A (call (.ref f) [.int x tx, .int L tL, .int R tR]) Q E s := by
  have hb' := Option.some.inj (hb.symm.trans (rfl : innOf (hd.heap_39 w.params) 62 = some _))
  cases hb'
  intro d
  induction d using Nat.strongRecOn with
  | _ d ih =>
  intro A E s Q x L R tx tL tR vs ds m X rm NN hD hi hlen hLR hR hd hx hx64 k
  have hDm : ∀ {b o}, s.heap.get? b = some o → (∀ a m, o.data ≠ .seq a m) → hid [D] s.heap b = some o := fun {b o} e q => hid_some.mpr ⟨fun q' => by
    rw [List.mem_singleton.mp q', hD] at e; cases e; exact q _ _ rfl, e⟩
  refine enterN [D] [(D, listOf vs.toArray m)] (d := d) (u := 3 * d) (binds := [("x", .int x tx), ("L", .int L tL), ("R", .int R tR)]) X rm NN.fn NN.code (BindsTo.of_eq rfl)
    (by intro p hp; rw [List.mem_singleton.mp hp]; exact hD) (by intro p hp; rw [List.mem_singleton.mp hp]; exact .head _) (by simp) ?_ (by decide) (locs rfl)
  intro L₀ h₁ t₁ env A' K E₀ hRt hNx hE S rm
  subst hE
  have S := S.lets (vars' := [("x", .int x tx), ("L", .int L tL), ("R", .int R tR)]) ⟨rfl, rfl, rfl, trivial⟩
  have N₁ := NN.eff S.eff hD
  refine wpAny_execs_cons (wpAny_If (wpAny_isTrue_Compare1 ?_))
  refine wpAny_BinOp (rLoc (s := sh s h₁ t₁) S rfl ?_)
  refine nInt fun _ _ => ?_
  refine nAdd rfl fun _ _ => ?_
  refine rLoc (s := sh s h₁ _) S rfl ?_
  refine eq_int (wpAny_truthy_bool (ifB (fun heq => ?_) fun hne => ?_))
  · have heq := beq_iff_eq.mp heq
    have e1 : R - L = 1 := by lia
    refine wpAny_execs_cons (wpAny_Assign_Subscript ?_)
    refine rLoc (s := sh s h₁ _) S rfl ?_
    obtain ⟨oA, hoA, hdA⟩ := N₁.cell (cA, .ref D) (by simp)
    refine rFree (s := sh s h₁ _) hA hoA hdA ?_
    refine rLoc (s := sh s h₁ _) S rfl ?_
    refine nSetItem S (by first | decide | lia) (by rw [hi.length]; lia) (by first | decide | lia) fun h₂ n₂ S => ?_
    refine wpAny_execs_cons (wpAny_Return_none ?_)
    refine hRt _ _ (k _ _ _ _ ?_ S.get S.eff)
    have e3 : ds.set L (x : Int) = ds.take L ++ digs n x (R - L) ++ ds.drop R := by
      rw [e1] at hx ⊢
      rw [digs_one (by simpa using hx), List.set_eq_take_append_cons_drop, if_pos (by first | decide | (exact Nat.lt_of_lt_of_le (by assumption) (by assumption))), show R = L + 1 by lia]
      simp
    rw [← e3]
    exact ints_set hi L
  · have hne : ((L : Int) + 1 == R) = false := hne
    have h2 : L + 1 ≠ R := fun q => by
      rw [← q] at hne; simp at hne
    obtain ⟨M, hM⟩ : ∃ M : Nat, (L + R) / 2 = M := ⟨_, rfl⟩
    obtain ⟨sh0, hs0⟩ : ∃ sh0 : Nat, n * (M - L) = sh0 := ⟨_, rfl⟩
    refine wpAny_execs_nil ?_
    refine wpAny_execs_cons (wpAny_Assign_Name ?_)
    refine wpAny_BinOp (wpAny_BinOp ?_)
    refine rLoc (s := sh s h₁ _) S rfl ?_
    refine rLoc (s := sh s h₁ _) S rfl ?_
    refine nAdd rfl fun _ _ => ?_
    refine nInt fun _ _ => ?_
    refine nShr (n := 1) (c := (M : Int)) rfl (by rw [← hM]; rfl) fun _ _ => ?_
    refine nSt S fun h₂ _ S => ?_
    refine wpAny_execs_cons (wpAny_Assign_Name ?_)
    refine wpAny_BinOp (wpAny_BinOp ?_)
    refine rLoc (s := sh s h₂ _) S rfl ?_
    refine rLoc (s := sh s h₂ _) S rfl ?_
    refine nSub (c := ((M - L : Nat) : Int)) (by first | decide | lia) fun _ _ => ?_
    have N₂ := NN.eff S.eff hD
    obtain ⟨oN, hoN, hdN⟩ := N₂.cell (cN, .int n tn) (by simp)
    refine rFree (s := sh s h₂ _) hN hoN hdN ?_
    refine nMul (c := (sh0 : Int)) (by rw [← hs0, Nat.mul_comm]; push_cast; rfl) (mul_ok (by first | decide | lia)) fun _ _ => ?_
    refine nSt S fun h₃ _ S => ?_
    refine wpAny_execs_cons (wpAny_Assign_Name ?_)
    refine wpAny_BinOp ?_
    refine rLoc (s := sh s h₃ _) S rfl ?_
    refine rLoc (s := sh s h₃ _) S rfl ?_
    refine nShr (n := sh0) (c := ((x / 2 ^ sh0 : Nat) : Int)) rfl (by push_cast; rfl) fun _ _ => ?_
    refine nSt S fun h₄ _ S => ?_
    refine wpAny_execs_cons (wpAny_Assign_Name ?_)
    refine wpAny_BinOp ?_
    refine rLoc (s := sh s h₄ _) S rfl ?_
    refine wpAny_BinOp ?_
    refine rLoc (s := sh s h₄ _) S rfl ?_
    refine rLoc (s := sh s h₄ _) S rfl ?_
    have hup : x / 2 ^ sh0 ≤ x := Nat.div_le_self _ _
    have hs100 : sh0 ≤ 100000 := by
      rw [← hs0]
      exact Nat.le_trans (Nat.mul_le_mul hn' (show M - L ≤ 1000 by lia)) (by decide)
    refine nShl (n := sh0) (c := ((x / 2 ^ sh0 * 2 ^ sh0 : Nat) : Int)) rfl hs100 (by rw [Int.natAbs_natCast]; (exact Nat.lt_of_le_of_lt (by assumption) (by assumption))) (by push_cast; rfl) fun _ _ => ?_
    refine nXor (xor_top x sh0) fun _ _ => ?_
    refine nSt S fun h₅ _ S => ?_
    have S := S.lets (vars' := [("x", .int x tx), ("L", .int L tL), ("R", .int R tR), ("mid", .int M _), ("upper", .int ((x / 2 ^ sh0 : Nat) : Int) _), ("lower", .int ((x % 2 ^ sh0 : Nat) : Int) _)]) ⟨rfl, rfl, rfl, rfl, rfl, rfl, trivial⟩
    have hd0 : 1 ≤ d := by
      rcases Nat.eq_zero_or_pos d with q | q
      · subst q; simp at hd; lia
      · exact q
    obtain ⟨d', rfl⟩ : ∃ d', d = d' + 1 := ⟨d - 1, by lia⟩
    rw [Nat.pow_succ] at hd
    have hs0' : 2 ^ (n * (M - L)) = 2 ^ sh0 := by rw [hs0]
    have hlow : x % 2 ^ sh0 < 2 ^ (n * (M - L)) := by rw [hs0']; exact Nat.mod_lt _ (Nat.two_pow_pos _)
    have hupp : x / 2 ^ sh0 < 2 ^ (n * (R - M)) := by
      rw [Nat.div_lt_iff_lt_mul (Nat.two_pow_pos _), ← hs0, ← Nat.pow_add, ← Nat.mul_add, show R - M + (M - L) = R - L by lia]
      exact hx
    have hlo : x % 2 ^ sh0 ≤ x := Nat.mod_le _ _
    have N₅ := NN.eff S.eff hD
    refine wpAny_execs_cons (wpAny_Expr ?_)
    obtain ⟨oI, hoI, hdI⟩ := N₅.cell (cI, .ref f) (by simp)
    refine nCallF hI hoI hdI N₅.fn rfl ?_
    refine wpAny_items_cons (rLoc (s := sh s h₅ _) S rfl ?_)
    refine wpAny_items_cons (rLoc (s := sh s h₅ _) S rfl ?_)
    refine wpAny_items_cons (rLoc (s := sh s h₅ _) S rfl ?_)
    refine wpAny_items_nil ⟨N₅.fn, ?_⟩
    refine ih d' (Nat.lt_succ_self _) (s := sh s h₅ _) (L := L) (R := M) (S.bsM (ob := [(D, _)]) X) (rm.less (by first | decide | lia) (by first | decide | lia)) N₅ S.get hi hlen (by first | decide | lia) (by first | decide | lia) (by first | decide | lia) hlow (by first | decide | omega) fun vs₁ m₁ h₆ _ hi₁ hD₁ eff₁ => ?_
    have S := St.call (ob := [(D, _)]) (ob' := [(D, listOf vs₁.toArray m₁)]) S eff₁ (fun p hp => by rw [List.mem_singleton.mp hp]; exact hD₁) (fun p hp => .inl (by rw [List.mem_singleton.mp hp]; exact .head _)) (by simp)
    have hlen₁ : (ds.take L ++ digs n (x % 2 ^ sh0) (M - L) ++ ds.drop M).length = ds.length := by
      rw [List.length_append, List.length_append, digs_len, List.length_take, List.length_drop]; omega
    have N₆ := NN.eff S.eff hD
    refine wpAny_execs_cons (wpAny_Expr ?_)
    obtain ⟨oI, hoI, hdI⟩ := N₆.cell (cI, .ref f) (by simp)
    refine nCallF (s := s) hI hoI hdI N₆.fn rfl ?_
    refine wpAny_items_cons (rLoc (s := sh s h₆ _) S rfl ?_)
    refine wpAny_items_cons (rLoc (s := sh s h₆ _) S rfl ?_)
    refine wpAny_items_cons (rLoc (s := sh s h₆ _) S rfl ?_)
    refine wpAny_items_nil ⟨N₆.fn, ?_⟩
    refine ih d' (Nat.lt_succ_self _) (s := sh s h₆ _) (L := M) (R := R) (S.bsM (ob := [(D, _)]) X) (rm.less (by first | decide | omega) (by first | decide | omega)) N₆ S.get hi₁ (by first | decide | omega) (by first | decide | omega) (by first | decide | omega) (by first | decide | omega) hupp (by first | decide | omega) fun vs₂ m₂ h₇ _ hi₂ hD₂ eff₂ => ?_
    refine wpAny_execs_nil ?_
    refine hNx _ (k vs₂ m₂ h₇ _ ?_ hD₂ (S.eff.trans eff₂))
    rw [splice1 (by first | decide | omega) (by first | decide | omega) hR (digs_len _ _ _)] at hi₂
    have e : digs n x (R - L) = digs n (x % 2 ^ sh0) (M - L) ++ digs n (x / 2 ^ sh0) (R - M) := by
      rw [show R - L = (M - L) + (R - M) by omega, digs_add, hs0]
    rw [e]; exact hi₂
end
end Mine

/-! part I2e -/
namespace Mine
theorem CellsAre.three {cm : Str → Option Value} {n n' n2 : Str} {c c' c2 : Addr} {cells : List (Addr × Obj)} (x : CellsAre cm [(n, c), (n', c'), (n2, c2)] cells) :
    ∃ o o' o2, cells = [(c, o), (c', o'), (c2, o2)] ∧ o.data = .cell (cm n) ∧ o'.data = .cell (cm n') ∧ o2.data = .cell (cm n2) := by
  cases x with | cons h r => obtain ⟨o', o2, rfl, h', h2⟩ := r.two; exact ⟨_, o', o2, rfl, h, h', h2⟩
/-- what a call gives back to the one who called -/
structure Ret (ob ob' : List (Addr × Obj)) (h h' : Heap) : Prop where
  eff : Eff (ob.map (·.1)) h h'
  own : ∀ p ∈ ob', h'.get? p.1 = some p.2
  new : ∀ p ∈ ob', p.1 ∈ ob.map (·.1) ∨ h.get? p.1 = none
  nd : (ob'.map (·.1)).Nodup
theorem St.ret {B : Bas} {L : Addr} {h h' : Heap} {vars : List (Str × Value)} {l ob ob' : List (Addr × Obj)} (S : St B L h vars (ob ++ l)) (R : Ret ob ob' h h') : St B L h' vars (ob' ++ l) := S.call R.eff R.own R.new R.nd
theorem St.toRet {L : Addr} {h h' : Heap} {vars : List (Str × Value)} {l ob ob' : List (Addr × Obj)} (S : St (hid (ob.map (·.1)) h) L h' vars (ob' ++ l)) : Ret ob ob' h h' := by
  have F := S.front
  refine ⟨F.eff, F.own, fun p hp => ?_, F.nodup⟩
  by_cases q : p.1 ∈ ob.map (·.1)
  · exact .inl q
  · refine .inr ?_
    have := F.sep p hp
    cases e : h.get? p.1 with
    | none => rfl
    | some o => rw [hid_some.mpr ⟨q, e⟩] at this; cases this
/-- what must stand ahead of a call that writes ob -/
structure Pre (ob : List (Addr × Obj)) (h : Heap) : Prop where
  own : ∀ p ∈ ob, h.get? p.1 = some p.2
  nd : (ob.map (·.1)).Nodup
theorem St.pre {B : Bas} {L : Addr} {h : Heap} {vars : List (Str × Value)} {l ob : List (Addr × Obj)} (S : St B L h vars (ob ++ l)) : Pre ob h := ⟨S.front.own, S.front.nodup⟩
theorem Pre.mem {ob : List (Addr × Obj)} {h : Heap} (P : Pre ob h) : ∀ p ∈ ob, p.1 ∈ ob.map (·.1) := fun _ hp => List.mem_map_of_mem hp
def q62 : Str := "_int2digits.<locals>.inner"
def p62 : Pos := ⟨79, 4, 88, 28⟩
abbrev T57 := TabL 57 q62 p62
def bl (a : Nat) : Nat := Builtin.Int.intBits (a : Int)
theorem lt_bl (a : Nat) : a < 2 ^ bl a := by
  have := (intBits_le_iff (m := bl a) (x := (a : Int))).mp (Nat.le_refl _)
  simpa using this
theorem bl_le {a m : Nat} (h : a < 2 ^ m) : bl a ≤ m := (intBits_le_iff (m := m) (x := (a : Int))).mpr (by simpa using h)
theorem bl_zero : bl 0 = 0 := by decide
theorem bl_pos {a : Nat} (h : 0 < a) : 1 ≤ bl a := by
  rcases Nat.eq_zero_or_pos (bl a) with q | q
  · have := lt_bl a
    rw [q] at this; simp at this; lia
  · exact q
theorem ints_rep (n : Nat) (x : Int) (t : Tok) : IntsAre (List.replicate n (.int x t)) (List.replicate n x) := by
  induction n with
  | zero => exact .nil
  | succ n ih => exact .cons x t ih
def nd (n a : Nat) : Nat := (bl a + n - 1) / n
theorem nd_le {n a : Nat} (hn : 0 < n) (h : a < 2 ^ 64) : nd n a ≤ 64 := by
  unfold nd
  have hb := bl_le h
  have : (bl a + n - 1) / n ≤ (64 * n) / n := Nat.div_le_div_right (by have : 64 * n ≥ 64 - 1 + n := (by first | decide | lia); lia)
  rw [Nat.mul_div_cancel _ hn] at this
  exact this
theorem lt_nd {n a : Nat} (hn : 0 < n) : a < 2 ^ (n * nd n a) := by
  refine Nat.lt_of_lt_of_le (lt_bl a) (Nat.pow_le_pow_right (by decide) ?_)
  unfold nd
  have := Nat.div_add_mod (bl a + n - 1) n
  have := Nat.mod_lt (bl a + n - 1) hn
  omega
theorem nd_pos {n a : Nat} (hn : 0 < n) (ha : 0 < a) : 0 < nd n a := by
  unfold nd
  have := bl_pos ha
  exact Nat.div_pos (by first | decide | omega) hn
theorem nd_zero {n : Nat} : nd n 0 = 0 := by
  unfold nd
  rw [bl_zero]
  rcases Nat.eq_zero_or_pos n with q | q
  · subst q; rfl
  · exact Nat.div_eq_of_lt (by first | decide | omega)
theorem envG {qual : Str} {scope : Scope} {L f : Addr} {cdv : Value} : (envOfC qual scope L f cdv).globals = mainGlobals := rfl
set_option maxHeartbeats 4000000
section
variable {prog : Program} {w : World} {mg mb : Str → Option Value} {A : Around} {E : Value → Shared → Prop} {s : Shared} {Q : Value → Shared → Prop}
theorem int2digits_at {tb : List (Addr × Obj)} {a n : Nat} {ta tn : Tok} (X : Bs w mg mb (hid (tb.map (·.1)) s.heap)) (rm : Room A 8 24) (T : T57 tb) (P : Pre tb s.heap) (hn : 0 < n) (hn' : n ≤ 100) (ha : a < 2 ^ 64)
    (k : ∀ D vs m tb' h' tk', IntsAre vs (digs n a (nd n a)) → T57 tb' → Ret tb ((D, listOf vs.toArray m) :: tb') s.heap h' → Q (.ref D) (sh s h' tk')) :
    wpAny (model prog w) A (call (.ref 62) [.int a ta, .int n tn]) Q E s := by
  refine' enterC (d := 7) (u := 21) (binds := [("a", .int a ta), ("n", .int n tn)]) (vars := [("a", .int a ta)]) (tb.map (·.1)) tb X rm ?ho ?hcd ?hb P.own P.mem P.nd ?hv ?_ ?hk ?hn ?c1 ?c2 ?c3
  case ho => exact rfl
  case hcd => exact rfl
  case hb => exact fun Y => BindsTo.peek Y fun _ => rfl
  case hv => exact fun L => ⟨rfl, trivial⟩
  case hk => exact rfl
  case hn => decide +kernel
  case c1 => exact rfl
  case c2 => exact rfl
  case c3 => exact rfl
  intro L h₁ t₁ env cells A' K E₀ hR hN hE CA S rm
  subst hE
  obtain ⟨oI, oA, oN, rfl, hoI, hoA, hoN⟩ := CellsAre.three CA
  have hoN : oN.data = .cell (some (.int n tn)) := hoN
  have hoA : oA.data = .cell none := hoA
  have hoI : oI.data = .cell none := hoI
  refine wpAny_execs_cons ?_
  refine wpAny_Assign_Name ?_ ?hsw
  case hsw => exact rfl
  refine wpAny_BinOp ?_
  refine nList ?_
  refine wpAny_items_cons (nInt fun u₀ _ => ?_)
  refine wpAny_items_nil ⟨_, _, _, _, _, _, rfl, S, by show 1 ≤ 1000; decide, fun D₀ h₂ S => ?_⟩
  refine wpAny_BinOp (wpAny_BinOp (wpAny_BinOp ?_))
  refine nBits (rLoc (s := sh s h₂ _) S rfl ⟨_, _, _, _, rfl, rfl, fun _ _ => ?_⟩)
  refine rCell (s := sh s h₂ _) (c := L + 1) rfl (S.own (L + 1, oN) (by simp)) hoN ?_
  refine nAdd (c := ((bl a + n : Nat) : Int)) (by push_cast; rfl) fun _ _ => ?_
  refine nInt fun _ _ => ?_
  refine nSub (c := ((bl a + n - 1 : Nat) : Int)) (by first | decide | lia) fun _ _ => ?_
  refine rCell (s := sh s h₂ _) (c := L + 1) rfl (S.own (L + 1, oN) (by simp)) hoN ?_
  refine nDiv (c := ((nd n a : Nat) : Int)) (by first | decide | lia) (by unfold nd; push_cast; rfl) (PyProof.noPylong_small (by first | decide | (exact Nat.lt_of_le_of_lt (by assumption) (by decide)))) fun _ _ => ?_
  have hnd := nd_le hn ha
  refine nMulL1 S S.get (by first | decide | lia) (by first | decide | lia) fun D h₃ S => ?_
  rw [Int.toNat_natCast] at S
  refine nCellSt (x := "a_digits") (c := L + 1 + 1) (S.drop2.mid (l := [_, _])) rfl hoA fun oA' h₄ hoA' S => ?_
  refine wpAny_execs_cons ?_
  refine nestDef_K rfl rfl rfl ?_
  refine nMake (c := 61) (tb := tb) (l := [(L + 1 + 1, oA'), (D, listOf (List.replicate (nd n a) (.int 0 u₀)).toArray 0), (L + 1 + 1 + 1, oI), (L + 1, oN)]) (S.perm (List.perm_append_comm (l₁ := [_, _, _, _]))) X T (fun _ Y => Y.c2) rfl rfl rfl ?_
  intro f c' doc pm ctv tb' h₅ t₅ S T' C'
  have S := S.perm (.cons _ List.perm_append_comm)
  refine nCellSt (x := "inner") (c := L + 1 + 1 + 1) (S.mid (l := [_, _, _])) rfl hoI fun oI' h₆ hoI' S => ?_
  have S := S.mid (l := [_, _, _])
  have hX : ∀ {h : Heap} {vars l} {fo : Obj}, (∃ fd, fo.data = .func fd) → St (hid (tb.map (·.1)) s.heap) L h vars ((D, l) :: (L + 1 + 1 + 1, oI') :: (f, fo) :: (L + 1 + 1, oA') :: (L + 1, oN) :: tb') → Nest h f fo c' q62 [(L + 1 + 1, .ref D), (L + 1 + 1 + 1, .ref f), (L + 1, .int n tn)] := fun {h vars l fo} hfo S =>
    ⟨S.own (f, fo) (by simp), hfo, C'.rec' fun p hp => S.own p (by simp [hp]), fun p hp => by
      simp only [List.mem_cons, List.not_mem_nil, or_false] at hp
      rcases hp with rfl | rfl | rfl
      · exact ⟨oA', S.own (L + 1 + 1, oA') (by simp), hoA'⟩
      · exact ⟨oI', S.own (L + 1 + 1 + 1, oI') (by simp), hoI'⟩
      · exact ⟨oN, S.own (L + 1, oN) (by simp), hoN⟩⟩
  have fin : ∀ {h₇ vs m t₇} {fo : Obj}, St (hid (tb.map (·.1)) s.heap) L h₇ [("a", .int a ta)] ((D, listOf vs.toArray m) :: (L + 1 + 1 + 1, oI') :: (f, fo) :: (L + 1 + 1, oA') :: (L + 1, oN) :: tb') → IntsAre vs (digs n a (nd n a)) → Q (.ref D) (sh s h₇ t₇) := fun {h₇ vs m t₇ fo} S hi => by
    have S := S.perm (List.Perm.cons _ (List.perm_append_comm (l₁ := [_, _, _, _])))
    exact (k D vs m tb' h₇ _ hi T' (St.toRet (ob' := (D, listOf vs.toArray m) :: tb') S))
  refine wpAny_execs_cons (wpAny_If (wpAny_isTrue_value ?_))
  refine rLoc (s := sh s h₆ _) S rfl ?_
  refine PyProof.Rows.truthy_int (ifB (fun h0 => ?_) fun h0 => ?_)
  · have h0 : 0 < a := by
      rcases Nat.eq_zero_or_pos a with q | q
      · subst q; simp at h0
      · exact q
    refine wpAny_execs_cons (wpAny_Expr ?_)
    have N₆ := hX ⟨_, rfl⟩ S
    refine nCallC (x := "inner") (c := L + 1 + 1 + 1) rfl (S.own (L + 1 + 1 + 1, oI') (by simp)) hoI' N₆.fn rfl ?_
    refine wpAny_items_cons (rLoc (s := sh s h₆ _) S rfl ?_)
    refine wpAny_items_cons (nInt fun _ _ => ?_)
    refine wpAny_items_cons ?_
    refine rCallB (s := sh s h₆ _) S X (n_len _) boot_len ?_
    refine wpAny_items_cons (rCell (s := sh s h₆ _) (c := L + 1 + 1) rfl (S.own (L + 1 + 1, oA') (by simp)) hoA' ?_)
    refine wpAny_items_nil ?_
    refine nLen S.get (by simp; (exact Nat.le_trans (by assumption) (by decide))) fun _ _ => ?_
    refine wpAny_items_nil ⟨N₆.fn, ?_⟩
    have hnp := nd_pos hn h0
    have hsz : ((List.replicate (nd n a) (Value.int 0 u₀)).toArray.size : Int) = ((nd n a : Nat) : Int) := by simp
    rw [hsz]
    refine inner62 (s := sh s h₆ _) (L := 0) (R := nd n a) (n := n) (tn := tn) rfl rfl rfl rfl hn hn' 6 (S.bsM (ob := [(D, _)]) X) (rm.less (by first | decide | omega) (by first | decide | omega)) N₆ S.get (ints_rep _ 0 _) (by simp; (exact Nat.le_trans (by assumption) (by decide))) hnp (by simp) (by simpa using hnd) (by simpa using lt_nd hn) ha fun vs₁ m₁ h₇ _ hi₁ hD₁ eff₁ => ?_
    have S := St.call (ob := [(D, _)]) (ob' := [(D, listOf vs₁.toArray m₁)]) S eff₁ (fun p hp => by rw [List.mem_singleton.mp hp]; exact hD₁) (fun p hp => .inl (by rw [List.mem_singleton.mp hp]; exact .head _)) (by simp)
    have hi₁ : IntsAre vs₁ (digs n a (nd n a)) := by simpa using hi₁
    refine wpAny_execs_nil ?_
    refine wpAny_execs_cons (wpAny_Return_some ?_)
    refine rCell (s := sh s h₇ _) (c := L + 1 + 1) rfl (S.own (L + 1 + 1, oA') (by simp)) hoA' ?_
    exact hR _ _ (fin S hi₁)
  · have h0 : a = 0 := by simpa using h0
    subst h0
    refine wpAny_execs_nil ?_
    refine wpAny_execs_cons (wpAny_Return_some ?_)
    refine rCell (s := sh s h₆ _) (c := L + 1 + 1) rfl (S.own (L + 1 + 1, oA') (by simp)) hoA' ?_
    exact hR _ _ (fin S (by rw [nd_zero]; exact .nil))
end
end Mine

/-! part Fw15 -/
namespace Mine
section
variable {M : Model} {A : Around} {E : Value → Shared → Prop} {s : Shared} {Q : Unit → Shared → Prop}
theorem aio_nil {xs : List Value} (h : Q () s) : wpAny M A (assignInOrder [] xs) Q E s := wpAny_pure h
theorem aio_cons {t : Value → Sem Unit} {ts : List (Value → Sem Unit)} {x : Value} {xs : List Value} (h : wpAny M A (t x) (fun _ s₁ => wpAny M A (assignInOrder ts xs) Q E s₁) E s) : wpAny M A (assignInOrder (t :: ts) (x :: xs)) Q E s :=
  wpAny_bind (wpAny_holding (wpAny_mono h (fun _ _ x => x) fun _ _ x => x))
end
theorem ext_new {h h' : Heap} (x : Heap.ExtBut h.objs.size h h') : Ext h h' := fun b o e => x b o (Nat.ne_of_lt (Heap.lt_size e)) e
abbrev enumO (it : Addr) : Obj := { cls := .type "enumerate", dict := none, data := .fields #[.none, .bool false, .ref it, rawInt 0, .none, .none], slots := #[] }
section
variable {prog : Program} {w : World} {A : Around} {E : Value → Shared → Prop} {s : Shared} {h : Heap} {t : Nat} {env : Env} {B : Bas} {L : Addr} {vars : List (Str × Value)} {l : List (Addr × Obj)} {Q : Value → Shared → Prop}
theorem isT {a : Addr} {its : Array Value} (ha : h.get? a = some (tupO its)) : h.IsTuple a its := ⟨_, ha, rfl, _, rfl⟩
theorem nUnp {elts : List Expr} {n : Nat} {pos : Pos} {T : Addr} {vs : List Value} {R : Unit → Shared → Prop} (hh : A.handled = none) (hT : h.IsTuple T vs.toArray)
    (hn : (assignEach elts env).length = vs.length) (hstar : (assignEach elts env).findIdx? (·.1) = none)
    (k : ∀ h', Ext h h' → wpAny (model prog w) A (assignInOrder ((assignEach elts env).map (·.2)) vs) R E (sh s h' t)) :
    wpAny (model prog w) A (assign (.Tuple elts n pos) env (.ref T)) R E (sh s h t) :=
  wpAny_assign_Tuple (s := sh s h t) hh hT (by rw [hn]; simp) hstar fun h' hx => by
    have := k h' (ext_new hx)
    simpa using this
theorem nTruthL {a : Addr} {vs : List Value} {n : Nat} {R : Bool → Shared → Prop} (ha : h.get? a = some (listOf vs.toArray n)) (hz : vs.length ≤ 1000) (k : ∀ v, R (!vs.isEmpty) (sh s h v)) : wpAny (model prog w) A (truthy (.ref a)) R E (sh s h t) := by
  refine wpAny_truthy_list (s := sh s h t) (isL ha) (by rw [List.size_toArray]; lia) ?_
  have e : (!vs.toArray.isEmpty) = (!vs.isEmpty) := by simp
  rw [e]; exact k _
theorem nDivmod {a b : Int} {u v : Tok} (S : St B L h vars l) (hb : b ≠ 0) (hs : b.natAbs < 1000000) (k : ∀ D u v h' t', St B L h' vars ((D, tupO [.int (a.fdiv b) u, .int (a.fmod b) v].toArray) :: l) → Q (.ref D) (sh s h' t')) :
    wpAny (model prog w) A (call (.builtin "divmod") [.int a u, .int b v]) Q E (sh s h t) :=
  divmod_int (s := sh s h t) hb (k _ _ _ _ _ (S.push _)) (.inl (PyProof.noPylong_small (by first | decide | (exact Nat.lt_of_lt_of_le (by assumption) (by decide)))))
theorem nReversed {a : Addr} {its : Array Value} {n : Nat} (S : St B L h vars l) (ha : h.get? a = some (listOf its n)) (k : ∀ I h', St B L h' vars ((I, revObj a ((its.size : Int) - 1)) :: l) → Q (.ref I) (sh s h' t)) :
    wpAny (model prog w) A (call (.type "reversed") [.ref a]) Q E (sh s h t) := call_reversed_list (s := sh s h t) (isL ha) (k _ _ (S.push _))
theorem nEnum {a : Addr} {its : Array Value} {n : Nat} (S : St B L h vars l) (ha : h.get? a = some (listOf its n)) (k : ∀ e it oit h', St B L h' vars ((e, enumO it) :: (it, oit) :: l) → h'.IsListIter it a 0 → Q (.ref e) (sh s h' t)) :
    wpAny (model prog w) A (call (.type "enumerate") [.ref a]) Q E (sh s h t) := by
  refine call_enumerate_1 (s := sh s h t) ha fun h' he hit hz hk => ?_
  obtain ⟨oit, ho, hc, hd⟩ := id hit
  have hzz : (sh s h t).heap.objs.size = h.objs.size := rfl
  have S' := St.news (ob' := [((sh s h t).heap.objs.size + 1, enumO (sh s h t).heap.objs.size), ((sh s h t).heap.objs.size, oit)]) S hk (fun p hp => by
    rcases List.mem_cons.mp hp with rfl | hp
    · exact he
    · rw [List.mem_singleton.mp hp]; exact ho) (fun p hp => by
    rcases List.mem_cons.mp hp with rfl | hp
    · exact gone_of_le (Nat.le_succ _)
    · rw [List.mem_singleton.mp hp]; exact gone_of_le (Nat.le_refl _)) (by simp)
  exact k _ _ _ _ S' hit
end
section
variable {prog : Program} {w : World} {A : Around} {E : Value → Shared → Prop} {s : Shared} {env : Env} {B : Bas} {L : Addr} {vars : List (Str × Value)} {l fx : List (Addr × Obj)} {Q : Flow → Shared → Prop}
theorem rForV {target : Expr} {body orelse : List Stmt} {a I : Addr} {its : Array Value} {n : Nat} {x : Str} {px : Pos} (ht : target = .Name x px) (hh : A.handled = none) (J : Nat → List (Str × Value) → List (Addr × Obj) → Prop)
    (S : St B L s.heap vars (l ++ (fx ++ [(I, revObj a ((its.size : Int) - 1))]))) (ha : (a, listOf its n) ∈ fx) (h0 : J 0 vars l)
    (turn : ∀ i v vars l rest h t E', its[its.size - 1 - i]? = some v → i < its.size → J i vars l → (∀ p ∈ fx, p ∈ rest) → St B L h vars (l ++ rest) →
      ∀ K : Flow → Shared → Prop, (∀ h' t' vars' l', J (i + 1) vars' l' → St B L h' vars' (l' ++ rest) → K .next (sh s h' t')) → (∀ s', Q .next s' → K .brk s') → (∀ v s', Q (.ret v) s' → K (.ret v) s') → wpAny (model prog w) A (assign target env v) (fun _ s₂ => wpAny (model prog w) A (execs body env) K E' s₂) E' (sh s h t))
    (done : ∀ vars l h t E', J its.size vars l → St B L h vars (l ++ fx) → wpAny (model prog w) A (execs orelse env) (fun f s₃ => Q f s₃) E' (sh s h t)) :
    wpAny (model prog w) A (pyIter (.ref I)) (ForAt prog w A E env target body orelse Q) E s := by
  subst ht
  have hget := S.own (a, listOf its n) (List.mem_append_right _ (List.mem_append_left _ ha))
  have hI := S.own (I, revObj a ((its.size : Int) - 1)) (List.mem_append_right _ (List.mem_append_right _ (.head _)))
  have hne : a ≠ I := fun q => by
    subst q
    rw [hget] at hI
    have := congrArg Obj.cls (Option.some.inj hI)
    simp [revObj] at this
  refine wpAny_pyIter_revIter ⟨_, hI, rfl, rfl⟩ ?_
  refine rForI (Itr.rev hh I a hne its) fx J (fun b hb => ?_) (ob := [(I, revObj a ((its.size : Int) - 1))]) rfl h0 S ⟨Nat.zero_le _, ⟨_, hI, rfl, by simp [revObj]⟩, isL hget⟩ (fun i v vars l rest h t E' hi hJ hr hP S => turn i v vars l rest h t E' hP hi hJ hr S) done
  rcases List.mem_cons.mp hb with rfl | hb
  · exact .inl (.head _)
  · rw [List.mem_singleton.mp hb]
    exact .inr (.inl (List.mem_map_of_mem ha))
theorem rForE {elts : List Expr} {kk : Nat} {tp : Pos} {body orelse : List Stmt} {a e it : Addr} {oit : Obj} {its : Array Value} {n : Nat} (hh : A.handled = none) (J : Nat → List (Str × Value) → List (Addr × Obj) → Prop)
    (S : St B L s.heap vars (l ++ (fx ++ [(e, enumO it), (it, oit)]))) (hit : s.heap.IsListIter it a 0) (ha : (∃ n, B a = some (listOf its n)) ∨ ∃ n, (a, listOf its n) ∈ fx) (h0 : J 0 vars l)
    (turn : ∀ i x T tt vars l rest h t E', its[i]? = some x → J i vars l → (∀ p ∈ fx, p ∈ rest) → h.IsTuple T [.int i tt, x].toArray → St B L h vars (l ++ rest) →
      ∀ K : Flow → Shared → Prop, (∀ h' t' vars' l', J (i + 1) vars' l' → St B L h' vars' (l' ++ rest) → K .next (sh s h' t')) → (∀ s', Q .next s' → K .brk s') → (∀ v s', Q (.ret v) s' → K (.ret v) s') → wpAny (model prog w) A (assign (.Tuple elts kk tp) env (.ref T)) (fun _ s₂ => wpAny (model prog w) A (execs body env) K E' s₂) E' (sh s h t))
    (done : ∀ vars l h t E', J its.size vars l → St B L h vars (l ++ fx) → wpAny (model prog w) A (execs orelse env) (fun f s₃ => Q f s₃) E' (sh s h t)) :
    wpAny (model prog w) A (pyIter (.ref e)) (ForAt prog w A E env (.Tuple elts kk tp) body orelse Q) E s := by
  have he := S.own (e, enumO it) (List.mem_append_right _ (List.mem_append_right _ (.head _)))
  have hio := S.own (it, oit) (List.mem_append_right _ (List.mem_append_right _ (.tail _ (.head _))))
  have hget : ∃ n, s.heap.get? a = some (listOf its n) := by
    rcases ha with ⟨n, e⟩ | ⟨n, e⟩
    · exact ⟨n, S.keep _ _ e⟩
    · exact ⟨n, S.own _ (List.mem_append_right _ (List.mem_append_left _ e))⟩
  obtain ⟨n, hget⟩ := hget
  have hei : e ≠ it := fun q => by
    subst q
    obtain ⟨o, h1, h2, _⟩ := hit
    rw [he] at h1; cases h1
    simp at h2
  have hae : a ≠ e := fun q => by
    subst q
    rw [hget] at he
    have := congrArg Obj.cls (Option.some.inj he)
    simp at this
  have hai : a ≠ it := fun q => by
    subst q
    obtain ⟨o, h1, h2, _⟩ := hit
    rw [hget] at h1; cases h1
    simp at h2
  refine wpAny_pyIter_enum (old := .none) (i := 0) (it := it) he ?_
  refine rForI (Itr.ofU (WalksT.enumerate hh e it a hei hae hai its).toU fun i h z b hb => ?_) fx J (fun b hb => ?_) (ob := [(e, enumO it), (it, oit)]) rfl h0 S ⟨⟨.none, he⟩, hit, isL hget⟩ (fun i v vars l rest h t E' hi hJ hr hP S => ?_) done
  · obtain ⟨⟨old, z1⟩, ⟨o, z2, _⟩, _⟩ := z
    rcases List.mem_cons.mp hb with rfl | hb
    · exact ⟨_, z1⟩
    · rw [List.mem_singleton.mp hb]; exact ⟨_, z2⟩
  · rcases List.mem_cons.mp hb with rfl | hb
    · exact .inl (.head _)
    · rcases List.mem_cons.mp hb with rfl | hb
      · exact .inl (.tail _ (.head _))
      · rw [List.mem_singleton.mp hb]
        rcases ha with ⟨n, e⟩ | ⟨n, e⟩
        · exact .inr (.inr ⟨_, e⟩)
        · exact .inr (.inl (List.mem_map_of_mem e))
  · obtain ⟨T, vals, rfl, ⟨tt, x, hx, rfl⟩, hT⟩ := hP
    exact turn i x T tt vars l rest h t E' hx hJ hr hT S
/-! lists of triples -/
inductive TripL : List (Addr × Obj) → List (Int × Int × Int) → Prop
  | nil : TripL [] []
  | cons {T : Addr} {a b c : Int} {u v w : Tok} {tl : List (Addr × Obj)} {ts : List (Int × Int × Int)} : TripL tl ts → TripL ((T, tupO [.int a u, .int b v, .int c w].toArray) :: tl) ((a, b, c) :: ts)
theorem TripL.snoc {T : Addr} {a b c : Int} {u v w : Tok} {tl : List (Addr × Obj)} {ts : List (Int × Int × Int)} (h : TripL tl ts) : TripL (tl ++ [(T, tupO [.int a u, .int b v, .int c w].toArray)]) (ts ++ [(a, b, c)]) := by
  induction h with
  | nil => exact .cons .nil
  | cons _ ih => exact .cons ih
theorem TripL.length {tl : List (Addr × Obj)} {ts : List (Int × Int × Int)} (h : TripL tl ts) : tl.length = ts.length := by
  induction h with
  | nil => rfl
  | cons _ ih => simp [ih]
theorem TripL.append {tl tl' : List (Addr × Obj)} {ts ts' : List (Int × Int × Int)} (h : TripL tl ts) (h' : TripL tl' ts') : TripL (tl ++ tl') (ts ++ ts') := by
  induction h with
  | nil => exact h'
  | cons _ ih => exact .cons ih
theorem TripL.reverse {tl : List (Addr × Obj)} {ts : List (Int × Int × Int)} (h : TripL tl ts) : TripL tl.reverse ts.reverse := by
  induction h with
  | nil => exact .nil
  | cons _ ih => rw [List.reverse_cons, List.reverse_cons]; exact ih.append (.cons .nil)
theorem TripL.at {tl : List (Addr × Obj)} {ts : List (Int × Int × Int)} (h : TripL tl ts) (i : Nat) (hi : i < tl.length) : ∃ a b c u v w, ts[i]? = some (a, b, c) ∧ tl[i].2 = tupO [.int a u, .int b v, .int c w].toArray := by
  induction h generalizing i with
  | nil => exact absurd hi (Nat.not_lt_zero _)
  | cons _ ih =>
    cases i with
    | zero => exact ⟨_, _, _, _, _, _, rfl, rfl⟩
    | succ i => exact ih i (Nat.lt_of_succ_lt_succ hi)
abbrev refs (tl : List (Addr × Obj)) : List Value := tl.map fun p => .ref p.1
end
end Mine

/-! part D2i -/
namespace Mine
/-! plain: the number of figures -/
def val (n : Nat) : List Int → Int
  | [] => 0
  | d :: r => d + 2 ^ n * val n r
theorem val_append (n : Nat) : ∀ p q : List Int, val n (p ++ q) = val n p + 2 ^ (n * p.length) * val n q
  | [], q => by simp [val]
  | d :: r, q => by
    show d + 2 ^ n * val n (r ++ q) = d + 2 ^ n * val n r + 2 ^ (n * (r.length + 1)) * val n q
    rw [val_append n r q, Nat.mul_add, Nat.mul_one, Int.pow_add, Int.mul_add, ← Int.mul_assoc, Int.mul_comm (2 ^ n) (2 ^ (n * r.length))]
    lia
theorem val_bound (n : Nat) : ∀ p : List Int, (∀ d ∈ p, 0 ≤ d ∧ d < 2 ^ n) → 0 ≤ val n p ∧ val n p < 2 ^ (n * p.length)
  | [], _ => ⟨Int.le_refl _, by simp [val]⟩
  | d :: r, h => by
    have h1 := h d (.head _)
    have h2 := val_bound n r fun d hd => h d (.tail _ hd)
    have hp : (0 : Int) < 2 ^ n := Int.pow_pos (by decide)
    have e : (2 : Int) ^ (n * (r.length + 1)) = 2 ^ n * 2 ^ (n * r.length) := by rw [Nat.mul_add, Nat.mul_one, Int.pow_add, Int.mul_comm]
    show 0 ≤ d + 2 ^ n * val n r ∧ d + 2 ^ n * val n r < 2 ^ (n * (r.length + 1))
    rw [e]
    have h3 : 0 ≤ 2 ^ n * val n r := Int.mul_nonneg (by first | decide | lia) h2.1
    have h4 : 2 ^ n * (val n r + 1) ≤ 2 ^ n * 2 ^ (n * r.length) := Int.mul_le_mul_of_nonneg_left (by first | decide | lia) (by first | decide | lia)
    rw [Int.mul_add, Int.mul_one] at h4
    omega
def seg (ds : List Int) (L R : Nat) : List Int := (ds.drop L).take (R - L)
theorem seg_len {ds : List Int} {L R : Nat} (h : R ≤ ds.length) : (seg ds L R).length = R - L := by unfold seg; rw [List.length_take, List.length_drop]; lia
theorem seg_split {ds : List Int} {L M R : Nat} (h1 : L ≤ M) (h2 : M ≤ R) : seg ds L R = seg ds L M ++ seg ds M R := by
  unfold seg
  rw [show R - L = (M - L) + (R - M) by lia, List.take_add, List.drop_drop, show L + (M - L) = M by lia]
theorem seg_one {ds : List Int} {L : Nat} (h : L < ds.length) : seg ds L (L + 1) = [ds[L]] := by
  unfold seg
  rw [show L + 1 - L = 1 by lia, List.drop_eq_getElem_cons h]; rfl
theorem seg_mem {ds : List Int} {L R : Nat} {d : Int} (h : d ∈ seg ds L R) : d ∈ ds := List.mem_of_mem_drop (List.mem_of_mem_take h)
theorem seg_all (ds : List Int) : seg ds 0 ds.length = ds := by unfold seg; simp
theorem Nest.here {h h' : Heap} {f c' : Addr} {fo : Obj} {qual : Str} {cells : List (Addr × Value)} {L : Addr} {vars : List (Str × Value)} {l : List (Addr × Obj)} (N : Nest h f fo c' qual cells) (S : St (hid [] h) L h' vars l) : Nest h' f fo c' qual cells := N.ext S.eff.ext
set_option maxHeartbeats 4000000
section
variable {prog : Program} {w : World} {mg mb : Str → Option Value}
theorem inner69 {name qual : Str} {params : Arguments} {body : List Stmt} {scope : Scope} {pos : Pos} {cl : List (Str × Addr)} {doc pm ctv : Value} {c' f cA cI cN D : Addr} {n : Nat} {tn : Tok} {vs : List Value} {ds : List Int} {m : Nat}
    (hb : innOf (hd.heap_39 w.params) 69 = some (name, params, body, scope, pos)) (hA : cl.lookup ("digits" : Str) = some cA) (hI : cl.lookup ("inner" : Str) = some cI) (hN : cl.lookup ("n" : Str) = some cN) (hn : 0 < n) (hn' : n ≤ 100)
    (hi : IntsAre vs ds) (hlen : n * ds.length ≤ 64) (hds : ∀ d ∈ ds, 0 ≤ d ∧ d < 2 ^ n) :
    ∀ (d : Nat) {A : Around} {E : Value → Shared → Prop} {s : Shared} {Q : Value → Shared → Prop} {L R : Nat} {tL tR : Tok},
      Bs w mg mb (hid [] s.heap) → Room A (d + 1) (3 * d + 3) → Nest s.heap f (fnMade name qual params body scope cl doc pm c' ctv) c' qual [(cA, .ref D), (cI, .ref f), (cN, .int n tn)] →
      s.heap.get? D = some (listOf vs.toArray m) → L < R → R ≤ ds.length → R - L ≤ 2 ^ d →
      (∀ t h' tk', Ext s.heap h' → Q (.int (val n (seg ds L R)) t) (sh s h' tk')) →
      wpAny (model prog w) A (call (.ref f) [.int L tL, .int R tR]) Q E s := by
  have hb' := Option.some.inj (hb.symm.trans (rfl : innOf (hd.heap_39 w.params) 69 = some _))
  cases hb'
  intro d
  induction d using Nat.strongRecOn with
  | _ d ih =>
  intro A E s Q L R tL tR X rm NN hD hLR hR hd k
  have hl64 : ds.length ≤ 64 := Nat.le_trans (Nat.le_mul_of_pos_left _ hn) hlen
  refine enterN [] [] (d := d) (u := 3 * d) (binds := [("L", .int L tL), ("R", .int R tR)]) X rm NN.fn NN.code (BindsTo.of_eq rfl)
    (fun _ hp => nomatch hp) (fun _ hp => nomatch hp) List.nodup_nil ?_ (by decide) (locs rfl)
  intro L₀ h₁ t₁ env A' K₀ E₀ hRt hNx hE S rm
  subst hE
  have S := S.lets (vars' := [("L", .int L tL), ("R", .int R tR)]) ⟨rfl, rfl, trivial⟩
  have N₁ := NN.here S
  refine wpAny_execs_cons (wpAny_If (wpAny_isTrue_Compare1 ?_))
  refine wpAny_BinOp (rLoc (s := sh s h₁ t₁) S rfl ?_)
  refine nInt fun _ _ => ?_
  refine nAdd rfl fun _ _ => ?_
  refine rLoc (s := sh s h₁ _) S rfl ?_
  refine eq_int (wpAny_truthy_bool (ifB (fun heq => ?_) fun hne => ?_))
  · have heq := beq_iff_eq.mp heq
    have e1 : R = L + 1 := by lia
    subst e1
    refine wpAny_execs_cons (wpAny_Return_some ?_)
    refine Subscript_ ?_
    obtain ⟨oA, hoA, hdA⟩ := N₁.cell (cA, .ref D) (by simp)
    refine rFree (s := sh s h₁ _) hA hoA hdA ?_
    refine rLoc (s := sh s h₁ _) S rfl ?_
    obtain ⟨td, hv⟩ := hi.get L ds[L] (by simp)
    refine nItem (S.eff.ext _ _ hD) (by first | decide | lia) (by first | decide | lia) (x := .int ds[L] td) hv ?_
    have e2 : val n (seg ds L (L + 1)) = ds[L] := by rw [seg_one (by first | decide | assumption)]; simp [val]
    rw [← e2]
    exact hRt _ _ (k _ _ _ S.eff.ext)
  · have hne : ((L : Int) + 1 == R) = false := hne
    have h2 : L + 1 ≠ R := fun q => by
      rw [← q] at hne; simp at hne
    obtain ⟨M, hM⟩ : ∃ M : Nat, (L + R) / 2 = M := ⟨_, rfl⟩
    obtain ⟨sh0, hs0⟩ : ∃ sh0 : Nat, n * (M - L) = sh0 := ⟨_, rfl⟩
    have hd0 : 1 ≤ d := by
      rcases Nat.eq_zero_or_pos d with q | q
      · subst q; simp at hd; lia
      · exact q
    obtain ⟨d', rfl⟩ : ∃ d', d = d' + 1 := ⟨d - 1, by lia⟩
    rw [Nat.pow_succ] at hd
    refine wpAny_execs_nil ?_
    refine wpAny_execs_cons (wpAny_Assign_Name ?_)
    refine wpAny_BinOp (wpAny_BinOp ?_)
    refine rLoc (s := sh s h₁ _) S rfl ?_
    refine rLoc (s := sh s h₁ _) S rfl ?_
    refine nAdd rfl fun _ _ => ?_
    refine nInt fun _ _ => ?_
    refine nShr (n := 1) (c := (M : Int)) rfl (by rw [← hM]; rfl) fun _ _ => ?_
    refine nSt S fun h₂ _ S => ?_
    refine wpAny_execs_cons (wpAny_Assign_Name ?_)
    refine wpAny_BinOp (wpAny_BinOp ?_)
    refine rLoc (s := sh s h₂ _) S rfl ?_
    refine rLoc (s := sh s h₂ _) S rfl ?_
    refine nSub (c := ((M - L : Nat) : Int)) (by first | decide | lia) fun _ _ => ?_
    obtain ⟨oN, hoN, hdN⟩ := (NN.here S).cell (cN, .int n tn) (by simp)
    refine rFree (s := sh s h₂ _) hN hoN hdN ?_
    refine nMul (c := (sh0 : Int)) (by rw [← hs0, Nat.mul_comm]; push_cast; rfl) (mul_ok (by first | decide | lia)) fun _ _ => ?_
    refine nSt S fun h₃ _ S => ?_
    have S := S.lets (vars' := [("L", .int L tL), ("R", .int R tR), ("mid", .int M _), ("shift", .int sh0 _)]) ⟨rfl, rfl, rfl, rfl, trivial⟩
    have N₃ := NN.here S
    refine wpAny_execs_cons (wpAny_Return_some ?_)
    refine wpAny_BinOp (wpAny_BinOp ?_)
    obtain ⟨oI, hoI, hdI⟩ := N₃.cell (cI, .ref f) (by simp)
    refine nCallF hI hoI hdI N₃.fn rfl ?_
    refine wpAny_items_cons (rLoc (s := sh s h₃ _) S rfl ?_)
    refine wpAny_items_cons (rLoc (s := sh s h₃ _) S rfl ?_)
    refine wpAny_items_nil ⟨N₃.fn, ?_⟩
    refine ih d' (Nat.lt_succ_self _) (s := sh s h₃ _) (L := M) (R := R) (S.bsM (ob := []) X) (rm.less (by first | decide | lia) (by first | decide | lia)) N₃ (S.eff.ext _ _ hD) (by first | decide | lia) hR (by first | decide | lia) fun t₄ h₄ _ ex => ?_
    have S := S.ext ex
    refine rLoc (s := sh s h₄ _) S rfl ?_
    have hs64 : sh0 ≤ 64 := by
      rw [← hs0]
      exact Nat.le_trans (Nat.mul_le_mul_left n (by first | decide | omega)) hlen
    have vb := val_bound n (seg ds M R) fun d hd => hds d (seg_mem hd)
    rw [seg_len hR] at vb
    have vb2 : (2 : Int) ^ (n * (R - M)) ≤ 2 ^ 63 := by
      have : n * (R - M) ≤ 63 := by
        have a1 : n * (R - M) + n ≤ n * ds.length := by rw [← Nat.mul_succ]; exact Nat.mul_le_mul_left n (by first | decide | lia)
        lia
      have := Nat.pow_le_pow_right (n := 2) (by decide) this
      exact_mod_cast this
    refine nShl (s := s) (n := sh0) rfl (by lia  ) (by have : (2 : Int) ^ 63 = 9223372036854775808 := by decide
                                                       have : (2 : Nat) ^ 64 = 18446744073709551616 := by decide
                                                       lia  ) rfl fun _ _ => ?_
    have N₄ := NN.here S
    obtain ⟨oI, hoI, hdI⟩ := N₄.cell (cI, .ref f) (by simp)
    refine nCallF hI hoI hdI N₄.fn rfl ?_
    refine wpAny_items_cons (rLoc (s := sh s h₄ _) S rfl ?_)
    refine wpAny_items_cons (rLoc (s := sh s h₄ _) S rfl ?_)
    refine wpAny_items_nil ⟨N₄.fn, ?_⟩
    refine ih d' (Nat.lt_succ_self _) (s := sh s h₄ _) (L := L) (R := M) (S.bsM (ob := []) X) (rm.less (by first | decide | lia) (by first | decide | lia)) N₄ (S.eff.ext _ _ hD) (by first | decide | lia) (by first | decide | lia) (by first | decide | lia) fun t₅ h₅ _ ex => ?_
    have S := S.ext ex
    refine nAdd (s := s) (c := val n (seg ds L R)) ?_ fun u v => ?_
    · rw [seg_split (L := L) (M := M) (R := R) (by first | decide | lia) (by first | decide | lia), val_append, seg_len (by first | decide | lia), hs0, Int.mul_comm]
      lia
    · exact hRt _ _ (k _ _ _ S.eff.ext)
theorem St.hidOwn {B : Bas} {L : Addr} {h : Heap} {vars : List (Str × Value)} {l ob : List (Addr × Obj)} (S : St B L h vars (ob ++ l)) {a : Addr} {o : Obj} (hp : (a, o) ∈ l) : hid (ob.map (·.1)) h a = some o := by
  have nd := S.nodup
  rw [List.map_append] at nd
  exact hid_some.mpr ⟨fun q => (List.nodup_append.mp nd).2.2 _ q _ (List.mem_map_of_mem (f := (·.1)) hp) rfl, S.own (a, o) (List.mem_append_right _ hp)⟩
theorem St.p5 {B : Bas} {L : Addr} {h : Heap} {vars : List (Str × Value)} {l x y : List (Addr × Obj)} (S : St B L h vars (l ++ (x ++ y))) : St B L h vars (x ++ (l ++ y)) := S.perm (List.perm_append_comm_assoc ..)
theorem St.p6 {B : Bas} {L : Addr} {h : Heap} {vars : List (Str × Value)} {l x y : List (Addr × Obj)} (S : St B L h vars (l ++ (x ++ y))) : St B L h vars (y ++ (l ++ x)) := S.perm (by rw [← List.append_assoc]; exact List.perm_append_comm)
theorem St.p6' {B : Bas} {L : Addr} {h : Heap} {vars : List (Str × Value)} {l x y : List (Addr × Obj)} (S : St B L h vars (y ++ (l ++ x))) : St B L h vars (l ++ (x ++ y)) := S.perm (by rw [← List.append_assoc l]; exact List.perm_append_comm)
def q69 : Str := "_digits2int.<locals>.inner"
def p69 : Pos := ⟨94, 4, 99, 55⟩
abbrev T64 := TabL 64 q69 p69
variable {A : Around} {E : Value → Shared → Prop} {s : Shared} {Q : Value → Shared → Prop}
theorem digits2int_at {tb : List (Addr × Obj)} {D : Addr} {n : Nat} {tn : Tok} {vs : List Value} {ds : List Int} {m : Nat} (X : Bs w mg mb (hid (tb.map (·.1)) s.heap)) (rm : Room A 8 24) (T : T64 tb) (P : Pre tb s.heap) (hn : 0 < n) (hn' : n ≤ 100)
    (hD : hid (tb.map (·.1)) s.heap D = some (listOf vs.toArray m)) (hi : IntsAre vs ds) (hlen : n * ds.length ≤ 64) (hds : ∀ d ∈ ds, 0 ≤ d ∧ d < 2 ^ n)
    (k : ∀ t tb' h' tk', T64 tb' → Ret tb tb' s.heap h' → Q (.int (val n ds) t) (sh s h' tk')) :
    wpAny (model prog w) A (call (.ref 69) [.ref D, .int n tn]) Q E s := by
  refine' enterC (d := 7) (u := 21) (binds := [("digits", .ref D), ("n", .int n tn)]) (vars := []) (tb.map (·.1)) tb X rm ?ho ?hcd ?hb P.own P.mem P.nd ?hv ?_ ?hk ?hn ?c1 ?c2 ?c3
  case ho => exact rfl
  case hcd => exact rfl
  case hb => exact fun Y => BindsTo.peek Y fun _ => rfl
  case hv => exact fun L => trivial
  case hk => exact rfl
  case hn => decide +kernel
  case c1 => exact rfl
  case c2 => exact rfl
  case c3 => exact rfl
  intro L h₁ t₁ env cells A' K₀ E₀ hRt hNx hE CA S rm
  subst hE
  obtain ⟨oI, oN, oA, rfl, hoI, hoN, hoA⟩ := CellsAre.three CA
  have hoN : oN.data = .cell (some (.int n tn)) := hoN
  have hoA : oA.data = .cell (some (.ref D)) := hoA
  have hoI : oI.data = .cell none := hoI
  have hl64 : ds.length ≤ 64 := Nat.le_trans (Nat.le_mul_of_pos_left _ hn) hlen
  refine wpAny_execs_cons ?_
  refine nestDef_K rfl rfl rfl ?_
  refine nMake (c := 68) (tb := tb) (l := [(L + 1 + 1 + 1, oI), (L + 1 + 1, oN), (L + 1, oA)]) (S.perm (List.perm_append_comm (l₁ := [_, _, _]))) X T (fun _ Y => Y.c1) rfl rfl rfl ?_
  intro f c' doc pm ctv tb' h₅ t₅ S T' C'
  have S := S.perm (.cons _ List.perm_append_comm)
  refine nCellSt (x := "inner") (c := L + 1 + 1 + 1) S.swap rfl hoI fun oI' h₆ hoI' S => ?_
  have hX : ∀ {h : Heap} {vars} {fo : Obj}, (∃ fd, fo.data = .func fd) → St (hid (tb.map (·.1)) s.heap) L h vars ((L + 1 + 1 + 1, oI') :: (f, fo) :: (L + 1 + 1, oN) :: (L + 1, oA) :: tb') → Nest h f fo c' q69 [(L + 1, .ref D), (L + 1 + 1 + 1, .ref f), (L + 1 + 1, .int n tn)] := fun {h vars fo} hfo S =>
    ⟨S.own (f, fo) (by simp), hfo, C'.rec' fun p hp => S.own p (by simp [hp]), fun p hp => by
      simp only [List.mem_cons, List.not_mem_nil, or_false] at hp
      rcases hp with rfl | rfl | rfl
      · exact ⟨oA, S.own (L + 1, oA) (by simp), hoA⟩
      · exact ⟨oI', S.own (L + 1 + 1 + 1, oI') (by simp), hoI'⟩
      · exact ⟨oN, S.own (L + 1 + 1, oN) (by simp), hoN⟩⟩
  have fin : ∀ {h₇ t t₇} {fo : Obj}, St (hid (tb.map (·.1)) s.heap) L h₇ [] ((L + 1 + 1 + 1, oI') :: (f, fo) :: (L + 1 + 1, oN) :: (L + 1, oA) :: tb') → Q (.int (val n ds) t) (sh s h₇ t₇) := fun {h₇ t t₇ fo} S => by
    have S := S.perm (List.perm_append_comm (l₁ := [_, _, _, _]))
    exact k t tb' h₇ _ T' (St.toRet S)
  have S := S.lets (vars' := []) trivial
  refine wpAny_execs_cons (wpAny_Return_some ?_)
  refine wpAny_IfExp (wpAny_isTrue_value ?_)
  refine rCell (s := sh s h₆ _) (c := L + 1) rfl (S.own (L + 1, oA) (by simp)) hoA ?_
  refine nTruthL (S.keep _ _ hD) (by rw [hi.length]; (exact Nat.le_trans (by assumption) (by decide))) fun _ => ?_
  refine ifB (fun h0 => ?_) fun h0 => ?_
  · have h0 : 0 < ds.length := by
      rw [← hi.length]
      cases vs with
      | nil => simp at h0
      | cons _ _ => simp
    have N₆ := hX ⟨_, rfl⟩ S
    refine nCallC (x := "inner") (c := L + 1 + 1 + 1) rfl (S.own (L + 1 + 1 + 1, oI') (by simp)) hoI' N₆.fn rfl ?_
    refine wpAny_items_cons (nInt fun _ _ => ?_)
    refine wpAny_items_cons ?_
    refine rCallB (s := sh s h₆ _) S X (n_len _) boot_len ?_
    refine wpAny_items_cons (rCell (s := sh s h₆ _) (c := L + 1) rfl (S.own (L + 1, oA) (by simp)) hoA ?_)
    refine wpAny_items_nil ?_
    refine nLen (S.keep _ _ hD) (by rw [List.size_toArray, hi.length]; (exact Nat.le_trans (by assumption) (by decide))) fun _ _ => ?_
    refine wpAny_items_nil ⟨N₆.fn, ?_⟩
    have hsz : (vs.toArray.size : Int) = ((ds.length : Nat) : Int) := by rw [List.size_toArray, hi.length]
    rw [hsz]
    refine inner69 (s := sh s h₆ _) (L := 0) (R := ds.length) (n := n) (tn := tn) rfl rfl rfl rfl hn hn' hi hlen hds 6 (S.bsM (ob := []) X) (rm.less (by first | decide | omega) (by first | decide | omega)) N₆ (S.keep _ _ hD) h0 (Nat.le_refl _) (by simpa using hl64) fun t₇ h₇ _ ex => ?_
    have S := S.ext ex
    rw [seg_all]
    exact hRt _ _ (fin S)
  · have h0 : ds = [] := by
      have : vs = [] := by simpa using h0
      subst this
      cases hi; rfl
    subst h0
    refine nInt fun _ _ => ?_
    exact hRt _ _ (fin S)
end
end Mine

/-! part Dm -/
namespace Mine
theorem StNew {h h' : Heap} {L : Addr} {vars : List (Str × Value)} {a : Addr} {o : Obj} {l : List (Addr × Obj)} (S : St (hid [] h) L h' vars ((a, o) :: l)) : h.get? a = none := S.dead (List.not_mem_nil)
set_option maxHeartbeats 4000000
section
variable {prog : Program} {w : World} {mg mb : Str → Option Value} {A : Around} {E : Value → Shared → Prop} {s : Shared} {Q : Value → Shared → Prop}
theorem div2n1n_at {a b n : Nat} {ta tb tn : Tok} (X : Bs w mg mb (hid [] s.heap)) (rm : Room A 1 3) (ha : a < 2 ^ 60) (hb : 0 < b) (hb' : b < 1000000)
    (k : ∀ D u v h' tk', s.heap.get? D = none → h'.get? D = some (tupO [.int ((a / b : Nat) : Int) u, .int ((a % b : Nat) : Int) v].toArray) → Ext s.heap h' → Q (.ref D) (sh s h' tk')) :
    wpAny (model prog w) A (call (.ref 48) [.int a ta, .int b tb, .int n tn]) Q E s := by
  refine' enter0 (d := 0) (u := 0) (binds := [("a", .int a ta), ("b", .int b tb), ("n", .int n tn)]) X rm ?ho ?hcd ?hb ?_ ?hc ?hl ?c1 ?c2 ?c3
  case ho => exact rfl
  case hcd => exact rfl
  case hb => exact fun Y => BindsTo.peek Y fun _ => rfl
  case hc => decide
  case hl => exact locs rfl
  case c1 => exact rfl
  case c2 => exact rfl
  case c3 => exact rfl
  intro L h₁ t₁ env A' K₀ E₀ hRt hNx hE S rm
  subst hE
  have S := S.lets (vars' := [("a", .int a ta), ("b", .int b tb), ("n", .int n tn)]) ⟨rfl, rfl, rfl, trivial⟩
  obtain ⟨tl, g⟩ := g_DIV_LIMIT w.params
  refine wpAny_execs_cons (wpAny_If (wpAny_isTrue_Compare1 ?_))
  refine wpAny_BinOp ?_
  refine nBits (rLoc (s := sh s h₁ _) S rfl ⟨_, _, _, _, rfl, rfl, fun _ _ => ?_⟩)
  refine rLoc (s := sh s h₁ _) S rfl ?_
  refine nSub rfl fun _ _ => ?_
  refine rGlob (s := sh s h₁ _) S X g ?_
  refine le_int (wpAny_truthy_bool (ifT ?_ ?_))
  · have : bl a ≤ 60 := bl_le ha
    have : ((Builtin.Int.intBits (a : Int) : Nat) : Int) ≤ 60 := by exact_mod_cast this
    lia
  refine wpAny_execs_cons (wpAny_Return_some ?_)
  refine rCallB (s := sh s h₁ _) S X (n_divmod _) boot_divmod ?_
  refine wpAny_items_cons (rLoc (s := sh s h₁ _) S rfl ?_)
  refine wpAny_items_cons (rLoc (s := sh s h₁ _) S rfl ?_)
  refine wpAny_items_nil ?_
  refine nDivmod (s := s) S (by first | decide | lia) (by rw [Int.natAbs_natCast]; omega) fun D u v h₂ _ S => ?_
  have e1 : (a : Int).fdiv b = ((a / b : Nat) : Int) := by rw [Int.fdiv_eq_ediv_of_nonneg _ (by first | decide | lia)]; simp
  have e2 : (a : Int).fmod b = ((a % b : Nat) : Int) := by rw [Int.fmod_eq_emod_of_nonneg _ (by first | decide | lia)]; simp
  rw [e1, e2] at S
  exact hRt _ _ (k D u v _ _ (StNew S) S.get S.eff.ext)
theorem dstep {a n K i : Nat} (hi : i < K) : a / 2 ^ (n * (K - (i + 1))) = a / 2 ^ (n * (K - i)) * 2 ^ n + a / 2 ^ (n * (K - 1 - i)) % 2 ^ n := by
  have e : n * (K - i) = n * (K - (i + 1)) + n := by rw [← Nat.mul_succ]; congr 1; lia
  rw [e, Nat.pow_add, ← Nat.div_div_eq_div_mul, show K - 1 - i = K - (i + 1) by lia]
  have := Nat.div_add_mod (a / 2 ^ (n * (K - (i + 1)))) (2 ^ n)
  rw [Nat.mul_comm] at this
  (exact Eq.symm (by assumption))
theorem qstep {x b p d : Nat} (hb : 0 < b) (hd : d < p) : (x * p + d) / b = x / b * p + (x % b * p + d) / b ∧ (x * p + d) % b = (x % b * p + d) % b ∧ (x % b * p + d) / b < p := by
  have e : x * p + d = (x % b * p + d) + b * (x / b * p) := by
    have := Nat.div_add_mod x b
    have h2 : x * p = (b * (x / b) + x % b) * p := by rw [this]
    rw [h2, Nat.add_mul, Nat.mul_assoc]; lia
  refine ⟨?_, ?_, ?_⟩
  · rw [e, Nat.add_mul_div_left _ _ hb]; lia
  · rw [e, Nat.add_mul_mod_self_left]
  · rw [Nat.div_lt_iff_lt_mul hb]
    have h1 : x % b + 1 ≤ b := Nat.mod_lt _ hb
    have h2 := Nat.mul_le_mul_right p h1
    rw [Nat.add_mul, Nat.one_mul] at h2
    rw [Nat.mul_comm p b]
    lia
theorem nReverse {h : Heap} {t : Nat} {B : Bas} {L : Addr} {vars : List (Str × Value)} {l : List (Addr × Obj)} {D : Addr} {li : List Value} {n : Nat} (S : St B L h vars ((D, listOf li.toArray n) :: l)) (hz : li.length ≤ 1000)
    (k : ∀ h' n', St B L h' vars ((D, listOf li.reverse.toArray n') :: l) → Q .none (sh s h' t)) : wpAny (model prog w) A (call (.builtin "list.reverse") [.ref D]) Q E (sh s h t) := rReverse (s := sh s h t) S hz k
theorem ints_rev {vs : List Value} {ns : List Int} (h : IntsAre vs ns) : IntsAre vs.reverse ns.reverse := by
  induction h with
  | nil => exact .nil
  | cons n t _ ih => rw [List.reverse_cons, List.reverse_cons]; exact ints_snoc ih n t
theorem digs_at {n x k i : Nat} {d : Int} (h : (digs n x k)[i]? = some d) : i < k ∧ d = ((x / 2 ^ (n * i) % 2 ^ n : Nat) : Int) := by
  have hi : i < (digs n x k).length := (List.getElem?_eq_some_iff.mp h).1
  rw [digs_len] at hi
  unfold digs at h
  rw [List.getElem?_map, List.getElem?_range hi] at h
  exact ⟨hi, (Option.some.inj h).symm⟩
theorem divmod_pos_at {t5 t6 : List (Addr × Obj)} {a b : Nat} {ta tb : Tok} (X : Bs w mg mb (hid ((t5 ++ t6).map (·.1)) s.heap)) (rm : Room A 9 27) (T5 : T57 t5) (T6 : T64 t6) (P : Pre (t5 ++ t6) s.heap) (ha : a < 2 ^ 30) (hb : 0 < b) (hb' : b < 1000000)
    (k : ∀ D u v t5' t6' h' tk', T57 t5' → T64 t6' → Ret (t5 ++ t6) ((D, tupO [.int ((a / b : Nat) : Int) u, .int ((a % b : Nat) : Int) v].toArray) :: (t5' ++ t6')) s.heap h' → Q (.ref D) (sh s h' tk')) :
    wpAny (model prog w) A (call (.ref 76) [.int a ta, .int b tb]) Q E s := by
  refine' enter (d := 8) (u := 24) (binds := [("a", .int a ta), ("b", .int b tb)]) ((t5 ++ t6).map (·.1)) (t5 ++ t6) X rm ?ho ?hcd ?hb P.own P.mem P.nd ?_ ?hc ?hl ?c1 ?c2 ?c3
  case ho => exact rfl
  case hcd => exact rfl
  case hb => exact fun Y => BindsTo.peek Y fun _ => rfl
  case hc => decide
  case hl => exact locs rfl
  case c1 => exact rfl
  case c2 => exact rfl
  case c3 => exact rfl
  intro L h₁ t₁ env A' K₀ E₀ hRt hNx hE S rm
  subst hE
  have S := S.lets (vars' := [("a", .int a ta), ("b", .int b tb)]) ⟨rfl, rfl, trivial⟩
  obtain ⟨n, hn⟩ : ∃ n, bl b = n := ⟨_, rfl⟩
  have hn0 : 0 < n := hn ▸ bl_pos hb
  have hn20 : n ≤ 20 := hn ▸ bl_le (Nat.lt_trans hb' (by decide))
  have hbn : b < 2 ^ n := hn ▸ lt_bl b
  obtain ⟨K, hK⟩ : ∃ K, nd n a = K := ⟨_, rfl⟩
  have haK : a < 2 ^ (n * K) := hK ▸ lt_nd hn0
  have hKn : n * K ≤ 64 := by
    rw [← hK]
    unfold nd
    have := Nat.mul_div_le (bl a + n - 1) n
    have := bl_le ha
    lia
  have hK64 : K ≤ 64 := Nat.le_trans (Nat.le_mul_of_pos_left _ hn0) hKn
  refine wpAny_execs_cons (wpAny_Assign_Name ?_)
  refine nBits (rLoc (s := sh s h₁ _) S rfl ⟨_, _, _, _, rfl, rfl, fun _ _ => ?_⟩)
  refine nSt S fun h₂ _ S => ?_
  have S := S.lets (vars' := [("n", .int (n : Int) _), ("a", .int a ta), ("b", .int b tb)]) ⟨by rw [← hn]; rfl, rfl, rfl, trivial⟩
  refine wpAny_execs_cons (wpAny_Assign_Name ?_)
  refine rCall (s := sh s h₂ _) S X (g_int2digits _) (keep_of _ (by decide)) ?_
  refine wpAny_items_cons (rLoc (s := sh s h₂ _) S rfl ?_)
  refine wpAny_items_cons (rLoc (s := sh s h₂ _) S rfl ?_)
  refine wpAny_items_nil ⟨X.at S.keep, ?_⟩
  refine int2digits_at (s := sh s h₂ _) (S.bsM X) (rm.less (by first | decide | omega) (by first | decide | omega)) T5 S.pre hn0 (by first | decide | (exact Nat.le_trans (by assumption) (by decide))) (Nat.lt_trans ha (by decide)) fun Da vA mA t5' h₃ _ hiA T5 R => ?_
  have S := S.ret R
  rw [hK] at hiA
  refine nSt (s := s) S fun h₄ _ S => ?_
  refine wpAny_execs_cons (wpAny_Assign_Name ?_)
  refine nInt fun _ _ => ?_
  refine nSt S fun h₅ _ S => ?_
  refine wpAny_execs_cons (wpAny_Assign_Name ?_)
  refine nList0 S fun Dq h₆ S => ?_
  refine nSt S fun h₇ _ S => ?_
  refine wpAny_execs_cons (wpAny_For ?_)
  refine rCallT (s := sh s h₇ _) S X (n_reversed _) boot_reversed ?_
  refine wpAny_items_cons (rLoc (s := sh s h₇ _) S rfl ?_)
  refine wpAny_items_nil ?_
  refine nReversed S (S.own (Da, listOf vA.toArray mA) (by simp)) fun I h₈ S => ?_
  have hlA : vA.length = K := by rw [hiA.length, digs_len]
  have S := (S.perm (List.perm_append_singleton _ _).symm).lets (vars' := [("q_digits", .ref Dq), ("r", .int ((a / 2 ^ (n * (K - 0)) % b : Nat) : Int) _), ("n", .int n _), ("b", .int b tb)]) ⟨rfl, by rw [Nat.sub_zero, Nat.div_eq_of_lt haK]; simp; rfl, rfl, rfl, trivial⟩
  refine rForV (s := sh s h₈ _) (n := mA) (its := vA.toArray) (l := [(Dq, _)]) (fx := (Da, listOf vA.toArray mA) :: (t5' ++ t6)) rfl rm.hh
    (fun i vars l => ∃ vs qs m u v, vars = ([("q_digits", .ref Dq), ("r", .int ((a / 2 ^ (n * (K - i)) % b : Nat) : Int) u), ("n", .int n v), ("b", .int b tb)] : List (Str × Value)) ∧ l = [(Dq, listOf vs.toArray m)] ∧ IntsAre vs qs ∧ qs.length = i ∧ (∀ q ∈ qs, 0 ≤ q ∧ q < 2 ^ n) ∧ val n qs.reverse = ((a / 2 ^ (n * (K - i)) / b : Nat) : Int))
    S (.head _) ⟨[], [], _, _, _, rfl, rfl, .nil, rfl, (fun _ hq => nomatch hq), ?_⟩ ?_ ?_
  · rw [Nat.sub_zero, Nat.div_eq_of_lt haK]; simp [val]
  · rintro i v _ _ rest h t E' hv hi ⟨vs, qs, m, u, v', rfl, rfl, hvs, hql, hqb, hqv⟩ _ S Kk hKk hBk hVk
    rw [List.size_toArray, hlA] at hv hi
    obtain ⟨d, td, hd, rfl⟩ := ints_item hiA hv
    obtain ⟨_, rfl⟩ := digs_at hd
    have hdl : a / 2 ^ (n * (K - 1 - i)) % 2 ^ n < 2 ^ n := Nat.mod_lt _ (Nat.two_pow_pos _)
    obtain ⟨q1, q2, q3⟩ := qstep (x := a / 2 ^ (n * (K - i))) hb hdl
    rw [← dstep hi] at q1 q2
    have hrb : a / 2 ^ (n * (K - i)) % b < b := Nat.mod_lt _ hb
    generalize a / 2 ^ (n * (K - 1 - i)) % 2 ^ n = d at *
    generalize hr : a / 2 ^ (n * (K - i)) % b = r at *
    refine wpAny_assign_Name (nSt S fun h₉ _ S => ?_)
    refine wpAny_execs_cons (Assign_Tuple ?_)
    refine rCall (s := sh s h₉ _) S X (g_div2n1n _) (keep_of _ (by decide)) ?_
    refine wpAny_items_cons (wpAny_BinOp (wpAny_BinOp ?_))
    refine rLoc (s := sh s h₉ _) S rfl ?_
    refine rLoc (s := sh s h₉ _) S rfl ?_
    refine nShl (n := n) (c := ((r * 2 ^ n : Nat) : Int)) rfl (by first | decide | (exact Nat.le_trans (by assumption) (by decide))) (by rw [Int.natAbs_natCast]; lia) (by push_cast; rfl) fun _ _ => ?_
    refine rLoc (s := sh s h₉ _) S rfl ?_
    refine nAdd (c := ((r * 2 ^ n + d : Nat) : Int)) (by push_cast; rfl) fun _ _ => ?_
    refine wpAny_items_cons (rLoc (s := sh s h₉ _) S rfl ?_)
    refine wpAny_items_cons (rLoc (s := sh s h₉ _) S rfl ?_)
    refine wpAny_items_nil ⟨X.at S.keep, ?_⟩
    have hsm : r * 2 ^ n + d < 2 ^ 60 := by
      have h1 : (2 : Nat) ^ n ≤ 2 ^ 20 := Nat.pow_le_pow_right (by decide) hn20
      have h2 := Nat.mul_le_mul (show r ≤ 1000000 by lia) h1
      have h3 : 1000000 * 2 ^ 20 + 2 ^ 20 < (2 : Nat) ^ 60 := by decide
      lia
    refine div2n1n_at (s := sh s h₉ _) (S.bsM (ob := []) X) (rm.less (by first | decide | omega) (by first | decide | omega)) hsm hb hb' fun T u₁ v₁ h₁₀ _ hT0 hT ex => ?_
    have S := S.ext ex
    refine nUnp (s := s) (vs := [_, _]) rm.hh (isT hT) rfl rfl fun h₁₁ ex => ?_
    have S := S.ext ex
    refine aio_cons (wpAny_assign_Name (nSt S fun h₁₂ _ S => ?_))
    refine aio_cons (wpAny_assign_Name (nSt S fun h₁₃ _ S => ?_))
    refine aio_nil ?_
    refine wpAny_execs_cons (wpAny_Expr ?_)
    refine rLM PySem.F.slot_list_append PySem.F.type_list_append ?_
    refine rLoc (s := sh s h₁₃ _) S rfl ⟨_, _, _, rfl, S.get, ?_⟩
    refine wpAny_items_cons (rLoc (s := sh s h₁₃ _) S rfl ?_)
    refine wpAny_items_nil ?_
    refine nAppend S (by rw [List.size_toArray, hvs.length, hql]; lia) fun h₁₄ m' S => ?_
    refine wpAny_execs_nil ?_
    refine hKk h₁₄ _ _ _ ⟨vs ++ [Value.int (((r * 2 ^ n + d) / b : Nat) : Int) u₁], qs ++ [(((r * 2 ^ n + d) / b : Nat) : Int)], m', v₁, v', rfl, rfl, ints_snoc hvs _ _, by simp [hql], ?_, ?_⟩ ?_
    · intro q hq
      rcases List.mem_append.mp hq with hq | hq
      · exact hqb q hq
      · rw [List.mem_singleton.mp hq]
        refine ⟨Int.natCast_nonneg _, by exact_mod_cast q3⟩
    · rw [List.reverse_append, List.reverse_singleton]
      show (((r * 2 ^ n + d) / b : Nat) : Int) + 2 ^ n * val n qs.reverse = _
      rw [hqv, q1, Int.mul_comm, Int.add_comm]; push_cast; rfl
    · have e : (vs ++ [Value.int (((r * 2 ^ n + d) / b : Nat) : Int) u₁]).toArray = vs.toArray.push (.int (((r * 2 ^ n + d) / b : Nat) : Int) u₁) := by simp
      rw [e]
      exact S.lets ⟨rfl, by rw [q2]; rfl, rfl, rfl, trivial⟩
  · rintro vars l h t E' ⟨vs, qs, m, u, v', rfl, rfl, hvs, hql, hqb, hqv⟩ S
    rw [List.size_toArray, hlA] at hql hqv S
    rw [Nat.sub_self, Nat.mul_zero, Nat.pow_zero, Nat.div_one] at hqv S
    refine wpAny_execs_nil ?_
    refine wpAny_execs_cons (wpAny_Expr ?_)
    refine rLM0 PySem.F.slot_list_reverse PySem.F.type_list_reverse ?_
    refine rLoc (s := sh (sh s h₈ _) h t) S rfl ⟨_, _, _, rfl, S.get, ?_⟩
    refine nReverse (s := s) S (by rw [hvs.length, hql]; (exact Nat.le_trans (by assumption) (by decide))) fun h₉ m₂ S => ?_
    refine wpAny_execs_cons (wpAny_Assign_Name ?_)
    refine rCall (s := sh s h₉ _) S X (g_digits2int _) (keep_of _ (by decide)) ?_
    refine wpAny_items_cons (rLoc (s := sh s h₉ _) S rfl ?_)
    refine wpAny_items_cons (rLoc (s := sh s h₉ _) S rfl ?_)
    refine wpAny_items_nil ⟨X.at S.keep, ?_⟩
    have S := St.p6 (l := [_, _]) S
    refine digits2int_at (s := sh s h₉ _) (D := Dq) (n := n) (ds := qs.reverse) (S.bsM X) (rm.less (by first | decide | omega) (by first | decide | omega)) T6 S.pre hn0 (by first | decide | (exact Nat.le_trans (by assumption) (by decide))) (S.hidOwn (.head _)) (ints_rev hvs) (by rw [List.length_reverse, hql]; exact hKn) (fun q hq => hqb q (List.mem_reverse.mp hq)) fun tv t6' h₁₀ _ T6 R => ?_
    rw [hqv]
    have S := St.p6' (S.ret R)
    refine nSt (s := s) S fun h₁₁ _ S => ?_
    refine wpAny_execs_cons (wpAny_Return_some ?_)
    refine nTup ?_
    refine wpAny_items_cons (rLoc (s := sh s h₁₁ _) S rfl ?_)
    refine wpAny_items_cons (rLoc (s := sh s h₁₁ _) S rfl ?_)
    refine wpAny_items_nil ⟨_, _, _, _, _, _, rfl, S, by show 2 ≤ 1000; decide, fun T h₁₂ S => ?_⟩
    have S := S.perm (.cons _ (List.perm_append_comm (l₁ := [_, _])))
    exact hRt _ _ (k T _ _ t5' t6' _ _ T5 T6 (St.toRet (ob' := (T, _) :: (t5' ++ t6')) S))
end
end Mine

/-! part Id -/
namespace Mine
theorem fdm_neg {a b : Int} (hb : 0 < b) : Builtin.bitNot ((Builtin.bitNot a).fdiv b) = a.fdiv b ∧ b + Builtin.bitNot ((Builtin.bitNot a).fmod b) = a.fmod b := by
  have key := (Int.fdiv_fmod_unique (a := -a - 1) hb).mp ⟨rfl, rfl⟩
  obtain ⟨h1, h2, h3⟩ := key
  have := (Int.fdiv_fmod_unique (a := a) (q := -(-a - 1).fdiv b - 1) (r := b + (-(-a - 1).fmod b - 1)) hb).mpr ⟨?_, by omega, by omega⟩
  · exact ⟨this.1.symm, this.2.symm⟩
  · rw [Int.mul_sub, Int.mul_one, Int.mul_neg]; omega
set_option maxHeartbeats 4000000
section
variable {prog : Program} {w : World} {mg mb : Str → Option Value}
theorem int_divmod_at : ∀ (m : Nat) {A : Around} {E : Value → Shared → Prop} {s : Shared} {Q : Value → Shared → Prop} {t5 t6 : List (Addr × Obj)} {a b : Int} {ta tb : Tok}, (b < 0 → 2 ≤ m) → (a < 0 → 0 < b → 1 ≤ m) →
    Bs w mg mb (hid ((t5 ++ t6).map (·.1)) s.heap) → Room A (m + 10) (3 * m + 30) → T57 t5 → T64 t6 → Pre (t5 ++ t6) s.heap → a.natAbs < 2 ^ 30 → b ≠ 0 → b.natAbs < 1000000 →
    (∀ D u v t5' t6' h' tk', T57 t5' → T64 t6' → Ret (t5 ++ t6) ((D, tupO [.int (a.fdiv b) u, .int (a.fmod b) v].toArray) :: (t5' ++ t6')) s.heap h' → Q (.ref D) (sh s h' tk')) →
    wpAny (model prog w) A (call (.ref 83) [.int a ta, .int b tb]) Q E s := by
  intro m
  induction m using Nat.strongRecOn with
  | _ m ih =>
  intro A E s Q t5 t6 a b ta tb c1 c2 X rm T5 T6 P ha hb hb' k
  refine' enter (d := m + 9) (u := 3 * m + 27) (binds := [("a", .int a ta), ("b", .int b tb)]) ((t5 ++ t6).map (·.1)) (t5 ++ t6) X rm ?ho ?hcd ?hb P.own P.mem P.nd ?_ ?hc ?hl ?c1 ?c2 ?c3
  case ho => exact rfl
  case hcd => exact rfl
  case hb => exact fun Y => BindsTo.peek Y fun _ => rfl
  case hc => decide
  case hl => exact locs rfl
  case c1 => exact rfl
  case c2 => exact rfl
  case c3 => exact rfl
  intro L h₁ t₁ env A' K₀ E₀ hRt hNx hE S rm
  subst hE
  have S := S.lets (vars' := [("a", .int a ta), ("b", .int b tb)]) ⟨rfl, rfl, trivial⟩
  refine wpAny_execs_cons (wpAny_If (wpAny_isTrue_Compare1 ?_))
  refine rLoc (s := sh s h₁ _) S rfl ?_
  refine nInt fun _ _ => ?_
  refine eq_int (wpAny_truthy_bool (ifB (fun h0 => absurd (beq_iff_eq.mp h0) hb) fun _ => ?_))
  refine wpAny_execs_cons (wpAny_If (wpAny_isTrue_Compare1 ?_))
  refine rLoc (s := sh s h₁ _) S rfl ?_
  refine nInt fun _ _ => ?_
  refine lt_int (wpAny_truthy_bool (ifD (fun hlt => ?_) fun hge => ?_))
  · have := c1 hlt
    obtain ⟨m', rfl⟩ : ∃ m', m = m' + 1 := ⟨m - 1, by lia⟩
    refine wpAny_execs_cons (Assign_Tuple ?_)
    refine rCall (s := sh s h₁ _) S X (g_int_divmod _) (keep_of _ (by decide)) ?_
    refine wpAny_items_cons (wpAny_UnaryOp (rLoc (s := sh s h₁ _) S rfl ?_))
    refine nNeg rfl fun _ _ => ?_
    refine wpAny_items_cons (wpAny_UnaryOp (rLoc (s := sh s h₁ _) S rfl ?_))
    refine nNeg rfl fun _ _ => ?_
    refine wpAny_items_nil ⟨X.at S.keep, ?_⟩
    have S0 := S.perm (l' := (t5 ++ t6) ++ []) (by rw [List.append_nil])
    refine ih m' (by first | decide | lia) (s := sh s h₁ _) (by first | decide | lia) (by first | decide | omega) (S0.bsM X) (rm.less (by first | decide | lia) (by first | decide | lia)) T5 T6 S0.pre (by first | decide | lia) (by first | decide | lia) (by first | decide | lia) fun D u v t5' t6' h₂ _ T5 T6 R => ?_
    rw [Int.neg_fdiv_neg, Int.neg_fmod_neg] at R
    have S := S0.ret R
    refine nUnp (s := s) (vs := [_, _]) rm.hh (isT (S.own (D, _) (.head _))) rfl rfl fun h₃ ex => ?_
    have S := S.ext ex
    refine aio_cons (wpAny_assign_Name (nSt S fun h₄ _ S => ?_))
    refine aio_cons (wpAny_assign_Name (nSt S fun h₅ _ S => ?_))
    refine aio_nil ?_
    refine wpAny_execs_cons (wpAny_Return_some ?_)
    refine nTup ?_
    refine wpAny_items_cons (rLoc (s := sh s h₅ _) S rfl ?_)
    refine wpAny_items_cons (wpAny_UnaryOp (rLoc (s := sh s h₅ _) S rfl ?_))
    refine nNeg (Int.neg_neg _) fun _ _ => ?_
    refine wpAny_items_nil ⟨_, _, _, _, _, _, rfl, S, by show 2 ≤ 1000; decide, fun T h₆ S => ?_⟩
    have S := S.perm (l' := (T, _) :: (t5' ++ t6') ++ [(D, _)]) (.cons _ (by rw [List.append_nil]; exact List.perm_append_comm (l₁ := [_])))
    exact hRt _ _ (k T _ _ t5' t6' _ _ T5 T6 (St.toRet S))
  · refine wpAny_execs_cons (wpAny_If (wpAny_isTrue_Compare1 ?_))
    refine rLoc (s := sh s h₁ _) S rfl ?_
    refine nInt fun _ _ => ?_
    have S0 := S.perm (l' := (t5 ++ t6) ++ []) (by rw [List.append_nil])
    have hb0 : 0 < b := by lia
    refine lt_int (wpAny_truthy_bool (ifD (fun hlt => ?_) fun hge => ?_))
    · have := c2 hlt hb0
      obtain ⟨m', rfl⟩ : ∃ m', m = m' + 1 := ⟨m - 1, by lia⟩
      refine wpAny_execs_cons (Assign_Tuple ?_)
      refine rCall (s := sh s h₁ _) S X (g_int_divmod _) (keep_of _ (by decide)) ?_
      refine wpAny_items_cons (wpAny_UnaryOp (rLoc (s := sh s h₁ _) S rfl ?_))
      refine nInv rfl fun _ _ => ?_
      refine wpAny_items_cons (rLoc (s := sh s h₁ _) S rfl ?_)
      refine wpAny_items_nil ⟨X.at S.keep, ?_⟩
      have hbn : Builtin.bitNot a = -a - 1 := rfl
      refine ih m' (by first | decide | lia) (s := sh s h₁ _) (by first | decide | omega) (by rw [hbn]; lia) (S0.bsM X) (rm.less (by first | decide | lia) (by first | decide | lia)) T5 T6 S0.pre (by rw [hbn]; lia) hb hb' fun D u v t5' t6' h₂ _ T5 T6 R => ?_
      have S := S0.ret R
      obtain ⟨e1, e2⟩ := fdm_neg (a := a) hb0
      refine nUnp (s := s) (vs := [_, _]) rm.hh (isT (S.own (D, _) (.head _))) rfl rfl fun h₃ ex => ?_
      have S := S.ext ex
      refine aio_cons (wpAny_assign_Name (nSt S fun h₄ _ S => ?_))
      refine aio_cons (wpAny_assign_Name (nSt S fun h₅ _ S => ?_))
      refine aio_nil ?_
      refine wpAny_execs_cons (wpAny_Return_some ?_)
      refine nTup ?_
      refine wpAny_items_cons (wpAny_UnaryOp (rLoc (s := sh s h₅ _) S rfl ?_))
      refine nInv e1 fun _ _ => ?_
      refine wpAny_items_cons (wpAny_BinOp (rLoc (s := sh s h₅ _) S rfl ?_))
      refine wpAny_UnaryOp (rLoc (s := sh s h₅ _) S rfl ?_)
      refine nInv rfl fun _ _ => ?_
      refine nAdd e2 fun _ _ => ?_
      refine wpAny_items_nil ⟨_, _, _, _, _, _, rfl, S, by show 2 ≤ 1000; decide, fun T h₆ S => ?_⟩
      have S := S.perm (l' := (T, _) :: (t5' ++ t6') ++ [(D, _)]) (.cons _ (by rw [List.append_nil]; exact List.perm_append_comm (l₁ := [_])))
      exact hRt _ _ (k T _ _ t5' t6' _ _ T5 T6 (St.toRet S))
    · refine wpAny_execs_cons (wpAny_Return_some ?_)
      refine rCall (s := sh s h₁ _) S X (g_divmod_pos _) (keep_of _ (by decide)) ?_
      refine wpAny_items_cons (rLoc (s := sh s h₁ _) S rfl ?_)
      refine wpAny_items_cons (rLoc (s := sh s h₁ _) S rfl ?_)
      refine wpAny_items_nil ⟨X.at S.keep, ?_⟩
      obtain ⟨a', rfl⟩ := Int.eq_ofNat_of_zero_le (show 0 ≤ a by omega)
      obtain ⟨b', rfl⟩ := Int.eq_ofNat_of_zero_le (show 0 ≤ b by omega)
      refine divmod_pos_at (s := sh s h₁ _) (S0.bsM X) (rm.less (by first | decide | lia) (by first | decide | lia)) T5 T6 S0.pre (by first | decide | assumption) (by first | decide | lia) (by first | decide | assumption) fun D u v t5' t6' h₂ _ T5 T6 R => ?_
      have S := S0.ret R
      have e1 : (a' : Int).fdiv b' = ((a' / b' : Nat) : Int) := by rw [Int.fdiv_eq_ediv_of_nonneg _ (by first | decide | lia)]; simp
      have e2 : (a' : Int).fmod b' = ((a' % b' : Nat) : Int) := by rw [Int.fmod_eq_emod_of_nonneg _ (by first | decide | lia)]; simp
      rw [← e1, ← e2] at S
      exact hRt _ _ (k D _ _ t5' t6' _ _ T5 T6 (St.toRet S))
end
end Mine

/-! part Fw16 -/
namespace Mine
def addrAt (tl : List (Addr × Obj)) (j : Nat) : Addr := match tl[j]? with | some p => p.1 | none => 0
def valsAt (tl : List (Addr × Obj)) (j : Nat) : Array Value := match tl[j]? with | some p => (match p.2.data with | .seq its _ => its | _ => #[]) | none => #[]
theorem refs_get {tl : List (Addr × Obj)} {j : Nat} (hj : j < (refs tl).toArray.size) : (refs tl).toArray[j]? = some (.ref (addrAt tl j)) := by
  have hj' : j < tl.length := by simpa using hj
  unfold addrAt
  rw [List.getElem?_eq_getElem hj']
  simp [hj']
theorem addrAt_mem {tl : List (Addr × Obj)} {j : Nat} (hj : j < tl.length) : ∃ p ∈ tl, p.1 = addrAt tl j := by
  unfold addrAt
  rw [List.getElem?_eq_getElem hj]
  exact ⟨_, List.getElem_mem hj, rfl⟩
theorem TripL.vals {tl : List (Addr × Obj)} {ts : List (Int × Int × Int)} (ht : TripL tl ts) {j : Nat} (hj : j < tl.length) :
    ∃ a b c u v w, ts[j]? = some (a, b, c) ∧ valsAt tl j = [.int a u, .int b v, .int c w].toArray ∧ ∀ h : Heap, h.get? tl[j].1 = some tl[j].2 → h.IsTuple (addrAt tl j) (valsAt tl j) := by
  obtain ⟨a, b, c, u, v, w, e1, e2⟩ := ht.at j hj
  have e3 : valsAt tl j = [.int a u, .int b v, .int c w].toArray := by
    unfold valsAt
    rw [List.getElem?_eq_getElem hj]
    show (match tl[j].2.data with | .seq its _ => its | _ => #[]) = _
    rw [e2]
  refine ⟨a, b, c, u, v, w, e1, e3, fun h e => ?_⟩
  have e4 : addrAt tl j = tl[j].1 := by unfold addrAt; rw [List.getElem?_eq_getElem hj]
  rw [e3, e4]
  rw [e2] at e
  exact isT e
section
variable {prog : Program} {w : World} {A : Around} {target : Expr}
/-- the walk over a list of triples -/
theorem Itr.trips (hh : A.handled = none) {elts : List Expr} {kk : Nat} {tp : Pos} {I a : Addr} (hne : a ≠ I) {tl : List (Addr × Obj)} {ts : List (Int × Int × Int)} (ht : TripL tl ts) (hI : ∀ p ∈ tl, p.1 ≠ I) :
    Itr prog w A (.Tuple elts kk tp) I (I :: a :: (List.range (refs tl).toArray.size).map (addrAt tl)) [I] (refs tl).toArray.size
      (fun i v h => ∃ T vals, v = .ref T ∧ (vals = valsAt tl i) ∧ h.IsTuple T vals) (fun j h => h.IsListIter I a j ∧ h.IsList a (refs tl).toArray ∧ ∀ k, k < (refs tl).toArray.size → h.IsTuple (addrAt tl k) (valsAt tl k)) :=
  Itr.ofU (WalksU.listOfTuples hh I a hne (refs tl).toArray (addrAt tl) (valsAt tl) (fun j hj => refs_get hj) fun j hj => by
    obtain ⟨p, hp, e⟩ := addrAt_mem (tl := tl) (j := j) (by simpa using hj)
    rw [← e]; exact hI p hp) fun i h z b hb => by
      rw [List.mem_singleton.mp hb]
      obtain ⟨⟨o, e, _⟩, _⟩ := z
      exact ⟨o, e⟩
end
section
variable {prog : Program} {w : World} {A : Around} {E : Value → Shared → Prop} {s : Shared} {env : Env} {B : Bas} {L : Addr} {vars : List (Str × Value)} {l fx : List (Addr × Obj)} {Q : Flow → Shared → Prop}
theorem rForT {elts : List Expr} {kk : Nat} {tp : Pos} {body orelse : List Stmt} {a : Addr} {tl : List (Addr × Obj)} {ts : List (Int × Int × Int)} {n : Nat} (hh : A.handled = none) (J : Nat → List (Str × Value) → List (Addr × Obj) → Prop)
    (S : St B L s.heap vars (l ++ fx)) (ha : B a = some (listOf (refs tl).toArray n)) (htl : ∀ p ∈ tl, B p.1 = some p.2) (ht : TripL tl ts) (h0 : J 0 vars l)
    (turn : ∀ i x y z u v wt T vars l rest h t E', ts[i]? = some (x, y, z) → J i vars l → (∀ p ∈ fx, p ∈ rest) → h.IsTuple T [.int x u, .int y v, .int z wt].toArray → St B L h vars (l ++ rest) →
      ∀ K : Flow → Shared → Prop, (∀ h' t' vars' l', J (i + 1) vars' l' → St B L h' vars' (l' ++ rest) → K .next (sh s h' t')) → (∀ s', Q .next s' → K .brk s') → (∀ v s', Q (.ret v) s' → K (.ret v) s') → wpAny (model prog w) A (assign (.Tuple elts kk tp) env (.ref T)) (fun _ s₂ => wpAny (model prog w) A (execs body env) K E' s₂) E' (sh s h t))
    (done : ∀ vars l h t E', J ts.length vars l → St B L h vars (l ++ fx) → wpAny (model prog w) A (execs orelse env) (fun f s₃ => Q f s₃) E' (sh s h t)) :
    wpAny (model prog w) A (pyIter (.ref a)) (ForAt prog w A E env (.Tuple elts kk tp) body orelse Q) E s := by
  have hget : s.heap.get? a = some (listOf (refs tl).toArray n) := S.keep _ _ ha
  have htg : ∀ p ∈ tl, s.heap.get? p.1 = some p.2 := fun p hp => S.keep _ _ (htl p hp)
  have hsz : (refs tl).toArray.size = ts.length := by rw [List.size_toArray, List.length_map, ht.length]
  refine wpAny_pyIter_list (isL hget) ?_
  refine rForI (s := { s with heap := s.heap.push (itL a 0) }) (Itr.trips hh (Nat.ne_of_lt (Heap.lt_size hget)) ht fun p hp => Nat.ne_of_lt (Heap.lt_size (htg p hp))) fx J (fun b hb => ?_) rfl h0 (S.newIt (o := itL a 0)) ?_ (fun i v vars l rest h t E' hi hJ hr hP S => ?_) (fun vars l h t E' hJ S => done vars l h t E' (hsz ▸ hJ) S)
  · rcases List.mem_cons.mp hb with rfl | hb
    · exact .inl (.head _)
    · rcases List.mem_cons.mp hb with rfl | hb
      · exact .inr (.inr ⟨_, ha⟩)
      · obtain ⟨k, hk, rfl⟩ := List.mem_map.mp hb
        obtain ⟨p, hp, e⟩ := addrAt_mem (tl := tl) (j := k) (by simpa using List.mem_range.mp hk)
        exact .inr (.inr ⟨_, e ▸ htl p hp⟩)
  · refine ⟨⟨_, Heap.get?_push_size _ rfl, rfl, rfl⟩, (isL hget).push _, fun k hk => ?_⟩
    have hk' : k < tl.length := by simpa using hk
    obtain ⟨_, _, _, _, _, _, _, _, q⟩ := ht.vals hk'
    exact q _ (Heap.get?_push_of_some _ (htg _ (List.getElem_mem hk')))
  · obtain ⟨T, vals, rfl, rfl, hT⟩ := hP
    obtain ⟨x, y, z, u, v', w', e1, e2, _⟩ := ht.vals (j := i) (by simpa using hi)
    rw [e2] at hT
    exact turn i x y z u v' w' T vars l rest h t E' e1 hJ hr hT S
end
end Mine

/-! part Cast -/
namespace Mine
abbrev Trip := Int × Int × Int
def castQ (a b c : Int) : Int := if b % 2 = 0 then (a - b + 1 - 1 - c * b).fdiv (a - b + 1) else (c * b + 1 - (a - b + 1)).fdiv (-(a - b + 1))
def castR (a b c : Int) : Int := if b % 2 = 0 then (a - b + 1 - 1 - c * b).fmod (a - b + 1) else (c * b + 1 - (a - b + 1)).fmod (-(a - b + 1))
def castE (a b : Int) : Int := if b % 2 = 0 then a - b + 1 - 1 else 1 - (a - b + 1)
def castOne (t : Trip) : Option Trip := if t.2.2 ≠ 0 ∧ t.2.1 > 0 then some (t.1, t.2.1 - 1, -castQ t.1 t.2.1 t.2.2) else none
abbrev okT (t : Trip) : Prop := -100 ≤ t.1 ∧ t.1 ≤ 100 ∧ -100 ≤ t.2.1 ∧ t.2.1 ≤ 100 ∧ -1000 ≤ t.2.2 ∧ t.2.2 ≤ 1000 ∧ (t.2.2 ≠ 0 ∧ t.2.1 > 0 → t.1 - t.2.1 + 1 ≠ 0 ∧ castR t.1 t.2.1 t.2.2 = castE t.1 t.2.1)
theorem filterMap_take_succ {α β : Type} (f : α → Option β) {l : List α} {i : Nat} {x : α} (h : l[i]? = some x) : (l.take (i + 1)).filterMap f = (l.take i).filterMap f ++ (f x).toList := by
  rw [take_snoc h, List.filterMap_append]
  cases hf : f x <;> simp [hf]
theorem small_mul {c b : Int} (h1 : -1000 ≤ c) (h2 : c ≤ 1000) (h3 : -100 ≤ b) (h4 : b ≤ 100) : -100000 ≤ c * b ∧ c * b ≤ 100000 := by
  have : (c * b).natAbs ≤ 100000 := by
    rw [Int.natAbs_mul]
    exact Nat.le_trans (Nat.mul_le_mul (show c.natAbs ≤ 1000 by lia) (show b.natAbs ≤ 100 by lia)) (by decide)
  lia
theorem pcast {α : Type} (T : α) (x y r : List α) : (T :: (y ++ (x ++ r))).Perm (((x ++ [T]) ++ y) ++ r) := by
  have e : ((x ++ [T]) ++ y) ++ r = x ++ (T :: (y ++ r)) := by simp
  rw [e]
  exact (List.Perm.cons T (List.perm_append_comm_assoc y x r)).trans List.perm_middle.symm
theorem St.abs {B : Bas} {L : Addr} {h : Heap} {vars : List (Str × Value)} {l : List (Addr × Obj)} {T : Addr} {o : Obj} (S : St B L h vars ((T, o) :: l)) {P : Obj → Prop} (hp : P o) : ∃ o', P o' ∧ St B L h vars ((T, o') :: l) := ⟨o, hp, S⟩
set_option maxHeartbeats 4000000
section
variable {prog : Program} {w : World} {mg mb : Str → Option Value} {A : Around} {E : Value → Shared → Prop} {s : Shared} {Q : Value → Shared → Prop}
theorem nItemT {value slice : Expr} {h : Heap} {t : Nat} {a : Addr} {vs : List Value} {k : Int} {u : Tok} {x : Value} (ha : h.get? a = some (tupO vs.toArray)) (j : Nat) (h0 : k = j) (h1 : j < vs.length) (h2 : j < 100000) (hx : vs[j]? = some x) (H : Q x (sh s h t))
    (hs : subscripted slice false (.ref a) (.int k u) = operate [.ref a, .int k u] (getItem (.ref a) (.int k u)) := by with_unfolding_all rfl)
    (hg : ∀ r, letTemporaryGo value (.ref a) r = pure () := by intro _; with_unfolding_all rfl) :
    wpAny (model prog w) A (subscriptTail value slice (.ref a) (.int k u)) Q E (sh s h t) := by
  have hj : seqIndex? k vs.length = some j := by
    subst h0
    unfold seqIndex?
    simp; lia
  exact item_tupleL (s := sh s h t) ⟨_, ha, rfl, _, rfl⟩ (by first | decide | lia) (by first | decide | lia) hj hx H hs hg
theorem cast_at {t5 t6 : List (Addr × Obj)} {D : Addr} {tl : List (Addr × Obj)} {ts : List Trip} {n : Nat} (X : Bs w mg mb (hid ((t5 ++ t6).map (·.1)) s.heap)) (rm : Room A 13 40) (T5 : T57 t5) (T6 : T64 t6) (P : Pre (t5 ++ t6) s.heap)
    (hD : hid ((t5 ++ t6).map (·.1)) s.heap D = some (listOf (refs tl).toArray n)) (htl : ∀ p ∈ tl, hid ((t5 ++ t6).map (·.1)) s.heap p.1 = some p.2) (ht : TripL tl ts) (hlen : ts.length ≤ 100) (hok : ∀ t ∈ ts, okT t)
    (k : ∀ D' tl' n' t5' t6' h' tk', TripL tl' (ts.filterMap castOne) → T57 t5' → T64 t6' → Ret (t5 ++ t6) ((D', listOf (refs tl').toArray n') :: (tl' ++ (t5' ++ t6'))) s.heap h' → Q (.ref D') (sh s h' tk')) :
    wpAny (model prog w) A (call (.ref 132) [.ref D]) Q E s := by
  refine' enter (d := 12) (u := 37) (binds := [("cascade", .ref D)]) ((t5 ++ t6).map (·.1)) (t5 ++ t6) X rm ?ho ?hcd ?hb P.own P.mem P.nd ?_ ?hc ?hl ?c1 ?c2 ?c3
  case ho => exact rfl
  case hcd => exact rfl
  case hb => exact fun Y => BindsTo.peek Y fun _ => rfl
  case hc => decide
  case hl => exact locs rfl
  case c1 => exact rfl
  case c2 => exact rfl
  case c3 => exact rfl
  intro L h₁ t₁ env A' K₀ E₀ hRt hNx hE S rm
  subst hE
  have S := S.lets (vars' := [("cascade", .ref D)]) ⟨rfl, trivial⟩
  refine wpAny_execs_cons (wpAny_Assign_Name ?_)
  refine nList0 S fun Dl h₂ S => ?_
  refine nSt S fun h₃ t₃ S => ?_
  refine wpAny_execs_cons (wpAny_For ?_)
  refine rLoc (s := sh s h₃ t₃) S rfl ?_
  have S := S.perm (l' := ((Dl, listOf (refs []).toArray 0) :: ([] ++ (t5 ++ t6))) ++ []) (by rw [List.append_nil]; exact .refl _)
  refine rForT (s := sh s h₃ t₃) (fx := []) (ts := ts) rm.hh
    (fun i vars l => ∃ tl' m t5' t6', vars = ([("lower", .ref Dl)] : List (Str × Value)) ∧ l = (Dl, listOf (refs tl').toArray m) :: (tl' ++ (t5' ++ t6')) ∧ TripL tl' ((ts.take i).filterMap castOne) ∧ T57 t5' ∧ T64 t6')
    (S.lets (vars' := [("lower", .ref Dl)]) ⟨rfl, trivial⟩) hD htl ht ⟨[], 0, t5, t6, rfl, rfl, .nil, T5, T6⟩ ?_ ?_
  · rintro i a b c u v wt T _ _ rest h t E' hti ⟨tl', m, t5, t6, rfl, rfl, htl', T5, T6⟩ _ hT S Kk hKk hBk hVk
    obtain ⟨o1, o2, o3, o4, o5, o6, o7⟩ := hok _ (List.mem_of_getElem? hti)
    dsimp only at o1 o2 o3 o4 o5 o6 o7
    have hil : i < ts.length := (List.getElem?_eq_some_iff.mp hti).1
    have hpr := small_mul o5 o6 o3 o4
    refine nUnp (vs := [_, _, _]) rm.hh hT rfl rfl fun h₄ ex => ?_
    have S := S.ext ex
    refine aio_cons (wpAny_assign_Name (nSt S fun h₅ _ S => ?_))
    refine aio_cons (wpAny_assign_Name (nSt S fun h₆ _ S => ?_))
    refine aio_cons (wpAny_assign_Name (nSt S fun h₇ _ S => ?_))
    refine aio_nil ?_
    refine wpAny_execs_cons (wpAny_If (wpAny_isTrue_BoolOp (wpAny_allTrue_And_cons (wpAny_isTrue_Compare1 ?_))))
    refine rLoc (s := sh (sh s h₃ t₃) h₇ _) S rfl ?_
    refine nInt fun _ _ => ?_
    by_cases hcb : c ≠ 0 ∧ b > 0
    · obtain ⟨hw, hr⟩ := o7 hcb
      have hone : castOne (a, b, c) = some (a, b - 1, -castQ a b c) := if_pos hcb
      refine ne_int (wpAny_truthy_bool (ifB (fun _ => ?_) fun q => absurd q (by simp [hcb.1])))
      refine wpAny_allTrue_And_cons (wpAny_isTrue_Compare1 ?_)
      refine rLoc (s := sh (sh s h₃ t₃) h₇ _) S rfl ?_
      refine nInt fun _ _ => ?_
      refine gt_int (wpAny_truthy_bool (ifT hcb.2 ?_))
      refine wpAny_allTrue_And_nil ?_
      show wpAny _ _ _ _ _ _
      refine wpAny_execs_cons (wpAny_Assign_Name ?_)
      refine wpAny_BinOp (wpAny_BinOp ?_)
      refine rLoc (s := sh (sh s h₃ t₃) h₇ _) S rfl ?_
      refine rLoc (s := sh (sh s h₃ t₃) h₇ _) S rfl ?_
      refine nSub rfl fun _ _ => ?_
      refine nInt fun _ _ => ?_
      refine nAdd rfl fun _ _ => ?_
      refine nSt S fun h₈ _ S => ?_
      have S := S.perm (l' := (t5 ++ t6) ++ ((Dl, listOf (refs tl').toArray m) :: (tl' ++ rest))) (by
        have e : (Dl, listOf (refs tl').toArray m) :: (tl' ++ (t5 ++ t6)) ++ rest = ((Dl, listOf (refs tl').toArray m) :: tl') ++ ((t5 ++ t6) ++ rest) := by simp
        rw [e]
        exact List.perm_append_comm_assoc ..)
      refine wpAny_execs_cons (wpAny_Assign_Name ?_)
      refine wpAny_mono (Q := fun v s' => ∃ P u v' t5' t6' h' tk', v = .ref P ∧ s' = sh (sh s h₃ t₃) h' tk' ∧ T57 t5' ∧ T64 t6' ∧ Ret (t5 ++ t6) ((P, tupO [.int (castQ a b c) u, .int (castR a b c) v'].toArray) :: (t5' ++ t6')) h₈ h') ?_ (fun v s' hp => ?_) (fun _ _ x => x)
      · refine wpAny_IfExp (wpAny_isTrue_Compare1 ?_)
        refine wpAny_BinOp (rLoc (s := sh (sh s h₃ t₃) h₈ _) S rfl ?_)
        refine nInt fun _ _ => ?_
        refine nMod (by first | decide | omega) rfl fun _ _ => ?_
        refine nInt fun _ _ => ?_
        refine eq_int (wpAny_truthy_bool (ifB (fun q => ?_) fun q => ?_))
        · have hev : b % 2 = 0 := beq_iff_eq.mp q
          refine rCall (s := sh (sh s h₃ t₃) h₈ _) S X (g_int_divmod _) (keep_of _ (by decide)) ?_
          refine wpAny_items_cons (wpAny_BinOp (wpAny_BinOp ?_))
          refine rLoc (s := sh (sh s h₃ t₃) h₈ _) S rfl ?_
          refine nInt fun _ _ => ?_
          refine nSub rfl fun _ _ => ?_
          refine wpAny_BinOp (rLoc (s := sh (sh s h₃ t₃) h₈ _) S rfl ?_)
          refine rLoc (s := sh (sh s h₃ t₃) h₈ _) S rfl ?_
          refine nMul rfl (mul_ok (by first | decide | lia)) fun _ _ => ?_
          refine nSub rfl fun _ _ => ?_
          refine wpAny_items_cons (rLoc (s := sh (sh s h₃ t₃) h₈ _) S rfl ?_)
          refine wpAny_items_nil ⟨X.at S.keep, ?_⟩
          refine int_divmod_at 2 (s := sh (sh s h₃ t₃) h₈ _) (by first | decide | omega) (by first | decide | omega) (S.bsM X) (rm.less (by first | decide | omega) (by first | decide | omega)) T5 T6 S.pre (by first | decide | omega) hw (by first | decide | omega) fun P u v t5' t6' h' tk' T5 T6 R => ?_
          refine ⟨P, u, v, t5', t6', h', tk', rfl, rfl, T5, T6, ?_⟩
          rw [castQ, castR, if_pos hev, if_pos hev]; exact R
        · have hev : ¬ b % 2 = 0 := by simpa using q
          refine rCall (s := sh (sh s h₃ t₃) h₈ _) S X (g_int_divmod _) (keep_of _ (by decide)) ?_
          refine wpAny_items_cons (wpAny_BinOp (wpAny_BinOp (wpAny_BinOp ?_)))
          refine rLoc (s := sh (sh s h₃ t₃) h₈ _) S rfl ?_
          refine rLoc (s := sh (sh s h₃ t₃) h₈ _) S rfl ?_
          refine nMul rfl (mul_ok (by first | decide | omega)) fun _ _ => ?_
          refine nInt fun _ _ => ?_
          refine nAdd rfl fun _ _ => ?_
          refine rLoc (s := sh (sh s h₃ t₃) h₈ _) S rfl ?_
          refine nSub rfl fun _ _ => ?_
          refine wpAny_items_cons (wpAny_UnaryOp (rLoc (s := sh (sh s h₃ t₃) h₈ _) S rfl ?_))
          refine nNeg rfl fun _ _ => ?_
          refine wpAny_items_nil ⟨X.at S.keep, ?_⟩
          refine int_divmod_at 2 (s := sh (sh s h₃ t₃) h₈ _) (by first | decide | omega) (by first | decide | omega) (S.bsM X) (rm.less (by first | decide | omega) (by first | decide | omega)) T5 T6 S.pre (by first | decide | omega) (by first | decide | lia) (by first | decide | omega) fun P u v t5' t6' h' tk' T5 T6 R => ?_
          refine ⟨P, u, v, t5', t6', h', tk', rfl, rfl, T5, T6, ?_⟩
          rw [castQ, castR, if_neg hev, if_neg hev]; exact R
      obtain ⟨P', u', v', t5', t6', h₉, tk', rfl, rfl, T5, T6, R⟩ := hp
      have S := S.ret R
      refine nSt (s := sh s h₃ t₃) S fun h₁₀ _ S => ?_
      have S := S.lets (vars' := [("lower", .ref Dl), ("things", .int a _), ("many", .int b _), ("wide", .int (a - b + 1) _), ("pair", .ref P')]) ⟨rfl, rfl, rfl, rfl, rfl, trivial⟩
      refine wpAny_execs_cons (wpAny_If (wpAny_isTrue_Compare1 ?_))
      refine Subscript_ (rLoc (s := sh (sh s h₃ t₃) h₁₀ _) S rfl ?_)
      refine nInt fun _ _ => ?_
      refine nItemT (S.own (P', _) (.head _)) 1 rfl (by show 1 < 2; decide) (by decide) rfl ?_
      refine wpAny_mono (Q := fun v s' => ∃ u tk', v = .int (castE a b) u ∧ s' = sh (sh s h₃ t₃) h₁₀ tk') ?_ (fun v s' hp => ?_) (fun _ _ x => x)
      · refine wpAny_IfExp (wpAny_isTrue_Compare1 ?_)
        refine wpAny_BinOp (rLoc (s := sh (sh s h₃ t₃) h₁₀ _) S rfl ?_)
        refine nInt fun _ _ => ?_
        refine nMod (by first | decide | omega) rfl fun _ _ => ?_
        refine nInt fun _ _ => ?_
        refine eq_int (wpAny_truthy_bool (ifB (fun q => ?_) fun q => ?_))
        · have hev : b % 2 = 0 := beq_iff_eq.mp q
          refine wpAny_BinOp (rLoc (s := sh (sh s h₃ t₃) h₁₀ _) S rfl ?_)
          refine nInt fun _ _ => ?_
          refine nSub rfl fun u t => ⟨u, t, by rw [castE, if_pos hev], rfl⟩
        · have hev : ¬ b % 2 = 0 := by simpa using q
          refine wpAny_BinOp (nInt fun _ _ => ?_)
          refine rLoc (s := sh (sh s h₃ t₃) h₁₀ _) S rfl ?_
          refine nSub rfl fun u t => ⟨u, t, by rw [castE, if_neg hev], rfl⟩
      obtain ⟨u₂, tk₂, rfl, rfl⟩ := hp
      rw [← hr]
      refine ne_int (wpAny_truthy_bool (ifB (fun q => absurd q (by simp)) fun _ => ?_))
      refine wpAny_execs_nil ?_
      refine wpAny_execs_cons (wpAny_Expr ?_)
      refine rLM PySem.F.slot_list_append PySem.F.type_list_append ?_
      refine rLoc (s := sh (sh s h₃ t₃) h₁₀ _) S rfl ⟨Dl, (refs tl').toArray, m, rfl, S.own (Dl, listOf (refs tl').toArray m) (by simp), ?_⟩
      refine wpAny_items_cons (nTup ?_)
      refine wpAny_items_cons (rLoc (s := sh (sh s h₃ t₃) h₁₀ _) S rfl ?_)
      refine wpAny_items_cons (wpAny_BinOp (rLoc (s := sh (sh s h₃ t₃) h₁₀ _) S rfl ?_))
      refine nInt fun _ _ => ?_
      refine nSub rfl fun _ _ => ?_
      refine wpAny_items_cons (wpAny_UnaryOp ?_)
      refine Subscript_ (rLoc (s := sh (sh s h₃ t₃) h₁₀ _) S rfl ?_)
      refine nInt fun _ _ => ?_
      refine nItemT (S.own (P', _) (.head _)) 0 rfl (by show 0 < 2; decide) (by decide) rfl ?_
      refine nNeg rfl fun _ _ => ?_
      refine wpAny_items_nil ⟨_, _, _, _, _, _, rfl, S, by show 3 ≤ 1000; decide, fun T₂ h₁₁ S => ?_⟩
      obtain ⟨_, ⟨u₃, v₃, w₃, rfl⟩, S⟩ := S.abs (P := fun o => ∃ u v w, o = tupO [.int a u, .int (b - 1) v, .int (-castQ a b c) w].toArray) ⟨_, _, _, rfl⟩
      refine wpAny_items_nil ?_
      have hl1 : tl'.length ≤ ts.length := by
        rw [htl'.length]
        exact Nat.le_trans (List.length_filterMap_le _ _) (by rw [List.length_take]; omega)
      refine nAppend (s := sh s h₃ t₃) (S.mid (l := (T₂, _) :: (P', _) :: (t5' ++ t6'))) (by rw [List.size_toArray, List.length_map]; omega) fun h₁₂ m' S => ?_
      have S := (S.mid (l := [_, _])).drop1
      have S := S.perm (.cons _ (pcast _ tl' (t5' ++ t6') rest))
      have e : ∀ o, (refs (tl' ++ [(T₂, o)])).toArray = (refs tl').toArray.push (.ref T₂) := fun o => by simp
      refine wpAny_execs_nil ?_
      refine wpAny_execs_nil ?_
      refine hKk h₁₂ _ [("lower", .ref Dl)] _ ⟨tl' ++ [(T₂, tupO [.int a u₃, .int (b - 1) v₃, .int (-castQ a b c) w₃].toArray)], m', t5', t6', rfl, rfl, ?_, T5, T6⟩ ?_
      rotate_left
      · rw [e]; exact S.lets (vars' := [("lower", .ref Dl)]) ⟨rfl, trivial⟩
      · rw [filterMap_take_succ _ hti, hone]; exact htl'.snoc
    · have hone : castOne (a, b, c) = none := if_neg hcb
      refine ne_int (wpAny_truthy_bool (ifB (fun q => ?_) fun q => ?_))
      · have hc : c ≠ 0 := by simpa using q
        refine wpAny_allTrue_And_cons (wpAny_isTrue_Compare1 ?_)
        refine rLoc (s := sh (sh s h₃ t₃) h₇ _) S rfl ?_
        refine nInt fun _ _ => ?_
        refine gt_int (wpAny_truthy_bool (ifF (fun q => hcb ⟨hc, q⟩) ?_))
        show wpAny _ _ _ _ _ _
        refine wpAny_execs_nil ?_
        refine wpAny_execs_nil ?_
        exact hKk h₇ _ _ _ ⟨tl', m, t5, t6, rfl, rfl, by rw [filterMap_take_succ _ hti, hone]; simpa using htl', T5, T6⟩ (S.lets ⟨rfl, trivial⟩)
      · show wpAny _ _ _ _ _ _
        refine wpAny_execs_nil ?_
        refine wpAny_execs_nil ?_
        exact hKk h₇ _ _ _ ⟨tl', m, t5, t6, rfl, rfl, by rw [filterMap_take_succ _ hti, hone]; simpa using htl', T5, T6⟩ (S.lets ⟨rfl, trivial⟩)
  · rintro vars l h t E' ⟨tl', m, t5', t6', rfl, rfl, htl', T5, T6⟩ S
    rw [List.take_length] at htl'
    refine wpAny_execs_nil ?_
    refine wpAny_execs_cons (wpAny_Return_some ?_)
    refine rLoc (s := sh (sh s h₃ t₃) h t) S rfl ?_
    exact hRt _ _ (k Dl tl' m t5' t6' h t htl' T5 T6 (St.toRet S))
end
end Mine

/-! part Sj -/
namespace Mine
open PySem.StrLaws PySem.Builtin PySem.Builtin.Str
/-! plain: what was joined by ", " is split again -/
abbrev sepS : Str := ⟨#[44, 32]⟩
theorem sep_eq : (", " : Str) = sepS := by decide +kernel
def cpsJ : List Str → List Nat
  | [] => []
  | [w] => w.cps.toList
  | w :: v :: r => w.cps.toList ++ 44 :: 32 :: cpsJ (v :: r)
theorem cps_join : ∀ ws : List Str, (Str.join sepS ws).cps.toList = cpsJ ws
  | [] => rfl
  | [w] => rfl
  | w :: v :: r => by
    show (w ++ sepS ++ Str.join sepS (v :: r)).cps.toList = _
    have e : ∀ a b : Str, (a ++ b).cps.toList = a.cps.toList ++ b.cps.toList := fun a b => by
      show (a.cps ++ b.cps).toList = _
      simp
    rw [e, e, cps_join (v :: r)]
    show w.cps.toList ++ [44, 32] ++ _ = _
    simp [cpsJ]
theorem at_iff {x : Str} {c : Nat} : At x sepS x.length c ↔ (x.cps.toList.drop c).take 2 = [44, 32] := by
  unfold At
  rw [subAt_eq]
  show c + 2 ≤ x.length ∧ ((x.cps.toList.drop c).take 2 == [44, 32]) = true ↔ _
  rw [beq_iff_eq]
  constructor
  · exact fun h => h.2
  · intro h
    refine ⟨?_, h⟩
    have := congrArg List.length h
    simp at this
    have e : x.length = x.cps.toList.length := by simp [Str.length]
    rw [e]
    simp; lia
theorem no_at {x : Str} {pre w post : List Nat} (hx : x.cps.toList = pre ++ (w ++ post)) (hw : 44 ∉ w) {c : Nat} (h1 : pre.length ≤ c) (h2 : c < pre.length + w.length) : ¬ At x sepS x.length c := by
  rw [at_iff, hx]
  intro h
  have e0 : ((pre ++ (w ++ post)).drop c)[0]? = some 44 := by
    have := congrArg (fun l : List Nat => l[0]?) h
    simpa using this
  rw [List.getElem?_drop, Nat.add_zero, List.getElem?_append_right h1, List.getElem?_append_left (by first | decide | lia)] at e0
  exact hw (List.mem_of_getElem? e0)
theorem sub_word {x : Str} {pre post : List Nat} {w : Str} {b : Nat} (hx : x.cps.toList = pre ++ (w.cps.toList ++ post)) (hb : b = pre.length + w.cps.toList.length) : strSub x pre.length b = w := by
  apply Str.ext'
  apply Array.toList_inj.mp
  rw [strSub_toList, hx, List.drop_left' rfl, hb, show pre.length + w.cps.toList.length - pre.length = w.cps.toList.length by lia, List.take_left' rfl]
theorem parts_words {x : Str} : ∀ (ws : List Str) (pre : List Nat) (cuts : List Nat) (f : Nat), ws ≠ [] → (∀ w ∈ ws, 44 ∉ w.cps.toList) → x.cps.toList = pre ++ cpsJ ws → ChainG x sepS x.length pre.length cuts f → (∀ k, f ≤ k → ¬ At x sepS x.length k) → partsFrom x 2 pre.length cuts = ws
  | [], _, _, _, h, _, _, _, _ => absurd rfl h
  | [w], pre, cuts, f, _, hw, hx, hc, hf => by
    have hx' : x.cps.toList = pre ++ (w.cps.toList ++ []) := by rw [List.append_nil]; exact hx
    have hlen : x.length = pre.length + w.cps.toList.length := by
      have e : x.length = x.cps.toList.length := by simp [Str.length]
      rw [e, hx]; simp [cpsJ]
    cases cuts with
    | nil =>
      show [strSub x pre.length x.length] = [w]
      rw [sub_word hx' hlen]
    | cons c r =>
      have hA := hc.2.1
      have := (at_iff.mp hA)
      have h2 : c + 2 ≤ x.length := hA.1
      exact absurd hA (no_at hx' (hw w (.head _)) hc.1 (by first | decide | lia))
  | w :: v :: r, pre, cuts, f, _, hw, hx, hc, hf => by
    have hx' : x.cps.toList = pre ++ (w.cps.toList ++ (44 :: 32 :: cpsJ (v :: r))) := hx
    have hA0 : At x sepS x.length (pre.length + w.cps.toList.length) := by
      rw [at_iff, hx', ← List.append_assoc, List.drop_left' (by simp)]
      rfl
    cases cuts with
    | nil =>
      have e : f = pre.length := hc
      exact absurd hA0 (hf _ (by first | decide | lia))
    | cons c r' =>
      have h1 : c = pre.length + w.cps.toList.length := by
        rcases Nat.lt_trichotomy c (pre.length + w.cps.toList.length) with q | q | q
        · exact absurd hc.2.1 (no_at hx' (hw w (.head _)) hc.1 q)
        · exact q
        · exact absurd hA0 (hc.2.2.1 _ (Nat.le_add_right _ _) q)
      have ih := parts_words (x := x) (v :: r) (pre ++ w.cps.toList ++ [44, 32]) r' f (by simp) (fun u hu => hw u (.tail _ hu)) (by rw [hx']; simp) (by
        have := hc.2.2.2
        rw [h1] at this
        have e : (pre ++ w.cps.toList ++ [44, 32]).length = pre.length + w.cps.toList.length + sepS.length := by simp [Str.length]; rfl
        rw [e]; exact this) hf
      show strSub x pre.length c :: partsFrom x 2 (c + 2) r' = _
      have e : (pre ++ w.cps.toList ++ [44, 32]).length = c + 2 := by rw [h1]; simp; rfl
      rw [e] at ih
      rw [ih, sub_word hx' h1]
theorem split_join {ws : List Str} (h0 : ws ≠ []) (hw : ∀ w ∈ ws, 44 ∉ w.cps.toList ∧ 2 ≤ w.length) : Txt.split (Txt.join ", " ws) ", " = ws := by
  rw [sep_eq]
  have ej : Txt.join sepS ws = Str.join sepS ws := StrLaws.glued_eq_join ..
  rw [ej]
  have hl : 2 ≤ (Str.join sepS ws).length := by
    have e : (Str.join sepS ws).length = (cpsJ ws).length := by rw [← cps_join]; simp [Str.length]
    rw [e]
    match ws, h0, hw with
    | [w], _, hw =>
      have := (hw w (.head _)).2
      have e : w.length = w.cps.toList.length := by simp [Str.length]
      show 2 ≤ w.cps.toList.length
      assumption
    | w :: v :: r, _, _ => simp [cpsJ]; lia
  have hs : Txt.split (Str.join sepS ws) sepS = partsFrom (Str.join sepS ws) 2 0 (occurrences (Str.join sepS ws) sepS 0 (Str.join sepS ws).length ((Str.join sepS ws).length + 1)) := by
    unfold Txt.split
    rw [if_neg]
    · split
      · rename_i h
        rw [List.isEmpty_iff.mp h]
        show _ = [strSub _ 0 _]
        rw [sub_whole]
      · rw [partsBetween_eq]; rfl
    · rw [Bool.or_eq_true, not_or]
      refine ⟨?_, ?_⟩
      · have : ¬ (Str.join sepS ws).length < sepS.length := Nat.not_lt.mpr hl
        simpa using this
      · have : Str.strKind sepS = 1 := by decide +kernel
        rw [this]
        have : 1 ≤ Str.strKind (Str.join sepS ws) := by
          unfold Str.strKind
          split
          · decide
          · split <;> decide
        simp; lia
  rw [hs]
  obtain ⟨f, hc, hf⟩ := occ_tight (Str.join sepS ws) sepS (by decide)
  exact parts_words ws [] _ f h0 (fun w h => (hw w h).1) (by rw [cps_join]; rfl) hc hf
theorem flag_free : ∀ i, i < 13 → 44 ∉ (flagName i).cps.toList ∧ 2 ≤ (flagName i).length := by decide +kernel
theorem flag_inj : ∀ i, i < 13 → ∀ j, j < 13 → flagName i = flagName j → i = j := by decide +kernel
theorem split_words {v : Nat} (h0 : 0 < v) (h1 : v < 2 ^ 13) : Txt.split (Txt.join ", " (wordsTo v 13)) ", " = wordsTo v 13 := by
  refine split_join ?_ fun w hw => ?_
  · intro e
    unfold wordsTo at e
    have e := List.map_eq_nil_iff.mp e
    have hz : v = 0 := by
      apply Nat.eq_of_testBit_eq
      intro j
      rw [Nat.zero_testBit]
      by_cases hj : j < 13
      · have := List.filter_eq_nil_iff.mp e j (List.mem_range.mpr hj)
        simpa using this
      · exact Nat.testBit_lt_two_pow (Nat.lt_of_lt_of_le h1 (Nat.pow_le_pow_right (by decide) (by first | decide | lia)))
    lia
  · unfold wordsTo at hw
    obtain ⟨j, hj, rfl⟩ := List.mem_map.mp hw
    exact flag_free j (List.mem_range.mp (List.mem_filter.mp hj).1)
end Mine

/-! part BelP -/
namespace Mine
/-! plain: a row in order, without doubles -/
def cLt (ys : List Int) (z : Int) : Nat := ys.countP fun y => decide (y < z)
def ins (ys : List Int) (z : Int) : List Int := ys.take (cLt ys z) ++ z :: ys.drop (cLt ys z)
theorem cLt_cons_lt {y z : Int} {r : List Int} (h : y < z) : cLt (y :: r) z = cLt r z + 1 := by unfold cLt; rw [List.countP_cons, if_pos (by simpa using h)]
theorem cLt_cons_ge {y z : Int} {r : List Int} (hs : (y :: r).Pairwise (· < ·)) (h : ¬ y < z) : cLt (y :: r) z = 0 := by
  unfold cLt
  refine List.countP_eq_zero.mpr fun a ha => ?_
  rcases List.mem_cons.mp ha with rfl | ha
  · simpa using h
  · have := List.rel_of_pairwise_cons hs ha
    simp only [decide_eq_true_eq]; lia
theorem at_spot {z : Int} : ∀ {ys : List Int}, ys.Pairwise (· < ·) → ((ys.drop (cLt ys z)).take 1 = [z] ↔ z ∈ ys)
  | [], _ => by simp
  | y :: r, hs => by
    have ih := at_spot (z := z) (List.Pairwise.of_cons hs)
    by_cases h : y < z
    · rw [cLt_cons_lt h, List.drop_succ_cons, ih, List.mem_cons]
      constructor
      · exact .inr
      · rintro (q | q)
        · lia
        · exact q
    · rw [cLt_cons_ge hs h]
      simp only [List.drop_zero, List.take_succ_cons, List.take_zero, List.cons.injEq, and_true, List.mem_cons]
      constructor
      · exact fun q => .inl q.symm
      · rintro (q | q)
        · exact q.symm
        · have := List.rel_of_pairwise_cons hs q; lia
theorem le_spot {ys : List Int} {z : Int} (h : z ∉ ys) : ys.countP (fun y => decide (y ≤ z)) = cLt ys z := by
  unfold cLt
  refine List.countP_congr fun y hy => ?_
  simp only [decide_eq_true_eq]
  constructor
  · intro q
    rcases Int.lt_or_eq_of_le q with q | q
    · exact q
    · exact absurd (q ▸ hy) h
  · intro q; lia
theorem ins_cons_lt {y z : Int} {r : List Int} (h : y < z) : ins (y :: r) z = y :: ins r z := by unfold ins; rw [cLt_cons_lt h]; rfl
theorem ins_cons_ge {y z : Int} {r : List Int} (hs : (y :: r).Pairwise (· < ·)) (h : ¬ y < z) : ins (y :: r) z = z :: y :: r := by unfold ins; rw [cLt_cons_ge hs h]; rfl
theorem ins_mem {ys : List Int} {z a : Int} : a ∈ ins ys z ↔ a = z ∨ a ∈ ys := by
  unfold ins
  rw [List.mem_append, List.mem_cons]
  constructor
  · rintro (h | h | h)
    · exact .inr (List.mem_of_mem_take h)
    · exact .inl h
    · exact .inr (List.mem_of_mem_drop h)
  · rintro (h | h)
    · exact .inr (.inl h)
    · rw [← List.take_append_drop (cLt ys z) ys, List.mem_append] at h
      rcases h with h | h
      · exact .inl h
      · exact .inr (.inr h)
theorem ins_sorted {z : Int} : ∀ {ys : List Int}, ys.Pairwise (· < ·) → z ∉ ys → (ins ys z).Pairwise (· < ·)
  | [], _, _ => by simp [ins, cLt]
  | y :: r, hs, hz => by
    by_cases h : y < z
    · rw [ins_cons_lt h]
      refine List.pairwise_cons.mpr ⟨fun a ha => ?_, ins_sorted (List.Pairwise.of_cons hs) fun q => hz (.tail _ q)⟩
      rcases ins_mem.mp ha with rfl | ha
      · exact h
      · exact List.rel_of_pairwise_cons hs ha
    · rw [ins_cons_ge hs h]
      have hne : z ≠ y := fun q => hz (q ▸ .head _)
      refine List.pairwise_cons.mpr ⟨fun a ha => ?_, hs⟩
      rcases List.mem_cons.mp ha with rfl | ha
      · lia
      · have := List.rel_of_pairwise_cons hs ha; omega
theorem ins_spot {ys : List Int} {z : Int} : ((ins ys z).drop (cLt ys z)).take 1 = [z] := by
  have hl : (ys.take (cLt ys z)).length = cLt ys z := by rw [List.length_take]; have : cLt ys z ≤ ys.length := List.countP_le_length; lia
  unfold ins
  rw [List.drop_left' hl]; rfl
theorem sorted_len : ∀ {ys : List Int} {lo hi : Int}, ys.Pairwise (· < ·) → (∀ y ∈ ys, lo ≤ y ∧ y < hi) → (ys.length : Int) ≤ max 0 (hi - lo)
  | [], lo, hi, _, _ => by simp; omega
  | y :: r, lo, hi, hs, hb => by
    have hy := hb y (.head _)
    have ih := sorted_len (ys := r) (lo := y + 1) (hi := hi) (List.Pairwise.of_cons hs) fun a ha => ⟨by have := List.rel_of_pairwise_cons hs ha; assumption, (hb a (.tail _ ha)).2⟩
    rw [List.length_cons]; push_cast; lia
theorem sorted_le {ys : List Int} (h : ys.Pairwise (· < ·)) : ys.Pairwise (· ≤ ·) := h.imp fun h => by lia
theorem sorted_ext : ∀ {xs ys : List Int}, xs.Pairwise (· < ·) → ys.Pairwise (· < ·) → (∀ a, a ∈ xs ↔ a ∈ ys) → xs = ys
  | [], [], _, _, _ => rfl
  | [], y :: r, _, _, h => absurd ((h y).mpr (.head _)) List.not_mem_nil
  | x :: r, [], _, _, h => absurd ((h x).mp (.head _)) List.not_mem_nil
  | x :: r, y :: t, hx, hy, h => by
    have e : x = y := by
      rcases List.mem_cons.mp ((h x).mp (.head _)) with q | q
      · exact q
      · rcases List.mem_cons.mp ((h y).mpr (.head _)) with q' | q'
        · exact q'.symm
        · have := List.rel_of_pairwise_cons hy q
          have := List.rel_of_pairwise_cons hx q'
          lia
    subst e
    congr 1
    refine sorted_ext (List.Pairwise.of_cons hx) (List.Pairwise.of_cons hy) fun a => ⟨fun ha => ?_, fun ha => ?_⟩
    · rcases List.mem_cons.mp ((h a).mp (.tail _ ha)) with q | q
      · have := List.rel_of_pairwise_cons hx ha; lia
      · exact q
    · rcases List.mem_cons.mp ((h a).mpr (.tail _ ha)) with q | q
      · have := List.rel_of_pairwise_cons hy ha; lia
      · exact q
/-! plain: the things of a set -/
def bitsOf (x : Nat) : List Nat := (List.range 6).filter fun j => x.testBit j
theorem bits_shift : ∀ b, b < 8 → ∀ x, x < 64 → ((List.range 13).filter fun j => (x * 2 ^ b).testBit j) = (bitsOf x).map (b + ·) := by decide +kernel
theorem words_bits {b x : Nat} (hb : b < 8) (hx : x < 64) : wordsTo (x * 2 ^ b) 13 = (bitsOf x).map fun j => flagName (b + j) := by
  unfold wordsTo
  rw [bits_shift b hb x hx, List.map_map]; rfl
theorem bits_mem {x j : Nat} : j ∈ bitsOf x ↔ j < 6 ∧ x.testBit j = true := by
  unfold bitsOf
  rw [List.mem_filter, List.mem_range]
theorem xor_bit : ∀ x : Nat, x < 64 → ∀ j : Nat, j < 6 → x.testBit j = true → Builtin.bitXor (x : Int) ((2 ^ j : Nat) : Int) = (x : Int) - ((2 ^ j : Nat) : Int) := by decide +kernel
theorem bit_le : ∀ x : Nat, x < 64 → ∀ j : Nat, j < 6 → x.testBit j = true → 2 ^ j ≤ x := by decide +kernel
/-- what lies just below the sets of a row -/
def Less (x : Nat) (js : List Nat) (a : Int) : Prop := ∃ j ∈ js, a = (x : Int) - ((2 ^ j : Nat) : Int)
structure BelowOf (xs : List Nat) (ys : List Int) : Prop where
  so : ys.Pairwise (· < ·)
  mem : ∀ a, a ∈ ys ↔ ∃ x ∈ xs, Less x (bitsOf x) a
structure BelowIn (xs : List Nat) (x : Nat) (js : List Nat) (ys : List Int) : Prop where
  so : ys.Pairwise (· < ·)
  mem : ∀ a, a ∈ ys ↔ (∃ x ∈ xs, Less x (bitsOf x) a) ∨ Less x js a
theorem BelowOf.len {xs : List Nat} {ys : List Int} (h : BelowOf xs ys) (hx : ∀ x ∈ xs, x < 64) : ys.length ≤ 64 ∧ ∀ a ∈ ys, 0 ≤ a ∧ a < 64 := by
  have hb : ∀ a ∈ ys, 0 ≤ a ∧ a < 64 := fun a ha => by
    obtain ⟨x, hxs, j, hj, rfl⟩ := (h.mem a).mp ha
    have h1 := bits_mem.mp hj
    have h2 := bit_le x (hx x hxs) j h1.1 h1.2
    have := hx x hxs
    have h3 : 1 ≤ 2 ^ j := Nat.one_le_two_pow
    lia
  have := sorted_len h.so hb
  exact ⟨by lia, hb⟩
theorem BelowIn.len {xs js : List Nat} {x : Nat} {ys : List Int} (h : BelowIn xs x js ys) (hx : ∀ x ∈ xs, x < 64) (hx' : x < 64) (hj : ∀ j ∈ js, j ∈ bitsOf x) : ys.length ≤ 64 := by
  have hb : ∀ a ∈ ys, 0 ≤ a ∧ a < 64 := fun a ha => by
    rcases (h.mem a).mp ha with ⟨x, hxs, j, hj, rfl⟩ | ⟨j, hj', rfl⟩
    · have h1 := bits_mem.mp hj
      have h2 := bit_le x (hx x hxs) j h1.1 h1.2
      have := hx x hxs
      have h3 : 1 ≤ 2 ^ j := Nat.one_le_two_pow
      lia
    · have h1 := bits_mem.mp (hj j hj')
      have h2 := bit_le x hx' j h1.1 h1.2
      have h3 : 1 ≤ 2 ^ j := Nat.one_le_two_pow
      lia
  have := sorted_len h.so hb
  lia
theorem BelowOf.start {xs : List Nat} {x : Nat} {ys : List Int} (h : BelowOf xs ys) : BelowIn xs x [] ys :=
  ⟨h.so, fun a => by rw [h.mem a]; exact ⟨.inl, fun q => q.elim id fun ⟨_, h, _⟩ => nomatch h⟩⟩
theorem BelowIn.stop {xs : List Nat} {x : Nat} {ys : List Int} (h : BelowIn xs x (bitsOf x) ys) : BelowOf (xs ++ [x]) ys :=
  ⟨h.so, fun a => by
    rw [h.mem a]
    constructor
    · rintro (⟨y, hy, q⟩ | q)
      · exact ⟨y, List.mem_append_left _ hy, q⟩
      · exact ⟨x, List.mem_append_right _ (.head _), q⟩
    · rintro ⟨y, hy, q⟩
      rcases List.mem_append.mp hy with hy | hy
      · exact .inl ⟨y, hy, q⟩
      · rw [List.mem_singleton.mp hy] at q; exact .inr q⟩
theorem BelowIn.has {xs js : List Nat} {x j : Nat} {ys : List Int} (h : BelowIn xs x js ys) (hz : (x : Int) - ((2 ^ j : Nat) : Int) ∈ ys) : BelowIn xs x (js ++ [j]) ys :=
  ⟨h.so, fun a => by
    rw [h.mem a]
    constructor
    · rintro (q | ⟨i, hi, e⟩)
      · exact .inl q
      · exact .inr ⟨i, List.mem_append_left _ hi, e⟩
    · rintro (q | ⟨i, hi, e⟩)
      · exact .inl q
      · rcases List.mem_append.mp hi with hi | hi
        · exact .inr ⟨i, hi, e⟩
        · rw [List.mem_singleton.mp hi] at e
          exact (h.mem a).mp (e ▸ hz)⟩
theorem BelowIn.add {xs js : List Nat} {x j : Nat} {ys : List Int} (h : BelowIn xs x js ys) (hz : (x : Int) - ((2 ^ j : Nat) : Int) ∉ ys) : BelowIn xs x (js ++ [j]) (ins ys ((x : Int) - ((2 ^ j : Nat) : Int))) :=
  ⟨ins_sorted h.so hz, fun a => by
    rw [ins_mem, h.mem a]
    constructor
    · rintro (rfl | q | ⟨i, hi, e⟩)
      · exact .inr ⟨j, List.mem_append_right _ (.head _), rfl⟩
      · exact .inl q
      · exact .inr ⟨i, List.mem_append_left _ hi, e⟩
    · rintro (q | ⟨i, hi, e⟩)
      · exact .inr (.inl q)
      · rcases List.mem_append.mp hi with hi | hi
        · exact .inr (.inr ⟨i, hi, e⟩)
        · rw [List.mem_singleton.mp hi] at e
          exact .inl e⟩
theorem slice_one {vs : List Value} {c : Nat} (hc : c ≤ vs.length) : slicePick vs.toArray (some (c : Int)) (some ((c : Int) + 1)) none = ((vs.drop c).take 1).toArray := by
  rw [slicePick_plain]
  have e : ((c : Int) + 1) = ((c + 1 : Nat) : Int) := by push_cast; rfl
  simp only [Option.elim, e, clipAt_nat, List.size_toArray]
  rw [Nat.min_eq_left hc]
  congr 1
  rcases Nat.lt_or_ge c vs.length with q | q
  · rw [Nat.min_eq_left (by first | decide | assumption), show c + 1 - c = 1 by lia]
  · rw [List.drop_eq_nil_of_le (by simpa using q)]; simp
end Mine

/-! part Bel -/
namespace Mine
theorem strs_item {vs : List Value} {ys : List Str} (h : StrsAre vs ys) {i : Nat} {v : Value} (e : vs.toArray[i]? = some v) : ∃ y t, ys[i]? = some y ∧ v = .str y t := by
  have e' : vs[i]? = some v := by simpa using e
  obtain ⟨hl, hg⟩ := strs_get h
  obtain ⟨h1, h2⟩ := List.getElem?_eq_some_iff.mp e'
  obtain ⟨t, q⟩ := hg i h1 (by first | decide | lia)
  exact ⟨ys[i]'(by first | decide | lia), t, List.getElem?_eq_getElem (by first | decide | lia), by rw [← h2]; exact q⟩
set_option maxHeartbeats 4000000
section
variable {prog : Program} {w : World} {mg mb : Str → Option Value} {A : Around} {E : Value → Shared → Prop} {s : Shared} {Q : Value → Shared → Prop}
theorem nSplit {h : Heap} {tk0 : Nat} {B : Bas} {L : Addr} {vars : List (Str × Value)} {l : List (Addr × Obj)} {x y : Str} {t u : Tok} (S : St B L h vars l) (hy : (y.length == 0) = false) (hsz : x.length ≤ 1000)
    (k : ∀ D vs h' tk, StrsAre vs (Txt.split x y) → St B L h' vars ((D, listOf vs.toArray 0) :: l) → Q (.ref D) (sh s h' tk)) :
    wpAny (model prog w) A (call (.builtin "str.split") [.str x t, .str y u]) Q E (sh s h tk0) := rSplit (s := sh s h tk0) S hy hsz k
theorem nIndex {h : Heap} {tk0 : Nat} {a : Addr} {vs : List Value} {ys : List Str} {n j : Nat} {kk : Str} {t : Tok} (hget : h.get? a = some (listOf vs.toArray n)) (hs : StrsAre vs ys) (hj : j < ys.length) (hlen : ys.length ≤ 1000)
    (hit : ys[j] = kk) (hno : ∀ i (h : i < ys.length), i < j → ys[i] ≠ kk) (k : ∀ u v, Q (.int j u) (sh s h v)) :
    wpAny (model prog w) A (call (.builtin "list.index") [.ref a, .str kk t]) Q E (sh s h tk0) := rIndexStr (s := sh s h tk0) hget hs hj hlen hit hno (k _ _)
theorem nSl2 {h : Heap} {tk0 : Nat} {env : Env} {e1 e2 : Expr} {p : Pos} (H : wpAny (model prog w) A (eval e1 env) (fun l s₁ => wpAny (model prog w) A (eval e2 env) (fun u s₂ => ∃ h' t', s₂ = sh s h' t' ∧ Q (.ref h'.objs.size) (sh s (h'.push { cls := .type "slice", data := .fields #[l, u, .none] }) t')) E s₁) E (sh s h tk0)) :
    wpAny (model prog w) A (eval (.Slice (some e1) (some e2) none p) env) Q E (sh s h tk0) :=
  wpAny_Slice (wpAny_mono H (fun l s₁ h₁ => wpAny_mono h₁ (fun u s₂ ⟨h', t', e, q⟩ => by subst e; exact wpAny_pure q) fun _ _ x => x) fun _ _ x => x)
theorem words_len {v : Nat} : (Txt.join ", " (wordsTo v 13)).length ≤ 1000 := by
  have h := wordsTo_len v 13 (by first | decide | omega)
  have e : Txt.join ", " (wordsTo v 13) = Str.join ", " (wordsTo v 13) := StrLaws.glued_eq_join ..
  rw [e]
  have := StrLaws.join_length_le ", " (wordsTo v 13)
  have hs : (", " : Str).length = 2 := by decide +kernel
  rw [hs] at this
  lia
theorem below_at {a : Addr} {vs : List Value} {xs : List Nat} {na b : Nat} {tb : Tok} (X : Bs w mg mb (hid [] s.heap)) (rm : Room A 3 140) (ha : s.heap.get? a = some (listOf vs.toArray na)) (hi : IntsAre vs (xs.map fun x : Nat => (x : Int)))
    (hx : ∀ x ∈ xs, 0 < x ∧ x < 64) (hlen : xs.length ≤ 100) (hb : b < 8)
    (k : ∀ D bs ys m h' tk', IntsAre bs ys → BelowOf xs ys → s.heap.get? D = none → h'.get? D = some (listOf bs.toArray m) → Ext s.heap h' → Q (.ref D) (sh s h' tk')) :
    wpAny (model prog w) A (call (.ref 115) [.ref a, .int b tb]) Q E s := by
  refine' enter0 (d := 2) (u := 137) (binds := [("row", .ref a), ("base", .int b tb)]) X rm ?ho ?hcd ?hb ?_ ?hc ?hl ?c1 ?c2 ?c3
  case ho => exact rfl
  case hcd => exact rfl
  case hb => exact fun Y => BindsTo.peek Y fun _ => rfl
  case hc => decide
  case hl => exact locs rfl
  case c1 => exact rfl
  case c2 => exact rfl
  case c3 => exact rfl
  intro L h₁ t₁ env A' K₀ E₀ hRt hNx hE S rm
  subst hE
  have S := S.lets (vars' := [("row", .ref a), ("base", .int b tb)]) ⟨rfl, rfl, trivial⟩
  refine wpAny_execs_cons (wpAny_Assign_Name ?_)
  refine rCall (s := sh s h₁ _) S X (g_law_words _) (keep_of _ (by decide)) ?_
  refine wpAny_items_cons ?_
  refine rCallT (s := sh s h₁ _) S X (n_range _) boot_range ?_
  refine wpAny_items_cons (rLoc (s := sh s h₁ _) S rfl ?_)
  refine wpAny_items_cons (wpAny_BinOp (rLoc (s := sh s h₁ _) S rfl ?_))
  refine nInt fun _ _ => ?_
  refine nAdd rfl fun _ _ => ?_
  refine wpAny_items_nil ?_
  refine nRange2 S fun r tr ur vr h₂ _ S => ?_
  refine wpAny_items_nil ⟨X.at S.keep, ?_⟩
  refine words_range (s := sh s h₂ _) (q := b) (S.bsM (ob := []) X) (rm.less (by first | decide | omega) (by first | decide | omega)) S.get (by first | decide | (exact Nat.le_of_lt (Nat.lt_of_lt_of_le (by assumption) (by decide)))) fun Dw ws nw h₃ _ hws hDw hDw' ex => ?_
  have S := S.drop1.new1 ex hDw' hDw
  refine nSt (s := s) S fun h₄ _ S => ?_
  refine wpAny_execs_cons (wpAny_Assign_Name ?_)
  refine nList0 S fun Db h₅ S => ?_
  refine nSt S fun h₆ t₆ S => ?_
  have S := S.lets (vars' := [("below", .ref Db), ("words", .ref Dw), ("base", .int b tb), ("row", .ref a)]) ⟨rfl, rfl, rfl, rfl, trivial⟩
  refine wpAny_execs_cons (wpAny_For ?_)
  refine rLoc (s := sh s h₆ _) S rfl ?_
  refine rForL (s := sh s h₆ t₆) (its := vs.toArray) (l := [(Db, listOf [].toArray 0)]) (fx := [(Dw, listOf ws.toArray nw)]) rfl rm.hh
    (fun i vars l => ∃ bs ys m, vars = ([("below", .ref Db), ("words", .ref Dw), ("base", .int b tb)] : List (Str × Value)) ∧ l = [(Db, listOf bs.toArray m)] ∧ IntsAre bs ys ∧ BelowOf (xs.take i) ys)
    (S.lets (vars' := [("below", .ref Db), ("words", .ref Dw), ("base", .int b tb)]) ⟨rfl, rfl, rfl, trivial⟩) (.inl ⟨na, hid_some.mpr ⟨List.not_mem_nil, ha⟩⟩) ⟨[], [], 0, rfl, rfl, .nil, ⟨List.Pairwise.nil, fun a => by simp⟩⟩ ?_ ?_
  · rintro i v _ _ rest h t E' hv ⟨bs, ys, m, rfl, rfl, hbs, hB⟩ hfx S Kk hKk hBk hVk
    obtain ⟨x', tx, hx', rfl⟩ := ints_item hi hv
    rw [List.getElem?_map] at hx'
    obtain ⟨x, hxi, rfl⟩ := Option.map_eq_some_iff.mp hx'
    have hxm := hx x (List.mem_of_getElem? hxi)
    have hxt : ∀ y ∈ xs.take i, y < 64 := fun y hy => (hx y (List.mem_of_mem_take hy)).2
    refine wpAny_assign_Name (nSt S fun h₇ t₇ S => ?_)
    refine wpAny_execs_cons (wpAny_For ?_)
    refine rStrM (fun x t s R h => GM.split h) ?_
    refine rCall (s := sh (sh s h₆ t₆) h₇ _) S X (g_pretty_flags _) (keep_of _ (by decide)) ?_
    refine wpAny_items_cons (wpAny_BinOp (rLoc (s := sh (sh s h₆ t₆) h₇ _) S rfl ?_))
    refine rLoc (s := sh (sh s h₆ t₆) h₇ _) S rfl ?_
    refine nShl (n := b) (c := ((x * 2 ^ b : Nat) : Int)) rfl (by first | decide | (exact Nat.le_of_lt (Nat.lt_of_lt_of_le (by assumption) (by decide)))) (by rw [Int.natAbs_natCast]; lia) (by push_cast; rfl) fun _ _ => ?_
    refine wpAny_items_nil ⟨X.at S.keep, ?_⟩
    have hv0 : 0 < x * 2 ^ b := Nat.mul_pos hxm.1 (Nat.two_pow_pos _)
    have hv1 : x * 2 ^ b < 2 ^ 13 := by
      have h1 : 2 ^ b ≤ 2 ^ 7 := Nat.pow_le_pow_right (by decide) (by first | decide | lia)
      have h2 := Nat.mul_le_mul (show x ≤ 63 by lia) h1
      exact Nat.lt_of_le_of_lt h2 (by decide)
    refine pretty_flags_at (s := sh (sh s h₆ t₆) h₇ _) (S.bsM (ob := []) X) (rm.less (by first | decide | omega) (by first | decide | omega)) rfl hv0 hv1 fun _ h₈ _ ex => ⟨_, _, rfl, ?_⟩
    have S := S.ext ex
    refine wpAny_items_cons (nStr (s := sh s h₆ t₆) fun _ _ => ?_)
    refine wpAny_items_nil ?_
    refine nSplit S (by decide +kernel) words_len fun Dp ps h₉ t₉ hps S => ?_
    rw [split_words hv0 hv1, words_bits hb hxm.2] at hps
    refine rForL (s := sh (sh s h₆ t₆) h₉ t₉) (its := ps.toArray) (l := [(Db, listOf bs.toArray m)]) (fx := (Dp, listOf ps.toArray 0) :: rest) rfl rm.hh
      (fun kk vars l => ∃ bs ys m, vars = ([("below", .ref Db), ("words", .ref Dw), ("base", .int b tb), ("one", .int x tx)] : List (Str × Value)) ∧ l = [(Db, listOf bs.toArray m)] ∧ IntsAre bs ys ∧ BelowIn (xs.take i) x ((bitsOf x).take kk) ys)
      (S.swap.lets (vars' := [("below", .ref Db), ("words", .ref Dw), ("base", .int b tb), ("one", .int x tx)]) ⟨rfl, rfl, rfl, rfl, trivial⟩) (.inr ⟨0, .head _⟩) ⟨bs, ys, m, rfl, rfl, hbs, hB.start⟩ ?_ ?_
    · rintro kk v _ _ rest₂ h t E₂ hv ⟨bs, ys, m, rfl, rfl, hbs, hB⟩ hfx₂ S Kk hKk hBk hVk
      obtain ⟨wd, tw, hwd, rfl⟩ := strs_item hps hv
      rw [List.getElem?_map] at hwd
      obtain ⟨j, hjk, rfl⟩ := Option.map_eq_some_iff.mp hwd
      have hjm := bits_mem.mp (List.mem_of_getElem? hjk)
      have hjs : ∀ y ∈ (bitsOf x).take kk, y ∈ bitsOf x := fun y hy => List.mem_of_mem_take hy
      have hyl := hB.len hxt hxm.2 hjs
      have hDw₂ : ∀ {h vars l}, St (hid [] s.heap) L h vars (l ++ rest₂) → h.get? Dw = some (listOf ws.toArray nw) := fun {h vars l} S => S.own (Dw, _) (List.mem_append_right _ (hfx₂ _ (.tail _ (hfx _ (.head _)))))
      obtain ⟨z, hz⟩ : ∃ z, (x : Int) - ((2 ^ j : Nat) : Int) = z := ⟨_, rfl⟩
      refine wpAny_assign_Name (nSt S fun h₁₀ _ S => ?_)
      refine wpAny_execs_cons (wpAny_Assign_Name ?_)
      refine wpAny_BinOp (rLoc (s := sh (sh (sh s h₆ t₆) h₉ t₉) h₁₀ _) S rfl ?_)
      refine wpAny_BinOp (nInt fun _ _ => ?_)
      refine rLM PySem.F.slot_list_index PySem.F.type_list_index ?_
      refine rLoc (s := sh (sh (sh s h₆ t₆) h₉ t₉) h₁₀ _) S rfl ⟨Dw, ws.toArray, nw, rfl, hDw₂ S, ?_⟩
      refine wpAny_items_cons (rLoc (s := sh (sh (sh s h₆ t₆) h₉ t₉) h₁₀ _) S rfl ?_)
      refine wpAny_items_nil ?_
      refine nIndex (j := j) (hDw₂ S) hws (by simpa using hjm.1) (by simp) (by simp) (fun i' h' hlt e => ?_) fun _ _ => ?_
      · have hi6 : i' < 6 := by simpa using h'
        simp only [List.getElem_map, List.getElem_range] at e
        have := flag_inj (b + i') (by first | decide | lia) (b + j) (by first | decide | lia) e
        lia
      refine nShl (n := j) (c := ((2 ^ j : Nat) : Int)) rfl (by first | decide | lia) (by decide) (by push_cast; lia) fun _ _ => ?_
      refine nXor (c := z) ((xor_bit x hxm.2 j hjm.1 hjm.2).trans hz) fun _ _ => ?_
      refine nSt S fun h₁₁ _ S => ?_
      refine wpAny_execs_cons (wpAny_Assign_Name ?_)
      refine rCall (s := sh (sh (sh s h₆ t₆) h₉ t₉) h₁₁ _) S X (g_bisect_left _) (keep_of _ (by decide)) ?_
      refine wpAny_items_cons (rLoc (s := sh (sh (sh s h₆ t₆) h₉ t₉) h₁₁ _) S rfl ?_)
      refine wpAny_items_cons (rLoc (s := sh (sh (sh s h₆ t₆) h₉ t₉) h₁₁ _) S rfl ?_)
      refine wpAny_items_nil ⟨X.at S.keep, ?_⟩
      refine bisect_left_at (s := sh (sh (sh s h₆ t₆) h₉ t₉) h₁₁ _) (S.bsM (ob := []) X) (rm.less (by first | decide | omega) (by first | decide | omega)) S.get hbs (by first | decide | (exact Nat.lt_of_le_of_lt (by assumption) (by decide))) (sorted_le hB.so) fun ts h₁₂ _ ex => ?_
      have S := S.ext ex
      refine nSt (s := sh (sh s h₆ t₆) h₉ t₉) S fun h₁₃ _ S => ?_
      have S := S.lets (vars' := [("below", .ref Db), ("words", .ref Dw), ("base", .int b tb), ("one", .int x tx), ("less", .int z _), ("spot", .int (cLt ys z : Nat) ts)]) ⟨rfl, rfl, rfl, rfl, rfl, rfl, trivial⟩
      have hcl : cLt ys z ≤ bs.length := by rw [hbs.length]; exact List.countP_le_length
      refine wpAny_execs_cons (wpAny_If (wpAny_isTrue_Compare1 ?_))
      refine Subscript_ (rLoc (s := sh (sh (sh s h₆ t₆) h₉ t₉) h₁₃ _) S rfl ?_)
      refine nSl2 (rLoc (s := sh (sh (sh s h₆ t₆) h₉ t₉) h₁₃ _) S rfl ?_)
      refine wpAny_BinOp (rLoc (s := sh (sh (sh s h₆ t₆) h₉ t₉) h₁₃ _) S rfl ?_)
      refine nInt fun _ _ => ?_
      refine nAdd rfl fun _ _ => ⟨_, _, rfl, ?_⟩
      refine nSliceTail S S.get (.int _ _) (.int _ _) (by rw [List.size_toArray, hbs.length]; (exact Nat.le_trans (by assumption) (by decide))) fun D₁ h₁₄ S => ?_
      rw [slice_one hcl] at S
      refine nList ?_
      refine wpAny_items_cons (rLoc (s := sh (sh (sh s h₆ t₆) h₉ t₉) h₁₄ _) S rfl ?_)
      refine wpAny_items_nil ⟨_, _, _, _, _, _, rfl, S, by show 1 ≤ 1000; decide, fun D₂ h₁₅ S => ?_⟩
      refine nNeI (s := sh (sh s h₆ t₆) h₉ t₉) S.drop1.get S.get (ints_take (ints_drop hbs _) 1) (.cons z _ .nil) (rm.ul (by decide)) ?_
      have S := S.drop1.drop1
      refine wpAny_truthy_bool (ifB (fun q => ?_) fun q => ?_)
      · have hzm : z ∉ ys := fun hm => by rw [decide_eq_true ((at_spot hB.so).mpr hm)] at q; cases q
        refine wpAny_execs_cons (wpAny_Expr ?_)
        refine rCall (s := sh (sh (sh s h₆ t₆) h₉ t₉) h₁₅ _) S X (g_insort_right _) (keep_of _ (by decide)) ?_
        refine wpAny_items_cons (rLoc (s := sh (sh (sh s h₆ t₆) h₉ t₉) h₁₅ _) S rfl ?_)
        refine wpAny_items_cons (rLoc (s := sh (sh (sh s h₆ t₆) h₉ t₉) h₁₅ _) S rfl ?_)
        refine wpAny_items_nil ⟨X.at S.keep, ?_⟩
        refine insort_right_at (s := sh (sh (sh s h₆ t₆) h₉ t₉) h₁₅ _) (S.bsM (ob := [(Db, _)]) X) (rm.less (by first | decide | omega) (by first | decide | omega)) S.get hbs (by first | decide | (exact Nat.lt_of_le_of_lt (by assumption) (by decide))) (sorted_le hB.so) fun bs' m' h₁₆ _ hbs' hD' eff => ?_
        rw [le_spot hzm] at hbs'
        have hbs' : IntsAre bs' (ins ys z) := hbs'
        have S := St.call (ob := [(Db, _)]) (ob' := [(Db, listOf bs'.toArray m')]) S eff (fun p hp => by rw [List.mem_singleton.mp hp]; exact hD') (fun p hp => .inl (by rw [List.mem_singleton.mp hp]; exact .head _)) (by simp)
        have hil : (ins ys z).length ≤ 65 := by
          unfold ins
          rw [List.length_append, List.length_cons, List.length_take, List.length_drop]; omega
        have hcl' : cLt ys z ≤ bs'.length := by
          rw [hbs'.length]
          unfold ins
          rw [List.length_append, List.length_cons, List.length_take, List.length_drop]
          have := hbs.length; lia
        refine wpAny_execs_cons (wpAny_If (wpAny_isTrue_Compare1 ?_))
        refine Subscript_ (rLoc (s := sh (sh (sh s h₆ t₆) h₉ t₉) h₁₆ _) S rfl ?_)
        refine nSl2 (s := sh (sh s h₆ t₆) h₉ t₉) (rLoc (s := sh (sh (sh s h₆ t₆) h₉ t₉) h₁₆ _) S rfl ?_)
        refine wpAny_BinOp (rLoc (s := sh (sh (sh s h₆ t₆) h₉ t₉) h₁₆ _) S rfl ?_)
        refine nInt fun _ _ => ?_
        refine nAdd rfl fun _ _ => ⟨_, _, rfl, ?_⟩
        refine nSliceTail S S.get (.int _ _) (.int _ _) (by rw [List.size_toArray, hbs'.length]; (exact Nat.le_trans (by assumption) (by decide))) fun D₁ h₁₇ S => ?_
        rw [slice_one hcl'] at S
        refine nList ?_
        refine wpAny_items_cons (rLoc (s := sh (sh (sh s h₆ t₆) h₉ t₉) h₁₇ _) S rfl ?_)
        refine wpAny_items_nil ⟨_, _, _, _, _, _, rfl, S, by show 1 ≤ 1000; decide, fun D₂ h₁₈ S => ?_⟩
        refine nNeI (s := sh (sh s h₆ t₆) h₉ t₉) S.drop1.get S.get (ints_take (ints_drop hbs' _) 1) (.cons z _ .nil) (rm.ul (by decide)) ?_
        have S := S.drop1.drop1
        refine wpAny_truthy_bool (ifB (fun q => ?_) fun q => ?_)
        · rw [decide_eq_true ins_spot] at q; cases q
        · refine wpAny_execs_nil ?_
          refine wpAny_execs_nil ?_
          refine wpAny_execs_nil ?_
          refine hKk h₁₈ _ _ _ ⟨bs', ins ys z, m', rfl, rfl, hbs', ?_⟩ (S.lets ⟨rfl, rfl, rfl, rfl, trivial⟩)
          rw [take_snoc hjk]
          subst hz
          exact hB.add hzm
      · have hzm : z ∈ ys := (at_spot hB.so).mp (by simpa using q)
        refine wpAny_execs_nil ?_
        refine wpAny_execs_nil ?_
        refine hKk h₁₅ _ _ _ ⟨bs, ys, m, rfl, rfl, hbs, ?_⟩ (S.lets ⟨rfl, rfl, rfl, rfl, trivial⟩)
        rw [take_snoc hjk]
        exact hB.has (hz ▸ hzm)
    · rintro vars l h t E₂ ⟨bs, ys, m, rfl, rfl, hbs, hB⟩ S
      have hpl : ps.toArray.size = (bitsOf x).length := by rw [List.size_toArray, (strs_get hps).1, List.length_map]
      rw [hpl, List.take_length] at hB
      refine wpAny_execs_nil ?_
      refine wpAny_execs_nil ?_
      refine hKk h _ _ _ ⟨bs, ys, m, rfl, rfl, hbs, ?_⟩ (S.drop2.lets ⟨rfl, rfl, rfl, trivial⟩)
      rw [take_snoc hxi]
      exact hB.stop
  · rintro vars l h t E' ⟨bs, ys, m, rfl, rfl, hbs, hB⟩ S
    have hvl : vs.toArray.size = xs.length := by rw [List.size_toArray, hi.length, List.length_map]
    rw [hvl, List.take_length] at hB
    refine wpAny_execs_nil ?_
    refine wpAny_execs_cons (wpAny_Return_some ?_)
    refine rLoc (s := sh (sh s h₆ t₆) h t) S rfl ?_
    exact hRt _ _ (k Db bs ys m h t hbs hB (StNew S) S.get S.eff.ext)
end
end Mine

/-! part Cel -/
namespace Mine
set_option maxHeartbeats 4000000
section
variable {prog : Program} {w : World} {mg mb : Str → Option Value} {A : Around} {E : Value → Shared → Prop} {s : Shared} {Q : Value → Shared → Prop}
theorem nSliceI {h : Heap} {t : Nat} {B : Bas} {L : Addr} {vars : List (Str × Value)} {l : List (Addr × Obj)} {value slice : Expr} {a : Addr} {its : Array Value} {vl vu : Value} {lo hi : Option Int} (S : St B L h vars l) (ha : h.IsList a its) (pl : IsPart vl lo) (pu : IsPart vu hi) (hz : its.size ≤ 1000)
    (k : ∀ D h', St B L h' vars ((D, listOf (slicePick its lo hi none) 0) :: l) → Q (.ref D) (sh s h' t))
    (hs : subscripted slice false (.ref a) (.ref h.objs.size) = operate [.ref h.objs.size, .ref a] (getItem (.ref a) (.ref h.objs.size)) := by with_unfolding_all rfl)
    (ht : ∀ r, letTemporaryGo value (.ref a) r = pure () := by intro _; with_unfolding_all rfl) :
    wpAny (model prog w) A (subscriptTail value slice (.ref a) (.ref h.objs.size)) Q E (sh s (h.push { cls := .type "slice", data := .fields #[vl, vu, .none] }) t) := by
  obtain ⟨mm, hn, hm⟩ := S.ns
  obtain ⟨F, N⟩ := fr_of hn
  refine slice_list (s := sh s h t) F N ha pl pu (fun h' F' N' => ?_) hs ht (by rw [sizeLine_eq]; (exact Nat.le_trans (by assumption) (by decide)))
  have S' := S.ofFr (more := [(h.objs.size + 1, listOf (slicePick its lo hi none) 0)]) hm hn F' N' (fun p hp => by rw [List.mem_singleton.mp hp]; exact Nat.le_succ _) (by simp)
  exact k _ _ S'
theorem nSlU {h : Heap} {tk0 : Nat} {env : Env} {e2 : Expr} {p : Pos} (H : wpAny (model prog w) A (eval e2 env) (fun u s₂ => ∃ h' t', s₂ = sh s h' t' ∧ Q (.ref h'.objs.size) (sh s (h'.push { cls := .type "slice", data := .fields #[.none, u, .none] }) t')) E (sh s h tk0)) :
    wpAny (model prog w) A (eval (.Slice none (some e2) none p) env) Q E (sh s h tk0) :=
  wpAny_Slice (wpAny_pure (wpAny_mono H (fun u s₂ ⟨h', t', e, q⟩ => by subst e; exact wpAny_pure q) fun _ _ x => x))
theorem cells_at {a : Addr} {vs : List Value} {ns : List Int} (X : Bs w mg mb (hid [] s.heap)) (rm : Room A 1 3) (ha : s.heap.IsList a vs.toArray) (hi : IntsAre vs ns) (hlen : ns.length ≤ 63)
    (k : ∀ D (c₀ c₁ : Nat) u v m h' tk', s.heap.get? D = none → h'.get? D = some (listOf [.int (c₀ : Int) u, .int (c₁ : Int) v].toArray m) → Ext s.heap h' → Q (.ref D) (sh s h' tk')) :
    wpAny (model prog w) A (call (.ref 98) [.ref a]) Q E s := by
  refine' enter0 (d := 0) (u := 0) (binds := [("script", .ref a)]) X rm ?ho ?hcd ?hb ?_ ?hc ?hl ?c1 ?c2 ?c3
  case ho => exact rfl
  case hcd => exact rfl
  case hb => exact fun Y => BindsTo.peek Y fun _ => rfl
  case hc => decide
  case hl => exact locs rfl
  case c1 => exact rfl
  case c2 => exact rfl
  case c3 => exact rfl
  intro L h₁ t₁ env A' K₀ E₀ hRt hNx hE S rm
  subst hE
  have S := S.lets (vars' := [("script", .ref a)]) ⟨rfl, trivial⟩
  refine wpAny_execs_cons (wpAny_Assign_Name ?_)
  refine nList ?_
  refine wpAny_items_cons (nInt fun u₀ _ => ?_)
  refine wpAny_items_cons (nInt fun u₁ _ => ?_)
  refine wpAny_items_nil ⟨_, _, _, _, _, _, rfl, S, by show 2 ≤ 1000; decide, fun D h₂ S => ?_⟩
  refine nSt S fun h₃ t₃ S => ?_
  refine wpAny_execs_cons (wpAny_For ?_)
  refine rCallT (s := sh s h₃ _) S X (n_enumerate _) boot_enumerate ?_
  refine wpAny_items_cons ?_
  refine Subscript_ (rLoc (s := sh s h₃ _) S rfl ?_)
  refine nSlU (nInt fun _ t₄ => ⟨_, _, rfl, ?_⟩)
  have ha₃ : h₃.IsList a vs.toArray := ha.at fun o e => S.eff.ext _ _ e
  refine nSliceI S ha₃ .none (.int _ _) (by rw [List.size_toArray, hi.length]; (exact Nat.le_trans (by assumption) (by decide))) fun Ds h₄ S => ?_
  rw [show (60 : Int) = ((60 : Nat) : Int) from rfl, slicePick_upto'] at S
  refine wpAny_items_nil ?_
  refine nEnum S S.get fun e it oit h₅ S hit => ?_
  have hS : ∀ {p q r y : Addr × Obj} {vars}, St (hid [] s.heap) L h₅ vars [p, q, r, y] → St (hid [] s.heap) L h₅ vars ([y] ++ ([r] ++ [p, q])) := fun {p q r y vars} S =>
    S.perm ((List.perm_append_comm (l₁ := [p, q, r]) (l₂ := [y])).trans (.cons _ (List.perm_append_comm (l₁ := [p, q]) (l₂ := [r]))))
  refine rForE (n := 0) (s := sh s h₅ t₄) (l := [(D, _)]) (fx := [(Ds, _)]) (oit := oit) rm.hh
    (fun i vars l => ∃ (c₀ c₁ : Nat) (u v : Tok) (m : Nat), vars = ([("cells", .ref D)] : List (Str × Value)) ∧ l = [(D, listOf [.int (c₀ : Int) u, .int (c₁ : Int) v].toArray m)])
    ((hS S).lets (vars' := [("cells", .ref D)]) ⟨rfl, trivial⟩) hit (.inr ⟨0, .head _⟩) ⟨13, 46185, _, _, 0, rfl, rfl⟩ ?_ ?_
  · rintro i x T tt _ _ rest h t E' hx ⟨c₀, c₁, u, v, m, rfl, rfl⟩ _ hT S Kk hKk hBk hVk
    obtain ⟨n, tn, hn, rfl⟩ := ints_item (ints_take hi 60) (by simpa using hx)
    refine nUnp (vs := [_, _]) rm.hh hT rfl rfl fun h₆ ex => ?_
    have S := S.ext ex
    refine aio_cons (wpAny_assign_Name (nSt S fun h₇ _ S => ?_))
    refine aio_cons (wpAny_assign_Name (nSt S fun h₈ _ S => ?_))
    refine aio_nil ?_
    have hm0 : 0 ≤ n % 1048576 := Int.emod_nonneg _ (by decide)
    obtain ⟨r, hr⟩ := Int.eq_ofNat_of_zero_le hm0
    refine wpAny_execs_cons (wpAny_AugAssign_SubscriptAny ?_)
    refine rLoc (s := sh (sh s h₅ t₄) h₈ _) S rfl ?_
    refine wpAny_BinOp (rLoc (s := sh (sh s h₅ t₄) h₈ _) S rfl ?_)
    refine nInt fun _ _ => ?_
    refine nMod (c := ((i % 2 : Nat) : Int)) (by first | decide | omega) (by push_cast; rfl) fun _ _ => ?_
    rcases Nat.mod_two_eq_zero_or_one i with hp | hp <;> rw [hp]
    · refine wpAny_getItem_list (s := sh (sh s h₅ t₄) h₈ _) (isL S.get) (by decide) (by decide) (x := .int c₀ u) rfl ?_
      refine wpAny_BinOp (rLoc (s := sh (sh s h₅ t₄) h₈ _) S rfl ?_)
      refine wpAny_BinOp (nInt fun _ _ => ?_)
      refine nInt fun _ _ => ?_
      refine nPow (n := 20) (c := 1048576) rfl (by decide) (by decide) (by decide) fun _ _ => ?_
      refine nMod (by decide) hr fun _ _ => ?_
      refine nIAdd (c := ((c₀ + r : Nat) : Int)) (by push_cast; rfl) fun u' _ => ?_
      refine nSetItem S (by decide) (by show (0 : Int) < 2; decide) (by decide) fun h₉ m' S => ?_
      refine wpAny_execs_nil ?_
      exact hKk h₉ _ _ _ ⟨c₀ + r, c₁, u', v, m', rfl, rfl⟩ (S.lets ⟨rfl, trivial⟩)
    · refine wpAny_getItem_list (s := sh (sh s h₅ t₄) h₈ _) (isL S.get) (by decide) (by decide) (x := .int c₁ v) rfl ?_
      refine wpAny_BinOp (rLoc (s := sh (sh s h₅ t₄) h₈ _) S rfl ?_)
      refine wpAny_BinOp (nInt fun _ _ => ?_)
      refine nInt fun _ _ => ?_
      refine nPow (n := 20) (c := 1048576) rfl (by decide) (by decide) (by decide) fun _ _ => ?_
      refine nMod (by decide) hr fun _ _ => ?_
      refine nIAdd (c := ((c₁ + r : Nat) : Int)) (by push_cast; rfl) fun u' _ => ?_
      refine nSetItem S (by decide) (by show (1 : Int) < 2; decide) (by decide) fun h₉ m' S => ?_
      refine wpAny_execs_nil ?_
      exact hKk h₉ _ _ _ ⟨c₀, c₁ + r, u, u', m', rfl, rfl⟩ (S.lets ⟨rfl, trivial⟩)
  · rintro vars l h t E' ⟨c₀, c₁, u, v, m, rfl, rfl⟩ S
    refine wpAny_execs_nil ?_
    refine wpAny_execs_cons (wpAny_Return_some ?_)
    refine rLoc (s := sh (sh s h₅ t₄) h t) S rfl ?_
    exact hRt _ _ (k D c₀ c₁ u v m h t (StNew S) S.get S.eff.ext)
end
end Mine

/-! part Bys -/
namespace Mine
/-! plain -/
def cntN : Nat → List Nat
  | 0 => [0]
  | n + 1 => cntN n ++ (cntN n).map (· + 1)
abbrev toI (l : List Nat) : List Int := l.map fun x : Nat => (x : Int)
theorem cntN_len : ∀ n, (cntN n).length = 2 ^ n
  | 0 => rfl
  | n + 1 => by rw [cntN, List.length_append, List.length_map, cntN_len n, Nat.pow_succ]; lia
def pc (i : Nat) : Nat := (cntN 6).getD i 0
def byS (i : Nat) : List (List Int) := (List.range 7).map fun k => toI ((List.range i).filter fun x => pc x == k)
theorem byS_step : ∀ i, i < 64 → pc i < 7 ∧ ((byS i).getD (pc i) []).length ≤ 64 ∧ byS (i + 1) = (byS i).set (pc i) ((byS i).getD (pc i) [] ++ [(i : Int)]) := by decide +kernel
theorem byS_len (i : Nat) : (byS i).length = 7 := by simp [byS]
/-! lists of lists of ints -/
inductive ListsL : List (Addr × Obj) → List (List Int) → Prop
  | nil : ListsL [] []
  | cons {T : Addr} {vs : List Value} {n : Nat} {ns : List Int} {il : List (Addr × Obj)} {nss : List (List Int)} : IntsAre vs ns → ListsL il nss → ListsL ((T, listOf vs.toArray n) :: il) (ns :: nss)
theorem ListsL.length {il : List (Addr × Obj)} {nss : List (List Int)} (h : ListsL il nss) : il.length = nss.length := by
  induction h with
  | nil => rfl
  | cons _ _ ih => simp [ih]
theorem ListsL.split {il : List (Addr × Obj)} {nss : List (List Int)} (h : ListsL il nss) : ∀ (c : Nat), c < nss.length →
    ∃ pre T vs m post, il = pre ++ (T, listOf vs.toArray m) :: post ∧ pre.length = c ∧ IntsAre vs (nss.getD c []) ∧ ∀ vs' m' ns', IntsAre vs' ns' → ListsL (pre ++ (T, listOf vs'.toArray m') :: post) (nss.set c ns') := by
  induction h with
  | nil => exact fun c hc => absurd hc (Nat.not_lt_zero _)
  | @cons T vs n ns il nss hv hl ih =>
    intro c hc
    cases c with
    | zero => exact ⟨[], T, vs, n, il, rfl, rfl, hv, fun vs' m' ns' h => .cons h hl⟩
    | succ c =>
      obtain ⟨pre, T', vs', m, post, e, e1, e2, e3⟩ := ih c (Nat.lt_of_succ_lt_succ hc)
      subst e
      exact ⟨(T, listOf vs.toArray n) :: pre, T', vs', m, post, rfl, by simp [e1], e2, fun vs₂ m₂ ns₂ h => .cons hv (e3 vs₂ m₂ ns₂ h)⟩
end Mine

/-! part Bsw -/
namespace Mine
set_option maxHeartbeats 4000000
section
variable {prog : Program} {w : World} {mg mb : Str → Option Value} {A : Around} {E : Value → Shared → Prop} {s : Shared} {Q : Value → Shared → Prop}
theorem spl0 {env : Env} {B : Bas} {L : Addr} {vars : List (Str × Value)} {t : Nat} {pos : Pos} : ∀ (elts : List Expr), (∀ e ∈ elts, ∃ p, e = .List [] p) → ∀ {l : List (Addr × Obj)} {h : Heap} {Q : List Value → Shared → Prop}, St B L h vars l →
    (∀ il h', il.length = elts.length → (∀ p ∈ il, p.2 = listOf #[] 0) → St B L h' vars (il ++ l) → Q (refs il) (sh s h' t)) → wpAny (model prog w) A (spliced (backTo pos (starEach elts env))) Q E (sh s h t)
  | [], _, l, h, Q, S, k => wpAny_items_nil (k [] h rfl (fun _ hp => nomatch hp) S)
  | e :: rest, he, l, h, Q, S, k => by
    obtain ⟨p, rfl⟩ := he e (.head _)
    refine wpAny_items_cons (nList0 S fun T h' S => spl0 rest (fun e h => he e (.tail _ h)) S fun il h'' hl hp S => ?_)
    refine k ((T, listOf #[] 0) :: il) h'' (by simp [hl]) (fun q hq => ?_) S.mid
    rcases List.mem_cons.mp hq with rfl | hq
    · rfl
    · exact hp q hq
theorem nLists0 {env : Env} {B : Bas} {L : Addr} {vars : List (Str × Value)} {t : Nat} {pos : Pos} {elts : List Expr} {l : List (Addr × Obj)} {h : Heap} (n : Nat) (he : ∀ e ∈ elts, ∃ p, e = .List [] p) (hn : elts.length = n) (hz : n ≤ 1000) (S : St B L h vars l)
    (k : ∀ Ds il h', il.length = n → (∀ p ∈ il, p.2 = listOf #[] 0) → St B L h' vars ((Ds, listOf (refs il).toArray 0) :: (il ++ l)) → Q (.ref Ds) (sh s h' t)) : wpAny (model prog w) A (eval (.List elts pos) env) Q E (sh s h t) :=
  nList (spl0 elts he S fun il h' hl hp S => ⟨_, _, _, _, _, _, rfl, S, by simp; lia, fun Ds h'' S => k Ds il h'' (hl.trans hn) hp S⟩)
theorem ListsL.empties : ∀ {il : List (Addr × Obj)}, (∀ p ∈ il, p.2 = listOf #[] 0) → ListsL il (List.replicate il.length [])
  | [], _ => .nil
  | (T, o) :: r, h => by
    have e := h (T, o) (.head _)
    have e : o = listOf #[] 0 := e
    subst e
    exact .cons (vs := []) .nil (ListsL.empties fun p hp => h p (.tail _ hp))
theorem by_size_at (X : Bs w mg mb (hid [] s.heap)) (rm : Room A 1 3)
    (k : ∀ D il m h' tk', ListsL il (byS 64) → Ret [] ((D, listOf (refs il).toArray m) :: il) s.heap h' → Q (.ref D) (sh s h' tk')) :
    wpAny (model prog w) A (call (.ref 108) []) Q E s := by
  refine' enter0 (d := 0) (u := 0) (binds := []) X rm ?ho ?hcd ?hb ?_ ?hc ?hl ?c1 ?c2 ?c3
  case ho => exact rfl
  case hcd => exact rfl
  case hb => exact fun Y => BindsTo.peek Y fun _ => rfl
  case hc => decide
  case hl => exact locs rfl
  case c1 => exact rfl
  case c2 => exact rfl
  case c3 => exact rfl
  intro L h₁ t₁ env A' K₀ E₀ hRt hNx hE S rm
  subst hE
  refine wpAny_execs_cons (wpAny_Assign_Name ?_)
  refine nList ?_
  refine wpAny_items_cons (nInt fun u₀ _ => ?_)
  refine wpAny_items_nil ⟨_, _, _, _, _, _, rfl, S, by show 1 ≤ 1000; decide, fun D₀ h₂ S => ?_⟩
  refine nSt S fun h₃ t₃ S => ?_
  refine wpAny_execs_cons (wpAny_For ?_)
  refine rCallT (s := sh s h₃ _) S X (n_range _) boot_range ?_
  refine wpAny_items_cons (nInt fun _ _ => ?_)
  refine wpAny_items_nil ?_
  refine nRange1 S fun r tr ur vr h₄ t₄ S => ?_
  refine rForR (s := sh s h₄ t₄) (n := 6) (l := [(D₀, _)]) (fx := []) rfl rm.hh
    (fun i vars l => ∃ D vs m, vars = ([("counts", .ref D)] : List (Str × Value)) ∧ l = [(D, listOf vs.toArray m)] ∧ IntsAre vs (toI (cntN i)))
    (S.drop1.lets (vars' := [("counts", .ref D₀)]) ⟨rfl, trivial⟩) S.get (range_small (by first | decide | omega) (by first | decide | omega) (by first | decide | omega) (by first | decide | omega)) (range_size1 rfl) ⟨D₀, [_], 0, rfl, rfl, .cons 0 _ .nil⟩ ?_ ?_
  · rintro i tv _ _ rest h t E' hi ⟨D, vs, m, rfl, rfl, hvs⟩ _ S Kk hKk hBk hVk
    have hl : vs.length ≤ 64 := by
      rw [hvs.length, List.length_map, cntN_len]
      have : 2 ^ i ≤ 2 ^ 6 := Nat.pow_le_pow_right (by decide) (by first | decide | (exact Nat.le_of_lt ‹_›))
      omega
    have hli : (toI (cntN i)).length = vs.length := hvs.length.symm
    refine wpAny_assign_Name (nSt S fun h₅ t₅ S => ?_)
    refine wpAny_execs_cons (wpAny_Assign_Name ?_)
    refine wpAny_BinOp (rLoc (s := sh (sh s h₄ t₄) h₅ _) S rfl ?_)
    refine rLC (cl := []) rfl rfl (by decide) ?_
    refine rLoc (s := sh (sh s h₄ t₄) h₅ _) S rfl ?_
    refine rCompL (s := sh (sh s h₄ t₄) h₅ t₅) rfl rm.hh (fun j acc l => l = [] ∧ IntsAre acc ((toI ((cntN i).take j)).map (· + 1))) S S.get (by rw [List.size_toArray]; (exact Nat.le_trans (by assumption) (by decide))) ⟨rfl, .nil⟩ (by decide) rfl ?_ ?_
    · rintro B' j v acc _ rest' C h t E₂ kB hv ⟨rfl, hacc⟩ S' Kt Kf hT hF
      obtain ⟨x, tx, hx, rfl⟩ := ints_item hvs hv
      refine wpAny_assign_Name (nSt S' fun h' _ S' => ?_)
      refine wpAny_tests_nil ?_
      show wpAny _ _ _ _ _ _
      refine wpAny_BinOp (rLoc (s := sh (sh (sh s h₄ t₄) h₅ t₅) h' _) S' rfl ?_)
      refine nInt fun _ _ => ?_
      refine nAdd rfl fun u₂ t₂ => ?_
      refine hT _ h' t₂ [] ⟨rfl, ?_⟩ (S'.lets trivial)
      rw [toI, List.map_take, take_snoc hx, List.map_append]
      rw [toI, List.map_take] at hacc
      exact ints_snoc hacc _ _
    · rintro D₂ C acc l h t n' ⟨rfl, hacc⟩ F
      rw [List.size_toArray, ← hli, List.length_map, List.take_length] at hacc
      refine F.post fun h₆ S => ?_
      have hal : acc.length ≤ 64 := by rw [hacc.length, List.length_map, List.length_map, cntN_len]; have : 2 ^ i ≤ 2 ^ 6 := Nat.pow_le_pow_right (by decide) (by first | decide | (exact Nat.le_of_lt ‹_›)); omega
      refine nAddL (s := sh s h₄ t₄) S S.drop1.get S.get (by first | decide | lia) fun D₃ h₇ S => ?_
      refine nSt S fun h₈ _ S => ?_
      refine wpAny_execs_nil ?_
      refine hKk h₈ _ _ [(D₃, _)] ⟨D₃, vs ++ acc, 0, rfl, rfl, ?_⟩ ((S.drop2.drop2).lets ⟨rfl, trivial⟩)
      have e : toI (cntN (i + 1)) = toI (cntN i) ++ (toI (cntN i)).map (· + 1) := by
        simp [cntN, toI]
      rw [e]
      exact ints_append hvs hacc
  · rintro vars l h t E' ⟨D, vs, m, rfl, rfl, hvs⟩ S
    refine wpAny_execs_nil ?_
    refine wpAny_execs_cons ?_
    refine wpAny_Assign_Name ?_ ?hsw
    case hsw => exact rfl
    refine @nLists0 _ _ _ _ _ _ _ _ _ _ _ _ _ _ _ 7 ?he rfl (by decide) S (fun Ds il₀ h₁₂ hl₀ hp₀ S => ?_)
    case he => intro e he; simp only [List.mem_cons, List.not_mem_nil, or_false] at he; rcases he with rfl | rfl | rfl | rfl | rfl | rfl | rfl <;> exact ⟨_, rfl⟩
    refine nSt (s := sh s h₄ t₄) S fun h₁₃ t₁₃ S => ?_
    have S := S.perm (l' := ((Ds, listOf (refs il₀).toArray 0) :: il₀) ++ [(D, listOf vs.toArray m)]) (by simp)
    have hL : ListsL il₀ (byS 0) := by
      have e := ListsL.empties hp₀
      rw [hl₀] at e
      exact e
    have S := S.lets (vars' := [("sets", .ref Ds), ("counts", .ref D)]) ⟨rfl, rfl, trivial⟩
    have hvl : vs.length = 64 := by rw [hvs.length, List.length_map, cntN_len]
    refine wpAny_execs_cons (wpAny_For ?_)
    refine rCallT (s := sh (sh s h₄ t₄) h₁₃ _) S X (n_enumerate _) boot_enumerate ?_
    refine wpAny_items_cons (rLoc (s := sh (sh s h₄ t₄) h₁₃ _) S rfl ?_)
    refine wpAny_items_nil ?_
    refine nEnum (s := sh s h₄ t₄) S (S.own (D, listOf vs.toArray m) (by simp)) fun e it oit h₁₄ S hit => ?_
    have S := S.perm (l' := ((Ds, listOf (refs il₀).toArray 0) :: il₀) ++ ([(D, listOf vs.toArray m)] ++ [(e, enumO it), (it, oit)])) (by
      rw [← List.append_assoc]
      exact List.perm_append_comm (l₁ := [_, _]))
    refine rForE (n := 0) (s := sh (sh s h₄ t₄) h₁₄ t₁₃) (its := vs.toArray) (l := (Ds, listOf (refs il₀).toArray 0) :: il₀) (fx := [(D, listOf vs.toArray m)]) (oit := oit) rm.hh
      (fun i vars l => ∃ il, vars = ([("sets", .ref Ds)] : List (Str × Value)) ∧ l = (Ds, listOf (refs il).toArray 0) :: il ∧ ListsL il (byS i))
      (S.lets (vars' := [("sets", .ref Ds)]) ⟨rfl, trivial⟩) hit (.inr ⟨m, .head _⟩) ⟨il₀, rfl, rfl, hL⟩ ?_ ?_
    · rintro i x T tt _ _ rest h t E' hx ⟨il, rfl, rfl, hL⟩ _ hT S Kk hKk hBk hVk
      obtain ⟨c, tc, hc, rfl⟩ := ints_item hvs hx
      have hi : i < 64 := by
        have := (Array.getElem?_eq_some_iff.mp hx).1
        rwa [List.size_toArray, hvl] at this
      have hcp : c = ((pc i : Nat) : Int) := by
        rw [List.getElem?_map] at hc
        obtain ⟨y, hy, rfl⟩ := Option.map_eq_some_iff.mp hc
        unfold pc
        rw [List.getD_eq_getElem?_getD, hy]; rfl
      subst hcp
      obtain ⟨b1, b2, b3⟩ := byS_step i hi
      obtain ⟨pre, Tc, vc, mc, post, rfl, hpre, hvc, hback⟩ := hL.split (pc i) (by rw [byS_len]; exact b1)
      refine nUnp (s := sh (sh s h₄ t₄) h₁₄ t₁₃) (vs := [_, _]) rm.hh hT rfl rfl fun h₁₅ ex => ?_
      have S := S.ext ex
      refine aio_cons (wpAny_assign_Name (nSt S fun h₁₆ _ S => ?_))
      refine aio_cons (wpAny_assign_Name (nSt S fun h₁₇ _ S => ?_))
      refine aio_nil ?_
      refine wpAny_execs_cons (wpAny_Expr ?_)
      refine rLM PySem.F.slot_list_append PySem.F.type_list_append ?_
      refine Subscript_ (rLoc (s := sh (sh (sh s h₄ t₄) h₁₄ t₁₃) h₁₇ _) S rfl ?_)
      refine rLoc (s := sh (sh (sh s h₄ t₄) h₁₄ t₁₃) h₁₇ _) S rfl ?_
      refine nItem S.get (by first | decide | lia) (by first | decide | lia) (x := .ref Tc) (by rw [Int.toNat_natCast, ← hpre]; simp [refs]) ?_
      refine ⟨Tc, vc.toArray, mc, rfl, S.own (Tc, listOf vc.toArray mc) (by simp), ?_⟩
      refine wpAny_items_cons (rLoc (s := sh (sh (sh s h₄ t₄) h₁₄ t₁₃) h₁₇ _) S rfl ?_)
      refine wpAny_items_nil ?_
      have S := S.perm (l' := ((Ds, listOf (refs (pre ++ (Tc, listOf vc.toArray mc) :: post)).toArray 0) :: pre) ++ (Tc, listOf vc.toArray mc) :: (post ++ rest)) (by simp)
      refine nAppend (s := sh (sh s h₄ t₄) h₁₄ t₁₃) S.mid (by rw [List.size_toArray, hvc.length]; (exact Nat.le_trans (by assumption) (by decide))) fun h₁₈ m' S => ?_
      have S := S.unmid
      refine wpAny_execs_nil ?_
      refine hKk h₁₈ _ [("sets", .ref Ds)] _ ⟨pre ++ (Tc, listOf (vc ++ [Value.int i tt]).toArray m') :: post, rfl, rfl, by rw [b3]; exact hback _ _ _ (ints_snoc hvc _ _)⟩ ?_
      have e1 : refs (pre ++ (Tc, listOf (vc ++ [Value.int i tt]).toArray m') :: post) = refs (pre ++ (Tc, listOf vc.toArray mc) :: post) := by simp
      have e2 : (vc ++ [Value.int i tt]).toArray = vc.toArray.push (.int i tt) := by simp
      rw [e1, e2]
      exact (S.perm (by simp)).lets ⟨rfl, trivial⟩
    · rintro vars l h t E' ⟨il, rfl, rfl, hL⟩ S
      rw [List.size_toArray, hvl] at hL
      refine wpAny_execs_nil ?_
      refine wpAny_execs_cons (wpAny_Return_some ?_)
      refine rLoc (s := sh (sh (sh s h₄ t₄) h₁₄ t₁₃) h t) S rfl ?_
      exact hRt _ _ (k Ds il 0 h t hL (St.toRet (ob := []) S))
end
end Mine

/-! part Fw17 -/
namespace Mine
theorem St.backX {B : Bas} {L C : Addr} {h₂ h₃ : Heap} {vars cv : List (Str × Value)} {lo ob l : List (Addr × Obj)} (S : St B L h₂ vars (lo ++ ob)) (S' : St (hid (ob.map (·.1)) h₂) C h₃ cv l) : St B L h₃ vars (l ++ lo) := by
  have nd := S.nodup
  rw [List.map_append] at nd
  have dj := List.nodup_append.mp nd
  have kp : ∀ b o, b ∉ ob.map (·.1) → h₂.get? b = some o → h₃.get? b = some o := fun b o n e => S'.keep b o (hid_some.mpr ⟨n, e⟩)
  have dead : ∀ p ∈ l, p.1 ∉ ob.map (·.1) → h₂.get? p.1 = none := fun p hp q => by
    cases e : h₂.get? p.1 with
    | none => rfl
    | some o =>
      have h1 := S'.sep p hp
      rw [hid_some.mpr ⟨q, e⟩] at h1; cases h1
  have offB : ∀ b o, B b = some o → b ∉ ob.map (·.1) := fun b o e q => by
    obtain ⟨p, hp, e'⟩ := List.mem_map.mp q
    have := S.sep p (List.mem_append_right _ hp)
    rw [e', e] at this; cases this
  refine ⟨?_, fun b o e => kp b o (offB b o e) (S.keep b o e), fun p hp => ?_, fun p hp => ?_, fun p hp => ?_, S.nL, ?_⟩
  · obtain ⟨m, ⟨oL, es, ep, q1, r⟩, f⟩ := S.ns
    refine ⟨m, ⟨oL, es, ep, kp _ _ (fun q => ?_) q1, r⟩, f⟩
    obtain ⟨p, hp, e⟩ := List.mem_map.mp q
    exact S.sepL p (List.mem_append_right _ hp) e
  · rcases List.mem_append.mp hp with hp | hp
    · exact S'.own p hp
    · exact kp _ _ (fun q => dj.2.2 _ (List.mem_map_of_mem hp) _ q rfl) (S.own p (List.mem_append_left _ hp))
  · rcases List.mem_append.mp hp with hp | hp
    · by_cases q : p.1 ∈ ob.map (·.1)
      · obtain ⟨p', hp', e'⟩ := List.mem_map.mp q
        rw [← e']; exact S.sep p' (List.mem_append_right _ hp')
      · cases e : B p.1 with
        | none => rfl
        | some o => have := S.keep _ _ e; rw [dead p hp q] at this; cases this
    · exact S.sep p (List.mem_append_left _ hp)
  · rcases List.mem_append.mp hp with hp | hp
    · by_cases q : p.1 ∈ ob.map (·.1)
      · obtain ⟨p', hp', e'⟩ := List.mem_map.mp q
        rw [← e']; exact S.sepL p' (List.mem_append_right _ hp')
      · intro e
        obtain ⟨m, ⟨oL, es, ep, q1, r⟩, f⟩ := S.ns
        have := dead p hp q
        rw [e, q1] at this; cases this
    · exact S.sepL p (List.mem_append_left _ hp)
  · rw [List.map_append]
    refine List.nodup_append.mpr ⟨S'.nodup, dj.1, fun a ha b hb e => ?_⟩
    obtain ⟨p, hp, rfl⟩ := List.mem_map.mp ha
    obtain ⟨q, hq, rfl⟩ := List.mem_map.mp hb
    by_cases m : p.1 ∈ ob.map (·.1)
    · exact dj.2.2 _ (List.mem_map_of_mem hq) _ m e.symm
    · have h1 := S.own q (List.mem_append_left _ hq)
      rw [← e, dead p hp m] at h1; cases h1
section
variable {prog : Program} {w : World} {A : Around} {E : Value → Shared → Prop} {s : Shared} {env : Env} {B : Bas} {L : Addr} {vars : List (Str × Value)} {lo ob : List (Addr × Obj)}
/-- the same, where objects of the frame around it are written too -/
theorem comp_blockX {ex : List (Addr × Obj)} {elt target iter : Expr} {ifs : List Expr} {scope : Scope} {cl : List (Str × Addr)} {pos : Pos} {I : Addr} {fp wr : List Addr} {n : Nat} {P : Nat → Value → Heap → Prop} {Z : Nat → Heap → Prop} {RR : Value → Addr → Result → Shared → Prop}
    (W : Itr prog w A target I fp wr n P Z) (J : Nat → List Value → List (Addr × Obj) → Prop) (hn : n ≤ 1000)
    (hfp : ∀ b ∈ fp, b ∈ wr) (hob : ob.map (·.1) = wr) (h0 : J 0 [] ex) (S : St B L s.heap vars (lo ++ (ex ++ ob))) (hz : Z 0 s.heap)
    (hcell : ∀ y ∈ scope.names, y.2 ≠ .cell) (hkind : scope.kind = .function)
    (turn : ∀ i v acc l rest C h t E', i < n → J i acc l → P i v h → St (hid ((ex ++ ob).map (·.1)) s.heap) C h [] (l ++ rest) →
      ∀ (Kt : Value → Shared → Prop) (Kf : Shared → Prop), (∀ x h' t' l', J (i + 1) (acc ++ [x]) l' → St (hid ((ex ++ ob).map (·.1)) s.heap) C h' [] (l' ++ rest) → Kt x (sh s h' t')) → (∀ h' t' l', J (i + 1) acc l' → St (hid ((ex ++ ob).map (·.1)) s.heap) C h' [] (l' ++ rest) → Kf (sh s h' t')) → wpAny (model prog w) A (assign target (compEnvC scope cl C env) v) (fun _ s₂ =>
        wpAny (model prog w) A (forIn ifs true fun c r => if r = true then do let ok ← isTrue c (compEnvC scope cl C env) (eval c (compEnvC scope cl C env)); pure (ForInStep.yield ok) else pure (ForInStep.yield r)) (fun ok s₃ =>
          if ok = true then wpAny (model prog w) A (eval elt (compEnvC scope cl C env)) Kt E' s₃ else Kf s₃) E' s₂) E' (sh s h t))
    (hRR : ∀ D C acc l h t n', J n acc l → (∃ m, h.Ns C m) → C ≠ L → B C = none → (∀ p ∈ (D, listOf acc.toArray n') :: (l ++ lo), p.1 ≠ C) → St B L h vars ((D, listOf acc.toArray n') :: (l ++ lo)) → RR (.ref D) C (.ok .next) (sh s h t)) :
    wpAny (model prog w) A (newList []) (fun acc s₃ => wpAny (model prog w) A (newFunctionEnv scope env.globals cl [] env.qual none .none (some env)) (fun cenv s₄ =>
      codeAny (model prog w) A (.compStart (.ListComp elt [⟨target, iter, ifs, 0⟩] scope pos) 0 (.ref I) acc { cenv with scope := relabel scope env }) (RR acc cenv.locals) s₄) E s₃) E s := by
  refine wpAny_newObj_type (wpAny_newFunctionEnv hcell (by intro y hy; simp at hy) (fun h₁ hns₁ hsb₁ => ?_) hkind)
  dsimp only at hns₁ hsb₁ ⊢
  generalize hH2 : s.heap.push { cls := .type "list", dict := none, data := .seq ([] : List Value).toArray } = H2 at hns₁ hsb₁ ⊢
  have hC : H2.objs.size = s.heap.objs.size + 1 := by rw [← hH2, Heap.size_push]
  have hDC : s.heap.objs.size ≠ H2.objs.size := by rw [hC]; exact Nat.ne_of_lt (Nat.lt_succ_self _)
  have old : ∀ b o, s.heap.get? b = some o → h₁.get? b = some o := fun b o e => hsb₁.extBut b o (by have := Heap.lt_size e; rw [hC]; exact Nat.ne_of_lt (Nat.lt_succ_of_lt this)) (Heap.get?_push_of_some _ (hH2 ▸ Heap.get?_push_of_some _ e))
  have gone : ∀ a, s.heap.objs.size ≤ a → s.heap.get? a = none := fun a ha => Heap.get?_none_of_le ha
  have hD : h₁.get? s.heap.objs.size = some (listOf #[] 0) := hsb₁.extBut _ _ hDC (Heap.get?_push_of_some _ (hH2 ▸ Heap.get?_push_size _ rfl))
  have hid_gone : ∀ a, s.heap.objs.size ≤ a → hid ((ex ++ ob).map (·.1)) s.heap a = none := fun a ha => by
    cases e : hid ((ex ++ ob).map (·.1)) s.heap a with
    | none => rfl
    | some o => have := (hid_some.mp e).2; rw [gone a ha] at this; cases this
  have obl : ∀ p ∈ ex ++ ob, p.1 < s.heap.objs.size := fun p hp => Heap.lt_size (S.own p (List.mem_append_right _ hp))
  have S₁ : St (hid ((ex ++ ob).map (·.1)) s.heap) H2.objs.size h₁ [] ((s.heap.objs.size, listOf #[] 0) :: (ex ++ ob)) := by
    refine ⟨⟨_, hns₁, fun _ _ e => by cases e⟩, fun b o e => old b o (hid_some.mp e).2, fun p hp => ?_, fun p hp => ?_, fun p hp => ?_, hid_gone _ (by rw [hC]; exact Nat.le_succ _), ?_⟩
    · rcases List.mem_cons.mp hp with rfl | hp
      · exact hD
      · exact old _ _ (S.own p (List.mem_append_right _ hp))
    · rcases List.mem_cons.mp hp with rfl | hp
      · exact hid_gone _ (Nat.le_refl _)
      · exact hid_mem (List.mem_map_of_mem hp)
    · rcases List.mem_cons.mp hp with rfl | hp
      · exact hDC
      · have := obl p hp; rw [hC]; exact Nat.ne_of_lt (Nat.lt_succ_of_lt this)
    · have nd := S.nodup
      rw [List.map_append] at nd
      show (s.heap.objs.size :: (ex ++ ob).map (·.1)).Nodup
      refine List.nodup_cons.mpr ⟨fun q => ?_, (List.nodup_append.mp nd).2.1⟩
      obtain ⟨p, hp, e⟩ := List.mem_map.mp q
      have := obl p hp
      rw [e] at this; exact Nat.lt_irrefl _ this
  have hz₁ : Z 0 h₁ := W.frame _ _ _ hz fun b _ o e => old b o e
  have loop : ∀ s₃ : Shared, s₃ = { s with heap := h₁, toks := s.toks + ([] : List (Str × Value)).length } →
      codeAny (model prog w) A (.compLoop (.ListComp elt [⟨target, iter, ifs, 0⟩] scope pos) 0 (.ref I) (.ref s.heap.objs.size) (compEnvC scope cl H2.objs.size env))
        (RR (.ref s.heap.objs.size) H2.objs.size) s₃ := by
    rintro s₃ rfl
    refine rCompI W J hn (fun b hb => ?_) hob h0 S₁.unmid hz₁ (fun i v acc l rest h t E' hi hJ hP S => turn i v acc l rest _ h t E' hi hJ hP S) fun acc l h t n' hJ offw S₂ => ?_
    · exact .inl (hfp b hb)
    · have S₂ : St (hid ((ex ++ ob).map (·.1)) s.heap) H2.objs.size h [] ((s.heap.objs.size, listOf acc.toArray n') :: l) := by have := S₂.mid; rwa [List.append_nil] at this
      have S₃ := S.backX S₂
      obtain ⟨m, nC, _⟩ := S₂.ns
      refine hRR _ _ acc l h t n' hJ ⟨m, nC⟩ ?_ ?_ (fun p hp => ?_) S₃
      · have := S.ltL; rw [hC]; exact Nat.ne_of_gt (Nat.lt_succ_of_lt this)
      · cases e : B H2.objs.size with
        | none => rfl
        | some o => have := Heap.lt_size (S.keep _ _ e); rw [hC] at this; exact absurd (Nat.lt_of_succ_lt this) (Nat.lt_irrefl _)
      · rw [← List.cons_append] at hp
        rcases List.mem_append.mp hp with hp | hp
        · exact S₂.sepL p hp
        · have := Heap.lt_size (S.own p (List.mem_append_left _ hp)); rw [hC]; exact Nat.ne_of_lt (Nat.lt_succ_of_lt this)
  exact codeAny_compStart_list (loop _ rfl) (W.self 0 _ _ _ hz₁ (loop _ rfl))
end
end Mine

/-! part CasP -/
namespace Mine
def rowP (i : Nat) : List Int := digs 8 (257 ^ i) (nd 8 (257 ^ i)) ++ List.replicate 6 0
def rowsP : List (List Int) := (List.range 7).map rowP
def colP (many : Nat) : List Int := rowsP.map fun r => r.getD many 0
def cP (many left : Nat) : Nat := (colP many).countP fun y => decide (y ≤ (left : Int))
def wP (many left : Nat) : Int := (colP many).getD (cP many left - 1) 0
def casc : Nat → Nat → List Trip
  | 0, _ => []
  | k + 1, left => ((cP (k + 1) left : Int) - 1, ((k + 1 : Nat) : Int), wP (k + 1) left) :: casc k (left - (wP (k + 1) left).toNat)
theorem casc_facts : ∀ many : Nat, many < 4 → 0 < many → ∀ left : Nat, left < 21 → 1 ≤ cP many left ∧ cP many left ≤ 7 ∧ (colP many)[cP many left - 1]? = some (wP many left) ∧ 0 ≤ wP many left ∧ wP many left ≤ (left : Int) := by decide +kernel
theorem col_facts : ∀ many : Nat, many < 4 → 0 < many → (colP many).Pairwise (· ≤ ·) ∧ (colP many).length = 7 := by decide +kernel
theorem row_facts : ∀ i : Nat, i < 7 → ∀ many : Nat, many < 4 → (rowP i)[many]? = some ((rowP i).getD many 0) ∧ (rowP i).length ≤ 20 := by decide +kernel
theorem rows_at {i : Nat} (hi : i < 7) : rowsP[i]? = some (rowP i) := by unfold rowsP; rw [List.getElem?_map, List.getElem?_range hi]; rfl
theorem ListsL.snoc {il : List (Addr × Obj)} {nss : List (List Int)} {T : Addr} {vs : List Value} {n : Nat} {ns : List Int} (h : ListsL il nss) (hv : IntsAre vs ns) : ListsL (il ++ [(T, listOf vs.toArray n)]) (nss ++ [ns]) := by
  induction h with
  | nil => exact .cons hv .nil
  | cons h1 _ ih => exact .cons h1 ih
theorem ListsL.at {il : List (Addr × Obj)} {nss : List (List Int)} (h : ListsL il nss) {j : Nat} {v : Value} (e : (refs il).toArray[j]? = some v) : ∃ T vs n ns, v = .ref T ∧ (T, listOf vs.toArray n) ∈ il ∧ nss[j]? = some ns ∧ IntsAre vs ns := by
  have e' : (refs il)[j]? = some v := by simpa using e
  have hj : j < nss.length := by
    have := (List.getElem?_eq_some_iff.mp e').1
    rw [List.length_map, h.length] at this; exact this
  obtain ⟨pre, T, vs, m, post, rfl, hp, hv, _⟩ := h.split j hj
  refine ⟨T, vs, m, nss[j], ?_, by simp, List.getElem?_eq_getElem hj, ?_⟩
  · subst hp
    simp [refs] at e'
    exact e'.symm
  · rw [List.getD_eq_getElem?_getD, List.getElem?_eq_getElem hj] at hv
    exact hv
theorem pmid {α : Type} (T : α) (y x r : List α) : (T :: (y ++ (x ++ r))).Perm ((y ++ (x ++ [T])) ++ r) := by
  have e1 : T :: (y ++ (x ++ r)) = T :: ((y ++ x) ++ r) := by simp
  have e2 : (y ++ (x ++ [T])) ++ r = (y ++ x) ++ (T :: r) := by simp
  rw [e1, e2]
  exact List.perm_middle.symm
section
variable {prog : Program} {w : World} {A : Around} {E : Value → Shared → Prop} {s : Shared} {env : Env} {B : Bas} {L : Addr} {vars : List (Str × Value)} {lo ex : List (Addr × Obj)} {Q : Value → Shared → Prop} {use : Option (Value → Sem Unit)}
theorem rCompRX {elt target iter : Expr} {ifs : List Expr} {scope : Scope} {cl : List (Str × Addr)} {pos : Pos} {r : Addr} {a b c : Int} {t₀ u₀ v₀ : Tok} {n : Nat} {x : Str} {px : Pos} (ht : target = .Name x px) (hh : A.handled = none)
    (J : Nat → List Value → List (Addr × Obj) → Prop) (S : St B L s.heap vars (ex ++ lo)) (hr : IsRange s.heap r a b c t₀ u₀ v₀) (hsm : Builtin.Range.small a b c = true) (hrn : Builtin.Range.rangeSize a b c = n) (hn : n ≤ 1000) (h0 : J 0 [] ex)
    (hcell : ∀ y ∈ scope.names, y.2 ≠ .cell) (hkind : scope.kind = .function)
    (turn : ∀ B' (i : Nat) tv acc l rest C h t E', (∀ b o, B b = some o → B' b = some o) → i < n → J i acc l → St B' C h [] (l ++ rest) →
      ∀ (Kt : Value → Shared → Prop) (Kf : Shared → Prop), (∀ x h' t' l', J (i + 1) (acc ++ [x]) l' → St B' C h' [] (l' ++ rest) → Kt x (sh s h' t')) → (∀ h' t' l', J (i + 1) acc l' → St B' C h' [] (l' ++ rest) → Kf (sh s h' t')) → wpAny (model prog w) A (assign target (compEnvC scope cl C env) (.int (a + i * c) tv)) (fun _ s₂ => wpAny (model prog w) A (tests ifs (compEnvC scope cl C env)) (fun ok s₃ =>
          if ok = true then wpAny (model prog w) A (eval elt (compEnvC scope cl C env)) Kt E' s₃ else Kf s₃) E' s₂) E' (sh s h t))
    (done : ∀ D C acc l h t n', J n acc l → CEnd B L vars ((D, listOf acc.toArray n') :: (l ++ lo)) C h → compPost (model prog w) A E use Q (.ref D) C (.ok .next) (sh s h t)) :
    wpAny (model prog w) A (pyIter (.ref r)) (CompAt prog w A E env (.ListComp elt [⟨target, iter, ifs, 0⟩] scope pos) scope cl use Q) E s := by
  subst ht
  refine wpAny_pyIter_range hr hsm ?_
  rw [hrn]
  have S' := S.push (o := { cls := .type "range_iterator", data := .fields #[rawInt a, rawInt n, rawInt c] }) rfl
  have S' := S'.perm (l' := lo ++ (ex ++ [(s.heap.objs.size, { cls := .type "range_iterator", data := .fields #[rawInt a, rawInt n, rawInt c] })])) (by
    rw [← List.append_assoc lo]
    exact ((List.perm_append_comm (l₁ := ex) (l₂ := lo)).cons _).trans (List.perm_append_singleton _ _).symm)
  refine comp_blockX (s := { s with heap := s.heap.push { cls := .type "range_iterator", data := .fields #[rawInt a, rawInt n, rawInt c] } }) (ob := [(s.heap.objs.size, { cls := .type "range_iterator", data := .fields #[rawInt a, rawInt n, rawInt c] })]) (Itr.range hh s.heap.objs.size a c n) J hn (fun b hb => hb) rfl h0 S' ?_ hcell hkind
    (fun i v acc l rest C h t E' hi hJ hP S'' => ?_) (fun D C acc l h t n' hJ a1 a2 a3 a4 a5 => done D C acc l h t n' hJ ⟨a1, a2, a3, a4, a5⟩)
  · have e := Heap.get?_push_size s.heap (o := { cls := .type "range_iterator", data := .fields #[rawInt a, rawInt n, rawInt c] }) rfl
    show _ = _
    rw [e]
    simp
  · obtain ⟨tv, rfl⟩ := hP
    refine turn _ i tv acc l rest C h t E' (fun b o e => hid_some.mpr ⟨fun q => ?_, S'.keep _ _ e⟩) hi hJ S''
    obtain ⟨p, hp, e'⟩ := List.mem_map.mp q
    have := S'.sep p (List.mem_append_right _ hp)
    rw [e', e] at this; cases this
end
end Mine

/-! part Cas -/
namespace Mine
theorem pow257 {i : Nat} (h : i < 7) : 257 ^ i < 2 ^ 64 := Nat.lt_of_le_of_lt (Nat.pow_le_pow_right (by decide) (by lia : i ≤ 6)) (by decide)
theorem size_facts {size : Nat} (h : size = 2 ∨ size = 3) : Builtin.Range.small (size : Int) 0 (-1) = true ∧ Builtin.Range.rangeSize (size : Int) 0 (-1) = (size : Nat) := by
  rcases h with rfl | rfl <;> decide +kernel
set_option maxHeartbeats 4000000
section
variable {prog : Program} {w : World} {mg mb : Str → Option Value} {A : Around} {E : Value → Shared → Prop} {s : Shared} {Q : Value → Shared → Prop}
theorem cascade_at {tb : List (Addr × Obj)} {left size : Nat} {ta tn : Tok} (X : Bs w mg mb (hid (tb.map (·.1)) s.heap)) (rm : Room A 9 100) (T : T57 tb) (P : Pre tb s.heap) (hl : left < 21) (hs : size = 2 ∨ size = 3)
    (k : ∀ D tl m tb' h' tk', TripL tl (casc size left) → T57 tb' → Ret tb ((D, listOf (refs tl).toArray m) :: (tl ++ tb')) s.heap h' → Q (.ref D) (sh s h' tk')) :
    wpAny (model prog w) A (call (.ref 125) [.int left ta, .int size tn]) Q E s := by
  refine' enterC (d := 8) (u := 97) (binds := [("left", .int left ta), ("size", .int size tn)]) (vars := [("left", .int left ta), ("size", .int size tn)]) (tb.map (·.1)) tb X rm ?ho ?hcd ?hb P.own P.mem P.nd ?hv ?_ ?hk ?hn ?c1 ?c2 ?c3
  case ho => exact rfl
  case hcd => exact rfl
  case hb => exact fun Y => BindsTo.peek Y fun _ => rfl
  case hv => exact fun L => ⟨rfl, rfl, trivial⟩
  case hk => exact rfl
  case hn => decide +kernel
  case c1 => exact rfl
  case c2 => exact rfl
  case c3 => exact rfl
  intro L h₁ t₁ env cells A' K₀ E₀ hRt hNx hE CA S rm
  subst hE
  obtain ⟨oM, rfl, hoM⟩ := CellsAre.one CA
  have hoM : oM.data = .cell none := hoM
  obtain ⟨hsm, hrs⟩ := size_facts hs
  refine wpAny_execs_cons ?_
  refine rLCA (cl := []) rfl rfl (by decide) ?_
  refine rCallT (s := sh s h₁ _) S X (n_range _) boot_range ?_
  refine wpAny_items_cons (nInt fun _ _ => ?_)
  refine wpAny_items_nil ?_
  refine nRange1 S fun r tr ur vr h₂ t₂ S => ?_
  have hr := S.get
  have S := S.perm (l' := tb ++ [(r, _), (L + 1, oM)]) (List.perm_append_comm (l₁ := [_, _]))
  refine rCompRX (s := sh s h₂ t₂) (n := 7) (ex := tb) rfl rm.hh (fun i acc l => ∃ il tb', l = tb' ++ il ∧ T57 tb' ∧ acc = refs il ∧ ListsL il (rowsP.take i)) S hr (range_small (by first | decide | omega) (by first | decide | omega) (by first | decide | omega) (by first | decide | omega)) (range_size1 rfl) (by first | decide | omega)
    ⟨[], tb, by simp, T, rfl, .nil⟩ (by decide) rfl ?_ ?_
  · rintro B' i tv acc _ rest C h t E' kB hi ⟨il, tb, rfl, T, rfl, hL⟩ S Kt Kf hT hF
    have X' : Bs w mg mb B' := X.mono kB
    refine wpAny_assign_Name (nSt S fun h₃ t₃ S => ?_)
    refine wpAny_tests_nil ?_
    show wpAny _ _ _ _ _ _
    refine wpAny_BinOp ?_
    refine rCall (s := sh (sh s h₂ t₂) h₃ _) S X' (g_int2digits _) (keep_of _ (by decide)) ?_
    refine wpAny_items_cons (wpAny_BinOp (nInt fun _ _ => ?_))
    refine rLoc (s := sh (sh s h₂ t₂) h₃ _) S rfl ?_
    refine nPow (n := i) (c := ((257 ^ i : Nat) : Int)) (by first | decide | lia) (by first | decide | (exact Nat.le_of_lt (Nat.lt_of_lt_of_le (by assumption) (by decide)))) (by decide) (by push_cast; rfl) fun _ _ => ?_
    refine wpAny_items_cons (nInt fun _ _ => ?_)
    refine wpAny_items_nil ⟨X'.at S.keep, ?_⟩
    have S := S.perm (l' := tb ++ (il ++ rest)) (by simp)
    refine int2digits_at (s := sh (sh s h₂ t₂) h₃ _) (n := 8) (S.bsM X') (rm.less (by first | decide | omega) (by first | decide | omega)) T S.pre (by first | decide | omega) (by first | decide | omega) (pow257 hi) fun Da va ma tb' h₄ _ hia T R => ?_
    have S := S.ret R
    refine wpAny_BinOp (nList (s := sh s h₂ t₂) ?_)
    refine wpAny_items_cons (nInt fun u₀ _ => ?_)
    refine wpAny_items_nil ⟨_, _, _, _, _, _, rfl, S, by show 1 ≤ 1000; decide, fun D₀ h₅ S => ?_⟩
    refine nInt fun _ _ => ?_
    refine nMulL1 (s := sh s h₂ t₂) S S.get (by first | decide | omega) (by first | decide | omega) fun D₂ h₆ S => ?_
    have hrow := row_facts i hi 0 (by first | decide | omega)
    have hrl : (rowP i).length ≤ 20 := hrow.2
    have hvl : va.length + 6 ≤ 20 := by
      rw [hia.length]
      unfold rowP at hrl
      simpa using hrl
    refine nAddL (s := sh s h₂ t₂) S (S.drop1.drop1.get) S.get (by simp; lia) fun D₃ h₇ S => ?_
    have S := S.drop2.drop2.drop2
    refine hT _ h₇ _ _ ⟨il ++ [(D₃, listOf (va ++ List.replicate 6 (Value.int 0 u₀)).toArray 0)], tb', rfl, T, by simp, ?_⟩ ((S.perm (pmid _ tb' il rest)).lets (vars' := []) trivial)
    rw [take_snoc (rows_at hi)]
    exact hL.snoc (ints_append hia (ints_rep 6 0 u₀))
  · rintro Dr C acc _ h t mr ⟨il, tb', rfl, T, rfl, hL⟩ F
    refine F.assign fun h₃ t₃ S => ?_
    have hL : ListsL il rowsP := hL
    refine wpAny_execs_cons ?_
    refine wpAny_Assign_Name ?_ ?hsw
    case hsw => exact rfl
    refine nList0 (s := sh s h₂ t₂) S fun Dc h₄ S => ?_
    refine nSt S fun h₅ t₅ S => ?_
    refine wpAny_execs_cons (wpAny_For ?_)
    refine rCallT (s := sh (sh s h₂ t₂) h₅ _) S X (n_range _) boot_range ?_
    refine wpAny_items_cons (rLoc (s := sh (sh s h₂ t₂) h₅ _) S rfl ?_)
    refine wpAny_items_cons (nInt fun _ _ => ?_)
    refine wpAny_items_cons (wpAny_UnaryOp (nInt fun _ _ => ?_))
    refine nNeg (c := -1) rfl fun _ _ => ?_
    refine wpAny_items_nil ?_
    refine nRange3 (s := sh s h₂ t₂) S (by decide) (PyProof.noPylong_small (by decide)) fun rg _ _ _ h₆ t₆ S => ?_
    have hrg := S.get
    have S := (S.drop1.perm (l' := (r, _) :: (L + 1, oM) :: (Dc, listOf (refs []).toArray 0) :: (Dr, listOf (refs il).toArray mr) :: (tb' ++ il)) (List.perm_append_comm (l₁ := (Dc, _) :: (Dr, _) :: (tb' ++ il)) (l₂ := [_, _]))).drop1
    have S := S.lets (vars' := [("left", .int left ta), ("cascade", .ref Dc), ("rows", .ref Dr)]) ⟨rfl, rfl, rfl, trivial⟩
    refine rForR (s := sh (sh s h₂ t₂) h₆ t₆) (a := size) (b := 0) (c := -1) (n := size) (l := [(L + 1, oM), (Dc, listOf (refs []).toArray 0)]) (fx := (Dr, listOf (refs il).toArray mr) :: (tb' ++ il)) rfl rm.hh
      (fun i vars l => ∃ lf u tl m om vm dn, vars = ([("left", .int (lf : Nat) u), ("cascade", .ref Dc), ("rows", .ref Dr)] : List (Str × Value)) ∧ l = (L + 1, om) :: (Dc, listOf (refs tl).toArray m) :: tl ∧ om.data = .cell vm ∧ lf < 21 ∧ TripL tl dn ∧ dn.length = i ∧ dn ++ casc (size - i) lf = casc size left)
      S hrg hsm hrs ⟨left, ta, [], 0, oM, _, [], rfl, rfl, hoM, hl, .nil, rfl, by simp⟩ ?_ ?_
    · rintro i tv _ _ rest hT tT E' hi ⟨lf, u, tl, m, om, vm, dn, rfl, rfl, hom, hlf, htl, hdn, hca⟩ hfx S Kk hKk hBk hVk
      obtain ⟨many, hmany⟩ : ∃ many, size - i = many := ⟨_, rfl⟩
      have hmi : (size : Int) + (i : Int) * (-1) = (many : Int) := by lia
      have hm4 : many < 4 ∧ 0 < many := by lia
      obtain ⟨c1, c2, c3, c4, c5⟩ := casc_facts many hm4.1 hm4.2 lf hlf
      obtain ⟨d1, d2⟩ := col_facts many hm4.1 hm4.2
      refine wpAny_assign_Name (nCellSt (c := L + 1) S rfl hom fun om' h₇ hom' S => ?_)
      rw [hmi] at hom'
      have hDr : h₇.get? Dr = some (listOf (refs il).toArray mr) := S.own (Dr, _) (List.mem_append_right ((L + 1, om') :: (Dc, listOf (refs tl).toArray m) :: tl) (hfx _ (.head _)))
      have hil : ∀ p ∈ il, h₇.get? p.1 = some p.2 := fun p hp => S.own p (List.mem_append_right ((L + 1, om') :: (Dc, listOf (refs tl).toArray m) :: tl) (hfx _ (.tail _ (List.mem_append_right _ hp))))
      have hcl := S.get
      refine wpAny_execs_cons ?_
      refine rLCA (cl := [("many", L + 1)]) rfl rfl (by decide) ?_
      refine rLoc (s := sh (sh (sh s h₂ t₂) h₆ t₆) h₇ tT) S rfl ?_
      refine rCompL (s := sh (sh (sh s h₂ t₂) h₆ t₆) h₇ tT) rfl rm.hh (fun j acc l => l = [] ∧ IntsAre acc ((colP many).take j)) S hDr (by rw [List.size_toArray, List.length_map, hL.length]; decide) ⟨rfl, .nil⟩ (by decide) rfl ?_ ?_
      · rintro B' j v acc _ rest₂ C h t E₂ kB hv ⟨rfl, hacc⟩ S' Kt Kf hT hF
        obtain ⟨T', vr, nr, ns, rfl, hmem, hns, hvr⟩ := hL.at hv
        have hj : j < 7 := by
          have := (List.getElem?_eq_some_iff.mp hns).1
          simpa [rowsP] using this
        have hns' : ns = rowP j := Option.some.inj (hns.symm.trans (rows_at hj))
        subst hns'
        obtain ⟨tx, hx⟩ := hvr.get many _ (row_facts j hj many hm4.1).1
        refine wpAny_assign_Name (nSt S' fun h₈ _ S' => ?_)
        refine wpAny_tests_nil ?_
        show wpAny _ _ _ _ _ _
        refine Subscript_ (rLoc (s := sh (sh (sh (sh s h₂ t₂) h₆ t₆) h₇ tT) h₈ _) S' rfl ?_)
        refine rCell (s := sh (sh (sh (sh s h₂ t₂) h₆ t₆) h₇ tT) h₈ _) (c := L + 1) rfl (S'.keep _ _ (kB _ _ hcl)) hom' ?_
        refine nItem (S'.keep _ _ (kB _ _ (hil (T', listOf vr.toArray nr) hmem))) (by first | decide | lia) (by first | decide | lia) (by rw [Int.toNat_natCast]; exact hx) ?_
        refine hT _ h₈ _ [] ⟨rfl, ?_⟩ (S'.lets trivial)
        have hcj : (colP many)[j]? = some ((rowP j).getD many 0) := by
          unfold colP
          rw [List.getElem?_map, rows_at hj]; rfl
        rw [take_snoc hcj]
        exact ints_snoc hacc _ _
      · rintro Dk C acc _ h t nk ⟨rfl, hacc⟩ F
        have hsz : (refs il).toArray.size = (colP many).length := by rw [List.size_toArray, List.length_map, hL.length, d2]; decide
        rw [hsz, List.take_length] at hacc
        refine F.assign fun h₈ _ S => ?_
        refine wpAny_execs_cons (wpAny_Assign_Name ?_)
        refine wpAny_BinOp ?_
        refine rCall (s := sh (sh (sh (sh s h₂ t₂) h₆ t₆) h₇ tT) h₈ _) S X (g_bisect_right _) (keep_of _ (by decide)) ?_
        refine wpAny_items_cons (rLoc (s := sh (sh (sh (sh s h₂ t₂) h₆ t₆) h₇ tT) h₈ _) S rfl ?_)
        refine wpAny_items_cons (rLoc (s := sh (sh (sh (sh s h₂ t₂) h₆ t₆) h₇ tT) h₈ _) S rfl ?_)
        refine wpAny_items_nil ⟨X.at S.keep, ?_⟩
        refine bisect_right_at (s := sh (sh (sh (sh s h₂ t₂) h₆ t₆) h₇ tT) h₈ _) (S.bsM (ob := []) X) (rm.less (by first | decide | omega) (by first | decide | omega)) (.inl ⟨rfl, rfl⟩) S.get hacc (by first | decide | lia) d1 fun tc h₉ _ ex => ?_
        have S := S.ext ex
        refine nInt fun _ _ => ?_
        refine nSub (c := ((cP many lf - 1 : Nat) : Int)) (by show ((cP many lf : Nat) : Int) - 1 = _; lia) fun _ _ => ?_
        refine nSt S fun h₁₀ _ S => ?_
        have S := S.lets (vars' := [("left", .int lf u), ("cascade", .ref Dc), ("rows", .ref Dr), ("column", .ref Dk), ("things", .int ((cP many lf - 1 : Nat) : Int) _)]) ⟨rfl, rfl, rfl, rfl, rfl, trivial⟩
        obtain ⟨tw, hw⟩ := hacc.get (cP many lf - 1) _ c3
        refine wpAny_execs_cons (wpAny_Expr ?_)
        refine rLM PySem.F.slot_list_append PySem.F.type_list_append ?_
        refine rLoc (s := sh (sh (sh (sh s h₂ t₂) h₆ t₆) h₇ tT) h₁₀ _) S rfl ⟨Dc, (refs tl).toArray, m, rfl, S.own (Dc, listOf (refs tl).toArray m) (by simp), ?_⟩
        refine wpAny_items_cons (nTup ?_)
        refine wpAny_items_cons (rLoc (s := sh (sh (sh (sh s h₂ t₂) h₆ t₆) h₇ tT) h₁₀ _) S rfl ?_)
        refine wpAny_items_cons ?_
        refine rCell (s := sh (sh (sh (sh s h₂ t₂) h₆ t₆) h₇ tT) h₁₀ _) (c := L + 1) rfl (S.own (L + 1, om') (by simp)) hom' ?_
        refine wpAny_items_cons ?_
        refine Subscript_ (rLoc (s := sh (sh (sh (sh s h₂ t₂) h₆ t₆) h₇ tT) h₁₀ _) S rfl ?_)
        refine rLoc (s := sh (sh (sh (sh s h₂ t₂) h₆ t₆) h₇ tT) h₁₀ _) S rfl ?_
        refine nItem S.get (by first | decide | lia) (by first | decide | omega) (by rw [Int.toNat_natCast]; exact hw) ?_
        refine wpAny_items_nil ⟨_, _, _, _, _, _, rfl, S, by show 3 ≤ 1000; decide, fun T₂ h₁₁ S => ?_⟩
        obtain ⟨_, ⟨u₃, v₃, w₃, rfl⟩, S⟩ := S.abs (P := fun o => ∃ u v w, o = tupO [.int ((cP many lf - 1 : Nat) : Int) u, .int (many : Int) v, .int (wP many lf) w].toArray) ⟨_, _, _, rfl⟩
        refine wpAny_items_nil ?_
        have htll : tl.length ≤ 3 := by rw [htl.length, hdn]; omega
        have S := S.perm (l' := ((T₂, _) :: (Dk, _) :: (L + 1, om') :: []) ++ (Dc, listOf (refs tl).toArray m) :: (tl ++ rest)) (by exact .refl _)
        refine nAppend S.mid (by rw [List.size_toArray, List.length_map]; omega) fun h₁₂ m' S => ?_
        have hDk := S.own (Dk, listOf acc.toArray nk) (by simp)
        refine wpAny_execs_cons (wpAny_AugAssign_Name ?_)
        refine rLocN (s := sh (sh (sh (sh s h₂ t₂) h₆ t₆) h₇ tT) h₁₂ _) S rfl ?_
        refine Subscript_ (rLoc (s := sh (sh (sh (sh s h₂ t₂) h₆ t₆) h₇ tT) h₁₂ _) S rfl ?_)
        refine rLoc (s := sh (sh (sh (sh s h₂ t₂) h₆ t₆) h₇ tT) h₁₂ _) S rfl ?_
        refine nItem hDk (by first | decide | omega) (by first | decide | omega) (by rw [Int.toNat_natCast]; exact hw) ?_
        refine nISub (c := ((lf - (wP many lf).toNat : Nat) : Int)) (by first | decide | omega) fun u₄ _ => ?_
        refine nSt S fun h₁₃ _ S => ?_
        have S := (S.mid (l := [_, _])).drop1
        have S := S.mid (l := [_, _])
        have S := S.perm (.cons _ (.cons _ (pmid _ [] tl rest)))
        refine wpAny_execs_nil ?_
        refine hKk h₁₃ _ [("left", .int ((lf - (wP many lf).toNat : Nat) : Int) u₄), ("cascade", .ref Dc), ("rows", .ref Dr)] _ ⟨lf - (wP many lf).toNat, u₄, tl ++ [(T₂, tupO [.int ((cP many lf - 1 : Nat) : Int) u₃, .int (many : Int) v₃, .int (wP many lf) w₃].toArray)], m', om', _, dn ++ [(((cP many lf - 1 : Nat) : Int), (many : Int), wP many lf)], rfl, rfl, hom', by omega, htl.snoc, by simp [hdn], ?_⟩ ?_
        · rw [← hca, hmany, show size - (i + 1) = many - 1 by omega]
          obtain ⟨m0, rfl⟩ : ∃ m0, many = m0 + 1 := ⟨many - 1, by omega⟩
          show dn ++ [_] ++ casc m0 _ = dn ++ ((((cP (m0 + 1) lf : Nat) : Int) - 1, _, _) :: casc m0 _)
          rw [show ((cP (m0 + 1) lf : Nat) : Int) - 1 = ((cP (m0 + 1) lf - 1 : Nat) : Int) by omega]
          simp
        · have e : ∀ o, (refs (tl ++ [(T₂, o)])).toArray = (refs tl).toArray.push (.ref T₂) := fun o => by simp
          rw [e]
          exact S.lets (vars' := [("left", .int ((lf - (wP many lf).toNat : Nat) : Int) u₄), ("cascade", .ref Dc), ("rows", .ref Dr)]) ⟨rfl, rfl, rfl, trivial⟩
    · rintro vars l h t E' ⟨lf, u, tl, m, om, vm, dn, rfl, rfl, hom, hlf, htl, hdn, hca⟩ S
      rw [Nat.sub_self] at hca
      have hca : dn = casc size left := by simpa [casc] using hca
      subst hca
      refine wpAny_execs_nil ?_
      refine wpAny_execs_cons (wpAny_Return_some ?_)
      refine rLoc (s := sh (sh (sh s h₂ t₂) h₆ t₆) h t) S rfl ?_
      have S := S.perm (l' := ((Dc, listOf (refs tl).toArray m) :: (tl ++ tb')) ++ ((L + 1, om) :: (Dr, listOf (refs il).toArray mr) :: il)) ?_
      · exact hRt _ _ (k Dc tl m tb' h t htl T (St.toRet S))
      · refine (List.Perm.swap ..).trans (.cons _ ?_)
        have e : (tl ++ tb') ++ ((L + 1, om) :: (Dr, listOf (refs il).toArray mr) :: il) = tl ++ (tb' ++ ((L + 1, om) :: (Dr, listOf (refs il).toArray mr) :: il)) := by simp
        refine (List.Perm.cons _ ((List.Perm.append_left tl (List.perm_middle (l₁ := tb')).symm))).trans ?_
        rw [← List.append_assoc]
        exact List.perm_middle.symm
end
end Mine

/-! part Kk -/
namespace Mine
/-! plain: Kruskal and Katona for three things of six -/
def b1 (a : Bool) : Nat := a.toNat
def t3 (a b c : Bool) : Nat := (a && b && c).toNat
def t2 (a b : Bool) : Nat := (a && b).toNat
theorem t3_le1 : ∀ a b c : Bool, t3 a b c ≤ b1 a := by decide
theorem t3_le2 : ∀ a b c : Bool, t3 a b c ≤ t2 b c := by decide
def f5 (e : Nat) : Nat := [0, 0, 0, 1, 1, 2, 4, 4, 5, 7, 10].getD e 0
def d31 (m : Nat) : Nat := [0, 3, 5, 6, 6, 8, 9, 9, 10, 10, 10, 12, 13, 13, 14, 14, 14, 15, 15, 15, 15].getD m 0
def d21 (m : Nat) : Nat := [0, 2, 3, 3, 4, 4, 4, 5, 5, 5, 5, 6, 6, 6, 6, 6].getD m 0
theorem k5 : ∀ a01 a02 a12 a03 a13 a23 a04 a14 a24 a34 : Bool, t3 a01 a02 a12 + t3 a01 a03 a13 + t3 a02 a03 a23 + t3 a12 a13 a23 + t3 a01 a04 a14 + t3 a02 a04 a24 + t3 a12 a14 a24 + t3 a03 a04 a34 + t3 a13 a14 a34 + t3 a23 a24 a34 ≤ f5 (b1 a01 + b1 a02 + b1 a12 + b1 a03 + b1 a13 + b1 a23 + b1 a04 + b1 a14 + b1 a24 + b1 a34) ∧ b1 a01 + b1 a02 + b1 a12 + b1 a03 + b1 a13 + b1 a23 + b1 a04 + b1 a14 + b1 a24 + b1 a34 ≤ 10 := by decide +kernel
theorem p5 : ∀ a05 a15 a25 a35 a45 : Bool, t2 a05 a15 + t2 a05 a25 + t2 a15 a25 + t2 a05 a35 + t2 a15 a35 + t2 a25 a35 + t2 a05 a45 + t2 a15 a45 + t2 a25 a45 + t2 a35 a45 = (b1 a05 + b1 a15 + b1 a25 + b1 a35 + b1 a45) * (b1 a05 + b1 a15 + b1 a25 + b1 a35 + b1 a45 - 1) / 2 ∧ b1 a05 + b1 a15 + b1 a25 + b1 a35 + b1 a45 ≤ 5 := by decide +kernel
theorem one {T X e d : Nat} (h1 : e ≤ 10) (h2 : d ≤ 5) (h3 : T ≤ f5 e) (h4 : X ≤ d * (d - 1) / 2) (h5 : X ≤ e) : d31 (T + X) ≤ e + d := by
  have key : ∀ e : Nat, e < 11 → ∀ d : Nat, d < 6 → d31 (f5 e + min (d * (d - 1) / 2) e) ≤ e + d ∧ f5 e + min (d * (d - 1) / 2) e < 21 := by decide +kernel
  have mono : ∀ y : Nat, y < 21 → ∀ x : Nat, x < 21 → x ≤ y → d31 x ≤ d31 y := by decide +kernel
  obtain ⟨k1, k2⟩ := key e (Nat.lt_succ_of_le h1) d (Nat.lt_succ_of_le h2)
  have h := Nat.add_le_add h3 (Nat.le_min.mpr ⟨h4, h5⟩)
  exact Nat.le_trans (mono _ k2 _ (Nat.lt_of_le_of_lt h k2) h) k1
theorem star (a01 a02 a12 a03 a13 a23 a04 a14 a24 a34 a05 a15 a25 a35 a45 : Bool) : t3 a01 a05 a15 + t3 a02 a05 a25 + t3 a12 a15 a25 + t3 a03 a05 a35 + t3 a13 a15 a35 + t3 a23 a25 a35 + t3 a04 a05 a45 + t3 a14 a15 a45 + t3 a24 a25 a45 + t3 a34 a35 a45 ≤ b1 a01 + b1 a02 + b1 a12 + b1 a03 + b1 a13 + b1 a23 + b1 a04 + b1 a14 + b1 a24 + b1 a34 ∧ t3 a01 a05 a15 + t3 a02 a05 a25 + t3 a12 a15 a25 + t3 a03 a05 a35 + t3 a13 a15 a35 + t3 a23 a25 a35 + t3 a04 a05 a45 + t3 a14 a15 a45 + t3 a24 a25 a45 + t3 a34 a35 a45 ≤ t2 a05 a15 + t2 a05 a25 + t2 a15 a25 + t2 a05 a35 + t2 a15 a35 + t2 a25 a35 + t2 a05 a45 + t2 a15 a45 + t2 a25 a45 + t2 a35 a45 :=
  ⟨Nat.add_le_add (Nat.add_le_add (Nat.add_le_add (Nat.add_le_add (Nat.add_le_add (Nat.add_le_add (Nat.add_le_add (Nat.add_le_add (Nat.add_le_add (t3_le1 a01 a05 a15) (t3_le1 a02 a05 a25)) (t3_le1 a12 a15 a25)) (t3_le1 a03 a05 a35)) (t3_le1 a13 a15 a35)) (t3_le1 a23 a25 a35)) (t3_le1 a04 a05 a45)) (t3_le1 a14 a15 a45)) (t3_le1 a24 a25 a45)) (t3_le1 a34 a35 a45), Nat.add_le_add (Nat.add_le_add (Nat.add_le_add (Nat.add_le_add (Nat.add_le_add (Nat.add_le_add (Nat.add_le_add (Nat.add_le_add (Nat.add_le_add (t3_le2 a01 a05 a15) (t3_le2 a02 a05 a25)) (t3_le2 a12 a15 a25)) (t3_le2 a03 a05 a35)) (t3_le2 a13 a15 a35)) (t3_le2 a23 a25 a35)) (t3_le2 a04 a05 a45)) (t3_le2 a14 a15 a45)) (t3_le2 a24 a25 a45)) (t3_le2 a34 a35 a45)⟩
theorem assoc10 (p a b c d e f g h i j : Nat) : p + a + b + c + d + e + f + g + h + i + j = p + (a + b + c + d + e + f + g + h + i + j) := by simp only [Nat.add_assoc]
theorem assoc5 (p a b c d e : Nat) : p + a + b + c + d + e = p + (a + b + c + d + e) := by simp only [Nat.add_assoc]
theorem kk3 (a01 a02 a12 a03 a13 a23 a04 a14 a24 a34 a05 a15 a25 a35 a45 : Bool) : d31 (t3 a01 a02 a12 + t3 a01 a03 a13 + t3 a02 a03 a23 + t3 a12 a13 a23 + t3 a01 a04 a14 + t3 a02 a04 a24 + t3 a12 a14 a24 + t3 a03 a04 a34 + t3 a13 a14 a34 + t3 a23 a24 a34 + t3 a01 a05 a15 + t3 a02 a05 a25 + t3 a12 a15 a25 + t3 a03 a05 a35 + t3 a13 a15 a35 + t3 a23 a25 a35 + t3 a04 a05 a45 + t3 a14 a15 a45 + t3 a24 a25 a45 + t3 a34 a35 a45) ≤ b1 a01 + b1 a02 + b1 a12 + b1 a03 + b1 a13 + b1 a23 + b1 a04 + b1 a14 + b1 a24 + b1 a34 + b1 a05 + b1 a15 + b1 a25 + b1 a35 + b1 a45 := by
  rw [assoc10 _ (t3 a01 a05 a15) (t3 a02 a05 a25) (t3 a12 a15 a25) (t3 a03 a05 a35) (t3 a13 a15 a35) (t3 a23 a25 a35) (t3 a04 a05 a45) (t3 a14 a15 a45) (t3 a24 a25 a45) (t3 a34 a35 a45), assoc5 _ (b1 a05) (b1 a15) (b1 a25) (b1 a35) (b1 a45)]
  have k := k5 a01 a02 a12 a03 a13 a23 a04 a14 a24 a34
  have p := p5 a05 a15 a25 a35 a45
  have x := star a01 a02 a12 a03 a13 a23 a04 a14 a24 a34 a05 a15 a25 a35 a45
  exact one k.2 p.2 k.1 (p.1 ▸ x.2) x.1
theorem kk2 : ∀ q0 q1 q2 q3 q4 q5 : Bool, d21 (t2 q0 q1 + t2 q0 q2 + t2 q1 q2 + t2 q0 q3 + t2 q1 q3 + t2 q2 q3 + t2 q0 q4 + t2 q1 q4 + t2 q2 q4 + t2 q3 q4 + t2 q0 q5 + t2 q1 q5 + t2 q2 q5 + t2 q3 q5 + t2 q4 q5) ≤ b1 q0 + b1 q1 + b1 q2 + b1 q3 + b1 q4 + b1 q5 := by decide +kernel
end Mine

/-! part Pl -/
namespace Mine
def sN : Nat → List Nat
  | 0 => [0]
  | 1 => [1, 2, 4, 8, 16, 32]
  | 2 => [3, 5, 6, 9, 10, 12, 17, 18, 20, 24, 33, 34, 36, 40, 48]
  | 3 => [7, 11, 13, 14, 19, 21, 22, 25, 26, 28, 35, 37, 38, 41, 42, 44, 49, 50, 52, 56]
  | _ => []
theorem byS64 : ∀ k, k < 4 → (byS 64).getD k [] = toI (sN k) := by decide +kernel
def under (S F : List Nat) : List Nat := S.filter fun x => F.any fun o => o &&& x == x
def csAt (size m : Nat) : Nat → List Trip
  | 0 => casc size m
  | i + 1 => (csAt size m i).filterMap castOne
def dueAt (size m i : Nat) : Int := ((csAt size m i).map fun t => t.2.2).sum
def tk (size : Nat) (F : List Nat) : Nat → List Nat
  | 0 => F
  | i + 1 => under (sN (size - (i + 1))) F
def d32 (m : Nat) : Nat := [0, 3, 4, 4, 4, 5, 5, 5, 5, 5, 5, 6, 6, 6, 6, 6, 6, 6, 6, 6, 6].getD m 0
theorem told2 : ∀ m, m < 15 → (casc 2 m).reverse.map (·.1) = toI (bitsOf ((sN 2).getD m 0)) := by decide +kernel
theorem told3 : ∀ m, m < 20 → (casc 3 m).reverse.map (·.1) = toI (bitsOf ((sN 3).getD m 0)) := by decide +kernel
def cs2 (m : Nat) : Bool := decide (∀ t ∈ csAt 2 m 0, okT t) && decide (∀ t ∈ csAt 2 m 1, okT t) && decide ((csAt 2 m 0).length ≤ 3) && decide ((csAt 2 m 1).length ≤ 3) && decide ((csAt 2 m 2).length ≤ 3) && (dueAt 2 m 1 == (d21 m : Int)) && (dueAt 2 m 2 == ((if m = 0 then 0 else 1 : Nat) : Int))
  && (under (sN 1) ((sN 2).take m) == (sN 1).take (d21 m)) && (under (sN 0) ((sN 2).take m) == (sN 0).take (if m = 0 then 0 else 1)) && decide (∀ t ∈ csAt 2 m 1, -1000 ≤ t.2.2 ∧ t.2.2 ≤ 1000) && decide (∀ t ∈ csAt 2 m 2, -1000 ≤ t.2.2 ∧ t.2.2 ≤ 1000)
def cs3 (m : Nat) : Bool := decide (∀ t ∈ csAt 3 m 0, okT t) && decide (∀ t ∈ csAt 3 m 1, okT t) && decide ((csAt 3 m 0).length ≤ 3) && decide ((csAt 3 m 1).length ≤ 3) && decide ((csAt 3 m 2).length ≤ 3) && (dueAt 3 m 1 == (d31 m : Int)) && (dueAt 3 m 2 == (d32 m : Int))
  && (under (sN 2) ((sN 3).take m) == (sN 2).take (d31 m)) && (under (sN 1) ((sN 3).take m) == (sN 1).take (d32 m)) && decide (∀ t ∈ csAt 3 m 1, -1000 ≤ t.2.2 ∧ t.2.2 ≤ 1000) && decide (∀ t ∈ csAt 3 m 2, -1000 ≤ t.2.2 ∧ t.2.2 ≤ 1000)
theorem cs2_ok : ∀ m, m < 16 → cs2 m = true := by decide +kernel
theorem cs3_ok : ∀ m, m < 21 → cs3 m = true := by decide +kernel
theorem mono31 : ∀ y : Nat, y < 21 → ∀ x : Nat, x < 21 → x ≤ y → d31 x ≤ d31 y := by decide +kernel
theorem mono21 : ∀ y : Nat, y < 16 → ∀ x : Nat, x < 16 → x ≤ y → d21 x ≤ d21 y := by decide +kernel
theorem d32_le : ∀ m, m < 21 → d32 m ≤ d21 (d31 m) ∧ d31 m < 16 := by decide +kernel
theorem sN_sorted : ∀ k, k < 4 → (toI (sN k)).Pairwise (· < ·) := by decide +kernel
theorem sN_lt : ∀ k, k < 4 → ∀ x ∈ sN k, x < 64 := by decide +kernel
theorem sN_pos : ∀ k, k < 3 → ∀ x ∈ sN (k + 1), 0 < x := by decide +kernel
theorem subA : ∀ k, k < 3 → ∀ o ∈ sN (k + 1), ∀ y, y < 64 → ((y ∈ sN k ∧ o &&& y = y) ↔ ∃ j ∈ bitsOf o, y = o - 2 ^ j) := by decide +kernel
theorem subB : ∀ k, k < 2 → ∀ o ∈ sN (k + 2), ∀ y ∈ sN k, o &&& y = y → ∃ x ∈ sN (k + 1), o &&& x = x ∧ x &&& y = y := by decide +kernel
theorem land_trans {o x y : Nat} (h1 : o &&& x = x) (h2 : x &&& y = y) : o &&& y = y := by rw [← h2, ← Nat.and_assoc, h1]
theorem under_mem {S F : List Nat} {x : Nat} : x ∈ under S F ↔ x ∈ S ∧ ∃ o ∈ F, o &&& x = x := by
  unfold under
  rw [List.mem_filter, List.any_eq_true]
  simp only [beq_iff_eq]
theorem under_sorted {k : Nat} (hk : k < 4) (F : List Nat) : (toI (under (sN k) F)).Pairwise (· < ·) := by
  have h := sN_sorted k hk
  unfold toI at h ⊢
  rw [List.pairwise_map] at h ⊢
  exact List.Pairwise.filter _ h
theorem toI_mem {l : List Nat} {a : Int} : a ∈ toI l ↔ ∃ y ∈ l, (y : Int) = a := by unfold toI; rw [List.mem_map]
/-- below a family: one thing less -/
theorem below_is {size : Nat} (hs : size = 2 ∨ size = 3) {F : List Nat} (hF : ∀ x ∈ F, x ∈ sN size) {i : Nat} (hi : i < 2) {ys : List Int} (h : BelowOf (tk size F i) ys) : ys = toI (tk size F (i + 1)) := by
  have hk : size - (i + 1) < 3 := by omega
  refine sorted_ext h.so (under_sorted (by first | decide | (exact Nat.lt_of_lt_of_le (by assumption) (by decide))) F) fun a => ?_
  rw [h.mem a, toI_mem]
  have hx : ∀ x ∈ tk size F i, x ∈ sN (size - (i + 1) + 1) ∧ ∃ o ∈ F, o &&& x = x := fun x hx => by
    cases i with
    | zero =>
      refine ⟨?_, x, hx, Nat.and_self x⟩
      rw [show size - (0 + 1) + 1 = size by lia]; exact hF x hx
    | succ i =>
      obtain ⟨h1, h2⟩ := under_mem.mp hx
      refine ⟨?_, h2⟩
      rw [show size - (i + 1 + 1) + 1 = size - (i + 1) by lia]; exact h1
  constructor
  · rintro ⟨x, hxm, j, hj, rfl⟩
    obtain ⟨h1, o, ho, h2⟩ := hx x hxm
    have hx64 := sN_lt _ (by first | decide | (exact Nat.lt_of_le_of_lt (by assumption) (by decide))) x h1
    have hb := bits_mem.mp hj
    have hle := bit_le x hx64 j hb.1 hb.2
    obtain ⟨h3, h4⟩ := (subA _ hk x h1 (x - 2 ^ j) (Nat.lt_of_le_of_lt (Nat.sub_le _ _) hx64)).mpr ⟨j, hj, rfl⟩
    exact ⟨x - 2 ^ j, under_mem.mpr ⟨h3, o, ho, land_trans h2 h4⟩, by omega⟩
  · rintro ⟨y, hy, rfl⟩
    obtain ⟨h1, o, ho, h2⟩ := under_mem.mp hy
    have hy64 := sN_lt _ (by first | decide | (exact Nat.lt_of_lt_of_le (by assumption) (by decide))) y h1
    obtain ⟨x, hxm, hxs, hxy⟩ : ∃ x ∈ tk size F i, x ∈ sN (size - (i + 1) + 1) ∧ x &&& y = y := by
      match i, hi with
      | 0, _ =>
        refine ⟨o, ho, ?_, h2⟩
        rw [show size - (0 + 1) + 1 = size by lia]; exact hF o ho
      | 1, _ =>
        obtain ⟨x, q1, q2, q3⟩ := subB (size - 2) (by first | decide | omega) o (by rw [show size - 2 + 2 = size by lia]; exact hF o ho) y h1 h2
        refine ⟨x, under_mem.mpr ⟨?_, o, ho, q2⟩, q1, q3⟩
        rw [show size - (0 + 1) = size - 2 + 1 by lia]; exact q1
    obtain ⟨j, hj, e⟩ := (subA _ hk x hxs y hy64).mp ⟨h1, hxy⟩
    have hb := bits_mem.mp hj
    have hle := bit_le x (sN_lt _ (by first | decide | (exact Nat.lt_of_le_of_lt (by assumption) (by decide))) x hxs) j hb.1 hb.2
    exact ⟨x, hxm, j, hj, by lia⟩
theorem within_is (S F : List Nat) : ((toI S).filter fun less => (toI F).any fun one => Builtin.bitAnd one less == less) = toI (under S F) := by
  unfold toI under
  rw [List.filter_map]
  congr 1
  refine List.filter_congr fun x _ => ?_
  simp only [Function.comp, List.any_map]
  congr 1
  funext o
  show (Builtin.bitAnd (o : Int) (x : Int) == (x : Int)) = (o &&& x == x)
  rw [bitAnd_pp (Int.natCast_nonneg _) (Int.natCast_nonneg _), Int.toNat_natCast, Int.toNat_natCast]
  rw [Bool.eq_iff_iff, beq_iff_eq, beq_iff_eq]
  lia
/-! the count -/
def hit (F : List Nat) (x : Nat) : Bool := F.any fun o => o &&& x == x
theorem under_len (S F : List Nat) : (under S F).length = S.countP (hit F) := by
  rw [List.countP_eq_length_filter]; rfl
theorem hit_sub {F : List Nat} {x y : Nat} (h : hit F x = true) (hy : x &&& y = y) : hit F y = true := by
  unfold hit at *
  rw [List.any_eq_true] at *
  obtain ⟨o, ho, e⟩ := h
  exact ⟨o, ho, beq_iff_eq.mpr (land_trans (beq_iff_eq.mp e) hy)⟩
theorem hit_self {F : List Nat} {x : Nat} (h : x ∈ F) : hit F x = true := List.any_eq_true.mpr ⟨x, h, beq_iff_eq.mpr (Nat.and_self x)⟩
theorem ite_b1 (a : Bool) : (if a = true then 1 else 0) = b1 a := by cases a <;> rfl
theorem count_all {F : List Nat} {k : Nat} (hF : F.Sublist (sN k)) (Qt : Nat → Bool) (h : ∀ x ∈ F, Qt x = true) : F.length ≤ (sN k).countP Qt := by
  have : F.countP Qt = F.length := List.countP_eq_length.mpr h
  rw [← this]
  exact hF.countP_le
def Q3 (F : List Nat) (t : Nat) : Bool := match t with
  | 7 => (hit F 3 && hit F 5 && hit F 6)
  | 11 => (hit F 3 && hit F 9 && hit F 10)
  | 13 => (hit F 5 && hit F 9 && hit F 12)
  | 14 => (hit F 6 && hit F 10 && hit F 12)
  | 19 => (hit F 3 && hit F 17 && hit F 18)
  | 21 => (hit F 5 && hit F 17 && hit F 20)
  | 22 => (hit F 6 && hit F 18 && hit F 20)
  | 25 => (hit F 9 && hit F 17 && hit F 24)
  | 26 => (hit F 10 && hit F 18 && hit F 24)
  | 28 => (hit F 12 && hit F 20 && hit F 24)
  | 35 => (hit F 3 && hit F 33 && hit F 34)
  | 37 => (hit F 5 && hit F 33 && hit F 36)
  | 38 => (hit F 6 && hit F 34 && hit F 36)
  | 41 => (hit F 9 && hit F 33 && hit F 40)
  | 42 => (hit F 10 && hit F 34 && hit F 40)
  | 44 => (hit F 12 && hit F 36 && hit F 40)
  | 49 => (hit F 17 && hit F 33 && hit F 48)
  | 50 => (hit F 18 && hit F 34 && hit F 48)
  | 52 => (hit F 20 && hit F 36 && hit F 48)
  | 56 => (hit F 24 && hit F 40 && hit F 48)
  | _ => false
def Q2 (F : List Nat) (t : Nat) : Bool := match t with
  | 3 => (hit F 1 && hit F 2)
  | 5 => (hit F 1 && hit F 4)
  | 6 => (hit F 2 && hit F 4)
  | 9 => (hit F 1 && hit F 8)
  | 10 => (hit F 2 && hit F 8)
  | 12 => (hit F 4 && hit F 8)
  | 17 => (hit F 1 && hit F 16)
  | 18 => (hit F 2 && hit F 16)
  | 20 => (hit F 4 && hit F 16)
  | 24 => (hit F 8 && hit F 16)
  | 33 => (hit F 1 && hit F 32)
  | 34 => (hit F 2 && hit F 32)
  | 36 => (hit F 4 && hit F 32)
  | 40 => (hit F 8 && hit F 32)
  | 48 => (hit F 16 && hit F 32)
  | _ => false
theorem cE (F : List Nat) : (sN 2).countP (hit F) = b1 (hit F 3) + b1 (hit F 5) + b1 (hit F 6) + b1 (hit F 9) + b1 (hit F 10) + b1 (hit F 12) + b1 (hit F 17) + b1 (hit F 18) + b1 (hit F 20) + b1 (hit F 24) + b1 (hit F 33) + b1 (hit F 34) + b1 (hit F 36) + b1 (hit F 40) + b1 (hit F 48) := by
  have e : (sN 2).countP (hit F) = 0 + b1 (hit F 48) + b1 (hit F 40) + b1 (hit F 36) + b1 (hit F 34) + b1 (hit F 33) + b1 (hit F 24) + b1 (hit F 20) + b1 (hit F 18) + b1 (hit F 17) + b1 (hit F 12) + b1 (hit F 10) + b1 (hit F 9) + b1 (hit F 6) + b1 (hit F 5) + b1 (hit F 3) := by simp only [sN, List.countP_cons, List.countP_nil, ite_b1] <;> rfl
  rw [e]; lia
theorem cV (F : List Nat) : (sN 1).countP (hit F) = b1 (hit F 1) + b1 (hit F 2) + b1 (hit F 4) + b1 (hit F 8) + b1 (hit F 16) + b1 (hit F 32) := by
  have e : (sN 1).countP (hit F) = 0 + b1 (hit F 32) + b1 (hit F 16) + b1 (hit F 8) + b1 (hit F 4) + b1 (hit F 2) + b1 (hit F 1) := by simp only [sN, List.countP_cons, List.countP_nil, ite_b1] <;> rfl
  rw [e]; lia
theorem cT (F : List Nat) : (sN 3).countP (Q3 F) = t3 (hit F 3) (hit F 5) (hit F 6) + t3 (hit F 3) (hit F 9) (hit F 10) + t3 (hit F 5) (hit F 9) (hit F 12) + t3 (hit F 6) (hit F 10) (hit F 12) + t3 (hit F 3) (hit F 17) (hit F 18) + t3 (hit F 5) (hit F 17) (hit F 20) + t3 (hit F 6) (hit F 18) (hit F 20) + t3 (hit F 9) (hit F 17) (hit F 24) + t3 (hit F 10) (hit F 18) (hit F 24) + t3 (hit F 12) (hit F 20) (hit F 24) + t3 (hit F 3) (hit F 33) (hit F 34) + t3 (hit F 5) (hit F 33) (hit F 36) + t3 (hit F 6) (hit F 34) (hit F 36) + t3 (hit F 9) (hit F 33) (hit F 40) + t3 (hit F 10) (hit F 34) (hit F 40) + t3 (hit F 12) (hit F 36) (hit F 40) + t3 (hit F 17) (hit F 33) (hit F 48) + t3 (hit F 18) (hit F 34) (hit F 48) + t3 (hit F 20) (hit F 36) (hit F 48) + t3 (hit F 24) (hit F 40) (hit F 48) := by
  have e : (sN 3).countP (Q3 F) = 0 + t3 (hit F 24) (hit F 40) (hit F 48) + t3 (hit F 20) (hit F 36) (hit F 48) + t3 (hit F 18) (hit F 34) (hit F 48) + t3 (hit F 17) (hit F 33) (hit F 48) + t3 (hit F 12) (hit F 36) (hit F 40) + t3 (hit F 10) (hit F 34) (hit F 40) + t3 (hit F 9) (hit F 33) (hit F 40) + t3 (hit F 6) (hit F 34) (hit F 36) + t3 (hit F 5) (hit F 33) (hit F 36) + t3 (hit F 3) (hit F 33) (hit F 34) + t3 (hit F 12) (hit F 20) (hit F 24) + t3 (hit F 10) (hit F 18) (hit F 24) + t3 (hit F 9) (hit F 17) (hit F 24) + t3 (hit F 6) (hit F 18) (hit F 20) + t3 (hit F 5) (hit F 17) (hit F 20) + t3 (hit F 3) (hit F 17) (hit F 18) + t3 (hit F 6) (hit F 10) (hit F 12) + t3 (hit F 5) (hit F 9) (hit F 12) + t3 (hit F 3) (hit F 9) (hit F 10) + t3 (hit F 3) (hit F 5) (hit F 6) := by simp only [sN, List.countP_cons, List.countP_nil, ite_b1] <;> rfl
  rw [e]; lia
theorem cPr (F : List Nat) : (sN 2).countP (Q2 F) = t2 (hit F 1) (hit F 2) + t2 (hit F 1) (hit F 4) + t2 (hit F 2) (hit F 4) + t2 (hit F 1) (hit F 8) + t2 (hit F 2) (hit F 8) + t2 (hit F 4) (hit F 8) + t2 (hit F 1) (hit F 16) + t2 (hit F 2) (hit F 16) + t2 (hit F 4) (hit F 16) + t2 (hit F 8) (hit F 16) + t2 (hit F 1) (hit F 32) + t2 (hit F 2) (hit F 32) + t2 (hit F 4) (hit F 32) + t2 (hit F 8) (hit F 32) + t2 (hit F 16) (hit F 32) := by
  have e : (sN 2).countP (Q2 F) = 0 + t2 (hit F 16) (hit F 32) + t2 (hit F 8) (hit F 32) + t2 (hit F 4) (hit F 32) + t2 (hit F 2) (hit F 32) + t2 (hit F 1) (hit F 32) + t2 (hit F 8) (hit F 16) + t2 (hit F 4) (hit F 16) + t2 (hit F 2) (hit F 16) + t2 (hit F 1) (hit F 16) + t2 (hit F 4) (hit F 8) + t2 (hit F 2) (hit F 8) + t2 (hit F 1) (hit F 8) + t2 (hit F 2) (hit F 4) + t2 (hit F 1) (hit F 4) + t2 (hit F 1) (hit F 2) := by simp only [sN, List.countP_cons, List.countP_nil, ite_b1] <;> rfl
  rw [e]; lia
theorem q3_of {F : List Nat} {x : Nat} (hx : x ∈ sN 3) (h : hit F x = true) : Q3 F x = true := by
  simp only [sN, List.mem_cons, List.not_mem_nil, or_false] at hx
  rcases hx with rfl | rfl | rfl | rfl | rfl | rfl | rfl | rfl | rfl | rfl | rfl | rfl | rfl | rfl | rfl | rfl | rfl | rfl | rfl | rfl <;> simp only [Q3, Bool.and_eq_true] <;> exact ⟨⟨hit_sub h (by decide), hit_sub h (by decide)⟩, hit_sub h (by decide)⟩
theorem q2_of {F : List Nat} {x : Nat} (hx : x ∈ sN 2) (h : hit F x = true) : Q2 F x = true := by
  simp only [sN, List.mem_cons, List.not_mem_nil, or_false] at hx
  rcases hx with rfl | rfl | rfl | rfl | rfl | rfl | rfl | rfl | rfl | rfl | rfl | rfl | rfl | rfl | rfl <;> simp only [Q2, Bool.and_eq_true] <;> exact ⟨hit_sub h (by decide), hit_sub h (by decide)⟩
theorem kk31 {F : List Nat} (hF : F.Sublist (sN 3)) : d31 F.length ≤ (under (sN 2) F).length ∧ (under (sN 2) F).length < 16 := by
  have h1 := count_all hF (Q3 F) fun x hx => q3_of (hF.subset hx) (hit_self hx)
  have hT : (sN 3).countP (Q3 F) ≤ (sN 3).length := List.countP_le_length
  have h20 : (sN 3).length = 20 := rfl
  have hE : (sN 2).countP (hit F) ≤ (sN 2).length := List.countP_le_length
  have h15 : (sN 2).length = 15 := rfl
  rw [under_len]
  refine ⟨?_, by (exact Nat.lt_of_le_of_lt (by assumption) (by decide))⟩
  have k := kk3 (hit F 3) (hit F 5) (hit F 6) (hit F 9) (hit F 10) (hit F 12) (hit F 17) (hit F 18) (hit F 20) (hit F 24) (hit F 33) (hit F 34) (hit F 36) (hit F 40) (hit F 48)
  rw [← cT, ← cE] at k
  exact Nat.le_trans (mono31 _ (by first | decide | (exact Nat.lt_of_le_of_lt (by assumption) (by decide))) _ (by first | decide | lia) h1) k
theorem kkV {F : List Nat} {n : Nat} (h : n ≤ (sN 2).countP (Q2 F)) : d21 n ≤ (under (sN 1) F).length := by
  have hT : (sN 2).countP (Q2 F) ≤ (sN 2).length := List.countP_le_length
  have h15 : (sN 2).length = 15 := rfl
  rw [under_len]
  have k := kk2 (hit F 1) (hit F 2) (hit F 4) (hit F 8) (hit F 16) (hit F 32)
  rw [← cPr, ← cV] at k
  exact Nat.le_trans (mono21 _ (by first | decide | (exact Nat.lt_of_le_of_lt (by assumption) (by decide))) _ (by first | decide | lia) h) k
theorem kk32 {F : List Nat} (hF : F.Sublist (sN 3)) : d32 F.length ≤ (under (sN 1) F).length := by
  obtain ⟨k1, k2⟩ := kk31 hF
  have hm : F.length ≤ 20 := hF.length_le
  obtain ⟨d1, d2⟩ := d32_le F.length (by first | decide | (exact Nat.lt_of_le_of_lt (by assumption) (by decide)))
  refine Nat.le_trans d1 (Nat.le_trans (mono21 _ k2 _ d2 k1) (kkV ?_))
  rw [under_len]
  exact List.countP_mono_left fun x hx h => q2_of hx h
theorem kk21 {F : List Nat} (hF : F.Sublist (sN 2)) : d21 F.length ≤ (under (sN 1) F).length := kkV (count_all hF (Q2 F) fun x hx => q2_of (hF.subset hx) (hit_self hx))
theorem kk22 {F : List Nat} : (if F.length = 0 then 0 else 1) ≤ (under (sN 0) F).length := by
  cases F with
  | nil => exact Nat.zero_le _
  | cons o r =>
    have : under (sN 0) (o :: r) = [0] := by
      unfold under sN
      simp
    rw [this]; simp
end Mine

/-! part Fw18 -/
namespace Mine
theorem ks_canLayAll0 : ∀ ns : List Str, (∀ y ∈ ns, PyData.strOk y = true) → PyData.canLayAll0 (ns.map PyData.str) = true
  | [], _ => rfl
  | y :: r, h => by simp [PyData.canLayAll0, PyData.canLay0, ks_canLayAll0 r fun z hz => h z (.tail _ hz), h y (.head _)]
theorem ks_depthAll : ∀ ns : List Str, PyData.depthAll (ns.map PyData.str) = 0
  | [] => rfl
  | _ :: r => by simp [PyData.depthAll, PyData.depth, ks_depthAll r]
theorem ks_shaped (ns : List Str) (h : ∀ y ∈ ns, PyData.strOk y = true) : SeqAt.shaped (.list (ns.map PyData.str)) = true := by
  simp [SeqAt.shaped, PyData.canLay0, PyData.depth, ks_canLayAll0 ns h, ks_depthAll]
theorem ks_sameAll : ∀ ns : List Str, PySem.Spec.sameAll (ns.map PyData.str) (ns.map PyData.str) = true
  | [] => by simp [PySem.Spec.sameAll]
  | a :: r => by
    simp only [List.map_cons, PySem.Spec.sameAll, PySem.Spec.same, ks_sameAll r]
    simp
theorem ks_same (ns : List Str) : PySem.Spec.same (.list (ns.map PyData.str)) (.list (ns.map PyData.str)) = true := by
  simp only [PySem.Spec.same]; exact ks_sameAll ns
theorem zapart (N a b : Nat) (la : a < N) (lb : b < N) : ZipApart (N + 4) (N + 2) (N + 3) N (N + 1) a b := by constructor <;> (show (_ : Nat) ≠ _; lia)
theorem ne4 {N c : Nat} (h : c < N) : c ≠ N + 4 ∧ c ≠ N + 3 ∧ c ≠ N ∧ c ≠ N + 1 := by lia
section
variable {prog : Program} {w : World} {A : Around} {E : Value → Shared → Prop} {s : Shared} {h : Heap} {t : Nat} {env : Env} {B : Bas} {L : Addr} {vars : List (Str × Value)} {l lo fx : List (Addr × Obj)} {Q : Value → Shared → Prop} {use : Option (Value → Sem Unit)}
/-- two equal lists of texts -/
theorem nNeS {a b : Addr} {vs us : List Value} {xs : List Str} {n m : Nat} (ha : h.get? a = some (listOf vs.toArray n)) (hb : h.get? b = some (listOf us.toArray m)) (hi : StrsAre vs xs) (hj : StrsAre us xs) (hok : ∀ y ∈ xs, PyData.strOk y = true) (hu : A.units + 64 < cLine) (k : Q (.bool false) (sh s h t)) :
    wpAny (model prog w) A (compareOp .NotEq (.ref a) (.ref b)) Q E (sh s h t) :=
  ne_dataH_same (reads_newData (isL (h := (sh s h t).heap) ha) (lm_carried_strs hi)) (reads_newData (isL (h := (sh s h t).heap) hb) (lm_carried_strs hj)) (ks_shaped _ hok) (ks_shaped _ hok) hu (SeqAt.noMix_of_shape (.list .str) rfl _ _ (list_map_has fun _ => rfl) (list_map_has fun _ => rfl)) (by rw [ks_same]; exact k)
theorem nSum {a : Addr} {vs : List Value} {ns : List Int} {n : Nat} (hh : A.handled = none) (ha : h.get? a = some (listOf vs.toArray n)) (hi : IntsAre vs ns) (k : ∀ h' u v, Ext h h' → Q (.int ns.sum u) (sh s h' v)) :
    wpAny (model prog w) A (call (.builtin "sum") [.ref a]) Q E (sh s h t) := by
  obtain ⟨xs, e⟩ := hi.allInts.items
  have hs : preSum (numAt xs) xs.size = ns.sum := by
    rw [preSum_eq, ← nums_intItems, ← e, List.take_of_length_le]
    · rw [show vs.toArray.toList = vs from rfl, hi.numsOf]
    · rw [show vs.toArray.toList = vs from rfl, hi.numsOf, ← hi.length]
      have := congrArg Array.size e
      simp [intItems] at this
      lia
  refine sum_intListG (s := sh s h t) hh (e ▸ isL ha) fun h' tk t' hk => ?_
  rw [hs]
  exact k h' t' tk hk
/-- a comprehension over triples -/
theorem rCompT {elt iter : Expr} {elts : List Expr} {kk : Nat} {tp : Pos} {ifs : List Expr} {scope : Scope} {cl : List (Str × Addr)} {pos : Pos} {a : Addr} {tl : List (Addr × Obj)} {ts : List Trip} {na : Nat} (hh : A.handled = none)
    (J : Nat → List Value → List (Addr × Obj) → Prop) (S : St B L s.heap vars lo) (ha : s.heap.get? a = some (listOf (refs tl).toArray na)) (htg : ∀ p ∈ tl, s.heap.get? p.1 = some p.2) (ht : TripL tl ts) (hn : ts.length ≤ 1000) (h0 : J 0 [] []) (hcell : ∀ y ∈ scope.names, y.2 ≠ .cell) (hkind : scope.kind = .function)
    (turn : ∀ B' i x y z u v wt T acc l rest C h t E', (∀ b o, s.heap.get? b = some o → B' b = some o) → ts[i]? = some (x, y, z) → J i acc l → h.IsTuple T [.int x u, .int y v, .int z wt].toArray → St B' C h [] (l ++ rest) →
      ∀ (Kt : Value → Shared → Prop) (Kf : Shared → Prop), (∀ x h' t' l', J (i + 1) (acc ++ [x]) l' → St B' C h' [] (l' ++ rest) → Kt x (sh s h' t')) → (∀ h' t' l', J (i + 1) acc l' → St B' C h' [] (l' ++ rest) → Kf (sh s h' t')) → wpAny (model prog w) A (assign (.Tuple elts kk tp) (compEnvC scope cl C env) (.ref T)) (fun _ s₂ => wpAny (model prog w) A (tests ifs (compEnvC scope cl C env)) (fun ok s₃ =>
          if ok = true then wpAny (model prog w) A (eval elt (compEnvC scope cl C env)) Kt E' s₃ else Kf s₃) E' s₂) E' (sh s h t))
    (done : ∀ D C acc l h t n', J ts.length acc l → CEnd B L vars ((D, listOf acc.toArray n') :: (l ++ lo)) C h → compPost (model prog w) A E use Q (.ref D) C (.ok .next) (sh s h t)) :
    wpAny (model prog w) A (pyIter (.ref a)) (CompAt prog w A E env (.ListComp elt [⟨.Tuple elts kk tp, iter, ifs, 0⟩] scope pos) scope cl use Q) E s := by
  have hsz : (refs tl).toArray.size = ts.length := by rw [List.size_toArray, List.length_map, ht.length]
  refine wpAny_pyIter_list (isL ha) ?_
  have hI : a ≠ s.heap.objs.size := Nat.ne_of_lt (Heap.lt_size ha)
  refine comp_block (s := { s with heap := s.heap.push (itL a 0) }) (ob := [(s.heap.objs.size, itL a 0)]) (Itr.trips hh hI ht fun p hp => Nat.ne_of_lt (Heap.lt_size (htg p hp))) J (hsz ▸ hn) (fun b hb => ?_) rfl h0 (St.newIt (l := lo) (fx := []) (by rw [List.append_nil]; exact S)) ?_ hcell hkind
    (fun i v acc l rest C h t E' hi hJ hP S' => ?_) (fun D C acc l h t n' hJ a1 a2 a3 a4 a5 => done D C acc l h t n' (hsz ▸ hJ) ⟨a1, a2, a3, a4, a5⟩)
  · rcases List.mem_cons.mp hb with rfl | hb
    · exact ⟨_, Heap.get?_push_size _ rfl⟩
    · rcases List.mem_cons.mp hb with rfl | hb
      · exact ⟨_, Heap.get?_push_of_some _ ha⟩
      · obtain ⟨k, hk, rfl⟩ := List.mem_map.mp hb
        obtain ⟨p, hp, e⟩ := addrAt_mem (tl := tl) (j := k) (by simpa using List.mem_range.mp hk)
        exact ⟨_, Heap.get?_push_of_some _ (e ▸ htg p hp)⟩
  · refine ⟨⟨_, Heap.get?_push_size _ rfl, rfl, rfl⟩, (isL ha).push _, fun k hk => ?_⟩
    have hk' : k < tl.length := by simpa using hk
    obtain ⟨_, _, _, _, _, _, _, _, q⟩ := ht.vals hk'
    exact q _ (Heap.get?_push_of_some _ (htg _ (List.getElem_mem hk')))
  · obtain ⟨T, vals, rfl, rfl, hT⟩ := hP
    obtain ⟨x, y, z, u, v', w', e1, e2, _⟩ := ht.vals (j := i) (by simpa using hi)
    rw [e2] at hT
    refine turn _ i x y z u v' w' T acc l rest C h t E' (fun b o e => hid_some.mpr ⟨fun q => ?_, Heap.get?_push_of_some _ e⟩) e1 hJ hT S'
    have := Heap.lt_size e
    rw [List.mem_singleton.mp q] at this
    exact Nat.lt_irrefl _ this
/-- a comprehension over two lists zipped, from the call of zip on -/
theorem rCompZ {elt iter : Expr} {elts : List Expr} {kk : Nat} {tp : Pos} {ifs : List Expr} {scope : Scope} {cl : List (Str × Addr)} {pos : Pos} {a b : Addr} {xs ys : Array Value} {na nb : Nat} (hh : A.handled = none)
    (J : Nat → List Value → List (Addr × Obj) → Prop) (S : St B L s.heap vars lo) (ha : s.heap.get? a = some (listOf xs na)) (hb : s.heap.get? b = some (listOf ys nb)) (hn : min xs.size ys.size ≤ 1000) (h0 : J 0 [] []) (hcell : ∀ y ∈ scope.names, y.2 ≠ .cell) (hkind : scope.kind = .function)
    (turn : ∀ B' i x y T acc l rest C h t E', (∀ b o, s.heap.get? b = some o → B' b = some o) → xs[i]? = some x → ys[i]? = some y → J i acc l → h.IsTuple T [x, y].toArray → St B' C h [] (l ++ rest) →
      ∀ (Kt : Value → Shared → Prop) (Kf : Shared → Prop), (∀ x h' t' l', J (i + 1) (acc ++ [x]) l' → St B' C h' [] (l' ++ rest) → Kt x (sh s h' t')) → (∀ h' t' l', J (i + 1) acc l' → St B' C h' [] (l' ++ rest) → Kf (sh s h' t')) → wpAny (model prog w) A (assign (.Tuple elts kk tp) (compEnvC scope cl C env) (.ref T)) (fun _ s₂ => wpAny (model prog w) A (tests ifs (compEnvC scope cl C env)) (fun ok s₃ =>
          if ok = true then wpAny (model prog w) A (eval elt (compEnvC scope cl C env)) Kt E' s₃ else Kf s₃) E' s₂) E' (sh s h t))
    (done : ∀ D C acc l h t n', J (min xs.size ys.size) acc l → (∃ ti, CEnd B L vars ((D, listOf acc.toArray n') :: (l ++ (ti :: lo))) C h) → compPost (model prog w) A E use Q (.ref D) C (.ok .next) (sh s h t)) :
    wpAny (model prog w) A (call (.type "zip") [.ref a, .ref b]) (fun x s₁ => wpAny (model prog w) A (pyIter x) (CompAt prog w A E env (.ListComp elt [⟨.Tuple elts kk tp, iter, ifs, 0⟩] scope pos) scope cl use Q) E s₁) E s := by
  refine call_zip_2 (isL ha) (isL hb) fun h' hz hTI hTO h1 h2 hsz hk => ?_
  have hk : Ext s.heap h' := hk
  generalize hN : s.heap.objs.size = N at hz hTI hTO h1 h2 hsz
  have gone : ∀ j, N ≤ j → s.heap.get? j = none := fun j hj => gone_of_le (by rw [hN]; exact hj)
  have la : a < N := hN ▸ Heap.lt_size ha
  have lb : b < N := hN ▸ Heap.lt_size hb
  obtain ⟨o1, e1, q1⟩ := id h1
  obtain ⟨o2, e2, q2⟩ := id h2
  have S' := St.news (ob' := [(N + 2, { cls := .type "tuple", data := .seq #[.ref N, .ref (N + 1)] }), (N + 4, { cls := .type "zip", dict := none, data := .fields #[.none, .bool false, .bool false, .ref (N + 2), .ref (N + 3)], slots := #[] }), (N + 3, { cls := .type "tuple", data := .seq #[.none, .none] }), (N, o1), (N + 1, o2)]) S hk
    (fun p hp => by
      simp only [List.mem_cons, List.not_mem_nil, or_false] at hp
      rcases hp with rfl | rfl | rfl | rfl | rfl
      · exact hTI
      · exact hz
      · exact hTO
      · exact e1
      · exact e2)
    (fun p hp => by
      simp only [List.mem_cons, List.not_mem_nil, or_false] at hp
      rcases hp with rfl | rfl | rfl | rfl | rfl <;> exact gone _ (by show (_ : Nat) ≤ _; dsimp only; lia  )) (by simp)
  have D : ZipApart (N + 4) (N + 2) (N + 3) N (N + 1) a b := zapart N a b la lb
  have Sx := S'.perm (l' := ((N + 2, { cls := .type "tuple", data := .seq #[.ref N, .ref (N + 1)] }) :: lo) ++ [(N + 4, { cls := .type "zip", dict := none, data := .fields #[.none, .bool false, .bool false, .ref (N + 2), .ref (N + 3)], slots := #[] }), (N + 3, { cls := .type "tuple", data := .seq #[.none, .none] }), (N, o1), (N + 1, o2)])
    (.cons _ (List.perm_append_comm (l₁ := [_, _, _, _])))
  refine wpAny_pyIter_zip (TI := N + 2) (TO := N + 3) (f0 := .none) hz ?_
  refine comp_block (s := { s with heap := h' }) (ob := [(N + 4, _), (N + 3, _), (N, o1), (N + 1, o2)]) (Itr.ofU (WalksT.zip2 hh (N + 4) (N + 2) (N + 3) N (N + 1) a b D xs ys).toU fun i h z c hc => ?_) J hn (fun c hc => ?_) rfl h0 Sx ⟨hz, hTI, ⟨_, _, hTO⟩, h1, h2, isL (hk _ _ ha), isL (hk _ _ hb)⟩ hcell hkind
    (fun i v acc l rest C h t E' hi hJ hP S'' => ?_) (fun Dr C acc l h t n' hJ a1 a2 a3 a4 a5 => done Dr C acc l h t n' hJ ⟨_, a1, a2, a3, a4, a5⟩)
  · obtain ⟨z1, _, ⟨_, _, z3⟩, ⟨_, z4, _⟩, ⟨_, z5, _⟩, _⟩ := z
    simp only [List.mem_cons, List.not_mem_nil, or_false] at hc
    rcases hc with rfl | rfl | rfl | rfl
    · exact ⟨_, z1⟩
    · exact ⟨_, z3⟩
    · exact ⟨_, z4⟩
    · exact ⟨_, z5⟩
  · simp only [List.mem_cons, List.not_mem_nil, or_false] at hc
    rcases hc with rfl | rfl | rfl | rfl | rfl | rfl | rfl
    · exact ⟨_, hz⟩
    · exact ⟨_, hTI⟩
    · exact ⟨_, hTO⟩
    · exact ⟨_, e1⟩
    · exact ⟨_, e2⟩
    · exact ⟨_, hk _ _ ha⟩
    · exact ⟨_, hk _ _ hb⟩
  · obtain ⟨T, vals, rfl, ⟨x, y, hx, hy, rfl⟩, hT⟩ := hP
    refine turn _ i x y T acc l rest C h t E' (fun c o e => hid_some.mpr ⟨fun q => ?_, hk _ _ e⟩) hx hy hJ hT S''
    simp only [List.map_cons, List.map_nil, List.mem_cons, List.not_mem_nil, or_false] at q
    have hlt : c < N := hN ▸ Heap.lt_size e
    obtain ⟨n1, n2, n3, n4⟩ := ne4 hlt
    rcases q with q | q | q | q
    · exact n1 q
    · exact n2 q
    · exact n3 q
    · exact n4 q
end
section
variable {prog : Program} {w : World} {A : Around} {E : Value → Shared → Prop} {s : Shared} {env : Env} {B : Bas} {L : Addr} {vars : List (Str × Value)} {l fx : List (Addr × Obj)} {Q : Flow → Shared → Prop}
theorem rForU {target : Expr} {body orelse : List Stmt} {a : Addr} {its : Array Value} {x : Str} {px : Pos} (ht : target = .Name x px) (hh : A.handled = none) (J : Nat → List (Str × Value) → List (Addr × Obj) → Prop)
    (S : St B L s.heap vars (l ++ fx)) (ha : (a, tupO its) ∈ fx) (h0 : J 0 vars l)
    (turn : ∀ i v vars l rest h t E', its[i]? = some v → J i vars l → (∀ p ∈ fx, p ∈ rest) → St B L h vars (l ++ rest) →
      ∀ K : Flow → Shared → Prop, (∀ h' t' vars' l', J (i + 1) vars' l' → St B L h' vars' (l' ++ rest) → K .next (sh s h' t')) → (∀ s', Q .next s' → K .brk s') → (∀ v s', Q (.ret v) s' → K (.ret v) s') → wpAny (model prog w) A (assign target env v) (fun _ s₂ => wpAny (model prog w) A (execs body env) K E' s₂) E' (sh s h t))
    (done : ∀ vars l h t E', J its.size vars l → St B L h vars (l ++ fx) → wpAny (model prog w) A (execs orelse env) (fun f s₃ => Q f s₃) E' (sh s h t)) :
    wpAny (model prog w) A (pyIter (.ref a)) (ForAt prog w A E env target body orelse Q) E s := by
  subst ht
  have hget := S.own (a, tupO its) (List.mem_append_right _ ha)
  refine wpAny_pyIter_tuple (isT hget) ?_
  refine rForI (s := { s with heap := s.heap.push { cls := .type "tuple_iterator", data := .fields #[.ref a, .int 0 0] } }) (Itr.tuple hh s.heap.objs.size a (Nat.ne_of_lt (Heap.lt_size hget)) its) fx J (fun b hb => ?_) rfl h0 (S.newIt) ?_ (fun i v vars l rest h t E' hi hJ hr hP S => turn i v vars l rest h t E' hP hJ hr S) done
  · rcases List.mem_cons.mp hb with rfl | hb
    · exact .inl (.head _)
    · rw [List.mem_singleton.mp hb]
      exact .inr (.inl (List.mem_map_of_mem ha))
  · exact ⟨⟨_, Heap.get?_push_size _ rfl, rfl, rfl⟩, (by obtain ⟨o, e, r⟩ := isT hget; exact ⟨o, Heap.get?_push_of_some _ e, r⟩)⟩
end
end Mine

/-! part Lw0 -/
namespace Mine
theorem cs_facts {size : Nat} (hs : size = 2 ∨ size = 3) {F : List Nat} (hF : F.Sublist (sN size)) {i : Nat} (hi : i < 2) :
    (∀ t ∈ csAt size F.length i, okT t) ∧ (csAt size F.length i).length ≤ 3 ∧ (csAt size F.length (i + 1)).length ≤ 3 ∧
    ∃ d : Nat, dueAt size F.length (i + 1) = (d : Int) ∧ d ≤ (tk size F (i + 1)).length ∧ under (sN (size - (i + 1))) ((sN size).take F.length) = (sN (size - (i + 1))).take d := by
  have hl := hF.length_le
  rcases hs with rfl | rfl
  · have h15 : (sN 2).length = 15 := rfl
    have c := cs2_ok F.length (by first | decide | (exact Nat.lt_of_le_of_lt (by assumption) (by decide)))
    unfold cs2 at c
    simp only [Bool.and_eq_true, decide_eq_true_eq, beq_iff_eq] at c
    obtain ⟨⟨⟨⟨⟨⟨⟨⟨⟨⟨a1, a2⟩, a3⟩, a4⟩, a5⟩, a6⟩, a7⟩, a8⟩, a9⟩, _⟩, _⟩ := c
    match i, hi with
    | 0, _ => exact ⟨a1, a3, a4, d21 F.length, a6, kk21 hF, a8⟩
    | 1, _ => exact ⟨a2, a4, a5, _, a7, kk22, a9⟩
  · have h20 : (sN 3).length = 20 := rfl
    have c := cs3_ok F.length (by first | decide | (exact Nat.lt_of_le_of_lt (by assumption) (by decide)))
    unfold cs3 at c
    simp only [Bool.and_eq_true, decide_eq_true_eq, beq_iff_eq] at c
    obtain ⟨⟨⟨⟨⟨⟨⟨⟨⟨⟨a1, a2⟩, a3⟩, a4⟩, a5⟩, a6⟩, a7⟩, a8⟩, a9⟩, _⟩, _⟩ := c
    match i, hi with
    | 0, _ => exact ⟨a1, a3, a4, d31 F.length, a6, (kk31 hF).1, a8⟩
    | 1, _ => exact ⟨a2, a4, a5, d32 F.length, a7, kk32 hF, a9⟩
theorem tk_in {size : Nat} (hs : size = 2 ∨ size = 3) {F : List Nat} (hF : F.Sublist (sN size)) {i : Nat} (hi : i < 2) : ∀ x ∈ tk size F i, 0 < x ∧ x < 64 := fun x hx => by
  have h : x ∈ sN (size - i) := by
    match i, hi with
    | 0, _ => exact hF.subset hx
    | 1, _ => exact (under_mem.mp hx).1
  obtain ⟨k0, hk0⟩ : ∃ k0, size - i = k0 + 1 := ⟨size - i - 1, by lia⟩
  rw [hk0] at h
  exact ⟨sN_pos k0 (by first | decide | lia) x h, sN_lt (k0 + 1) (by first | decide | lia) x h⟩
theorem sN_len20 : ∀ k, k < 4 → (sN k).length ≤ 20 := by decide
theorem tk_len {size : Nat} (hs : size = 2 ∨ size = 3) {F : List Nat} (hF : F.Sublist (sN size)) (i : Nat) : (tk size F i).length ≤ 20 := by
  cases i with
  | zero => exact Nat.le_trans hF.length_le (sN_len20 size (by first | decide | lia))
  | succ i =>
    refine Nat.le_trans (List.length_filter_le ..) (sN_len20 (size - (i + 1)) (by first | decide | omega))
theorem pfx {α : Type} (a b d : α) (x y z : List α) : (a :: b :: ((d :: (x ++ y)) ++ z)).Perm ((d :: (x ++ z)) ++ (a :: b :: y)) := by
  have h1 : ((d :: (x ++ z)) ++ (a :: b :: y)).Perm ((a :: b :: y) ++ (d :: (x ++ z))) := List.perm_append_comm
  refine List.Perm.trans ?_ h1.symm
  show (a :: b :: d :: ((x ++ y) ++ z)).Perm (a :: b :: (y ++ d :: (x ++ z)))
  refine .cons _ (.cons _ ?_)
  refine List.Perm.trans (.cons _ ?_) List.perm_middle.symm
  rw [List.append_assoc]
  exact List.perm_append_comm_assoc ..
end Mine

/-! part LwH -/
namespace Mine
def bodyAt (K : Frag) (a : Addr) : Option (List Stmt × Scope) := match K.lookup a with
  | some ⟨_, _, .func fd, _⟩ => (match fd.body with | .stmts b => some (b, fd.scope) | _ => none)
  | _ => none
theorem ListsL.pick {il : List (Addr × Obj)} (h : ListsL il (byS 64)) (k : Nat) (hk : k < 4) : ∃ T vs n, (refs il)[k]? = some (.ref T) ∧ (T, listOf vs.toArray n) ∈ il ∧ IntsAre vs (toI (sN k)) := by
  obtain ⟨pre, T, vs, m, post, rfl, hp, hv, _⟩ := h.split k (by rw [byS_len]; (exact Nat.lt_of_lt_of_le (by assumption) (by decide)))
  rw [byS64 k hk] at hv
  exact ⟨T, vs, m, by subst hp; simp [refs], by simp, hv⟩
theorem sN_len : (sN 2).length = 15 ∧ (sN 3).length = 20 := ⟨rfl, rfl⟩
def takenZ (size drawn j : Nat) : List Nat := ((((sN size).zip (digs 1 drawn (nd 1 drawn))).take j).filter fun p => p.2 == 1).map (·.1)
theorem taken_sub (size drawn j : Nat) : (takenZ size drawn j).Sublist (sN size) := by
  unfold takenZ
  refine List.Sublist.trans (List.Sublist.map _ (List.filter_sublist.trans (List.take_sublist ..))) ?_
  have h : ∀ (xs : List Nat) (ys : List Int), ((xs.zip ys).map (·.1)).Sublist xs := fun xs => by
    induction xs with
    | nil => intro ys; simp
    | cons x r ih =>
      intro ys
      cases ys with
      | nil => simp
      | cons y t => simpa using ih t
  exact h _ _
theorem bit_one (x j : Nat) : Builtin.bitAnd ((x / 2 ^ j : Nat) : Int) 1 = ((x / 2 ^ (1 * j) % 2 ^ 1 : Nat) : Int) := by
  have e : (1 : Int) = ((1 : Nat) : Int) := rfl
  rw [e, bitAnd_pp (Int.natCast_nonneg _) (Int.natCast_nonneg _), Int.toNat_natCast, Int.toNat_natCast, Nat.one_mul, Nat.pow_one, Nat.and_one_is_mod]
theorem digs_succ (n x j : Nat) : digs n x (j + 1) = digs n x j ++ [((x / 2 ^ (n * j) % 2 ^ n : Nat) : Int)] := by
  unfold digs
  rw [List.range_succ, List.map_append]; rfl
theorem nd_one (x : Nat) : nd 1 x = bl x := by unfold nd; simp
theorem flag_ok : ∀ i, i < 13 → PyData.strOk (flagName i) = true := by decide +kernel
theorem pcas {α : Type} (D : α) (tl t A u : List α) : ((D :: (tl ++ t)) ++ (A ++ u)).Perm ((D :: (tl ++ A)) ++ (t ++ u)) := by
  have e1 : (D :: (tl ++ t)) ++ (A ++ u) = D :: (tl ++ (t ++ (A ++ u))) := by simp
  have e2 : (D :: (tl ++ A)) ++ (t ++ u) = D :: (tl ++ (A ++ (t ++ u))) := by simp
  rw [e1, e2]
  exact .cons _ (List.Perm.append_left tl (List.perm_append_comm_assoc ..))
theorem taken_step {size drawn i x : Nat} {f : Int} (h1 : (sN size)[i]? = some x) (h2 : (digs 1 drawn (nd 1 drawn))[i]? = some f) : takenZ size drawn (i + 1) = takenZ size drawn i ++ if f == 1 then [x] else [] := by
  unfold takenZ
  have h : ((sN size).zip (digs 1 drawn (nd 1 drawn)))[i]? = some (x, f) := List.getElem?_zip_eq_some.mpr ⟨h1, h2⟩
  rw [filter_take_succ _ h, List.map_append]
  congr 1
  cases hf : f == 1 <;> simp [hf]
set_option maxHeartbeats 8000000
section
variable {prog : Program} {w : World} {mg mb : Str → Option Value} {A : Around} {E : Value → Shared → Prop} {s : Shared} {Q : Flow → Shared → Prop}
theorem nSl3 {Q : Value → Shared → Prop} {h : Heap} {tk0 : Nat} {env : Env} {e2 : Expr} {p : Pos} (H : wpAny (model prog w) A (eval e2 env) (fun u s₂ => ∃ h' t', s₂ = sh s h' t' ∧ Q (.ref h'.objs.size) (sh s (h'.push { cls := .type "slice", data := .fields #[.none, .none, u] }) t')) E (sh s h tk0)) :
    wpAny (model prog w) A (eval (.Slice none none (some e2) p) env) Q E (sh s h tk0) :=
  wpAny_Slice (wpAny_pure (wpAny_pure (wpAny_mono H (fun u s₂ ⟨h', t', e, q⟩ => by subst e; exact q) fun _ _ x => x)))
theorem nItemA {Q : Value → Shared → Prop} {h : Heap} {t : Nat} {value slice : Expr} {a : Addr} {vs : List Value} {n : Nat} {k : Int} {u : Tok} {x : Value} (ha : h.get? a = some (listOf vs.toArray n)) (h0 : 0 ≤ k) (h1 : k < 100000) (hx : vs[k.toNat]? = some x) (H : Q x (sh s h t))
    (hs : subscripted slice false (.ref a) (.int k u) = operate [.ref a, .int k u] (getItem (.ref a) (.int k u)) := by with_unfolding_all rfl) :
    wpAny (model prog w) A (subscriptTail value slice (.ref a) (.int k u)) Q E (sh s h t) :=
  tail_any (isL (h := (sh s h t).heap) ha).typeIs slot_list_getitem.lookup (wpAny_getItem_list (isL (h := (sh s h t).heap) ha) h0 (by first | decide | lia) (by simpa using hx) H) hs
theorem nSliceA {Q : Value → Shared → Prop} {h : Heap} {t : Nat} {B : Bas} {L : Addr} {vars : List (Str × Value)} {l : List (Addr × Obj)} {value slice : Expr} {a : Addr} {its : Array Value} {n : Nat} {vl vu : Value} {lo hi : Option Int} (S : St B L h vars l) (ha : h.get? a = some (listOf its n)) (pl : IsPart vl lo) (pu : IsPart vu hi) (hz : its.size ≤ 1000)
    (k : ∀ D h', St B L h' vars ((D, listOf (slicePick its lo hi none) 0) :: l) → Q (.ref D) (sh s h' t))
    (hs : subscripted slice false (.ref a) (.ref h.objs.size) = operate [.ref h.objs.size, .ref a] (getItem (.ref a) (.ref h.objs.size)) := by with_unfolding_all rfl) :
    wpAny (model prog w) A (subscriptTail value slice (.ref a) (.ref h.objs.size)) Q E (sh s (h.push { cls := .type "slice", data := .fields #[vl, vu, .none] }) t) := by
  have S1 := S.push (o := { cls := .type "slice", data := .fields #[vl, vu, .none] }) rfl
  refine tail_any (s := sh s (h.push { cls := .type "slice", data := .fields #[vl, vu, .none] }) t) (Heap.IsList.typeIs (s := sh s (h.push { cls := .type "slice", data := .fields #[vl, vu, .none] }) t) ((isL ha).push _)) list_getitem_lookup
    (wpAny_getItem_list_slice (s := sh s (h.push { cls := .type "slice", data := .fields #[vl, vu, .none] }) t) ((isL ha).push _) (Heap.IsSliceOf.new ..) pl pu .none (by simp) ?_ (by rw [sizeLine_eq]; (exact Nat.le_trans (by assumption) (by decide)))) hs
  exact k _ _ ((S1.push (o := listOf (slicePick its lo hi none) 0) rfl).drop2)
end
end Mine

/-! part LawE -/
namespace Mine
set_option maxHeartbeats 8000000
section
variable {prog : Program} {w : World} {mg mb : Str → Option Value} {A : Around} {E : Value → Shared → Prop} {s : Shared} {Q : Flow → Shared → Prop}
/-- the law's last part: what lies below, twice -/
theorem law_end {B : Bas} {L fa : Addr} {cd : Value} {h : Heap} {t : Nat} {body : List Stmt} {scope : Scope} {size base : Nat} {us : Tok} {Ds Dt Dq : Addr} {il AA tl t5 t6 : List (Addr × Obj)} {ms nt mq : Nat} {oB : Obj} {ub : Tok} {at_ : List Value} {F : List Nat}
    (hb : (bodyAt (hd.heap_39 w.params) 137).map (fun p => (p.1.drop 9, p.2)) = some (body, scope))
    (hs : size = 2 ∨ size = 3) (hbase : base < 8) (hL : ListsL il (byS 64)) (rm : Room A 14 200) (X : Bs w mg mb B)
    (S : St B L h [("cascade", .ref Dq), ("taken", .ref Dt), ("size", .int (size : Nat) us), ("sets", .ref Ds)] (((Dq, listOf (refs tl).toArray mq) :: (tl ++ AA)) ++ (t5 ++ t6))) (T5 : T57 t5) (T6 : T64 t6)
    (m1 : (Ds, listOf (refs il).toArray ms) ∈ AA) (m2 : ∀ p ∈ il, p ∈ AA) (m3 : (L + 1, oB) ∈ AA) (m4 : (Dt, listOf at_.toArray nt) ∈ AA) (hoB : oB.data = .cell (some (.int (base : Nat) ub))) (hat : IntsAre at_ (toI F)) (hF : F.Sublist (sN size))
    (htl : TripL tl (casc size F.length))
    (k : ∀ vars A' t5' t6' h' u, T57 t5' → T64 t6' → St B L h' vars (A' ++ (t5' ++ t6')) → Q (.ret (.bool true)) (sh s h' u)) :
    wpAny (model prog w) A (execs body (envOfC "law" scope L fa cd)) Q E (sh s h t) := by
  have hb' := Option.some.inj (hb.symm.trans (rfl : (bodyAt (hd.heap_39 w.params) 137).map (fun p => (p.1.drop 9, p.2)) = some _))
  cases hb'
  have hN : (sN size).length ≤ 20 := sN_len20 size (by first | decide | lia)
  have hFN : F.length ≤ (sN size).length := hF.length_le
  have hatl : at_.length = F.length := by rw [hat.length, List.length_map]
  obtain ⟨Tk, vk, nk, hk1, hk2, hk3⟩ := hL.pick size (by first | decide | lia)
  have hvk : vk.length = (sN size).length := by rw [hk3.length, List.length_map]
  have hk2 := m2 _ hk2
  have hin : ∀ {p}, p ∈ AA → p ∈ ((Dq, listOf (refs tl).toArray mq) :: (tl ++ AA)) ++ (t5 ++ t6) := fun hp => by simp [hp]
  refine wpAny_execs_cons (wpAny_Assign_Name ?_)
  refine Subscript_ (Subscript_ (rLoc (s := sh s h _) S rfl ?_))
  refine rLoc (s := sh s h _) S rfl ?_
  refine nItem (S.own (Ds, listOf (refs il).toArray ms) (hin m1)) (by first | decide | lia) (by first | decide | lia) (by rw [Int.toNat_natCast]; exact hk1) ?_
  refine nSlU ?_
  refine rCallB (s := sh s h _) S X (n_len _) boot_len ?_
  refine wpAny_items_cons (rLoc (s := sh s h _) S rfl ?_)
  refine wpAny_items_nil ?_
  refine nLen (S.own (Dt, listOf at_.toArray nt) (hin m4)) (by rw [List.size_toArray]; lia) fun _ _ => ⟨_, _, rfl, ?_⟩
  refine nSliceA S (S.own (Tk, listOf vk.toArray nk) (hin hk2)) .none (.int _ _) (by rw [List.size_toArray]; lia) fun Df h₁ S => ?_
  rw [slicePick_upto', List.size_toArray, hatl] at S
  have hfi : IntsAre (vk.take F.length) (toI ((sN size).take F.length)) := by
    have := ints_take hk3 F.length
    rw [toI, ← List.map_take] at this; exact this
  refine nSt S fun h₂ _ S => ?_
  refine wpAny_execs_cons (wpAny_Assign_Name ?_)
  refine rLoc (s := sh s h₂ _) S rfl ?_
  refine nSt S fun h₃ _ S => ?_
  refine wpAny_execs_cons (wpAny_For ?_)
  refine nTup ?_
  refine wpAny_items_cons (nInt fun u₁ _ => ?_)
  refine wpAny_items_cons (nInt fun u₂ t₄ => ?_)
  refine wpAny_items_nil ⟨_, _, _, _, _, _, rfl, S, by show 2 ≤ 1000; decide, fun Tt h₄ S => ?_⟩
  have S := (S.perm (pfx _ _ _ tl AA (t5 ++ t6))).lets (vars' := [("below", .ref Dt), ("cascade", .ref Dq), ("taken", .ref Dt), ("firsts", .ref Df), ("sets", .ref Ds), ("size", .int (size : Nat) us)]) ⟨rfl, rfl, rfl, rfl, rfl, rfl, trivial⟩
  refine rForU (s := sh s h₄ t₄) (its := [.int 1 u₁, .int 2 u₂].toArray) (l := (Dq, listOf (refs tl).toArray mq) :: (tl ++ (t5 ++ t6))) (fx := (Tt, tupO [.int 1 u₁, .int 2 u₂].toArray) :: (Df, listOf (vk.take F.length).toArray 0) :: AA) rfl rm.hh
    (fun i vars l => ∃ (X : List (Addr × Obj)) (Db : Addr) (bs : List Value) (mb : Nat) (Dq : Addr) (tl : List (Addr × Obj)) (mq : Nat) (t5 t6 : List (Addr × Obj)), vars = ([("below", .ref Db), ("cascade", .ref Dq), ("taken", .ref Dt), ("firsts", .ref Df), ("sets", .ref Ds), ("size", .int (size : Nat) us)] : List (Str × Value)) ∧ l = X ++ ((Dq, listOf (refs tl).toArray mq) :: (tl ++ (t5 ++ t6))) ∧
      ((Db, listOf bs.toArray mb) ∈ X ∨ (Db, listOf bs.toArray mb) ∈ AA) ∧ IntsAre bs (toI (tk size F i)) ∧ TripL tl (csAt size F.length i) ∧ T57 t5 ∧ T64 t6)
    S (.head _) ⟨[], Dt, at_, nt, Dq, tl, mq, t5, t6, rfl, rfl, .inr m4, hat, htl, T5, T6⟩ ?_ ?_
  · rintro i v _ _ rest hT tT E' hv ⟨XX, Db, bs, mb', Dq, tl, mq, t5, t6, rfl, rfl, hDb, hbs, htl, T5, T6⟩ hfx S Kk hKk hBk hVk
    have hi2 : i < 2 := by
      have := (Array.getElem?_eq_some_iff.mp hv).1
      simpa using this
    obtain ⟨uv, rfl⟩ : ∃ uv, v = .int ((i + 1 : Nat) : Int) uv := by
      match i, hi2 with
      | 0, _ => exact ⟨u₁, (Option.some.inj hv).symm⟩
      | 1, _ => exact ⟨u₂, (Option.some.inj hv).symm⟩
    obtain ⟨c1, c2, c3, dn, c4, c5, c6⟩ := cs_facts hs hF hi2
    have htk := tk_in hs hF hi2
    have htkl := tk_len hs hF i
    have htkl' := tk_len hs hF (i + 1)
    have hA : ∀ {p}, p ∈ AA → p ∈ rest := fun hp => hfx _ (.tail _ (.tail _ hp))
    have hDf : (Df, listOf (vk.take F.length).toArray 0) ∈ rest := hfx _ (.tail _ (.head _))
    have hDbm : (Db, listOf bs.toArray mb') ∈ (XX ++ ((Dq, listOf (refs tl).toArray mq) :: (tl ++ (t5 ++ t6)))) ++ rest := by
      rcases hDb with q | q
      · simp [q]
      · exact List.mem_append_right _ (hA q)
    obtain ⟨Tw, vw, nw, hw1, hw2, hw3⟩ := hL.pick (size - (i + 1)) (by first | decide | omega)
    have hw2 := hA (m2 _ hw2)
    have hvw : vw.length ≤ 20 := by rw [hw3.length, List.length_map]; exact sN_len20 _ (by first | decide | omega)
    refine wpAny_assign_Name (nSt S fun h₅ _ S => ?_)
    refine wpAny_execs_cons (wpAny_Assign_Name ?_)
    refine rCall (s := sh (sh s h₄ t₄) h₅ _) S X (g_law_below _) (keep_of _ (by decide)) ?_
    refine wpAny_items_cons (rLoc (s := sh (sh s h₄ t₄) h₅ _) S rfl ?_)
    refine wpAny_items_cons (rCell (s := sh (sh s h₄ t₄) h₅ _) (c := L + 1) rfl (S.own (L + 1, oB) (List.mem_append_right _ (hA m3))) hoB ?_)
    refine wpAny_items_nil ⟨X.at S.keep, ?_⟩
    refine below_at (s := sh (sh s h₄ t₄) h₅ _) (S.bsM (ob := []) X) (rm.less (by first | decide | omega) (by first | decide | omega)) (S.own _ hDbm) hbs htk (by first | decide | (exact Nat.le_trans (by assumption) (by decide))) hbase fun D' bs' ys m' h₆ t₆ hbs' hB hn0 hn1 ex => ?_
    have S := S.new1 ex hn1 hn0
    have hys := below_is hs (fun x hx => hF.subset hx) hi2 hB
    subst hys
    refine nSt (s := sh s h₄ t₄) S fun h₇ t₇ S => ?_
    have hpr : ∀ {p : Addr × Obj}, p ∈ rest → p ∈ (D', listOf bs'.toArray m') :: ((XX ++ ((Dq, listOf (refs tl).toArray mq) :: (tl ++ (t5 ++ t6)))) ++ rest) := fun hp => .tail _ (List.mem_append_right _ hp)
    refine wpAny_execs_cons (wpAny_If (wpAny_isTrue_Compare1 ?_))
    refine rLoc (s := sh (sh s h₄ t₄) h₇ _) S rfl ?_
    refine rCall (s := sh (sh s h₄ t₄) h₇ _) S X (g_law_within _) (keep_of _ (by decide)) ?_
    refine wpAny_items_cons (Subscript_ (rLoc (s := sh (sh s h₄ t₄) h₇ _) S rfl ?_))
    refine wpAny_BinOp (rLoc (s := sh (sh s h₄ t₄) h₇ _) S rfl ?_)
    refine rLoc (s := sh (sh s h₄ t₄) h₇ _) S rfl ?_
    refine nSub (c := ((size - (i + 1) : Nat) : Int)) (by first | decide | lia) fun _ _ => ?_
    refine nItem (S.own (Ds, listOf (refs il).toArray ms) (hpr (hA m1))) (by first | decide | lia) (by first | decide | lia) (by rw [Int.toNat_natCast]; exact hw1) ?_
    refine wpAny_items_cons (rLoc (s := sh (sh s h₄ t₄) h₇ _) S rfl ?_)
    refine wpAny_items_nil ⟨X.at S.keep, ?_⟩
    refine within_at (s := sh (sh s h₄ t₄) h₇ _) (S.bsM (ob := []) X) (rm.less (by first | decide | omega) (by first | decide | omega)) (S.own (Tw, _) (hpr hw2)) hw3 (S.own (Dt, _) (hpr (hA m4))) hat (by rw [← hw3.length]; (exact Nat.le_trans (by assumption) (by decide))) (by rw [← hat.length]; lia) fun Dw rs nr h₈ t₈ hrs hr0 hr1 ex => ?_
    have S := S.new1 ex hr1 hr0
    rw [within_is] at hrs
    refine nNeI (s := sh s h₄ t₄) (S.own (D', _) (.tail _ (.head _))) S.get hbs' hrs (rm.ul (by decide)) ?_
    refine wpAny_truthy_bool (ifB (fun q => absurd q (by show ¬ (!decide (toI (tk size F (i + 1)) = toI (tk size F (i + 1)))) = true; simp)) fun _ => ?_)
    refine wpAny_execs_nil ?_
    have S := S.drop1.perm (l' := (t5 ++ t6) ++ (((D', listOf bs'.toArray m') :: (XX ++ (Dq, listOf (refs tl).toArray mq) :: tl)) ++ rest)) (by
      have e : (D', listOf bs'.toArray m') :: ((XX ++ ((Dq, listOf (refs tl).toArray mq) :: (tl ++ (t5 ++ t6)))) ++ rest) = ((D', listOf bs'.toArray m') :: (XX ++ (Dq, listOf (refs tl).toArray mq) :: tl)) ++ ((t5 ++ t6) ++ rest) := by simp
      rw [e]
      exact List.perm_append_comm_assoc ..)
    refine wpAny_execs_cons (wpAny_Assign_Name ?_)
    refine rCall (s := sh (sh s h₄ t₄) h₈ _) S X (g_law_cast _) (keep_of _ (by decide)) ?_
    refine wpAny_items_cons (rLoc (s := sh (sh s h₄ t₄) h₈ _) S rfl ?_)
    refine wpAny_items_nil ⟨X.at S.keep, ?_⟩
    refine cast_at (s := sh (sh s h₄ t₄) h₈ _) (S.bsM X) (rm.less (by first | decide | omega) (by first | decide | omega)) T5 T6 S.pre (S.hidOwn (a := Dq) (o := listOf (refs tl).toArray mq) (by simp)) (fun p hp => S.hidOwn (a := p.1) (o := p.2) (by simp [hp])) htl (by first | decide | (exact Nat.le_trans (by assumption) (by decide))) c1 fun Dn tl' mn t5' t6' h₉ t₉ htl' T5 T6 R => ?_
    have S := S.ret R
    have S := S.perm (l' := (((D', listOf bs'.toArray m') :: (XX ++ (Dq, listOf (refs tl).toArray mq) :: tl)) ++ ((Dn, listOf (refs tl').toArray mn) :: (tl' ++ (t5' ++ t6')))) ++ rest) (by
      rw [List.append_assoc ((D', listOf bs'.toArray m') :: (XX ++ (Dq, listOf (refs tl).toArray mq) :: tl))]
      exact List.perm_append_comm_assoc ..)
    have htl' : TripL tl' (csAt size F.length (i + 1)) := htl'
    refine nSt (s := sh s h₄ t₄) S fun h₁₀ t₁₀ S => ?_
    refine wpAny_execs_cons (wpAny_If (wpAny_isTrue_Compare1 ?_))
    refine rLoc (s := sh (sh s h₄ t₄) h₁₀ _) S rfl ?_
    refine wpAny_Constant_none ?_
    refine is_none (wpAny_truthy_bool ?_)
    show wpAny _ _ _ _ _ _
    refine wpAny_execs_nil ?_
    refine wpAny_execs_cons (wpAny_Assign_Name ?_)
    refine rCallB (s := sh (sh s h₄ t₄) h₁₀ _) S X (n_sum _) boot_sum ?_
    refine wpAny_items_cons ?_
    refine rLC (cl := []) rfl rfl (by decide) ?_
    refine rLoc (s := sh (sh s h₄ t₄) h₁₀ _) S rfl ?_
    refine rCompT (s := sh (sh s h₄ t₄) h₁₀ t₁₀) rm.hh (fun j acc l => l = [] ∧ IntsAre acc (((csAt size F.length (i + 1)).take j).map fun t : Trip => t.2.2)) S (S.own (Dn, listOf (refs tl').toArray mn) (by simp)) (fun p hp => S.own p (by simp [hp])) htl' (by first | decide | (exact Nat.le_trans (by assumption) (by decide))) ⟨rfl, .nil⟩ (by decide) rfl ?_ ?_
    · rintro B' j x1 y1 z1 u v wt T acc _ rest₂ C h t E₂ kB hti ⟨rfl, hacc⟩ hT S' Kt Kf hTt hFf
      refine nUnp (vs := [_, _, _]) rm.hh hT rfl rfl fun h' ex => ?_
      have S' := S'.ext ex
      refine aio_cons (wpAny_assign_Name (nSt S' fun h' _ S' => ?_))
      refine aio_cons (wpAny_assign_Name (nSt S' fun h' _ S' => ?_))
      refine aio_cons (wpAny_assign_Name (nSt S' fun h' _ S' => ?_))
      refine aio_nil ?_
      refine wpAny_tests_nil ?_
      show wpAny _ _ _ _ _ _
      refine rLoc (s := sh (sh (sh s h₄ t₄) h₁₀ t₁₀) h' _) S' rfl ?_
      refine hTt _ h' _ [] ⟨rfl, ?_⟩ (S'.lets trivial)
      rw [take_snoc hti, List.map_append]
      exact ints_snoc hacc _ _
    · rintro Dx C acc _ h t nx ⟨rfl, hacc⟩ F'
      rw [List.take_length] at hacc
      refine F'.post fun h₁₁ S => ?_
      refine wpAny_items_nil ?_
      refine nSum (s := sh s h₄ t₄) rm.hh S.get hacc fun h₁₂ ud _ ex => ?_
      have S := (S.ext ex).drop1
      have hdue : ((csAt size F.length (i + 1)).map fun t : Trip => t.2.2).sum = (dn : Int) := c4
      rw [hdue]
      refine nSt (s := sh s h₄ t₄) S fun h₁₃ t₁₃ S => ?_
      have S := S.lets (vars' := [("due", .int (dn : Int) ud), ("less", .int ((i + 1 : Nat) : Int) uv), ("below", .ref D'), ("cascade", .ref Dn), ("taken", .ref Dt), ("firsts", .ref Df), ("sets", .ref Ds), ("size", .int (size : Nat) us)]) ⟨rfl, rfl, rfl, rfl, rfl, rfl, rfl, rfl, trivial⟩
      have hpr : ∀ {p : Addr × Obj}, p ∈ rest → p ∈ (((D', listOf bs'.toArray m') :: (XX ++ (Dq, listOf (refs tl).toArray mq) :: tl)) ++ ((Dn, listOf (refs tl').toArray mn) :: (tl' ++ (t5' ++ t6')))) ++ rest := fun hp => List.mem_append_right _ hp
      have hbl' : bs'.length = (tk size F (i + 1)).length := by rw [hbs'.length, List.length_map]
      refine wpAny_execs_cons (wpAny_If (wpAny_isTrue_BoolOp (wpAny_allTrue_Or_cons (wpAny_isTrue_Compare1 ?_))))
      refine rLoc (s := sh (sh s h₄ t₄) h₁₃ _) S rfl ?_
      refine rCallB (s := sh (sh s h₄ t₄) h₁₃ _) S X (n_len _) boot_len ?_
      refine wpAny_items_cons (rLoc (s := sh (sh s h₄ t₄) h₁₃ _) S rfl ?_)
      refine wpAny_items_nil ?_
      refine nLen (s := sh s h₄ t₄) (S.own (D', listOf bs'.toArray m') (by simp)) (by rw [List.size_toArray]; omega) fun _ _ => ?_
      refine gt_int (wpAny_truthy_bool (ifF (by rw [List.size_toArray]; omega) ?_))
      refine wpAny_allTrue_Or_cons (wpAny_isTrue_Compare1 ?_)
      refine rCall (s := sh (sh s h₄ t₄) h₁₃ _) S X (g_law_within _) (keep_of _ (by decide)) ?_
      refine wpAny_items_cons (Subscript_ (rLoc (s := sh (sh s h₄ t₄) h₁₃ _) S rfl ?_))
      refine wpAny_BinOp (rLoc (s := sh (sh s h₄ t₄) h₁₃ _) S rfl ?_)
      refine rLoc (s := sh (sh s h₄ t₄) h₁₃ _) S rfl ?_
      refine nSub (c := ((size - (i + 1) : Nat) : Int)) (by first | decide | omega) fun _ _ => ?_
      refine nItem (S.own (Ds, listOf (refs il).toArray ms) (hpr (hA m1))) (by first | decide | omega) (by first | decide | omega) (by rw [Int.toNat_natCast]; exact hw1) ?_
      refine wpAny_items_cons (rLoc (s := sh (sh s h₄ t₄) h₁₃ _) S rfl ?_)
      refine wpAny_items_nil ⟨X.at S.keep, ?_⟩
      refine within_at (s := sh (sh s h₄ t₄) h₁₃ _) (S.bsM (ob := []) X) (rm.less (by first | decide | omega) (by first | decide | omega)) (S.own (Tw, _) (hpr hw2)) hw3 (S.own (Df, _) (hpr hDf)) hfi (by rw [← hw3.length]; omega) (by rw [← hfi.length, List.length_take]; omega) fun Dw rs nr h₁₄ t₁₄ hrs hr0 hr1 ex => ?_
      have S := S.new1 ex hr1 hr0
      rw [within_is, c6] at hrs
      refine Subscript_ (Subscript_ (rLoc (s := sh (sh s h₄ t₄) h₁₄ _) S rfl ?_))
      refine wpAny_BinOp (rLoc (s := sh (sh s h₄ t₄) h₁₄ _) S rfl ?_)
      refine rLoc (s := sh (sh s h₄ t₄) h₁₄ _) S rfl ?_
      refine nSub (s := sh s h₄ t₄) (c := ((size - (i + 1) : Nat) : Int)) (by first | decide | omega) fun _ _ => ?_
      refine nItem (S.own (Ds, listOf (refs il).toArray ms) (.tail _ (hpr (hA m1)))) (by first | decide | omega) (by first | decide | omega) (by rw [Int.toNat_natCast]; exact hw1) ?_
      refine nSlU (rLoc (s := sh (sh s h₄ t₄) h₁₄ _) S rfl ⟨_, _, rfl, ?_⟩)
      refine nSliceA S (S.own (Tw, listOf vw.toArray nw) (.tail _ (hpr hw2))) .none (.int _ _) (by rw [List.size_toArray]; omega) fun Dy h₁₅ S => ?_
      rw [slicePick_upto'] at S
      have hfy : IntsAre (vw.take dn) (toI ((sN (size - (i + 1))).take dn)) := by
        have := ints_take hw3 dn
        rw [toI, ← List.map_take] at this; exact this
      refine nNeI (s := sh s h₄ t₄) S.drop1.get S.get hrs hfy (rm.ul (by decide)) ?_
      refine wpAny_truthy_bool (ifB (fun q => absurd q (by simp)) fun _ => ?_)
      refine wpAny_allTrue_Or_nil ?_
      show wpAny _ _ _ _ _ _
      refine wpAny_execs_nil ?_
      refine wpAny_execs_nil ?_
      have S := S.drop1.drop1
      exact hKk h₁₅ _ _ _ ⟨(D', listOf bs'.toArray m') :: (XX ++ (Dq, listOf (refs tl).toArray mq) :: tl), D', bs', m', Dn, tl', mn, t5', t6', rfl, rfl, .inl (.head _), hbs', htl', T5, T6⟩ (S.lets ⟨rfl, rfl, rfl, rfl, rfl, rfl, trivial⟩)
  · rintro vars l h t E' ⟨XX, Db, bs, mb', Dq, tl, mq, t5, t6, rfl, rfl, hDb, hbs, htl, T5, T6⟩ S
    refine wpAny_execs_nil ?_
    refine wpAny_execs_cons (wpAny_Return_some ?_)
    refine wpAny_Constant_bool ?_
    have S := S.perm (l' := (((Tt, tupO [.int 1 u₁, .int 2 u₂].toArray) :: (Df, listOf (vk.take F.length).toArray 0) :: AA) ++ (XX ++ (Dq, listOf (refs tl).toArray mq) :: tl)) ++ (t5 ++ t6)) (by
      have e : (((Tt, tupO [.int 1 u₁, .int 2 u₂].toArray) :: (Df, listOf (vk.take F.length).toArray 0) :: AA) ++ (XX ++ (Dq, listOf (refs tl).toArray mq) :: tl)) ++ (t5 ++ t6) = ((Tt, tupO [.int 1 u₁, .int 2 u₂].toArray) :: (Df, listOf (vk.take F.length).toArray 0) :: AA) ++ (XX ++ ((Dq, listOf (refs tl).toArray mq) :: (tl ++ (t5 ++ t6)))) := by simp
      rw [e]
      exact List.perm_append_comm)
    exact k _ _ t5 t6 h t T5 T6 S
end
end Mine

/-! part Law1 -/
namespace Mine
set_option maxHeartbeats 8000000
section
variable {prog : Program} {w : World} {mg mb : Str → Option Value} {A : Around} {E : Value → Shared → Prop} {s : Shared} {Q : Flow → Shared → Prop}
/-- the law from its cascade on -/
theorem law_rest {B : Bas} {L fa : Addr} {cd : Value} {h : Heap} {t : Nat} {body : List Stmt} {scope : Scope} {size base : Nat} {us : Tok} {Ds Dt : Addr} {il AA t5 t6 : List (Addr × Obj)} {ms nt : Nat} {oB : Obj} {ub : Tok} {at_ : List Value} {F : List Nat}
    (hb : (bodyAt (hd.heap_39 w.params) 137).map (fun p => (p.1.drop 7, p.2)) = some (body, scope))
    (hs : size = 2 ∨ size = 3) (hbase : base < 8) (hL : ListsL il (byS 64)) (rm : Room A 14 200) (X : Bs w mg mb B)
    (S : St B L h [("taken", .ref Dt), ("size", .int (size : Nat) us), ("sets", .ref Ds)] (AA ++ (t5 ++ t6))) (T5 : T57 t5) (T6 : T64 t6)
    (m1 : (Ds, listOf (refs il).toArray ms) ∈ AA) (m2 : ∀ p ∈ il, p ∈ AA) (m3 : (L + 1, oB) ∈ AA) (m4 : (Dt, listOf at_.toArray nt) ∈ AA) (hoB : oB.data = .cell (some (.int (base : Nat) ub))) (hat : IntsAre at_ (toI F)) (hF : F.Sublist (sN size))
    (k : ∀ vars A' t5' t6' h' u, T57 t5' → T64 t6' → St B L h' vars (A' ++ (t5' ++ t6')) → Q (.ret (.bool true)) (sh s h' u)) :
    wpAny (model prog w) A (execs body (envOfC "law" scope L fa cd)) Q E (sh s h t) := by
  have hb' := Option.some.inj (hb.symm.trans (rfl : (bodyAt (hd.heap_39 w.params) 137).map (fun p => (p.1.drop 7, p.2)) = some _))
  cases hb'
  have hN : (sN size).length ≤ 20 := by rcases hs with rfl | rfl <;> decide
  have hFN : F.length ≤ (sN size).length := hF.length_le
  have hatl : at_.length = F.length := by rw [hat.length, List.length_map]
  obtain ⟨Tk, vk, nk, hk1, hk2, hk3⟩ := hL.pick size (by first | decide | lia)
  have hvk : vk.length = (sN size).length := by rw [hk3.length, List.length_map]
  have hk2 := m2 _ hk2
  refine wpAny_execs_cons (wpAny_Assign_Name ?_)
  refine rCall (s := sh s h _) S X (g_law_cascade _) (keep_of _ (by decide)) ?_
  refine wpAny_items_cons ?_
  refine rCallB (s := sh s h _) S X (n_len _) boot_len ?_
  refine wpAny_items_cons (rLoc (s := sh s h _) S rfl ?_)
  refine wpAny_items_nil ?_
  refine nLen (S.own (Dt, listOf at_.toArray nt) (by simp [m4])) (by rw [List.size_toArray]; lia) fun _ _ => ?_
  have hfl : (at_.toArray.size : Int) = ((F.length : Nat) : Int) := by rw [List.size_toArray, hatl]
  rw [hfl]
  refine wpAny_items_cons (rLoc (s := sh s h _) S rfl ?_)
  refine wpAny_items_nil ⟨X.at S.keep, ?_⟩
  have S := S.p5
  refine cascade_at (s := sh s h _) (S.bsM X) (rm.less (by first | decide | omega) (by first | decide | omega)) T5 S.pre (by first | decide | lia) hs fun Dq tl mq t5 h₁ _ htl T5 R => ?_
  have S := (S.ret R).perm (pcas _ tl t5 AA t6)
  refine nSt (s := s) S fun h₂ t₂ S => ?_
  have S := S.lets (vars' := [("cascade", .ref Dq), ("taken", .ref Dt), ("size", .int (size : Nat) us), ("sets", .ref Ds)]) ⟨rfl, rfl, rfl, rfl, trivial⟩
  have hin : ∀ {p}, p ∈ AA → p ∈ ((Dq, listOf (refs tl).toArray mq) :: (tl ++ AA)) ++ (t5 ++ t6) := fun hp => by simp [hp]
  refine wpAny_execs_cons (wpAny_mono (Q := fun f s' => f = .next ∧ ∃ h' t' vars', s' = sh s h' t' ∧ AllV vars' [("cascade", .ref Dq), ("taken", .ref Dt), ("size", .int (size : Nat) us), ("sets", .ref Ds)] ∧ St B L h' vars' (((Dq, listOf (refs tl).toArray mq) :: (tl ++ AA)) ++ (t5 ++ t6))) ?_ (fun f s' hp => ?_) (fun _ _ x => x))
  · refine wpAny_If (wpAny_isTrue_Compare1 ?_)
    refine rCallB (s := sh s h₂ _) S X (n_len _) boot_len ?_
    refine wpAny_items_cons (rLoc (s := sh s h₂ _) S rfl ?_)
    refine wpAny_items_nil ?_
    refine nLen (S.own (Dt, listOf at_.toArray nt) (hin m4)) (by rw [List.size_toArray]; lia) fun _ _ => ?_
    refine rCallB (s := sh s h₂ _) S X (n_len _) boot_len ?_
    refine wpAny_items_cons (Subscript_ (rLoc (s := sh s h₂ _) S rfl ?_))
    refine rLoc (s := sh s h₂ _) S rfl ?_
    refine nItem (S.own (Ds, listOf (refs il).toArray ms) (hin m1)) (by first | decide | lia) (by first | decide | lia) (by rw [Int.toNat_natCast]; exact hk1) ?_
    refine wpAny_items_nil ?_
    refine nLen (S.own (Tk, listOf vk.toArray nk) (hin hk2)) (by rw [List.size_toArray]; lia) fun _ _ => ?_
    refine lt_int (wpAny_truthy_bool (ifD (fun hlt => ?_) fun hge => ?_))
    · have hm : F.length < (sN size).length := by
        rw [List.size_toArray, List.size_toArray, hatl, hvk] at hlt; lia
      obtain ⟨x, hx⟩ : ∃ x, (sN size)[F.length]? = some x := ⟨_, List.getElem?_eq_getElem hm⟩
      have hxm : x ∈ sN size := List.mem_of_getElem? hx
      have hx64 : x < 64 := sN_lt size (by first | decide | lia) x hxm
      have hx0 : 0 < x := by
        obtain ⟨k0, hk0⟩ : ∃ k0, size = k0 + 1 := ⟨size - 1, by lia⟩
        subst hk0
        exact sN_pos k0 (by first | decide | lia) x hxm
      obtain ⟨tx, hvx⟩ := hk3.get F.length (x : Int) (by unfold toI; rw [List.getElem?_map, hx]; rfl)
      have htold : (casc size F.length).reverse.map (·.1) = toI (bitsOf x) := by
        have hd : (sN size).getD F.length 0 = x := by rw [List.getD_eq_getElem?_getD, hx]; rfl
        rcases hs with rfl | rfl
        · have := told2 F.length hm
          rw [hd] at this; exact this
        · have := told3 F.length hm
          rw [hd] at this; exact this
      have hv0 : 0 < x * 2 ^ base := Nat.mul_pos hx0 (Nat.two_pow_pos _)
      have hv1 : x * 2 ^ base < 2 ^ 13 := by
        have h1 : 2 ^ base ≤ 2 ^ 7 := Nat.pow_le_pow_right (by decide) (by first | decide | lia)
        have h2 := Nat.mul_le_mul (show x ≤ 63 by lia) h1
        exact Nat.lt_of_le_of_lt h2 (by decide)
      refine wpAny_execs_cons (wpAny_Assign_Name ?_)
      refine rStrM (fun x t s R h => GM.split h) ?_
      refine rCall (s := sh s h₂ _) S X (g_pretty_flags _) (keep_of _ (by decide)) ?_
      refine wpAny_items_cons (wpAny_BinOp ?_)
      refine Subscript_ (Subscript_ (rLoc (s := sh s h₂ _) S rfl ?_))
      refine rLoc (s := sh s h₂ _) S rfl ?_
      refine nItem (S.own (Ds, listOf (refs il).toArray ms) (hin m1)) (by first | decide | lia) (by first | decide | lia) (by rw [Int.toNat_natCast]; exact hk1) ?_
      refine rCallB (s := sh s h₂ _) S X (n_len _) boot_len ?_
      refine wpAny_items_cons (rLoc (s := sh s h₂ _) S rfl ?_)
      refine wpAny_items_nil ?_
      refine nLen (S.own (Dt, listOf at_.toArray nt) (hin m4)) (by rw [List.size_toArray]; lia) fun _ _ => ?_
      refine nItemA (S.own (Tk, listOf vk.toArray nk) (hin hk2)) (by first | decide | lia) (by rw [List.size_toArray]; lia) (by rw [List.size_toArray, hatl, Int.toNat_natCast]; exact hvx) ?_
      refine rCell (s := sh s h₂ _) (c := L + 1) rfl (S.own (L + 1, oB) (hin m3)) hoB ?_
      refine nShl (n := base) (c := ((x * 2 ^ base : Nat) : Int)) rfl (by first | decide | (exact Nat.le_of_lt (Nat.lt_of_lt_of_le (by assumption) (by decide)))) (by rw [Int.natAbs_natCast]; (exact Nat.lt_of_lt_of_le (by assumption) (by decide))) (by push_cast; rfl) fun _ _ => ?_
      refine wpAny_items_nil ⟨X.at S.keep, ?_⟩
      refine pretty_flags_at (s := sh s h₂ _) (S.bsM (ob := []) X) (rm.less (by first | decide | omega) (by first | decide | omega)) rfl hv0 hv1 fun _ h₃ _ ex => ⟨_, _, rfl, ?_⟩
      have S := S.ext ex
      refine wpAny_items_cons (nStr (s := s) fun _ _ => ?_)
      refine wpAny_items_nil ?_
      refine nSplit S (by decide +kernel) words_len fun Dp ps h₄ t₄ hps S => ?_
      rw [split_words hv0 hv1, words_bits hbase hx64] at hps
      have hps_ := hps
      refine nSt S fun h₅ t₅ S => ?_
      refine wpAny_execs_cons (wpAny_If (wpAny_isTrue_Compare1 ?_))
      refine rLoc (s := sh s h₅ _) S rfl ?_
      refine rCall (s := sh s h₅ _) S X (g_law_words _) (keep_of _ (by decide)) ?_
      refine wpAny_items_cons ?_
      refine rLC (cl := [("base", L + 1)]) rfl rfl (by decide) ?_
      refine Subscript_ (rLoc (s := sh s h₅ _) S rfl ?_)
      refine nSl3 (wpAny_UnaryOp (nInt fun _ _ => ?_))
      refine nNeg (c := -1) rfl fun _ t₆ => ⟨_, _, rfl, ?_⟩
      have htll : tl.length ≤ 20 := by
        rw [htl.length]
        have hc : ∀ k l, (casc k l).length = k := fun k => by
          induction k with
          | zero => intro l; rfl
          | succ k ih => intro l; simp [casc, ih]
        rw [hc]; omega
      refine nSliceTail3 S (S.own (Dq, listOf (refs tl).toArray mq) (by simp)) .none .none (.int (-1) _) (by decide) (by rw [List.size_toArray, List.length_map]; omega) fun Dr h₆ S => ?_
      rw [krv_pick, show (refs tl).toArray.toList.reverse.toArray = (refs tl.reverse).toArray by simp [refs]] at S
      have hoBg := S.own (L + 1, oB) (.tail _ (.tail _ (hin m3)))
      refine rCompT (s := sh s h₆ t₆) rm.hh (fun j acc l => l = [] ∧ IntsAre acc (((casc size F.length).reverse.take j).map fun t : Trip => (base : Int) + t.1)) S S.get (fun p hp => S.own p (by simp [List.mem_reverse.mp hp])) htl.reverse (by rw [List.length_reverse, ← htl.length]; omega) ⟨rfl, .nil⟩ (by decide) rfl ?_ ?_
      · rintro B' i x1 y1 z1 u v wt T acc _ rest C h t E' kB hti ⟨rfl, hacc⟩ hT S' Kt Kf hTt hFf
        refine nUnp (vs := [_, _, _]) rm.hh hT rfl rfl fun h' ex => ?_
        have S' := S'.ext ex
        refine aio_cons (wpAny_assign_Name (nSt S' fun h' _ S' => ?_))
        refine aio_cons (wpAny_assign_Name (nSt S' fun h' _ S' => ?_))
        refine aio_cons (wpAny_assign_Name (nSt S' fun h' _ S' => ?_))
        refine aio_nil ?_
        refine wpAny_tests_nil ?_
        show wpAny _ _ _ _ _ _
        refine wpAny_BinOp ?_
        refine rCell (s := sh (sh s h₆ t₆) h' _) (c := L + 1) rfl (S'.keep _ _ (kB _ _ hoBg)) hoB ?_
        refine rLoc (s := sh (sh s h₆ t₆) h' _) S' rfl ?_
        refine nAdd rfl fun _ _ => ?_
        refine hTt _ h' _ [] ⟨rfl, ?_⟩ (S'.lets trivial)
        rw [take_snoc hti, List.map_append]
        exact ints_snoc hacc _ _
      · rintro Dx C acc _ h t nx ⟨rfl, hacc⟩ F'
        rw [List.length_reverse, show (casc size F.length).length = (casc size F.length).reverse.length by simp, List.take_length] at hacc
        have hps : IntsAre acc ((toI (bitsOf x)).map fun y => (base : Int) + y) := by
          rw [← htold, List.map_map]; exact hacc
        refine F'.post fun h₇ S => ?_
        refine wpAny_items_nil ⟨X.at S.keep, ?_⟩
        refine words_list (s := sh (sh s h₆ t₆) h₇ _) (S.bsM (ob := []) X) (rm.less (by first | decide | omega) (by first | decide | omega)) S.get hps (fun p hp => ?_) ?_ fun Dw ws nw h₈ _ hws hw0 hw1 ex => ?_
        · obtain ⟨y, hy, rfl⟩ := List.mem_map.mp hp
          obtain ⟨j, hj, rfl⟩ := toI_mem.mp hy
          have := (bits_mem.mp hj).1
          omega
        · rw [List.length_map, List.length_map]
          exact Nat.le_trans (List.length_filter_le _ _) (by decide)
        · have S := S.new1 ex hw1 hw0
          have hws : StrsAre ws ((bitsOf x).map fun j => flagName (base + j)) := by
            have e : ((toI (bitsOf x)).map fun y => (base : Int) + y).map (fun p => flagName p.toNat) = (bitsOf x).map fun j => flagName (base + j) := by
              unfold toI
              rw [List.map_map, List.map_map]
              refine List.map_congr_left fun j _ => ?_
              show flagName ((base : Int) + (j : Int)).toNat = _
              rw [show ((base : Int) + (j : Int)).toNat = base + j by omega]
            rw [← e]; exact hws
          have hDp := S.own (Dp, listOf ps.toArray 0) (by simp)
          refine nNeS (s := sh s h₆ t₆) hDp S.get hps_ hws (fun y hy => ?_) (rm.ul (by decide)) ?_
          · obtain ⟨j, hj, rfl⟩ := List.mem_map.mp hy
            have := (bits_mem.mp hj).1
            exact flag_ok (base + j) (by first | decide | omega)
          · refine wpAny_truthy_bool ?_
            show wpAny _ _ _ _ _ _
            refine wpAny_execs_nil ?_
            refine wpAny_execs_nil ⟨rfl, h₈, _, _, rfl, ?_, S.drop1.drop1.drop1.drop1⟩
            exact ⟨rfl, rfl, rfl, rfl, trivial⟩
    · refine wpAny_execs_nil ⟨rfl, h₂, _, _, rfl, ?_, S⟩
      exact ⟨rfl, rfl, rfl, rfl, trivial⟩
  obtain ⟨rfl, h₃, t₃, vars₃, rfl, hv₃, S⟩ := hp
  have S := S.lets hv₃
  show wpAny _ _ _ _ _ _
  exact law_end rfl hs hbase hL rm X S T5 T6 m1 m2 m3 m4 hoB hat hF htl k
end
end Mine

/-! part Law2 -/
namespace Mine
set_option maxHeartbeats 8000000
section
variable {prog : Program} {w : World} {mg mb : Str → Option Value} {A : Around} {E : Value → Shared → Prop} {s : Shared} {Q : Flow → Shared → Prop}
theorem law_walk {body : List Stmt} {scope : Scope} {B : Bas} {L fa a : Addr} {cd : Value} {h : Heap} {t : Nat} {vs : List Value} {ns : List Int} {oD oB : Obj} {t5 t6 : List (Addr × Obj)}
    (hb : bodyAt (hd.heap_39 w.params) 137 = some (body, scope)) (X : Bs w mg mb B) (rm : Room A 14 200) (S : St B L h [("script", .ref a)] ([(L + 1 + 1, oD), (L + 1, oB)] ++ (t5 ++ t6))) (hoD : oD.data = .cell none) (hoB : oB.data = .cell none) (T5 : T57 t5) (T6 : T64 t6)
    (ha : ∀ h' : Heap, (∀ b o, B b = some o → h'.get? b = some o) → h'.IsList a vs.toArray) (hi : IntsAre vs ns) (hlen : ns.length ≤ 63)
    (k : ∀ vars A' t5' t6' h' u, T57 t5' → T64 t6' → St B L h' vars (A' ++ (t5' ++ t6')) → Q (.ret (.bool true)) (sh s h' u)) :
    wpAny (model prog w) A (execs body (envOfC "law" scope L fa cd)) Q E (sh s h t) := by
  have hb' := Option.some.inj (hb.symm.trans (rfl : bodyAt (hd.heap_39 w.params) 137 = some _))
  cases hb'
  refine wpAny_execs_cons (wpAny_Assign_Name ?_)
  refine rCall (s := sh s h _) S X (g_law_cells _) (keep_of _ (by decide)) ?_
  refine wpAny_items_cons (rLoc (s := sh s h _) S rfl ?_)
  refine wpAny_items_nil ⟨X.at S.keep, ?_⟩
  refine cells_at (s := sh s h _) (S.bsM (ob := []) X) (rm.less (by first | decide | omega) (by first | decide | omega)) (ha _ S.keep) hi hlen fun Dc c₀ c₁ u₀ v₀ mc h₁ _ hd0 hd1 ex => ?_
  have S := S.new1 ex hd1 hd0
  refine nSt (s := s) S fun h₂ t₂ S => ?_
  have S := S.lets (vars' := [("cells", .ref Dc)]) ⟨rfl, trivial⟩
  refine wpAny_execs_cons (Assign_Tuple ?_)
  refine nTup ?_
  refine wpAny_items_cons (wpAny_BinOp (nInt fun _ _ => ?_))
  refine wpAny_BinOp (Subscript_ (rLoc (s := sh s h₂ _) S rfl ?_))
  refine nInt fun _ _ => ?_
  refine nItem S.get (by decide) (by decide) (x := .int c₀ u₀) rfl ?_
  refine nInt fun _ _ => ?_
  refine nMod (c := ((c₀ % 2 : Nat) : Int)) (by decide) (by push_cast; rfl) fun _ _ => ?_
  refine nAdd (c := ((2 + c₀ % 2 : Nat) : Int)) (by push_cast; rfl) fun _ _ => ?_
  refine wpAny_items_cons (wpAny_BinOp (wpAny_BinOp (Subscript_ (rLoc (s := sh s h₂ _) S rfl ?_))))
  refine nInt fun _ _ => ?_
  refine nItem S.get (by decide) (by decide) (x := .int c₀ u₀) rfl ?_
  refine nInt fun _ _ => ?_
  refine nDiv (c := ((c₀ / 2 : Nat) : Int)) (by decide) (by push_cast; rfl) (PyProof.noPylong_small (by decide)) fun _ _ => ?_
  refine nInt fun _ _ => ?_
  refine nMod (c := ((c₀ / 2 % 8 : Nat) : Int)) (by decide) (by push_cast; rfl) fun _ _ => ?_
  refine wpAny_items_nil ⟨_, _, _, _, _, _, rfl, S, by show 2 ≤ 1000; decide, fun T h₃ S => ?_⟩
  have hs : 2 + c₀ % 2 = 2 ∨ 2 + c₀ % 2 = 3 := by lia
  have hbase : c₀ / 2 % 8 < 8 := Nat.mod_lt _ (by decide)
  generalize 2 + c₀ % 2 = size at *
  generalize c₀ / 2 % 8 = base at *
  refine nUnp (vs := [_, _]) rm.hh (isT S.get) rfl rfl fun h₄ ex => ?_
  have S := S.ext ex
  refine aio_cons (wpAny_assign_Name (nSt S fun h₅ _ S => ?_))
  have S := S.drop1.perm (l' := (L + 1, oB) :: (Dc, _) :: (L + 1 + 1, oD) :: (t5 ++ t6)) ((List.Perm.cons _ (List.Perm.swap ..)).trans (List.Perm.swap ..))
  refine aio_cons (wpAny_assign_Name (nCellSt (c := L + 1) S rfl hoB fun oB h₆ hoB S => ?_))
  refine aio_nil ?_
  refine wpAny_execs_cons (wpAny_Assign_Name ?_)
  refine rCall0 (s := sh s h₆ _) S X (g_law_by_size _) (keep_of _ (by decide)) ?_
  refine by_size_at (s := sh s h₆ _) (S.bsM (ob := []) X) (rm.less (by first | decide | omega) (by first | decide | omega)) fun Ds il ms h₇ _ hL R => ?_
  have S := S.ret (ob := []) R
  refine nSt (s := s) S fun h₈ _ S => ?_
  obtain ⟨Tk, vk, nk, hk1, hk2, hk3⟩ := hL.pick size (by first | decide | lia)
  obtain ⟨N, hN⟩ : ∃ N, (sN size).length = N := ⟨_, rfl⟩
  have hN20 : N ≤ 20 := by rcases hs with rfl | rfl <;> (rw [← hN]; decide)
  have hvk : vk.length = N := by rw [hk3.length, List.length_map, hN]
  have S := S.lets (vars' := [("cells", .ref Dc), ("size", .int (size : Nat) _), ("sets", .ref Ds)]) ⟨rfl, rfl, rfl, trivial⟩
  have S := (S.perm (l' := (((Ds, listOf (refs il).toArray ms) :: il) ++ [(L + 1, oB), (Dc, listOf [Value.int (c₀ : Int) u₀, Value.int (c₁ : Int) v₀].toArray mc)]) ++ (L + 1 + 1, oD) :: (t5 ++ t6)) (by simp)).mid
  refine wpAny_execs_cons (wpAny_Assign_Name ?_)
  refine wpAny_BinOp (Subscript_ (rLoc (s := sh s h₈ _) S rfl ?_))
  refine nInt fun _ _ => ?_
  refine nItem (S.own (Dc, listOf [.int c₀ u₀, .int c₁ v₀].toArray mc) (by simp)) (by decide) (by decide) (x := .int c₁ v₀) rfl ?_
  refine wpAny_BinOp (nInt fun _ _ => ?_)
  refine rCallB (s := sh s h₈ _) S X (n_len _) boot_len ?_
  refine wpAny_items_cons (Subscript_ (rLoc (s := sh s h₈ _) S rfl ?_))
  refine rLoc (s := sh s h₈ _) S rfl ?_
  refine nItem (S.own (Ds, listOf (refs il).toArray ms) (by simp)) (by first | decide | lia) (by first | decide | lia) (by rw [Int.toNat_natCast]; exact hk1) ?_
  refine wpAny_items_nil ?_
  refine nLen (S.own (Tk, listOf vk.toArray nk) (by simp [hk2])) (by rw [List.size_toArray]; lia) fun _ _ => ?_
  refine nShl (n := N) (c := ((2 ^ N : Nat) : Int)) (by rw [List.size_toArray, hvk]) (by first | decide | (exact Nat.le_trans (by assumption) (by decide))) (by decide) (by push_cast; lia) fun _ _ => ?_
  refine nMod (c := ((c₁ % 2 ^ N : Nat) : Int)) (by have := Nat.two_pow_pos N; lia) (by push_cast; rfl) fun ud _ => ?_
  have hdr : c₁ % 2 ^ N < 2 ^ 20 := Nat.lt_of_lt_of_le (Nat.mod_lt _ (Nat.two_pow_pos N)) (Nat.pow_le_pow_right (by decide) hN20)
  generalize c₁ % 2 ^ N = drawn at *
  refine nCellSt (c := L + 1 + 1) S rfl hoD fun oD h₉ hoD S => ?_
  have S := S.perm (l' := ((L + 1 + 1, oD) :: (((Ds, listOf (refs il).toArray ms) :: il) ++ [(L + 1, oB), (Dc, listOf [Value.int (c₀ : Int) u₀, Value.int (c₁ : Int) v₀].toArray mc)])) ++ (t5 ++ t6)) (by simp)
  refine wpAny_execs_cons (wpAny_Assign_Name ?_)
  refine rCall (s := sh s h₉ _) S X (g_int2digits _) (keep_of _ (by decide)) ?_
  refine wpAny_items_cons (rCell (s := sh s h₉ _) (c := L + 1 + 1) rfl (S.own (L + 1 + 1, oD) (by simp)) hoD ?_)
  refine wpAny_items_cons (nInt fun _ _ => ?_)
  refine wpAny_items_nil ⟨X.at S.keep, ?_⟩
  have S := S.p5
  refine int2digits_at (s := sh s h₉ _) (n := 1) (S.bsM X) (rm.less (by first | decide | omega) (by first | decide | omega)) T5 S.pre (by first | decide | omega) (by first | decide | omega) (Nat.lt_trans hdr (by decide)) fun Dg vg mg' t5 h₁₀ _ hig T5 R => ?_
  have S := S.ret R
  have S := S.perm (l' := ((Dg, listOf vg.toArray mg') :: (L + 1 + 1, oD) :: (((Ds, listOf (refs il).toArray ms) :: il) ++ [(L + 1, oB), (Dc, listOf [Value.int (c₀ : Int) u₀, Value.int (c₁ : Int) v₀].toArray mc)])) ++ (t5 ++ t6)) (.cons _ (List.perm_append_comm_assoc ..))
  refine nSt (s := s) S fun h₁₁ t₁₁ S => ?_
  rw [nd_one] at hig
  have hbl : bl drawn ≤ 20 := bl_le hdr
  have hbi : ((Builtin.Int.intBits (drawn : Int) : Nat) : Int) ≤ 20 := by exact_mod_cast hbl
  have hgl : vg.length ≤ 20 := by rw [hig.length, digs_len]; exact hbl
  refine wpAny_execs_cons (wpAny_If (wpAny_isTrue_Compare1 ?_))
  refine rLoc (s := sh s h₁₁ _) S rfl ?_
  refine rLC (cl := [("drawn", L + 1 + 1)]) rfl rfl (by decide) ?_
  refine rCallT (s := sh s h₁₁ _) S X (n_range _) boot_range ?_
  refine wpAny_items_cons (nBits (rCell (s := sh s h₁₁ _) (c := L + 1 + 1) rfl (S.own (L + 1 + 1, oD) (by simp)) hoD ⟨_, _, _, _, rfl, rfl, fun _ _ => ?_⟩))
  refine wpAny_items_nil ?_
  refine nRange1 S fun r tr ur vr h₁₂ t₁₂ S => ?_
  have hoDg := S.own (L + 1 + 1, oD) (by simp)
  refine rCompR (s := sh s h₁₂ t₁₂) (n := bl drawn) rfl rm.hh (fun j acc l => l = [] ∧ IntsAre acc (digs 1 drawn j)) S S.get (range_small (by first | decide | omega) (by first | decide | omega) (by first | decide | lia) (by first | decide | lia)) (range_size1 (by rw [Int.zero_add]; rfl)) (by first | decide | (exact Nat.le_trans (by assumption) (by decide))) ⟨rfl, .nil⟩ (by decide) rfl ?_ ?_
  · rintro B' j tv acc _ rest C h t E' kB hj ⟨rfl, hacc⟩ S' Kt Kf hT hF
    refine wpAny_assign_Name (nSt S' fun h' _ S' => ?_)
    refine wpAny_tests_nil ?_
    show wpAny _ _ _ _ _ _
    refine wpAny_BinOp (wpAny_BinOp ?_)
    refine rCell (s := sh (sh s h₁₂ t₁₂) h' _) (c := L + 1 + 1) rfl (S'.keep _ _ (kB _ _ hoDg)) hoD ?_
    refine rLoc (s := sh (sh s h₁₂ t₁₂) h' _) S' rfl ?_
    refine nShr (n := j) (c := ((drawn / 2 ^ j : Nat) : Int)) (by first | decide | lia) (by push_cast; rfl) fun _ _ => ?_
    refine nInt fun _ _ => ?_
    refine nAnd (bit_one drawn j) fun _ _ => ?_
    refine hT _ h' _ [] ⟨rfl, ?_⟩ (S'.lets trivial)
    rw [digs_succ]; exact ints_snoc hacc _ _
  · rintro Dx C acc _ h t nx ⟨rfl, hacc⟩ F
    refine F.post fun h₁₃ S => ?_
    refine nNeI (s := sh s h₁₂ t₁₂) (S.own (Dg, listOf vg.toArray mg') (by simp)) S.get hig hacc (rm.ul (by decide)) ?_
    refine wpAny_truthy_bool (ifB (fun q => absurd q (by simp)) fun _ => ?_)
    refine wpAny_execs_nil ?_
    have S := (S.drop1.drop1).lets (vars' := [("figures", .ref Dg), ("cells", .ref Dc), ("size", .int (size : Nat) _), ("sets", .ref Ds)]) ⟨rfl, rfl, rfl, rfl, trivial⟩
    have hig' : IntsAre vg (digs 1 drawn (nd 1 drawn)) := by rw [nd_one]; exact hig
    refine wpAny_execs_cons ?_
    refine rLCA (cl := []) rfl rfl (by decide) ?_
    refine rCallT (s := sh (sh s h₁₂ t₁₂) h₁₃ _) S X (n_zip _) boot_zip ?_
    refine wpAny_items_cons (Subscript_ (rLoc (s := sh (sh s h₁₂ t₁₂) h₁₃ _) S rfl ?_))
    refine rLoc (s := sh (sh s h₁₂ t₁₂) h₁₃ _) S rfl ?_
    refine nItem (S.own (Ds, listOf (refs il).toArray ms) (by simp)) (by first | decide | lia) (by first | decide | lia) (by rw [Int.toNat_natCast]; exact hk1) ?_
    refine wpAny_items_cons (rLoc (s := sh (sh s h₁₂ t₁₂) h₁₃ _) S rfl ?_)
    refine wpAny_items_nil ?_
    refine rCompZ (s := sh (sh s h₁₂ t₁₂) h₁₃ _) rm.hh (fun j acc l => l = [] ∧ IntsAre acc (toI (takenZ size drawn j))) S (S.own (Tk, listOf vk.toArray nk) (by simp [hk2])) (S.own (Dg, listOf vg.toArray mg') (by simp)) (by simp only [List.size_toArray]; omega) ⟨rfl, .nil⟩ (by decide) rfl ?_ ?_
    · rintro B' i x y T acc _ rest C h t E' kB hx hy ⟨rfl, hacc⟩ hT S' Kt Kf hTt hFf
      obtain ⟨one, to, ho, rfl⟩ := ints_item hk3 hx
      obtain ⟨f, tf, hf, rfl⟩ := ints_item hig' hy
      rw [List.getElem?_map] at ho
      obtain ⟨x, hxs, rfl⟩ := Option.map_eq_some_iff.mp ho
      refine nUnp (vs := [_, _]) rm.hh hT rfl rfl fun h' ex => ?_
      have S' := S'.ext ex
      refine aio_cons (wpAny_assign_Name (nSt S' fun h' _ S' => ?_))
      refine aio_cons (wpAny_assign_Name (nSt S' fun h' t' S' => ?_))
      refine aio_nil ?_
      refine wpAny_tests_one (wpAny_isTrue_Compare1 ?_)
      refine rLoc (s := sh (sh (sh s h₁₂ t₁₂) h₁₃ _) h' _) S' rfl ?_
      refine nInt fun _ _ => ?_
      refine eq_int (wpAny_truthy_bool (ifB (fun q => ?_) fun q => ?_))
      · refine rLoc (s := sh (sh (sh s h₁₂ t₁₂) h₁₃ _) h' _) S' rfl ?_
        refine hTt _ h' _ [] ⟨rfl, ?_⟩ (S'.lets trivial)
        rw [taken_step hxs hf, if_pos q, toI, List.map_append]
        exact ints_snoc hacc _ _
      · refine hFf h' _ [] ⟨rfl, ?_⟩ (S'.lets trivial)
        rw [taken_step hxs hf, if_neg (by rw [q]; decide), List.append_nil]
        exact hacc
    · rintro Dt C at_ _ h t nt ⟨rfl, hat⟩ ⟨ti, F⟩
      refine F.assign fun h₁₄ t₁₄ S => ?_
      have S := S.drop2
      have hF := taken_sub size drawn (min vk.toArray.size vg.toArray.size)
      generalize takenZ size drawn (min vk.toArray.size vg.toArray.size) = F at *
      have S := S.lets (vars' := [("taken", .ref Dt), ("size", .int (size : Nat) _), ("sets", .ref Ds)]) ⟨rfl, rfl, rfl, trivial⟩
      have S := S.perm (l' := ((Dt, listOf at_.toArray nt) :: ((Dg, listOf vg.toArray mg') :: (L + 1 + 1, oD) :: (((Ds, listOf (refs il).toArray ms) :: il) ++ [(L + 1, oB), (Dc, listOf [Value.int (c₀ : Int) u₀, Value.int (c₁ : Int) v₀].toArray mc)]))) ++ (t5 ++ t6)) (by exact .refl _)
      have m1 : (Ds, listOf (refs il).toArray ms) ∈ (Dt, listOf at_.toArray nt) :: ((Dg, listOf vg.toArray mg') :: (L + 1 + 1, oD) :: (((Ds, listOf (refs il).toArray ms) :: il) ++ [(L + 1, oB), (Dc, listOf [Value.int (c₀ : Int) u₀, Value.int (c₁ : Int) v₀].toArray mc)])) := by simp
      have m2 : ∀ p ∈ il, p ∈ (Dt, listOf at_.toArray nt) :: ((Dg, listOf vg.toArray mg') :: (L + 1 + 1, oD) :: (((Ds, listOf (refs il).toArray ms) :: il) ++ [(L + 1, oB), (Dc, listOf [Value.int (c₀ : Int) u₀, Value.int (c₁ : Int) v₀].toArray mc)])) := fun p hp => by simp [hp]
      have m3 : (L + 1, oB) ∈ (Dt, listOf at_.toArray nt) :: ((Dg, listOf vg.toArray mg') :: (L + 1 + 1, oD) :: (((Ds, listOf (refs il).toArray ms) :: il) ++ [(L + 1, oB), (Dc, listOf [Value.int (c₀ : Int) u₀, Value.int (c₁ : Int) v₀].toArray mc)])) := by simp
      have m4 : (Dt, listOf at_.toArray nt) ∈ (Dt, listOf at_.toArray nt) :: ((Dg, listOf vg.toArray mg') :: (L + 1 + 1, oD) :: (((Ds, listOf (refs il).toArray ms) :: il) ++ [(L + 1, oB), (Dc, listOf [Value.int (c₀ : Int) u₀, Value.int (c₁ : Int) v₀].toArray mc)])) := .head _
      generalize (Dt, listOf at_.toArray nt) :: ((Dg, listOf vg.toArray mg') :: (L + 1 + 1, oD) :: (((Ds, listOf (refs il).toArray ms) :: il) ++ [(L + 1, oB), (Dc, listOf [Value.int (c₀ : Int) u₀, Value.int (c₁ : Int) v₀].toArray mc)])) = AA at S m1 m2 m3 m4
      have hatl : at_.length = F.length := by rw [hat.length, List.length_map]
      have hFN : F.length ≤ N := hN ▸ hF.length_le
      refine law_rest (s := sh (sh s h₁₂ t₁₂) h₁₃ _) rfl hs hbase hL rm X S T5 T6 m1 m2 m3 m4 hoB hat hF fun vars A' t5' t6' h' u => k vars A' t5' t6' h' u
end
end Mine

/-! part Fin -/
namespace Mine
theorem st_in {G h₁ : Heap} {L : Addr} {m : Str → Option Value} {a : Value} {w1 w2 : Obj} (F : Fr G L h₁ m) (N : News G L h₁ [(L + 1 + 1, w1), (L + 1, w2), (64, tabObj #[]), (57, tabObj #[])]) (l0 : 64 < L ∧ 57 < L) (hm : m "script" = some a) :
    St (fun b => G.get? b) L h₁ [("script", a)] ([(L + 1 + 1, w1), (L + 1, w2)] ++ ([(57, tabObj #[])] ++ [(64, tabObj #[])])) := by
  have hmem : ∀ p ∈ ([(L + 1 + 1, w1), (L + 1, w2)] ++ ([(57, tabObj #[])] ++ [(64, tabObj #[])]) : List (Addr × Obj)), p ∈ ([(L + 1 + 1, w1), (L + 1, w2), (64, tabObj #[]), (57, tabObj #[])] : List (Addr × Obj)) := fun p hp => by
    simp only [List.cons_append, List.nil_append, List.mem_cons, List.not_mem_nil, or_false] at hp ⊢
    rcases hp with h | h | h | h <;> simp [h]
  refine ⟨⟨m, F.ns, fun x v e => ?_⟩, F.keep, fun p hp => (N p (hmem p hp)).1, fun p hp => (N p (hmem p hp)).2.2, fun p hp => (N p (hmem p hp)).2.1, gone_of_le F.above, ?_⟩
  · have := mem_of_lookup e
    rw [List.mem_singleton] at this
    cases this; exact hm
  · show [L + 1 + 1, L + 1, 57, 64].Nodup
    have e1 : L + 1 + 1 ≠ L + 1 := Nat.succ_ne_self _
    have e2 : L + 1 + 1 ≠ 57 := Nat.ne_of_gt (Nat.lt_succ_of_lt (Nat.lt_succ_of_lt l0.2))
    have e3 : L + 1 + 1 ≠ 64 := Nat.ne_of_gt (Nat.lt_succ_of_lt (Nat.lt_succ_of_lt l0.1))
    have e4 : L + 1 ≠ 57 := Nat.ne_of_gt (Nat.lt_succ_of_lt l0.2)
    have e5 : L + 1 ≠ 64 := Nat.ne_of_gt (Nat.lt_succ_of_lt l0.1)
    simp [e1, e2, e3, e4, e5]
theorem bs_in {w : World} {mg mb : Str → Option Value} {G : Heap} {p : Program} {loose : List Str} {mean : ExcName → Option Value} (K : (hd.heap_39 w.params).In G) (T : Top p loose mean mg mb G) (c1 : CodeHd G 68 64) (c2 : CodeHd G 61 57) : Bs w mg mb (fun b => G.get? b) :=
  ⟨G, ⟨K, T.g, T.b, T.builtins, T.nolimit, c1, c2, T.bmain⟩, fun _ _ e => e⟩
theorem tab_in {P : Addr} {q : Str} {p : Pos} {tb : List (Addr × Obj)} {h : Heap} (T : TabL P q p tb) (own : ∀ x ∈ tb, h.get? x.1 = some x.2) : GrownAt P h := by
  cases T with
  | new => exact ⟨_, own (P, _) (.head _)⟩
  | made c' oc vs t hd hv => exact ⟨_, own (P, _) (.head _)⟩
end Mine
set_option maxHeartbeats 8000000 in
theorem Mine.fin : PySem.Challenge.rw_rs0156_01.Holds := Mine.hd ⟨Mine.lawLeft, by
  k_go0
  rename IntsAre _ _ => hI
  rename Frag.In _ _ => K0
  rename Top _ _ _ _ _ _ => T0
  rename Fr _ _ _ _ => F0
  rename News _ _ _ _ => N0
  rename Heap.IsList _ _ _ => l1
  rename CodeHd _ _ _ => c2
  rename_i hl0
  refine law_walk rfl (bs_in K0 T0 codeHd c2) ?rm (st_in F0 N0 hl0 rfl) ?hoD ?hoB .new .new (fun h' kp => l1.at fun o e => kp _ _ e) hI ?hlaw ?klaw
  case hoD => assumption
  case hoB => assumption
  case rm => exact ⟨rfl, (by show callerA.depth + 1 + 14 < recursionLimit; decide), (by show callerA.units + 3 + 200 < cLine; decide)⟩
  case hlaw => lia
  case klaw =>
    intro vars A' t5' t6' h' u T5 T6 S
    have g5 : GrownAt 57 h' := tab_in T5 fun x hx => S.own x (by simp [hx])
    have g6 : GrownAt 64 h' := tab_in T6 fun x hx => S.own x (by simp [hx])
    refine ⟨⟨.inl ⟨.bool true, .bool true, [], rfl, fun _ => rfl, .bool true, ?_, fun _ => ⟨List.nodup_nil, fun _ hh => nomatch hh⟩⟩, S.keep, rfl, ?_⟩, g6, g5, trivial⟩
    · wrow_post
    · assumption⟩

set_option maxHeartbeats 8000000 in
theorem PySem.Challenge.cw_rs0156_01_holds : PySem.Challenge.rw_rs0156_01.Holds := by
  exact Mine.fin
