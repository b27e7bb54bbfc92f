import PyProof.Rows.All
import Wide.All
import OpenK.AllK
import Wide.FinOn
import PySem.Challenge.RW_pu0029_01
open PySem PySem.W PyProof.Rows PySem.Calls
set_option Elab.async false
set_option maxRecDepth 100000
set_option maxHeartbeats 8000000
set_option linter.unusedVariables false
namespace Mine
open_top hd for PySem.Challenge.rw_pu0029_01
end Mine

set_option maxHeartbeats 1000000
namespace Mine

/- MH -/
/-- the wanted end behind a name: the walk's terms stay small -/
theorem hidQ {α : Type} {M : Model} {A : Around} {t : Sem α} {E : Value → Shared → Prop} {s : Shared} {Q : α → Shared → Prop} (H : ∀ Q' : α → Shared → Prop, (∀ a s, Q a s → Q' a s) → wpAny M A t Q' E s) : wpAny M A t Q E s := H Q fun _ _ h => h
/-- and the raising end too -/
theorem hidE {α : Type} {M : Model} {A : Around} {t : Sem α} {E : Value → Shared → Prop} {s : Shared} {Q : α → Shared → Prop} (H : ∀ E' : Value → Shared → Prop, (∀ a s, E a s → E' a s) → wpAny M A t Q E' s) : wpAny M A t Q E s := H E fun _ _ h => h
theorem hidC {M : Model} {A : Around} {c : Code} {s : Shared} {R : Result → Shared → Prop} (H : ∀ R' : Result → Shared → Prop, (∀ a s, R a s → R' a s) → codeAny M A c R' s) : codeAny M A c R s := H R fun _ _ h => h

/- MB -/

/-- the written part of the heap -/
noncomputable abbrev KF (w : World) : Frag := Mine.hd.heap_39 w.params

noncomputable def Ext (h h' : Heap) : Prop := ∀ b o, h.get? b = some o → h'.get? b = some o
theorem Ext.refl (h : Heap) : Ext h h := fun _ _ e => e
theorem Ext.trans {h h' h'' : Heap} (a : Ext h h') (b : Ext h' h'') : Ext h h'' := fun x o e => b x o (a x o e)
theorem Ext.push (h : Heap) (o : Obj) : Ext h (h.push o) := fun _ _ e => Heap.get?_push_of_some _ e
theorem Ext.lt {h h' : Heap} (x : Ext h h') {b : Nat} {o : Obj} (e : h.get? b = some o) : b < h'.objs.size := Heap.lt_size (x b o e)

/-- kept outside an interval of addresses -/
noncomputable def Out (lo hi : Nat) (h h' : Heap) : Prop := ∀ b o, (b < lo ∨ hi ≤ b) → h.get? b = some o → h'.get? b = some o
theorem Out.refl (lo hi : Nat) (h : Heap) : Out lo hi h h := fun _ _ _ e => e
theorem Out.trans {lo hi : Nat} {h h' h'' : Heap} (a : Out lo hi h h') (b : Out lo hi h' h'') : Out lo hi h h'' := fun x o p e => b x o p (a x o p e)
theorem Ext.out {lo hi : Nat} {h h' : Heap} (a : Ext h h') : Out lo hi h h' := fun x o _ e => a x o e

structure Cx (w : World) (h : Heap) : Prop where
  K : (KF w).In h
  T : ∃ mean mg mb, Top Mine.hd.view_39 (looseW Mine.hd.view_39 ["Whitespace"]) mean mg mb h
theorem Cx.ext {w : World} {h h' : Heap} (c : Cx w h) (x : Ext h h') : Cx w h' :=
  ⟨c.K.keeps x, let ⟨me, mg, mb, T⟩ := c.T; ⟨me, mg, mb, T.keeps x⟩⟩
theorem Cx.nolimit {w : World} {h : Heap} (c : Cx w h) : h.NoLimit := let ⟨_, _, _, T⟩ := c.T; T.nolimit

structure Rm (A : Around) (n : Nat) : Prop where
  hh : A.handled = none
  dp : A.depth + n < 1000
  un : A.units + 3 * n < 9000
theorem Rm.deeper {A : Around} {n : Nat} (r : Rm A (n + 1)) (env : Env) : Rm (A.deeper env) n :=
  ⟨r.hh, (by show A.depth + 1 + n < 1000; have := r.dp; omega), (by show A.units + 3 + 3 * n < 9000; have := r.un; omega)⟩
theorem Rm.le {A : Around} {n k : Nat} (r : Rm A n) (h : k ≤ n) : Rm A k := ⟨r.hh, by have := r.dp; omega, by have := r.un; omega⟩
theorem Rm.room {A : Around} {n : Nat} (r : Rm A n) : A.depth < recursionLimit := by have := r.dp; show _ < 1000; omega

noncomputable def VarAt (env : Env) (h : Heap) (x : Str) (v : Value) : Prop :=
  (env.kindOf x = some .local ∧ ∃ m, h.Ns env.locals m ∧ m x = some v) ∨
  (∃ c, (env.kindOf x = some .cell ∨ env.kindOf x = some .free) ∧ env.cells.lookup x = some c ∧ h.IsCell c (some v))
theorem VarAt.ext {env : Env} {h h' : Heap} {x : Str} {v : Value} (a : VarAt env h x v) (e : Ext h h') : VarAt env h' x v := by
  rcases a with ⟨k, m, hn, hm⟩ | ⟨c, k, hc, hv⟩
  · exact .inl ⟨k, m, hn.keeps e, hm⟩
  · exact .inr ⟨c, k, hc, hv.keeps e⟩

structure EnvOk (g : Heap) (env : Env) (hi : Nat) (h : Heap) : Prop where
  keep : Ext g h
  kind : env.scope.kind = .function
  ns : ∃ m, h.Ns env.locals m
  cell : ∀ n c, env.cells.lookup n = some c → ∃ v, h.IsCell c v
  above : ∀ n c, (n, c) ∈ env.cells → env.locals < c ∧ c < hi
  apart : env.cells.Pairwise fun x y => x.2 ≠ y.2
  fresh : g.objs.size ≤ env.locals
  lt : env.locals < hi
  top : env.locals + 1 = hi ∨ ∃ n c, env.cells.lookup n = some c ∧ c + 1 = hi

noncomputable def Vars (env : Env) (h : Heap) (σ : List (Str × Value)) : Prop := ∀ x v, (x, v) ∈ σ → VarAt env h x v
theorem Vars.ext {env : Env} {h h' : Heap} {σ} (a : Vars env h σ) (e : Ext h h') : Vars env h' σ := fun x v m => (a x v m).ext e

structure Frm (g : Heap) (env : Env) (hi : Nat) (h : Heap) (σ : List (Str × Value)) : Prop where
  ok : EnvOk g env hi h
  vars : Vars env h σ

theorem EnvOk.size {g : Heap} {env : Env} {hi : Nat} {h : Heap} (a : EnvOk g env hi h) : hi ≤ h.objs.size := by
  rcases a.top with e | ⟨n, c, hc, e⟩
  · obtain ⟨m, hm⟩ := a.ns
    rw [← e]; exact hm.lt
  · obtain ⟨v, hv⟩ := a.cell n c hc
    rw [← e]; exact hv.lt
theorem EnvOk.ext {g : Heap} {env : Env} {hi : Nat} {h h' : Heap} (a : EnvOk g env hi h) (e : Ext h h') : EnvOk g env hi h' :=
  ⟨a.keep.trans e, a.kind, let ⟨m, hm⟩ := a.ns; ⟨m, hm.keeps e⟩, fun n c hc => let ⟨v, hv⟩ := a.cell n c hc; ⟨v, hv.keeps e⟩, a.above, a.apart, a.fresh, a.lt, a.top⟩
theorem Frm.ext {g : Heap} {env : Env} {hi : Nat} {h h' : Heap} {σ} (a : Frm g env hi h σ) (e : Ext h h') : Frm g env hi h' σ := ⟨a.ok.ext e, a.vars.ext e⟩
theorem Frm.sub {g : Heap} {env : Env} {hi : Nat} {h : Heap} {σ σ'} (a : Frm g env hi h σ) (e : ∀ p ∈ σ', p ∈ σ) : Frm g env hi h σ' := ⟨a.ok, fun x v m => a.vars x v (e _ m)⟩

/-- all objects below an address are kept -/
noncomputable def Low (hi : Nat) (h h' : Heap) : Prop := ∀ b o, b < hi → h.get? b = some o → h'.get? b = some o
theorem Frm.low {g : Heap} {env : Env} {hi : Nat} {h h' : Heap} {σ} (F : Frm g env hi h σ) (e : Low hi h h') : Frm g env hi h' σ := by
  have hloc : ∀ {m}, h.Ns env.locals m → h'.Ns env.locals m := fun hm => hm.at' fun o q => e _ o F.ok.lt q
  have hc : ∀ {n c v}, env.cells.lookup n = some c → h.IsCell c v → h'.IsCell c v := fun {n c v} hl hv => let ⟨o, ho, hd⟩ := hv; ⟨o, e c o (F.ok.above n c (mem_of_lookup hl)).2 ho, hd⟩
  refine ⟨⟨fun b o q => e b o (Nat.lt_trans (Nat.lt_of_lt_of_le (Heap.lt_size q) F.ok.fresh) F.ok.lt) (F.ok.keep b o q), F.ok.kind, ?_, ?_, F.ok.above, F.ok.apart, F.ok.fresh, F.ok.lt, F.ok.top⟩, ?_⟩
  · obtain ⟨m, hm⟩ := F.ok.ns
    exact ⟨m, hloc hm⟩
  · intro n c hl
    obtain ⟨v, hv⟩ := F.ok.cell n c hl
    exact ⟨v, hc hl hv⟩
  · intro x v hx
    rcases F.vars x v hx with ⟨k, m, hn, hm⟩ | ⟨c, k, hl, hv⟩
    · exact .inl ⟨k, m, hloc hn, hm⟩
    · exact .inr ⟨c, k, hl, hc hl hv⟩
theorem Frm.but {g : Heap} {env : Env} {hi : Nat} {h h' : Heap} {σ} {a : Nat} (F : Frm g env hi h σ) (ha : g.objs.size ≤ a) (hl : a < env.locals) (e : ∀ b o, b ≠ a → h.get? b = some o → h'.get? b = some o) : Frm g env hi h' σ := by
  have hloc : ∀ {m}, h.Ns env.locals m → h'.Ns env.locals m := fun hm => hm.at' fun o q => e _ o (Nat.ne_of_gt hl) q
  have hc : ∀ {n c v}, env.cells.lookup n = some c → h.IsCell c v → h'.IsCell c v := fun {n c v} hn hv => let ⟨o, ho, hd⟩ := hv; ⟨o, e c o (Nat.ne_of_gt (Nat.lt_trans hl (F.ok.above n c (mem_of_lookup hn)).1)) ho, hd⟩
  refine ⟨⟨fun b o q => e b o (Nat.ne_of_lt (Nat.lt_of_lt_of_le (Heap.lt_size q) ha)) (F.ok.keep b o q), F.ok.kind, ?_, ?_, F.ok.above, F.ok.apart, F.ok.fresh, F.ok.lt, F.ok.top⟩, ?_⟩
  · obtain ⟨m, hm⟩ := F.ok.ns
    exact ⟨m, hloc hm⟩
  · intro n c hl
    obtain ⟨v, hv⟩ := F.ok.cell n c hl
    exact ⟨v, hc hl hv⟩
  · intro x v hx
    rcases F.vars x v hx with ⟨k, m, hn, hm⟩ | ⟨c, k, hl, hv⟩
    · exact .inl ⟨k, m, hloc hn, hm⟩
    · exact .inr ⟨c, k, hl, hc hl hv⟩
theorem Frm.base {g g₀ : Heap} {env : Env} {hi : Nat} {h : Heap} {σ} (F : Frm g env hi h σ) (e : Ext g₀ g) (hs : g₀.objs.size ≤ g.objs.size) : Frm g₀ env hi h σ :=
  ⟨⟨e.trans F.ok.keep, F.ok.kind, F.ok.ns, F.ok.cell, F.ok.above, F.ok.apart, Nat.le_trans hs F.ok.fresh, F.ok.lt, F.ok.top⟩, F.vars⟩
theorem Frm.var {g : Heap} {env : Env} {hi : Nat} {h : Heap} {σ} (F : Frm g env hi h σ) {x : Str} {v : Value} (e : (x, v) ∈ σ) : VarAt env h x v := F.vars x v e

/-- the names and the free part of `σ` after a store -/
noncomputable def put (σ : List (Str × Value)) (x : Str) (v : Value) : List (Str × Value) := (x, v) :: σ.filter fun p => p.1 != x

section
variable {M : Model} {A : Around} {E : Value → Shared → Prop} {env : Env}

theorem load_var {x : Str} {v : Value} {s : Shared} {Q : Value → Shared → Prop} (hk : env.scope.kind = .function) (hv : VarAt env s.heap x v) (hn : (x == ("__classdict__" : Str)) = false) (h : Q v s) :
    wpAny M A (loadName env x) Q E s := by
  rcases hv with ⟨k, m, hn', hm⟩ | ⟨c, k | k, hc, hv⟩
  · exact wpAny_loadName_local hk k hn' hm h
  · exact wpAny_loadName_cell hk k hc hv h
  · exact wpAny_loadName_free hk k hc hv h hn

theorem ev_name {x : Str} {v : Value} {pos : Pos} {s : Shared} {Q : Value → Shared → Prop} (hk : env.scope.kind = .function) (hv : VarAt env s.heap x v) (h : Q v s)
    (hn : (x == ("__classdict__" : Str)) = false := by decide) (hd : (x == ("__debug__" : Str)) = false := by decide) :
    wpAny M A (eval (.Name x pos) env) Q E s := wpAny_Name (load_var hk hv hn h) hd

theorem store_var {g : Heap} {hi : Nat} {σ : List (Str × Value)} {x : Str} {v : Value} {s : Shared} {Q : Unit → Shared → Prop} (F : Frm g env hi s.heap σ)
    (hx : env.kindOf x = some .local ∨ (env.kindOf x = some .cell ∧ (env.cells.lookup x).isSome = true))
    (h : ∀ h' k, Frm g env hi h' (put σ x v) → Out env.locals hi s.heap h' → Q () { s with heap := h', toks := k }) :
    wpAny M A (storeName env x v) Q E s := by
  obtain ⟨m, hm⟩ := F.ok.ns
  rcases hx with hl | ⟨hc, hs⟩
  · refine wpAny_storeName_local hl hm (fun h' hn' hs' => h h' _ ⟨⟨?_, F.ok.kind, ⟨_, hn'⟩, ?_, F.ok.above, F.ok.apart, F.ok.fresh, F.ok.lt, F.ok.top⟩, ?_⟩ ?_) (by rw [F.ok.kind]; rfl)
    · exact fun b o e => hs'.extBut b o (Nat.ne_of_lt (Nat.lt_of_lt_of_le (Heap.lt_size e) F.ok.fresh)) (F.ok.keep b o e)
    · intro n c hc
      obtain ⟨u, hu⟩ := F.ok.cell n c hc
      exact ⟨u, hu.sameBut hs' (Nat.ne_of_gt (F.ok.above n c (mem_of_lookup hc)).1)⟩
    · intro y u hy
      rcases List.mem_cons.mp hy with e | hy
      · cases e; exact .inl ⟨hl, _, hn', by simp⟩
      · obtain ⟨hy, hne⟩ := List.mem_filter.mp hy
        have hne : y ≠ x := by simpa using hne
        rcases F.vars y u hy with ⟨k, m', hn2, hm2⟩ | ⟨c, k, hc, hv⟩
        · refine .inl ⟨k, _, hn', ?_⟩
          rw [if_neg hne, Heap.Ns.agree hm hn2 y]; exact hm2
        · exact .inr ⟨c, k, hc, hv.sameBut hs' (Nat.ne_of_gt (F.ok.above y c (mem_of_lookup hc)).1)⟩
    · intro b o hb e
      refine hs'.extBut b o ?_ e
      rcases hb with hb | hb
      · exact Nat.ne_of_lt hb
      · exact Nat.ne_of_gt (Nat.lt_of_lt_of_le F.ok.lt hb)
  · obtain ⟨c, hcl⟩ := Option.isSome_iff_exists.mp hs
    have ab := F.ok.above x c (mem_of_lookup hcl)
    obtain ⟨u₀, hu₀⟩ := F.ok.cell x c hcl
    refine wpAny_storeName_cell F.ok.kind hc hcl hu₀ fun h' hc' hs' => h h' _ ⟨⟨?_, F.ok.kind, ⟨_, hm.sameBut hs' (Nat.ne_of_lt ab.1)⟩, ?_, F.ok.above, F.ok.apart, F.ok.fresh, F.ok.lt, F.ok.top⟩, ?_⟩ ?_
    · exact fun b o e => hs'.extBut b o (Nat.ne_of_lt (Nat.lt_trans (Nat.lt_of_lt_of_le (Heap.lt_size e) F.ok.fresh) ab.1)) (F.ok.keep b o e)
    · intro n c' hn
      by_cases e : c' = c
      · subst e; exact ⟨_, hc'⟩
      · obtain ⟨u, hu⟩ := F.ok.cell n c' hn
        exact ⟨u, hu.sameBut hs' e⟩
    · intro y u hy
      rcases List.mem_cons.mp hy with e | hy
      · cases e; exact .inr ⟨c, .inl hc, hcl, hc'⟩
      · obtain ⟨hy, hne⟩ := List.mem_filter.mp hy
        have hne : y ≠ x := by simpa using hne
        rcases F.vars y u hy with ⟨k, m', hn2, hm2⟩ | ⟨c', k, hc2, hv⟩
        · exact .inl ⟨k, _, hn2.sameBut hs' (Nat.ne_of_lt ab.1), hm2⟩
        · exact .inr ⟨c', k, hc2, hv.sameBut hs' fun e => hne (name_of_addr F.ok.apart (mem_of_lookup hc2) (e ▸ mem_of_lookup hcl))⟩
    · intro b o hb e
      refine hs'.extBut b o ?_ e
      rcases hb with hb | hb
      · exact Nat.ne_of_lt (Nat.lt_trans hb ab.1)
      · exact Nat.ne_of_gt (Nat.lt_of_lt_of_le ab.2 hb)
end

/- MB2 -/

noncomputable def P0 : Params := { strHash := fun _ => 0, shareClass := fun _ => 0, mergeTok := fun t => t, idOf := fun _ => 0, idOfShared := fun _ _ => 0, followText := fun _ => true, idOfImm := fun _ => 0 }
noncomputable def fdAt (a : Nat) : FuncData := match (Mine.hd.heap_39 P0).lookup a with
  | some o => match o.data with
    | .func fd => fd
    | _ => default
  | none => default

noncomputable def ncell : List (Str × NameKind) → Nat
  | [] => 0
  | (_, k) :: r => if k == .cell then ncell r + 1 else ncell r

theorem cells_mem : ∀ (names : List (Str × NameKind)) (n : Nat) (acc : List (Str × Addr)) (x : Str) (c : Addr), (x, c) ∈ cellsFrom n names acc → (x, c) ∈ acc ∨ (n ≤ c ∧ c < n + ncell names)
  | [], _, _, _, _, h => .inl h
  | (y, k) :: r, n, acc, x, c, h => by
    unfold cellsFrom at h
    unfold ncell
    by_cases hk : (k == .cell) = true
    · rw [if_pos hk] at h ⊢
      rcases cells_mem r (n + 1) _ x c h with h | h
      · rcases List.mem_cons.mp h with e | h
        · injection e with _ e; subst e
          exact .inr ⟨Nat.le_refl _, Nat.lt_add_of_pos_right (Nat.succ_pos _)⟩
        · exact .inl h
      · refine .inr ⟨Nat.le_of_succ_le h.1, Nat.lt_of_lt_of_eq h.2 ?_⟩
        omega
    · rw [if_neg hk] at h ⊢
      exact cells_mem r n acc x c h
theorem cells_head : ∀ (names : List (Str × NameKind)) (n : Nat) (acc : List (Str × Addr)), (ncell names = 0 ∧ cellsFrom n names acc = acc) ∨ ∃ x l, cellsFrom n names acc = (x, n + ncell names - 1) :: l
  | [], _, _ => .inl ⟨rfl, rfl⟩
  | (y, k) :: r, n, acc => by
    unfold cellsFrom ncell
    by_cases hk : (k == .cell) = true
    · rw [if_pos hk, if_pos hk]
      rcases cells_head r (n + 1) ((y, n) :: acc) with ⟨h0, e⟩ | ⟨x, l, e⟩
      · refine .inr ⟨y, acc, ?_⟩
        rw [e, h0]; rfl
      · refine .inr ⟨x, l, ?_⟩
        rw [e]
        have : n + 1 + ncell r - 1 = n + (ncell r + 1) - 1 := by omega
        rw [this]
    · rw [if_neg hk, if_neg hk]; exact cells_head r n acc

theorem bindL_not {kind : Str → Option NameKind} {x : Str} : ∀ (binds : List (Str × Value)) (m : Str → Option Value), x ∉ binds.map (·.1) → bindL kind binds m x = m x
  | [], _, _ => rfl
  | (n, v) :: r, m, h => by
    unfold bindL
    simp only [List.map_cons, List.mem_cons, not_or] at h
    rw [bindL_not r _ h.2]
    split
    · exact if_neg h.1
    · rfl
theorem bindC_not {kind : Str → Option NameKind} {x : Str} : ∀ (binds : List (Str × Value)) (m : Str → Option Value), x ∉ binds.map (·.1) → bindC kind binds m x = m x
  | [], _, _ => rfl
  | (n, v) :: r, m, h => by
    unfold bindC
    simp only [List.map_cons, List.mem_cons, not_or] at h
    rw [bindC_not r _ h.2]
    split
    · rfl
    · exact if_neg h.1
theorem bindL_mem {kind : Str → Option NameKind} {x : Str} {v : Value} : ∀ (binds : List (Str × Value)) (m : Str → Option Value), (binds.map (·.1)).Nodup → (x, v) ∈ binds → kind x = some .local → bindL kind binds m x = some v
  | (n, u) :: r, m, hd, h, hk => by
    unfold bindL
    obtain ⟨h1, h2⟩ := List.nodup_cons.mp hd
    rcases List.mem_cons.mp h with e | h
    · injection e with e1 e2; subst e1; subst e2
      rw [bindL_not r _ h1, if_pos hk, if_pos rfl]
    · exact bindL_mem r _ h2 h hk
theorem bindC_mem {kind : Str → Option NameKind} {x : Str} {v : Value} : ∀ (binds : List (Str × Value)) (m : Str → Option Value), (binds.map (·.1)).Nodup → (x, v) ∈ binds → kind x = some .cell → bindC kind binds m x = some v
  | (n, u) :: r, m, hd, h, hk => by
    unfold bindC
    obtain ⟨h1, h2⟩ := List.nodup_cons.mp hd
    rcases List.mem_cons.mp h with e | h
    · injection e with e1 e2; subst e1; subst e2
      rw [bindC_not r _ h1, if_neg (by rw [hk]; decide), if_pos rfl]
    · exact bindC_mem r _ h2 h hk

section
variable {prog : Program} {w : World} {A : Around} {s : Shared}

theorem frm_enter {fd : FuncData} {f : Addr} {binds : List (Str × Value)} {s₁ : Shared} (hk : fd.scope.kind = .function)
    (hkind : (binds.all fun y => fd.scope.names.lookup y.1 == some .local || fd.scope.names.lookup y.1 == some .cell) = true) (hnd : (binds.map (·.1)).Nodup)
    (x : InCallC s (callEnvC fd s.heap.objs.size f).locals (bindL (callEnvC fd s.heap.objs.size f).kindOf binds fun _ => none) (callEnvC fd s.heap.objs.size f).cells
        (bindC (callEnvC fd s.heap.objs.size f).kindOf binds fun _ => none) s₁) :
    Frm s.heap (callEnvC fd s.heap.objs.size f) (s.heap.objs.size + 1 + ncell fd.scope.names) s₁.heap binds := by
  refine ⟨⟨x.toInCall.keep, hk, ⟨_, x.toInCall.ns⟩, fun n c hc => ⟨_, x.cell n c hc⟩, fun n c hm => ⟨x.above n c hm, ?_⟩, x.apart, x.toInCall.fresh, ?_, ?_⟩, ?_⟩
  · rcases cells_mem _ _ _ _ _ hm with h | h
    · cases h
    · exact h.2
  · show s.heap.objs.size < s.heap.objs.size + 1 + ncell fd.scope.names
    omega
  · rcases cells_head fd.scope.names (s.heap.objs.size + 1) [] with ⟨h0, _⟩ | ⟨n, l, e⟩
    · left; show s.heap.objs.size + 1 = _; rw [h0]
    · by_cases hz : ncell fd.scope.names = 0
      · left; show s.heap.objs.size + 1 = _; rw [hz]
      · right
        refine ⟨n, s.heap.objs.size + 1 + ncell fd.scope.names - 1, ?_, ?_⟩
        · show List.lookup n (cellsFrom (s.heap.objs.size + 1) fd.scope.names []) = _
          rw [e, List.lookup_cons, beq_self_eq_true]
        · show s.heap.objs.size + 1 + ncell fd.scope.names - 1 + 1 = _
          omega
  · intro y v hy
    have hk' := List.all_eq_true.mp hkind (y, v) hy
    rcases Bool.or_eq_true_iff.mp hk' with q | q
    · have q' : fd.scope.names.lookup y = some .local := by simpa using q
      have q' : (callEnvC fd s.heap.objs.size f).kindOf y = some .local := q'
      exact .inl ⟨q', _, x.toInCall.ns, bindL_mem _ _ hnd hy q'⟩
    · have q' : fd.scope.names.lookup y = some .cell := by simpa using q
      obtain ⟨c, hc⟩ := Option.isSome_iff_exists.mp (cellsFrom_some (x := y) fd.scope.names (s.heap.objs.size + 1) [] (.inl q'))
      refine .inr ⟨c, .inl q', hc, ?_⟩
      have := x.cell y c hc
      rwa [bindC_mem _ _ hnd hy q'] at this

theorem enter {R : Result → Shared → Prop} {f : Addr} {o : Obj} {fd : FuncData} {body : List Stmt} {vals : List Value} {binds : List (Str × Value)} {n : Nat}
    (r : Rm A (n + 1)) (c : Cx w s.heap) (ho : (KF w).lookup f = some o) (hdata : o.data = .func fd) (hcd : codeIn (KF w) fd.code fd.qualname = true)
    (hbody : fd.body = .stmts body) (hbind : bindArgs fd ⟨vals, []⟩ = pure binds) (hclo : fd.closure = [])
    (hkind : (binds.all fun y => fd.scope.names.lookup y.1 == some .local || fd.scope.names.lookup y.1 == some .cell) = true) (hnd : (binds.map (·.1)).Nodup)
    (h : ∀ h₁ k, Frm s.heap (callEnvC fd s.heap.objs.size f) (s.heap.objs.size + 1 + ncell fd.scope.names) h₁ binds → Cx w h₁ → Rm (A.deeper (callEnvC fd s.heap.objs.size f)) n →
      wpAny (model prog w) (A.deeper (callEnvC fd s.heap.objs.size f)) (execs body (callEnvC fd s.heap.objs.size f)) (fun fl s' => R (.ok (.ret (match fl with | .ret v => v | _ => .none))) s')
        (fun e s' => wpAny (model prog w) (A.deeper (callEnvC fd s.heap.objs.size f)) (leaving (callEnvC fd s.heap.objs.size f) e) (fun _ s'' => R (.error e) s'') (fun e' s'' => R (.error e') s'') s')
        ⟨h₁, s.gens, s.drawn, k, s.os⟩)
    (hco : fd.scope.isCoroutine = false) (hgen : fd.scope.isGenerator = false) (hk : fd.scope.kind = .function) :
    codeAny (model prog w) A (.call (.ref f) ⟨vals, []⟩) R s := by
  refine codeAny_call_cells r.room (c.K _ _ ho) hdata c.nolimit (codeRec_of c.K hcd) hbody hbind hclo (fun y hy => ?_) (fun s₁ x => ?_) hco hgen hk
  · have hk' := List.all_eq_true.mp hkind y hy
    rcases Bool.or_eq_true_iff.mp hk' with q | q
    · exact .inl (by simpa using q)
    · exact .inr ⟨by simpa using q, cellsFrom_some _ _ _ (.inl (by simpa using q))⟩
  · have F := frm_enter hk hkind hnd x
    obtain ⟨h₁, tk, rfl⟩ := x.toInCall.same
    exact h h₁ tk F (c.ext F.ok.keep) (r.deeper _)
end

section
variable {prog : Program} {w : World} {A : Around} {h : Heap} {gs : Array GenState} {d : Drawn} {k : Nat} {os : OsState}
theorem enterF {R : Result → Shared → Prop} {f : Addr} {o : Obj} {fd : FuncData} {body : List Stmt} {vals : List Value} {n : Nat} (binds : List (Str × Value)) (names : List Str)
    (r : Rm A (n + 1)) (c : Cx w h) (ho : (KF w).lookup f = some o) (hdata : o.data = .func fd) (hcd : codeIn (KF w) fd.code fd.qualname = true)
    (hbody : fd.body = .stmts body) (hbind : bindArgs fd ⟨vals, []⟩ = pure binds) (hclo : fd.closure = [])
    (hkind : (binds.all fun y => fd.scope.names.lookup y.1 == some .local || fd.scope.names.lookup y.1 == some .cell) = true) (hnm : binds.map (·.1) = names) (hnd : names.Nodup)
    (H : ∀ h₁ k₁, Frm h (callEnvC fd h.objs.size f) (h.objs.size + 1 + ncell fd.scope.names) h₁ binds → Cx w h₁ → Rm (A.deeper (callEnvC fd h.objs.size f)) n → ∀ E,
      wpAny (model prog w) (A.deeper (callEnvC fd h.objs.size f)) (execs body (callEnvC fd h.objs.size f)) (fun fl s' => R (.ok (.ret (match fl with | .ret v => v | _ => .none))) s') E
        ⟨h₁, gs, d, k₁, os⟩)
    (hco : fd.scope.isCoroutine = false) (hgen : fd.scope.isGenerator = false) (hk : fd.scope.kind = .function) :
    codeAny (model prog w) A (.call (.ref f) ⟨vals, []⟩) R ⟨h, gs, d, k, os⟩ :=
  enter r c ho hdata hcd hbody hbind hclo hkind (hnm ▸ hnd) (fun h₁ k₁ F c₁ r₁ => H h₁ k₁ F c₁ r₁ _) hco hgen hk
end

/- MR -/

section
variable {prog : Program} {w : World} {A : Around} {E : Value → Shared → Prop} {env : Env} {h : Heap} {gs : Array GenState} {d : Drawn} {k : Nat} {os : OsState} {Q : Value → Shared → Prop}

theorem r_int {i : Int} {u : Nat} {p : Pos} (H : ∀ t k', Q (.int i t) ⟨h, gs, d, k', os⟩) : wpAny (model prog w) A (eval (.Constant (.int i) u p) env) Q E ⟨h, gs, d, k, os⟩ := wpAny_Constant_int (H _ _)
theorem r_str {x : Str} {u : Nat} {p : Pos} (H : ∀ t k', Q (.str x t) ⟨h, gs, d, k', os⟩) : wpAny (model prog w) A (eval (.Constant (.str x) u p) env) Q E ⟨h, gs, d, k, os⟩ := wpAny_Constant_str (H _ _)
theorem r_bool {b : Bool} {u : Nat} {p : Pos} (H : Q (.bool b) ⟨h, gs, d, k, os⟩) : wpAny (model prog w) A (eval (.Constant (.bool b) u p) env) Q E ⟨h, gs, d, k, os⟩ := wpAny_pure H
theorem r_none {u : Nat} {p : Pos} (H : Q .none ⟨h, gs, d, k, os⟩) : wpAny (model prog w) A (eval (.Constant .none u p) env) Q E ⟨h, gs, d, k, os⟩ := wpAny_pure H
theorem r_name {x : Str} {v : Value} {pos : Pos} (hk : env.scope.kind = .function) (hv : VarAt env h x v) (H : Q v ⟨h, gs, d, k, os⟩)
    (hn : (x == ("__classdict__" : Str)) = false := by decide) (hd : (x == ("__debug__" : Str)) = false := by decide) :
    wpAny (model prog w) A (eval (.Name x pos) env) Q E ⟨h, gs, d, k, os⟩ := ev_name hk hv H hn hd
theorem r_glob {x : Str} {v : Value} {pos : Pos} (c : Cx w h) (e : nsIn (KF w) mainGlobals x = some (some v)) (H : Q v ⟨h, gs, d, k, os⟩)
    (hk : env.scope.kind = .function) (hx : env.kindOf x = some .globalImplicit) (hg : env.globals = mainGlobals) (hd : (x == ("__debug__" : Str)) = false := by decide) :
    wpAny (model prog w) A (eval (.Name x pos) env) Q E ⟨h, gs, d, k, os⟩ := by
  obtain ⟨me, mg, mb, T⟩ := c.T
  exact Name_function_global hk hx (loadGlobal_global (by rw [hg]; exact T.g) (mg_of c.K T.g e) H) hd
theorem r_blt {x : Str} {v : Value} {pos : Pos} (c : Cx w h) (e : nsIn (KF w) mainGlobals x = some none) (hv : bootBuiltins x = some v) (hn : x ≠ "__name__") (H : Q v ⟨h, gs, d, k, os⟩)
    (hk : env.scope.kind = .function) (hx : env.kindOf x = some .globalImplicit) (hg : env.globals = mainGlobals) (hb : env.builtins = builtinsNs) (hd : (x == ("__debug__" : Str)) = false := by decide) :
    wpAny (model prog w) A (eval (.Name x pos) env) Q E ⟨h, gs, d, k, os⟩ := by
  obtain ⟨me, mg, mb, T⟩ := c.T
  exact Name_function_global hk hx (loadGlobal_builtin (by rw [hg]; exact T.g) (mg_none_of c.K T.g e) (by rw [hb]; exact T.b) ((T.builtins x hn).trans hv) H) hd

theorem r_add {a b : Int} {t u : Tok} (H : ∀ t' k', Q (.int (a + b) t') ⟨h, gs, d, k', os⟩) : wpAny (model prog w) A (binaryOp .Add (.int a t) (.int b u)) Q E ⟨h, gs, d, k, os⟩ := add_int (H _ _)
theorem r_sub {a b : Int} {t u : Tok} (H : ∀ t' k', Q (.int (a - b) t') ⟨h, gs, d, k', os⟩) : wpAny (model prog w) A (binaryOp .Sub (.int a t) (.int b u)) Q E ⟨h, gs, d, k, os⟩ := sub_int (H _ _)
theorem r_mul {a b : Int} {t u : Tok} (H : ∀ t' k', Q (.int (a * b) t') ⟨h, gs, d, k', os⟩) (hm : IntMulOk a b) : wpAny (model prog w) A (binaryOp .Mult (.int a t) (.int b u)) Q E ⟨h, gs, d, k, os⟩ := mul_int (H _ _) hm
theorem r_mod {a b : Int} {t u : Tok} (hb : b ≠ 0) (H : ∀ t' k', Q (.int (a.fmod b) t') ⟨h, gs, d, k', os⟩) : wpAny (model prog w) A (binaryOp .Mod (.int a t) (.int b u)) Q E ⟨h, gs, d, k, os⟩ := mod_int hb (H _ _)
theorem r_div {a b : Int} {t u : Tok} (hb : b ≠ 0) (hs : b.natAbs < 1073741824) (H : ∀ t' k', Q (.int (a.fdiv b) t') ⟨h, gs, d, k', os⟩) : wpAny (model prog w) A (binaryOp .FloorDiv (.int a t) (.int b u)) Q E ⟨h, gs, d, k, os⟩ := floordiv_int hb (H _ _) (.inl (PyProof.noPylong_small hs))
theorem r_adds {x y : Str} {t u : Tok} (hsz : x.length + y.length ≤ sizeLine) (H : ∀ t' k', Q (.str (x ++ y) t') ⟨h, gs, d, k', os⟩) : wpAny (model prog w) A (binaryOp .Add (.str x t) (.str y u)) Q E ⟨h, gs, d, k, os⟩ := add_str (fun _ _ => H _ _) hsz

theorem r_binop {l r : PySem.Expr} {op : Operator} {pos : Pos}
    (H : wpAny (model prog w) A (eval l env) (fun a s₁ => wpAny (model prog w) A (eval r env) (fun b s₂ => wpAny (model prog w) A (binaryOp op a b) Q E s₂) E s₁) E ⟨h, gs, d, k, os⟩) :
    wpAny (model prog w) A (eval (.BinOp l op r pos) env) Q E ⟨h, gs, d, k, os⟩ := wpAny_BinOp H

/- truth of a comparison: one bool -/
theorem r_test {l r : PySem.Expr} {op : CmpOp} {pos : Pos} {whole : Sem Value} {Q : Bool → Shared → Prop}
    (H : wpAny (model prog w) A (eval l env) (fun a s₁ => wpAny (model prog w) A (eval r env) (fun b s₂ => wpAny (model prog w) A (compareOp op a b) (fun c s₃ => ∃ z, c = .bool z ∧ Q z s₃) E s₂) E s₁) E ⟨h, gs, d, k, os⟩)
    (hm : behindInMarks op r = false := by with_unfolding_all rfl) :
    wpAny (model prog w) A (isTrue (.Compare l [op] [r] pos) env whole) Q E ⟨h, gs, d, k, os⟩ :=
  wpAny_isTrue_Compare1 (wpAny_mono H (fun _ _ h₁ => wpAny_mono h₁ (fun _ _ h₂ => wpAny_mono h₂ (fun c s₃ h₃ => by obtain ⟨z, rfl, hz⟩ := h₃; exact wpAny_truthy_bool hz) fun _ _ e => e) fun _ _ e => e) fun _ _ e => e) hm

theorem r_eqs {x y : Str} {t u : Tok} (H : Q (.bool (x == y)) ⟨h, gs, d, k, os⟩) : wpAny (model prog w) A (compareOp .Eq (.str x t) (.str y u)) Q E ⟨h, gs, d, k, os⟩ := PyProof.Rows.eq_str H
theorem r_eq {a b : Int} {t u : Tok} (H : Q (.bool (a == b)) ⟨h, gs, d, k, os⟩) : wpAny (model prog w) A (compareOp .Eq (.int a t) (.int b u)) Q E ⟨h, gs, d, k, os⟩ := PyProof.Rows.eq_int H
theorem r_ne {a b : Int} {t u : Tok} (H : Q (.bool (a != b)) ⟨h, gs, d, k, os⟩) : wpAny (model prog w) A (compareOp .NotEq (.int a t) (.int b u)) Q E ⟨h, gs, d, k, os⟩ := PyProof.Rows.ne_int H
theorem r_lt {a b : Int} {t u : Tok} (H : Q (.bool (decide (a < b))) ⟨h, gs, d, k, os⟩) : wpAny (model prog w) A (compareOp .Lt (.int a t) (.int b u)) Q E ⟨h, gs, d, k, os⟩ := lt_int H
theorem r_gt {a b : Int} {t u : Tok} (H : Q (.bool (decide (b < a))) ⟨h, gs, d, k, os⟩) : wpAny (model prog w) A (compareOp .Gt (.int a t) (.int b u)) Q E ⟨h, gs, d, k, os⟩ := gt_int H

theorem r_le {a b : Int} {t u : Tok} (H : Q (.bool (decide (a ≤ b))) ⟨h, gs, d, k, os⟩) : wpAny (model prog w) A (compareOp .LtE (.int a t) (.int b u)) Q E ⟨h, gs, d, k, os⟩ := PyProof.Rows.le_int H
theorem r_ge {a b : Int} {t u : Tok} (H : Q (.bool (decide (b ≤ a))) ⟨h, gs, d, k, os⟩) : wpAny (model prog w) A (compareOp .GtE (.int a t) (.int b u)) Q E ⟨h, gs, d, k, os⟩ := PyProof.Rows.ge_int H

/- statements -/
variable {R : Flow → Shared → Prop}
theorem s_nil (H : R .next ⟨h, gs, d, k, os⟩) : wpAny (model prog w) A (execs [] env) R E ⟨h, gs, d, k, os⟩ := wpAny_execs_nil H
theorem s_ret {e : PySem.Expr} {pos : Pos} {rest : List Stmt} (H : wpAny (model prog w) A (eval e env) (fun v => R (.ret v)) E ⟨h, gs, d, k, os⟩) : wpAny (model prog w) A (execs (.Return (some e) pos :: rest) env) R E ⟨h, gs, d, k, os⟩ :=
  wpAny_execs_cons (wpAny_Return_some H)
theorem s_brk {pos : Pos} {rest : List Stmt} (H : R .brk ⟨h, gs, d, k, os⟩) : wpAny (model prog w) A (execs (.Break pos :: rest) env) R E ⟨h, gs, d, k, os⟩ :=
  wpAny_execs_cons (fun _ _ _ => H)
/-- what follows a statement -/
noncomputable abbrev Then (prog : Program) (w : World) (A : Around) (env : Env) (rest : List Stmt) (R : Flow → Shared → Prop) (E : Value → Shared → Prop) : Flow → Shared → Prop := fun f s' => match f with
  | .next => wpAny (model prog w) A (execs rest env) R E s'
  | f => R f s'
theorem s_cons {st : Stmt} {rest : List Stmt} {s : Shared} (H : wpAny (model prog w) A (exec st env) (Then prog w A env rest R E) E s) : wpAny (model prog w) A (execs (st :: rest) env) R E s :=
  wpAny_execs_cons (wpAny_mono H (fun f _ q => by cases f <;> exact q) fun _ _ e => e)
theorem s_if {test : PySem.Expr} {body orelse : List Stmt} {pos : Pos} {rest : List Stmt}
    (H : wpAny (model prog w) A (isTrue test env (eval test env)) (fun b s₂ => (b = true → wpAny (model prog w) A (execs body env) (Then prog w A env rest R E) E s₂) ∧ (b = false → wpAny (model prog w) A (execs orelse env) (Then prog w A env rest R E) E s₂)) E ⟨h, gs, d, k, os⟩) :
    wpAny (model prog w) A (execs (.If test body orelse pos :: rest) env) R E ⟨h, gs, d, k, os⟩ :=
  s_cons (wpAny_If (wpAny_mono H (fun b _ q => by cases b; exact q.2 rfl; exact q.1 rfl) fun _ _ e => e))
theorem s_ifP {test : PySem.Expr} {body orelse : List Stmt} {pos : Pos} {rest : List Stmt} (Post : Heap → Prop)
    (H : wpAny (model prog w) A (isTrue test env (eval test env)) (fun b s₂ => (b = true → wpAny (model prog w) A (execs body env) (fun f s' => f = .next ∧ ∃ h' k', s' = ⟨h', gs, d, k', os⟩ ∧ Post h') E s₂) ∧ (b = false → wpAny (model prog w) A (execs orelse env) (fun f s' => f = .next ∧ ∃ h' k', s' = ⟨h', gs, d, k', os⟩ ∧ Post h') E s₂)) E ⟨h, gs, d, k, os⟩)
    (K : ∀ h' k', Post h' → wpAny (model prog w) A (execs rest env) R E ⟨h', gs, d, k', os⟩) :
    wpAny (model prog w) A (execs (.If test body orelse pos :: rest) env) R E ⟨h, gs, d, k, os⟩ := by
  have conv : ∀ {f : Flow} {s' : Shared}, (f = .next ∧ ∃ h' k', s' = ⟨h', gs, d, k', os⟩ ∧ Post h') → Then prog w A env rest R E f s' := by
    rintro f s' ⟨rfl, h', k', rfl, p⟩
    exact K h' k' p
  exact s_if (wpAny_mono H (fun b s₂ q => ⟨fun hb => wpAny_mono (q.1 hb) (fun _ _ z => conv z) fun _ _ e => e, fun hb => wpAny_mono (q.2 hb) (fun _ _ z => conv z) fun _ _ e => e⟩) fun _ _ e => e)
theorem s_set {g : Heap} {hi : Nat} {σ : List (Str × Value)} {x : Str} {pos' : Pos} {value : PySem.Expr} {pos : Pos} {rest : List Stmt} (F : Frm g env hi h σ)
    (hx : env.kindOf x = some .local ∨ (env.kindOf x = some .cell ∧ (env.cells.lookup x).isSome = true))
    (hs : swapsWith value (some (.Name x pos')) pos.line env = pure false)
    (H : wpAny (model prog w) A (eval value env) (fun v s₁ => ∃ h₁ k₁, s₁ = ⟨h₁, gs, d, k₁, os⟩ ∧ Ext h h₁ ∧ ∀ h' k', Frm g env hi h' (put σ x v) → Out env.locals hi h₁ h' → wpAny (model prog w) A (execs rest env) R E ⟨h', gs, d, k', os⟩) E ⟨h, gs, d, k, os⟩) :
    wpAny (model prog w) A (execs (.Assign [.Name x pos'] value pos :: rest) env) R E ⟨h, gs, d, k, os⟩ :=
  s_cons (wpAny_Assign_Name (wpAny_mono H (fun v s₁ q => by obtain ⟨h₁, k₁, rfl, e, q⟩ := q; exact store_var (F.ext e) hx q) fun _ _ e => e) hs)
theorem s_assign {g : Heap} {hi : Nat} {σ : List (Str × Value)} {x : Str} {px : Pos} {v : Value} {Q : Unit → Shared → Prop}
    (hx : env.kindOf x = some .local ∨ (env.kindOf x = some .cell ∧ (env.cells.lookup x).isSome = true)) (F : Frm g env hi h σ)
    (H : ∀ h' k', Frm g env hi h' (put σ x v) → Out env.locals hi h h' → Q () ⟨h', gs, d, k', os⟩) :
    wpAny (model prog w) A (assign (.Name x px) env v) Q E ⟨h, gs, d, k, os⟩ := wpAny_assign_Name (store_var F hx H)
noncomputable abbrev LoopEnd (gs : Array GenState) (d : Drawn) (os : OsState) (Inv Post : Heap → Prop) (R : Flow → Shared → Prop) : Flow → Shared → Prop := fun f s => match f with
  | .next | .cont => ∃ h' k', s = ⟨h', gs, d, k', os⟩ ∧ Inv h'
  | .brk => ∃ h' k', s = ⟨h', gs, d, k', os⟩ ∧ Post h'
  | .ret v => R (.ret v) s
/-- evaluation with what is known behind it: the heap only grows -/
theorem cut {α : Type} {t : Sem α} {Q : α → Shared → Prop} (P : α → Heap → Prop)
    (H1 : wpAny (model prog w) A t (fun v s' => ∃ h' k', s' = ⟨h', gs, d, k', os⟩ ∧ Ext h h' ∧ P v h') E ⟨h, gs, d, k, os⟩)
    (H2 : ∀ v h' k', Ext h h' → P v h' → Q v ⟨h', gs, d, k', os⟩) : wpAny (model prog w) A t Q E ⟨h, gs, d, k, os⟩ :=
  wpAny_mono H1 (fun v s' q => by obtain ⟨h', k', rfl, x, p⟩ := q; exact H2 v h' k' x p) fun _ _ e => e

theorem c_for {I : Addr} {fp wr : List Addr} {n : Nat} {P : Nat → Value → Prop} {St : Nat → Heap → Prop} (W : Walks prog w A I fp wr n P St)
    {target : PySem.Expr} {body : List Stmt} (Inv : Nat → Heap → Prop) {R : Result → Shared → Prop}
    (h0 : Inv 0 h) (st0 : St 0 h) (ht : ∀ v, letOwnedTupleGo target (.ref I) v = pure ())
    (turn : ∀ i h k v h₁ E', i < n → Inv i h → St (i + 1) h₁ → P i v → (∀ b o, b ∉ wr → h.get? b = some o → h₁.get? b = some o) →
      wpAny (model prog w) A (assign target env v) (fun _ s₂ => wpAny (model prog w) A (execs body env) (fun f s₃ => match f with
          | .next | .cont => ∃ h' k', s₃ = ⟨h', gs, d, k', os⟩ ∧ Inv (i + 1) h' ∧ St (i + 1) h'
          | .brk => R (.ok .next) s₃
          | .ret v => R (.ok (.ret v)) s₃) E' s₂) E' ⟨h₁, gs, d, k, os⟩)
    (fin : ∀ h k h₁, Inv n h → (∀ b o, b ∉ wr → h.get? b = some o → h₁.get? b = some o) → R (.ok .next) ⟨h₁, gs, d, k, os⟩) :
    codeAny (model prog w) A (.forLoop target (.ref I) body [] env) R ⟨h, gs, d, k, os⟩ := by
  refine codeAny_forLoop (fun m s => ∃ i h k, m = n - i ∧ i ≤ n ∧ s = ⟨h, gs, d, k, os⟩ ∧ Inv i h ∧ St i h) ?_ n ⟨0, h, k, rfl, Nat.zero_le _, rfl, h0, st0⟩ ht
  rintro m s ⟨i, h, k, rfl, hi, rfl, hI, hS⟩
  by_cases hlt : i < n
  · refine W.item i _ _ _ hlt hS fun v h₁ tk hP hS₁ hk₁ => ?_
    refine wpAny_mono (turn i h tk v h₁ _ hlt hI hS₁ hP hk₁) (fun _ s₂ h₂ => wpAny_mono h₂ (fun f s₃ h₃ => ?_) fun _ _ e => e) fun _ _ e => e
    cases f with
    | next => obtain ⟨h', k', rfl, a, b⟩ := h₃; exact ⟨n - (i + 1), by omega, i + 1, h', k', rfl, hlt, rfl, a, b⟩
    | cont => obtain ⟨h', k', rfl, a, b⟩ := h₃; exact ⟨n - (i + 1), by omega, i + 1, h', k', rfl, hlt, rfl, a, b⟩
    | brk => exact h₃
    | ret v => exact h₃
  · have e : i = n := by omega
    subst e
    exact W.done _ _ _ hS fun h₁ tk hk₁ => wpAny_execs_nil (fin h tk h₁ hI hk₁)

theorem c_while {test : PySem.Expr} {body : List Stmt} (Inv : Nat → Heap → Prop) {R : Result → Shared → Prop} (n : Nat) (h0 : Inv n h)
    (turn : ∀ m h k E', Inv m h → wpAny (model prog w) A (isTrue test env (eval test env)) (fun b s₂ =>
        (b = true → wpAny (model prog w) A (execs body env) (fun f s₃ => match f with
            | .next | .cont => ∃ m' h' k', m' < m ∧ s₃ = ⟨h', gs, d, k', os⟩ ∧ Inv m' h'
            | .brk => R (.ok .next) s₃
            | .ret v => R (.ok (.ret v)) s₃) E' s₂) ∧ (b = false → R (.ok .next) s₂)) E' ⟨h, gs, d, k, os⟩) :
    codeAny (model prog w) A (.whileLoop test body [] env) R ⟨h, gs, d, k, os⟩ := by
  refine codeAny_whileLoop (fun m s => ∃ h k, s = ⟨h, gs, d, k, os⟩ ∧ Inv m h) ?_ n ⟨h, k, rfl, h0⟩
  rintro m s ⟨h, k, rfl, hI⟩
  refine wpAny_mono (turn m h k _ hI) (fun b s₂ q => ?_) fun _ _ e => e
  cases b with
  | false => rw [if_neg Bool.false_ne_true]; exact wpAny_execs_nil (q.2 rfl)
  | true =>
    rw [if_pos rfl]
    refine wpAny_mono (q.1 rfl) (fun f s₃ h₃ => ?_) fun _ _ e => e
    cases f with
    | next => obtain ⟨m', h', k', hm, rfl, a⟩ := h₃; exact ⟨m', hm, h', k', rfl, a⟩
    | cont => obtain ⟨m', h', k', hm, rfl, a⟩ := h₃; exact ⟨m', hm, h', k', rfl, a⟩
    | brk => exact h₃
    | ret v => exact h₃

theorem s_forP {I : Addr} {fp wr : List Addr} {n : Nat} {P : Nat → Value → Prop} {St : Nat → Heap → Prop} (W : Walks prog w A I fp wr n P St)
    {target : PySem.Expr} {body : List Stmt} {rest : List Stmt} {E' : Value → Shared → Prop} (Inv : Nat → Heap → Prop) (Post : Heap → Prop)
    (h0 : Inv 0 h) (st0 : St 0 h) (ht : ∀ v, letOwnedTupleGo target (.ref I) v = pure ())
    (turn : ∀ i h k v h₁ E', i < n → Inv i h → St (i + 1) h₁ → P i v → (∀ b o, b ∉ wr → h.get? b = some o → h₁.get? b = some o) →
      wpAny (model prog w) A (assign target env v) (fun _ s₂ => wpAny (model prog w) A (execs body env) (LoopEnd gs d os (fun h' => Inv (i + 1) h' ∧ St (i + 1) h') Post R) E' s₂) E' ⟨h₁, gs, d, k, os⟩)
    (fin : ∀ h h₁, Inv n h → (∀ b o, b ∉ wr → h.get? b = some o → h₁.get? b = some o) → Post h₁)
    (K : ∀ h' k', Post h' → wpAny (model prog w) A (execs rest env) R E ⟨h', gs, d, k', os⟩) :
    codeAny (model prog w) A (.forLoop target (.ref I) body [] env) (fun r s' => match r with | .ok f => Then prog w A env rest R E f s' | .error e => cameBackBy (model prog w) A env E' e s') ⟨h, gs, d, k, os⟩ := by
  refine c_for W Inv h0 st0 ht (fun i h k v h₁ E' hi hI hS hP hk => ?_) (fun h k h₁ hI hk => K _ _ (fin h h₁ hI hk))
  refine wpAny_mono (turn i h k v h₁ E' hi hI hS hP hk) (fun _ s₂ h₂ => wpAny_mono h₂ (fun f s₃ h₃ => ?_) fun _ _ e => e) fun _ _ e => e
  cases f with
  | next => exact h₃
  | cont => exact h₃
  | brk => obtain ⟨h', k', rfl, p⟩ := h₃; exact K _ _ p
  | ret v => exact h₃
theorem s_for {target iter : PySem.Expr} {body : List Stmt} {pos : Pos} {rest : List Stmt} (hs : ∀ x, foldedSetIterable iter env x = pure x)
    (H : wpAny (model prog w) A (eval iter env) (fun x s₁ => wpAny (model prog w) A (pyIter x) (fun it s₂ =>
      codeAny (model prog w) A (.forLoop target it body [] env) (fun r s' => match r with | .ok f => Then prog w A env rest R E f s' | .error e => cameBackBy (model prog w) A env E e s') s₂) E s₁) E ⟨h, gs, d, k, os⟩) :
    wpAny (model prog w) A (execs (.For target iter body [] pos :: rest) env) R E ⟨h, gs, d, k, os⟩ :=
  s_cons (wpAny_For H hs)
theorem s_while {test : PySem.Expr} {body : List Stmt} {pos : Pos} {rest : List Stmt} (Inv : Nat → Heap → Prop) (Post : Heap → Prop) (n : Nat) (h0 : Inv n h)
    (turn : ∀ m h k E', Inv m h → wpAny (model prog w) A (isTrue test env (eval test env)) (fun b s₂ =>
        (b = true → wpAny (model prog w) A (execs body env) (LoopEnd gs d os (fun h' => ∃ m', m' < m ∧ Inv m' h') Post R) E' s₂) ∧ (b = false → ∃ h' k', s₂ = ⟨h', gs, d, k', os⟩ ∧ Post h')) E' ⟨h, gs, d, k, os⟩)
    (K : ∀ h' k', Post h' → wpAny (model prog w) A (execs rest env) R E ⟨h', gs, d, k', os⟩) :
    wpAny (model prog w) A (execs (.While test body [] pos :: rest) env) R E ⟨h, gs, d, k, os⟩ := by
  refine s_cons (wpAny_While (c_while Inv n h0 fun m h k E' hI => ?_))
  refine wpAny_mono (turn m h k E' hI) (fun b s₂ q => ⟨fun hb => wpAny_mono (q.1 hb) (fun f s₃ h₃ => ?_) fun _ _ e => e, fun hb => ?_⟩) fun _ _ e => e
  · cases f with
    | next => obtain ⟨h', k', rfl, m', hm, p⟩ := h₃; exact ⟨m', h', k', hm, rfl, p⟩
    | cont => obtain ⟨h', k', rfl, m', hm, p⟩ := h₃; exact ⟨m', h', k', hm, rfl, p⟩
    | brk => obtain ⟨h', k', rfl, p⟩ := h₃; exact K _ _ p
    | ret v => exact h₃
  · obtain ⟨h', k', rfl, p⟩ := q.2 hb; exact K _ _ p
end

/- MS -/

/-- a text by the list of its signs -/
noncomputable def S (l : List Nat) : Str := ⟨l.toArray⟩
theorem S_length (l : List Nat) : (S l).length = l.length := by simp [S, Str.length]
theorem S_cps (l : List Nat) : (S l).cps.toList = l := by simp [S]
theorem S_append (l r : List Nat) : S l ++ S r = S (l ++ r) := by
  apply Str.ext'
  rw [Str.cps_append]
  simp [S]
theorem S_beq (l r : List Nat) : (S l == S r) = decide (l = r) := by
  by_cases e : l = r
  · subst e; simp
  · have : S l ≠ S r := fun h => e (by have := congrArg (fun x => x.cps.toList) h; simpa [S] using this)
    rw [decide_eq_false e]
    simpa using this
theorem S_of (x : Str) : x = S x.cps.toList := by
  obtain ⟨c⟩ := x
  simp [S]
theorem sign_S {l : List Nat} {i : Nat} {v : Value} (a : SignAt (S l) i v) : ∃ c u, l[i]? = some c ∧ v = .str (S [c]) u := by
  obtain ⟨c, u, hc, rfl⟩ := a
  exact ⟨c, u, by simpa [S] using hc, rfl⟩

theorem take_min {α : Type} (l : List α) (n : Nat) : l.take (min n l.length) = l.take n := by
  by_cases h : n ≤ l.length
  · rw [Nat.min_eq_left h]
  · rw [Nat.min_eq_right (by omega), List.take_of_length_le (Nat.le_refl _), List.take_of_length_le (by omega)]
theorem cast_min (m n : Nat) : min ((min m n : Nat) : Int) (n : Int) = min (m : Int) (n : Int) := by omega
open Builtin.Str in
theorem idx_clip (a b n : Nat) : strSliceIndices (some (a : Int)) (some (b : Int)) 1 n = strSliceIndices (some ((min a n : Nat) : Int)) (some ((min b n : Nat) : Int)) 1 n := by
  have h2 : (1 : Int) > 0 := by decide
  have h0 : ∀ m : Nat, ¬ ((m : Int) < 0) := fun m => by omega
  simp only [strSliceIndices, h0, h2, if_false, if_true]
  have e : ∀ m : Nat, min ((min m n : Nat) : Int) (n : Int) = min (m : Int) (n : Int) := fun m => cast_min m n
  rw [e, e]
open Builtin.Str in
theorem idx_clipR (b n : Nat) : strSliceIndices none (some (b : Int)) 1 n = strSliceIndices none (some ((min b n : Nat) : Int)) 1 n := by
  have h2 : (1 : Int) > 0 := by decide
  have h0 : ∀ m : Nat, ¬ ((m : Int) < 0) := fun m => by omega
  simp only [strSliceIndices, h0, h2, if_false, if_true]
  have e : ∀ m : Nat, min ((min m n : Nat) : Int) (n : Int) = min (m : Int) (n : Int) := fun m => cast_min m n
  rw [e]
theorem slice_ss (l : List Nat) (a b : Nat) (h : a ≤ b) : Txt.slice (S l) (some (a : Int)) (some (b : Int)) = S ((l.drop a).take (b - a)) := by
  have e : Txt.slice (S l) (some (a : Int)) (some (b : Int)) = Txt.slice (S l) (some ((min a l.length : Nat) : Int)) (some ((min b l.length : Nat) : Int)) := by
    unfold Txt.slice
    rw [S_length, idx_clip]
  rw [e, beq_iff_eq.mp (slice_closes (x := S l) ⟨Int.natCast_nonneg _, Int.ofNat_le.mpr (Nat.le_min.mpr ⟨Nat.le_trans (Nat.min_le_left _ _) h, Nat.min_le_right _ _⟩), by rw [S_cps]; exact Int.ofNat_le.mpr (Nat.min_le_right _ _)⟩), S_cps]
  show S _ = S _
  congr 1
  have e1 : (((min a l.length : Nat) : Int)).toNat = min a l.length := Int.toNat_natCast _
  have e2 : (((min b l.length : Nat) : Int) - ((min a l.length : Nat) : Int)).toNat = min b l.length - min a l.length := Int.toNat_sub _ _
  rw [e1, e2]
  by_cases ha : a ≤ l.length
  · rw [Nat.min_eq_left ha]
    by_cases hb : b ≤ l.length
    · rw [Nat.min_eq_left hb]
    · have hb := Nat.le_of_not_le hb
      rw [Nat.min_eq_right hb, List.take_of_length_le (by rw [List.length_drop]; exact Nat.le_refl _), List.take_of_length_le (by rw [List.length_drop]; exact Nat.sub_le_sub_right hb _)]
  · have ha := Nat.le_of_not_le ha
    rw [Nat.min_eq_right ha, List.drop_of_length_le (Nat.le_refl _), List.drop_of_length_le ha]
    simp
theorem slice_ns (l : List Nat) (b : Nat) : Txt.slice (S l) none (some (b : Int)) = S (l.take b) := by
  have e : Txt.slice (S l) none (some (b : Int)) = Txt.slice (S l) none (some ((min b l.length : Nat) : Int)) := by
    unfold Txt.slice
    rw [S_length, idx_clipR]
  rw [e, beq_iff_eq.mp (slice_closes_to (x := S l) ⟨Int.natCast_nonneg _, by rw [S_cps]; exact Int.ofNat_le.mpr (Nat.min_le_right _ _)⟩), S_cps]
  show S _ = S _
  congr 1
  have e2 : (((min b l.length : Nat) : Int) - 0).toNat = min b l.length := by rw [Int.sub_zero]; exact Int.toNat_natCast _
  rw [e2]
  show (l.drop 0).take _ = _
  rw [List.drop_zero, take_min]
theorem slice_sn (l : List Nat) (a : Nat) : Txt.slice (S l) (some (a : Int)) none = S (l.drop a) := by
  by_cases h : a ≤ l.length
  · rw [beq_iff_eq.mp (slice_closes_from (x := S l) ⟨by omega, by rw [S_cps]; omega⟩), S_cps]
    show S _ = S _
    congr 1
    have e1 : (a : Int).toNat = a := by omega
    rw [e1, List.take_of_length_le (by simp)]
  · rw [slice_beyond (by rw [S_length]; omega), List.drop_of_length_le (by omega)]
    rfl

section
variable {prog : Program} {w : World} {A : Around} {E : Value → Shared → Prop} {env : Env} {h : Heap} {gs : Array GenState} {d : Drawn} {k : Nat} {os : OsState} {Q : Value → Shared → Prop}

theorem r_lit {x : Str} {u : Nat} {p : Pos} (l : List Nat) (e : x = S l) (H : ∀ t k', Q (.str (S l) t) ⟨h, gs, d, k', os⟩) : wpAny (model prog w) A (eval (.Constant (.str x) u p) env) Q E ⟨h, gs, d, k, os⟩ := by
  subst e; exact r_str H
theorem r_cat {l r : List Nat} {t u : Tok} (hsz : l.length + r.length ≤ 1000) (H : ∀ t' k', Q (.str (S (l ++ r)) t') ⟨h, gs, d, k', os⟩) : wpAny (model prog w) A (binaryOp .Add (.str (S l) t) (.str (S r) u)) Q E ⟨h, gs, d, k, os⟩ := by
  refine r_adds (by rw [S_length, S_length, sizeLine_eq]; omega) fun t' k' => ?_
  rw [S_append]; exact H t' k'
theorem r_eqS {l r : List Nat} {t u : Tok} (H : Q (.bool (decide (l = r))) ⟨h, gs, d, k, os⟩) : wpAny (model prog w) A (compareOp .Eq (.str (S l) t) (.str (S r) u)) Q E ⟨h, gs, d, k, os⟩ :=
  r_eqs (by rw [S_beq]; exact H)
theorem r_call1b {x : Str} {id : String} {np pos : Pos} {e : PySem.Expr} (c : Cx w h) (he : nsIn (KF w) mainGlobals x = some none) (hv : bootBuiltins x = some (.builtin id)) (hn : x ≠ "__name__")
    (hk : env.scope.kind = .function) (hx : env.kindOf x = some .globalImplicit) (hg : env.globals = mainGlobals) (hb : env.builtins = builtinsNs) (hd : (x == ("__debug__" : Str)) = false)
    (hs : starEach [e] env = [(false, eval e env)])
    (H : wpAny (model prog w) A (eval e env) (fun v s₁ => wpAny (model prog w) A (call (.builtin id) [v]) Q E s₁) E ⟨h, gs, d, k, os⟩) :
    wpAny (model prog w) A (eval (.Call (.Name x np) [e] [] pos) env) Q E ⟨h, gs, d, k, os⟩ :=
  Call_name1 hs (r_blt c he hv hn (callWith_builtin1 H) hk hx hg hb hd)
theorem r_lenS {l : List Nat} {t : Tok} (hl : l.length ≤ 1000) (H : ∀ t' k', Q (.int (l.length : Int) t') ⟨h, gs, d, k', os⟩) : wpAny (model prog w) A (call (.builtin "len") [.str (S l) t]) Q E ⟨h, gs, d, k, os⟩ := by
  refine PyProof.Rows.len_str (by rw [S_length]; omega) ?_
  rw [S_length]; exact H _ _
theorem r_sl_ss {value lo up : PySem.Expr} {p pos : Pos}
    (H : wpAny (model prog w) A (eval value env) (fun o s₁ => wpAny (model prog w) A (eval lo env) (fun a s₂ => wpAny (model prog w) A (eval up env) (fun b s₃ =>
      ∃ (l : List Nat) (t : Tok) (i j : Nat) (u v : Tok), o = .str (S l) t ∧ a = .int (i : Int) u ∧ b = .int (j : Int) v ∧ i ≤ j ∧ l.length ≤ 1000 ∧
        ∀ h' t' k', Ext s₃.heap h' → Q (.str (S ((l.drop i).take (j - i))) t') { s₃ with heap := h', toks := k' }) E s₂) E s₁) E ⟨h, gs, d, k, os⟩)
    (ht : ∀ o r, letTemporaryGo value o r = pure () := by intro _ _; rfl) :
    wpAny (model prog w) A (eval (.Subscript value (.Slice (some lo) (some up) none p) pos) env) Q E ⟨h, gs, d, k, os⟩ := by
  refine wpAny_Subscript_str_slice (wpAny_mono H (fun o s₁ h₁ => ?_) fun _ _ e => e) ht
  rw [evalPart_some]
  refine wpAny_mono h₁ (fun a s₂ h₂ => ?_) fun _ _ e => e
  rw [evalPart_some]
  refine wpAny_mono h₂ (fun b s₃ h₃ => ?_) fun _ _ e => e
  obtain ⟨l, t, i, j, u, v, rfl, rfl, rfl, hij, hl, hQ⟩ := h₃
  refine ⟨S l, t, some (i, u), some (j, v), rfl, rfl, rfl, ?_⟩
  refine post_val_or_str ⟨?_, fun t' k' => ?_⟩
  · show (Txt.slice (S l) (some (i : Int)) (some (j : Int))).length ≤ _
    have := Txt.slice_le (S l) (some (i : Int)) (some (j : Int))
    rw [S_length] at this
    rw [sizeLine_eq]; omega
  · show Q (.str (Txt.slice (S l) (some (i : Int)) (some (j : Int))) t') _
    rw [slice_ss l i j hij]
    exact hQ _ t' k' (Ext.push _ _)
theorem r_sl_ns {value up : PySem.Expr} {p pos : Pos}
    (H : wpAny (model prog w) A (eval value env) (fun o s₁ => wpAny (model prog w) A (eval up env) (fun b s₃ =>
      ∃ (l : List Nat) (t : Tok) (j : Nat) (v : Tok), o = .str (S l) t ∧ b = .int (j : Int) v ∧ l.length ≤ 1000 ∧
        ∀ h' t' k', Ext s₃.heap h' → Q (.str (S (l.take j)) t') { s₃ with heap := h', toks := k' }) E s₁) E ⟨h, gs, d, k, os⟩)
    (ht : ∀ o r, letTemporaryGo value o r = pure () := by intro _ _; rfl) :
    wpAny (model prog w) A (eval (.Subscript value (.Slice none (some up) none p) pos) env) Q E ⟨h, gs, d, k, os⟩ := by
  refine wpAny_Subscript_str_slice (wpAny_mono H (fun o s₁ h₁ => ?_) fun _ _ e => e) ht
  rw [evalPart_none]
  refine wpAny_pure ?_
  rw [evalPart_some]
  refine wpAny_mono h₁ (fun b s₃ h₃ => ?_) fun _ _ e => e
  obtain ⟨l, t, j, v, rfl, rfl, hl, hQ⟩ := h₃
  refine ⟨S l, t, none, some (j, v), rfl, rfl, rfl, ?_⟩
  refine post_val_or_str ⟨?_, fun t' k' => ?_⟩
  · show (Txt.slice (S l) none (some (j : Int))).length ≤ _
    have := Txt.slice_le (S l) none (some (j : Int))
    rw [S_length] at this
    rw [sizeLine_eq]; omega
  · show Q (.str (Txt.slice (S l) none (some (j : Int))) t') _
    rw [slice_ns l j]
    exact hQ _ t' k' (Ext.push _ _)
theorem r_sl_sn {value lo : PySem.Expr} {p pos : Pos}
    (H : wpAny (model prog w) A (eval value env) (fun o s₁ => wpAny (model prog w) A (eval lo env) (fun b s₃ =>
      ∃ (l : List Nat) (t : Tok) (j : Nat) (v : Tok), o = .str (S l) t ∧ b = .int (j : Int) v ∧ l.length ≤ 1000 ∧
        ∀ h' t' k', Ext s₃.heap h' → Q (.str (S (l.drop j)) t') { s₃ with heap := h', toks := k' }) E s₁) E ⟨h, gs, d, k, os⟩)
    (ht : ∀ o r, letTemporaryGo value o r = pure () := by intro _ _; rfl) :
    wpAny (model prog w) A (eval (.Subscript value (.Slice (some lo) none none p) pos) env) Q E ⟨h, gs, d, k, os⟩ := by
  refine wpAny_Subscript_str_slice (wpAny_mono H (fun o s₁ h₁ => ?_) fun _ _ e => e) ht
  rw [evalPart_some]
  refine wpAny_mono h₁ (fun b s₃ h₃ => ?_) fun _ _ e => e
  rw [evalPart_none]
  refine wpAny_pure ?_
  obtain ⟨l, t, j, v, rfl, rfl, hl, hQ⟩ := h₃
  refine ⟨S l, t, some (j, v), none, rfl, rfl, rfl, ?_⟩
  refine post_val_or_str ⟨?_, fun t' k' => ?_⟩
  · show (Txt.slice (S l) (some (j : Int)) none).length ≤ _
    have := Txt.slice_le (S l) (some (j : Int)) none
    rw [S_length] at this
    rw [sizeLine_eq]; omega
  · show Q (.str (Txt.slice (S l) (some (j : Int)) none) t') _
    rw [slice_sn l j]
    exact hQ _ t' k' (Ext.push _ _)
theorem r_iterS {l : List Nat} {t : Tok}
    (H : ∀ (o : Obj) (St : Nat → Heap → Prop), (∀ A' : Around, A'.handled = none → Walks prog w A' h.objs.size [h.objs.size] [h.objs.size] l.length (fun i v => ∃ c u, l[i]? = some c ∧ v = .str (S [c]) u) St) → (∀ i h', St i h' → h.objs.size < h'.objs.size) → St 0 (h.push o) →
      Q (.ref h.objs.size) ⟨h.push o, gs, d, k, os⟩) : wpAny (model prog w) A (pyIter (.str (S l) t)) Q E ⟨h, gs, d, k, os⟩ := by
  have conv : ∀ {A' : Around} {St : Nat → Heap → Prop}, Walks prog w A' h.objs.size [h.objs.size] [h.objs.size] (S l).cps.size (SignAt (S l)) St → Walks prog w A' h.objs.size [h.objs.size] [h.objs.size] l.length (fun i v => ∃ c u, l[i]? = some c ∧ v = .str (S [c]) u) St := by
    intro A' St W
    rw [show (S l).cps.size = l.length from S_length l] at W
    exact ⟨W.sub, W.frame, fun i s Q E hi hs hQ => W.item i s Q E hi hs fun v h' tk hv => hQ v h' tk (sign_S hv), W.done, W.self⟩
  cases ha : (S l).cps.all (· < 128)
  · exact wpAny_pyIter_wide ha (H _ _ (fun A' hA => conv (Walks.strWide hA _ (S l) t)) (fun i h' st => let ⟨_, ho, _⟩ := st; Heap.lt_size ho) ⟨_, Heap.get?_push_size _ rfl, rfl, rfl⟩)
  · exact wpAny_pyIter_ascii ha (H _ _ (fun A' hA => conv (Walks.strAscii hA _ (S l) t)) (fun i h' st => let ⟨_, ho, _⟩ := st; Heap.lt_size ho) ⟨_, Heap.get?_push_size _ rfl, rfl, rfl⟩)
theorem r_and {x y : PySem.Expr} {pos : Pos} {whole : Sem Value} {Q : Bool → Shared → Prop}
    (H : wpAny (model prog w) A (isTrue x env (eval x env)) (fun b s₁ => (b = false → Q false s₁) ∧ (b = true → wpAny (model prog w) A (isTrue y env (eval y env)) Q E s₁)) E ⟨h, gs, d, k, os⟩) :
    wpAny (model prog w) A (isTrue (.BoolOp .And [x, y] pos) env whole) Q E ⟨h, gs, d, k, os⟩ := by
  show wpAny _ _ (do
    match BoolOp.And, ← isTrue x env (eval x env) with
    | .And, false => pure false
    | .Or, true => pure true
    | _, _ => allTrue .And [y] env) _ _ _
  refine wpAny_bind (wpAny_mono H (fun b s₁ q => ?_) fun _ _ e => e)
  cases b with
  | false => exact wpAny_pure (q.1 rfl)
  | true =>
    show wpAny _ _ (do
      match BoolOp.And, ← isTrue y env (eval y env) with
      | .And, false => pure false
      | .Or, true => pure true
      | _, _ => allTrue .And [] env) _ _ _
    refine wpAny_bind (wpAny_mono (q.2 rfl) (fun b s₁ q => ?_) fun _ _ e => e)
    cases b with
    | false => exact wpAny_pure q
    | true => exact wpAny_pure q
end
theorem g_len (w : World) : nsIn (KF w) mainGlobals "len" = some none := by rfl

local macro_rules | `(tactic| walk_at "memx") => `(tactic| first | exact List.mem_cons_self | (refine List.mem_cons_of_mem _ ?_; walk_at "memx"))
local macro_rules | `(tactic| walk_at "mem") => `(tactic| first | (with_reducible exact List.mem_cons_self) | (with_reducible refine List.mem_cons_of_mem _ ?_); walk_at "mem")
local macro_rules | `(tactic| walk_at "sub") => `(tactic| first | exact List.forall_mem_nil _ | (refine List.forall_mem_cons.mpr ⟨by first | walk_at "mem" | walk_at "memx", ?_⟩; walk_at "sub"))
local macro_rules | `(tactic| walk_at "nm") => `(tactic| (refine r_name rfl (Frm.var (by assumption) (by walk_at "mem")) ?_))

/- C1 -/

noncomputable def partGo : List Nat → List Nat → Bool
  | [], _ => true
  | c :: r, ys => match (if c = 9 then ys.dropWhile (· = 32) else ys) with
    | [] => false
    | _ :: t => partGo r t

theorem partGo_cons (c : Nat) (r ys : List Nat) : partGo (c :: r) ys = match (if c = 9 then ys.dropWhile (· = 32) else ys) with
    | [] => false
    | _ :: t => partGo r t := rfl
theorem drop_take_one (Y : List Nat) (p : Nat) : ((Y.drop p).take (p + 1 - p) = [32]) ↔ ∃ r, Y.drop p = 32 :: r := by
  rw [show p + 1 - p = 1 by omega]
  cases e : Y.drop p with
  | nil => simp
  | cons a r => simp
theorem drop_succ_of {Y : List Nat} {p a : Nat} {r : List Nat} (e : Y.drop p = a :: r) : Y.drop (p + 1) = r ∧ p < Y.length := by
  constructor
  · rw [← List.drop_drop, e]; rfl
  · apply Classical.byContradiction
    intro q
    rw [List.drop_of_length_le (by omega)] at e
    cases e

theorem part_spec {prog : Program} {w : World} {A : Around} {h : Heap} {gs : Array GenState} {d : Drawn} {k : Nat} {os : OsState} (r : Rm A 1) (c : Cx w h) (X Y : List Nat) (t u : Tok)
    (hX : X.length ≤ 100) (hY : Y.length ≤ 100) {R : Result → Shared → Prop} (H : ∀ h' k', Ext h h' → R (.ok (.ret (.bool (partGo (X ++ [32]) Y)))) ⟨h', gs, d, k', os⟩) :
    codeAny (model prog w) A (.call (.ref 133) ⟨[.str (S X) t, .str (S Y) u], []⟩) R ⟨h, gs, d, k, os⟩ := by
  refine enterF (fd := fdAt 133) (n := 0) [("first", .str (S X) t), ("second", .str (S Y) u)] ["first", "second"] r c rfl rfl rfl rfl rfl rfl rfl rfl (by decide) (fun h₁ k₁ F c₁ r₁ E => ?_) rfl rfl rfl
  change Frm h (callEnvC (fdAt 133) h.objs.size 133) (h.objs.size + 1) h₁ _ at F
  generalize hA : A.deeper (callEnvC (fdAt 133) h.objs.size 133) = A' at r₁ ⊢
  clear hA
  generalize h.objs.size = L at *
  as_aux_lemma =>
  refine hidQ fun Q₀ hQ₀ => ?_
  refine s_set F (.inl rfl) rfl (r_int fun t₀ k₀ => ⟨_, _, rfl, Ext.refl _, fun h₂ k₂ F₂ _ => ?_⟩)
  replace F₂ : Frm h (callEnvC (fdAt 133) L 133) (L + 1) h₂ [("place", .int 0 t₀), ("first", .str (S X) t), ("second", .str (S Y) u)] := F₂
  have c₂ := c.ext F₂.ok.keep
  have hI := F₂.ok.size
  refine s_for (fun _ => rfl) (r_binop ?_)
  walk_at "nm"
  refine r_lit [32] (by decide +kernel) fun t₁ k₃ => r_cat (by simp; omega) fun t₂ k₄ => r_iterS fun o St hW _ st => ?_
  have W := hW A' r₁.hh
  refine s_forP W (fun i h' => ∃ (p : Nat) (tp : Tok), Frm h (callEnvC (fdAt 133) L 133) (L + 1) h' [("place", .int (p : Int) tp), ("second", .str (S Y) u)] ∧ p ≤ Y.length ∧ partGo ((X ++ [32]).drop i) (Y.drop p) = partGo (X ++ [32]) Y)
    (fun h' => Ext h h' ∧ partGo (X ++ [32]) Y = true)
    ⟨0, t₀, (F₂.ext (Ext.push h₂ o)).sub (by walk_at "sub"), Nat.zero_le _, rfl⟩ st (fun _ => rfl) ?_ ?_ ?_
  · rintro i h₄ k₅ v h₅ E' hi ⟨p, tp, F₄, hp, hpart⟩ st₅ ⟨c', u', hc, rfl⟩ hk₅
    have F₅ := F₄.low (fun b o hb e => hk₅ b o (by simp; exact Nat.ne_of_lt (Nat.lt_of_lt_of_le hb hI)) e)
    refine s_assign (.inl rfl) F₅ fun h₆ k₆ F₆ o₆ => hidQ fun Q₁ hQ₁ => ?_
    as_aux_lemma =>
    replace F₆ : Frm h (callEnvC (fdAt 133) L 133) (L + 1) h₆ [("sign", .str (S [c']) u'), ("place", .int (p : Int) tp), ("second", .str (S Y) u)] := F₆
    have st₆ : St (i + 1) h₆ := W.frame _ _ _ st₅ fun b hb o e => o₆ b o (.inr (by simp at hb; subst hb; exact hI)) e
    have hdrop : (X ++ [32]).drop i = c' :: (X ++ [32]).drop (i + 1) := by
      obtain ⟨hl, e⟩ := List.getElem?_eq_some_iff.mp hc
      rw [← e, List.drop_eq_getElem_cons hl]
    rw [hdrop] at hpart
    refine s_while (fun m h' => ∃ (q : Nat) (tq : Tok), Frm h (callEnvC (fdAt 133) L 133) (L + 1) h' [("place", .int (q : Int) tq), ("sign", .str (S [c']) u'), ("second", .str (S Y) u)] ∧ St (i + 1) h' ∧ q ≤ Y.length ∧ m = Y.length - q ∧
        (if c' = 9 then (Y.drop q).dropWhile (· = 32) = (Y.drop p).dropWhile (· = 32) else q = p))
      (fun h' => ∃ (q : Nat) (tq : Tok), Frm h (callEnvC (fdAt 133) L 133) (L + 1) h' [("place", .int (q : Int) tq), ("sign", .str (S [c']) u'), ("second", .str (S Y) u)] ∧ St (i + 1) h' ∧ q ≤ Y.length ∧
        Y.drop q = (if c' = 9 then (Y.drop p).dropWhile (· = 32) else Y.drop p)) (Y.length - p)
      ⟨p, tp, F₆.sub (by walk_at "sub"), st₆, hp, rfl, by split <;> rfl⟩ ?_ ?_
    · rintro m h₇ k₇ E₂ ⟨q, tq, F₇, st₇, hq, rfl, hdw⟩
      refine cut (fun b h' => b = decide (c' = 9 ∧ (Y.drop q).take (q + 1 - q) = [32])) (r_and (r_test ?_)) ?_
      · walk_at "nm"
        refine r_lit [9] (by decide +kernel) fun t₃ k₈ => r_eqS ⟨_, rfl, ⟨fun hf => ⟨_, _, rfl, Ext.refl _, ?_⟩, fun ht => ?_⟩⟩
        · have : c' ≠ 9 := by simpa using hf
          simp [this]
        · have hc9 : c' = 9 := by simpa using ht
          refine r_test (r_sl_ss ?_)
          walk_at "nm"
          walk_at "nm"
          refine r_binop ?_
          walk_at "nm"
          refine r_int fun t₄ k₉ => r_add fun t₅ k₁₀ => ⟨Y, _, q, q + 1, _, _, rfl, rfl, rfl, Nat.le_succ _, by omega, fun h₈ t₆ k₁₁ x₈ => ?_⟩
          refine r_lit [32] (by decide +kernel) fun t₇ k₁₂ => r_eqS ⟨_, rfl, _, _, rfl, x₈, ?_⟩
          rw [decide_eq_decide]
          exact ⟨fun e => ⟨hc9, e⟩, fun e => e.2⟩
      · rintro b h₈ k₈ x₈ rfl
        have F₈ := F₇.ext x₈
        have st₈ : St (i + 1) h₈ := W.frame _ _ _ st₇ fun b _ o e => x₈ b o e
        refine ⟨fun hb => ?_, fun hb => ⟨_, _, rfl, q, tq, F₈, st₈, hq, ?_⟩⟩
        · refine hidQ fun Q₃ hQ₃ => ?_
          obtain ⟨hc9, hr⟩ := of_decide_eq_true hb
          obtain ⟨rr, hr⟩ := (drop_take_one Y q).mp hr
          have ds := drop_succ_of hr
          refine s_set F₈ (.inl rfl) rfl (r_binop ?_)
          walk_at "nm"
          refine r_int fun t₄ k₉ => r_add fun t₅ k₁₀ => ⟨_, _, rfl, Ext.refl _, fun h₉ k₁₁ F₉ o₉ => s_nil (hQ₃ _ _ ⟨_, _, rfl, Y.length - (q + 1), by omega, q + 1, t₅, ?_, ?_, by omega, rfl, ?_⟩)⟩
          · exact F₉
          · exact W.frame _ _ _ st₈ fun b hb o e => o₉ b o (.inr (by simp at hb; subst hb; exact hI)) e
          · rw [if_pos hc9] at hdw ⊢
            rw [ds.1, ← hdw, hr]
            simp
        · have hn := of_decide_eq_false hb
          by_cases hc9 : c' = 9
          · rw [if_pos hc9] at hdw ⊢
            rw [← hdw]
            cases e : Y.drop q with
            | nil => rfl
            | cons a r =>
              have : a ≠ 32 := fun ea => hn ⟨hc9, (drop_take_one Y q).mpr ⟨r, by rw [e, ea]⟩⟩
              simp [this]
          · rw [if_neg hc9] at hdw ⊢
            rw [hdw]
    · rintro h₇ k₇ ⟨q, tq, F₇, st₇, hq, hdq⟩
      rw [partGo_cons, ← hdq] at hpart
      as_aux_lemma =>
      refine s_if (hidQ fun Q₂ hQ₂ => r_test ?_)
      walk_at "nm"
      refine r_call1b (c.ext F₇.ok.keep) (g_len w) boot_len (by decide) rfl rfl rfl rfl (by decide) rfl ?_
      walk_at "nm"
      refine r_lenS (by omega) fun t₃ k₈ => r_ge ⟨_, rfl, hQ₂ _ _ ⟨fun hb => ?_, fun hb => ?_⟩⟩
      · have hle := of_decide_eq_true hb
        refine s_ret (r_bool (hQ₁ _ _ (hQ₀ _ _ ?_)))
        rw [List.drop_of_length_le (by omega)] at hpart
        show R _ _
        rw [show partGo (X ++ [32]) Y = false from hpart.symm] at H
        exact H _ _ F₇.ok.keep
      · have hlt := of_decide_eq_false hb
        refine s_nil ?_
        refine s_set F₇ (.inl rfl) rfl (r_binop ?_)
        walk_at "nm"
        refine r_int fun t₄ k₉ => r_add fun t₅ k₁₀ => ⟨_, _, rfl, Ext.refl _, fun h₉ k₁₁ F₉ o₉ => s_nil (hQ₁ _ _ ⟨_, _, rfl, ⟨q + 1, t₅, ?_, by omega, ?_⟩, ?_⟩)⟩
        · replace F₉ : Frm h (callEnvC (fdAt 133) L 133) (L + 1) h₉ [("place", .int ((q : Int) + 1) t₅), ("sign", .str (S [c']) u'), ("second", .str (S Y) u)] := F₉
          exact F₉.sub (by walk_at "sub")
        · have hq' : q < Y.length := by omega
          rw [List.drop_eq_getElem_cons hq'] at hpart
          exact hpart
        · exact W.frame _ _ _ st₇ fun b hb o e => o₉ b o (.inr (by simp at hb; subst hb; exact hI)) e
  · rintro h₄ h₅ ⟨p, tp, F₄, hp, hpart⟩ hk₅
    have F₅ := F₄.low (fun b o hb e => hk₅ b o (by simp; exact Nat.ne_of_lt (Nat.lt_of_lt_of_le hb hI)) e)
    refine ⟨F₅.ok.keep, ?_⟩
    rw [← hpart, List.drop_of_length_le (Nat.le_refl _)]
    rfl
  · rintro h₄ k₅ ⟨x₄, hp⟩
    refine s_ret (r_bool (hQ₀ _ _ ?_))
    rw [hp] at H
    exact H _ _ x₄

/- ML -/

noncomputable abbrev listO (vs : List Value) : Obj := { cls := .type "list", data := .seq vs.toArray }
noncomputable abbrev tupO (vs : List Value) : Obj := { cls := .type "tuple", data := .seq vs.toArray }
/-- a list of ints -/
noncomputable def IL (h : Heap) (l : Addr) (ns : List Int) : Prop := ∃ vs, h.IsList l vs.toArray ∧ IntsAre vs ns
theorem isList_ext {h h' : Heap} {l : Addr} {its : Array Value} (x : h.IsList l its) (e : Ext h h') : h'.IsList l its := let ⟨o, ho, r⟩ := x; ⟨o, e _ _ ho, r⟩
theorem IL.ext {h h' : Heap} {l : Addr} {ns : List Int} (x : IL h l ns) (e : Ext h h') : IL h' l ns := let ⟨vs, a, b⟩ := x; ⟨vs, isList_ext a e, b⟩
theorem isList_at {h h' : Heap} {l : Addr} {its : Array Value} (x : h.IsList l its) (e : ∀ o, h.get? l = some o → h'.get? l = some o) : h'.IsList l its := let ⟨o, ho, r⟩ := x; ⟨o, e _ ho, r⟩
theorem IL.at {h h' : Heap} {l : Addr} {ns : List Int} (x : IL h l ns) (e : ∀ o, h.get? l = some o → h'.get? l = some o) : IL h' l ns := let ⟨vs, a, b⟩ := x; ⟨vs, isList_at a e, b⟩
theorem IL.lt {h : Heap} {l : Addr} {ns : List Int} (x : IL h l ns) : l < h.objs.size := let ⟨_, ⟨_, ho, _⟩, _⟩ := x; Heap.lt_size ho
theorem isList_push (h : Heap) (vs : List Value) : (h.push (listO vs)).IsList h.objs.size vs.toArray := ⟨_, Heap.get?_push_size _ rfl, rfl, _, rfl⟩
theorem intsAre_get {vs : List Value} {ns : List Int} (x : IntsAre vs ns) {i : Nat} (hi : i < ns.length) : ∃ t, vs[i]? = some (.int ns[i] t) := x.get i _ (List.getElem?_eq_getElem hi)
theorem intsAre_set : ∀ {vs : List Value} {ns : List Int}, IntsAre vs ns → ∀ (i : Nat) (v : Int) (t : Tok), IntsAre (vs.set i (.int v t)) (ns.set i v)
  | _, _, .nil, _, _, _ => .nil
  | _, _, .cons n u r, 0, v, t => .cons v t r
  | _, _, .cons n u r, i + 1, v, t => .cons n u (intsAre_set r i v t)
theorem intsAre_rep (k : Nat) (v : Int) (t : Tok) : IntsAre (List.replicate k (.int v t)) (List.replicate k v) := by
  induction k with
  | zero => exact .nil
  | succ k ih => exact .cons v t ih

section
variable {prog : Program} {w : World} {A : Around} {E : Value → Shared → Prop} {env : Env} {h : Heap} {gs : Array GenState} {d : Drawn} {k : Nat} {os : OsState} {Q : Value → Shared → Prop}

theorem a_nil {pos : Pos} {Q : List Value → Shared → Prop} {s : Shared} (H : Q [] s) : wpAny (model prog w) A (spliced (backTo pos (starEach [] env))) Q E s := wpAny_pure H
theorem a_cons {pos : Pos} {e : PySem.Expr} {rest : List PySem.Expr} {Q : List Value → Shared → Prop} {s : Shared} (he : starEach (e :: rest) env = (false, eval e env) :: starEach rest env)
    (H : wpAny (model prog w) A (eval e env) (fun v s₁ => wpAny (model prog w) A (spliced (backTo pos (starEach rest env))) (fun vs s₂ => Q (v :: vs) s₂) E s₁) E s) :
    wpAny (model prog w) A (spliced (backTo pos (starEach (e :: rest) env))) Q E s := by
  rw [he]
  exact Calls.spliced_cons H
theorem r_list {elts : List PySem.Expr} {pos : Pos}
    (H : wpAny (model prog w) A (spliced (backTo pos (starEach elts env))) (fun vs s₁ => ∃ h₁ k₁, s₁ = ⟨h₁, gs, d, k₁, os⟩ ∧ vs.length ≤ 1000 ∧ Q (.ref h₁.objs.size) ⟨h₁.push (listO vs), gs, d, k₁, os⟩) E ⟨h, gs, d, k, os⟩) :
    wpAny (model prog w) A (eval (.List elts pos) env) Q E ⟨h, gs, d, k, os⟩ :=
  PyProof.Rows.List_ (wpAny_mono H (fun vs s₁ q => by
    obtain ⟨h₁, k₁, rfl, hl, q⟩ := q
    exact wpAny_newObj_type q (by show vs.toArray.size ≤ sizeLine; rw [List.size_toArray, sizeLine_eq]; omega)) fun _ _ e => e)
theorem r_tup {elts : List PySem.Expr} {u : Nat} {pos : Pos}
    (H : wpAny (model prog w) A (spliced (backTo pos (starEach elts env))) (fun vs s₁ => ∃ h₁ k₁, s₁ = ⟨h₁, gs, d, k₁, os⟩ ∧ vs.length ≤ 1000 ∧ Q (.ref h₁.objs.size) ⟨h₁.push (tupO vs), gs, d, k₁, os⟩) E ⟨h, gs, d, k, os⟩) :
    wpAny (model prog w) A (eval (.Tuple elts u pos) env) Q E ⟨h, gs, d, k, os⟩ :=
  PyProof.Rows.Tuple_ (wpAny_mono H (fun vs s₁ q => by
    obtain ⟨h₁, k₁, rfl, hl, q⟩ := q
    exact wpAny_newObj_type q (by show vs.toArray.size ≤ sizeLine; rw [List.size_toArray, sizeLine_eq]; omega)) fun _ _ e => e)
theorem r_len {l : Addr} {vs : List Value} (hl : h.IsList l vs.toArray) (hz : vs.length ≤ 100000) (H : ∀ t k', Q (.int (vs.length : Int) t) ⟨h, gs, d, k', os⟩) : wpAny (model prog w) A (call (.builtin "len") [.ref l]) Q E ⟨h, gs, d, k, os⟩ := by
  refine len_list hl (by rw [List.size_toArray]; omega) ?_
  rw [List.size_toArray]; exact H _ _
theorem r_lenI {l : Addr} {ns : List Int} (hl : IL h l ns) (hz : ns.length ≤ 100000) (H : ∀ t k', Q (.int (ns.length : Int) t) ⟨h, gs, d, k', os⟩) : wpAny (model prog w) A (call (.builtin "len") [.ref l]) Q E ⟨h, gs, d, k, os⟩ := by
  obtain ⟨vs, a, b⟩ := hl
  rw [← b.length] at H hz
  exact r_len a hz H
theorem r_addL {l b : Addr} {vs ws : List Value} (hl : h.IsList l vs.toArray) (hb : h.IsList b ws.toArray) (hsz : vs.length + ws.length ≤ 100000)
    (H : Q (.ref h.objs.size) ⟨h.push (listO (vs ++ ws)), gs, d, k, os⟩) : wpAny (model prog w) A (binaryOp .Add (.ref l) (.ref b)) Q E ⟨h, gs, d, k, os⟩ := by
  have form : ∀ {a : Addr} {us : List Value}, h.IsList a us.toArray → ∃ n dd sl, h.get? a = some { cls := .type "list", dict := dd, data := .seq us.toArray n, slots := sl } := fun ⟨o, ho, hc, n, hd⟩ =>
    ⟨n, o.dict, o.slots, by rw [ho, ← hc, ← hd]⟩
  obtain ⟨n, dd, sl, hx⟩ := form hl
  obtain ⟨n', dd', sl', hy⟩ := form hb
  have room : vs.toArray.size + ws.toArray.size ≤ sizeLine := by rw [sizeLine_eq, List.size_toArray, List.size_toArray]; exact Nat.le_trans hsz (by decide)
  exact concat_meets ⟨_, hx, rfl⟩ ⟨_, hy, rfl⟩ noFill_list_add seq_list_add PySem.F.slot_list_add PySem.F.entry_list_add (PySem.F.args_list_add_2 _ _) (list_addW l b vs.toArray ws.toArray n n' dd dd' sl sl' room)
    ⟨hx, hy, by rw [List.append_toArray]; exact H⟩
theorem r_addI {l b : Addr} {ns ms : List Int} (hl : IL h l ns) (hb : IL h b ms) (hsz : ns.length + ms.length ≤ 100000)
    (H : ∀ h', Ext h h' → IL h' h.objs.size (ns ++ ms) → Q (.ref h.objs.size) ⟨h', gs, d, k, os⟩) : wpAny (model prog w) A (binaryOp .Add (.ref l) (.ref b)) Q E ⟨h, gs, d, k, os⟩ := by
  obtain ⟨vs, a, b⟩ := hl
  obtain ⟨ws, a', b'⟩ := hb
  exact r_addL a a' (by rw [b.length, b'.length]; exact hsz) (H _ (Ext.push _ _) ⟨vs ++ ws, isList_push _ _, b.append b'⟩)
theorem foldl_append (x : Value) : ∀ (n : Nat) (acc : List Value), List.foldl (fun x1 x2 => x1 ++ x2) acc.toArray (List.replicate n [x].toArray) = (acc ++ List.replicate n x).toArray
  | 0, acc => by simp
  | n + 1, acc => by
    rw [List.replicate_succ, List.foldl_cons, show acc.toArray ++ [x].toArray = (acc ++ [x]).toArray by simp, foldl_append x n]
    simp [List.replicate_succ]
theorem r_mulL {l : Addr} {x : Value} {n : Int} {u : Tok} (hl : h.get? l = some (listO [x])) (hlo : -1000 ≤ n) (hhi : n ≤ 1000)
    (H : Q (.ref h.objs.size) ⟨h.push (listO (List.replicate n.toNat x)), gs, d, k, os⟩) : wpAny (model prog w) A (binaryOp .Mult (.ref l) (.int n u)) Q E ⟨h, gs, d, k, os⟩ := by
  refine wpAny_binaryOp_repeat_ref (T := "list") (U := "int") (by decide) ⟨_, hl, rfl⟩ (fun s' => typeIs_int s' n u) noFill_list_mul F.fills_int_mul F.slot_int_rmul repeat_list F.slot_int_index.lookup
    (call_meets F.slot_int_rmul (typeIs_int _ n u) F.entry_int_rmul (F.args_int_rmul_2 _ _) (int___rmul___int_list n u l [x].toArray 0)
      ⟨hl, rfl, ⟨_, hl, rfl⟩, call_meets F.slot_list_mul ⟨_, hl, rfl⟩ F.entry_list_mul (F.args_list_mul_2 _ _)
        (AutoListH.list___mul___list_int_3 l [x].toArray 0 n u (by simp [Builtin.List.listFitsIndex]; omega) (by rw [List.size_toArray, List.length_singleton]; omega) (by simp [Builtin.List.listTooLong, sizeLine]; omega))
        ⟨hl, ?_⟩⟩)
  have e : List.foldl (fun x1 x2 => x1 ++ x2) #[] (List.replicate (if ([x].toArray).isEmpty = true then 0 else n.toNat) [x].toArray) = (List.replicate n.toNat x).toArray := by
    have := foldl_append x n.toNat []
    simpa using this
  simp only [e]
  exact H
theorem r_mulL0 {l : Addr} {n : Int} {u : Tok} (hl : h.get? l = some (listO [])) (hlo : -1000 ≤ n) (hhi : n ≤ 1000)
    (H : Q (.ref h.objs.size) ⟨h.push (listO []), gs, d, k, os⟩) : wpAny (model prog w) A (binaryOp .Mult (.ref l) (.int n u)) Q E ⟨h, gs, d, k, os⟩ := by
  refine wpAny_binaryOp_repeat_ref (T := "list") (U := "int") (by decide) ⟨_, hl, rfl⟩ (fun s' => typeIs_int s' n u) noFill_list_mul F.fills_int_mul F.slot_int_rmul repeat_list F.slot_int_index.lookup
    (call_meets F.slot_int_rmul (typeIs_int _ n u) F.entry_int_rmul (F.args_int_rmul_2 _ _) (int___rmul___int_list n u l ([] : List Value).toArray 0)
      ⟨hl, rfl, ⟨_, hl, rfl⟩, call_meets F.slot_list_mul ⟨_, hl, rfl⟩ F.entry_list_mul (F.args_list_mul_2 _ _)
        (AutoListH.list___mul___list_int_3 l ([] : List Value).toArray 0 n u (by simp [Builtin.List.listFitsIndex]; omega) (by rw [List.size_toArray, List.length_nil]; omega) (by simp [Builtin.List.listTooLong, sizeLine]))
        ⟨hl, ?_⟩⟩)
  exact H
theorem r_item {value slice : PySem.Expr} {pos : Pos} 
    (H : wpAny (model prog w) A (eval value env) (fun o s₁ => wpAny (model prog w) A (eval slice env) (fun i s₂ => ∃ (l : Addr) (vs : List Value) (j : Nat) (u : Tok) (x : Value), o = .ref l ∧ i = .int (j : Int) u ∧ s₂.heap.IsList l vs.toArray ∧ j < 100000 ∧ vs[j]? = some x ∧ Q x s₂) E s₁) E ⟨h, gs, d, k, os⟩)
    (hs : ∀ (l : Addr) (j : Int) (u : Tok), subscripted slice false (.ref l) (.int j u) = operate [.ref l, .int j u] (getItem (.ref l) (.int j u)) := by intros; with_unfolding_all rfl)
    (hg : ∀ l r, letTemporaryGo value (.ref l) r = pure () := by intro _ _; with_unfolding_all rfl) :
    wpAny (model prog w) A (eval (.Subscript value slice pos) env) Q E ⟨h, gs, d, k, os⟩ :=
  Subscript_ (wpAny_mono H (fun o s₁ h₁ => wpAny_mono h₁ (fun i s₂ h₂ => by
    obtain ⟨l, vs, j, u, x, rfl, rfl, hl, hj, hx, q⟩ := h₂
    exact PyProof.Rows.item_list hl (by omega) (by omega) (by simpa using hx) q (hs _ _ _) (hg _)) fun _ _ e => e) fun _ _ e => e)
theorem r_setI {l : Addr} {ns : List Int} {j : Nat} {u t : Tok} {v : Int} {Q : Unit → Shared → Prop} (hl : IL h l ns) (hj : j < ns.length) (hz : ns.length ≤ 100000)
    (H : ∀ h', IL h' l (ns.set j v) → Heap.SameBut l h h' → Q () ⟨h', gs, d, k, os⟩) : wpAny (model prog w) A (setItem (.ref l) (.int (j : Int) u) (.int v t)) Q E ⟨h, gs, d, k, os⟩ := by
  obtain ⟨vs, a, b⟩ := hl
  refine wpAny_setItem_list a (by omega) (by omega) (by rw [List.size_toArray, b.length]; omega) fun h' hl' hs' => H h' ⟨vs.set j (.int v t), ?_, intsAre_set b j v t⟩ hs'
  have e : (vs.toArray.setIfInBounds (j : Int).toNat (.int v t)) = (vs.set j (.int v t)).toArray := by simp
  rw [← e]; exact hl'
theorem r_tuple {l : Addr} {vs : List Value} (hl : h.IsList l vs.toArray) (hz : vs.length ≤ 100000)
    (H : ∀ h', Ext h h' → Q (.ref h'.objs.size) ⟨h'.push (tupO vs), gs, d, k, os⟩) : wpAny (model prog w) A (call (.type "tuple") [.ref l]) Q E ⟨h, gs, d, k, os⟩ :=
  call_tuple_list hl (fun h' hk => H h' hk) (by rw [List.size_toArray, sizeLine_eq]; omega)
theorem r_call1t {x : Str} {id : String} {np pos : Pos} {e : PySem.Expr} (c : Cx w h) (he : nsIn (KF w) mainGlobals x = some none) (hv : bootBuiltins x = some (.type id)) (hn : x ≠ "__name__")
    (hk : env.scope.kind = .function) (hx : env.kindOf x = some .globalImplicit) (hg : env.globals = mainGlobals) (hb : env.builtins = builtinsNs) (hd : (x == ("__debug__" : Str)) = false)
    (hs : starEach [e] env = [(false, eval e env)])
    (H : wpAny (model prog w) A (eval e env) (fun v s₁ => wpAny (model prog w) A (call (.type id) [v]) Q E s₁) E ⟨h, gs, d, k, os⟩) :
    wpAny (model prog w) A (eval (.Call (.Name x np) [e] [] pos) env) Q E ⟨h, gs, d, k, os⟩ :=
  Call_name1 hs (r_blt c he hv hn (PySem.callWith_type1 H) hk hx hg hb hd)
theorem r_cmp {l r : PySem.Expr} {op : CmpOp} {pos : Pos}
    (H : wpAny (model prog w) A (eval l env) (fun a s₁ => wpAny (model prog w) A (eval r env) (fun b s₂ => wpAny (model prog w) A (compareOp op a b) Q E s₂) E s₁) E ⟨h, gs, d, k, os⟩)
    (hm : behindInMarks op r = false := by with_unfolding_all rfl) : wpAny (model prog w) A (eval (.Compare l [op] [r] pos) env) Q E ⟨h, gs, d, k, os⟩ := wpAny_Compare1 H hm
end
theorem boot_tuple : bootBuiltins "tuple" = some (.type "tuple") := by decide +kernel

/- MO -/

theorem k_over (w : World) : plainOver (KF w) 83 = true := by rfl
theorem k_hasD (w : World) : hasDictIn (KF w) 83 = true := by rfl
theorem k_setA (w : World) : findIn (KF w) (.ref 83) "__setattr__" = some (some (.builtin "object.__setattr__")) := by rfl
theorem k_getA (w : World) : findIn (KF w) (.ref 83) "__getattribute__" = some (some (.builtin "object.__getattribute__")) := by rfl
theorem k_getB (w : World) : findIn (KF w) (.ref 83) "__getattr__" = some none := by rfl
theorem k_makes (w : World) : makesIn (KF w) 83 = true := by rfl
theorem k_init (w : World) : findIn (KF w) (.ref 83) "__init__" = some (some (.ref 38)) := by rfl
theorem k_fn38 (w : World) : typeIn (KF w) (.ref 38) = some (.type "function") := by rfl
theorem k_reads (w : World) : readsIn (KF w) 83 (.type "type") = true := by rfl
theorem inst83 {h : Heap} {x dx : Addr} {es : List DictEntry} {n : Nat} (hx : h.get? x = some (instObj 83 dx)) (hd : h.get? dx = some (dictOf es n)) : W.InstAt h x (instObj 83 dx) 83 (some (dictOf es n)) :=
  ⟨hx, rfl, rfl, hd⟩

section
variable {prog : Program} {w : World} {A : Around} {E : Value → Shared → Prop} {env : Env} {h : Heap} {gs : Array GenState} {d : Drawn} {k : Nat} {os : OsState} {Q : Value → Shared → Prop}

theorem putL_length (name : Str) (hsh : Int) (key v : Value) : ∀ es : List DictEntry, (putL name hsh key v es).length ≤ es.length + 1
  | [] => Nat.le_refl _
  | e :: r => by
    unfold putL
    split
    · simp
    · simp only [List.length_cons]; have := putL_length name hsh key v r; omega
theorem o_set {x dx : Addr} {es : List DictEntry} {n : Nat} {name : Str} {v : Value} {Q : Unit → Shared → Prop} (c : Cx w h) (hx : h.get? x = some (instObj 83 dx)) (hd : h.get? dx = some (dictOf es n))
    (ht : takerIn (KF w) 83 name = some none) (hl : (getL name es).isSome = true) (hz : es.length ≤ 900)
    (H : ∀ h' k' t, h'.get? dx = some (dictOf (putL name (PyData.keyHash w.params name) (.str name t) v es) (putN name es n)) → Heap.SameBut dx h h' → Q () ⟨h', gs, d, k', os⟩) :
    wpAny (model prog w) A (setAttr (.ref x) name v) Q E ⟨h, gs, d, k, os⟩ := by
  have I := inst83 hx hd
  refine set_plain c.K I (k_setA w) (osa_open (s := ⟨h, gs, d, k + 1, os⟩) c.K I (k_over w) ht fun b => ?_)
  obtain ⟨cd, hc, hd'⟩ := any_some (k_hasD w)
  refine wpAny_bind (wpAny_pure (wpAny_bind (wpAny_bind (wpAny_loadPart hx (wpAny_bind ((looks_clsIn c.K hc).here ?_))))))
  rw [hd']
  refine wpAny_pure (a := some dx) (wpAny_bind (wpAny_pure (wpAny_bind ?_)))
  unfold nsSet
  refine wpAny_bind (wpAny_bind (wpAny_askSetting (wpAny_pure (wpAny_bind (wpAny_mkText (wpAny_bind (wpAny_loadPart hd ?_)))))))
  dsimp only
  have cc : (!es.toArray.any (·.key.isStr name) && es.toArray.any (·.refKey)) = false := by
    rw [← Array.any_toList, ← Array.any_toList]
    show (!es.any (·.key.isStr name) && es.any (·.refKey)) = false
    unfold getL at hl
    split at hl
    · rename_i en he
      rw [List.any_eq_true.mpr ⟨en, List.mem_of_find?_eq_some he, List.find?_some he⟩]; rfl
    · split at hl
      · cases hl
      · rename_i z; rw [Bool.not_eq_true] at z; rw [z, Bool.and_false]
  rw [aRefKeyMayBeTheName_at, cc]
  refine wpAny_updatePart hd ?_
  have ge : (h.update dx (Obj.putName name (PyData.keyHash w.params name) (.str name (k + 1)) v)).get? dx = some (dictOf (putL name (PyData.keyHash w.params name) (.str name (k + 1)) v es) (putN name es n)) := by
    rw [← putName_dict]
    exact Heap.get?_update_self _ hd (by rw [putName_dict]; rfl)
  refine wpAny_bind (wpAny_lookBehind ge (pastItsLine_dict (by rw [List.size_toArray, sizeLine_eq]; have := putL_length name (PyData.keyHash w.params name) (.str name (k + 1)) v es; omega)) ?_)
  exact wpAny_pure (H _ _ _ ge (Heap.SameBut.update ..))
theorem o_get {x dx : Addr} {es : List DictEntry} {n : Nat} {name : Str} {v : Value} {expr : Bool} (c : Cx w h) (hx : h.get? x = some (instObj 83 dx)) (hd : h.get? dx = some (dictOf es n))
    (ha : findIn (KF w) (.ref 83) name = some none) (hl : getL name es = some (some v)) (hv : handedIn v = true) (H : ∀ k', Q v ⟨h, gs, d, k', os⟩) :
    wpAny (model prog w) A (getAttr (.ref x) name expr) Q E ⟨h, gs, d, k, os⟩ :=
  get_value c.K (inst83 hx hd) (k_getA w) (findObj_own (k_hasD w) ha rfl hl) hv (H _)
theorem o_meth {x dx f : Addr} {es : List DictEntry} {n : Nat} {name : Str} {pl : Sem Bool} {Q : Value × List Value → Shared → Prop} (c : Cx w h) (hx : h.get? x = some (instObj 83 dx)) (hd : h.get? dx = some (dictOf es n))
    (hf : findIn (KF w) (.ref 83) name = some (some (.ref f))) (ht : typeIn (KF w) (.ref f) = some (.type "function")) (hl : getL name es = some none) (H : Q (.ref f, [.ref x]) ⟨h, gs, d, k, os⟩) :
    wpAny (model prog w) A (getMethod (.ref x) name pl) Q E ⟨h, gs, d, k, os⟩ :=
  method_fn c.K (inst83 hx hd) (k_getA w) (k_getB w) hf ht (by show (lookIn name (dictOf es n)).map _ = _; rw [lookIn_dict, hl]; rfl) H
theorem o_cls {name : Str} {a : Value} {expr : Bool} (c : Cx w h) (e : findCls (KF w) (.ref 83) (.type "type") name = some (.val a)) (hh : handedIn a = true) (H : ∀ k', Q a ⟨h, gs, d, k', os⟩) :
    wpAny (model prog w) A (getAttr (.ref 83) name expr) Q E ⟨h, gs, d, k, os⟩ := cls_value c.K (k_reads w) e hh (H _)
/-- an attribute of a name -/
theorem r_attr {x attr : Str} {np pos : Pos} (H : wpAny (model prog w) A (eval (.Name x np) env) (fun o s₁ => wpAny (model prog w) A (getAttr o attr true) Q E s₁) E ⟨h, gs, d, k, os⟩) :
    wpAny (model prog w) A (eval (.Attribute (.Name x np) attr pos) env) Q E ⟨h, gs, d, k, os⟩ := PyProof.Rows.Attribute_name H
variable {R : Flow → Shared → Prop}
theorem s_setA {o : PySem.Expr} {attr : Str} {pos' : Pos} {value : PySem.Expr} {pos : Pos} {rest : List Stmt}
    (hs : swapsWith value (some (.Attribute o attr pos')) pos.line env = pure false)
    (H : wpAny (model prog w) A (eval value env) (fun v s₁ => wpAny (model prog w) A (eval o env) (fun ov s₂ => wpAny (model prog w) A (setAttr ov attr v) (fun _ s₃ => wpAny (model prog w) A (execs rest env) R E s₃) E s₂) E s₁) E ⟨h, gs, d, k, os⟩) :
    wpAny (model prog w) A (execs (.Assign [.Attribute o attr pos'] value pos :: rest) env) R E ⟨h, gs, d, k, os⟩ := s_cons (plainObj_wpAny_Assign_Attribute H hs)
theorem s_setS {o i : PySem.Expr} {pos' : Pos} {value : PySem.Expr} {pos : Pos} {rest : List Stmt}
    (hs : swapsWith value (some (.Subscript o i pos')) pos.line env = pure false)
    (H : wpAny (model prog w) A (eval value env) (fun v s₁ => wpAny (model prog w) A (eval o env) (fun ov s₂ => wpAny (model prog w) A (eval i env) (fun iv s₃ => wpAny (model prog w) A (setItem ov iv v) (fun _ s₄ => wpAny (model prog w) A (execs rest env) R E s₄) E s₃) E s₂) E s₁) E ⟨h, gs, d, k, os⟩) :
    wpAny (model prog w) A (execs (.Assign [.Subscript o i pos'] value pos :: rest) env) R E ⟨h, gs, d, k, os⟩ := s_cons (wpAny_Assign_Subscript H hs)
theorem s_set3 {x y z : Str} {p1 p2 p3 : Pos} {value : PySem.Expr} {pos : Pos} {rest : List Stmt} {g : Heap} {hi : Nat} {σ : List (Str × Value)} (F : Frm g env hi h σ)
    (hx : env.kindOf x = some .local) (hy : env.kindOf y = some .local) (hz : env.kindOf z = some .local)
    (hw : swappedStores [.Name x p1, .Name y p2, .Name z p3] value env = pure none)
    (H : wpAny (model prog w) A (eval value env) (fun v s₁ => ∃ h₁ k₁, s₁ = ⟨h₁, gs, d, k₁, os⟩ ∧ Ext h h₁ ∧ ∀ h' k', Frm g env hi h' (put (put (put σ x v) y v) z v) → Out env.locals hi h₁ h' → wpAny (model prog w) A (execs rest env) R E ⟨h', gs, d, k', os⟩) E ⟨h, gs, d, k, os⟩) :
    wpAny (model prog w) A (execs (.Assign [.Name x p1, .Name y p2, .Name z p3] value pos :: rest) env) R E ⟨h, gs, d, k, os⟩ := by
  refine s_cons (wpAny_Assign_three (wpAny_mono H (fun v s₁ q => ?_) fun _ _ e => e) rfl hw)
  obtain ⟨h₁, k₁, rfl, e, q⟩ := q
  refine s_assign (.inl hx) (F.ext e) fun h₂ k₂ F₂ o₂ => s_assign (.inl hy) F₂ fun h₃ k₃ F₃ o₃ => s_assign (.inl hz) F₃ fun h₄ k₄ F₄ o₄ => q _ _ F₄ ((o₂.trans o₃).trans o₄)
theorem ext_of_but {h h' : Heap} (e : Heap.ExtBut h.objs.size h h') : Ext h h' := fun b o q => e b o (Nat.ne_of_lt (Heap.lt_size q)) q
/-- two names from a tuple of two -/
theorem s_unp2 {x y : Str} {p1 p2 tp : Pos} {u : Nat} {value : PySem.Expr} {pos : Pos} {rest : List Stmt} {g : Heap} {hi : Nat} {σ : List (Str × Value)} (hh : A.handled = none) (F : Frm g env hi h σ)
    (hx : env.kindOf x = some .local) (hy : env.kindOf y = some .local)
    (hs : swapsWithSole [.Tuple [.Name x p1, .Name y p2] u tp] value pos.line env = pure false) (hw : swappedStores [.Tuple [.Name x p1, .Name y p2] u tp] value env = pure none)
    (H : wpAny (model prog w) A (eval value env) (fun v s₁ => ∃ h₁ k₁ t a b, s₁ = ⟨h₁, gs, d, k₁, os⟩ ∧ Ext h h₁ ∧ v = .ref t ∧ h₁.get? t = some (tupO [a, b]) ∧ ∀ h₂ h' k', Ext h₁ h₂ → Frm g env hi h' (put (put σ x a) y b) → Out env.locals hi h₂ h' → wpAny (model prog w) A (execs rest env) R E ⟨h', gs, d, k', os⟩) E ⟨h, gs, d, k, os⟩) :
    wpAny (model prog w) A (execs (.Assign [.Tuple [.Name x p1, .Name y p2] u tp] value pos :: rest) env) R E ⟨h, gs, d, k, os⟩ := by
  refine s_cons (PyProof.Rows.Assign_Tuple (wpAny_mono H (fun v s₁ q => ?_) fun _ _ e => e) hs hw)
  obtain ⟨h₁, k₁, t, a, b, rfl, e, rfl, ht, q⟩ := q
  show wpAny _ _ (do standAt tp; unpack (.ref t) (assignEach [.Name x p1, .Name y p2] env)) _ _ _
  refine wpAny_bind (wpAny_standAt (wpAny_unpack_tuple (items := [a, b].toArray) hh ⟨_, ht, rfl, _, rfl⟩ rfl rfl fun h₂ hb => ?_))
  have e₂ := ext_of_but hb
  show wpAny _ _ (do holding [b] (assign (.Name x p1) env a); assignInOrder [assign (.Name y p2) env] [b]) _ _ _
  refine wpAny_bind (wpAny_holding (s_assign (.inl hx) ((F.ext e).ext e₂) fun h₃ k₃ F₃ o₃ => ?_))
  show wpAny _ _ (do holding [] (assign (.Name y p2) env b); assignInOrder [] []) _ _ _
  refine wpAny_bind (wpAny_holding (s_assign (.inl hy) F₃ fun h₄ k₄ F₄ o₄ => ?_))
  exact wpAny_pure (q h₂ h₄ k₄ e₂ F₄ (o₃.trans o₄))
/-- two names from a display of two: the second is stored first -/
theorem s_unp2s {x y : Str} {p1 p2 tp : Pos} {u : Nat} {value : PySem.Expr} {pos : Pos} {rest : List Stmt} {g : Heap} {hi : Nat} {σ : List (Str × Value)} (hh : A.handled = none) (F : Frm g env hi h σ)
    (hx : env.kindOf x = some .local) (hy : env.kindOf y = some .local)
    (hs : swapsWithSole [.Tuple [.Name x p1, .Name y p2] u tp] value pos.line env = pure false) (hw : swappedStores [.Tuple [.Name x p1, .Name y p2] u tp] value env = pure (some [x, y]))
    (H : wpAny (model prog w) A (eval value env) (fun v s₁ => ∃ h₁ k₁ t a b, s₁ = ⟨h₁, gs, d, k₁, os⟩ ∧ Ext h h₁ ∧ v = .ref t ∧ h₁.get? t = some (tupO [a, b]) ∧ ∀ h₂ h' k', Ext h₁ h₂ → Frm g env hi h' (put (put σ y b) x a) → Out env.locals hi h₂ h' → wpAny (model prog w) A (execs rest env) R E ⟨h', gs, d, k', os⟩) E ⟨h, gs, d, k, os⟩) :
    wpAny (model prog w) A (execs (.Assign [.Tuple [.Name x p1, .Name y p2] u tp] value pos :: rest) env) R E ⟨h, gs, d, k, os⟩ := by
  refine s_cons (PyProof.Rows.Assign_Tuple_swapped (names := [x, y]) (wpAny_mono H (fun v s₁ q => ?_) fun _ _ e => e) hs hw)
  obtain ⟨h₁, k₁, t, a, b, rfl, e, rfl, ht, q⟩ := q
  refine wpAny_unpackItems_tuple (items := [a, b].toArray) hh ⟨_, ht, rfl, _, rfl⟩ fun h₂ hb => ?_
  have e₂ := ext_of_but hb
  show wpAny _ _ (do holding [a] (bindName env y b); assignInOrder [fun v => bindName env x v] [a]) _ _ _
  refine wpAny_bind (wpAny_holding (wpAny_bindName (store_var ((F.ext e).ext e₂) (.inl hy) fun h₃ k₃ F₃ o₃ => ?_)))
  show wpAny _ _ (do holding [] (bindName env x a); assignInOrder [] []) _ _ _
  refine wpAny_bind (wpAny_holding (wpAny_bindName (store_var F₃ (.inl hx) fun h₄ k₄ F₄ o₄ => ?_)))
  exact wpAny_pure (q h₂ h₄ k₄ e₂ F₄ (o₃.trans o₄))
end

/- C2 -/
noncomputable def bump (c : List Nat) (b : Nat) : List Nat :=
  let c' := if c.length ≤ b then c ++ List.replicate (b - c.length + 1) 0 else c
  c'.set b (c'.getD b 0 + 1)
noncomputable def wsGo : List Nat → List Nat → Nat → Nat → Nat → List Nat × Nat × Nat × Nat
  | [], c, b, n, nt => (c, b, n, nt)
  | x :: r, c, b, n, nt => if x = 32 then wsGo r c (b + 1) (n + 1) nt else if x = 9 then wsGo r (bump c b) 0 (n + 1) (nt + 1) else (c, b, n, nt)
noncomputable def zs (l : List Nat) : List Int := l.map fun x : Nat => (x : Int)
theorem zs_length (l : List Nat) : (zs l).length = l.length := by simp [zs]

/-- a Whitespace by what it holds -/
inductive IsWs (w : World) (h : Heap) (x : Addr) (c : List Nat) (b n nt : Nat) : Prop
  | mk (dx tn tc : Addr) (raw : Value) (t1 t2 t3 t4 t5 u1 u2 u3 : Tok) (vs : List Value) (h1 : h.get? x = some (instObj 83 dx))
    (h2 : h.get? dx = some (dictOf [⟨PyData.keyHash w.params "raw", .str "raw" t1, raw⟩, ⟨PyData.keyHash w.params "n", .str "n" t2, .int (n : Int) u1⟩, ⟨PyData.keyHash w.params "nt", .str "nt" t3, .int (nt : Int) u2⟩,
      ⟨PyData.keyHash w.params "norm", .str "norm" t4, .ref tn⟩, ⟨PyData.keyHash w.params "is_simple", .str "is_simple" t5, .bool (decide (c.length ≤ 1))⟩] 5))
    (h3 : h.get? tn = some (tupO [.ref tc, .int (b : Int) u3])) (h4 : h.get? tc = some (tupO vs)) (h5 : IntsAre vs (zs c))
theorem IsWs.ext {w : World} {h h' : Heap} {x : Addr} {c b n nt} (a : IsWs w h x c b n nt) (e : Ext h h') : IsWs w h' x c b n nt := by
  obtain ⟨dx, tn, tc, raw, t1, t2, t3, t4, t5, u1, u2, u3, vs, h1, h2, h3, h4, h5⟩ := a
  exact ⟨dx, tn, tc, raw, t1, t2, t3, t4, t5, u1, u2, u3, vs, e _ _ h1, e _ _ h2, e _ _ h3, e _ _ h4, h5⟩

inductive InitI (w : World) (hB : Heap) (L : Nat) (I x dx : Addr) (t t₂ : Tok) (X : List Nat) (i : Nat) (h' : Heap) : Prop
  | mk (c : List Nat) (b n nt : Nat) (l : Addr) (tb tn tt : Tok) (h1 : Frm hB (callEnvC (fdAt 38) L 38) (L + 1) h' [("nt", .int (nt : Int) tt), ("n", .int (n : Int) tn), ("b", .int (b : Int) tb), ("count", .ref l), ("S", .str (S [32]) 209), ("T", .str (S [9]) 210), ("self", .ref x)])
      (h2 : IL h' l (zs c)) (h3 : L + 1 ≤ l) (h4 : l ≠ I) (h5 : h'.get? x = some (instObj 83 dx)) (h6 : h'.get? dx = some (dictOf (putL "raw" (PyData.keyHash w.params "raw") (.str "raw" t₂) (.str (S X) t) []) 1))
      (h7 : b ≤ i) (h8 : c.length ≤ i) (h9 : wsGo (X.drop i) c b n nt = wsGo X [] 0 0 0)
inductive InitP (w : World) (hB : Heap) (L : Nat) (x dx : Addr) (t t₂ : Tok) (X : List Nat) (h' : Heap) : Prop
  | mk (c : List Nat) (b n nt : Nat) (l : Addr) (tb tn tt : Tok) (h1 : Frm hB (callEnvC (fdAt 38) L 38) (L + 1) h' [("nt", .int (nt : Int) tt), ("n", .int (n : Int) tn), ("b", .int (b : Int) tb), ("count", .ref l), ("S", .str (S [32]) 209), ("T", .str (S [9]) 210), ("self", .ref x)])
      (h2 : IL h' l (zs c)) (h3 : L + 1 ≤ l) (h5 : h'.get? x = some (instObj 83 dx)) (h6 : h'.get? dx = some (dictOf (putL "raw" (PyData.keyHash w.params "raw") (.str "raw" t₂) (.str (S X) t) []) 1)) (h7 : c.length ≤ 1000) (h8 : wsGo X [] 0 0 0 = (c, b, n, nt))
inductive InitM (w : World) (hB : Heap) (L : Nat) (I x dx : Addr) (t t₂ t₄ t₆ tb : Tok) (X cc : List Nat) (b n nt : Nat) (St : Heap → Prop) (h' : Heap) : Prop
  | mk (l' : Addr) (c1 : List Nat) (h1 : Frm hB (callEnvC (fdAt 38) L 38) (L + 1) h' [("count", .ref l'), ("nt", .int ((nt + 1 : Nat) : Int) t₆), ("n", .int ((n + 1 : Nat) : Int) t₄), ("b", .int (b : Int) tb), ("S", .str (S [32]) 209), ("T", .str (S [9]) 210), ("self", .ref x)])
      (h2 : IL h' l' (zs c1)) (h3 : L + 1 ≤ l') (h4 : l' ≠ I) (h5 : h'.get? x = some (instObj 83 dx)) (h6 : h'.get? dx = some (dictOf (putL "raw" (PyData.keyHash w.params "raw") (.str "raw" t₂) (.str (S X) t) []) 1)) (h7 : St h')
      (h8 : c1 = (if cc.length ≤ b then cc ++ List.replicate (b - cc.length + 1) 0 else cc))
theorem init_spec {prog : Program} {w : World} {A : Around} {h hB : Heap} {gs : Array GenState} {d : Drawn} {k : Nat} {os : OsState} (r : Rm A 1) (c : Cx w hB) {x dx : Addr} (e₀ : Ext hB h) (hs₀ : hB.objs.size ≤ h.objs.size)
    (hx : h.get? x = some (instObj 83 dx)) (hd : h.get? dx = some (dictOf [] 0)) (hx₀ : hB.objs.size ≤ x) (hd₀ : hB.objs.size ≤ dx) (hne : x ≠ dx) (X : List Nat) (t : Tok) (hX : X.length ≤ 100)
    {R : Result → Shared → Prop} (H : ∀ h' k' c b n nt, Ext hB h' → wsGo X [] 0 0 0 = (c, b, n, nt) → IsWs w h' x c b n nt → R (.ok (.ret .none)) ⟨h', gs, d, k', os⟩) :
    codeAny (model prog w) A (.call (.ref 38) ⟨[.ref x, .str (S X) t], []⟩) R ⟨h, gs, d, k, os⟩ := by
  refine enterF (fd := fdAt 38) (n := 0) [("self", .ref x), ("ws", .str (S X) t)] ["self", "ws"] r (c.ext e₀) rfl rfl rfl rfl rfl rfl rfl rfl (by decide) (fun h₁ k₁ F c₁ r₁ E => ?_) rfl rfl rfl
  change Frm h (callEnvC (fdAt 38) h.objs.size 38) (h.objs.size + 1) h₁ _ at F
  generalize hA : A.deeper (callEnvC (fdAt 38) h.objs.size 38) = A' at r₁ ⊢
  have hxL := Heap.lt_size hx
  have hdL := Heap.lt_size hd
  replace hx := F.ok.keep _ _ hx
  replace hd := F.ok.keep _ _ hd
  replace F := F.base e₀ hs₀
  generalize h.objs.size = L at *
  clear hA e₀ hs₀
  as_aux_lemma =>
  refine hidQ fun Q₀ hQ₀ => ?_
  -- self.raw = ws
  refine s_setA rfl ?_
  walk_at "nm"
  walk_at "nm"
  refine o_set c₁ hx hd rfl rfl (Nat.le_of_ble_eq_true rfl) fun h₂ k₂ t₂ hd₂ sb₂ => ?_
  replace F := F.but hd₀ hdL fun b o hb e => sb₂.extBut b o hb e
  replace hx := sb₂.extBut _ _ hne hx
  have c₂ := c.ext F.ok.keep
  -- S, T = ..
  refine s_unp2s r₁.hh F rfl rfl rfl rfl (r_tup (a_cons rfl (r_attr ?_)))
  refine r_glob c₂ rfl ?_ rfl rfl rfl
  refine o_cls c₂ rfl rfl fun k₃ => a_cons rfl (r_attr ?_)
  refine r_glob c₂ rfl ?_ rfl rfl rfl
  refine o_cls c₂ rfl rfl fun k₄ => a_nil ⟨_, _, rfl, by simp, _, _, _, _, _, rfl, Ext.push _ _, rfl, Heap.get?_push_size _ rfl, fun h₃ h₄ k₅ x₃ F₄ o₄ => ?_⟩
  replace F₄ : Frm hB (callEnvC (fdAt 38) L 38) (L + 1) h₄ [("S", .str (S [32]) 209), ("T", .str (S [9]) 210), ("self", .ref x), ("ws", .str (S X) t)] := F₄
  have x₄ : ∀ b o, b < L → h₂.get? b = some o → h₄.get? b = some o := fun b o hb e => o₄ b o (.inl hb) (x₃ b o (Ext.push _ _ b o e))
  replace hx := x₄ _ _ hxL hx
  replace hd₂ := x₄ _ _ hdL hd₂
  -- count = []
  refine s_set F₄ (.inl rfl) rfl (r_list (a_nil ⟨_, _, rfl, by simp, _, _, rfl, Ext.push _ _, fun h₅ k₆ F₅ o₅ => ?_⟩))
  replace F₅ : Frm hB (callEnvC (fdAt 38) L 38) (L + 1) h₅ [("count", .ref h₄.objs.size), ("S", .str (S [32]) 209), ("T", .str (S [9]) 210), ("self", .ref x), ("ws", .str (S X) t)] := F₅
  have hl₄ := F₄.ok.size
  have hL : IL h₅ h₄.objs.size (zs []) := IL.at (h := h₄.push (listO [])) ⟨[], isList_push _ _, .nil⟩ fun o e => o₅ _ o (.inr hl₄) e
  replace hx := o₅ _ _ (.inl hxL) (Ext.push _ _ _ _ hx)
  replace hd₂ := o₅ _ _ (.inl hdL) (Ext.push _ _ _ _ hd₂)
  generalize h₄.objs.size = l at F₅ hL hl₄
  clear o₅ x₄ o₄ F₄ x₃
  as_aux_lemma =>
  -- b = n = nt = 0
  refine s_set3 F₅ rfl rfl rfl rfl (r_int fun t₀ k₇ => ⟨_, _, rfl, Ext.refl _, fun h₆ k₈ F₆ o₆ => ?_⟩)
  replace F₆ : Frm hB (callEnvC (fdAt 38) L 38) (L + 1) h₆ [("nt", .int 0 t₀), ("n", .int 0 t₀), ("b", .int 0 t₀), ("count", .ref l), ("S", .str (S [32]) 209), ("T", .str (S [9]) 210), ("self", .ref x), ("ws", .str (S X) t)] := F₆
  replace hL := hL.at fun o e => o₆ _ o (.inr hl₄) e
  replace hx := o₆ _ _ (.inl hxL) hx
  replace hd₂ := o₆ _ _ (.inl hdL) hd₂
  have c₆ := c.ext F₆.ok.keep
  -- the loop
  have hI := F₆.ok.size
  refine s_for (fun _ => rfl) (r_attr ?_)
  walk_at "nm"
  refine o_get c₆ hx hd₂ rfl rfl rfl fun k₉ => r_iterS fun o St hW hStz st => ?_
  have W := hW A' r₁.hh
  have hlI : l < h₆.objs.size := hL.lt
  refine s_forP W (fun i h' => InitI w hB L h₆.objs.size x dx t t₂ X i h') (fun h' => InitP w hB L x dx t t₂ X h')
    ⟨[], 0, 0, 0, l, t₀, t₀, t₀, (F₆.ext (Ext.push h₆ o)).sub (by walk_at "sub"), hL.ext (Ext.push _ _), hl₄, Nat.ne_of_lt hlI, Ext.push _ _ _ _ hx, Ext.push _ _ _ _ hd₂, Nat.zero_le _, Nat.zero_le _, rfl⟩ st (fun _ => rfl) ?_ ?_ ?_
  · rintro i h₇ k₁₀ v h₈ E' hi ⟨cc, b, n, nt, l, tb, tn, tt, F₇, hL, hl, hlI, hx, hd₂, hb, hcl, hgo⟩ st₈ ⟨c', u', hc', rfl⟩ hk₈
    have drp : X.drop i = c' :: X.drop (i + 1) := by
      obtain ⟨hl, e⟩ := List.getElem?_eq_some_iff.mp hc'
      rw [← e, List.drop_eq_getElem_cons hl]
    rw [drp] at hgo
    have F₈ := F₇.low (fun b o hb e => hk₈ b o (by simp; exact Nat.ne_of_lt (Nat.lt_of_lt_of_le hb hI)) e)
    replace hL := hL.at fun o e => hk₈ _ o (by simpa using hlI) e
    replace hx := hk₈ _ _ (by simp; exact Nat.ne_of_lt (Nat.lt_of_lt_of_le hxL (Nat.le_trans (Nat.le_succ _) hI))) hx
    replace hd₂ := hk₈ _ _ (by simp; exact Nat.ne_of_lt (Nat.lt_of_lt_of_le hdL (Nat.le_trans (Nat.le_succ _) hI))) hd₂
    refine s_assign (.inl rfl) F₈ fun h₉ k₁₁ F₉ o₉ => hidQ fun Q₁ hQ₁ => ?_
    replace F₉ : Frm hB (callEnvC (fdAt 38) L 38) (L + 1) h₉ [("ch", .str (S [c']) u'), ("nt", .int (nt : Int) tt), ("n", .int (n : Int) tn), ("b", .int (b : Int) tb), ("count", .ref l), ("S", .str (S [32]) 209), ("T", .str (S [9]) 210), ("self", .ref x)] := F₉
    replace st₈ : St (i + 1) h₉ := W.frame _ _ _ st₈ fun b hb o e => o₉ b o (.inr (by simp at hb; subst hb; exact hI)) e
    replace hL := hL.at fun o e => o₉ _ o (.inr hl) e
    replace hx := o₉ _ _ (.inl hxL) hx
    replace hd₂ := o₉ _ _ (.inl hdL) hd₂
    clear o₉ F₈ F₇ hk₈
    as_aux_lemma =>
    refine s_if (hidQ fun Q₂ hQ₂ => r_test ?_)
    walk_at "nm"
    walk_at "nm"
    refine r_eqS ⟨_, rfl, hQ₂ _ _ ⟨fun hb1 => ?_, fun hb1 => ?_⟩⟩
    · have e32 : c' = 32 := by simpa using hb1
      subst e32
      have hg : wsGo (32 :: X.drop (i + 1)) cc b n nt = wsGo (X.drop (i + 1)) cc (b + 1) (n + 1) nt := rfl
      rw [hg] at hgo
      refine s_set F₉ (.inl rfl) rfl (r_binop ?_)
      walk_at "nm"
      refine r_int fun t₃ k₁₂ => r_add fun t₄ k₁₃ => ⟨_, _, rfl, Ext.refl _, fun h₁₀ k₁₄ F₁₀ o₁₀ => ?_⟩
      replace F₁₀ : Frm hB (callEnvC (fdAt 38) L 38) (L + 1) h₁₀ [("n", .int ((n + 1 : Nat) : Int) t₄), ("ch", .str (S [32]) u'), ("nt", .int (nt : Int) tt), ("b", .int (b : Int) tb), ("count", .ref l), ("S", .str (S [32]) 209), ("T", .str (S [9]) 210), ("self", .ref x)] := F₁₀
      refine s_set F₁₀ (.inl rfl) rfl (r_binop ?_)
      walk_at "nm"
      refine r_int fun t₅ k₁₅ => r_add fun t₆ k₁₆ => ⟨_, _, rfl, Ext.refl _, fun h₁₁ k₁₇ F₁₁ o₁₁ => ?_⟩
      replace F₁₁ : Frm hB (callEnvC (fdAt 38) L 38) (L + 1) h₁₁ [("b", .int ((b + 1 : Nat) : Int) t₆), ("n", .int ((n + 1 : Nat) : Int) t₄), ("ch", .str (S [32]) u'), ("nt", .int (nt : Int) tt), ("count", .ref l), ("S", .str (S [32]) 209), ("T", .str (S [9]) 210), ("self", .ref x)] := F₁₁
      have oo := o₁₀.trans o₁₁
      exact s_nil (s_nil (hQ₁ _ _ ⟨_, _, rfl, ⟨cc, b + 1, n + 1, nt, l, t₆, t₄, tt, F₁₁.sub (by walk_at "sub"), hL.at fun o e => oo _ o (.inr hl) e, hl, hlI, oo _ _ (.inl hxL) hx, oo _ _ (.inl hdL) hd₂, by omega, by omega, hgo⟩,
        W.frame _ _ _ st₈ fun b hb o e => oo b o (.inr (by simp at hb; subst hb; exact hI)) e⟩))
    · have n32 : c' ≠ 32 := by simpa using hb1
      refine s_if (hidQ fun Q₃ hQ₃ => r_test ?_)
      walk_at "nm"
      walk_at "nm"
      refine r_eqS ⟨_, rfl, hQ₃ _ _ ⟨fun hb2 => ?_, fun hb2 => ?_⟩⟩
      · have e9 : c' = 9 := by simpa using hb2
        subst e9
        have hg : wsGo (9 :: X.drop (i + 1)) cc b n nt = wsGo (X.drop (i + 1)) (bump cc b) 0 (n + 1) (nt + 1) := rfl
        rw [hg] at hgo
        refine s_set F₉ (.inl rfl) rfl (r_binop ?_)
        walk_at "nm"
        refine r_int fun t₃ k₁₂ => r_add fun t₄ k₁₃ => ⟨_, _, rfl, Ext.refl _, fun h₁₀ k₁₄ F₁₀ o₁₀ => ?_⟩
        replace F₁₀ : Frm hB (callEnvC (fdAt 38) L 38) (L + 1) h₁₀ [("n", .int ((n + 1 : Nat) : Int) t₄), ("ch", .str (S [9]) u'), ("nt", .int (nt : Int) tt), ("b", .int (b : Int) tb), ("count", .ref l), ("S", .str (S [32]) 209), ("T", .str (S [9]) 210), ("self", .ref x)] := F₁₀
        refine s_set F₁₀ (.inl rfl) rfl (r_binop ?_)
        walk_at "nm"
        refine r_int fun t₅ k₁₅ => r_add fun t₆ k₁₆ => ⟨_, _, rfl, Ext.refl _, fun h₁₁ k₁₇ F₁₁ o₁₁ => ?_⟩
        replace F₁₁ : Frm hB (callEnvC (fdAt 38) L 38) (L + 1) h₁₁ [("nt", .int ((nt + 1 : Nat) : Int) t₆), ("n", .int ((n + 1 : Nat) : Int) t₄), ("ch", .str (S [9]) u'), ("b", .int (b : Int) tb), ("count", .ref l), ("S", .str (S [32]) 209), ("T", .str (S [9]) 210), ("self", .ref x)] := F₁₁
        have oo := o₁₀.trans o₁₁
        replace hL := hL.at fun o e => oo _ o (.inr hl) e
        replace hx := oo _ _ (.inl hxL) hx
        replace hd₂ := oo _ _ (.inl hdL) hd₂
        replace st₈ : St (i + 1) h₁₁ := W.frame _ _ _ st₈ fun b hb o e => oo b o (.inr (by simp at hb; subst hb; exact hI)) e
        clear oo o₁₀ o₁₁ F₁₀ F₉
        have c₁₁ := c.ext F₁₁.ok.keep
        clear hQ₂ hQ₃ Q₂ Q₃
        as_aux_lemma =>
        refine s_ifP (InitM w hB L h₆.objs.size x dx t t₂ t₄ t₆ tb X cc b n nt (St (i + 1))) (hidQ fun Q₄ hQ₄ => r_test ?_) ?_
        · walk_at "nm"
          refine r_call1b c₁₁ (g_len w) boot_len (by decide) rfl rfl rfl rfl (by decide) rfl ?_
          walk_at "nm"
          refine r_lenI hL (by rw [zs_length]; omega) fun t₇ k₁₈ => r_ge ⟨_, rfl, hQ₄ _ _ ⟨fun hb3 => hidQ fun Q₅ hQ₅ => ?_, fun hb3 => ?_⟩⟩
          · have hle := of_decide_eq_true hb3
            rw [zs_length] at hle
            as_aux_lemma =>
            refine s_set F₁₁ (.inl rfl) rfl (hidQ fun Q₆ hQ₆ => r_binop ?_)
            walk_at "nm"
            refine r_binop (r_list (a_cons rfl (r_int fun t₈ k₁₉ => a_nil ⟨_, _, rfl, by simp, ?_⟩)))
            have F₁₂ := F₁₁.ext (Ext.push h₁₁ (listO [.int 0 t₈]))
            refine r_binop (r_binop ?_)
            walk_at "nm"
            refine r_call1b (c.ext F₁₂.ok.keep) (g_len w) boot_len (by decide) rfl rfl rfl rfl (by decide) rfl ?_
            walk_at "nm"
            refine r_lenI (hL.ext (Ext.push _ _)) (by rw [zs_length]; omega) fun t₉ k₂₀ => r_sub fun t₁₀ k₂₁ => r_int fun t₁₁ k₂₂ => r_add fun t₁₂ k₂₃ => ?_
            rw [zs_length]
            refine r_mulL (Heap.get?_push_size _ rfl) (by omega) (by omega) ?_
            refine r_addI (ns := zs cc) (ms := List.replicate (b - cc.length + 1) 0) ((hL.ext (Ext.push _ _)).ext (Ext.push _ _)) ⟨_, isList_push _ _, ?_⟩ (by rw [zs_length, List.length_replicate]; omega) fun h₁₃ x₁₃ hL₁₃ => hQ₆ _ _ ⟨_, _, rfl, ((Ext.push _ _).trans (Ext.push _ _)).trans x₁₃, fun h₁₄ k₂₄ F₁₄ o₁₄ => s_nil (hQ₅ _ _ ⟨rfl, _, _, rfl, ?_⟩)⟩
            · rw [show ((b : Int) - (cc.length : Int) + 1).toNat = b - cc.length + 1 by omega]
              exact intsAre_rep _ _ _
            · replace F₁₄ : Frm hB (callEnvC (fdAt 38) L 38) (L + 1) h₁₄ [("count", .ref ((h₁₁.push (listO [.int 0 t₈])).push (listO (List.replicate ((b : Int) - (cc.length : Int) + 1).toNat (.int 0 t₈)))).objs.size), ("nt", .int ((nt + 1 : Nat) : Int) t₆), ("n", .int ((n + 1 : Nat) : Int) t₄), ("ch", .str (S [9]) u'), ("b", .int (b : Int) tb), ("S", .str (S [32]) 209), ("T", .str (S [9]) 210), ("self", .ref x)] := F₁₄
              have xx := ((Ext.push h₁₁ (listO [.int 0 t₈])).trans (Ext.push _ _)).trans x₁₃
              have hsz₁₁ := F₁₁.ok.size
              have hst := Heap.lt_size (xx _ _ hx)
              refine ⟨_, cc ++ List.replicate (b - cc.length + 1) 0, F₁₄.sub (by walk_at "sub"), IL.at (ns := zs (cc ++ List.replicate (b - cc.length + 1) 0)) ?_ fun o e => o₁₄ _ o (.inr ?_) e, ?_, ?_, o₁₄ _ _ (.inl hxL) (xx _ _ hx), o₁₄ _ _ (.inl hdL) (xx _ _ hd₂),
                W.frame _ _ _ st₈ fun b hb o e => o₁₄ b o (.inr (by simp at hb; subst hb; exact hI)) (xx b o e), ?_⟩
              · rw [show zs (cc ++ List.replicate (b - cc.length + 1) 0) = zs cc ++ List.replicate (b - cc.length + 1) 0 by simp [zs]]
                exact hL₁₃
              · show L + 1 ≤ _
                rw [Heap.size_push, Heap.size_push]; omega
              · rw [Heap.size_push, Heap.size_push]; omega
              · have := hStz _ _ st₈
                rw [Heap.size_push, Heap.size_push]; exact Nat.ne_of_gt (by omega)
              · rw [if_pos (by omega)]
          · have hle := of_decide_eq_false hb3
            rw [zs_length] at hle
            exact s_nil ⟨rfl, _, _, rfl, l, cc, F₁₁.sub (by walk_at "sub"), hL, hl, hlI, hx, hd₂, st₈, by rw [if_neg (by omega)]⟩
        · rintro h₁₂ k₁₉ ⟨l', c1, F₁₂, hL₁₂, hl₁₂, hlI₁₂, hx, hd₂, st₁₂, hc1⟩
          have hlen : b < c1.length ∧ c1.length ≤ i + 1 := by
            rw [hc1]
            split
            · rw [List.length_append, List.length_replicate]; omega
            · omega
          obtain ⟨vs, hvs, hvi⟩ := hL₁₂
          have hzl : (zs c1).length = c1.length := zs_length c1
          obtain ⟨tv, hv⟩ := intsAre_get hvi (i := b) (by rw [zs_length]; exact hlen.1)
          as_aux_lemma =>
          refine s_setS rfl (r_binop (r_item ?_))
          walk_at "nm"
          walk_at "nm"
          refine ⟨l', vs, b, _, _, rfl, rfl, hvs, by omega, hv, r_int fun t₈ k₂₀ => r_add fun t₉ k₂₁ => ?_⟩
          walk_at "nm"
          walk_at "nm"
          refine r_setI ⟨vs, hvs, hvi⟩ (by rw [zs_length]; exact hlen.1) (by rw [zs_length]; omega) fun h₁₃ hL₁₃ sb₁₃ => ?_
          have F₁₃ := F₁₂.low fun b o hb e => sb₁₃.extBut b o (Nat.ne_of_lt (Nat.lt_of_lt_of_le hb hl₁₂)) e
          replace hx := sb₁₃.extBut _ _ (Nat.ne_of_lt (Nat.lt_of_lt_of_le hxL (Nat.le_trans (Nat.le_succ _) hl₁₂))) hx
          replace hd₂ := sb₁₃.extBut _ _ (Nat.ne_of_lt (Nat.lt_of_lt_of_le hdL (Nat.le_trans (Nat.le_succ _) hl₁₂))) hd₂
          replace st₁₂ : St (i + 1) h₁₃ := W.frame _ _ _ st₁₂ fun b hb o e => sb₁₃.extBut b o (by simp at hb; subst hb; exact Ne.symm hlI₁₂) e
          refine s_set F₁₃ (.inl rfl) rfl (r_int fun t₁₀ k₂₂ => ⟨_, _, rfl, Ext.refl _, fun h₁₄ k₂₃ F₁₄ o₁₄ => ?_⟩)
          replace F₁₄ : Frm hB (callEnvC (fdAt 38) L 38) (L + 1) h₁₄ [("b", .int 0 t₁₀), ("count", .ref l'), ("nt", .int ((nt + 1 : Nat) : Int) t₆), ("n", .int ((n + 1 : Nat) : Int) t₄), ("S", .str (S [32]) 209), ("T", .str (S [9]) 210), ("self", .ref x)] := F₁₄
          refine s_nil (s_nil (s_nil (hQ₁ _ _ ⟨_, _, rfl, ⟨bump cc b, 0, n + 1, nt + 1, l', t₁₀, t₄, t₆, F₁₄.sub (by walk_at "sub"), ?_, hl₁₂, hlI₁₂, o₁₄ _ _ (.inl hxL) hx, o₁₄ _ _ (.inl hdL) hd₂, Nat.zero_le _, ?_, hgo⟩,
            W.frame _ _ _ st₁₂ fun b hb o e => o₁₄ b o (.inr (by simp at hb; subst hb; exact hI)) e⟩)))
          · have eb : zs (bump cc b) = (zs c1).set b ((zs c1)[b]'(by rw [zs_length]; exact hlen.1) + 1) := by
              unfold bump
              rw [← hc1]
              simp only [zs, List.map_set, List.getElem_map, List.getD_eq_getElem?_getD, List.getElem?_eq_getElem hlen.1, Option.getD_some]
              rfl
            rw [eb]
            exact hL₁₃.at fun o e => o₁₄ _ o (.inr hl₁₂) e
          · show (bump cc b).length ≤ i + 1
            unfold bump
            rw [← hc1, List.length_set]
            exact hlen.2
      · have n9 : c' ≠ 9 := by simpa using hb2
        refine s_brk (hQ₁ _ _ ⟨_, _, rfl, cc, b, n, nt, l, tb, tn, tt, F₉.sub (by walk_at "sub"), hL, hl, hx, hd₂, by omega, ?_⟩)
        rw [← hgo]
        unfold wsGo
        rw [if_neg n32, if_neg n9]
  · rintro h₇ h₈ ⟨cc, b, n, nt, l, tb, tn, tt, F₇, hL, hl, hlI, hx, hd₂, hb, hcl, hgo⟩ hk₈
    rw [List.drop_of_length_le (Nat.le_refl _)] at hgo
    refine ⟨cc, b, n, nt, l, tb, tn, tt, F₇.low (fun b o hb e => hk₈ b o (by simp; exact Nat.ne_of_lt (Nat.lt_of_lt_of_le hb hI)) e), hL.at fun o e => hk₈ _ o (by simpa using hlI) e, hl,
      hk₈ _ _ (by simp; exact Nat.ne_of_lt (Nat.lt_of_lt_of_le hxL (Nat.le_trans (Nat.le_succ _) hI))) hx, hk₈ _ _ (by simp; exact Nat.ne_of_lt (Nat.lt_of_lt_of_le hdL (Nat.le_trans (Nat.le_succ _) hI))) hd₂, by omega, ?_⟩
    rw [← hgo]; rfl
  · rintro h₇ k₁₀ ⟨cc, b, n, nt, l, tb, tn, tt, F₇, hL, hl, hx, hd₂, hcl, hgo⟩
    obtain ⟨vs, hvs, hvi⟩ := hL
    have hvl := hvi.length
    rw [zs_length] at hvl
    as_aux_lemma =>
    -- self.n
    refine s_setA rfl ?_
    walk_at "nm"
    walk_at "nm"
    refine o_set (c.ext F₇.ok.keep) hx hd₂ rfl rfl (Nat.le_of_ble_eq_true rfl) fun h₈ k₁₁ t₃ hd₃ sb₃ => ?_
    replace F₇ := F₇.but hd₀ hdL fun b o hb e => sb₃.extBut b o hb e
    replace hx := sb₃.extBut _ _ hne hx
    have hldx : l ≠ dx := Nat.ne_of_gt (Nat.lt_of_lt_of_le hdL (Nat.le_trans (Nat.le_succ _) hl))
    replace hvs := isList_at hvs fun o e => sb₃.extBut _ o hldx e
    -- self.nt
    refine s_setA rfl ?_
    walk_at "nm"
    walk_at "nm"
    refine o_set (c.ext F₇.ok.keep) hx hd₃ rfl rfl (Nat.le_of_ble_eq_true rfl) fun h₉ k₁₂ t₄ hd₄ sb₄ => ?_
    replace F₇ := F₇.but hd₀ hdL fun b o hb e => sb₄.extBut b o hb e
    replace hx := sb₄.extBut _ _ hne hx
    replace hvs := isList_at hvs fun o e => sb₄.extBut _ o hldx e
    clear sb₃ sb₄
    -- self.norm
    refine s_setA rfl (r_tup (a_cons rfl ?_))
    refine r_call1t (c.ext F₇.ok.keep) rfl boot_tuple (by decide) rfl rfl rfl rfl (by decide) rfl ?_
    walk_at "nm"
    refine r_tuple hvs (by omega) fun h₁₀ x₁₀ => ?_
    have F₁₀ := (F₇.ext x₁₀).ext (Ext.push h₁₀ (tupO vs))
    refine a_cons rfl ?_
    walk_at "nm"
    refine a_nil ⟨_, _, rfl, by simp, ?_⟩
    have F₁₁ := F₁₀.ext (Ext.push _ (tupO [.ref h₁₀.objs.size, .int (b : Int) tb]))
    walk_at "nm"
    have xx := (x₁₀.trans (Ext.push h₁₀ (tupO vs))).trans (Ext.push _ (tupO [.ref h₁₀.objs.size, .int (b : Int) tb]))
    have htc : (((h₁₀.push (tupO vs)).push (tupO [.ref h₁₀.objs.size, .int (b : Int) tb]))).get? h₁₀.objs.size = some (tupO vs) := Ext.push _ _ _ _ (Heap.get?_push_size _ rfl)
    have htn : (((h₁₀.push (tupO vs)).push (tupO [.ref h₁₀.objs.size, .int (b : Int) tb]))).get? (h₁₀.push (tupO vs)).objs.size = some (tupO [.ref h₁₀.objs.size, .int (b : Int) tb]) := Heap.get?_push_size _ rfl
    have hlt₁₀ : dx < h₁₀.objs.size := Heap.lt_size (x₁₀ _ _ hd₄)
    refine o_set (c.ext F₁₁.ok.keep) (xx _ _ hx) (xx _ _ hd₄) rfl rfl (Nat.le_of_ble_eq_true rfl) fun h₁₂ k₁₃ t₅ hd₅ sb₅ => ?_
    have F₁₂ := F₁₁.but hd₀ hdL fun b o hb e => sb₅.extBut b o hb e
    replace hx := sb₅.extBut _ _ hne (xx _ _ hx)
    replace hvs := isList_at (isList_ext hvs xx) fun o e => sb₅.extBut _ o hldx e
    replace htc := sb₅.extBut _ _ (Nat.ne_of_gt hlt₁₀) htc
    replace htn := sb₅.extBut _ _ (by rw [Heap.size_push]; exact Nat.ne_of_gt (Nat.lt_succ_of_lt hlt₁₀)) htn
    -- self.is_simple
    refine s_setA rfl (r_cmp ?_)
    refine r_call1b (c.ext F₁₂.ok.keep) (g_len w) boot_len (by decide) rfl rfl rfl rfl (by decide) rfl ?_
    walk_at "nm"
    refine r_len hvs (by omega) fun t₆ k₁₄ => r_int fun t₇ k₁₅ => r_le ?_
    walk_at "nm"
    refine o_set (c.ext F₁₂.ok.keep) hx hd₅ rfl rfl (Nat.le_of_ble_eq_true rfl) fun h₁₃ k₁₆ t₈ hd₆ sb₆ => ?_
    have F₁₃ := F₁₂.but hd₀ hdL fun b o hb e => sb₆.extBut b o hb e
    replace hx := sb₆.extBut _ _ hne hx
    replace htc := sb₆.extBut _ _ (Nat.ne_of_gt hlt₁₀) htc
    replace htn := sb₆.extBut _ _ (by rw [Heap.size_push]; exact Nat.ne_of_gt (Nat.lt_succ_of_lt hlt₁₀)) htn
    refine s_nil (hQ₀ _ _ (H _ _ cc b n nt F₁₃.ok.keep hgo ⟨dx, _, _, .str (S X) t, t₂, t₃, t₄, t₅, t₈, tn, tt, tb, vs, hx, ?_, htn, htc, hvi⟩))
    rw [hd₆]
    have e1 : decide ((vs.length : Int) ≤ 1) = decide (cc.length ≤ 1) := by rw [hvl, decide_eq_decide]; omega
    rw [e1]
    rfl

/- C3 -/
theorem Rm.make {A : Around} {n : Nat} {C : Addr} {vs : List Value} {kw : List (Str × Value)} (r : Rm A (n + 1)) : Rm (A.under (.builtin "type.__call__" ⟨.ref C :: vs, kw⟩)) n :=
  ⟨r.hh, (by show A.depth + 1 + n < 1000; have := r.dp; omega), (by show A.units + 1 + 3 * n < 9000; have := r.un; omega)⟩
theorem ws_new {prog : Program} {w : World} {A : Around} {E : Value → Shared → Prop} {h : Heap} {gs : Array GenState} {d : Drawn} {k : Nat} {os : OsState} {Q : Value → Shared → Prop} (r : Rm A 2) (c : Cx w h) (X : List Nat) (t : Tok) (hX : X.length ≤ 100)
    (H : ∀ x h' k' c b n nt, Ext h h' → h.objs.size ≤ x → wsGo X [] 0 0 0 = (c, b, n, nt) → IsWs w h' x c b n nt → Q (.ref x) ⟨h', gs, d, k', os⟩) :
    wpAny (model prog w) A (call (.ref 83) [.str (S X) t]) Q E ⟨h, gs, d, k, os⟩ := by
  refine wpAny_call (make_core (makes_of c.K (k_makes w)) (looks_findIn c.K (k_init w)) (fun self => bind_fn c.K self (k_fn38 w)) (.inl rfl) ?_)
  refine init_spec r.make c (hB := h) (x := h.objs.size + 1) (dx := h.objs.size) ((Ext.push _ _).trans (Ext.push _ _)) (by rw [Heap.size_push, Heap.size_push]; omega) ?_ (Ext.push _ _ _ _ (Heap.get?_push_size _ rfl)) (Nat.le_succ _) (Nat.le_refl _) (Nat.succ_ne_self _) X t hX
    fun h' k' c b n nt e hg hw => ⟨rfl, H _ h' k' c b n nt e (Nat.le_succ _) hg hw⟩
  have := Heap.get?_push_size (o := instObj 83 h.objs.size) (h.push emptyDict) rfl
  rwa [Heap.size_push] at this

/- MX -/
theorem boot_range : bootBuiltins "range" = some (.type "range") := by decide +kernel

section
variable {prog : Program} {w : World} {A : Around} {E : Value → Shared → Prop} {env : Env} {h : Heap} {gs : Array GenState} {d : Drawn} {k : Nat} {os : OsState} {Q : Value → Shared → Prop}

theorem r_callT {x : Str} {T : String} {np pos : Pos} {e : PySem.Expr} {rest : List PySem.Expr} (c : Cx w h) (he : nsIn (KF w) mainGlobals x = some none) (hv : bootBuiltins x = some (.type T)) (hn : x ≠ "__name__")
    (hk : env.scope.kind = .function) (hx : env.kindOf x = some .globalImplicit) (hg : env.globals = mainGlobals) (hb : env.builtins = builtinsNs) (hd : (x == ("__debug__" : Str)) = false)
    (hs : starEach (e :: rest) env = (false, eval e env) :: starEach rest env) (hplain : (backTo pos (starEach rest env)).any (·.1) = false)
    (H : wpAny (model prog w) A (spliced (backTo pos (starEach (e :: rest) env))) (fun vs s₁ => wpAny (model prog w) A (call (.type T) vs) Q E s₁) E ⟨h, gs, d, k, os⟩) :
    wpAny (model prog w) A (eval (.Call (.Name x np) (e :: rest) [] pos) env) Q E ⟨h, gs, d, k, os⟩ := by
  show wpAny _ A (do callWith pos (← eval (.Name x np) env) [] (backTo pos (starEach (e :: rest) env)) (backToKw pos (keywordEach [] env))) Q E _
  refine wpAny_bind (r_blt c he hv hn ?_ hk hx hg hb hd)
  rw [hs] at H ⊢
  exact PySem.callWith_type hplain (Calls.evalArgs_plain H)
theorem r_callB {x : Str} {T : String} {np pos : Pos} {e : PySem.Expr} {rest : List PySem.Expr} (c : Cx w h) (he : nsIn (KF w) mainGlobals x = some none) (hv : bootBuiltins x = some (.builtin T)) (hn : x ≠ "__name__")
    (hk : env.scope.kind = .function) (hx : env.kindOf x = some .globalImplicit) (hg : env.globals = mainGlobals) (hb : env.builtins = builtinsNs) (hd : (x == ("__debug__" : Str)) = false)
    (hs : starEach (e :: rest) env = (false, eval e env) :: starEach rest env) (hplain : (backTo pos (starEach rest env)).any (·.1) = false)
    (H : wpAny (model prog w) A (spliced (backTo pos (starEach (e :: rest) env))) (fun vs s₁ => wpAny (model prog w) A (call (.builtin T) vs) Q E s₁) E ⟨h, gs, d, k, os⟩) :
    wpAny (model prog w) A (eval (.Call (.Name x np) (e :: rest) [] pos) env) Q E ⟨h, gs, d, k, os⟩ := by
  show wpAny _ A (do callWith pos (← eval (.Name x np) env) [] (backTo pos (starEach (e :: rest) env)) (backToKw pos (keywordEach [] env))) Q E _
  refine wpAny_bind (r_blt c he hv hn ?_ hk hx hg hb hd)
  rw [hs] at H ⊢
  exact Calls.callWith_builtin hplain (Calls.evalArgs_plain H)
theorem r_callK {x : Str} {f : Addr} {np pos : Pos} {e : PySem.Expr} {rest : List PySem.Expr} (c : Cx w h) (he : nsIn (KF w) mainGlobals x = some (some (.ref f))) (hkp : keepIn (KF w) (.ref f) = true)
    (hk : env.scope.kind = .function) (hx : env.kindOf x = some .globalImplicit) (hg : env.globals = mainGlobals) (hd : (x == ("__debug__" : Str)) = false)
    (hs : starEach (e :: rest) env = (false, eval e env) :: starEach rest env) (hplain : (backTo pos (starEach rest env)).any (·.1) = false)
    (H : wpAny (model prog w) A (spliced (backTo pos (starEach (e :: rest) env))) (fun vs s₁ => (KF w).In s₁.heap ∧ wpAny (model prog w) A (call (.ref f) vs) Q E s₁) E ⟨h, gs, d, k, os⟩) :
    wpAny (model prog w) A (eval (.Call (.Name x np) (e :: rest) [] pos) env) Q E ⟨h, gs, d, k, os⟩ := by
  show wpAny _ A (do callWith pos (← eval (.Name x np) env) [] (backTo pos (starEach (e :: rest) env)) (backToKw pos (keywordEach [] env))) Q E _
  refine wpAny_bind (r_glob c he ?_ hk hx hg hd)
  exact callWith_K c.K hkp H hs hplain
/-- a method of an object -/
theorem r_meth {o : PySem.Expr} {name : Str} {apos pos : Pos} {args : List PySem.Expr} {pl : Sem Bool}
    (H : wpAny (model prog w) A (eval o env) (fun ov s₁ => wpAny (model prog w) A (getMethod ov name pl) (fun fx s₂ => wpAny (model prog w) A (callWith pos fx.1 fx.2 (backTo pos (starEach args env)) []) Q E s₂) E s₁) E ⟨h, gs, d, k, os⟩)
    (he : eval (.Call (.Attribute o name apos) args [] pos) env = (do
      let ov ← eval o env
      standAt apos.atName
      let (f, first) ← holding [ov] (getMethod ov name pl)
      callWith pos f first (backTo pos (starEach args env)) []) := by rfl) :
    wpAny (model prog w) A (eval (.Call (.Attribute o name apos) args [] pos) env) Q E ⟨h, gs, d, k, os⟩ := PyProof.Rows.MethodCall_ H he
theorem r_withK {f : Addr} {pos : Pos} {first : List Value} {e : PySem.Expr} {rest : List PySem.Expr} (c : Cx w h) (hkp : keepIn (KF w) (.ref f) = true)
    (hs : starEach (e :: rest) env = (false, eval e env) :: starEach rest env) (hplain : (backTo pos (starEach rest env)).any (·.1) = false)
    (H : wpAny (model prog w) A (spliced (backTo pos (starEach (e :: rest) env))) (fun vs s₁ => (KF w).In s₁.heap ∧ wpAny (model prog w) A (call (.ref f) (first ++ vs)) Q E s₁) E ⟨h, gs, d, k, os⟩) :
    wpAny (model prog w) A (callWith pos (.ref f) first (backTo pos (starEach (e :: rest) env)) []) Q E ⟨h, gs, d, k, os⟩ := callWith_K c.K hkp H hs hplain
theorem r_withK0 {f : Addr} {pos : Pos} {first : List Value} (c : Cx w h) (hkp : keepIn (KF w) (.ref f) = true)
    (H : wpAny (model prog w) A (call (.ref f) (first ++ [])) Q E ⟨h, gs, d, k, os⟩) :
    wpAny (model prog w) A (callWith pos (.ref f) first (backTo pos (starEach [] env)) []) Q E ⟨h, gs, d, k, os⟩ := callWith_K0 c.K hkp H

theorem r_iterR {r : Addr} {a b : Nat} {t u v : Tok} (ha : a < 1000000) (hb : b < 1000000) (hr : IsRange h r (a : Int) (b : Int) 1 t u v)
    (H : ∀ (o : Obj) (St : Nat → Heap → Prop), (∀ A' : Around, A'.handled = none → Walks prog w A' h.objs.size [h.objs.size] [h.objs.size] (b - a) (fun i v => ∃ t, v = .int ((a + i : Nat) : Int) t) St) → (∀ i h', St i h' → h.objs.size < h'.objs.size) → St 0 (h.push o) →
      Q (.ref h.objs.size) ⟨h.push o, gs, d, k, os⟩) : wpAny (model prog w) A (pyIter (.ref r)) Q E ⟨h, gs, d, k, os⟩ := by
  refine wpAny_pyIter_range hr (small_one (by omega) (by omega) (by omega) (by omega)) ?_
  have hsz : Builtin.Range.rangeSize (a : Int) (b : Int) 1 = ((b - a : Nat) : Int) := by rw [rangeSize_one]; split <;> omega
  refine H _ (fun i h' => IsRangeIter h' h.objs.size ((a : Int) + (i : Nat) * 1) (((b - a : Nat) : Int) - (i : Nat)) 1) (fun A' hA => ?_) (fun i h' st => Heap.lt_size st) ?_
  · have W := Walks.range (prog := prog) (w := w) (A := A') hA h.objs.size (a : Int) 1 (b - a)
    exact ⟨W.sub, W.frame, fun i s Q E hi hs hQ => W.item i s Q E hi hs fun v h' tk hv => hQ v h' tk (by obtain ⟨t, rfl⟩ := hv; exact ⟨t, by congr 1; omega⟩), W.done, W.self⟩
  · rw [hsz]
    have e1 : ((a : Int) + ((0 : Nat) : Int) * 1) = (a : Int) := by omega
    have e2 : (((b - a : Nat) : Int) - ((0 : Nat) : Int)) = ((b - a : Nat) : Int) := by omega
    show IsRangeIter _ _ _ _ _
    rw [e1, e2]
    exact Heap.get?_push_size _ rfl
theorem r_range2 {a b : Int} {t u : Tok} (H : ∀ k' v, Q (.ref h.objs.size) ⟨h.push { cls := .type "range", data := .fields #[.int a t, .int b u, .int 1 v] }, gs, d, k', os⟩) :
    wpAny (model prog w) A (call (.type "range") [.int a t, .int b u]) Q E ⟨h, gs, d, k, os⟩ := call_range_2 (H _ _)
theorem r_range1 {b : Int} {u : Tok} (H : ∀ k' t v, Q (.ref h.objs.size) ⟨h.push { cls := .type "range", data := .fields #[.int 0 t, .int b u, .int 1 v] }, gs, d, k', os⟩) :
    wpAny (model prog w) A (call (.type "range") [.int b u]) Q E ⟨h, gs, d, k, os⟩ := call_range_1 (H _ _ _)
theorem r_max {a b : Int} {t u : Tok} (hh : A.handled = none) (H : ∀ h' k' t', Ext h h' → Q (.int (max a b) t') ⟨h', gs, d, k', os⟩) :
    wpAny (model prog w) A (call (.builtin "max") [.int a t, .int b u]) Q E ⟨h, gs, d, k, os⟩ :=
  max_two_ints hh fun h' tk hk => by
    split
    · rename_i q; have := H h' tk u hk; rwa [show max a b = b by omega] at this
    · rename_i q; have := H h' tk t hk; rwa [show max a b = a by omega] at this
theorem r_min {a b : Int} {t u : Tok} (hh : A.handled = none) (H : ∀ h' k' t', Ext h h' → Q (.int (min a b) t') ⟨h', gs, d, k', os⟩) :
    wpAny (model prog w) A (call (.builtin "min") [.int a t, .int b u]) Q E ⟨h, gs, d, k, os⟩ :=
  min_two_ints hh fun h' tk hk => by
    split
    · rename_i q; have := H h' tk u hk; rwa [show min a b = b by omega] at this
    · rename_i q; have := H h' tk t hk; rwa [show min a b = a by omega] at this
theorem preSum_take (ns : List Int) : ∀ j, preSum (fun i => ns.getD i 0) j = (ns.take j).sum := PyProof.Rows.preSum_getD ns
theorem r_sum {l : Addr} {ns : List Int} (hh : A.handled = none) (hl : IL h l ns) (H : ∀ h' k' t', Ext h h' → Q (.int ns.sum t') ⟨h', gs, d, k', os⟩) :
    wpAny (model prog w) A (call (.builtin "sum") [.ref l]) Q E ⟨h, gs, d, k, os⟩ := by
  obtain ⟨vs, a, b⟩ := hl
  refine call_sum_walkG (wpAny_pyIter_list a ?_)
  have hlt : l < h.objs.size := let ⟨_, ho, _⟩ := a; Heap.lt_size ho
  refine ⟨h.objs.size, _, _, _, _, _, fun i => ns.getD i 0, rfl, Walks.list (A := A.in1) hh h.objs.size l (Nat.ne_of_lt hlt) vs.toArray, ⟨⟨_, Heap.get?_push_size _ rfl, rfl, rfl⟩, a.push _⟩, ?_, ?_, ?_⟩
  · intro b hb
    show b < (h.push _).objs.size
    rw [Heap.size_push]
    simp at hb
    rcases hb with rfl | rfl
    · exact Nat.lt_succ_self _
    · exact Nat.lt_succ_of_lt hlt
  · intro i v hv
    have hv : vs[i]? = some v := by simpa using hv
    have hi : i < ns.length := by rw [← b.length]; exact (List.getElem?_eq_some_iff.mp hv).1
    obtain ⟨t, e⟩ := intsAre_get b hi
    rw [e] at hv; cases hv
    exact ⟨t, by simp [List.getD_eq_getElem?_getD, List.getElem?_eq_getElem hi]⟩
  · intro h' tk t' hk
    rw [List.size_toArray, b.length, preSum_take, List.take_of_length_le (Nat.le_refl _)]
    exact H h' tk t' fun b o e => hk b o (by simp; exact Nat.ne_of_lt (Heap.lt_size e)) (Heap.get?_push_of_some _ e)
theorem r_mulS {a b : Int} {t u : Tok} (h1 : -(2 ^ 64) < a) (h2 : a < 2 ^ 64) (H : ∀ t' k', Q (.int (a * b) t') ⟨h, gs, d, k', os⟩) : wpAny (model prog w) A (binaryOp .Mult (.int a t) (.int b u)) Q E ⟨h, gs, d, k, os⟩ :=
  r_mul H (IntMulOk.of_left (intBits_le_64 h1 h2))
theorem r_lenT {l : Addr} {vs : List Value} (hl : h.get? l = some (tupO vs)) (hz : vs.length ≤ 100000) (H : ∀ t k', Q (.int (vs.length : Int) t) ⟨h, gs, d, k', os⟩) : wpAny (model prog w) A (call (.builtin "len") [.ref l]) Q E ⟨h, gs, d, k, os⟩ := by
  refine PyProof.Rows.len_tuple (items := vs.toArray) ⟨_, hl, rfl, _, rfl⟩ (by rw [List.size_toArray]; omega) ?_
  rw [List.size_toArray]; exact H _ _
theorem r_itemT {value slice : PySem.Expr} {pos : Pos}
    (H : wpAny (model prog w) A (eval value env) (fun o s₁ => wpAny (model prog w) A (eval slice env) (fun i s₂ => ∃ (l : Addr) (vs : List Value) (j : Nat) (u : Tok) (x : Value), o = .ref l ∧ i = .int (j : Int) u ∧ s₂.heap.get? l = some (tupO vs) ∧ j < 100000 ∧ vs[j]? = some x ∧ Q x s₂) E s₁) E ⟨h, gs, d, k, os⟩)
    (hs : ∀ (l : Addr) (j : Int) (u : Tok), subscripted slice false (.ref l) (.int j u) = operate [.ref l, .int j u] (getItem (.ref l) (.int j u)) := by intros; with_unfolding_all rfl) :
    wpAny (model prog w) A (eval (.Subscript value slice pos) env) Q E ⟨h, gs, d, k, os⟩ :=
  Subscript_ (wpAny_mono H (fun o s₁ h₁ => wpAny_mono h₁ (fun i s₂ h₂ => by
    obtain ⟨l, vs, j, u, x, rfl, rfl, hl, hj, hx, q⟩ := h₂
    exact PyProof.Rows.item_tupleT (l := vs) ⟨_, hl, rfl, _, rfl⟩ (by omega) (by omega) (by
      have := (List.getElem?_eq_some_iff.mp hx).1
      unfold seqIndex?
      simp; omega) hx q (hs _ _ _)) fun _ _ e => e) fun _ _ e => e)
/-- an item of a list, whatever its expression -/
theorem r_itemL {value slice : PySem.Expr} {pos : Pos}
    (H : wpAny (model prog w) A (eval value env) (fun o s₁ => wpAny (model prog w) A (eval slice env) (fun i s₂ => ∃ (l : Addr) (vs : List Value) (j : Nat) (u : Tok) (x : Value), o = .ref l ∧ i = .int (j : Int) u ∧ s₂.heap.IsList l vs.toArray ∧ j < 100000 ∧ vs[j]? = some x ∧ Q x s₂) E s₁) E ⟨h, gs, d, k, os⟩)
    (hs : ∀ (l : Addr) (j : Int) (u : Tok), subscripted slice false (.ref l) (.int j u) = operate [.ref l, .int j u] (getItem (.ref l) (.int j u)) := by intros; with_unfolding_all rfl) :
    wpAny (model prog w) A (eval (.Subscript value slice pos) env) Q E ⟨h, gs, d, k, os⟩ :=
  Subscript_ (wpAny_mono H (fun o s₁ h₁ => wpAny_mono h₁ (fun i s₂ h₂ => by
    obtain ⟨l, vs, j, u, x, rfl, rfl, hl, hj, hx, q⟩ := h₂
    exact tail_any hl.typeIs slot_list_getitem.lookup (wpAny_getItem_list hl (by omega) (by omega) (by simpa using hx) q) (hs _ _ _)) fun _ _ e => e) fun _ _ e => e)
end

/- C4 -/
noncomputable def ilGo (ts : Nat) : Nat → List Nat → Nat
  | _, [] => 0
  | i, x :: r => i / ts * x + ilGo ts (i + 1) r
noncomputable def level (c : List Nat) (b nt ts : Nat) : Nat := b + ts * (ilGo ts 0 c + nt)

theorem small_nat {q n : Nat} (h : q ≤ n) (hn : n < 2000000) : -(2 ^ 64) < (q : Int) ∧ (q : Int) < 2 ^ 64 := by omega
theorem ilGo_skip (ts : Nat) : ∀ (c : List Nat) (i j : Nat), i + j ≤ ts → ilGo ts i c = ilGo ts (i + j) (c.drop j)
  | c, i, 0, _ => rfl
  | [], i, j + 1, _ => by simp [ilGo]
  | x :: r, i, j + 1, h => by
    have e : i / ts = 0 := Nat.div_eq_of_lt (by omega)
    show i / ts * x + ilGo ts (i + 1) r = _
    rw [e, Nat.zero_mul, Nat.zero_add, ilGo_skip ts r (i + 1) j (by omega)]
    rw [show i + 1 + j = i + (j + 1) by omega]
    rfl
theorem ilGo_drop {ts i : Nat} {c : List Nat} (hi : i < c.length) : ilGo ts i (c.drop i) = i / ts * c[i] + ilGo ts (i + 1) (c.drop (i + 1)) := by
  rw [List.drop_eq_getElem_cons hi]; rfl

theorem il_spec {prog : Program} {w : World} {A : Around} {h : Heap} {gs : Array GenState} {d : Drawn} {k : Nat} {os : OsState} (r : Rm A 1) (cx : Cx w h) {x : Addr} {c : List Nat} {b n nt : Nat} (hw : IsWs w h x c b n nt)
    (ts : Nat) (t : Tok) (h0 : 0 < ts) (h1 : ts < 1000000) (hc : c.length ≤ 1000)
    {R : Result → Shared → Prop} (H : ∀ h' k' t', Ext h h' → R (.ok (.ret (.int (level c b nt ts : Int) t'))) ⟨h', gs, d, k', os⟩) :
    codeAny (model prog w) A (.call (.ref 52) ⟨[.ref x, .int (ts : Int) t], []⟩) R ⟨h, gs, d, k, os⟩ := by
  refine enterF (fd := fdAt 52) (n := 0) [("self", .ref x), ("tabsize", .int (ts : Int) t)] ["self", "tabsize"] r cx rfl rfl rfl rfl rfl rfl rfl rfl (by decide) (fun h₁ k₁ F c₁ r₁ E => ?_) rfl rfl rfl
  change Frm h (callEnvC (fdAt 52) h.objs.size 52) (h.objs.size + 1) h₁ _ at F
  generalize hA : A.deeper (callEnvC (fdAt 52) h.objs.size 52) = A' at r₁ ⊢
  clear hA
  generalize h.objs.size = L at *
  as_aux_lemma =>
  refine hidQ fun Q₀ hQ₀ => ?_
  obtain ⟨dx, tn, tc, raw, t1, t2, t3, t4, t5, u1, u2, u3, vs, hx, hd, htn, htc, hvi⟩ := hw
  have hvl := hvi.length
  rw [zs_length] at hvl
  refine s_unp2 r₁.hh F rfl rfl rfl rfl (r_attr ?_)
  walk_at "nm"
  refine o_get c₁ (F.ok.keep _ _ hx) (F.ok.keep _ _ hd) rfl rfl rfl fun k₂ => ⟨_, _, _, _, _, rfl, Ext.refl _, rfl, F.ok.keep _ _ htn, fun h₂ h₃ k₃ x₂ F₃ o₃ => ?_⟩
  replace F₃ : Frm h (callEnvC (fdAt 52) L 52) (L + 1) h₃ [("trailing", .int (b : Int) u3), ("count", .ref tc), ("self", .ref x), ("tabsize", .int (ts : Int) t)] := F₃
  refine s_set F₃ (.inl rfl) rfl (r_int fun t₀ k₄ => ⟨_, _, rfl, Ext.refl _, fun h₄ k₅ F₄ o₄ => ?_⟩)
  replace F₄ : Frm h (callEnvC (fdAt 52) L 52) (L + 1) h₄ [("il", .int 0 t₀), ("trailing", .int (b : Int) u3), ("count", .ref tc), ("self", .ref x), ("tabsize", .int (ts : Int) t)] := F₄
  have c₄ := cx.ext F₄.ok.keep
  refine s_for (fun _ => rfl) (hidQ fun Q₁ hQ₁ => ?_)
  refine r_callT c₄ rfl boot_range (by decide) rfl rfl rfl rfl (by decide) rfl rfl (a_cons rfl ?_)
  walk_at "nm"
  refine a_cons rfl (r_call1b c₄ (g_len w) boot_len (by decide) rfl rfl rfl rfl (by decide) rfl ?_)
  walk_at "nm"
  refine r_lenT (F₄.ok.keep _ _ htc) (by omega) fun t₂ k₆ => a_nil (r_range2 fun k₇ t₃ => hQ₁ _ _ ?_)
  clear hQ₁ Q₁
  have hr : IsRange (h₄.push { cls := .type "range", data := .fields #[.int (ts : Int) t, .int (vs.length : Int) t₂, .int 1 t₃] }) h₄.objs.size (ts : Int) (c.length : Int) 1 t t₂ t₃ := by
    rw [← hvl]; exact Heap.get?_push_size _ rfl
  refine r_iterR h1 (by omega) hr fun o St hW hStz st => ?_
  have F₅ := (F₄.ext (Ext.push h₄ { cls := .type "range", data := .fields #[.int (ts : Int) t, .int (vs.length : Int) t₂, .int 1 t₃] }))
  have hI := F₅.ok.size
  generalize h₄.push { cls := .type "range", data := .fields #[.int (ts : Int) t, .int (vs.length : Int) t₂, .int 1 t₃] } = h₅ at *
  as_aux_lemma =>
  have W := hW A' r₁.hh
  refine s_forP W (fun i h' => ∃ (m : Nat) (tm : Tok), Frm h (callEnvC (fdAt 52) L 52) (L + 1) h' [("il", .int (m : Int) tm), ("trailing", .int (b : Int) u3), ("count", .ref tc), ("self", .ref x), ("tabsize", .int (ts : Int) t)] ∧ m + ilGo ts (ts + i) (c.drop (ts + i)) = ilGo ts 0 c)
    (fun h' => ∃ (tm : Tok), Frm h (callEnvC (fdAt 52) L 52) (L + 1) h' [("il", .int ((ilGo ts 0 c : Nat) : Int) tm), ("trailing", .int (b : Int) u3), ("count", .ref tc), ("self", .ref x), ("tabsize", .int (ts : Int) t)])
    ⟨0, t₀, F₅.ext (Ext.push _ _), by rw [Nat.zero_add]; have := ilGo_skip ts c 0 ts (by omega); simpa using this.symm⟩ st (fun _ => rfl) ?_ ?_ ?_
  · rintro i h₆ k₈ v h₇ E' hi ⟨m, tm, F₆, hm⟩ st₇ ⟨tv, rfl⟩ hk₇
    have F₇ := F₆.low (fun b o hb e => hk₇ b o (by simp; exact Nat.ne_of_lt (Nat.lt_of_lt_of_le hb hI)) e)
    refine s_assign (.inl rfl) F₇ fun h₈ k₉ F₈ o₈ => hidQ fun Q₁ hQ₁ => ?_
    as_aux_lemma =>
    replace F₈ : Frm h (callEnvC (fdAt 52) L 52) (L + 1) h₈ [("i", .int ((ts + i : Nat) : Int) tv), ("il", .int (m : Int) tm), ("trailing", .int (b : Int) u3), ("count", .ref tc), ("self", .ref x), ("tabsize", .int (ts : Int) t)] := F₈
    replace st₇ : St (i + 1) h₈ := W.frame _ _ _ st₇ fun b hb o e => o₈ b o (.inr (by simp at hb; subst hb; exact hI)) e
    have hic : ts + i < c.length := by omega
    obtain ⟨tc', hvc⟩ := intsAre_get hvi (i := ts + i) (by rw [zs_length]; exact hic)
    have hzc : (zs c)[ts + i]'(by rw [zs_length]; exact hic) = (c[ts + i] : Int) := by simp [zs]
    rw [hzc] at hvc
    refine s_set F₈ (.inl rfl) rfl (hidQ fun Q₂ hQ₂ => r_binop ?_)
    as_aux_lemma =>
    walk_at "nm"
    refine r_binop (r_binop ?_)
    walk_at "nm"
    walk_at "nm"
    refine r_div (by omega) (by omega) fun t₄ k₁₀ => r_itemT ?_
    walk_at "nm"
    walk_at "nm"
    refine ⟨tc, vs, ts + i, _, _, rfl, rfl, F₈.ok.keep _ _ htc, by omega, hvc, ?_⟩
    have hdv : Int.fdiv ((ts + i : Nat) : Int) (ts : Int) = (((ts + i) / ts : Nat) : Int) := by
      rw [Int.fdiv_eq_ediv_of_nonneg _ (by omega)]
      exact (Int.natCast_ediv _ _).symm
    rw [hdv]
    have hdl : (ts + i) / ts ≤ ts + i := Nat.div_le_self _ _
    have sm := small_nat hdl (by omega)
    refine r_mulS sm.1 sm.2 fun t₅ k₁₁ => r_add fun t₆ k₁₂ => hQ₂ _ _ ⟨_, _, rfl, Ext.refl _, fun h₉ k₁₃ F₉ o₉ => s_nil (hQ₁ _ _ ⟨_, _, rfl, ⟨m + (ts + i) / ts * c[ts + i], t₆, ?_, ?_⟩, ?_⟩)⟩
    · replace F₉ : Frm h (callEnvC (fdAt 52) L 52) (L + 1) h₉ [("il", .int ((m : Int) + (((ts + i) / ts : Nat) : Int) * (c[ts + i] : Int)) t₆), ("i", .int ((ts + i : Nat) : Int) tv), ("trailing", .int (b : Int) u3), ("count", .ref tc), ("self", .ref x), ("tabsize", .int (ts : Int) t)] := F₉
      have e1 : ((m + (ts + i) / ts * c[ts + i] : Nat) : Int) = (m : Int) + (((ts + i) / ts : Nat) : Int) * (c[ts + i] : Int) := by rw [Int.natCast_add, Int.natCast_mul]
      rw [e1]
      exact F₉.sub (by walk_at "sub")
    · rw [ilGo_drop hic] at hm
      show m + (ts + i) / ts * c[ts + i] + ilGo ts (ts + i + 1) (c.drop (ts + i + 1)) = _
      omega
    · exact W.frame _ _ _ st₇ fun b hb o e => o₉ b o (.inr (by simp at hb; subst hb; exact hI)) e
  · rintro h₆ h₇ ⟨m, tm, F₆, hm⟩ hk₇
    have F₇ := F₆.low (fun b o hb e => hk₇ b o (by simp; exact Nat.ne_of_lt (Nat.lt_of_lt_of_le hb hI)) e)
    rw [List.drop_of_length_le (by omega)] at hm
    have : m = ilGo ts 0 c := hm
    subst this
    exact ⟨tm, F₇⟩
  · rintro h₆ k₈ ⟨tm, F₆⟩
    refine s_ret (r_binop ?_)
    walk_at "nm"
    refine r_binop ?_
    walk_at "nm"
    refine r_binop ?_
    walk_at "nm"
    refine r_attr ?_
    walk_at "nm"
    refine o_get (cx.ext F₆.ok.keep) (F₆.ok.keep _ _ hx) (F₆.ok.keep _ _ hd) rfl rfl rfl fun k₉ => r_add fun t₄ k₁₀ => r_mulS (by omega) (by omega) fun t₅ k₁₁ => r_add fun t₆ k₁₂ => ?_
    have e1 : (b : Int) + (ts : Int) * (((ilGo ts 0 c : Nat) : Int) + (nt : Int)) = (level c b nt ts : Int) := by
      unfold level
      rw [Int.natCast_add, Int.natCast_mul, Int.natCast_add]
    rw [e1]
    exact hQ₀ _ _ (H _ _ _ F₆.ok.keep)

/- C5 -/
theorem lr_spec {prog : Program} {w : World} {A : Around} {h : Heap} {gs : Array GenState} {d : Drawn} {k : Nat} {os : OsState} (r : Rm A 1) (cx : Cx w h) {x : Addr} {c : List Nat} {b n nt : Nat} (hw : IsWs w h x c b n nt) (hc : c.length ≤ 1000)
    {R : Result → Shared → Prop} (H : ∀ h' k' t', Ext h h' → R (.ok (.ret (.int (max ((c.length : Int) - 1) (b : Int)) t'))) ⟨h', gs, d, k', os⟩) :
    codeAny (model prog w) A (.call (.ref 45) ⟨[.ref x], []⟩) R ⟨h, gs, d, k, os⟩ := by
  refine enterF (fd := fdAt 45) (n := 0) [("self", .ref x)] ["self"] r cx rfl rfl rfl rfl rfl rfl rfl rfl (by decide) (fun h₁ k₁ F c₁ r₁ E => ?_) rfl rfl rfl
  change Frm h (callEnvC (fdAt 45) h.objs.size 45) (h.objs.size + 1) h₁ _ at F
  generalize hA : A.deeper (callEnvC (fdAt 45) h.objs.size 45) = A' at r₁ ⊢
  obtain ⟨dx, tn, tc, raw, t1, t2, t3, t4, t5, u1, u2, u3, vs, hx, hd, htn, htc, hvi⟩ := hw
  have hvl := hvi.length
  rw [zs_length] at hvl
  refine s_unp2 r₁.hh F rfl rfl rfl rfl (r_attr ?_)
  walk_at "nm"
  refine o_get c₁ (F.ok.keep _ _ hx) (F.ok.keep _ _ hd) rfl rfl rfl fun k₂ => ⟨_, _, _, _, _, rfl, Ext.refl _, rfl, F.ok.keep _ _ htn, fun h₂ h₃ k₃ x₂ F₃ o₃ => ?_⟩
  replace F₃ : Frm h (callEnvC (fdAt 45) h.objs.size 45) (h.objs.size + 1) h₃ [("trailing", .int (b : Int) u3), ("count", .ref tc), ("self", .ref x)] := F₃
  have c₃ := cx.ext F₃.ok.keep
  refine s_ret (r_callB c₃ rfl boot_max (by decide) rfl rfl rfl rfl (by decide) rfl rfl (a_cons rfl (r_binop ?_)))
  refine r_call1b c₃ (g_len w) boot_len (by decide) rfl rfl rfl rfl (by decide) rfl ?_
  walk_at "nm"
  refine r_lenT (F₃.ok.keep _ _ htc) (by omega) fun t₂ k₆ => r_int fun t₃ k₇ => r_sub fun t₄ k₈ => a_cons rfl ?_
  walk_at "nm"
  refine a_nil (r_max r₁.hh fun h₄ k₉ t₅ x₄ => ?_)
  rw [hvl]
  exact H _ _ _ (F₃.ok.keep.trans x₄)

noncomputable def lessF (c1 : List Nat) (b1 n1 nt1 : Nat) (c2 : List Nat) (b2 n2 nt2 : Nat) : Bool :=
  if n2 ≤ n1 then false else if c1.length ≤ 1 ∧ c2.length ≤ 1 then decide (nt1 ≤ nt2)
  else (List.range (max (max (c1.length - 1) b1) (max (c2.length - 1) b2))).all fun i => decide (level c1 b1 nt1 (2 + i) < level c2 b2 nt2 (2 + i))

theorem range_all_take {n : Nat} {p : Nat → Bool} : ((List.range n).all p = true) ↔ ∀ i, i < n → p i = true := by
  simp [List.all_eq_true]

theorem r_attrTruth {prog : Program} {w : World} {A : Around} {E : Value → Shared → Prop} {env : Env} {s : Shared} {v : PySem.Expr} {a : Str} {pos : Pos} {Q : Bool → Shared → Prop}
    (H : wpAny (model prog w) A (eval (.Attribute v a pos) env) (fun z s₁ => ∃ b, z = .bool b ∧ Q b s₁) E s) : wpAny (model prog w) A (isTrue (.Attribute v a pos) env (eval (.Attribute v a pos) env)) Q E s := by
  show wpAny _ _ (do let v ← eval (.Attribute v a pos) env; standAt _; holding [v] (truthy v)) _ _ _
  refine wpAny_bind (wpAny_mono H (fun z s₁ q => ?_) fun _ _ e => e)
  obtain ⟨b, rfl, q⟩ := q
  exact wpAny_bind (wpAny_standAt (wpAny_holding (wpAny_truthy_bool q)))

theorem mx2 (a b : Nat) : max (a : Int) (b : Int) = ((max a b : Nat) : Int) := by omega
theorem mx1 (l b : Nat) : max ((l : Int) - 1) (b : Int) = ((max (l - 1) b : Nat) : Int) := by
  cases l with
  | zero => rw [Nat.zero_sub, Nat.zero_max]; exact Int.max_eq_right (by omega)
  | succ n => rw [show ((n + 1 : Nat) : Int) - 1 = (n : Int) by omega, Nat.add_sub_cancel]; exact mx2 n b
theorem mx4 (l a m b : Nat) : max (max ((l : Int) - 1) (a : Int)) (max ((m : Int) - 1) (b : Int)) = ((max (max (l - 1) a) (max (m - 1) b) : Nat) : Int) := by rw [mx1, mx1, mx2]
theorem less_spec {prog : Program} {w : World} {A : Around} {h : Heap} {gs : Array GenState} {d : Drawn} {k : Nat} {os : OsState} (r : Rm A 2) (cx : Cx w h) {x y : Addr} {c1 : List Nat} {b1 n1 nt1 : Nat} {c2 : List Nat} {b2 n2 nt2 : Nat}
    (hw : IsWs w h x c1 b1 n1 nt1) (hw2 : IsWs w h y c2 b2 n2 nt2) (hc : c1.length ≤ 1000) (hc2 : c2.length ≤ 1000) (hb : b1 ≤ 1000) (hb2 : b2 ≤ 1000)
    {R : Result → Shared → Prop} (H : ∀ h' k', Ext h h' → R (.ok (.ret (.bool (lessF c1 b1 n1 nt1 c2 b2 n2 nt2)))) ⟨h', gs, d, k', os⟩) :
    codeAny (model prog w) A (.call (.ref 73) ⟨[.ref x, .ref y], []⟩) R ⟨h, gs, d, k, os⟩ := by
  refine enterF (fd := fdAt 73) (n := 1) [("self", .ref x), ("other", .ref y)] ["self", "other"] r cx rfl rfl rfl rfl rfl rfl rfl rfl (by decide) (fun h₁ k₁ F c₁ r₁ E => ?_) rfl rfl rfl
  change Frm h (callEnvC (fdAt 73) h.objs.size 73) (h.objs.size + 1) h₁ _ at F
  generalize hA : A.deeper (callEnvC (fdAt 73) h.objs.size 73) = A' at r₁ ⊢
  clear hA
  generalize h.objs.size = L at *
  as_aux_lemma =>
  refine hidQ fun Q₀ hQ₀ => ?_
  have hwx := hw.ext F.ok.keep
  have hwy := hw2.ext F.ok.keep
  obtain ⟨dx, _, _, _, _, _, _, _, _, _, _, _, _, hx, hd, _⟩ := id hwx
  obtain ⟨dy, _, _, _, _, _, _, _, _, _, _, _, _, hy, hdy, _⟩ := id hwy
  refine s_if (hidQ fun Q₁ hQ₁ => r_test (r_attr ?_))
  walk_at "nm"
  refine o_get c₁ hx hd rfl rfl rfl fun k₂ => r_attr ?_
  walk_at "nm"
  refine o_get c₁ hy hdy rfl rfl rfl fun k₃ => r_ge ⟨_, rfl, hQ₁ _ _ ⟨fun hb1 => ?_, fun hb1 => ?_⟩⟩
  · have hle := of_decide_eq_true hb1
    refine s_ret (r_bool (hQ₀ _ _ ?_))
    have e : lessF c1 b1 n1 nt1 c2 b2 n2 nt2 = false := by unfold lessF; rw [if_pos (by omega)]
    rw [e] at H
    exact H _ _ F.ok.keep
  · have hlt := of_decide_eq_false hb1
    refine s_nil ?_
    refine s_if (cut (fun b h' => b = decide (c1.length ≤ 1 ∧ c2.length ≤ 1)) (r_and (r_attrTruth (r_attr ?_))) ?_)
    · walk_at "nm"
      refine o_get c₁ hx hd rfl rfl rfl fun k₄ => ⟨_, rfl, fun hf => ⟨_, _, rfl, Ext.refl _, ?_⟩, fun ht => r_attrTruth (r_attr ?_)⟩
      · have := of_decide_eq_false hf
        exact (decide_eq_false fun q => this q.1).symm
      · walk_at "nm"
        refine o_get c₁ hy hdy rfl rfl rfl fun k₅ => ⟨_, rfl, _, _, rfl, Ext.refl _, ?_⟩
        have := of_decide_eq_true ht
        rw [decide_eq_decide]
        exact ⟨fun q => ⟨this, q⟩, fun q => q.2⟩
    · rintro b h₂ k₄ x₂ rfl
      have F₂ := F.ext x₂
      have c₂ := c₁.ext x₂
      refine ⟨fun hs => ?_, fun hs => ?_⟩
      · have hsim := of_decide_eq_true hs
        refine s_ret (r_cmp (r_attr ?_))
        walk_at "nm"
        refine o_get c₂ (x₂ _ _ hx) (x₂ _ _ hd) rfl rfl rfl fun k₅ => r_attr ?_
        walk_at "nm"
        refine o_get c₂ (x₂ _ _ hy) (x₂ _ _ hdy) rfl rfl rfl fun k₆ => r_le (hQ₀ _ _ ?_)
        have e : lessF c1 b1 n1 nt1 c2 b2 n2 nt2 = decide ((nt1 : Int) ≤ (nt2 : Int)) := by
          unfold lessF; rw [if_neg (by omega), if_pos hsim, decide_eq_decide]; omega
        rw [e] at H
        exact H _ _ F₂.ok.keep
      · have hsim := of_decide_eq_false hs
        have hm : lessF c1 b1 n1 nt1 c2 b2 n2 nt2 = (List.range (max (max (c1.length - 1) b1) (max (c2.length - 1) b2))).all fun i => decide (level c1 b1 nt1 (2 + i) < level c2 b2 nt2 (2 + i)) := by
          unfold lessF; rw [if_neg (by omega), if_neg hsim]
        refine s_nil ?_
        generalize hN : max (max (c1.length - 1) b1) (max (c2.length - 1) b2) = N at hm
        as_aux_lemma =>
        refine s_set F₂ (.inl rfl) rfl (hidQ fun Q₁ hQ₁ => r_binop ?_)
        refine r_callB c₂ rfl boot_max (by decide) rfl rfl rfl rfl (by decide) rfl rfl (a_cons rfl (r_meth ?_))
        walk_at "nm"
        refine o_meth c₂ (x₂ _ _ hx) (x₂ _ _ hd) rfl rfl rfl (r_withK0 c₂ rfl (wpAny_call (lr_spec r₁ c₂ (hwx.ext x₂) hc fun h₃ k₅ t₃ x₃ => a_cons rfl (r_meth ?_))))
        have F₃ := F₂.ext x₃
        have c₃ := c₂.ext x₃
        walk_at "nm"
        refine o_meth c₃ (x₃ _ _ (x₂ _ _ hy)) (x₃ _ _ (x₂ _ _ hdy)) rfl rfl rfl (r_withK0 c₃ rfl (wpAny_call (lr_spec r₁ c₃ ((hwy.ext x₂).ext x₃) hc2 fun h₄ k₆ t₄ x₄ => a_nil (r_max r₁.hh fun h₅ k₇ t₅ x₅ => r_int fun t₆ k₈ => r_add fun t₇ k₉ => hQ₁ _ _ ⟨_, _, rfl, (x₃.trans x₄).trans x₅, fun h₆ k₁₀ F₆ o₆ => ?_⟩))))
        have eN : max (max ((c1.length : Int) - 1) (b1 : Int)) (max ((c2.length : Int) - 1) (b2 : Int)) + 1 = ((N + 1 : Nat) : Int) := by rw [mx4, hN]; rfl
        rw [eN] at F₆
        replace F₆ : Frm h (callEnvC (fdAt 73) L 73) (L + 1) h₆ [("n", .int ((N + 1 : Nat) : Int) t₇), ("self", .ref x), ("other", .ref y)] := F₆
        have c₆ := cx.ext F₆.ok.keep
        clear hQ₁ Q₁
        as_aux_lemma =>
        refine s_for (fun _ => rfl) (hidQ fun Q₁ hQ₁ => ?_)
        refine r_callT c₆ rfl boot_range (by decide) rfl rfl rfl rfl (by decide) rfl rfl (a_cons rfl (r_int fun t₈ k₁₁ => a_cons rfl (r_binop ?_)))
        walk_at "nm"
        refine r_int fun t₉ k₁₂ => r_add fun t₁₀ k₁₃ => a_nil (r_range2 fun k₁₄ t₁₁ => hQ₁ _ _ ?_)
        clear hQ₁ Q₁
        have hr : IsRange (h₆.push { cls := .type "range", data := .fields #[.int 2 t₈, .int (((N + 1 : Nat) : Int) + 1) t₁₀, .int 1 t₁₁] }) h₆.objs.size ((2 : Nat) : Int) ((N + 2 : Nat) : Int) 1 t₈ t₁₀ t₁₁ := Heap.get?_push_size _ rfl
        refine r_iterR (by omega) (by omega) hr fun o St hW hStz st => ?_
        have F₇ := F₆.ext (Ext.push h₆ { cls := .type "range", data := .fields #[.int 2 t₈, .int (((N + 1 : Nat) : Int) + 1) t₁₀, .int 1 t₁₁] })
        generalize h₆.push { cls := .type "range", data := .fields #[.int 2 t₈, .int (((N + 1 : Nat) : Int) + 1) t₁₀, .int 1 t₁₁] } = h₇ at *
        have hI := F₇.ok.size
        have W := hW A' r₁.hh
        refine s_forP W (fun i h' => Frm h (callEnvC (fdAt 73) L 73) (L + 1) h' [("self", .ref x), ("other", .ref y)] ∧ ∀ j, j < i → level c1 b1 nt1 (2 + j) < level c2 b2 nt2 (2 + j))
          (fun h' => Ext h h' ∧ ∀ j, j < N → level c1 b1 nt1 (2 + j) < level c2 b2 nt2 (2 + j)) ⟨(F₇.ext (Ext.push _ _)).sub (by walk_at "sub"), fun j hj => absurd hj (Nat.not_lt_zero _)⟩ st (fun _ => rfl) ?_ ?_ ?_
        · rintro i h₈ k₁₅ v h₉ E' hi ⟨F₈, hall⟩ st₉ ⟨tv, rfl⟩ hk₉
          have F₉ := F₈.low (fun b o hb e => hk₉ b o (by simp; exact Nat.ne_of_lt (Nat.lt_of_lt_of_le hb hI)) e)
          refine s_assign (.inl rfl) F₉ fun h₁₀ k₁₆ F₁₀ o₁₀ => hidQ fun Q₂ hQ₂ => ?_
          as_aux_lemma =>
          replace F₁₀ : Frm h (callEnvC (fdAt 73) L 73) (L + 1) h₁₀ [("ts", .int ((2 + i : Nat) : Int) tv), ("self", .ref x), ("other", .ref y)] := F₁₀
          replace st₉ : St (i + 1) h₁₀ := W.frame _ _ _ st₉ fun b hb o e => o₁₀ b o (.inr (by simp at hb; subst hb; exact hI)) e
          have c₁₀ := cx.ext F₁₀.ok.keep
          have hwx₁₀ := hw.ext F₁₀.ok.keep
          have hwy₁₀ := hw2.ext F₁₀.ok.keep
          obtain ⟨dx, _, _, _, _, _, _, _, _, _, _, _, _, hx, hd, _⟩ := id hwx₁₀
          refine s_if (hidQ fun Q₃ hQ₃ => r_test (r_meth ?_))
          as_aux_lemma =>
          walk_at "nm"
          refine o_meth c₁₀ hx hd rfl rfl rfl (r_withK c₁₀ rfl rfl rfl (a_cons rfl ?_))
          walk_at "nm"
          refine a_nil ⟨c₁₀.K, wpAny_call (il_spec r₁ c₁₀ hwx₁₀ (2 + i) tv (by omega) (by omega) hc fun h₁₁ k₁₇ t₁₂ x₁₁ => r_meth ?_)⟩
          have F₁₁ := F₁₀.ext x₁₁
          have c₁₁ := c₁₀.ext x₁₁
          have hwy₁₁ := hwy₁₀.ext x₁₁
          obtain ⟨dy, _, _, _, _, _, _, _, _, _, _, _, _, hy, hdy, _⟩ := id hwy₁₁
          walk_at "nm"
          refine o_meth c₁₁ hy hdy rfl rfl rfl (r_withK c₁₁ rfl rfl rfl (a_cons rfl ?_))
          walk_at "nm"
          refine a_nil ⟨c₁₁.K, wpAny_call (il_spec r₁ c₁₁ hwy₁₁ (2 + i) tv (by omega) (by omega) hc2 fun h₁₂ k₁₈ t₁₃ x₁₂ => r_ge ⟨_, rfl, hQ₃ _ _ ⟨fun hg => ?_, fun hg => ?_⟩⟩)⟩
          · have hg := of_decide_eq_true hg
            refine s_ret (r_bool (hQ₂ _ _ (hQ₀ _ _ ?_)))
            have e : lessF c1 b1 n1 nt1 c2 b2 n2 nt2 = false := by
              rw [hm, Bool.eq_false_iff]
              intro q
              have := of_decide_eq_true (range_all_take.mp q i (by omega))
              omega
            rw [e] at H
            exact H _ _ (F₁₁.ok.keep.trans x₁₂)
          · have hg := of_decide_eq_false hg
            refine s_nil (s_nil (hQ₂ _ _ ⟨_, _, rfl, ⟨(F₁₁.ext x₁₂).sub (by walk_at "sub"), fun j hj => ?_⟩, W.frame _ _ _ st₉ fun b hb o e => x₁₂ b o (x₁₁ b o e)⟩))
            by_cases hji : j = i
            · subst hji; omega
            · exact hall j (by omega)
        · rintro h₈ h₉ ⟨F₈, hall⟩ hk₉
          have F₉ := F₈.low (fun b o hb e => hk₉ b o (by simp; exact Nat.ne_of_lt (Nat.lt_of_lt_of_le hb hI)) e)
          exact ⟨F₉.ok.keep, fun j hj => hall j (by omega)⟩
        · rintro h₈ k₁₅ ⟨x₈, hall⟩
          refine s_ret (r_bool (hQ₀ _ _ ?_))
          have e : lessF c1 b1 n1 nt1 c2 b2 n2 nt2 = true := by
            rw [hm]
            exact range_all_take.mpr fun i hi => decide_eq_true (hall i hi)
          rw [e] at H
          exact H _ _ x₈

/- MC -/

section
variable {prog : Program} {w : World} {A : Around} {E : Value → Shared → Prop} {env : Env} {h : Heap} {gs : Array GenState} {d : Drawn} {k : Nat} {os : OsState} {Q : Value → Shared → Prop}

theorem r_iterL {l : Addr} {vs : List Value} (hl : h.IsList l vs.toArray)
    (H : ∀ (o : Obj) (St : Nat → Heap → Prop), (∀ A' : Around, A'.handled = none → Walks prog w A' h.objs.size [h.objs.size, l] [h.objs.size] vs.length (fun i v => vs[i]? = some v) St) → (∀ i h', St i h' → h.objs.size < h'.objs.size) → St 0 (h.push o) →
      Q (.ref h.objs.size) ⟨h.push o, gs, d, k, os⟩) : wpAny (model prog w) A (pyIter (.ref l)) Q E ⟨h, gs, d, k, os⟩ := by
  have hlt : l < h.objs.size := let ⟨_, ho, _⟩ := hl; Heap.lt_size ho
  refine wpAny_pyIter_list hl (H _ (fun i h' => h'.IsListIter h.objs.size l i ∧ h'.IsList l vs.toArray) (fun A' hA => ?_) (fun i h' st => let ⟨⟨_, ho, _⟩, _⟩ := st; Heap.lt_size ho) ⟨⟨_, Heap.get?_push_size _ rfl, rfl, rfl⟩, hl.push _⟩)
  have W := Walks.list (prog := prog) (w := w) (A := A') hA h.objs.size l (Nat.ne_of_lt hlt) vs.toArray
  rw [List.size_toArray] at W
  exact ⟨W.sub, W.frame, fun i s Q E hi hs hQ => W.item i s Q E hi hs fun v h' tk hv => hQ v h' tk (by simpa using hv), W.done, W.self⟩

/-- the tests of a comprehension -/
noncomputable def testsOf (ifs : List PySem.Expr) (cenv : Env) : Sem Bool := forIn ifs true fun c r => if r = true then do let ok ← isTrue c cenv (eval c cenv); pure (ForInStep.yield ok) else pure (ForInStep.yield r)

inductive CompInv (d : Drawn) (os : OsState) (L : Addr) (h : Heap) (St : Nat → Heap → Prop) (D I : Addr) (P : Nat → Value → Prop) (p : Value → Bool) (F : Value → Value → Prop) (G : Array GenState → Prop) (n : Nat) (c : Nat) (s' : Shared) : Prop
  | mk (h' : Heap) (k' : Nat) (gs' : Array GenState) (ys vs : List Value) (e : s' = ⟨h', gs', d, k', os⟩) (hst : St vs.length h') (hacc : h'.PlainList D ys.toArray) (hn : ∃ m, h'.Ns L m) (hP : ∀ j v, vs[j]? = some v → P j v)
      (hF : Paired F (vs.filter p) ys) (hi : vs.length ≤ n) (hc : c = n + 1 - vs.length) (hkp : ∀ b o, b ≠ L → b ≠ I → b ≠ D → h.get? b = some o → h'.get? b = some o) (hG : G gs')
theorem compLoopG {elt iter : PySem.Expr} {x : Str} {px : Pos} {ifs : List PySem.Expr} {scope : Scope} {pos : Pos} {I D : Addr} {fp : List Addr} {n : Nat} {P : Nat → Value → Prop} {St : Nat → Heap → Prop} {cenv : Env} {R : Result → Shared → Prop}
    (W : Walks prog w A I fp [I] n P St) (p : Value → Bool) (F : Value → Value → Prop) (G : Array GenState → Prop)
    (hx : cenv.kindOf x = some .local) (hk : cenv.scope.kind = .function) (hDC : D ≠ cenv.locals) (hDf : D ∉ fp) (hCf : cenv.locals ∉ fp)
    (hst : St 0 h) (hacc : h.PlainList D #[]) (hn : ∃ m, h.Ns cenv.locals m) (hG : G gs)
    (htests : ∀ i v h₂ gs₂ k₂ E', P i v → VarAt cenv h₂ x v → (∀ b o, b ≠ cenv.locals → b ≠ I → b ≠ D → h.get? b = some o → h₂.get? b = some o) → G gs₂ →
      wpAny (model prog w) A (testsOf ifs cenv) (fun ok s₃ => ∃ h₃ k₃ gs₃, s₃ = ⟨h₃, gs₃, d, k₃, os⟩ ∧ Ext h₂ h₃ ∧ G gs₃ ∧ ok = p v) E' ⟨h₂, gs₂, d, k₂, os⟩)
    (helt : ∀ i v h₂ gs₂ k₂ E', P i v → p v = true → VarAt cenv h₂ x v → (∀ b o, b ≠ cenv.locals → b ≠ I → b ≠ D → h.get? b = some o → h₂.get? b = some o) → G gs₂ →
      wpAny (model prog w) A (eval elt cenv) (fun y s₃ => ∃ h₃ k₃ gs₃, s₃ = ⟨h₃, gs₃, d, k₃, os⟩ ∧ Ext h₂ h₃ ∧ G gs₃ ∧ F v y) E' ⟨h₂, gs₂, d, k₂, os⟩)
    (hR : ∀ h' k' gs' (ys vs : List Value), (∃ m, h'.Ns cenv.locals m) → h'.PlainList D ys.toArray → vs.length = n → (∀ j v, vs[j]? = some v → P j v) → Paired F (vs.filter p) ys →
      (∀ b o, b ≠ cenv.locals → b ≠ I → b ≠ D → h.get? b = some o → h'.get? b = some o) → G gs' → R (.ok .next) ⟨h', gs', d, k', os⟩)
    (hsz : n ≤ 10000) :
    codeAny (model prog w) A (.compLoop (.ListComp elt [⟨.Name x px, iter, ifs, 0⟩] scope pos) 0 (.ref I) (.ref D) cenv) R ⟨h, gs, d, k, os⟩ := by
  have hIf : I ∈ fp := W.sub I (by simp)
  have hCI : cenv.locals ≠ I := fun e => hCf (e ▸ hIf)
  have hDI : D ≠ I := fun e => hDf (e ▸ hIf)
  refine codeAny_compLoop_tests
    (CompInv d os cenv.locals h St D I P p F G n) ?_ (n + 1)
    ⟨h, k, gs, [], [], rfl, hst, hacc, hn, by simp, by simpa using Paired.nil, Nat.zero_le _, rfl, fun _ _ _ _ _ e => e, hG⟩
  intro c s' inv
  refine hidQ fun Q₀ hQ₀ => ?_
  obtain ⟨H, k', gs', ys, vs, rfl, hst', hacc', ⟨m', hn'⟩, hP, hF, hi, rfl, hkp, hG'⟩ := inv
  by_cases hlt : vs.length < n
  · refine W.item vs.length _ _ _ hlt hst' fun v h₁ tk₁ hPv hst₁ hk₁ => hQ₀ _ _ ?_
    have hk₁' : ∀ b o, b ≠ I → H.get? b = some o → h₁.get? b = some o := fun b o hb e => hk₁ b o (by simpa using hb) e
    refine wpAny_assign_Name (wpAny_storeName_local hx (hn'.at' fun o e => hk₁' _ o hCI e) (fun h₂ hn₂ hs₂ => ?_) (by rw [hk]; rfl))
    have up₂ : ∀ b o, b ≠ cenv.locals → b ≠ I → H.get? b = some o → h₂.get? b = some o := fun b o hbC hbf e => hs₂.extBut b o hbC (hk₁' b o hbf e)
    have hst₂ : St (vs.length + 1) h₂ := W.frame _ _ _ hst₁ fun b hb o e => hs₂.extBut b o (fun q => hCf (q ▸ hb)) e
    have hv₂ : VarAt cenv h₂ x v := .inl ⟨hx, _, hn₂, by simp⟩
    have kp₂ : ∀ b o, b ≠ cenv.locals → b ≠ I → b ≠ D → h.get? b = some o → h₂.get? b = some o := fun b o hbC hbf hbD e => up₂ b o hbC hbf (hkp b o hbC hbf hbD e)
    refine wpAny_mono (htests vs.length v h₂ gs' _ _ hPv hv₂ kp₂ hG') (fun ok s₃ h₃ => ?_) fun _ _ e => e
    obtain ⟨h₃, k₃, gs₃, rfl, x₃, hG₃, rfl⟩ := h₃
    have hst₃ : St (vs.length + 1) h₃ := W.frame _ _ _ hst₂ fun b _ o e => x₃ b o e
    have hacc₃ : h₃.PlainList D ys.toArray := hacc'.at fun o e => x₃ _ o (up₂ D o hDC hDI e)
    have hP' : ∀ j u, (vs ++ [v])[j]? = some u → P j u := fun j u hj => by
      rcases Nat.lt_trichotomy j vs.length with q | q | q
      · exact hP j u (by rwa [List.getElem?_append_left q] at hj)
      · subst q; simp at hj; subst hj; exact hPv
      · have hnone : (vs ++ [v])[j]? = none := List.getElem?_eq_none (by rw [List.length_append, List.length_singleton]; omega)
        rw [hnone] at hj; cases hj
    cases hpv : p v with
    | false =>
      simp only [Bool.false_eq_true, if_false]
      refine ⟨n + 1 - (vs.length + 1), by omega, h₃, k₃, gs₃, ys, vs ++ [v], rfl, by simpa using hst₃, hacc₃, ⟨_, hn₂.keeps x₃⟩, hP', ?_, (by rw [List.length_append, List.length_singleton]; exact hlt), (by rw [List.length_append, List.length_singleton]), fun b o hbC hbf hbD e => x₃ b o (kp₂ b o hbC hbf hbD e), hG₃⟩
      rw [List.filter_append]; simpa [hpv] using hF
    | true =>
      simp only [if_true]
      refine wpAny_mono (helt vs.length v h₃ gs₃ _ _ hPv hpv (hv₂.ext x₃) (fun b o hbC hbf hbD e => x₃ b o (kp₂ b o hbC hbf hbD e)) hG₃) (fun y s₄ h₄ => ?_) fun _ _ e => e
      obtain ⟨h₄, k₄, gs₄, rfl, x₄, hG₄, hFy⟩ := h₄
      have hys : ys.toArray.size ≤ sizeLine := by
        have e1 := hF.length
        have e2 : (vs.filter p).length ≤ vs.length := List.length_filter_le _ _
        rw [List.size_toArray, sizeLine_eq]; omega
      refine wpAny_list_append_plain (hsz := hys) (hacc₃.at fun o e => x₄ _ o e) fun h₅ hl₅ hs₅ => ?_
      refine ⟨n + 1 - (vs.length + 1), by omega, h₅, k₄, gs₄, ys ++ [y], vs ++ [v], rfl, ?_, ?_, ⟨_, ((hn₂.keeps x₃).keeps x₄).sameBut hs₅ (Ne.symm hDC)⟩, hP', ?_, (by rw [List.length_append, List.length_singleton]; exact hlt), (by rw [List.length_append, List.length_singleton]),
        fun b o hbC hbf hbD e => hs₅.extBut b o hbD (x₄ b o (x₃ b o (kp₂ b o hbC hbf hbD e))), hG₄⟩
      · have := W.frame _ _ h₅ hst₃ fun b hb o e => hs₅.extBut b o (fun q => hDf (q ▸ hb)) (x₄ b o e)
        simpa using this
      · rw [show (ys ++ [y]).toArray = ys.toArray.push y by simp]; exact hl₅
      · rw [List.filter_append]; simpa [hpv] using Paired.snoc hF hFy
  · have hin : vs.length = n := by omega
    refine W.done _ _ _ (hin ▸ hst') fun h₁ tk₁ hk₁ => hQ₀ _ _ ?_
    have hk₁' : ∀ b o, b ≠ I → H.get? b = some o → h₁.get? b = some o := fun b o hb e => hk₁ b o (by simpa using hb) e
    exact hR h₁ tk₁ gs' ys vs ⟨m', hn'.at' fun o e => hk₁' _ o hCI e⟩ (hacc'.at fun o e => hk₁' _ o hDI e) hin hP hF (fun b o hbC hbf hbD e => hk₁' b o hbf (hkp b o hbC hbf hbD e)) hG'

theorem compBlockG {elt iter : PySem.Expr} {x : Str} {px : Pos} {ifs : List PySem.Expr} {scope : Scope} {cl : List (Str × Addr)} {pos : Pos} {I : Addr} {fp : List Addr} {n : Nat} {P : Nat → Value → Prop} {St : Nat → Heap → Prop} {RR : Value → Addr → Result → Shared → Prop}
    (p : Value → Bool) (F : Value → Value → Prop) (G : Array GenState → Prop) (hcell : ∀ y ∈ scope.names, y.2 ≠ .cell) (hkind : scope.kind = .function) (hx : scope.names.lookup x = some .local)
    (W : Walks prog w A I fp [I] n P St) (hsz : n ≤ 10000) (hst : St 0 h) (hfp : ∀ b ∈ fp, b < h.objs.size) (hG : G gs)
    (htests : ∀ C i v h₃ gs₃ k₃ E', h.objs.size ≤ C → P i v → VarAt (compEnvC scope cl C env) h₃ x v → (∀ b o, b ≠ I → h.get? b = some o → h₃.get? b = some o) → G gs₃ →
        wpAny (model prog w) A (testsOf ifs (compEnvC scope cl C env)) (fun ok s₄ => ∃ h₄ k₄ gs₄, s₄ = ⟨h₄, gs₄, d, k₄, os⟩ ∧ Ext h₃ h₄ ∧ G gs₄ ∧ ok = p v) E' ⟨h₃, gs₃, d, k₃, os⟩)
    (helt : ∀ C i v h₃ gs₃ k₃ E', h.objs.size ≤ C → P i v → p v = true → VarAt (compEnvC scope cl C env) h₃ x v → (∀ b o, b ≠ I → h.get? b = some o → h₃.get? b = some o) → G gs₃ →
        wpAny (model prog w) A (eval elt (compEnvC scope cl C env)) (fun y s₄ => ∃ h₄ k₄ gs₄, s₄ = ⟨h₄, gs₄, d, k₄, os⟩ ∧ Ext h₃ h₄ ∧ G gs₄ ∧ F v y) E' ⟨h₃, gs₃, d, k₃, os⟩)
    (hRR : ∀ D C h' k' gs' (ys vs : List Value), h.objs.size ≤ D → h.objs.size ≤ C → D ≠ C → (∃ m, h'.Ns C m) → h'.PlainList D ys.toArray → vs.length = n → (∀ j v, vs[j]? = some v → P j v) → Paired F (vs.filter p) ys → (∀ b o, b ≠ I → h.get? b = some o → h'.get? b = some o) → G gs' → RR (.ref D) C (.ok .next) ⟨h', gs', d, k', os⟩) :
    wpAny (model prog w) A (newList []) (fun acc s₃ => wpAny (model prog w) A (newFunctionEnv scope env.globals cl [] env.qual none .none (some env)) (fun cenv s₄ =>
      codeAny (model prog w) A (.compStart (.ListComp elt [⟨.Name x px, iter, ifs, 0⟩] scope pos) 0 (.ref I) acc { cenv with scope := relabel scope env }) (RR acc cenv.locals) s₄) E s₃) E ⟨h, gs, d, k, os⟩ := by
  refine wpAny_newObj_type (wpAny_newFunctionEnv hcell (by intro y hy; simp at hy) (fun h₃ hns hsb => ?_) hkind)
  dsimp only at hns hsb ⊢
  have hC : (h.push { cls := .type "list", dict := none, data := .seq ([] : List Value).toArray }).objs.size = h.objs.size + 1 := Heap.size_push ..
  generalize hH2 : h.push { cls := .type "list", dict := none, data := .seq ([] : List Value).toArray } = H2 at hns hsb hC ⊢
  have hDC : h.objs.size ≠ H2.objs.size := by rw [hC]; exact Nat.ne_of_lt (Nat.lt_succ_self _)
  have below : ∀ b, b < h.objs.size → b ≠ H2.objs.size ∧ b ≠ h.objs.size := fun b hb => ⟨by rw [hC]; exact Nat.ne_of_lt (Nat.lt_succ_of_lt hb), Nat.ne_of_lt hb⟩
  have hDf : h.objs.size ∉ fp := fun hm => Nat.lt_irrefl _ (hfp _ hm)
  have hCf : H2.objs.size ∉ fp := fun hm => by have := hfp _ hm; rw [hC] at this; exact Nat.lt_irrefl _ (Nat.lt_of_succ_lt this)
  have old : ∀ b o, h.get? b = some o → h₃.get? b = some o := fun b o e => hsb.extBut b o (below b (Heap.lt_size e)).1 (Heap.get?_push_of_some _ (hH2 ▸ Heap.get?_push_of_some _ e))
  have hacc : h₃.PlainList h.objs.size #[] := ⟨_, hsb.extBut _ _ hDC (Heap.get?_push_of_some _ (hH2 ▸ Heap.get?_push_size _ rfl))⟩
  have hst₃ : St 0 h₃ := W.frame _ _ _ hst fun b _ o e => old b o e
  have loop : ∀ tk, codeAny (model prog w) A (.compLoop (.ListComp elt [⟨.Name x px, iter, ifs, 0⟩] scope pos) 0 (.ref I) (.ref h.objs.size) (compEnvC scope cl H2.objs.size env))
      (RR (.ref h.objs.size) H2.objs.size) ⟨h₃, gs, d, tk, os⟩ := by
    intro tk
    exact compLoopG (cenv := compEnvC scope cl H2.objs.size env) W p F G (lookup_relabel_local hx) hkind hDC hDf hCf hst₃ hacc ⟨_, hns⟩ hG
      (fun i v h₄ gs₄ k₄ E' hP hv hk hG' => htests _ i v h₄ gs₄ k₄ E' (by rw [hC]; exact Nat.le_succ _) hP hv (fun b o hb e => hk b o (below b (Heap.lt_size e)).1 hb (below b (Heap.lt_size e)).2 (old b o e)) hG')
      (fun i v h₄ gs₄ k₄ E' hP hp hv hk hG' => helt _ i v h₄ gs₄ k₄ E' (by rw [hC]; exact Nat.le_succ _) hP hp hv (fun b o hb e => hk b o (below b (Heap.lt_size e)).1 hb (below b (Heap.lt_size e)).2 (old b o e)) hG')
      (fun h' k' gs' ys vs hn' hl' hlen hP hF hk hG' => hRR _ _ h' k' gs' ys vs (Nat.le_refl _) (by rw [hC]; exact Nat.le_succ _) hDC hn' hl' hlen hP hF (fun b o hb e => hk b o (below b (Heap.lt_size e)).1 hb (below b (Heap.lt_size e)).2 (old b o e)) hG') hsz
  exact codeAny_compStart_list (loop _) (W.self 0 _ _ _ hst₃ (loop _))

inductive PackG (prog : Program) (w : World) (A : Around) (d : Drawn) (os : OsState) (env : Env) (elt : PySem.Expr) (x : Str) (ifs : List PySem.Expr) (scope : Scope) (cl : List (Str × Addr)) (p : Value → Bool) (F : Value → Value → Prop) (G : Array GenState → Prop) (Q : Value → Shared → Prop) (it : Value) (s₂ : Shared) : Prop
  | mk (h₂ : Heap) (k₂ : Nat) (gs₂ : Array GenState) (I : Addr) (fp : List Addr) (n : Nat) (P : Nat → Value → Prop) (St : Nat → Heap → Prop) (e₁ : s₂ = ⟨h₂, gs₂, d, k₂, os⟩) (e₂ : it = .ref I) (W : Walks prog w A I fp [I] n P St) (hsz : n ≤ 10000) (hst : St 0 h₂) (hfp : ∀ b ∈ fp, b < h₂.objs.size) (hG : G gs₂)
      (htests : ∀ C i v h₃ gs₃ k₃ E', h₂.objs.size ≤ C → P i v → VarAt (compEnvC scope cl C env) h₃ x v → (∀ b o, b ≠ I → h₂.get? b = some o → h₃.get? b = some o) → G gs₃ →
        wpAny (model prog w) A (testsOf ifs (compEnvC scope cl C env)) (fun ok s₄ => ∃ h₄ k₄ gs₄, s₄ = ⟨h₄, gs₄, d, k₄, os⟩ ∧ Ext h₃ h₄ ∧ G gs₄ ∧ ok = p v) E' ⟨h₃, gs₃, d, k₃, os⟩)
      (helt : ∀ C i v h₃ gs₃ k₃ E', h₂.objs.size ≤ C → P i v → p v = true → VarAt (compEnvC scope cl C env) h₃ x v → (∀ b o, b ≠ I → h₂.get? b = some o → h₃.get? b = some o) → G gs₃ →
        wpAny (model prog w) A (eval elt (compEnvC scope cl C env)) (fun y s₄ => ∃ h₄ k₄ gs₄, s₄ = ⟨h₄, gs₄, d, k₄, os⟩ ∧ Ext h₃ h₄ ∧ G gs₄ ∧ F v y) E' ⟨h₃, gs₃, d, k₃, os⟩)
      (hQ : ∀ D h' k' gs' (ys vs : List Value), h₂.objs.size ≤ D → h'.PlainList D ys.toArray → vs.length = n → (∀ j v, vs[j]? = some v → P j v) → Paired F (vs.filter p) ys → (∀ b o, b ≠ I → h₂.get? b = some o → h'.get? b = some o) → G gs' → Q (.ref D) ⟨h', gs', d, k', os⟩)
/-- the same behind a name to be bound -/
inductive PackS (prog : Program) (w : World) (A : Around) (d : Drawn) (os : OsState) (env : Env) (g : Heap) (hi : Nat) (σ : List (Str × Value)) (h : Heap) (elt : PySem.Expr) (x y : Str) (ifs : List PySem.Expr) (scope : Scope) (cl : List (Str × Addr)) (rest : List Stmt) (R : Flow → Shared → Prop) (E : Value → Shared → Prop) (p : Value → Bool) (F : Value → Value → Prop) (G : Array GenState → Prop) (it : Value) (s₂ : Shared) : Prop
  | mk (h₂ : Heap) (k₂ : Nat) (gs₂ : Array GenState) (I : Addr) (fp : List Addr) (n : Nat) (P : Nat → Value → Prop) (St : Nat → Heap → Prop) (e₁ : s₂ = ⟨h₂, gs₂, d, k₂, os⟩) (e₂ : it = .ref I) (x₂ : Ext h h₂) (hI : h.objs.size ≤ I) (hz₂ : h.objs.size ≤ h₂.objs.size) (W : Walks prog w A I fp [I] n P St) (hsz : n ≤ 10000) (hst : St 0 h₂) (hfp : ∀ b ∈ fp, b < h₂.objs.size) (hG : G gs₂)
      (htests : ∀ C i v h₃ gs₃ k₃ E', h₂.objs.size ≤ C → P i v → VarAt (compEnvC scope cl C env) h₃ x v → (∀ b o, b ≠ I → h₂.get? b = some o → h₃.get? b = some o) → G gs₃ →
        wpAny (model prog w) A (testsOf ifs (compEnvC scope cl C env)) (fun ok s₄ => ∃ h₄ k₄ gs₄, s₄ = ⟨h₄, gs₄, d, k₄, os⟩ ∧ Ext h₃ h₄ ∧ G gs₄ ∧ ok = p v) E' ⟨h₃, gs₃, d, k₃, os⟩)
      (helt : ∀ C i v h₃ gs₃ k₃ E', h₂.objs.size ≤ C → P i v → p v = true → VarAt (compEnvC scope cl C env) h₃ x v → (∀ b o, b ≠ I → h₂.get? b = some o → h₃.get? b = some o) → G gs₃ →
        wpAny (model prog w) A (eval elt (compEnvC scope cl C env)) (fun y s₄ => ∃ h₄ k₄ gs₄, s₄ = ⟨h₄, gs₄, d, k₄, os⟩ ∧ Ext h₃ h₄ ∧ G gs₄ ∧ F v y) E' ⟨h₃, gs₃, d, k₃, os⟩)
      (hQ : ∀ D h₃ h' k' gs' (ys vs : List Value), h.objs.size ≤ D → Ext h h₃ → h'.PlainList D ys.toArray → vs.length = n → (∀ j v, vs[j]? = some v → P j v) → Paired F (vs.filter p) ys → Frm g env hi h' (put σ y (.ref D)) → Out env.locals hi h₃ h' → G gs' →
        wpAny (model prog w) A (execs rest env) R E ⟨h', gs', d, k', os⟩)
theorem r_compG {elt iter : PySem.Expr} {x : Str} {px : Pos} {ifs : List PySem.Expr} {scope : Scope} {cl : List (Str × Addr)} {pos : Pos} (p : Value → Bool) (F : Value → Value → Prop) (G : Array GenState → Prop)
    (hclos : closureFor scope env = pure cl) (hcell : ∀ y ∈ scope.names, y.2 ≠ .cell) (hkind : scope.kind = .function)
    (hnames : ∀ y ∈ scope.names, y.2 = .local → scope.names.lookup y.1 = some .local) (hx : scope.names.lookup x = some .local) (hs : ∀ x, foldedSetIterable iter env x = pure x)
    (H : wpAny (model prog w) A (eval iter env) (fun xv s₁ => wpAny (model prog w) A (pyIter xv) (PackG prog w A d os env elt x ifs scope cl p F G Q) E s₁) E ⟨h, gs, d, k, os⟩) :
    wpAny (model prog w) A (eval (.ListComp elt [⟨.Name x px, iter, ifs, 0⟩] scope pos) env) Q E ⟨h, gs, d, k, os⟩ := by
  rw [eval_ListComp]
  refine wpAny_comprehension_free (use := none) rfl hs hclos hkind hnames (wpAny_mono H (fun xv s₁ h₁ => wpAny_mono h₁ (fun it s₂ h₂ => ?_) fun _ _ e => e) fun _ _ e => e)
  obtain ⟨h₂, k₂, gs₂, I, fp, n, P, St, rfl, rfl, W, hsz, hst, hfp, hG, htests, helt, hQ⟩ := h₂
  refine compBlockG (RR := fun acc C => compPost (model prog w) A E none Q acc C) p F G hcell hkind hx W hsz hst hfp hG htests helt fun D C h' k' gs' ys vs hD hC hDC hn' hl' hlen hP hF hk hG' => ?_
  obtain ⟨m', hn'⟩ := hn'
  exact ⟨m', hn', fun h'' hs'' => hQ _ h'' _ gs' ys vs hD (hl'.extBut hs''.extBut hDC) hlen hP hF (fun b o hb e => hs''.extBut b o (Nat.ne_of_lt (Nat.lt_of_lt_of_le (Heap.lt_size e) hC)) (hk b o hb e)) hG'⟩

/-- a name bound to a comprehension, the stores exchanged -/
theorem s_setCG {g : Heap} {hi : Nat} {σ : List (Str × Value)} {elt iter : PySem.Expr} {x y : Str} {px py spos : Pos} {ifs : List PySem.Expr} {scope : Scope} {cl : List (Str × Addr)} {pos : Pos} {rest : List Stmt} {R : Flow → Shared → Prop}
    (p : Value → Bool) (F : Value → Value → Prop) (G : Array GenState → Prop) (Fm : Frm g env hi h σ)
    (hsw : swapsWith (.ListComp elt [⟨.Name x px, iter, ifs, 0⟩] scope pos) (some (.Name y py)) spos.line env = pure true) (hy : env.kindOf y = some .local)
    (hclos : closureFor scope env = pure cl) (hcell : ∀ y ∈ scope.names, y.2 ≠ .cell) (hkind : scope.kind = .function)
    (hnames : ∀ y ∈ scope.names, y.2 = .local → scope.names.lookup y.1 = some .local) (hx : scope.names.lookup x = some .local) (hs : ∀ x, foldedSetIterable iter env x = pure x)
    (H : wpAny (model prog w) A (eval iter env) (fun xv s₁ => wpAny (model prog w) A (pyIter xv) (PackS prog w A d os env g hi σ h elt x y ifs scope cl rest R E p F G) E s₁) E ⟨h, gs, d, k, os⟩) :
    wpAny (model prog w) A (execs (.Assign [.Name y py] (.ListComp elt [⟨.Name x px, iter, ifs, 0⟩] scope pos) spos :: rest) env) R E ⟨h, gs, d, k, os⟩ := by
  refine s_cons ?_
  rw [exec_Assign_Name_used _ _ _ _ hsw]
  refine wpAny_bind (wpAny_standAt (wpAny_bind ?_))
  show wpAny _ A (do let _ ← comprehension (.ListComp elt [⟨.Name x px, iter, ifs, 0⟩] scope pos) scope env _ (newList []) false (eval iter env) (some (assign (.Name y py) env))) _ _ _
  refine wpAny_bind (wpAny_mono (wpAny_comprehension_free (use := some (assign (.Name y py) env)) (Q := fun _ s' => Then prog w A env rest R E .next s') rfl hs hclos hkind hnames
    (wpAny_mono H (fun xv s₁ h₁ => wpAny_mono h₁ (fun it s₂ h₂ => ?_) fun _ _ e => e) fun _ _ e => e)) (fun _ s' hq => wpAny_pure (wpAny_pure hq)) fun _ _ e => e)
  obtain ⟨h₂, k₂, gs₂, I, fp, n, P, St, rfl, rfl, x₂, hI, hz₂, W, hsz, hst, hfp, hG, htests, helt, hQ⟩ := h₂
  refine compBlockG (RR := fun acc C => compPost (model prog w) A E (some (assign (.Name y py) env)) (fun _ s' => Then prog w A env rest R E .next s') acc C) p F G hcell hkind hx W hsz hst hfp hG htests helt fun D C h' k' gs' ys vs hD hC hDC hn' hl' hlen hP hF hk hG' => ?_
  obtain ⟨m', hn'⟩ := hn'
  have hl : ∀ b o, h.get? b = some o → b ≠ I := fun b o e => Nat.ne_of_lt (Nat.lt_of_lt_of_le (Heap.lt_size e) hI)
  have x' : Ext h h' := fun b o e => hk b o (hl b o e) (x₂ b o e)
  have hhi := Fm.ok.size
  have hC' : hi ≤ C := Nat.le_trans hhi (Nat.le_trans hz₂ hC)
  have hD' : hi ≤ D := Nat.le_trans hhi (Nat.le_trans hz₂ hD)
  show wpAny _ A (assign (.Name y py) env (.ref D)) _ _ _
  refine s_assign (.inl hy) (Fm.ext x') fun h₄ k₄ F₄ o₄ => ⟨m', hn'.at' fun o e => o₄ _ o (.inr hC') e, fun h₅ hs₅ => ?_⟩
  have low : ∀ b o, b ≠ C → h₄.get? b = some o → h₅.get? b = some o := fun b o hb e => hs₅.extBut b o hb e
  refine hQ D h h₅ _ gs' ys vs (Nat.le_trans hz₂ hD) (Ext.refl _) ((hl'.at fun o e => o₄ _ o (.inr hD') e).extBut hs₅.extBut hDC) hlen hP hF (F₄.low fun b o hb e => low b o (Nat.ne_of_lt (Nat.lt_of_lt_of_le hb hC')) e) (fun b o hb e => low b o (Nat.ne_of_lt (Nat.lt_of_lt_of_le (Heap.lt_size e) (Nat.le_trans hz₂ hC))) (o₄ b o hb (x' b o e))) hG'
end

/- MC2 -/

theorem VarAt.comp {env : Env} {h : Heap} {y : Str} {v : Value} {scope : Scope} {cl : List (Str × Addr)} {C : Addr} (a : VarAt env h y v) (hk : env.kindOf y = some .cell) (hc : (compEnvC scope cl C env).kindOf y = some .cell) (hl : cl.lookup y = env.cells.lookup y) :
    VarAt (compEnvC scope cl C env) h y v := by
  rcases a with ⟨k, _⟩ | ⟨c, k, hcl, hv⟩
  · rw [hk] at k; cases k
  · exact .inr ⟨c, .inl hc, hl.trans hcl, hv⟩

theorem paired_nat {pz : Nat → Bool} {Fe : Nat → Value → Prop} : ∀ (n a : Nat) (vs ys : List Value), vs.length = n → (∀ (j : Nat) v, vs[j]? = some v → ∃ t, v = .int ((a + j : Nat) : Int) t) →
    Paired (fun v y => ∃ (i : Nat) (t : Tok), v = .int (i : Int) t ∧ Fe i y) (vs.filter fun v => match v with | .int z _ => pz z.toNat | _ => false) ys → Paired Fe ((List.range' a n).filter pz) ys
  | 0, a, vs, ys, hl, hv, hp => by
    have : vs = [] := List.length_eq_zero_iff.mp hl
    subst this
    cases hp; exact .nil
  | n + 1, a, [], ys, hl, hv, hp => by simp at hl
  | n + 1, a, v :: vs, ys, hl, hv, hp => by
    obtain ⟨t, e⟩ := hv 0 v rfl
    subst e
    have hl' : vs.length = n := by simpa using hl
    have hv' : ∀ (j : Nat) u, vs[j]? = some u → ∃ t, u = .int ((a + 1 + j : Nat) : Int) t := fun j u hj => by
      obtain ⟨t, e⟩ := hv (j + 1) u (by simpa using hj)
      exact ⟨t, by rw [e]; congr 2; omega⟩
    rw [List.range'_succ]
    have ez : ((a + 0 : Nat) : Int).toNat = a := by omega
    cases hpz : pz a with
    | false =>
      have e1 : (List.filter (fun v => match v with | .int z _ => pz z.toNat | _ => false) (Value.int ((a + 0 : Nat) : Int) t :: vs)) = vs.filter fun v => match v with | .int z _ => pz z.toNat | _ => false := by
        rw [List.filter_cons]; simp only [ez, hpz]; rfl
      rw [e1] at hp
      rw [List.filter_cons, hpz]
      exact paired_nat n (a + 1) vs ys hl' hv' hp
    | true =>
      have e1 : (List.filter (fun v => match v with | .int z _ => pz z.toNat | _ => false) (Value.int ((a + 0 : Nat) : Int) t :: vs)) = Value.int ((a + 0 : Nat) : Int) t :: vs.filter fun v => match v with | .int z _ => pz z.toNat | _ => false := by
        rw [List.filter_cons]; simp only [ez, hpz]; rfl
      rw [e1] at hp
      rw [List.filter_cons, hpz]
      cases hp with
      | cons ha ht =>
        obtain ⟨i, t', e2, hf⟩ := ha
        have : i = a := by injection e2 with e3 _; omega
        subst this
        exact .cons hf (paired_nat n (i + 1) vs _ hl' hv' ht)
theorem paired_ints {α : Type} {f : α → Int} : ∀ {l : List α} {ys : List Value}, Paired (fun a y => ∃ t, y = .int (f a) t) l ys → IntsAre ys (l.map f)
  | _, _, .nil => .nil
  | _, _, .cons ⟨t, e⟩ r => e ▸ .cons _ t (paired_ints r)

section
variable {prog : Program} {w : World} {A : Around} {E : Value → Shared → Prop} {env : Env} {h : Heap} {gs : Array GenState} {d : Drawn} {k : Nat} {os : OsState} {Q : Value → Shared → Prop}

theorem t_nil {cenv : Env} {Q : Bool → Shared → Prop} {s : Shared} (H : Q true s) : wpAny (model prog w) A (testsOf [] cenv) Q E s := wpAny_pure H
theorem t_one {cenv : Env} {c : PySem.Expr} {Q : Bool → Shared → Prop} {s : Shared} (H : wpAny (model prog w) A (isTrue c cenv (eval c cenv)) Q E s) : wpAny (model prog w) A (testsOf [c] cenv) Q E s := wpAny_tests_one H

theorem r_compN {elt iter : PySem.Expr} {x : Str} {px : Pos} {ifs : List PySem.Expr} {scope : Scope} {cl : List (Str × Addr)} {pos : Pos} {a n : Nat} (pz : Nat → Bool) (Fe : Nat → Value → Prop)
    (hclos : closureFor scope env = pure cl) (hcell : ∀ y ∈ scope.names, y.2 ≠ .cell) (hkind : scope.kind = .function)
    (hnames : ∀ y ∈ scope.names, y.2 = .local → scope.names.lookup y.1 = some .local) (hx : scope.names.lookup x = some .local) (hs : ∀ x, foldedSetIterable iter env x = pure x) (hsz : n ≤ 10000)
    (H1 : wpAny (model prog w) A (eval iter env) (fun xv s₁ => wpAny (model prog w) A (pyIter xv) (fun it s₂ => ∃ h₂ k₂ I St, s₂ = ⟨h₂, gs, d, k₂, os⟩ ∧ it = .ref I ∧ Ext h h₂ ∧ h.objs.size ≤ I ∧ I < h₂.objs.size ∧
      Walks prog w A I [I] [I] n (fun i v => ∃ t, v = .int ((a + i : Nat) : Int) t) St ∧ St 0 h₂) E s₁) E ⟨h, gs, d, k, os⟩)
    (Ht : ∀ C i h₃ k₃ E' t, h.objs.size ≤ C → a ≤ i → i < a + n → VarAt (compEnvC scope cl C env) h₃ x (.int (i : Int) t) → Ext h h₃ →
      wpAny (model prog w) A (testsOf ifs (compEnvC scope cl C env)) (fun ok s₄ => ∃ h₄ k₄, s₄ = ⟨h₄, gs, d, k₄, os⟩ ∧ Ext h₃ h₄ ∧ ok = pz i) E' ⟨h₃, gs, d, k₃, os⟩)
    (He : ∀ C i h₃ k₃ E' t, h.objs.size ≤ C → a ≤ i → i < a + n → pz i = true → VarAt (compEnvC scope cl C env) h₃ x (.int (i : Int) t) → Ext h h₃ →
      wpAny (model prog w) A (eval elt (compEnvC scope cl C env)) (fun y s₄ => ∃ h₄ k₄, s₄ = ⟨h₄, gs, d, k₄, os⟩ ∧ Ext h₃ h₄ ∧ Fe i y) E' ⟨h₃, gs, d, k₃, os⟩)
    (K : ∀ D h' k' (ys : List Value), h.objs.size ≤ D → Ext h h' → h'.PlainList D ys.toArray → Paired Fe ((List.range' a n).filter pz) ys → Q (.ref D) ⟨h', gs, d, k', os⟩) :
    wpAny (model prog w) A (eval (.ListComp elt [⟨.Name x px, iter, ifs, 0⟩] scope pos) env) Q E ⟨h, gs, d, k, os⟩ := by
  refine r_compG (fun v => match v with | .int z _ => pz z.toNat | _ => false) (fun v y => ∃ (i : Nat) (t : Tok), v = .int (i : Int) t ∧ Fe i y) (· = gs) hclos hcell hkind hnames hx hs (wpAny_mono H1 (fun xv s₁ h₁ => wpAny_mono h₁ (fun it s₂ h₂ => ?_) fun _ _ e => e) fun _ _ e => e)
  obtain ⟨h₂, k₂, I, St, rfl, rfl, x₂, hI, hI2, W, st⟩ := h₂
  have hlt : ∀ b o, h.get? b = some o → b ≠ I := fun b o e => Nat.ne_of_lt (Nat.lt_of_lt_of_le (Heap.lt_size e) hI)
  have ex : ∀ {h₃ : Heap}, (∀ b o, b ≠ I → h₂.get? b = some o → h₃.get? b = some o) → Ext h h₃ := fun hk b o e => hk b o (hlt b o e) (x₂ b o e)
  have hcI : h.objs.size ≤ h₂.objs.size := Nat.le_of_lt (Nat.lt_of_le_of_lt hI hI2)
  have Wlt : ∀ i v, (∃ t, v = Value.int ((a + i : Nat) : Int) t) → True := fun _ _ _ => trivial
  -- the item's number lies in the range
  have W' : Walks prog w A I [I] [I] n (fun i v => i < n ∧ ∃ t, v = .int ((a + i : Nat) : Int) t) St :=
    ⟨W.sub, W.frame, fun i s Q E hi hs hQ => W.item i s Q E hi hs fun v h' tk hv => hQ v h' tk ⟨hi, hv⟩, W.done, W.self⟩
  refine ⟨h₂, k₂, gs, I, [I], n, _, St, rfl, rfl, W', hsz, st, fun b hb => by simp at hb; subst hb; exact hI2, rfl, ?_, ?_, ?_⟩
  · rintro C i v h₃ gs₃ k₃ E' hC ⟨hi, t, rfl⟩ hv hk rfl
    refine wpAny_mono (Ht C (a + i) h₃ k₃ E' t (Nat.le_trans hcI hC) (by omega) (by omega) hv (ex hk)) (fun ok s₄ q => ?_) fun _ _ e => e
    obtain ⟨h₄, k₄, rfl, x₄, e⟩ := q
    refine ⟨h₄, k₄, _, rfl, x₄, rfl, ?_⟩
    rw [e]; show _ = pz ((a + i : Nat) : Int).toNat
    rw [show ((a + i : Nat) : Int).toNat = a + i by omega]
  · rintro C i v h₃ gs₃ k₃ E' hC ⟨hi, t, rfl⟩ hp hv hk rfl
    have hp' : pz (a + i) = true := by
      have : pz ((a + i : Nat) : Int).toNat = true := hp
      rwa [show ((a + i : Nat) : Int).toNat = a + i by omega] at this
    refine wpAny_mono (He C (a + i) h₃ k₃ E' t (Nat.le_trans hcI hC) (by omega) (by omega) hp' hv (ex hk)) (fun ok s₄ q => ?_) fun _ _ e => e
    obtain ⟨h₄, k₄, rfl, x₄, e⟩ := q
    exact ⟨h₄, k₄, _, rfl, x₄, rfl, a + i, t, rfl, e⟩
  · rintro D h' k' gs' ys vs hD hl hlen hP hF hk rfl
    exact K D h' k' ys (Nat.le_trans hcI hD) (ex hk) hl (paired_nat n a vs ys hlen (fun j v hj => (hP j v hj).2) hF)
/-- a comprehension over a list -/
theorem r_compV {elt iter : PySem.Expr} {x : Str} {px : Pos} {ifs : List PySem.Expr} {scope : Scope} {cl : List (Str × Addr)} {pos : Pos} (vs : List Value) (p : Value → Bool) (F : Value → Value → Prop)
    (hclos : closureFor scope env = pure cl) (hcell : ∀ y ∈ scope.names, y.2 ≠ .cell) (hkind : scope.kind = .function)
    (hnames : ∀ y ∈ scope.names, y.2 = .local → scope.names.lookup y.1 = some .local) (hx : scope.names.lookup x = some .local) (hs : ∀ x, foldedSetIterable iter env x = pure x) (hh : A.handled = none) (hsz : vs.length ≤ 10000)
    (H1 : wpAny (model prog w) A (eval iter env) (fun xv s₁ => ∃ h₁ k₁ l, s₁ = ⟨h₁, gs, d, k₁, os⟩ ∧ xv = .ref l ∧ Ext h h₁ ∧ h₁.IsList l vs.toArray ∧ h.objs.size ≤ h₁.objs.size) E ⟨h, gs, d, k, os⟩)
    (Ht : ∀ C v h₃ k₃ E', h.objs.size ≤ C → v ∈ vs → VarAt (compEnvC scope cl C env) h₃ x v → Ext h h₃ →
      wpAny (model prog w) A (testsOf ifs (compEnvC scope cl C env)) (fun ok s₄ => ∃ h₄ k₄, s₄ = ⟨h₄, gs, d, k₄, os⟩ ∧ Ext h₃ h₄ ∧ ok = p v) E' ⟨h₃, gs, d, k₃, os⟩)
    (He : ∀ C v h₃ k₃ E', h.objs.size ≤ C → v ∈ vs → p v = true → VarAt (compEnvC scope cl C env) h₃ x v → Ext h h₃ →
      wpAny (model prog w) A (eval elt (compEnvC scope cl C env)) (fun y s₄ => ∃ h₄ k₄, s₄ = ⟨h₄, gs, d, k₄, os⟩ ∧ Ext h₃ h₄ ∧ F v y) E' ⟨h₃, gs, d, k₃, os⟩)
    (K : ∀ D h' k' (ys : List Value), h.objs.size ≤ D → Ext h h' → h'.PlainList D ys.toArray → Paired F (vs.filter p) ys → Q (.ref D) ⟨h', gs, d, k', os⟩) :
    wpAny (model prog w) A (eval (.ListComp elt [⟨.Name x px, iter, ifs, 0⟩] scope pos) env) Q E ⟨h, gs, d, k, os⟩ := by
  refine r_compG p F (· = gs) hclos hcell hkind hnames hx hs (wpAny_mono H1 (fun xv s₁ h₁ => ?_) fun _ _ e => e)
  obtain ⟨h₁, k₁, l, rfl, rfl, x₁, hl, hs₁⟩ := h₁
  refine r_iterL hl fun o St hW hSz st => ?_
  have hll : l < h₁.objs.size := let ⟨_, ho, _⟩ := hl; Heap.lt_size ho
  have ex : ∀ {h₃ : Heap}, (∀ b o, b ≠ h₁.objs.size → (h₁.push o).get? b = (h₁.push o).get? b → (h₁.push o).get? b = some o → h₃.get? b = some o) → True := fun _ => trivial
  refine ⟨_, _, gs, h₁.objs.size, _, _, _, St, rfl, rfl, hW A hh, hsz, st, ?_, rfl, ?_, ?_, ?_⟩
  · intro b hb
    rw [Heap.size_push]
    simp at hb
    rcases hb with rfl | rfl
    · exact Nat.lt_succ_self _
    · exact Nat.lt_succ_of_lt hll
  · rintro C i v h₃ gs₃ k₃ E' hC hv hva hk rfl
    refine wpAny_mono (Ht C v h₃ k₃ E' (Nat.le_trans hs₁ (Nat.le_trans (by rw [Heap.size_push]; exact Nat.le_succ _) hC)) (List.mem_of_getElem? hv) hva (fun b o e => hk b o (Nat.ne_of_lt (Heap.lt_size (x₁ b o e))) (Heap.get?_push_of_some _ (x₁ b o e)))) (fun ok s₄ q => ?_) fun _ _ e => e
    obtain ⟨h₄, k₄, rfl, x₄, e⟩ := q
    exact ⟨h₄, k₄, _, rfl, x₄, rfl, e⟩
  · rintro C i v h₃ gs₃ k₃ E' hC hv hp hva hk rfl
    refine wpAny_mono (He C v h₃ k₃ E' (Nat.le_trans hs₁ (Nat.le_trans (by rw [Heap.size_push]; exact Nat.le_succ _) hC)) (List.mem_of_getElem? hv) hp hva (fun b o e => hk b o (Nat.ne_of_lt (Heap.lt_size (x₁ b o e))) (Heap.get?_push_of_some _ (x₁ b o e)))) (fun ok s₄ q => ?_) fun _ _ e => e
    obtain ⟨h₄, k₄, rfl, x₄, e⟩ := q
    exact ⟨h₄, k₄, _, rfl, x₄, rfl, e⟩
  · rintro D h' k' gs' ys vs' hD hl' hlen hP hF hk rfl
    have : vs' = vs := by
      apply List.ext_getElem? 
      intro i
      by_cases hi : i < vs'.length
      · have := hP i _ (List.getElem?_eq_getElem hi)
        rw [List.getElem?_eq_getElem hi]; exact this.symm
      · rw [List.getElem?_eq_none (by omega), List.getElem?_eq_none (by omega)]
    subst this
    exact K D h' k' ys (Nat.le_trans hs₁ (Nat.le_trans (by rw [Heap.size_push]; exact Nat.le_succ _) hD)) (fun b o e => hk b o (Nat.ne_of_lt (Heap.lt_size (x₁ b o e))) (Heap.get?_push_of_some _ (x₁ b o e))) hl' hF
end

/- MC3 -/
theorem plain_list {h : Heap} {D : Addr} {ys : List Value} (x : h.PlainList D ys.toArray) : h.IsList D ys.toArray := x.isList
section
variable {prog : Program} {w : World} {A : Around} {E : Value → Shared → Prop} {env : Env} {h : Heap} {gs : Array GenState} {d : Drawn} {k : Nat} {os : OsState} {Q : Value → Shared → Prop}

theorem r_eqI {a b : Addr} {ns ms : List Int} (hu : A.units < 9000) (hl : IL h a ns) (hb : IL h b ms) (H : Q (.bool (decide (ns = ms))) ⟨h, gs, d, k, os⟩) : wpAny (model prog w) A (compareOp .Eq (.ref a) (.ref b)) Q E ⟨h, gs, d, k, os⟩ := by
  obtain ⟨vs, h1, h2⟩ := hl
  obtain ⟨us, h3, h4⟩ := hb
  exact eq_intsK h1 h2 h3 h4 (by show _ < 9900; omega) H
theorem r_neI {a b : Addr} {ns ms : List Int} (hu : A.units < 9000) (hl : IL h a ns) (hb : IL h b ms) (H : Q (.bool (!decide (ns = ms))) ⟨h, gs, d, k, os⟩) : wpAny (model prog w) A (compareOp .NotEq (.ref a) (.ref b)) Q E ⟨h, gs, d, k, os⟩ := by
  obtain ⟨vs, h1, h2⟩ := hl
  obtain ⟨us, h3, h4⟩ := hb
  exact ne_intsK h1 h2 h3 h4 (by show _ < 9900; omega) H
theorem Rm.units {A : Around} {n : Nat} (r : Rm A n) : A.units < 9000 := by have := r.un; omega
theorem IL.nil_push (h : Heap) : IL (h.push (listO [])) h.objs.size [] := ⟨[], isList_push _ _, .nil⟩
theorem IL.one_push (h : Heap) (i : Int) (t : Tok) : IL (h.push (listO [.int i t])) h.objs.size [i] := ⟨_, isList_push _ _, .cons _ _ .nil⟩

theorem r_ife {test body orelse : PySem.Expr} {pos : Pos}
    (H : wpAny (model prog w) A (isTrue test env (eval test env)) (fun b s₂ => (b = true → wpAny (model prog w) A (eval body env) Q E s₂) ∧ (b = false → wpAny (model prog w) A (eval orelse env) Q E s₂)) E ⟨h, gs, d, k, os⟩) :
    wpAny (model prog w) A (eval (.IfExp test body orelse pos) env) Q E ⟨h, gs, d, k, os⟩ := by
  show wpAny _ _ (do if ← isTrue test env (eval test env) then eval body env else eval orelse env) _ _ _
  refine wpAny_bind (wpAny_mono H (fun b s₂ q => ?_) fun _ _ e => e)
  cases b with
  | false => exact q.2 rfl
  | true => exact q.1 rfl

variable {R : Flow → Shared → Prop}
theorem s_setCV {g : Heap} {hi : Nat} {σ : List (Str × Value)} {elt iter : PySem.Expr} {x y : Str} {px py spos : Pos} {ifs : List PySem.Expr} {scope : Scope} {cl : List (Str × Addr)} {pos : Pos} {rest : List Stmt} (vs : List Value)
    (p : Value → Bool) (F : Value → Value → Prop) (Fm : Frm g env hi h σ)
    (hsw : swapsWith (.ListComp elt [⟨.Name x px, iter, ifs, 0⟩] scope pos) (some (.Name y py)) spos.line env = pure true) (hy : env.kindOf y = some .local)
    (hclos : closureFor scope env = pure cl) (hcell : ∀ y ∈ scope.names, y.2 ≠ .cell) (hkind : scope.kind = .function)
    (hnames : ∀ y ∈ scope.names, y.2 = .local → scope.names.lookup y.1 = some .local) (hx : scope.names.lookup x = some .local) (hs : ∀ x, foldedSetIterable iter env x = pure x) (hh : A.handled = none) (hsz : vs.length ≤ 10000)
    (H1 : wpAny (model prog w) A (eval iter env) (fun xv s₁ => ∃ h₁ k₁ l, s₁ = ⟨h₁, gs, d, k₁, os⟩ ∧ xv = .ref l ∧ Ext h h₁ ∧ h₁.IsList l vs.toArray ∧ h.objs.size ≤ h₁.objs.size) E ⟨h, gs, d, k, os⟩)
    (Ht : ∀ C v h₃ k₃ E', h.objs.size ≤ C → v ∈ vs → VarAt (compEnvC scope cl C env) h₃ x v → Ext h h₃ →
      wpAny (model prog w) A (testsOf ifs (compEnvC scope cl C env)) (fun ok s₄ => ∃ h₄ k₄, s₄ = ⟨h₄, gs, d, k₄, os⟩ ∧ Ext h₃ h₄ ∧ ok = p v) E' ⟨h₃, gs, d, k₃, os⟩)
    (He : ∀ C v h₃ k₃ E', h.objs.size ≤ C → v ∈ vs → p v = true → VarAt (compEnvC scope cl C env) h₃ x v → Ext h h₃ →
      wpAny (model prog w) A (eval elt (compEnvC scope cl C env)) (fun y s₄ => ∃ h₄ k₄, s₄ = ⟨h₄, gs, d, k₄, os⟩ ∧ Ext h₃ h₄ ∧ F v y) E' ⟨h₃, gs, d, k₃, os⟩)
    (K : ∀ D h' k' (ys : List Value), h.objs.size ≤ D → h'.PlainList D ys.toArray → Paired F (vs.filter p) ys → Frm g env hi h' (put σ y (.ref D)) → Out env.locals hi h h' → wpAny (model prog w) A (execs rest env) R E ⟨h', gs, d, k', os⟩) :
    wpAny (model prog w) A (execs (.Assign [.Name y py] (.ListComp elt [⟨.Name x px, iter, ifs, 0⟩] scope pos) spos :: rest) env) R E ⟨h, gs, d, k, os⟩ := by
  refine s_setCG p F (· = gs) Fm hsw hy hclos hcell hkind hnames hx hs (wpAny_mono H1 (fun xv s₁ h₁ => ?_) fun _ _ e => e)
  obtain ⟨h₁, k₁, l, rfl, rfl, x₁, hl, hs₁⟩ := h₁
  refine r_iterL hl fun o St hW hSz st => ?_
  have hll : l < h₁.objs.size := let ⟨_, ho, _⟩ := hl; Heap.lt_size ho
  refine ⟨_, _, gs, h₁.objs.size, _, _, _, St, rfl, rfl, x₁.trans (Ext.push _ _), hs₁, Nat.le_trans hs₁ (by rw [Heap.size_push]; exact Nat.le_succ _), hW A hh, hsz, st, ?_, rfl, ?_, ?_, ?_⟩
  · intro b hb
    rw [Heap.size_push]
    simp at hb
    rcases hb with rfl | rfl
    · exact Nat.lt_succ_self _
    · exact Nat.lt_succ_of_lt hll
  · rintro C i v h₃ gs₃ k₃ E' hC hv hva hk rfl
    refine wpAny_mono (Ht C v h₃ k₃ E' (Nat.le_trans hs₁ (Nat.le_trans (by rw [Heap.size_push]; exact Nat.le_succ _) hC)) (List.mem_of_getElem? hv) hva (fun b o e => hk b o (Nat.ne_of_lt (Heap.lt_size (x₁ b o e))) (Heap.get?_push_of_some _ (x₁ b o e)))) (fun ok s₄ q => ?_) fun _ _ e => e
    obtain ⟨h₄, k₄, rfl, x₄, e⟩ := q
    exact ⟨h₄, k₄, _, rfl, x₄, rfl, e⟩
  · rintro C i v h₃ gs₃ k₃ E' hC hv hp hva hk rfl
    refine wpAny_mono (He C v h₃ k₃ E' (Nat.le_trans hs₁ (Nat.le_trans (by rw [Heap.size_push]; exact Nat.le_succ _) hC)) (List.mem_of_getElem? hv) hp hva (fun b o e => hk b o (Nat.ne_of_lt (Heap.lt_size (x₁ b o e))) (Heap.get?_push_of_some _ (x₁ b o e)))) (fun ok s₄ q => ?_) fun _ _ e => e
    obtain ⟨h₄, k₄, rfl, x₄, e⟩ := q
    exact ⟨h₄, k₄, _, rfl, x₄, rfl, e⟩
  · rintro D h₃ h' k' gs' ys vs' hD x₃ hl' hlen hP hF Fm' o' rfl
    have : vs' = vs := by
      apply List.ext_getElem? 
      intro i
      by_cases hi : i < vs'.length
      · have := hP i _ (List.getElem?_eq_getElem hi)
        rw [List.getElem?_eq_getElem hi]; exact this.symm
      · rw [List.getElem?_eq_none (by omega), List.getElem?_eq_none (by omega)]
    subst this
    exact K D h' k' ys hD hl' hF Fm' fun b o hb e => o' b o hb (x₃ b o e)
end

/- C6 -/
theorem paired_eq : ∀ {l ys : List Value}, Paired (fun v y => y = v) l ys → ys = l
  | _, _, .nil => rfl
  | _, _, .cons e r => by rw [e, paired_eq r]
theorem intsAre_filter (q : Int → Bool) : ∀ {vs : List Value} {ns : List Int}, IntsAre vs ns → IntsAre (vs.filter fun v => match v with | .int z _ => q z | _ => false) (ns.filter q)
  | _, _, .nil => .nil
  | _, _, .cons n u r => by
    rw [List.filter_cons, List.filter_cons]
    have ih := intsAre_filter q r
    cases hq : q n
    · simpa [hq] using ih
    · simpa [hq] using IntsAre.cons n u ih
theorem intsAre_mem : ∀ {vs : List Value} {ns : List Int}, IntsAre vs ns → ∀ v ∈ vs, ∃ n t, v = .int n t ∧ n ∈ ns
  | _, _, .nil, v, hv => nomatch hv
  | _, _, .cons n u r, v, hv => by
    rcases List.mem_cons.mp hv with rfl | hv
    · exact ⟨n, u, rfl, List.mem_cons_self⟩
    · obtain ⟨m, t, e, hm⟩ := intsAre_mem r v hv
      exact ⟨m, t, e, List.mem_cons_of_mem _ hm⟩

noncomputable def walkStep (ms : List Int) (col : Int) (c : Nat) : Int := if c = 9 then (match ms.filter (fun m => decide (col < m)) with | x :: _ => x | [] => col + 1) else col + 1
noncomputable def walkF (ms : List Int) (X : List Nat) : Int := X.foldl (walkStep ms) 0

theorem walk_spec {prog : Program} {w : World} {A : Around} {h : Heap} {gs : Array GenState} {d : Drawn} {k : Nat} {os : OsState} (r : Rm A 1) (cx : Cx w h) (X : List Nat) (t : Tok) {l : Addr} {ms : List Int} (hl : IL h l ms) (hX : X.length ≤ 100) (hm : ms.length ≤ 1000)
    {R : Result → Shared → Prop} (H : ∀ h' k' t', Ext h h' → R (.ok (.ret (.int (walkF ms X) t'))) ⟨h', gs, d, k', os⟩) :
    codeAny (model prog w) A (.call (.ref 109) ⟨[.str (S X) t, .ref l], []⟩) R ⟨h, gs, d, k, os⟩ := by
  refine enterF (fd := fdAt 109) (n := 0) [("lead", .str (S X) t), ("marks", .ref l)] ["lead", "marks"] r cx rfl rfl rfl rfl rfl rfl rfl rfl (by decide) (fun h₁ k₁ F c₁ r₁ E => ?_) rfl rfl rfl
  change Frm h (callEnvC (fdAt 109) h.objs.size 109) (h.objs.size + 2) h₁ _ at F
  generalize hA : A.deeper (callEnvC (fdAt 109) h.objs.size 109) = A' at r₁ ⊢
  clear hA
  generalize h.objs.size = L at *
  as_aux_lemma =>
  refine hidQ fun Q₀ hQ₀ => ?_
  refine s_set F (.inr ⟨rfl, rfl⟩) rfl (r_int fun t₀ k₂ => ⟨_, _, rfl, Ext.refl _, fun h₂ k₃ F₂ o₂ => ?_⟩)
  replace F₂ : Frm h (callEnvC (fdAt 109) L 109) (L + 2) h₂ [("column", .int 0 t₀), ("lead", .str (S X) t), ("marks", .ref l)] := F₂
  refine s_for (fun _ => rfl) ?_
  walk_at "nm"
  refine r_iterS fun o St hW hStz st => ?_
  have W := hW A' r₁.hh
  have hI := F₂.ok.size
  refine s_forP W (fun i h' => ∃ (col : Int) (tm : Tok), Frm h (callEnvC (fdAt 109) L 109) (L + 2) h' [("column", .int col tm), ("lead", .str (S X) t), ("marks", .ref l)] ∧ (X.drop i).foldl (walkStep ms) col = walkF ms X)
    (fun h' => ∃ (tm : Tok), Frm h (callEnvC (fdAt 109) L 109) (L + 2) h' [("column", .int (walkF ms X) tm)])
    ⟨0, t₀, F₂.ext (Ext.push _ _), rfl⟩ st (fun _ => rfl) ?_ ?_ ?_
  · rintro i h₃ k₄ v h₄ E' hi ⟨col, tm, F₃, hm3⟩ st₄ ⟨c, u, hc, rfl⟩ hk₄
    have F₄ := F₃.low (fun b o hb e => hk₄ b o (by simp; exact Nat.ne_of_lt (Nat.lt_of_lt_of_le hb hI)) e)
    refine s_assign (.inl rfl) F₄ fun h₅ k₅ F₅ o₅ => hidQ fun Q₁ hQ₁ => ?_
    as_aux_lemma =>
    replace F₅ : Frm h (callEnvC (fdAt 109) L 109) (L + 2) h₅ [("sign", .str (S [c]) u), ("column", .int col tm), ("lead", .str (S X) t), ("marks", .ref l)] := F₅
    replace st₄ : St (i + 1) h₅ := W.frame _ _ _ st₄ fun b hb o e => o₅ b o (.inr (by simp at hb; subst hb; exact hI)) e
    obtain ⟨vs, hv, hvi⟩ := hl.ext F₅.ok.keep
    have hvl := hvi.length
    refine s_setCV vs (fun v => match v with | .int z _ => decide (col < z) | _ => false) (fun v y => y = v) F₅ rfl rfl rfl (by decide) rfl (by decide) rfl (fun _ => rfl) r₁.hh (by omega) ?_ ?_ ?_ ?_
    · walk_at "nm"
      exact ⟨_, _, _, rfl, rfl, Ext.refl _, hv, Nat.le_refl _⟩
    · intro C v h₆ k₆ E₂ hC hvm hva x₆
      obtain ⟨n, tn, rfl, hn⟩ := intsAre_mem hvi v hvm
      have F₆ := F₅.ext x₆
      refine t_one (r_test (r_name rfl hva (r_name rfl ((F₆.var (x := "column") (by walk_at "mem")).comp rfl rfl rfl) (r_gt ⟨_, rfl, _, _, rfl, Ext.refl _, rfl⟩))))
    · intro C v h₆ k₆ E₂ hC hvm hp hva x₆
      exact r_name rfl hva ⟨_, _, rfl, Ext.refl _, rfl⟩
    · intro D h₆ k₆ ys hD hpl hF F₆ o₆
      replace F₆ : Frm h (callEnvC (fdAt 109) L 109) (L + 2) h₆ [("later", .ref D), ("sign", .str (S [c]) u), ("column", .int col tm), ("lead", .str (S X) t), ("marks", .ref l)] := F₆
      have hys := paired_eq hF
      subst hys
      have hil := intsAre_filter (fun z => decide (col < z)) hvi
      have hIL : IL h₆ D (ms.filter fun z => decide (col < z)) := ⟨_, plain_list hpl, hil⟩
      replace st₄ : St (i + 1) h₆ := W.frame _ _ _ st₄ fun b hb o e => o₆ b o (.inr (by simp at hb; subst hb; exact hI)) e
      as_aux_lemma =>
      refine s_set F₆ (.inr ⟨rfl, rfl⟩) rfl (hidQ fun Q₂ hQ₂ => r_ife ?_)
      refine cut (fun b h' => b = decide (c = 9 ∧ ms.filter (fun z => decide (col < z)) ≠ [])) (r_and (r_test ?_)) ?_
      · walk_at "nm"
        refine r_lit [9] (by decide +kernel) fun t₃ k₈ => r_eqS ⟨_, rfl, ⟨fun hf => ⟨_, _, rfl, Ext.refl _, ?_⟩, fun ht => ?_⟩⟩
        · have : c ≠ 9 := by simpa using hf
          simp [this]
        · have hc9 : c = 9 := by simpa using ht
          refine r_test ?_
          walk_at "nm"
          refine r_list (a_nil ⟨_, _, rfl, by simp, r_neI r₁.units (hIL.ext (Ext.push _ _)) (IL.nil_push _) ⟨_, rfl, _, _, rfl, Ext.push _ _, ?_⟩⟩)
          by_cases e : ms.filter (fun z => decide (col < z)) = []
          · rw [decide_eq_true e, decide_eq_false (fun q => q.2 e)]; rfl
          · rw [decide_eq_false e, decide_eq_true ⟨hc9, e⟩]; rfl
      · rintro b h₇ k₇ x₇ rfl
        have F₇ := F₆.ext x₇
        have hst : walkF ms X = (X.drop (i + 1)).foldl (walkStep ms) (walkStep ms col c) := by
          have hi' : i < X.length := hi
          rw [← hm3, List.drop_eq_getElem_cons hi']
          have : X[i] = c := by rw [List.getElem?_eq_getElem hi'] at hc; injection hc
          rw [this]; rfl
        have key : ∀ (z : Int) tz, z = walkStep ms col c → ∀ h₈ k₈, Frm h (callEnvC (fdAt 109) L 109) (L + 2) h₈ [("column", .int z tz), ("later", .ref D), ("sign", .str (S [c]) u), ("lead", .str (S X) t), ("marks", .ref l)] → Out (callEnvC (fdAt 109) L 109).locals (L + 2) h₇ h₈ →
            wpAny (model prog w) A' (execs [] (callEnvC (fdAt 109) L 109)) Q₁ E' ⟨h₈, gs, d, k₈, os⟩ := by
          intro z tz hz h₈ k₈ F₈ o₈
          refine s_nil (hQ₁ _ _ ⟨_, _, rfl, ⟨z, tz, F₈.sub (by walk_at "sub"), by rw [hz]; exact hst.symm⟩, W.frame _ _ _ st₄ fun b hb o e => o₈ b o (.inr (by simp at hb; subst hb; exact hI)) (x₇ b o e)⟩)
        refine ⟨fun hb => ?_, fun hb => ?_⟩
        · obtain ⟨hc9, hne⟩ := of_decide_eq_true hb
          obtain ⟨z, zs, hzz⟩ := List.exists_cons_of_ne_nil hne
          have hil' := hil
          rw [hzz] at hil'
          obtain ⟨vs', hvs'⟩ : ∃ vs', vs' = vs.filter fun v => match v with | .int z _ => decide (col < z) | _ => false := ⟨_, rfl⟩
          rw [← hvs'] at hil' hpl
          cases hil' with
          | cons _ tz rr =>
          refine r_itemL ?_
          walk_at "nm"
          refine r_int fun t₃ k₈ => ⟨D, _, 0, _, _, rfl, rfl, isList_ext (plain_list hpl) x₇, by omega, rfl, hQ₂ _ _ ⟨_, _, rfl, x₇, fun h₈ k₉ F₈ o₈ => key z tz ?_ h₈ k₉ F₈ o₈⟩⟩
          rw [walkStep, if_pos hc9, hzz]
        · have hn := of_decide_eq_false hb
          refine r_binop ?_
          walk_at "nm"
          refine r_int fun t₃ k₈ => r_add fun t₄ k₉ => hQ₂ _ _ ⟨_, _, rfl, x₇, fun h₈ k₁₀ F₈ o₈ => key _ _ ?_ h₈ k₁₀ F₈ o₈⟩
          unfold walkStep
          by_cases hc9 : c = 9
          · have : ms.filter (fun z => decide (col < z)) = [] := by
              by_cases e : ms.filter (fun z => decide (col < z)) = []
              · exact e
              · exact absurd ⟨hc9, e⟩ hn
            rw [if_pos hc9, this]
          · rw [if_neg hc9]
  · rintro h₃ h₄ ⟨col, tm, F₃, hm3⟩ hk₄
    have F₄ := F₃.low (fun b o hb e => hk₄ b o (by simp; exact Nat.ne_of_lt (Nat.lt_of_lt_of_le hb hI)) e)
    rw [List.drop_of_length_le (Nat.le_refl _)] at hm3
    have : col = walkF ms X := hm3
    subst this
    exact ⟨tm, F₄.sub (by walk_at "sub")⟩
  · rintro h₃ k₄ ⟨tm, F₃⟩
    refine s_ret ?_
    walk_at "nm"
    exact hQ₀ _ _ (H _ _ _ F₃.ok.keep)

/- C7 -/
section
variable {prog : Program} {w : World} {A : Around} {E : Value → Shared → Prop} {env : Env} {h : Heap} {gs : Array GenState} {d : Drawn} {k : Nat} {os : OsState} {Q : Value → Shared → Prop}
theorem r_mulR {a b : Int} {t u : Tok} (h1 : -(2 ^ 64) < b) (h2 : b < 2 ^ 64) (H : ∀ t' k', Q (.int (a * b) t') ⟨h, gs, d, k', os⟩) : wpAny (model prog w) A (binaryOp .Mult (.int a t) (.int b u)) Q E ⟨h, gs, d, k, os⟩ :=
  r_mul H (IntMulOk.of_right (intBits_le_64 h1 h2))
/-- `range(b)` and its iterator, as a comprehension or a loop needs it -/
theorem r_rangeIt {b : Nat} {u : Tok} (hb : b < 1000000) (hh : A.handled = none)
    (H : ∀ h' k' I St, Ext h h' → h.objs.size ≤ I → I < h'.objs.size → Walks prog w A I [I] [I] b (fun i v => ∃ t, v = .int ((0 + i : Nat) : Int) t) St → St 0 h' → Q (.ref I) ⟨h', gs, d, k', os⟩) :
    wpAny (model prog w) A (call (.type "range") [.int (b : Int) u]) (fun xv s₁ => wpAny (model prog w) A (pyIter xv) Q E s₁) E ⟨h, gs, d, k, os⟩ := by
  refine r_range1 fun k' t v => ?_
  have hr : IsRange (h.push { cls := .type "range", data := .fields #[.int 0 t, .int (b : Int) u, .int 1 v] }) h.objs.size ((0 : Nat) : Int) (b : Int) 1 t u v := Heap.get?_push_size _ rfl
  refine r_iterR (by omega) hb hr fun o St hW hStz st => ?_
  have e : (h.push { cls := .type "range", data := .fields #[.int 0 t, .int (b : Int) u, .int 1 v] }).objs.size = h.objs.size + 1 := Heap.size_push ..
  exact H _ _ _ St ((Ext.push _ _).trans (Ext.push _ _)) (by rw [e]; exact Nat.le_succ _) (Nat.lt_of_lt_of_eq (Nat.lt_succ_self _) (Heap.size_push ..).symm) (hW A hh) st
end

noncomputable def evenStep (cs : List Nat) (c : Nat) : List Nat := (List.range' 0 8).map fun k => if c = 32 then cs.getD k 0 + 1 else (cs.getD k 0 / (k + 1) + 1) * (k + 1)
noncomputable def evenF (X : List Nat) : List Nat := X.foldl evenStep [0, 0, 0, 0, 0, 0, 0, 0]
theorem evenStep_length (cs : List Nat) (c : Nat) : (evenStep cs c).length = 8 := by simp [evenStep]
theorem filter_true {α : Type} (l : List α) : l.filter (fun _ => true) = l := by simp

theorem even_spec {prog : Program} {w : World} {A : Around} {h : Heap} {gs : Array GenState} {d : Drawn} {k : Nat} {os : OsState} (r : Rm A 1) (cx : Cx w h) (X : List Nat) (t : Tok) (hX : X.length ≤ 100)
    {R : Result → Shared → Prop} (H : ∀ h' k' D, Ext h h' → IL h' D (zs (evenF X)) → R (.ok (.ret (.ref D))) ⟨h', gs, d, k', os⟩) :
    codeAny (model prog w) A (.call (.ref 114) ⟨[.str (S X) t], []⟩) R ⟨h, gs, d, k, os⟩ := by
  refine enterF (fd := fdAt 114) (n := 0) [("lead", .str (S X) t)] ["lead"] r cx rfl rfl rfl rfl rfl rfl rfl rfl (by decide) (fun h₁ k₁ F c₁ r₁ E => ?_) rfl rfl rfl
  change Frm h (callEnvC (fdAt 114) h.objs.size 114) (h.objs.size + 3) h₁ _ at F
  generalize hA : A.deeper (callEnvC (fdAt 114) h.objs.size 114) = A' at r₁ ⊢
  clear hA
  generalize h.objs.size = L at *
  as_aux_lemma =>
  refine hidQ fun Q₀ hQ₀ => ?_
  refine s_set F (.inr ⟨rfl, rfl⟩) rfl (r_list (a_cons rfl (r_int fun t1 _ => a_cons rfl (r_int fun t2 _ => a_cons rfl (r_int fun t3 _ => a_cons rfl (r_int fun t4 _ => a_cons rfl (r_int fun t5 _ => a_cons rfl (r_int fun t6 _ => a_cons rfl (r_int fun t7 _ => a_cons rfl (r_int fun t8 _ => a_nil
    ⟨_, _, rfl, by simp, _, _, rfl, Ext.push _ _, fun h₂ k₃ F₂ o₂ => ?_⟩))))))))))
  have hil0 : IL h₂ h₁.objs.size (zs [0, 0, 0, 0, 0, 0, 0, 0]) := by
    refine IL.at (h := h₁.push (listO _)) ⟨_, isList_push _ _, ?_⟩ (fun o e => o₂ _ o (.inr F.ok.size) e)
    exact .cons _ _ (.cons _ _ (.cons _ _ (.cons _ _ (.cons _ _ (.cons _ _ (.cons _ _ (.cons _ _ .nil)))))))
  replace F₂ : Frm h (callEnvC (fdAt 114) L 114) (L + 3) h₂ [("columns", .ref h₁.objs.size), ("lead", .str (S X) t)] := F₂
  refine s_for (fun _ => rfl) ?_
  walk_at "nm"
  refine r_iterS fun o St hW hStz st => ?_
  have W := hW A' r₁.hh
  have hI := F₂.ok.size
  have hIL := hil0.lt
  refine s_forP W (fun i h' => ∃ (cs : List Nat) (D : Addr), Frm h (callEnvC (fdAt 114) L 114) (L + 3) h' [("columns", .ref D), ("lead", .str (S X) t)] ∧ IL h' D (zs cs) ∧ L + 3 ≤ D ∧ D ≠ h₂.objs.size ∧ cs.length = 8 ∧ (X.drop i).foldl evenStep cs = evenF X)
    (fun h' => ∃ D, Frm h (callEnvC (fdAt 114) L 114) (L + 3) h' [("columns", .ref D)] ∧ IL h' D (zs (evenF X)))
    ⟨_, _, F₂.ext (Ext.push _ _), hil0.ext (Ext.push _ _), F.ok.size, Nat.ne_of_lt hIL, rfl, rfl⟩ st (fun _ => rfl) ?_ ?_ ?_
  · rintro i h₃ k₄ v h₄ E' hi ⟨cs, D, F₃, hl3, hD, hDne, hcs, hm3⟩ st₄ ⟨c, u, hc, rfl⟩ hk₄
    have F₄ := F₃.low (fun b o hb e => hk₄ b o (by simp; exact Nat.ne_of_lt (Nat.lt_of_lt_of_le hb hI)) e)
    have hl4 : IL h₄ D (zs cs) := hl3.at fun o e => hk₄ _ o (by simpa using hDne) e
    refine s_assign (.inr ⟨rfl, rfl⟩) F₄ fun h₅ k₅ F₅ o₅ => hidQ fun Q₁ hQ₁ => ?_
    as_aux_lemma =>
    replace F₅ : Frm h (callEnvC (fdAt 114) L 114) (L + 3) h₅ [("sign", .str (S [c]) u), ("columns", .ref D), ("lead", .str (S X) t)] := F₅
    have st₅ : St (i + 1) h₅ := W.frame _ _ _ st₄ fun b hb o e => o₅ b o (.inr (by simp at hb; subst hb; exact hI)) e
    have hl5 : IL h₅ D (zs cs) := hl4.at fun o e => o₅ _ o (.inr hD) e
    have hIs : h₂.objs.size < h₅.objs.size := hStz _ _ st₅
    obtain ⟨vs, hv, hvi⟩ := hl5
    have c₅ := cx.ext F₅.ok.keep
    refine s_set F₅ (.inr ⟨rfl, rfl⟩) rfl (r_compN (a := 0) (n := 8) (fun _ => true) (fun i y => ∃ t, y = .int ((if c = 32 then cs.getD i 0 + 1 else (cs.getD i 0 / (i + 1) + 1) * (i + 1) : Nat) : Int) t) rfl (by decide) rfl (by decide) rfl (fun _ => rfl) (by omega) ?_ ?_ ?_ ?_)
    · refine r_call1t c₅ rfl boot_range (by decide) rfl rfl rfl rfl (by decide) rfl (r_int fun t₂ k₆ => ?_)
      exact r_rangeIt (b := 8) (by omega) r₁.hh fun h' k' I St x₆ hI hI2 W st => ⟨_, _, I, St, rfl, rfl, x₆, hI, hI2, W, st⟩
    · intro C j h₆ k₆ E₂ tj hC _ hj hva x₆
      exact t_nil ⟨_, _, rfl, Ext.refl _, rfl⟩
    · intro C j h₆ k₆ E₂ tj hC _ hj _ hva x₆
      have F₆ := F₅.ext x₆
      have hjc : j < cs.length := by omega
      obtain ⟨tc, hvc⟩ := intsAre_get hvi (i := j) (by rw [zs_length]; exact hjc)
      have hzc : (zs cs)[j]'(by rw [zs_length]; exact hjc) = ((cs.getD j 0 : Nat) : Int) := by simp [zs, List.getD_eq_getElem?_getD, List.getElem?_eq_getElem hjc]
      rw [hzc] at hvc
      refine r_ife (r_test (r_name rfl ((F₆.var (x := "sign") (by walk_at "mem")).comp rfl rfl rfl) (r_lit [32] (by decide +kernel) fun t₃ k₈ => r_eqS ⟨_, rfl, fun hb => ?_, fun hb => ?_⟩)))
      · have hc' : c = 32 := by simpa using hb
        refine r_binop (r_itemL (r_name rfl ((F₆.var (x := "columns") (by walk_at "mem")).comp rfl rfl rfl) (r_name rfl hva ⟨D, vs, j, _, _, rfl, rfl, isList_ext hv x₆, by omega, hvc, ?_⟩)))
        refine r_int fun t₄ k₉ => r_add fun t₅ k₁₀ => ⟨_, _, rfl, Ext.refl _, t₅, ?_⟩
        rw [if_pos hc']; rfl
      · have hc' : c ≠ 32 := by simpa using hb
        refine r_binop (r_binop (r_binop (r_itemL (r_name rfl ((F₆.var (x := "columns") (by walk_at "mem")).comp rfl rfl rfl) (r_name rfl hva ⟨D, vs, j, _, _, rfl, rfl, isList_ext hv x₆, by omega, hvc, ?_⟩)))))
        refine r_binop (r_name rfl hva (r_int fun t₄ k₉ => r_add fun t₅ k₁₀ => r_div (by omega) (by omega) fun t₆ k₁₁ => r_int fun t₇ k₁₂ => r_add fun t₈ k₁₃ => r_binop (r_name rfl hva (r_int fun t₉ k₁₄ => r_add fun t₁₀ k₁₅ => r_mulR (by omega) (by omega) fun t₁₁ k₁₆ => ⟨_, _, rfl, Ext.refl _, t₁₁, ?_⟩))))
        rw [if_neg hc']
        have hdv : Int.fdiv ((cs.getD j 0 : Nat) : Int) ((j : Int) + 1) = ((cs.getD j 0 / (j + 1) : Nat) : Int) := by
          rw [Int.fdiv_eq_ediv_of_nonneg _ (by omega)]
          exact (Int.natCast_ediv _ _).symm
        rw [hdv, Int.natCast_mul, Int.natCast_add, Int.natCast_add]
        rfl
    · intro D' h₆ k₆ ys hD' x₆ hpl hF
      rw [filter_true] at hF
      have hil : IL h₆ D' (zs (evenStep cs c)) := ⟨ys, plain_list hpl, by
        have := paired_ints hF
        have e : (List.range' 0 8).map (fun i => (((if c = 32 then cs.getD i 0 + 1 else (cs.getD i 0 / (i + 1) + 1) * (i + 1) : Nat)) : Int)) = zs (evenStep cs c) := by
          unfold zs evenStep
          rw [List.map_map]; rfl
        rw [← e]; exact this⟩
      refine ⟨_, _, rfl, x₆, fun h₇ k₇ F₇ o₇ => s_nil (hQ₁ _ _ ⟨_, _, rfl, ⟨evenStep cs c, D', F₇.sub (by walk_at "sub"), hil.at fun o e => o₇ _ o (.inr (Nat.le_trans F₅.ok.size hD')) e, Nat.le_trans F₅.ok.size hD', Nat.ne_of_gt (Nat.lt_of_lt_of_le hIs hD'), evenStep_length _ _, ?_⟩, ?_⟩)⟩
      · have hi' : i < X.length := hi
        rw [← hm3, List.drop_eq_getElem_cons hi']
        have : X[i] = c := by rw [List.getElem?_eq_getElem hi'] at hc; injection hc
        rw [this]; rfl
      · exact W.frame _ _ _ st₅ fun b hb o e => o₇ b o (.inr (by simp at hb; subst hb; exact hI)) (x₆ b o e)
  · rintro h₃ h₄ ⟨cs, D, F₃, hl3, hD, hDne, hcs, hm3⟩ hk₄
    have F₄ := F₃.low (fun b o hb e => hk₄ b o (by simp; exact Nat.ne_of_lt (Nat.lt_of_lt_of_le hb hI)) e)
    rw [List.drop_of_length_le (Nat.le_refl _)] at hm3
    have : cs = evenF X := hm3
    subst this
    exact ⟨D, F₄.sub (by walk_at "sub"), hl3.at fun o e => hk₄ _ o (by simpa using hDne) e⟩
  · rintro h₃ k₄ ⟨D, F₃, hl3⟩
    refine s_ret ?_
    walk_at "nm"
    exact hQ₀ _ _ (H _ _ _ F₃.ok.keep hl3)

/- C8 -/
noncomputable def cutL {α : Type} (ns : List α) (lo hi : Option Int) : List α := (ns.drop (lo.elim 0 (clipAt ns.length))).take (hi.elim ns.length (clipAt ns.length) - lo.elim 0 (clipAt ns.length))
theorem intsAre_drop : ∀ {vs : List Value} {ns : List Int}, IntsAre vs ns → ∀ j, IntsAre (vs.drop j) (ns.drop j)
  | _, _, .nil, j => by simp; exact .nil
  | _, _, .cons n u r, 0 => .cons n u r
  | _, _, .cons n u r, j + 1 => intsAre_drop r j
theorem intsAre_take : ∀ {vs : List Value} {ns : List Int}, IntsAre vs ns → ∀ j, IntsAre (vs.take j) (ns.take j)
  | _, _, .nil, j => by simp; exact .nil
  | _, _, .cons n u r, 0 => .nil
  | _, _, .cons n u r, j + 1 => .cons n u (intsAre_take r j)
theorem intsAre_cut {vs : List Value} {ns : List Int} (a : IntsAre vs ns) (lo hi : Option Int) : IntsAre (cutL vs lo hi) (cutL ns lo hi) := by
  unfold cutL
  rw [a.length]
  exact intsAre_take (intsAre_drop a _) _

section
variable {prog : Program} {w : World} {A : Around} {E : Value → Shared → Prop} {env : Env} {h : Heap} {gs : Array GenState} {d : Drawn} {k : Nat} {os : OsState} {Q : Value → Shared → Prop}
theorem r_slL {value : PySem.Expr} {lower upper : Option PySem.Expr} {p pos : Pos}
    (H : wpAny (model prog w) A (eval value env) (fun o s₁ => wpAny (model prog w) A (evalPart lower env) (fun vl s₂ => wpAny (model prog w) A (evalPart upper env) (fun vu s₃ =>
      ∃ l vs lo hi h₃ k₃, s₃ = ⟨h₃, gs, d, k₃, os⟩ ∧ o = .ref l ∧ h₃.IsList l vs.toArray ∧ vs.length ≤ 1000 ∧ IsPart vl lo ∧ IsPart vu hi ∧
        ∀ h' D, Ext h₃ h' → h₃.objs.size ≤ D → h'.get? D = some (listO (cutL vs lo hi)) → Q (.ref D) ⟨h', gs, d, k₃, os⟩) E s₂) E s₁) E ⟨h, gs, d, k, os⟩)
    (ht : ∀ o r, letTemporaryGo value o r = pure () := by intro _ _; rfl) :
    wpAny (model prog w) A (eval (.Subscript value (.Slice lower upper none p) pos) env) Q E ⟨h, gs, d, k, os⟩ := by
  refine wpAny_Subscript_list_slice (wpAny_mono H (fun o s₁ h₁ => wpAny_mono h₁ (fun vl s₂ h₂ => wpAny_mono h₂ (fun vu s₃ h₃ => ?_) fun _ _ e => e) fun _ _ e => e) fun _ _ e => e) ht
  obtain ⟨l, vs, lo, hi, h₃, k₃, rfl, rfl, hl, hsz, pl, pu, hQ⟩ := h₃
  refine ⟨l, vs.toArray, lo, hi, rfl, hl, by rw [List.size_toArray, sizeLine_eq]; omega, pl, pu, hQ _ _ ((Ext.push _ _).trans (Ext.push _ _)) (Nat.le_succ _) ?_⟩
  have e1 := Heap.get?_push_size (h₃.push { cls := .type "slice", data := .fields #[vl, vu, .none] }) (o := { cls := .type "list", data := .seq (slicePick vs.toArray lo hi none) }) rfl
  rw [Heap.size_push] at e1
  have e2 : slicePick vs.toArray lo hi none = (cutL vs lo hi).toArray := by
    rw [slicePick_plain, List.size_toArray]; rfl
  rw [e1, e2]
theorem e_some {e : PySem.Expr} {s : Shared} (H : wpAny (model prog w) A (eval e env) Q E s) : wpAny (model prog w) A (evalPart (some e) env) Q E s := wpAny_evalPart_some H
theorem e_none {s : Shared} (H : Q .none s) : wpAny (model prog w) A (evalPart none env) Q E s := wpAny_evalPart_none H
theorem il_of {D : Addr} {vs : List Value} {ns : List Int} (e : h.get? D = some (listO vs)) (a : IntsAre vs ns) : IL h D ns := ⟨vs, ⟨_, e, rfl, _, rfl⟩, a⟩
theorem r_itemS {value slice : PySem.Expr} {pos : Pos}
    (H : wpAny (model prog w) A (eval value env) (fun o s₁ => wpAny (model prog w) A (eval slice env) (fun i s₂ => ∃ (l : List Nat) (t : Tok) (j : Nat) (u : Tok) (c : Nat) (h₂ : Heap) (k₂ : Nat), s₂ = ⟨h₂, gs, d, k₂, os⟩ ∧ o = .str (S l) t ∧ i = .int (j : Int) u ∧ j < 100000 ∧ l[j]? = some c ∧ ∀ t' k', Q (.str (S [c]) t') ⟨h₂, gs, d, k', os⟩) E s₁) E ⟨h, gs, d, k, os⟩)
    (hs : ∀ (l : Str) (t : Tok) (j : Int) (u : Tok), subscripted slice false (.str l t) (.int j u) = operate [.str l t, .int j u] (getItem (.str l t) (.int j u)) := by intros; with_unfolding_all rfl) :
    wpAny (model prog w) A (eval (.Subscript value slice pos) env) Q E ⟨h, gs, d, k, os⟩ :=
  Subscript_ (wpAny_mono H (fun o s₁ h₁ => wpAny_mono h₁ (fun i s₂ h₂ => by
    obtain ⟨l, t, j, u, c, h₂, k₂, rfl, rfl, rfl, hj, hx, q⟩ := h₂
    refine tail_any (typeIs_str _ _ t) slot_str_getitem.lookup (PyProof.Rows.getItem_str (c := c) (by simp; omega) ?_ (q _ _)) (hs _ _ _ _)
    rw [S_length]
    have hjl := (List.getElem?_eq_some_iff.mp hx).1
    have e : seqIndex? (j : Int) l.length = some j := by unfold seqIndex?; simp; omega
    rw [e]
    simpa [S] using hx) fun _ _ e => e) fun _ _ e => e)
end
theorem boot_sum : bootBuiltins "sum" = some (.builtin "sum") := by decide +kernel

noncomputable def ownMarks (X : List Nat) : List Nat := ((List.range' 0 X.length).filter (fun k => decide (X.getD k 0 = 9))).map (· + 1) ++ [X.length + 1]
noncomputable def ownF (X : List Nat) : List Int := (List.range' 0 (ownMarks X).length).map fun k => ((ownMarks X).getD k 0 : Int) - (cutL (zs (ownMarks X)) (some ((k : Int) - 1)) (some (k : Int))).sum
theorem ownMarks_length (X : List Nat) : (ownMarks X).length ≤ X.length + 1 := by
  unfold ownMarks
  rw [List.length_append, List.length_map, List.length_singleton]
  have := List.length_filter_le (fun k => decide (X.getD k 0 = 9)) (List.range' 0 X.length)
  rw [List.length_range'] at this
  omega

theorem own_spec {prog : Program} {w : World} {A : Around} {h : Heap} {gs : Array GenState} {d : Drawn} {k : Nat} {os : OsState} (r : Rm A 1) (cx : Cx w h) (X : List Nat) (t : Tok) (hX : X.length ≤ 100)
    {R : Result → Shared → Prop} (H : ∀ h' k' D, Ext h h' → IL h' D (ownF X) → R (.ok (.ret (.ref D))) ⟨h', gs, d, k', os⟩) :
    codeAny (model prog w) A (.call (.ref 126) ⟨[.str (S X) t], []⟩) R ⟨h, gs, d, k, os⟩ := by
  refine enterF (fd := fdAt 126) (n := 0) [("lead", .str (S X) t)] ["lead"] r cx rfl rfl rfl rfl rfl rfl rfl rfl (by decide) (fun h₁ k₁ F c₁ r₁ E => ?_) rfl rfl rfl
  change Frm h (callEnvC (fdAt 126) h.objs.size 126) (h.objs.size + 3) h₁ _ at F
  generalize hA : A.deeper (callEnvC (fdAt 126) h.objs.size 126) = A' at r₁ ⊢
  refine s_set F (.inr ⟨rfl, rfl⟩) rfl (r_binop (r_compN (a := 0) (n := X.length) (fun i => decide (X.getD i 0 = 9)) (fun i y => ∃ t, y = .int ((i : Int) + 1) t) rfl (by decide) rfl (by decide) rfl (fun _ => rfl) (by omega) ?_ ?_ ?_ ?_))
  · refine r_call1t c₁ rfl boot_range (by decide) rfl rfl rfl rfl (by decide) rfl (r_call1b c₁ (g_len w) boot_len (by decide) rfl rfl rfl rfl (by decide) rfl ?_)
    walk_at "nm"
    refine r_lenS (by omega) fun t₂ k₆ => ?_
    exact r_rangeIt (by omega) r₁.hh fun h' k' I St x₆ hI hI2 W st => ⟨_, _, I, St, rfl, rfl, x₆, hI, hI2, W, st⟩
  · intro C j h₆ k₆ E₂ tj hC _ hj hva x₆
    have F₆ := F.ext x₆
    have hj' : j < X.length := by omega
    have e : X.getD j 0 = X[j] := by simp [List.getD_eq_getElem?_getD, List.getElem?_eq_getElem hj']
    refine t_one (r_test (r_itemS (r_name rfl ((F₆.var (x := "lead") (by walk_at "mem")).comp rfl rfl rfl) (r_name rfl hva ⟨X, _, j, _, X[j], _, _, rfl, rfl, rfl, by omega, List.getElem?_eq_getElem hj', fun t₂ k₇ => ?_⟩))))
    refine r_lit [9] (by decide +kernel) fun t₃ k₈ => r_eqS ⟨_, rfl, _, _, rfl, Ext.refl _, ?_⟩
    rw [e]; simp
  · intro C j h₆ k₆ E₂ tj hC _ hj _ hva x₆
    exact r_binop (r_name rfl hva (r_int fun t₄ k₉ => r_add fun t₅ k₁₀ => ⟨_, _, rfl, Ext.refl _, t₅, rfl⟩))
  · intro D h₂ k₂ ys hD x₂ hpl hF
    have F₂ := F.ext x₂
    have c₂ := c₁.ext x₂
    have hl2 : IL h₂ D (((List.range' 0 X.length).filter (fun i => decide (X.getD i 0 = 9))).map fun i : Nat => (i : Int) + 1) := ⟨ys, plain_list hpl, paired_ints hF⟩
    refine r_list (a_cons rfl (r_binop (r_call1b c₂ (g_len w) boot_len (by decide) rfl rfl rfl rfl (by decide) rfl ?_)))
    walk_at "nm"
    refine r_lenS (by omega) fun t₂ k₃ => r_int fun t₃ k₄ => r_add fun t₄ k₅ => a_nil ⟨_, _, rfl, by simp, ?_⟩
    have hln : (((List.range' 0 X.length).filter (fun i => decide (X.getD i 0 = 9))).map fun i : Nat => (i : Int) + 1).length ≤ X.length := by
      rw [List.length_map]
      have := List.length_filter_le (fun k => decide (X.getD k 0 = 9)) (List.range' 0 X.length)
      rwa [List.length_range'] at this
    refine r_addI (hl2.ext (Ext.push _ _)) (IL.one_push _ _ _) (by rw [List.length_singleton]; omega) fun h₃ x₃ hl3 => ⟨_, _, rfl, (x₂.trans (Ext.push _ _)).trans x₃, fun h₄ k₆ F₄ o₄ => ?_⟩
    generalize hM : (h₂.push (listO [.int ((X.length : Int) + 1) t₄])).objs.size = M at *
    have hMle : h.objs.size + 3 ≤ M := by
      rw [← hM, Heap.size_push]
      exact Nat.le_succ_of_le F₂.ok.size
    replace F₄ : Frm h (callEnvC (fdAt 126) h.objs.size 126) (h.objs.size + 3) h₄ [("marks", .ref M), ("lead", .str (S X) t)] := F₄
    have hz : (((List.range' 0 X.length).filter (fun i => decide (X.getD i 0 = 9))).map fun i : Nat => (i : Int) + 1) ++ [(X.length : Int) + 1] = zs (ownMarks X) := by
      unfold zs ownMarks
      rw [List.map_append, List.map_map]
      rfl
    rw [hz] at hl3
    have hl4 : IL h₄ M (zs (ownMarks X)) := hl3.at fun o e => o₄ _ o (.inr hMle) e
    have c₄ := cx.ext F₄.ok.keep
    have hol := ownMarks_length X
    obtain ⟨vs, hv, hvi⟩ := id hl4
    have hvl := hvi.length
    rw [zs_length] at hvl
    refine s_ret (r_compN (a := 0) (n := (ownMarks X).length) (fun _ => true) (fun i y => ∃ t, y = .int (((ownMarks X).getD i 0 : Int) - (cutL (zs (ownMarks X)) (some ((i : Int) - 1)) (some (i : Int))).sum) t) rfl (by decide) rfl (by decide) rfl (fun _ => rfl) (by omega) ?_ ?_ ?_ ?_)
    · refine r_call1t c₄ rfl boot_range (by decide) rfl rfl rfl rfl (by decide) rfl (r_call1b c₄ (g_len w) boot_len (by decide) rfl rfl rfl rfl (by decide) rfl ?_)
      walk_at "nm"
      refine r_lenI hl4 (by rw [zs_length]; omega) fun t₂ k₆ => ?_
      rw [zs_length]
      exact r_rangeIt (by omega) r₁.hh fun h' k' I St x₆ hI hI2 W st => ⟨_, _, I, St, rfl, rfl, x₆, hI, hI2, W, st⟩
    · intro C j h₆ k₆ E₂ tj hC _ hj hva x₆
      exact t_nil ⟨_, _, rfl, Ext.refl _, rfl⟩
    · intro C j h₆ k₆ E₂ tj hC _ hj _ hva x₆
      have F₆ := F₄.ext x₆
      have c₆ := c₄.ext x₆
      have hjc : j < (ownMarks X).length := by omega
      obtain ⟨tc, hvc⟩ := intsAre_get hvi (i := j) (by rw [zs_length]; exact hjc)
      have hzc : (zs (ownMarks X))[j]'(by rw [zs_length]; exact hjc) = (((ownMarks X).getD j 0 : Nat) : Int) := by simp [zs, List.getD_eq_getElem?_getD, List.getElem?_eq_getElem hjc]
      rw [hzc] at hvc
      refine r_binop (r_itemL (r_name rfl ((F₆.var (x := "marks") (by walk_at "mem")).comp rfl rfl rfl) (r_name rfl hva ⟨M, vs, j, _, _, rfl, rfl, isList_ext hv x₆, by omega, hvc, ?_⟩)))
      refine r_call1b c₆ rfl boot_sum (by decide) rfl rfl rfl rfl (by decide) rfl (r_slL (r_name rfl ((F₆.var (x := "marks") (by walk_at "mem")).comp rfl rfl rfl) (e_some (r_binop (r_name rfl hva (r_int fun t₃ k₇ => r_sub fun t₄ k₈ => e_some (r_name rfl hva ⟨M, vs, _, _, _, _, rfl, rfl, isList_ext hv x₆, by omega, .int _ _, .int _ _, fun h₇ D' x₇ hD' hg => ?_⟩)))))))
      refine r_sum r₁.hh (il_of hg (intsAre_cut hvi _ _)) fun h₈ k₉ t₅ x₈ => r_sub fun t₆ k₁₀ => ⟨_, _, rfl, x₇.trans x₈, t₆, rfl⟩
    · intro D' h₆ k₆ ys' hD' x₆ hpl' hF'
      rw [filter_true] at hF'
      exact H _ _ _ (F₄.ok.keep.trans x₆) ⟨ys', plain_list hpl', paired_ints hF'⟩

/- C9 -/
theorem cutL_length_le {α : Type} (l : List α) (lo hi : Option Int) : (cutL l lo hi).length ≤ l.length := by
  unfold cutL
  rw [List.length_take, List.length_drop]
  omega
theorem cutL_last {α : Type} (l : List α) : (cutL l (some (-1)) none).length ≤ 1 := by
  unfold cutL
  rw [List.length_take, List.length_drop]
  have := clipAt_neg l.length 1 (by omega)
  simp only [Option.elim]
  rw [show (-((1 : Nat) : Int)) = -1 by rfl] at this
  rw [this]
  omega
noncomputable def stops (z : Int) : Bool := [(0 : Int), 127].any (· == z)
noncomputable def endsF (ns : List Int) : List Nat := (List.range' 0 ns.length).filter (fun k => stops (ns.getD k 0)) ++ [ns.length]
noncomputable def end0 (ns : List Int) : Nat := (endsF ns).getD 0 0
noncomputable def rep (l : List Int) (n : Nat) : List Int := match l with | [x] => List.replicate n x | _ => []
noncomputable def gapsF (ns : List Int) (n : Nat) : List Int :=
  let g := cutL ns none (some (end0 ns : Int))
  if cutL ns (some (end0 ns : Int)) (some ((end0 ns : Int) + 1)) = [0] then g ++ rep (cutL g (some (-1)) none) n else g
noncomputable def marksF (ns : List Int) (n : Nat) : List Int := (List.range' 0 (min n (gapsF ns n).length)).map fun k : Nat => (cutL (gapsF ns n) none (some ((k : Int) + 1))).sum
theorem rep_length (l : List Int) (n : Nat) : (rep l n).length ≤ n := by
  unfold rep
  split
  · simp
  · simp
theorem gapsF_length (ns : List Int) (n : Nat) : (gapsF ns n).length ≤ ns.length + n := by
  unfold gapsF
  have h1 := cutL_length_le ns none (some (end0 ns : Int))
  have h2 := rep_length (cutL (cutL ns none (some (end0 ns : Int))) (some (-1)) none) n
  simp only
  split
  · rw [List.length_append]; omega
  · omega
theorem end0_le (ns : List Int) : end0 ns ≤ ns.length := by
  unfold end0 endsF
  cases e : (List.range' 0 ns.length).filter (fun k => stops (ns.getD k 0)) with
  | nil => simp
  | cons a r =>
    have : a ∈ (List.range' 0 ns.length).filter (fun k => stops (ns.getD k 0)) := by rw [e]; exact List.mem_cons_self
    have := (List.mem_filter.mp this).1
    simp at this
    simp; omega
theorem marksF_length (ns : List Int) (n : Nat) : (marksF ns n).length ≤ n := by
  unfold marksF
  rw [List.length_map, List.length_range']
  omega

section
variable {prog : Program} {w : World} {A : Around} {E : Value → Shared → Prop} {env : Env} {h : Heap} {gs : Array GenState} {d : Drawn} {k : Nat} {os : OsState} {Q : Value → Shared → Prop}
theorem r_compM {elt iter : PySem.Expr} {x : Str} {px : Pos} {ifs : List PySem.Expr} {scope : Scope} {cl : List (Str × Addr)} {pos : Pos} {a n : Nat} (pz : Nat → Bool) (Fe : Nat → Value → Prop)
    (hclos : closureFor scope env = pure cl) (hcell : ∀ y ∈ scope.names, y.2 ≠ .cell) (hkind : scope.kind = .function)
    (hnames : ∀ y ∈ scope.names, y.2 = .local → scope.names.lookup y.1 = some .local) (hx : scope.names.lookup x = some .local) (hs : ∀ x, foldedSetIterable iter env x = pure x) (hsz : n ≤ 10000)
    (H1 : wpAny (model prog w) A (eval iter env) (fun xv s₁ => wpAny (model prog w) A (pyIter xv) (fun it s₂ => ∃ h₂ k₂ I St, s₂ = ⟨h₂, gs, d, k₂, os⟩ ∧ it = .ref I ∧ Ext h h₂ ∧ (∀ b o, h.get? b = some o → b ≠ I) ∧ I < h₂.objs.size ∧
      Walks prog w A I [I] [I] n (fun i v => ∃ t, v = .int ((a + i : Nat) : Int) t) St ∧ St 0 h₂) E s₁) E ⟨h, gs, d, k, os⟩)
    (Ht : ∀ C i h₃ k₃ E' t, a ≤ i → i < a + n → VarAt (compEnvC scope cl C env) h₃ x (.int (i : Int) t) → Ext h h₃ →
      wpAny (model prog w) A (testsOf ifs (compEnvC scope cl C env)) (fun ok s₄ => ∃ h₄ k₄, s₄ = ⟨h₄, gs, d, k₄, os⟩ ∧ Ext h₃ h₄ ∧ ok = pz i) E' ⟨h₃, gs, d, k₃, os⟩)
    (He : ∀ C i h₃ k₃ E' t, a ≤ i → i < a + n → pz i = true → VarAt (compEnvC scope cl C env) h₃ x (.int (i : Int) t) → Ext h h₃ →
      wpAny (model prog w) A (eval elt (compEnvC scope cl C env)) (fun y s₄ => ∃ h₄ k₄, s₄ = ⟨h₄, gs, d, k₄, os⟩ ∧ Ext h₃ h₄ ∧ Fe i y) E' ⟨h₃, gs, d, k₃, os⟩)
    (K : ∀ D h' k' (ys : List Value), Ext h h' → h'.PlainList D ys.toArray → Paired Fe ((List.range' a n).filter pz) ys → Q (.ref D) ⟨h', gs, d, k', os⟩) :
    wpAny (model prog w) A (eval (.ListComp elt [⟨.Name x px, iter, ifs, 0⟩] scope pos) env) Q E ⟨h, gs, d, k, os⟩ := by
  refine r_compG (fun v => match v with | .int z _ => pz z.toNat | _ => false) (fun v y => ∃ (i : Nat) (t : Tok), v = .int (i : Int) t ∧ Fe i y) (· = gs) hclos hcell hkind hnames hx hs (wpAny_mono H1 (fun xv s₁ h₁ => wpAny_mono h₁ (fun it s₂ h₂ => ?_) fun _ _ e => e) fun _ _ e => e)
  obtain ⟨h₂, k₂, I, St, rfl, rfl, x₂, hI, hI2, W, st⟩ := h₂
  have hlt := hI
  have ex : ∀ {h₃ : Heap}, (∀ b o, b ≠ I → h₂.get? b = some o → h₃.get? b = some o) → Ext h h₃ := fun hk b o e => hk b o (hlt b o e) (x₂ b o e)
  have Wlt : ∀ i v, (∃ t, v = Value.int ((a + i : Nat) : Int) t) → True := fun _ _ _ => trivial
  -- the item's number lies in the range
  have W' : Walks prog w A I [I] [I] n (fun i v => i < n ∧ ∃ t, v = .int ((a + i : Nat) : Int) t) St :=
    ⟨W.sub, W.frame, fun i s Q E hi hs hQ => W.item i s Q E hi hs fun v h' tk hv => hQ v h' tk ⟨hi, hv⟩, W.done, W.self⟩
  refine ⟨h₂, k₂, gs, I, [I], n, _, St, rfl, rfl, W', hsz, st, fun b hb => by simp at hb; subst hb; exact hI2, rfl, ?_, ?_, ?_⟩
  · rintro C i v h₃ gs₃ k₃ E' hC ⟨hi, t, rfl⟩ hv hk rfl
    refine wpAny_mono (Ht C (a + i) h₃ k₃ E' t (by omega) (by omega) hv (ex hk)) (fun ok s₄ q => ?_) fun _ _ e => e
    obtain ⟨h₄, k₄, rfl, x₄, e⟩ := q
    refine ⟨h₄, k₄, _, rfl, x₄, rfl, ?_⟩
    rw [e]; show _ = pz ((a + i : Nat) : Int).toNat
    rw [show ((a + i : Nat) : Int).toNat = a + i by omega]
  · rintro C i v h₃ gs₃ k₃ E' hC ⟨hi, t, rfl⟩ hp hv hk rfl
    have hp' : pz (a + i) = true := by
      have : pz ((a + i : Nat) : Int).toNat = true := hp
      rwa [show ((a + i : Nat) : Int).toNat = a + i by omega] at this
    refine wpAny_mono (He C (a + i) h₃ k₃ E' t (by omega) (by omega) hp' hv (ex hk)) (fun ok s₄ q => ?_) fun _ _ e => e
    obtain ⟨h₄, k₄, rfl, x₄, e⟩ := q
    exact ⟨h₄, k₄, _, rfl, x₄, rfl, a + i, t, rfl, e⟩
  · rintro D h' k' gs' ys vs hD hl hlen hP hF hk rfl
    exact K D h' k' ys (ex hk) hl (paired_nat n a vs ys hlen (fun j v hj => (hP j v hj).2) hF)
end
inductive MarksI (h : Heap) (L : Nat) (n : Nat) (t : Tok) (ns : List Int) (h' : Heap) : Prop
  | mk (G' : Addr) (h1 : Frm h (callEnvC (fdAt 104) L 104) (L + 3) h' [("gaps", .ref G'), ("count", .int (n : Int) t)]) (h2 : IL h' G' (gapsF ns n))
theorem marks_spec {prog : Program} {w : World} {A : Around} {h : Heap} {gs : Array GenState} {d : Drawn} {k : Nat} {os : OsState} (r : Rm A 1) (cx : Cx w h) {l : Addr} {ns : List Int} (hl : IL h l ns) (n : Nat) (t : Tok) (hn : n ≤ 100) (hns : ns.length ≤ 100)
    {R : Result → Shared → Prop} (H : ∀ h' k' D, Ext h h' → IL h' D (marksF ns n) → R (.ok (.ret (.ref D))) ⟨h', gs, d, k', os⟩) :
    codeAny (model prog w) A (.call (.ref 104) ⟨[.ref l, .int (n : Int) t], []⟩) R ⟨h, gs, d, k, os⟩ := by
  refine enterF (fd := fdAt 104) (n := 0) [("sizes", .ref l), ("count", .int (n : Int) t)] ["sizes", "count"] r cx rfl rfl rfl rfl rfl rfl rfl rfl (by decide) (fun h₁ k₁ F c₁ r₁ E => ?_) rfl rfl rfl
  change Frm h (callEnvC (fdAt 104) h.objs.size 104) (h.objs.size + 3) h₁ _ at F
  generalize hA : A.deeper (callEnvC (fdAt 104) h.objs.size 104) = A' at r₁ ⊢
  clear hA
  generalize h.objs.size = L at *
  as_aux_lemma =>
  refine hidQ fun Q₀ hQ₀ => ?_
  obtain ⟨vs, hv0, hvi⟩ := id hl
  have hv := isList_ext hv0 F.ok.keep
  have hvl := hvi.length
  refine s_set F (.inl rfl) rfl (hidQ fun Q₁ hQ₁ => r_binop (r_compN (a := 0) (n := ns.length) (fun i => stops (ns.getD i 0)) (fun i y => ∃ t, y = .int (i : Int) t) rfl (by decide) rfl (by decide) rfl (fun _ => rfl) (by omega) ?_ ?_ ?_ ?_))
  · refine r_call1t c₁ rfl boot_range (by decide) rfl rfl rfl rfl (by decide) rfl (r_call1b c₁ (g_len w) boot_len (by decide) rfl rfl rfl rfl (by decide) rfl ?_)
    walk_at "nm"
    refine r_lenI (hl.ext F.ok.keep) (by omega) fun t₂ k₆ => ?_
    exact r_rangeIt (by omega) r₁.hh fun h' k' I St x₆ hI hI2 W st => ⟨_, _, I, St, rfl, rfl, x₆, hI, hI2, W, st⟩
  · intro C j h₆ k₆ E₂ tj hC _ hj hva x₆
    have F₆ := F.ext x₆
    have hj' : j < ns.length := by omega
    have e : ns.getD j 0 = ns[j] := by simp [List.getD_eq_getElem?_getD, List.getElem?_eq_getElem hj']
    obtain ⟨tc, hvc⟩ := intsAre_get hvi hj'
    refine t_one (r_test (r_itemL (r_name rfl ((F₆.var (x := "sizes") (by walk_at "mem")).comp rfl rfl rfl) (r_name rfl hva ⟨l, vs, j, _, _, rfl, rfl, isList_ext hv x₆, by omega, hvc, ?_⟩))))
    refine r_list (a_cons rfl (r_int fun t₃ k₈ => a_cons rfl (r_int fun t₄ k₉ => a_nil ⟨_, _, rfl, by simp, ?_⟩)))
    refine in_list_ints (isList_push _ _) (.cons 0 t₃ (.cons 127 t₄ .nil)) ⟨_, rfl, _, _, rfl, Ext.push _ _, ?_⟩
    rw [e]; rfl
  · intro C j h₆ k₆ E₂ tj hC _ hj _ hva x₆
    exact r_name rfl hva ⟨_, _, rfl, Ext.refl _, _, rfl⟩
  · intro D h₂ k₂ ys hD x₂ hpl hF
    have F₂ := F.ext x₂
    have c₂ := c₁.ext x₂
    have hl2 : IL h₂ D (((List.range' 0 ns.length).filter (fun i => stops (ns.getD i 0))).map fun i : Nat => (i : Int)) := ⟨ys, plain_list hpl, paired_ints hF⟩
    refine r_list (a_cons rfl (r_call1b c₂ (g_len w) boot_len (by decide) rfl rfl rfl rfl (by decide) rfl ?_))
    walk_at "nm"
    refine r_lenI (hl.ext F₂.ok.keep) (by omega) fun t₂ k₃ => a_nil ⟨_, _, rfl, by simp, ?_⟩
    have hln : (((List.range' 0 ns.length).filter (fun i => stops (ns.getD i 0))).map fun i : Nat => (i : Int)).length ≤ ns.length := by
      rw [List.length_map]
      have := List.length_filter_le (fun k => stops (ns.getD k 0)) (List.range' 0 ns.length)
      rwa [List.length_range'] at this
    refine r_addI (hl2.ext (Ext.push _ _)) (IL.one_push _ _ _) (by rw [List.length_singleton]; omega) fun h₃ x₃ hl3 => hQ₁ _ _ ⟨_, _, rfl, (x₂.trans (Ext.push _ _)).trans x₃, fun h₄ k₆ F₄ o₄ => ?_⟩
    clear hQ₁ Q₁
    generalize hM : (h₂.push (listO [.int (ns.length : Int) t₂])).objs.size = M at *
    have hMle : L + 3 ≤ M := by
      rw [← hM, Heap.size_push]
      exact Nat.le_succ_of_le F₂.ok.size
    replace F₄ : Frm h (callEnvC (fdAt 104) L 104) (L + 3) h₄ [("ends", .ref M), ("sizes", .ref l), ("count", .int (n : Int) t)] := F₄
    have hz : (((List.range' 0 ns.length).filter (fun i => stops (ns.getD i 0))).map fun i : Nat => (i : Int)) ++ [(ns.length : Int)] = zs (endsF ns) := by
      unfold zs endsF
      rw [List.map_append]
      rfl
    rw [hz] at hl3
    have hl4 : IL h₄ M (zs (endsF ns)) := hl3.at fun o e => o₄ _ o (.inr hMle) e
    obtain ⟨es, he, hei⟩ := hl4
    have h0l : 0 < (zs (endsF ns)).length := by rw [zs_length]; unfold endsF; simp
    obtain ⟨te, hve⟩ := intsAre_get hei h0l
    have hze : (zs (endsF ns))[0] = (end0 ns : Int) := by
      have h0 : 0 < (endsF ns).length := by rw [zs_length] at h0l; exact h0l
      unfold end0
      simp [zs, List.getD_eq_getElem?_getD, List.getElem?_eq_getElem h0]
    rw [hze] at hve
    have hle := end0_le ns
    clear hF hpl hl2 hln hM hl3
    as_aux_lemma =>
    refine s_set F₄ (.inr ⟨rfl, rfl⟩) rfl (hidQ fun Q₁ hQ₁ => r_slL ?_)
    walk_at "nm"
    refine e_none (e_some (r_itemL ?_))
    walk_at "nm"
    refine r_int fun t₃ k₇ => ⟨M, es, 0, _, _, rfl, rfl, he, by omega, hve, l, vs, _, _, _, _, rfl, rfl, isList_ext hv0 F₄.ok.keep, by omega, .none, .int _ _, fun h₅ G x₅ hG hg => hQ₁ _ _ ⟨_, _, rfl, x₅, fun h₆ k₈ F₆ o₆ => ?_⟩⟩
    clear hQ₁ Q₁
    have hGle : L + 3 ≤ G := Nat.le_trans F₄.ok.size hG
    have hg6 : h₆.get? G = some (listO (cutL vs none (some (end0 ns : Int)))) := o₆ _ _ (.inr hGle) hg
    have he6 : h₆.IsList M es.toArray := isList_at (isList_ext he x₅) fun o e => o₆ _ o (.inr hMle) e
    have hgi := intsAre_cut hvi none (some (end0 ns : Int))
    have hgl := cutL_length_le ns none (some (end0 ns : Int))
    have hgl2 := cutL_length_le vs none (some (end0 ns : Int))
    replace F₆ : Frm h (callEnvC (fdAt 104) L 104) (L + 3) h₆ [("gaps", .ref G), ("ends", .ref M), ("sizes", .ref l), ("count", .int (n : Int) t)] := F₆
    have c₆ := cx.ext F₆.ok.keep
    as_aux_lemma =>
    refine s_ifP (MarksI h L n t ns) (hidQ fun Q₁ hQ₁ => r_test (r_slL ?_)) ?_
    · walk_at "nm"
      refine e_some (r_itemL ?_)
      walk_at "nm"
      refine r_int fun t₄ k₉ => ⟨M, es, 0, _, _, rfl, rfl, he6, by omega, hve, e_some (r_binop (r_itemL ?_))⟩
      walk_at "nm"
      refine r_int fun t₅ k₁₀ => ⟨M, es, 0, _, _, rfl, rfl, he6, by omega, hve, r_int fun t₆ k₁₁ => r_add fun t₇ k₁₂ => ⟨l, vs, _, _, _, _, rfl, rfl, isList_ext hv0 F₆.ok.keep, by omega, .int _ _, .int _ _, fun h₇ D₇ x₇ hD₇ hg₇ => ?_⟩⟩
      refine r_list (a_cons rfl (r_int fun t₈ k₁₃ => a_nil ⟨_, _, rfl, by simp, ?_⟩))
      refine r_eqI r₁.units ((il_of hg₇ (intsAre_cut hvi _ _)).ext (Ext.push _ _)) (IL.one_push _ _ _) ⟨_, rfl, hQ₁ _ _ ⟨fun hb => ?_, fun hb => ?_⟩⟩
      all_goals clear hQ₁ Q₁
      · refine hidQ fun Q₂ hQ₂ => ?_
        have hb := of_decide_eq_true hb
        have F₈ := F₆.ext (x₇.trans (Ext.push h₇ (listO [.int 0 t₈])))
        have hg8 := (x₇.trans (Ext.push h₇ (listO [.int 0 t₈]))) _ _ hg6
        generalize h₇.push (listO [.int 0 t₈]) = h₈ at *
        as_aux_lemma =>
        have hgr : gapsF ns n = cutL ns none (some (end0 ns : Int)) ++ rep (cutL (cutL ns none (some (end0 ns : Int))) (some (-1)) none) n := by
          unfold gapsF; simp only; rw [if_pos hb]
        refine s_set F₈ (.inr ⟨rfl, rfl⟩) rfl (hidQ fun Q₃ hQ₃ => r_binop ?_)
        walk_at "nm"
        refine r_binop (r_slL ?_)
        walk_at "nm"
        refine e_some (UnaryOp_ (r_int fun t₉ k₁₄ => neg_int (e_none ⟨G, _, _, _, _, _, rfl, rfl, ⟨_, hg8, rfl, _, rfl⟩, by omega, .int _ _, .none, fun h₉ D₉ x₉ hD₉ hg₉ => ?_⟩)))
        have hlast := cutL_last (cutL vs none (some (end0 ns : Int)))
        have hci := intsAre_cut hgi (some (-1)) none
        have F₉ := F₈.ext x₉
        have fin : ∀ (D' : Addr) h' k', Ext h₉ h' → IL h' D' (rep (cutL (cutL ns none (some (end0 ns : Int))) (some (-1)) none) n) →
            wpAny (model prog w) A' (binaryOp .Add (.ref G) (.ref D')) Q₃ E ⟨h', gs, d, k', os⟩ := by
          intro D' h' k' x' hD'
          refine r_addI (il_of (x' _ _ (x₉ _ _ hg8)) hgi) hD' (by have := rep_length (cutL (cutL ns none (some (end0 ns : Int))) (some (-1)) none) n; omega) fun h₁₁ x₁₁ hl11 => hQ₃ _ _ ⟨_, _, rfl, (x₉.trans x').trans x₁₁, fun h₁₂ k₁₅ F₁₂ o₁₂ => s_nil (hQ₂ _ _ ⟨rfl, _, _, rfl, _, F₁₂.sub (by walk_at "sub"), ?_⟩)⟩
          rw [hgr]
          exact hl11.at fun o e => o₁₂ _ o (.inr ((F₉.ext x').ok.size)) e
        generalize hcv : cutL (cutL vs none (some (end0 ns : Int))) (some (-1)) none = cv at *
        generalize hcn : cutL (cutL ns none (some (end0 ns : Int))) (some (-1)) none = cn at *
        cases hci with
        | nil =>
          walk_at "nm"
          refine r_mulL0 hg₉ (by omega) (by omega) (fin _ _ _ (Ext.push _ _) (IL.nil_push _))
        | cons z tz rr =>
          cases rr with
          | cons _ _ _ => simp at hlast
          | nil =>
            walk_at "nm"
            refine r_mulL hg₉ (by omega) (by omega) (fin _ _ _ (Ext.push _ _) ?_)
            refine ⟨_, isList_push _ _, ?_⟩
            rw [show ((n : Int)).toNat = n by omega]
            exact intsAre_rep n z tz
      · have hb := of_decide_eq_false hb
        have hgr : gapsF ns n = cutL ns none (some (end0 ns : Int)) := by
          unfold gapsF; simp only; rw [if_neg hb]
        refine s_nil ⟨rfl, _, _, rfl, G, (F₆.ext (x₇.trans (Ext.push _ _))).sub (by walk_at "sub"), ?_⟩
        rw [hgr]
        exact (il_of hg6 hgi).ext (x₇.trans (Ext.push _ _))
    · rintro h₇ k₉ ⟨G', F₇, hG'⟩
      have c₇ := cx.ext F₇.ok.keep
      have hgf := gapsF_length ns n
      obtain ⟨us, hu, hui⟩ := id hG'
      have hul := hui.length
      as_aux_lemma =>
      refine s_ret (r_compM (a := 0) (n := min n (gapsF ns n).length) (fun _ => true) (fun i y => ∃ t, y = .int ((cutL (gapsF ns n) none (some ((i : Int) + 1))).sum) t) rfl (by decide) rfl (by decide) rfl (fun _ => rfl) (by omega) ?_ ?_ ?_ ?_)
      · refine r_call1t c₇ rfl boot_range (by decide) rfl rfl rfl rfl (by decide) rfl (r_callB c₇ rfl boot_min (by decide) rfl rfl rfl rfl (by decide) rfl rfl (a_cons rfl ?_))
        walk_at "nm"
        refine a_cons rfl (r_call1b c₇ (g_len w) boot_len (by decide) rfl rfl rfl rfl (by decide) rfl ?_)
        walk_at "nm"
        refine r_lenI hG' (by omega) fun t₂ k₆ => a_nil (r_min r₁.hh fun h₈ k₁₀ t₃ x₈ => ?_)
        rw [show min (n : Int) ((gapsF ns n).length : Int) = ((min n (gapsF ns n).length : Nat) : Int) by omega]
        exact r_rangeIt (by omega) r₁.hh fun h' k' I St x₆ hI hI2 W st => ⟨_, _, I, St, rfl, rfl, x₈.trans x₆, fun b o e => Nat.ne_of_lt (Nat.lt_of_lt_of_le (Heap.lt_size (x₈ b o e)) hI), hI2, W, st⟩
      · intro C j h₆ k₆ E₂ tj _ hj hva x₆
        exact t_nil ⟨_, _, rfl, Ext.refl _, rfl⟩
      · intro C j h₆ k₆ E₂ tj _ hj _ hva x₆
        have F₆ := F₇.ext x₆
        have c₆ := c₇.ext x₆
        refine r_call1b c₆ rfl boot_sum (by decide) rfl rfl rfl rfl (by decide) rfl (r_slL (r_name rfl ((F₆.var (x := "gaps") (by walk_at "mem")).comp rfl rfl rfl) (e_none (e_some (r_binop (r_name rfl hva (r_int fun t₃ k₇ => r_add fun t₄ k₈ => ⟨G', us, _, _, _, _, rfl, rfl, isList_ext hu x₆, by omega, .none, .int _ _, fun h₇ D' x₇ hD' hg => ?_⟩)))))))
        refine r_sum r₁.hh (il_of hg (intsAre_cut hui _ _)) fun h₈ k₉ t₅ x₈ => ⟨_, _, rfl, x₇.trans x₈, t₅, rfl⟩
      · intro D' h₆ k₆ ys' x₆ hpl' hF'
        rw [filter_true] at hF'
        exact hQ₀ _ _ (H _ _ _ (F₇.ok.keep.trans x₆) ⟨ys', plain_list hpl', paired_ints hF'⟩)

/- C10 -/
theorem glue_signs : ∀ (l acc : List Nat), (l.map fun c => S [c]).foldl (fun (a : Array Nat) (p : Str) => a ++ (S []).cps ++ p.cps) acc.toArray = (acc ++ l).toArray
  | [], acc => by simp
  | c :: l, acc => by
    rw [List.map_cons, List.foldl_cons]
    have : acc.toArray ++ (S []).cps ++ (S [c]).cps = (acc ++ [c]).toArray := by simp [S]
    rw [this, glue_signs l (acc ++ [c])]
    simp
theorem join_signs (l : List Nat) : Builtin.Str.glued (S []) (l.map fun c => S [c]) = S l := by
  cases l with
  | nil => rfl
  | cons c l =>
    unfold Builtin.Str.glued
    have := glue_signs l [c]
    rw [List.map_cons, List.drop_succ_cons, List.drop_zero]
    show (⟨List.foldl (fun (a : Array Nat) (p : Str) => a ++ (S []).cps ++ p.cps) [c].toArray (l.map fun c => S [c])⟩ : Str) = _
    rw [this]; rfl
theorem strs_paired {α : Type} {f : α → Nat} : ∀ {l : List α} {ys : List Value}, Paired (fun a y => ∃ t, y = .str (S [f a]) t) l ys → ∃ ps : List (Str × Tok), ys = strValues ps ∧ ps.map (·.1) = (l.map f).map fun c => S [c]
  | _, _, .nil => ⟨[], rfl, rfl⟩
  | _, _, .cons ⟨t, e⟩ r => by
    obtain ⟨ps, h1, h2⟩ := strs_paired r
    exact ⟨(S [f _], t) :: ps, by rw [e, h1]; rfl, by rw [List.map_cons, h2]; rfl⟩

section
variable {prog : Program} {w : World} {A : Around} {E : Value → Shared → Prop} {env : Env} {h : Heap} {gs : Array GenState} {d : Drawn} {k : Nat} {os : OsState} {Q : Value → Shared → Prop}
theorem r_withB {id : String} {pos : Pos} {first : List Value} {e : PySem.Expr} {rest : List PySem.Expr}
    (hs : starEach (e :: rest) env = (false, eval e env) :: starEach rest env) (hplain : (backTo pos (starEach rest env)).any (·.1) = false) {s : Shared}
    (H : wpAny (model prog w) A (spliced (backTo pos (starEach (e :: rest) env))) (fun vs s₁ => wpAny (model prog w) A (call (.builtin id) (first ++ vs)) Q E s₁) E s) :
    wpAny (model prog w) A (callWith pos (.builtin id) first (backTo pos (starEach (e :: rest) env)) []) Q E s := by
  rw [hs] at H ⊢
  exact Calls.callWith_builtin hplain (Calls.evalArgs_plain H)
theorem r_pow2 {n : Nat} {t u : Tok} (hn : n ≤ 1000) (H : ∀ t' k', Q (.int ((2 : Int) ^ n) t') ⟨h, gs, d, k', os⟩) : wpAny (model prog w) A (binaryOp .Pow (.int 2 t) (.int (n : Int) u)) Q E ⟨h, gs, d, k, os⟩ := by
  refine PyProof.Rows.pow_int_small (by omega) (by omega) (by decide) ?_
  rw [show ((n : Int)).toNat = n by omega]
  exact H _ _
end

noncomputable def leadBit (x : Int) (k : Nat) : Nat := (((x.fdiv 6).fdiv ((2 : Int) ^ k)).fmod 2).toNat
noncomputable def leadF (x : Int) : List Nat := (List.range' 0 (x.fmod 6).toNat).map fun k => [32, 9].getD (leadBit x k) 0
theorem fmod_bd (x : Int) {b : Int} (hb : 0 < b) : 0 ≤ x.fmod b ∧ x.fmod b < b := ⟨Int.fmod_nonneg_of_pos _ hb, Int.fmod_lt_of_pos _ hb⟩
theorem pow2_small {j : Nat} (hj : j < 6) : (2 : Int) ^ j ≠ 0 ∧ ((2 : Int) ^ j).natAbs < 1073741824 := (by decide : ∀ j, j < 6 → (2 : Int) ^ j ≠ 0 ∧ ((2 : Int) ^ j).natAbs < 1073741824) j hj

theorem leadF_length (x : Int) : (leadF x).length ≤ 5 := by
  unfold leadF
  rw [List.length_map, List.length_range']
  have := fmod_bd x (b := 6) (by omega)
  omega

theorem lead_spec {prog : Program} {w : World} {A : Around} {h : Heap} {gs : Array GenState} {d : Drawn} {k : Nat} {os : OsState} (r : Rm A 1) (cx : Cx w h) (x : Int) (t : Tok)
    {R : Result → Shared → Prop} (H : ∀ h' k' t', Ext h h' → R (.ok (.ret (.str (S (leadF x)) t'))) ⟨h', gs, d, k', os⟩) :
    codeAny (model prog w) A (.call (.ref 99) ⟨[.int x t], []⟩) R ⟨h, gs, d, k, os⟩ := by
  refine enterF (fd := fdAt 99) (n := 0) [("x", .int x t)] ["x"] r cx rfl rfl rfl rfl rfl rfl rfl rfl (by decide) (fun h₁ k₁ F c₁ r₁ E => ?_) rfl rfl rfl
  change Frm h (callEnvC (fdAt 99) h.objs.size 99) (h.objs.size + 2) h₁ _ at F
  generalize hA : A.deeper (callEnvC (fdAt 99) h.objs.size 99) = A' at r₁ ⊢
  have hb := fmod_bd x (b := 6) (by omega)
  refine s_ret (r_meth (r_lit [] (by decide +kernel) fun t₂ k₂ => GM.join (r_withB rfl rfl (a_cons rfl (r_compM (a := 0) (n := (x.fmod 6).toNat) (fun _ => true) (fun i y => ∃ t, y = .str (S [[32, 9].getD (leadBit x i) 0]) t) rfl (by decide) rfl (by decide) rfl (fun _ => rfl) (by omega) ?_ ?_ ?_ ?_)))))
  · refine r_call1t c₁ rfl boot_range (by decide) rfl rfl rfl rfl (by decide) rfl (r_binop ?_)
    walk_at "nm"
    refine r_int fun t₃ k₃ => r_mod (by omega) fun t₄ k₄ => ?_
    have e : x.fmod 6 = (((x.fmod 6).toNat : Nat) : Int) := by omega
    rw [e]
    exact r_rangeIt (by omega) r₁.hh fun h' k' I St x₆ hI hI2 W st => ⟨_, _, I, St, rfl, rfl, x₆, fun b o e => Nat.ne_of_lt (Nat.lt_of_lt_of_le (Heap.lt_size e) hI), hI2, W, st⟩
  · intro C j h₆ k₆ E₂ tj _ hj hva x₆
    exact t_nil ⟨_, _, rfl, Ext.refl _, rfl⟩
  · intro C j h₆ k₆ E₂ tj _ hj _ hva x₆
    have F₆ := F.ext x₆
    have hj6 : j < 6 := by omega
    have hp := pow2_small hj6
    refine r_itemS (r_lit [32, 9] (by decide +kernel) fun t₃ k₃ => r_binop (r_binop (r_binop (r_name rfl ((F₆.var (x := "x") (by walk_at "mem")).comp rfl rfl rfl) (r_int fun t₄ k₄ => r_div (by omega) (by omega) fun t₅ k₅ => r_binop (r_int fun t₆ k₆ => r_name rfl hva (r_pow2 (by omega) fun t₇ k₇ => r_div hp.1 hp.2 fun t₈ k₈ => r_int fun t₉ k₉ => r_mod (by omega) fun t₁₀ k₁₀ => ?_)))))))
    have hb2 := fmod_bd ((x.fdiv 6).fdiv ((2 : Int) ^ j)) (b := 2) (by omega)
    have e : ((x.fdiv 6).fdiv ((2 : Int) ^ j)).fmod 2 = ((leadBit x j : Nat) : Int) := by unfold leadBit; omega
    have hlt : leadBit x j < 2 := by omega
    rw [e]
    refine ⟨[32, 9], _, leadBit x j, _, [32, 9].getD (leadBit x j) 0, _, _, rfl, rfl, rfl, by omega, ?_, fun t₁₁ k₁₁ => ⟨_, _, rfl, Ext.refl _, _, rfl⟩⟩
    have : leadBit x j = 0 ∨ leadBit x j = 1 := by omega
    rcases this with q | q <;> rw [q] <;> rfl
  · intro D' h₆ k₆ ys' x₆ hpl' hF'
    rw [filter_true] at hF'
    obtain ⟨ps, rfl, hps⟩ := strs_paired hF'
    refine a_nil (SC.join (plain_list hpl') hps (joinOk_of_weight ?_ (by decide)) fun t₃ k₃ => ?_)
    · rw [List.length_map, List.length_map, List.length_range', List.map_map]
      have e : ∀ l : List Nat, (l.map ((fun x : Str => x.length) ∘ fun c => S [c])).sum = l.length := by
        intro l
        induction l with
        | nil => rfl
        | cons a l ih => rw [List.map_cons, List.sum_cons, ih, List.length_cons]; show (S [a]).length + _ = _; rw [S_length]; simp; omega
      rw [e, List.length_map, List.length_range']
      omega
    · have e : Txt.join (S []) (((List.range' 0 (x.fmod 6).toNat).map fun i => [32, 9].getD (leadBit x i) 0).map fun c => S [c]) = S (leadF x) := join_signs (leadF x)
      rw [e]
      exact H _ _ _ (F.ok.keep.trans x₆)

/- MG -/
section
variable {M : Model} {A : Around} {R : GenEnd} {Y : Protocol} {n : Nat} {s₀ : Shared} {c : Code} {fs : List Frame} {s : Shared} {env : Env}
  {K : Flow → Sem Fin} {H : Value → Sem Fin} {gd : Bool → Bool} {lv : List Value → List Value}

theorem g_if {test : PySem.Expr} {body orelse : List Stmt} {pos : Pos}
    (h : wpAny M (A.over c fs) (isTrue test env (eval test env)) (fun b s' => (b = true → Seg M A R Y n s₀ c ((execs body env).wrap K H gd lv) fs s') ∧ (b = false → Seg M A R Y n s₀ c ((execs orelse env).wrap K H gd lv) fs s'))
      (fun x s' => Seg M A R Y n s₀ c (H x) fs s') s) :
    Seg M A R Y n s₀ c ((exec (.If test body orelse pos) env).wrap K H gd lv) fs s := by
  show Seg M A R Y n s₀ c (.at pos fun _ => ((isTrue test env (eval test env)) >>= fun b => if b = true then execs body env else execs orelse env).wrap K H gd lv) fs s
  refine seg_at (seg_bind_wrap (wpAny_mono h (fun b s' q => ?_) fun _ _ e => e))
  cases b with
  | false => rw [if_neg Bool.false_ne_true]; exact q.2 rfl
  | true => rw [if_pos rfl]; exact q.1 rfl

/-- what a frame does with what comes back -/
noncomputable def backK (env : Env) (K : Flow → Sem Fin) (H : Value → Sem Fin) (gd : Bool → Bool) (lv : List Value → List Value) (r : Result) : Sem Fin :=
  ((match r with | .ok f => (.pure f : Sem Flow) | .error e => .raise e).onRaise fun (x : Value) => do
        if (← field x 1) == Value.none then unsupported "frame.own-activation:exception-without-traceback"
        setFlight x env.frame).wrap K H gd lv

theorem g_for {target iter : PySem.Expr} {body orelse : List Stmt} {pos : Pos} (hs : ∀ x, foldedSetIterable iter env x = pure x)
    (h : wpAny M (A.over c fs) (eval iter env) (fun x s₁ => wpAny M (A.over c fs) (pyIter x) (fun it s₂ =>
        ∀ p, Seg M A R Y n s₀ (.forLoop target it body orelse env) (M.den (.forLoop target it body orelse env)) (.ret (backK env K H gd lv) none (gd false) (lv []) c p [] :: fs) s₂)
        (fun x s' => Seg M A R Y n s₀ c (H x) fs s') s₁) (fun x s' => Seg M A R Y n s₀ c (H x) fs s') s) :
    Seg M A R Y n s₀ c ((exec (.For target iter body orelse pos) env).wrap K H gd lv) fs s := by
  rw [exec_For]
  refine seg_bind_wrap (wpAny_standAt ?_)
  refine seg_bind_wrap (wpAny_mono h (fun x s₁ h₁ => ?_) fun _ _ e => e)
  refine seg_bind_wrap (wpAny_of_eq (hs x) ?_)
  refine seg_bind_wrap (wpAny_standAt ?_)
  refine seg_bind_wrap (wpAny_holding (wpAny_mono h₁ (fun it s₂ h₂ => ?_) fun _ _ e => e))
  exact seg_call h₂

theorem g_while {test : PySem.Expr} {body orelse : List Stmt} {pos : Pos}
    (h : ∀ p, Seg M A R Y n s₀ (.whileLoop test body orelse env) (M.den (.whileLoop test body orelse env)) (.ret (backK env K H gd lv) none (gd false) (lv []) c p [] :: fs) s) :
    Seg M A R Y n s₀ c ((exec (.While test body orelse pos) env).wrap K H gd lv) fs s := seg_While h

/-- what a loop does with an exception -/
noncomputable def loopH (env : Env) (e : Value) : Sem Fin := (do noteFrame e env; theTreesLotGoes e : Sem Unit).wrap (fun _ => .raise e) .raise id id
noncomputable def loopK (c : Code) (f : Flow) : Sem Fin := match f with
  | .next | .cont => .pure (.again c)
  | .brk => .pure (.done .next)
  | .ret v => .pure (.done (.ret v))
end
section
variable {prog : Program} {w : World} {A : Around} {R : GenEnd} {Y : Protocol} {n : Nat} {s₀ : Shared} {fs : List Frame} {s : Shared} {env : Env}
theorem g_forLoop {target : PySem.Expr} {it : Value} {body orelse : List Stmt} (ht : ∀ v, letOwnedTupleGo target it v = pure ())
    (h : wpAny (model prog w) (A.over (.forLoop target it body orelse env) fs) (pyNext it) (fun r s' => match r with
        | none => Seg (model prog w) A R Y n s₀ (.block orelse env) ((model prog w).den (.block orelse env)) fs s'
        | some v => wpAny (model prog w) (A.over (.forLoop target it body orelse env) fs) (assign target env v) (fun _ s₂ =>
            Seg (model prog w) A R Y n s₀ (.forLoop target it body orelse env) ((execs body env).wrap (loopK (.forLoop target it body orelse env)) (loopH env) id id) fs s₂)
            (fun x s' => Seg (model prog w) A R Y n s₀ (.forLoop target it body orelse env) (loopH env x) fs s') s')
      (fun x s' => Seg (model prog w) A R Y n s₀ (.forLoop target it body orelse env) (loopH env x) fs s') s) :
    Seg (model prog w) A R Y n s₀ (.forLoop target it body orelse env) ((model prog w).den (.forLoop target it body orelse env)) fs s := by
  have hH : ∀ e, ((do noteFrame e env; theTreesLotGoes e : Sem Unit).bind fun _ => (.raise e : Sem Fin)) = loopH env e := fun e => by rw [Sem.bind_eq_wrap]; rfl
  show Seg _ A R Y n s₀ _ ((forTurn target it body orelse env).onRaise (fun x => do noteFrame x env; theTreesLotGoes x)) fs s
  rw [Sem.onRaise_eq_wrap, funext hH]
  unfold forTurn
  refine seg_bind_wrap (wpAny_standAt ?_)
  refine seg_bind_wrap (wpAny_onRaise (wpAny_mono h (fun r s' h₁ => ?_) fun _ _ e => wpAny_standAt e))
  cases r with
  | none => exact seg_again rfl h₁
  | some v =>
    refine seg_bind_wrap (wpAny_of_eq (ht v) ?_)
    refine seg_bind_wrap (wpAny_mono h₁ (fun _ s₂ h₂ => ?_) fun _ _ e => e)
    rw [Sem.bind_eq_wrap', Sem.wrap_wrap]
    have e := Sem.wrap_congr (execs body env) (K := fun a => Sem.wrap Sem.pure (loopH env) id id (match a with | Flow.next => again (Code.forLoop target it body orelse env) | Flow.cont => again (Code.forLoop target it body orelse env) | Flow.brk => pure (Fin.done Flow.next) | Flow.ret v => pure (Fin.done (Flow.ret v))))
      (K' := loopK (.forLoop target it body orelse env)) (H := fun e => Sem.wrap Sem.pure (loopH env) id id (Sem.raise e)) (H' := loopH env) id id (fun f => by cases f <;> rfl) (fun e => rfl)
    rw [← e] at h₂
    exact h₂
theorem g_block_nil {k h g l c₁ p₁ kp} (H : Seg (model prog w) A R Y n s₀ c₁ (k (.ok .next)) fs s) :
    Seg (model prog w) A R Y n s₀ (.block [] env) ((model prog w).den (.block [] env)) (.ret k h g l c₁ p₁ kp :: fs) s :=
  seg_leaf (.ok .next) H
theorem g_whileLoop {test : PySem.Expr} {body orelse : List Stmt}
    (h : wpAny (model prog w) (A.over (.whileLoop test body orelse env) fs) (isTrue test env (eval test env)) (fun b s' => b = true ∧
          Seg (model prog w) A R Y n s₀ (.whileLoop test body orelse env) ((execs body env).wrap (loopK (.whileLoop test body orelse env)) (loopH env) id id) fs s')
      (fun x s' => Seg (model prog w) A R Y n s₀ (.whileLoop test body orelse env) (loopH env x) fs s') s) :
    Seg (model prog w) A R Y n s₀ (.whileLoop test body orelse env) ((model prog w).den (.whileLoop test body orelse env)) fs s := by
  refine seg_whileLoop (wpAny_mono h (fun b s' q => ?_) fun _ _ e => e)
  obtain ⟨rfl, q⟩ := q
  rw [if_pos rfl]
  have e := Sem.wrap_congr (execs body env) (K := fun f => (match f with | .next | .cont => .pure (.again (.whileLoop test body orelse env)) | .brk => .pure (.done .next) | .ret v => .pure (.done (.ret v)) : Sem Fin))
    (K' := loopK (.whileLoop test body orelse env)) (H := loopH env) (H' := loopH env) id id (fun f => by cases f <;> rfl) (fun e => rfl)
  rw [← e] at q
  exact q
end

/- MG2 -/
theorem Frm.keepOn {g : Heap} {env : Env} {hi : Nat} {h h' : Heap} {σ} (F : Frm g env hi h σ) (e : ∀ b o, (b < g.objs.size ∨ (env.locals ≤ b ∧ b < hi)) → h.get? b = some o → h'.get? b = some o) : Frm g env hi h' σ := by
  have hloc : ∀ {m}, h.Ns env.locals m → h'.Ns env.locals m := fun hm => hm.at' fun o q => e _ o (.inr ⟨Nat.le_refl _, F.ok.lt⟩) q
  have hc : ∀ {n c v}, env.cells.lookup n = some c → h.IsCell c v → h'.IsCell c v := fun {n c v} hn hv => let ⟨o, ho, hd⟩ := hv; ⟨o, e c o (.inr ⟨Nat.le_of_lt (F.ok.above n c (mem_of_lookup hn)).1, (F.ok.above n c (mem_of_lookup hn)).2⟩) ho, hd⟩
  refine ⟨⟨fun b o q => e b o (.inl (Heap.lt_size q)) (F.ok.keep b o q), F.ok.kind, ?_, ?_, F.ok.above, F.ok.apart, F.ok.fresh, F.ok.lt, F.ok.top⟩, ?_⟩
  · obtain ⟨m, hm⟩ := F.ok.ns
    exact ⟨m, hloc hm⟩
  · intro n c hl
    obtain ⟨v, hv⟩ := F.ok.cell n c hl
    exact ⟨v, hc hl hv⟩
  · intro x v hx
    rcases F.vars x v hx with ⟨k, m, hn, hm⟩ | ⟨c, k, hl, hv⟩
    · exact .inl ⟨k, m, hloc hn, hm⟩
    · exact .inr ⟨c, k, hl, hc hl hv⟩

/-- the numbers that the generator gives out -/
noncomputable def gOut (last : Option Int) : List Int → Nat → Option Int
  | [], _ => none
  | z :: r, j => if z = 127 then none else if z = 0 then last else match j with | 0 => some z | j + 1 => gOut (some z) r j

/-- what a step of the generator keeps -/
noncomputable def GKept (C : Nat) (s₀ s₁ : Shared) : Prop := ∃ h₁ tk, s₁ = { s₀ with heap := h₁, toks := tk } ∧ ∀ b o, (b < C ∨ b = C + 1) → s₀.heap.get? b = some o → h₁.get? b = some o
theorem GKept.refl (C : Nat) (s : Shared) : GKept C s s := ⟨s.heap, s.toks, rfl, fun _ _ _ e => e⟩
theorem GKept.step {C : Nat} {s₀ : Shared} {h h' : Heap} {gs : Array GenState} {d : Drawn} {k k' : Nat} {os : OsState} (x : GKept C s₀ ⟨h, gs, d, k, os⟩) (e : ∀ b o, (b < C ∨ b = C + 1) → h.get? b = some o → h'.get? b = some o) : GKept C s₀ ⟨h', gs, d, k', os⟩ := by
  obtain ⟨h₁, tk, e1, q⟩ := x
  cases e1
  exact ⟨h', k', rfl, fun b o hb g => e b o hb (q b o hb g)⟩
noncomputable def gR (C N : Nat) (out : Nat → Option Int) : GenEnd := fun n s₀ r s₁ => r = .ok (.ret .none) ∧ (out (N - n) = none ∧ GKept C s₀ s₁)
noncomputable def gY (C lo hi N : Nat) (out : Nat → Option Int) : Protocol := fun m s₀ v s₁ kap => ∃ z t, v = .int z t ∧ out (N - 1 - m) = some z ∧ GKept C s₀ s₁ ∧ (m = 0 ∨ ∀ s'' : Shared, Out lo hi s₁.heap s''.heap → kap (.send .none) s'')

noncomputable abbrev genv (C : Nat) : Env := callEnvC (fdAt 94) C 94

section
variable {prog : Program} {w : World} {A : Around} {g : Heap} {C lo hi N : Nat} {out : Nat → Option Int}

theorem isTrue_lit {A : Around} {env : Env} {E : Value → Shared → Prop} {u : Nat} {p : Pos} {whole : Sem Value} {s : Shared} {Q : Bool → Shared → Prop} (H : Q true s) : wpAny (model prog w) A (isTrue (.Constant (.bool true) u p) env (eval (.Constant (.bool true) u p) env)) Q E s := by
  show wpAny _ _ (do let v ← eval (.Constant (.bool true) u p) env; standAt _; holding [v] (truthy v)) _ _ _
  exact wpAny_bind (wpAny_pure (wpAny_bind (wpAny_standAt (wpAny_holding (wpAny_truthy_bool H)))))

theorem gen_rep {fs : List Frame} {u : Nat} {q8 q9 q10 q11 : Pos} {z : Int} {t : Tok} (hgl : g.objs.size ≤ lo) (hih : hi ≤ C) (hfs : splitAtGen fs = none) (hfg : fs.any Frame.guarded = false) :
    ∀ (n : Nat) (s₀ s : Shared), n + 1 ≤ N → GKept C s₀ s → Frm g (genv C) (C + 1) s.heap [("last_interval", .int z t)] → (∀ j, out (N - (n + 1) + j) = some z) →
      Seg (model prog w) A (gR C N out) (gY C lo hi N out) (n + 1) s₀ (.whileLoop (.Constant (.bool true) u q8) [.Expr (.Yield (some (.Name "last_interval" q9)) q10) q11] [] (genv C))
        ((model prog w).den (.whileLoop (.Constant (.bool true) u q8) [.Expr (.Yield (some (.Name "last_interval" q9)) q10) q11] [] (genv C))) fs s := by
  intro n
  induction n with
  | zero =>
    rintro s₀ ⟨h, gs, d, k, os⟩ hN kp F ho
    refine g_whileLoop (isTrue_lit (whole := eval (.Constant (.bool true) u q8) (genv C)) ⟨rfl, ?_⟩)
    refine seg_execs_cons (seg_Expr_Yield hfs rfl hfg (r_name rfl (F.var List.mem_cons_self) ?_) rfl rfl)
    intro kap hk
    exact ⟨z, t, rfl, (by have := ho 0; rwa [show N - 1 - 0 = N - (0 + 1) + 0 by omega]), kp, .inl rfl⟩
  | succ n ih =>
    rintro s₀ ⟨h, gs, d, k, os⟩ hN kp F ho
    refine g_whileLoop (isTrue_lit (whole := eval (.Constant (.bool true) u q8) (genv C)) ⟨rfl, ?_⟩)
    refine seg_execs_cons (seg_Expr_Yield hfs rfl hfg (r_name rfl (F.var List.mem_cons_self) ?_) rfl rfl)
    intro kap hk
    refine ⟨z, t, rfl, (by have := ho 0; rwa [show N - 1 - (n + 1) = N - (n + 1 + 1) + 0 by omega]), kp, .inr fun s'' o'' => hk .none s'' ?_⟩
    show Seg _ _ _ _ _ _ _ (.pure (.again _)) _ _
    refine seg_again rfl (ih s'' s'' (by omega) (GKept.refl _ _) (F.keepOn fun b o hb e => o'' b o (hb.imp (fun q => Nat.lt_of_lt_of_le q hgl) (fun q => Nat.le_trans hih q.1)) e) fun j => ?_)
    have := ho (j + 1)
    rwa [show N - (n + 1) + j = N - (n + 1 + 1) + (j + 1) by omega]
end

/- MG3 -/
theorem ne_mem1 {b I : Nat} (h : b < I) : b ∉ [I] := fun q => by rw [List.mem_singleton] at q; omega
theorem mem2 {b I l lo hi : Nat} (h : b ∈ [I, l]) (h1 : hi ≤ I) (h2 : l < lo) : b < lo ∨ hi ≤ b := by
  have h : b = I ∨ b = l := by simpa using h
  omega
section
variable {prog : Program} {w : World} {A : Around} {g : Heap} {C lo hi N : Nat} {out : Nat → Option Int}

theorem gOut_127 (last : Option Int) (r : List Int) (j : Nat) : gOut last (127 :: r) j = none := by unfold gOut; rw [if_pos rfl]
theorem gOut_0 (last : Option Int) (r : List Int) (j : Nat) : gOut last (0 :: r) j = last := by unfold gOut; rw [if_neg (by decide), if_pos rfl]
theorem gOut_z {z : Int} (h1 : z ≠ 127) (h0 : z ≠ 0) (last : Option Int) (r : List Int) : gOut last (z :: r) 0 = some z := by unfold gOut; rw [if_neg h1, if_neg h0]
theorem gOut_s {z : Int} (h1 : z ≠ 127) (h0 : z ≠ 0) (last : Option Int) (r : List Int) (j : Nat) : gOut last (z :: r) (j + 1) = gOut (some z) r j := by rw [gOut, if_neg h1, if_neg h0]

/-- what holds between two numbers -/
structure GAt (w : World) (g : Heap) (C N : Nat) (out : Nat → Option Int) (vs : List Value) (ns : List Int) (St : Nat → Heap → Prop) (n i : Nat) (last : Option Int) (lval : Value) (s₀ s : Shared) : Prop where
  fuel : n ≤ N
  le : i ≤ vs.length
  kept : GKept C s₀ s
  frm : Frm g (genv C) (C + 1) s.heap [("last_interval", lval)]
  st : St i s.heap
  lst : (last = none ∧ lval = .none ∧ (ns.drop i).head? ≠ some 0) ∨ ∃ y t, last = some y ∧ lval = .int y t
  outs : ∀ j, out (N - n + j) = gOut last (ns.drop i) j

theorem gen_turn {kk : Result → Sem Fin} {c₁ : Code} {p₁ : Pos} {I l : Nat} {vs : List Value} {ns : List Int} {St : Nat → Heap → Prop} {rs body : List Stmt}
    {u1 u2 u3 : Nat} {a0 a1 a2 a3 a4 a5 b1 b2 b3 b4 b5 b6 b7 b8 b9 b10 b11 b12 b13 c1 c2 c3 c4 c5 c6 : Pos}
    (hb : body = [.If (.Compare (.Name "interval" a1) [.Eq] [.Name "CHAR_MAX" a2] a3) [.Return none a4] [] a5,
           .If (.Compare (.Name "interval" b1) [.Eq] [.Constant (.int 0) u1 b2] b3) [.If (.Compare (.Name "last_interval" b4) [.Is] [.Constant .none u2 b5] b6) rs [] b7,
              .While (.Constant (.bool true) u3 b8) [.Expr (.Yield (some (.Name "last_interval" b9)) b10) b11] [] b12] [] b13,
           .Expr (.Yield (some (.Name "interval" c1)) c2) c3, .Assign [.Name "last_interval" c4] (.Name "interval" c5) c6])
    (hh : A.handled = none) (cx : Cx w g) (hgl : g.objs.size ≤ lo) (hlo : lo ≤ hi) (hih : hi ≤ C) (hI : C + 2 ≤ I) (hl : l < g.objs.size) (hvi : IntsAre vs ns)
    (hW : ∀ A' : Around, A'.handled = none → Walks prog w A' I [I, l] [I] vs.length (fun i v => vs[i]? = some v) St)
    (hk : ∀ n s₀ s f, (f = .next ∨ f = .ret .none) → gR C N out n s₀ (.ok (.ret .none)) s → Seg (model prog w) A (gR C N out) (gY C lo hi N out) n s₀ c₁ (kk (.ok f)) [] s)
    (n : Nat) (IH : n = 0 ∨ ∀ i last lval s₀ s, GAt w g C N out vs ns St n i last lval s₀ s → Seg (model prog w) A (gR C N out) (gY C lo hi N out) n s₀ (.forLoop (.Name "interval" a0) (.ref I) body [] (genv C)) ((model prog w).den (.forLoop (.Name "interval" a0) (.ref I) body [] (genv C))) [.ret kk none false [] c₁ p₁ []] s)
    {i : Nat} {last : Option Int} {lval : Value} {s₀ s : Shared} (H : GAt w g C N out vs ns St (n + 1) i last lval s₀ s) :
      Seg (model prog w) A (gR C N out) (gY C lo hi N out) (n + 1) s₀ (.forLoop (.Name "interval" a0) (.ref I) body [] (genv C)) ((model prog w).den (.forLoop (.Name "interval" a0) (.ref I) body [] (genv C))) [.ret kk none false [] c₁ p₁ []] s := by
  obtain ⟨hN, hi0, kp, F, st, hlast, ho⟩ := H
  obtain ⟨h, gs, d, k, os⟩ := s
  have hvl := hvi.length
  refine g_forLoop (fun _ => rfl) ?_
  have W := hW (A.over (.forLoop (.Name "interval" a0) (.ref I) body [] (genv C)) [.ret kk none false [] c₁ p₁ []]) (by simp [Around.over, marksOver, Frame.marks, markOver, hh])
  have hne : ∀ b, (b < C ∨ b = C + 1) → b ∉ [I] := fun b hb => by simp; omega
  by_cases hlt : i < vs.length
  · refine W.item i _ _ _ hlt st fun v h₁ tk hv st₁ hk₁ => ?_
    have F₁ : Frm g (genv C) (C + 1) h₁ [("last_interval", lval)] := F.low fun b o hb e => hk₁ b o (ne_mem1 (Nat.lt_of_lt_of_le hb (Nat.le_of_succ_le hI))) e
    have kp₁ := kp.step (k' := tk) fun b o hb e => hk₁ b o (hne b hb) e
    have hi' : i < ns.length := by omega
    obtain ⟨tv, hv'⟩ := intsAre_get hvi hi'
    have hdrop : ns.drop i = ns[i] :: ns.drop (i + 1) := List.drop_eq_getElem_cons hi'
    generalize ns[i] = z at *
    rw [hv'] at hv
    cases hv
    refine s_assign (.inl rfl) F₁ fun h₂ k₂ F₂ o₂ => ?_
    replace F₂ : Frm g (genv C) (C + 1) h₂ [("interval", .int z tv), ("last_interval", lval)] := F₂
    have kp₂ := kp₁.step (k' := k₂) fun b o hb e => o₂ b o (show b < C ∨ C + 1 ≤ b by omega) e
    have st₂ : St (i + 1) h₂ := W.frame _ _ _ st₁ fun b hb o e => o₂ b o (mem2 hb (Nat.le_of_succ_le hI) (Nat.lt_of_lt_of_le hl (Nat.le_trans hgl (Nat.le_trans hlo hih)))) e
    have c₂ := cx.ext F₂.ok.keep
    have hfr := W.frame
    have hq : (Code.forLoop (.Name "interval" a0) (.ref I) body [] (genv C)).quiet = true := rfl
    clear W hk₁
    generalize Code.forLoop (.Name "interval" a0) (.ref I) body [] (genv C) = code at IH hq ⊢
    subst hb
    as_aux_lemma =>
    -- the end of the ruler
    refine seg_execs_cons (g_if (r_test ?_))
    walk_at "nm"
    refine r_glob c₂ rfl (r_eq ⟨_, rfl, fun hb => ?_, fun hb => ?_⟩) rfl rfl rfl
    · have hz : z = 127 := by simpa using hb
      subst hz
      refine seg_execs_cons (seg_wrap (wpAny_Return_none ?_))
      refine seg_leaf (.ok (.ret .none)) (hk _ _ _ _ (.inr rfl) ⟨rfl, ?_, kp₂⟩)
      have := ho 0
      rw [hdrop, gOut_127] at this
      exact this
    · have hz7 : z ≠ 127 := by simpa using hb
      refine seg_execs_nil ?_
      refine seg_execs_cons (g_if (r_test ?_))
      walk_at "nm"
      refine r_int fun t₁ k₃ => r_eq ⟨_, rfl, fun hb => ?_, fun hb => ?_⟩
      · -- a nought
        have hz : z = 0 := by simpa using hb
        subst hz
        rcases hlast with ⟨_, _, hhd⟩ | ⟨y, ty, rfl, rfl⟩
        · rw [hdrop] at hhd; exact absurd rfl hhd
        · refine seg_execs_cons (g_if (r_test ?_))
          walk_at "nm"
          refine r_none (is_int_none ⟨_, rfl, fun hb => (by cases hb), fun _ => seg_execs_nil (seg_execs_cons (g_while fun p => ?_))⟩)
          refine gen_rep hgl hih rfl rfl n _ _ hN (kp₂.step fun _ _ _ e => e) (F₂.sub (by walk_at "sub")) fun j => ?_
          have := ho j
          rw [hdrop, gOut_0] at this
          exact this
      · have hz0 : z ≠ 0 := by simpa using hb
        refine seg_execs_nil ?_
        refine seg_execs_cons (seg_Expr_Yield rfl rfl rfl ?_ rfl rfl)
        walk_at "nm"
        intro kap hkap
        have h0 := ho 0
        rw [hdrop, gOut_z hz7 hz0] at h0
        refine ⟨z, tv, rfl, (by rwa [show N - 1 - n = N - (n + 1) + 0 by omega]), kp₂.step (fun _ _ _ e => e), IH.imp id fun ih => ?_⟩
        rintro ⟨h₃, gs₃, d₃, k₃, os₃⟩ o₃
        have F₃ := F₂.keepOn (h' := h₃) fun b o hb e => o₃ b o (hb.imp (fun q => Nat.lt_of_lt_of_le q hgl) (fun q => Nat.le_trans hih q.1)) e
        have st₃ : St (i + 1) h₃ := hfr _ _ _ st₂ fun b hb o e => o₃ b o (mem2 hb (by omega) (by omega)) e
        refine hkap .none _ ?_
        refine seg_execs_cons (seg_wrap (wpAny_Assign_Name ?_ rfl))
        walk_at "nm"
        refine store_var F₃ (.inl rfl) fun h₄ k₄ F₄ o₄ => ?_
        replace F₄ : Frm g (genv C) (C + 1) h₄ [("last_interval", .int z tv), ("interval", .int z tv)] := F₄
        show Seg _ _ _ _ _ _ _ (.pure (.again _)) _ _
        refine seg_again hq (ih (i + 1) (some z) (.int z tv) _ _ ⟨by omega, hlt, ?_, F₄.sub (by walk_at "sub"), ?_, .inr ⟨z, tv, rfl, rfl⟩, fun j => ?_⟩)
        · exact (GKept.refl C _).step fun b o hb e => o₄ b o (show b < C ∨ C + 1 ≤ b by omega) e
        · exact hfr _ _ _ st₃ fun b hb o e => o₄ b o (mem2 hb (Nat.le_of_succ_le hI) (Nat.lt_of_lt_of_le hl (Nat.le_trans hgl (Nat.le_trans hlo hih)))) e
        · have := ho (j + 1)
          rw [hdrop, gOut_s hz7 hz0] at this
          rwa [show N - n + j = N - (n + 1) + (j + 1) by omega]
  · have hie : i = vs.length := by omega
    refine W.done _ _ _ (hie ▸ st) fun h₁ tk hk₁ => ?_
    refine g_block_nil (hk _ _ _ _ (.inl rfl) ⟨rfl, ?_, kp.step fun b o hb e => hk₁ b o (hne b hb) e⟩)
    have := ho 0
    rw [List.drop_of_length_le (by omega)] at this
    exact this

theorem gen_loop {kk : Result → Sem Fin} {c₁ : Code} {p₁ : Pos} {I l : Nat} {vs : List Value} {ns : List Int} {St : Nat → Heap → Prop} {rs body : List Stmt}
    {u1 u2 u3 : Nat} {a0 a1 a2 a3 a4 a5 b1 b2 b3 b4 b5 b6 b7 b8 b9 b10 b11 b12 b13 c1 c2 c3 c4 c5 c6 : Pos}
    (hb : body = [.If (.Compare (.Name "interval" a1) [.Eq] [.Name "CHAR_MAX" a2] a3) [.Return none a4] [] a5,
           .If (.Compare (.Name "interval" b1) [.Eq] [.Constant (.int 0) u1 b2] b3) [.If (.Compare (.Name "last_interval" b4) [.Is] [.Constant .none u2 b5] b6) rs [] b7,
              .While (.Constant (.bool true) u3 b8) [.Expr (.Yield (some (.Name "last_interval" b9)) b10) b11] [] b12] [] b13,
           .Expr (.Yield (some (.Name "interval" c1)) c2) c3, .Assign [.Name "last_interval" c4] (.Name "interval" c5) c6])
    (hh : A.handled = none) (cx : Cx w g) (hgl : g.objs.size ≤ lo) (hlo : lo ≤ hi) (hih : hi ≤ C) (hI : C + 2 ≤ I) (hl : l < g.objs.size) (hvi : IntsAre vs ns)
    (hW : ∀ A' : Around, A'.handled = none → Walks prog w A' I [I, l] [I] vs.length (fun i v => vs[i]? = some v) St)
    (hk : ∀ n s₀ s f, (f = .next ∨ f = .ret .none) → gR C N out n s₀ (.ok (.ret .none)) s → Seg (model prog w) A (gR C N out) (gY C lo hi N out) n s₀ c₁ (kk (.ok f)) [] s) :
    ∀ (n i : Nat) (last : Option Int) (lval : Value) (s₀ s : Shared), GAt w g C N out vs ns St (n + 1) i last lval s₀ s →
      Seg (model prog w) A (gR C N out) (gY C lo hi N out) (n + 1) s₀ (.forLoop (.Name "interval" a0) (.ref I) body [] (genv C)) ((model prog w).den (.forLoop (.Name "interval" a0) (.ref I) body [] (genv C))) [.ret kk none false [] c₁ p₁ []] s
  | 0, _, _, _, _, _, H => gen_turn hb hh cx hgl hlo hih hI hl hvi hW hk 0 (.inl rfl) H
  | n + 1, _, _, _, _, _, H => gen_turn hb hh cx hgl hlo hih hI hl hvi hW hk (n + 1) (.inr fun i last lval s₀ s H => gen_loop hb hh cx hgl hlo hih hI hl hvi hW hk n i last lval s₀ s H) H
end

/- MG4 -/
theorem allBare_set {gs : Array GenState} (b : AllBare gs) (g : Nat) {x : GenState} (hx : x.bare = true) : AllBare (gs.setIfInBounds g x) := by
  intro y hy
  obtain ⟨i, hi, rfl⟩ := Array.mem_iff_getElem.mp hy
  have hi' : i < gs.size := by simpa using hi
  rw [Array.getElem_setIfInBounds hi']
  split
  · exact hx
  · exact b _ (Array.getElem_mem _)

/-- a StopIteration stands at e, nothing else is changed -/
structure StopAt (e : Addr) (h h' : Heap) : Prop where
  keep : Ext h h'
  cls : ∃ o, h'.get? e = some o ∧ o.cls = .type "StopIteration"

section
variable {prog : Program} {w : World} {A : Around} {E : Value → Shared → Prop} {s : Shared}

/-- a generator is asked: what its waking gives and what its raising means -/
theorem ask_next {a : Addr} {g : Nat} {Q : Option Value → Shared → Prop} (hg : s.heap.IsGen a g)
    (H : wpAny (model prog w) A.in1 (Builtin.Generator.genWake (.ref a) (.send .none)) (fun f s' => ∃ v, f = .done (.ret v) ∧ Q (some v) s')
      (fun e s' => wpAny (model prog w) A (isInstance e (.type "StopIteration")) (fun b s'' => (b = true → Q none s'') ∧ (b = false → E e s'')) E s') s) :
    wpAny (model prog w) A (pyNext (.ref a)) Q E s := by
  have wakes := wpAny_mono H (fun f s' (q : ∃ v, f = .done (.ret v) ∧ Q (some v) s') => (let ⟨v, e, z⟩ := q; ⟨v, e, wpAny_pure z⟩ : ∃ v, f = .done (.ret v) ∧ wpAny (model prog w) A (Pure.pure (some v)) Q E s')) fun e s' q =>
    wpAny_bind (f := fun b => if b = true then Pure.pure none else throw e) (wpAny_mono q (fun b s'' (z : (b = true → Q none s'') ∧ (b = false → E e s'')) => by
      cases b
      · exact wpAny_throw (z.2 rfl)
      · exact wpAny_pure (z.1 rfl)) fun _ _ z => z)
  exact wpAny_bind (wpAny_attempt (wpAny_callSpecial?_slot hg.typeIs slot_gen_next (wpAny_call_entry slot_gen_next hg.typeIs entry_gen_next wakes (args_gen_next _))))

/-- it is told by its class -/
theorem stop_told {e : Addr} {h h' : Heap} {Q : Bool → Shared → Prop} (c : StopAt e h h') (hs : s.heap = h') (H : Q true s) : wpAny (model prog w) A (isInstance (.ref e) (.type "StopIteration")) Q E s :=
  let ⟨o, ho, hc⟩ := c.cls; wpAny_isInstance (T := "StopIteration") (b := true) ⟨o, by rw [hs]; exact ho, hc⟩ isSubtype_stop H

/-- a new StopIteration is raised -/
theorem stop_raised {A' : Around} {α : Type} {f : Unit → Sem α} {Q : α → Shared → Prop} (hh : A'.handled = none) (H : ∀ e h', StopAt e s.heap h' → E (.ref e) { s with heap := h' }) :
    wpAny (model prog w) A' (newExc (.type "StopIteration") [] >>= fun x => raiseNew x >>= f) Q E s := by
  have up : ∀ o o' : Obj, o'.cls = .type "StopIteration" → o'.isFreed = false → StopAt (s.heap.push o).objs.size s.heap ((s.heap.push o).push o') := fun o o' hc hf =>
    ⟨(Ext.push _ _).trans (Ext.push _ _), _, Heap.get?_push_size _ hf, hc⟩
  unfold newExc newTuple raiseNew
  exact wpAny_bind (wpAny_bind (wpAny_newObj_type (wpAny_bind (m := firstArgMember _ _) (wpAny_of_eq (a := Value.none) (by first | rfl | (unfold firstArgMember; rfl)) (wpAny_newObj_type
    (wpAny_bind (wpAny_bind (wpAny_handled (by rw [hh]; exact wpAny_throw (H _ _ (up _ _ rfl rfl)))))) (by size_fits)))) (by size_fits)))

/-- the generator's frame runs on: it yields, it returns, or it raises -/
theorem wake_run {a : Addr} {g n : Nat} {gs : GenState} {R : GenEnd} {Y : Protocol} {Qw : PySem.Fin → Shared → Prop} {Ew : Value → Shared → Prop} (hh : A.handled = none) (hl : s.heap.NoLimit) (hroom : A.depth < recursionLimit) (hg : s.heap.IsGen a g) (hgs : s.gens[g]? = some gs)
    (hgo : gs.Goes (model prog w) A.in1 R Y n (.send .none) (s.setGen g .running))
    (hR : ∀ x s₁, R n (s.setGen g .running) x s₁ → (x = .ok (.ret .none) ∧ ∀ e h', StopAt e s₁.heap h' → Ew (.ref e) { s₁.setGen g .finished with heap := h' }) ∨
      ∃ v, x = .error v ∧ wpAny (model prog w) A.in1 (Builtin.Generator.genLeft (.ref a) v) Qw Ew (s₁.setGen g .finished))
    (hY : ∀ v s₁ gs', gs'.bare = true → Y (n - 1) (s.setGen g .running) v s₁ (fun r' s'' => match n with | 0 => False | m + 1 => gs'.Goes (model prog w) A.in1 R Y m r' s'') → Qw (.done (.ret v)) (s₁.setGen g gs')) :
    wpAny (model prog w) A.in1 (Builtin.Generator.genWake (.ref a) (.send .none)) Qw Ew s := by
  have live : gs ≠ .running ∧ gs ≠ .finished := ⟨fun e => by rw [e] at hgo; exact hgo, fun e => by rw [e] at hgo; exact hgo⟩
  refine wpAny_bind (wpAny_holding (wpAny_genNumber hg (wpAny_bind (wpAny_genState hgs ?_))))
  have run : ∀ {k : GenResult → Sem PySem.Fin}, (∀ v, k (.yielded v) = ret v) → k (.returned .none) = (newExc (.type "StopIteration") [] >>= fun x => raiseNew x >>= fun _ => (do rule "generator.return-value"; let x ← newExc (.type "StopIteration") [.none]; throw x)) →
      (∀ v, k (.raised v) = Builtin.Generator.genLeft (.ref a) v) → wpAny (model prog w) A.in1 (.resume g (.send .none) [] k) Qw Ew s := fun {k} hk1 hk2 hk3 => by
    refine wpAny_resumeQ hgs hgo (fun x s₁ hx => ?_) fun v s₁ gs' hb hv => by rw [hk1]; exact wpAny_pure (hY v s₁ gs' hb hv)
    rcases hR x s₁ hx with ⟨rfl, q⟩ | ⟨v, rfl, q⟩
    · show wpAny _ _ (k (GenResult.returned .none)) _ _ _
      rw [hk2]
      exact stop_raised (show A.in1.handled = none from hh) q
    · show wpAny _ _ (k (GenResult.raised v)) _ _ _
      rw [hk3]
      exact q
  cases gs
  case running => exact absurd rfl live.1
  case finished => exact absurd rfl live.2
  all_goals exact wpAny_bind (wpAny_roomToWake hl hroom (run (fun _ => rfl) rfl fun _ => rfl))
end

/-- a generator that may be asked -/
structure GenLive (prog : Program) (w : World) (A : Around) (C lo hi N : Nat) (out : Nat → Option Int) (gi n : Nat) (h : Heap) (gs : Array GenState) : Prop where
  isGen : h.IsGen (C + 1) gi
  st : ∃ x, gs[gi]? = some x ∧ ∀ s'' : Shared, Out lo hi h s''.heap → x.Goes (model prog w) A.in1 (gR C N out) (gY C lo hi N out) n (.send .none) s''

section
variable {prog : Program} {w : World} {A : Around} {E : Value → Shared → Prop} {C lo hi N : Nat} {out : Nat → Option Int} {gi n : Nat} {h : Heap} {gs : Array GenState} {d : Drawn} {k : Nat} {os : OsState}

theorem GenLive.keep (L : GenLive prog w A C lo hi N out gi n h gs) (hC : hi ≤ C) {h' : Heap} (o : Out lo hi h h') : GenLive prog w A C lo hi N out gi n h' gs :=
  ⟨let ⟨ob, nm, qn, ho, r⟩ := L.isGen; ⟨ob, nm, qn, o _ _ (.inr (by omega)) ho, r⟩, let ⟨x, hx, q⟩ := L.st; ⟨x, hx, fun s'' o'' => q s'' (o.trans o'')⟩⟩

theorem r_next {Q : Option Value → Shared → Prop} {m : Nat} (r : Rm A m) (hl : h.NoLimit) (L : GenLive prog w A C lo hi N out gi n h gs) (B : AllBare gs) (hn : 2 ≤ n) (hN : n ≤ N)
    (Hs : ∀ z t h' k' gs', out (N - n) = some z → (∀ b o, (b < C ∨ b = C + 1) → h.get? b = some o → h'.get? b = some o) → AllBare gs' → GenLive prog w A C lo hi N out gi (n - 1) h' gs' → Q (some (.int z t)) ⟨h', gs', d, k', os⟩)
    (Hn : ∀ h' k' gs', out (N - n) = none → (∀ b o, (b < C ∨ b = C + 1) → h.get? b = some o → h'.get? b = some o) → AllBare gs' → Q none ⟨h', gs', d, k', os⟩) :
    wpAny (model prog w) A (pyNext (.ref (C + 1))) Q E ⟨h, gs, d, k, os⟩ := by
  obtain ⟨hg, x, hx, hgo⟩ := L
  refine ask_next hg (wake_run (R := gR C N out) (Y := gY C lo hi N out) r.hh hl r.room hg hx (hgo _ (Out.refl _ _ _)) (fun x s₁ hx => ?_) fun v s₁ gs' hb hv => ⟨v, rfl, ?_⟩)
  rotate_left
  · obtain ⟨z, t, rfl, ho, ⟨h₁, tk, rfl, hk⟩, hc⟩ := hv
    have e : N - 1 - (n - 1) = N - n := by omega
    rw [e] at ho
    refine Hs z t h₁ tk _ ho hk (allBare_set (allBare_set B gi rfl) gi hb) ⟨let ⟨ob, nm, qn, h0, r⟩ := hg; ⟨ob, nm, qn, hk _ _ (.inr rfl) h0, r⟩, gs', ?_, ?_⟩
    · exact setGen_self (s := Shared.setGen ⟨h₁, gs, d, tk, os⟩ gi .running) (gs := .running) (setGen_self (s := ⟨h₁, gs, d, tk, os⟩) hx)
    · rcases hc with hc | hc
      · omega
      · obtain ⟨m, rfl⟩ : ∃ m, n = m + 1 := ⟨n - 1, by omega⟩
        exact hc
  · obtain ⟨e, ho, h₁, tk, rfl, hk₁⟩ := hx
    exact .inl ⟨e, fun e h' st => stop_told st rfl ⟨fun _ => Hn h' tk _ ho (fun b o hb e => st.keep b o (hk₁ b o hb e)) (allBare_set (allBare_set B gi rfl) gi rfl), fun q => nomatch q⟩⟩
end

noncomputable def gbody : List Stmt := match (fdAt 94).body with
  | .stmts b => b
  | _ => []

section
variable {prog : Program} {w : World} {A : Around} {g : Heap} {C lo hi N : Nat}
theorem gen_start {l : Addr} {ns : List Int} (hh : A.handled = none) (cx : Cx w g) (hgl : g.objs.size ≤ lo) (hlo : lo ≤ hi) (hih : hi ≤ C) (hl : IL g l ns) (h0 : ns.head? ≠ some 0)
    (hN : 1 ≤ N) {s : Shared} (F : Frm g (genv C) (C + 1) s.heap [("grouping", .ref l)]) (ha : ∃ o, s.heap.get? (C + 1) = some o) :
    (GenState.fresh (.func gbody (genv C))).Goes (model prog w) A (gR C N (gOut none ns)) (gY C lo hi N (gOut none ns)) N (.send .none) s := by
  refine ⟨rfl, ?_⟩
  obtain ⟨h, gs, d, k, os⟩ := s
  obtain ⟨o, ha⟩ := ha
  obtain ⟨vs, hv, hvi⟩ := hl
  obtain ⟨n, rfl⟩ : ∃ n, N = n + 1 := ⟨N - 1, by omega⟩
  refine seg_func ?_
  refine seg_execs_cons (seg_wrap (wpAny_Assign_Name (r_none ?_) rfl))
  refine store_var F (.inl rfl) fun h₁ k₁ F₁ o₁ => ?_
  replace F₁ : Frm g (genv C) (C + 1) h₁ [("last_interval", .none), ("grouping", .ref l)] := F₁
  have hs₁ : C + 1 < h₁.objs.size := Heap.lt_size (o₁ _ _ (.inr (Nat.le_refl _)) ha)
  refine seg_execs_cons (g_for (fun _ => rfl) ?_)
  walk_at "nm"
  have hv₁ : h₁.IsList l vs.toArray := isList_ext hv F₁.ok.keep
  refine r_iterL hv₁ fun ob St hW hStz st p => ?_
  have hll : l < g.objs.size := let ⟨_, ho, _⟩ := hv; Heap.lt_size ho
  refine gen_loop (l := l) rfl hh cx hgl hlo hih hs₁ hll hvi hW ?_ n 0 none .none _ _ ⟨Nat.le_refl _, Nat.zero_le _, ?_, (F₁.ext (Ext.push _ _)).sub (by walk_at "sub"), st, .inl ⟨rfl, rfl, h0⟩, fun j => ?_⟩
  · rintro n s₀ s f (rfl | rfl) hR
    · exact seg_end (.ok (.ret .none)) hR
    · exact seg_end (.ok (.ret .none)) hR
  · exact (GKept.refl C _).step fun b o hb e => Heap.get?_push_of_some _ (o₁ b o (show b < C ∨ C + 1 ≤ b by omega) e)
  · rw [Nat.sub_self, Nat.zero_add]; rfl
end

/- C11 -/
section
variable {prog : Program} {w : World} {A : Around} {h : Heap} {gs : Array GenState} {d : Drawn} {k : Nat} {os : OsState}
theorem gen_call {n : Nat} (r : Rm A (n + 1)) (cx : Cx w h) {l : Addr} {R : Result → Shared → Prop}
    (H : ∀ h' k', Frm h (genv h.objs.size) (h.objs.size + 1) h' [("grouping", .ref l)] → h'.IsGen (h.objs.size + 1) gs.size → R (.ok (.ret (.ref (h.objs.size + 1)))) ⟨h', gs.push (.fresh (.func gbody (genv h.objs.size))), d, k', os⟩) :
    codeAny (model prog w) A (.call (.ref 94) ⟨[.ref l], []⟩) R ⟨h, gs, d, k, os⟩ := by
  refine codeAny_call_generator (fd := fdAt 94) (body := gbody) r.room (cx.K _ _ rfl) rfl rfl rfl rfl (codeRec_of cx.K rfl) ?_
  refine wpAny_of_eq (a := [(("grouping" : Str), Value.ref l)]) rfl ?_
  refine wpAny_newFunctionEnv (by decide) (by intro y hy; simp at hy; subst hy; rfl) (fun h' hn hs => ?_) rfl
  have hsz : h'.objs.size = h.objs.size + 1 := by rw [hs.1, Heap.size_push]
  have x : Ext h h' := fun b o e => hs.extBut b o (Nat.ne_of_lt (Heap.lt_size e)) (Heap.get?_push_of_some _ e)
  refine ⟨cx.nolimit.keeps x, ?_⟩
  have hP : Ext h' (h'.push { cls := .type "generator", data := .fields #[.int (gs.size : Int) 0, .str (fdAt 94).name (k + 1), .str (fdAt 94).qualname (k + 1 + 1)] }) := Ext.push _ _
  have key : ∀ (o : Obj) k', o.cls = .type "generator" → o.slots = #[] → (∃ nm qn, o.data = .fields #[.int (gs.size : Int) 0, nm, qn]) → R (.ok (.ret (.ref h'.objs.size))) ⟨h'.push o, gs.push (.fresh (.func gbody (genv h.objs.size))), d, k', os⟩ := by
    intro o k' hc hsl ⟨nm, qn, hd⟩
    have hget : (h'.push o).get? (h.objs.size + 1) = some o := by
      have := Heap.get?_push_size (o := o) h' (Obj.isFreed_of_fields hd)
      rwa [hsz] at this
    rw [hsz]
    refine H _ k' ⟨⟨x.trans (Ext.push _ _), rfl, ⟨_, hn.keeps (Ext.push _ _)⟩, ?_, ?_, List.Pairwise.nil, Nat.le_refl _, Nat.lt_succ_self _, .inl rfl⟩, ?_⟩ ⟨o, nm, qn, hget, hc, hd, hsl⟩
    · intro n c hc; exact absurd hc (by show ¬ (none = some c); simp)
    · intro n c hc; cases hc
    · intro y v hy
      simp at hy
      obtain ⟨rfl, rfl⟩ := hy
      exact .inl ⟨rfl, _, hn.keeps (Ext.push _ _), rfl⟩
  exact key _ _ rfl rfl ⟨_, _, rfl⟩
end

/- C12 -/
theorem bump_length (c : List Nat) (b : Nat) : (bump c b).length = max c.length (b + 1) := by
  unfold bump
  simp only [List.length_set]
  split
  · rename_i h
    rw [List.length_append, List.length_replicate, Nat.max_eq_right (Nat.le_succ_of_le h)]; omega
  · rename_i h
    exact (Nat.max_eq_left (Nat.lt_of_not_le h)).symm
theorem wsGo_length : ∀ (X c : List Nat) (b n nt : Nat), (wsGo X c b n nt).1.length ≤ max c.length (b + X.length)
  | [], c, b, n, nt => Nat.le_max_left _ _
  | x :: r, c, b, n, nt => by
    unfold wsGo
    split
    · have := wsGo_length r c (b + 1) (n + 1) nt
      rw [List.length_cons, show b + (r.length + 1) = b + 1 + r.length by omega]
      exact this
    · split
      · have := wsGo_length r (bump c b) 0 (n + 1) (nt + 1)
        rw [bump_length] at this
        rw [List.length_cons]
        exact Nat.le_trans this (Nat.max_le.mpr ⟨Nat.max_le.mpr ⟨Nat.le_max_left _ _, Nat.le_trans (by omega) (Nat.le_max_right _ _)⟩, Nat.le_trans (by omega) (Nat.le_max_right _ _)⟩)
      · exact Nat.le_max_left _ _
/-- the column of a lead by `Whitespace` -/
noncomputable def lev (X : List Nat) (ts : Nat) : Nat := level (wsGo X [] 0 0 0).1 (wsGo X [] 0 0 0).2.1 (wsGo X [] 0 0 0).2.2.2 ts

section
variable {prog : Program} {w : World} {A : Around} {E : Value → Shared → Prop} {env : Env} {h : Heap} {gs : Array GenState} {d : Drawn} {k : Nat} {os : OsState} {Q : Value → Shared → Prop}
theorem r_lev {e arg : PySem.Expr} {np cpos apos pos : Pos} {pl : Sem Bool} (r : Rm A 2) (cx : Cx w h)
    (hk : env.scope.kind = .function) (hx : env.kindOf "Whitespace" = some .globalImplicit) (hg : env.globals = mainGlobals)
    (hs : starEach [e] env = (false, eval e env) :: starEach [] env) (hs2 : starEach [arg] env = (false, eval arg env) :: starEach [] env)
    (H : wpAny (model prog w) A (eval e env) (fun v s₁ => ∃ X t h₁ k₁, v = .str (S X) t ∧ s₁ = ⟨h₁, gs, d, k₁, os⟩ ∧ Ext h h₁ ∧ X.length ≤ 100 ∧ ∀ h₂ k₂, Ext h₁ h₂ →
      wpAny (model prog w) A (eval arg env) (fun v2 s₂ => ∃ (ts : Nat) (t2 : Tok) (h₃ : Heap) (k₃ : Nat), v2 = .int (ts : Int) t2 ∧ s₂ = ⟨h₃, gs, d, k₃, os⟩ ∧ Ext h₂ h₃ ∧ 0 < ts ∧ ts < 1000000 ∧ ∀ h₄ k₄ t₄, Ext h₃ h₄ → Q (.int (lev X ts : Int) t₄) ⟨h₄, gs, d, k₄, os⟩) E ⟨h₂, gs, d, k₂, os⟩) E ⟨h, gs, d, k, os⟩)
    (he : eval (.Call (.Attribute (.Call (.Name "Whitespace" np) [e] [] cpos) "indent_level" apos) [arg] [] pos) env = (do
      let ov ← eval (.Call (.Name "Whitespace" np) [e] [] cpos) env
      standAt apos.atName
      let (f, first) ← holding [ov] (getMethod ov "indent_level" pl)
      callWith pos f first (backTo pos (starEach [arg] env)) []) := by rfl) :
    wpAny (model prog w) A (eval (.Call (.Attribute (.Call (.Name "Whitespace" np) [e] [] cpos) "indent_level" apos) [arg] [] pos) env) Q E ⟨h, gs, d, k, os⟩ := by
  refine r_meth (pl := pl) (r_callK cx rfl rfl hk hx hg (by decide) hs rfl (a_cons hs (wpAny_mono H (fun v s₁ q => ?_) fun _ _ e => e))) he
  obtain ⟨X, t, h₁, k₁, rfl, rfl, x₁, hX, q⟩ := q
  have c₁ := cx.ext x₁
  refine a_nil ⟨c₁.K, ws_new r c₁ X t hX fun x h₂ k₂ c b n nt x₂ hx2 hgo hw => ?_⟩
  have c₂ := c₁.ext x₂
  obtain ⟨dx, _, _, _, _, _, _, _, _, _, _, _, _, hox, hod, _⟩ := id hw
  refine o_meth c₂ hox hod rfl rfl rfl (r_withK c₂ rfl hs2 rfl (a_cons hs2 (wpAny_mono (q h₂ k₂ x₂) (fun v2 s₂ q2 => ?_) fun _ _ e => e)))
  obtain ⟨ts, t2, h₃, k₃, rfl, rfl, x₃, h0, h1, q2⟩ := q2
  have c₃ := c₂.ext x₃
  have hcl : c.length ≤ 1000 := by
    have := wsGo_length X [] 0 0 0
    rw [hgo] at this
    simp at this
    omega
  refine a_nil ⟨c₃.K, wpAny_call (il_spec (r.le (by omega)) c₃ (hw.ext x₃) ts t2 h0 h1 hcl fun h₄ k₄ t₄ x₄ => ?_)⟩
  have e : level c b nt ts = lev X ts := by unfold lev; rw [hgo]
  rw [e]
  exact q2 h₄ k₄ t₄ x₄
end

/-- the shortest beginning that comes up to the size: how many signs -/
noncomputable def firstK (Y : List Nat) (z : Nat) : Nat → Nat → Nat
  | 0, k => k
  | f + 1, k => if k ≤ Y.length ∧ lev (Y.take k) z < z then firstK Y z f (k + 1) else k
theorem firstK_stop {Y : List Nat} {z : Nat} {f k : Nat} (h : ¬ (k ≤ Y.length ∧ lev (Y.take k) z < z)) : firstK Y z f k = k := by
  cases f with
  | zero => rfl
  | succ f => unfold firstK; rw [if_neg h]
theorem firstK_ge (Y : List Nat) (z : Nat) : ∀ f k, k ≤ firstK Y z f k
  | 0, k => Nat.le_refl _
  | f + 1, k => by
    unfold firstK
    split
    · have := firstK_ge Y z f (k + 1); omega
    · exact Nat.le_refl _
noncomputable def standGo (out : Nat → Option Int) : Nat → Nat → List Nat → Nat → Nat
  | 0, _, _, _ => 0
  | f + 1, j, Y, col => match out j with
    | none => col + lev Y 1
    | some z => if Y.length < firstK Y z.toNat Y.length 1 then col + lev Y z.toNat else standGo out f (j + 1) (Y.drop (firstK Y z.toNat Y.length 1)) (col + z.toNat)
noncomputable def standF (X : List Nat) (ns : List Int) : Nat := standGo (gOut none ns) (X.length + 2) 0 X 0
theorem gOut_mem : ∀ (ns : List Int) (last : Option Int) (j : Nat) (z : Int), gOut last ns j = some z → (z ∈ ns ∧ z ≠ 0) ∨ last = some z
  | [], _, _, _, h => by simp [gOut] at h
  | y :: r, last, j, z, h => by
    unfold gOut at h
    split at h
    · cases h
    · split at h
      · exact .inr h
      · rename_i h7 h0
        cases j with
        | zero => simp at h; subst h; exact .inl ⟨List.mem_cons_self, h0⟩
        | succ j =>
          rcases gOut_mem r (some y) j z h with q | q
          · exact .inl ⟨List.mem_cons_of_mem _ q.1, q.2⟩
          · injection q with q; subst q; exact .inl ⟨List.mem_cons_self, h0⟩

/- C13 -/
inductive StandInv (prog : Program) (w : World) (A : Around) (d : Drawn) (os : OsState) (h : Heap) (L C gi : Nat) (X : List Nat) (ns : List Int) (m : Nat) (s : Shared) : Prop
  | mk (h' : Heap) (gs' : Array GenState) (k' : Nat) (Y : List Nat) (col n f : Nat) (tc tl : Tok) (e₁ : s = ⟨h', gs', d, k', os⟩) (e₂ : m = Y.length)
      (h1 : Frm h (callEnvC (fdAt 121) L 121) (L + 1) h' [("column", .int (col : Int) tc), ("line", .str (S Y) tl)])
      (h2 : GenLive prog w A C L (L + 1) (X.length + 3) (gOut none ns) gi n h' gs') (h3 : AllBare gs') (h4 : Y.length ≤ X.length) (h5 : Y.length + 3 ≤ n) (h6 : n ≤ X.length + 3) (h7 : Y.length < f)
      (h8 : standGo (gOut none ns) f (X.length + 3 - n) Y col = standF X ns)
theorem stand_spec {prog : Program} {w : World} {A : Around} {h : Heap} {gs : Array GenState} {d : Drawn} {k : Nat} {os : OsState} (r : Rm A 3) (cx : Cx w h) (X : List Nat) (t : Tok) (hX : X.length ≤ 100) {l : Addr} {ns : List Int} (hl : IL h l ns)
    (hns : ∀ z ∈ ns, 0 ≤ z ∧ z < 1000000) (h0 : ns.head? ≠ some 0) (B : AllBare gs)
    {R : Result → Shared → Prop} (H : ∀ h' k' t' gs', Ext h h' → AllBare gs' → R (.ok (.ret (.int (standF X ns : Int) t'))) ⟨h', gs', d, k', os⟩) :
    codeAny (model prog w) A (.call (.ref 121) ⟨[.str (S X) t, .ref l], []⟩) R ⟨h, gs, d, k, os⟩ := by
  refine enterF (fd := fdAt 121) (n := 2) [("line", .str (S X) t), ("sizes", .ref l)] ["line", "sizes"] r cx rfl rfl rfl rfl rfl rfl rfl rfl (by decide) (fun h₁ k₁ F c₁ r₁ E => ?_) rfl rfl rfl
  change Frm h (callEnvC (fdAt 121) h.objs.size 121) (h.objs.size + 1) h₁ _ at F
  generalize hA : A.deeper (callEnvC (fdAt 121) h.objs.size 121) = A' at r₁ ⊢
  clear hA
  generalize hL : h.objs.size = L at *
  as_aux_lemma =>
  refine hidQ fun Q₀ hQ₀ => ?_
  refine s_set F (.inl rfl) rfl (r_int fun t₀ k₂ => ⟨_, _, rfl, Ext.refl _, fun h₂ k₃ F₂ o₂ => ?_⟩)
  replace F₂ : Frm h (callEnvC (fdAt 121) L 121) (L + 1) h₂ [("column", .int 0 t₀), ("line", .str (S X) t), ("sizes", .ref l)] := F₂
  have c₂ := cx.ext F₂.ok.keep
  have hsz₂ := F₂.ok.size
  refine s_for (fun _ => rfl) (r_callK c₂ rfl rfl rfl rfl rfl (by decide) rfl rfl (a_cons rfl ?_))
  walk_at "nm"
  refine a_nil ⟨c₂.K, wpAny_call (gen_call r₁ c₂ fun h₃ k₄ G₃ hg₃ => ?_)⟩
  refine wpAny_pyIter_gen hg₃ ?_
  have x₃ := G₃.ok.keep
  have F₃ := F₂.ext x₃
  generalize hC : h₂.objs.size = C at *
  have L₃ : GenLive prog w A' C L (L + 1) (X.length + 3) (gOut none ns) gs.size (X.length + 3) h₃ (gs.push (.fresh (.func gbody (genv C)))) := by
    refine ⟨hg₃, _, Array.getElem?_push_size .., fun s'' o'' => ?_⟩
    have Gb := G₃.base F₂.ok.keep (by omega)
    refine gen_start (g := h) (show A'.in1.handled = none from r₁.hh) cx (Nat.le_of_eq hL) (Nat.le_succ _) (by omega) hl h0 (by omega) ?_ ?_
    · exact Gb.keepOn fun b o hb e => o'' b o (hb.imp (fun q => Nat.lt_of_lt_of_eq q hL) fun q => Nat.le_trans hsz₂ (show C ≤ b from q.1)) e
    · obtain ⟨ob, _, _, ho, _⟩ := hg₃
      exact ⟨ob, o'' _ _ (.inr (by omega)) ho⟩
  generalize hgs₃ : gs.push (.fresh (.func gbody (genv C))) = gs₃ at *
  have B₃ : AllBare gs₃ := hgs₃ ▸ B.push rfl
  clear hgs₃ hC
  as_aux_lemma =>
  refine codeAny_forLoop (StandInv prog w A' d os h L C gs.size X ns) ?_ X.length
    ⟨h₃, gs₃, k₄, X, 0, X.length + 3, X.length + 2, t₀, t, rfl, rfl, F₃.sub (by walk_at "sub"), L₃, B₃, Nat.le_refl _, Nat.le_refl _, Nat.le_refl _, by omega, by rw [Nat.sub_self]; rfl⟩ (fun _ => rfl)
  intro m s inv
  refine hidE fun E₁ _ => hidQ fun Q₁ hQ₁ => ?_
  as_aux_lemma =>
  obtain ⟨h₄, gs₄, k₅, Y, col, n, f, tc, tl, rfl, rfl, F₄, L₄, B₄, hYX, hn3, hnX, hf, hgo⟩ := inv
  obtain ⟨f, rfl⟩ : ∃ f', f = f' + 1 := ⟨f - 1, by omega⟩
  have hlow : ∀ {ha hb : Heap}, (∀ b o, (b < C ∨ b = C + 1) → ha.get? b = some o → hb.get? b = some o) → Low (L + 1) ha hb := fun q b o hb e => q b o (.inl (Nat.lt_of_lt_of_le hb hsz₂)) e
  refine r_next r₁ (cx.ext F₄.ok.keep).nolimit L₄ B₄ (by omega) hnX ?_ ?_
  · -- a gap
    intro z tz h₅ k₆ gs₅ hz hk₅ B₅ L₅
    have F₅ := F₄.low (hlow hk₅)
    have hzr : 0 < z ∧ z < 1000000 := by
      rcases gOut_mem ns none _ z hz with ⟨q, q0⟩ | q
      · have := hns z q; omega
      · cases q
    obtain ⟨Z, rfl⟩ : ∃ Z : Nat, z = (Z : Int) := ⟨z.toNat, by omega⟩
    have hgo' : (if Y.length < firstK Y Z Y.length 1 then col + lev Y Z else standGo (gOut none ns) f (X.length + 3 - n + 1) (Y.drop (firstK Y Z Y.length 1)) (col + Z)) = standF X ns := by
      rw [← hgo, standGo, hz]; rfl
    refine hQ₁ _ _ (hidE fun E₂ _ => s_assign (.inl rfl) F₅ fun h₆ k₇ F₆ o₆ => hidQ fun Q₂ hQ₂ => ?_)
    clear hQ₁ Q₁
    as_aux_lemma =>
    replace F₆ : Frm h (callEnvC (fdAt 121) L 121) (L + 1) h₆ [("size", .int (Z : Int) tz), ("column", .int (col : Int) tc), ("line", .str (S Y) tl)] := F₆
    have L₆ := L₅.keep (by omega) o₆
    refine s_set F₆ (.inl rfl) rfl (r_int fun t₁ k₈ => ⟨_, _, rfl, Ext.refl _, fun h₇ k₉ F₇ o₇ => ?_⟩)
    replace F₇ : Frm h (callEnvC (fdAt 121) L 121) (L + 1) h₇ [("k", .int 1 t₁), ("size", .int (Z : Int) tz), ("column", .int (col : Int) tc), ("line", .str (S Y) tl)] := F₇
    have L₇ := L₆.keep (by omega) o₇
    refine s_while (fun m h' => ∃ (kk : Nat) (tk : Tok), Frm h (callEnvC (fdAt 121) L 121) (L + 1) h' [("k", .int (kk : Int) tk), ("size", .int (Z : Int) tz), ("column", .int (col : Int) tc), ("line", .str (S Y) tl)] ∧ Out L (L + 1) h₇ h' ∧ 1 ≤ kk ∧ kk ≤ Y.length + 1 ∧ m = Y.length + 1 - kk ∧ firstK Y Z (Y.length + 1 - kk) kk = firstK Y Z Y.length 1)
      (fun h' => ∃ (tk : Tok), Frm h (callEnvC (fdAt 121) L 121) (L + 1) h' [("k", .int (firstK Y Z Y.length 1 : Int) tk), ("size", .int (Z : Int) tz), ("column", .int (col : Int) tc), ("line", .str (S Y) tl)] ∧ Out L (L + 1) h₇ h') Y.length
      ⟨1, t₁, F₇, Out.refl _ _ _, Nat.le_refl _, by omega, by omega, by rw [Nat.add_sub_cancel]⟩ ?_ ?_
    · rintro m h₈ k₁₀ E' ⟨kk, tk, F₈, o₈, hk1, hk2, rfl, hfk⟩
      have c₈ := cx.ext F₈.ok.keep
      refine cut (fun b h' => b = decide (kk ≤ Y.length ∧ lev (Y.take kk) Z < Z)) (r_and (r_test ?_)) ?_
      · walk_at "nm"
        refine r_call1b c₈ (g_len w) boot_len (by decide) rfl rfl rfl rfl (by decide) rfl ?_
        walk_at "nm"
        refine r_lenS (by omega) fun t₂ k₁₁ => r_le ⟨_, rfl, fun hf => ⟨_, _, rfl, Ext.refl _, ?_⟩, fun ht => ?_⟩
        · have := of_decide_eq_false hf
          exact (decide_eq_false fun q => this (by omega)).symm
        · have hle : kk ≤ Y.length := by have := of_decide_eq_true ht; omega
          refine r_test (r_lev r₁ c₈ rfl rfl rfl rfl rfl (r_sl_ns ?_))
          walk_at "nm"
          walk_at "nm"
          refine ⟨Y, _, kk, _, rfl, rfl, by omega, fun h₉ t₃ k₁₂ x₉ => ⟨Y.take kk, t₃, h₉, k₁₂, rfl, rfl, x₉, by rw [List.length_take]; omega, fun h₁₀ k₁₃ x₁₀ => ?_⟩⟩
          have F₁₀ := F₈.ext (x₉.trans x₁₀)
          walk_at "nm"
          refine ⟨Z, _, _, _, rfl, rfl, Ext.refl _, by omega, by omega, fun h₁₁ k₁₄ t₄ x₁₁ => ?_⟩
          have F₁₁ := F₁₀.ext x₁₁
          walk_at "nm"
          refine r_lt ⟨_, rfl, _, _, rfl, (x₉.trans x₁₀).trans x₁₁, ?_⟩
          rw [decide_eq_decide]
          exact ⟨fun q => ⟨hle, by omega⟩, fun q => by omega⟩
      · rintro b h₉ k₁₁ x₉ rfl
        have F₉ := F₈.ext x₉
        refine ⟨fun hb => ?_, fun hb => ?_⟩
        · have hc := of_decide_eq_true hb
          refine s_set F₉ (.inl rfl) rfl (r_binop ?_)
          walk_at "nm"
          refine r_int fun t₂ k₁₂ => r_add fun t₃ k₁₃ => ⟨_, _, rfl, Ext.refl _, fun h₁₀ k₁₄ F₁₀ o₁₀ => s_nil ⟨_, _, rfl, Y.length + 1 - (kk + 1), by omega, kk + 1, t₃, F₁₀, (o₈.trans x₉.out).trans o₁₀, by omega, by omega, rfl, ?_⟩⟩
          rw [← hfk, show Y.length + 1 - kk = (Y.length + 1 - (kk + 1)) + 1 by omega]
          rw [firstK, if_pos hc]
        · have hc := of_decide_eq_false hb
          refine ⟨_, _, rfl, tk, ?_, o₈.trans x₉.out⟩
          rw [← hfk, firstK_stop hc]
          exact F₉
    · rintro h₈ k₁₀ ⟨tk, F₈, o₈⟩
      have L₈ := L₇.keep (by omega) o₈
      have c₈ := cx.ext F₈.ok.keep
      have hK1 := firstK_ge Y Z Y.length 1
      generalize hK : firstK Y Z Y.length 1 = K at *
      as_aux_lemma =>
      refine s_if (hidQ fun Q₃ hQ₃ => r_test ?_)
      walk_at "nm"
      refine r_call1b c₈ (g_len w) boot_len (by decide) rfl rfl rfl rfl (by decide) rfl ?_
      walk_at "nm"
      refine r_lenS (by omega) fun t₂ k₁₁ => r_gt ⟨_, rfl, hQ₃ _ _ ⟨fun hb => ?_, fun hb => ?_⟩⟩
      · have hlt : Y.length < K := by have := of_decide_eq_true hb; omega
        rw [if_pos hlt] at hgo'
        refine s_ret (r_binop ?_)
        walk_at "nm"
        refine r_lev r₁ c₈ rfl rfl rfl rfl rfl ?_
        walk_at "nm"
        refine ⟨Y, _, _, _, rfl, rfl, Ext.refl _, by omega, fun h₉ k₁₂ x₉ => ?_⟩
        have F₉ := F₈.ext x₉
        walk_at "nm"
        refine ⟨Z, _, _, _, rfl, rfl, Ext.refl _, by omega, by omega, fun h₁₀ k₁₃ t₃ x₁₀ => r_add fun t₄ k₁₄ => hQ₂ _ _ (hQ₀ _ _ ?_)⟩
        have := H h₁₀ k₁₄ t₄ gs₅ (F₉.ok.keep.trans x₁₀) B₅
        rw [← hgo', Int.natCast_add] at this
        exact this
      · have hle : K ≤ Y.length := by have := of_decide_eq_false hb; omega
        rw [if_neg (by omega)] at hgo'
        refine s_nil ?_
        refine s_set F₈ (.inl rfl) rfl (r_binop ?_)
        walk_at "nm"
        walk_at "nm"
        refine r_add fun t₃ k₁₂ => ⟨_, _, rfl, Ext.refl _, fun h₉ k₁₃ F₉ o₉ => ?_⟩
        replace F₉ : Frm h (callEnvC (fdAt 121) L 121) (L + 1) h₉ [("column", .int ((col : Int) + (Z : Int)) t₃), ("k", .int (K : Int) tk), ("size", .int (Z : Int) tz), ("line", .str (S Y) tl)] := F₉
        have L₉ := L₈.keep (by omega) o₉
        refine s_set F₉ (.inl rfl) rfl (r_sl_sn ?_)
        walk_at "nm"
        walk_at "nm"
        refine ⟨Y, _, K, _, rfl, rfl, by omega, fun h₁₀ t₄ k₁₄ x₁₀ => ⟨_, _, rfl, x₁₀, fun h₁₁ k₁₅ F₁₁ o₁₁ => ?_⟩⟩
        replace F₁₁ : Frm h (callEnvC (fdAt 121) L 121) (L + 1) h₁₁ [("line", .str (S (Y.drop K)) t₄), ("column", .int ((col : Int) + (Z : Int)) t₃), ("k", .int (K : Int) tk), ("size", .int (Z : Int) tz)] := F₁₁
        have L₁₁ := (L₉.keep (by omega) x₁₀.out).keep (by omega) o₁₁
        have hdl : (Y.drop K).length = Y.length - K := List.length_drop
        refine s_nil (hQ₂ _ _ ⟨(Y.drop K).length, by omega, h₁₁, gs₅, k₁₅, Y.drop K, col + Z, n - 1, f, t₃, t₄, rfl, rfl, ?_, L₁₁, B₅, by omega, by omega, by omega, by omega, ?_⟩)
        · rw [Int.natCast_add]
          exact F₁₁.sub (by walk_at "sub")
        · rw [← hgo', show X.length + 3 - (n - 1) = X.length + 3 - n + 1 by omega]
  · -- the ruler's end
    intro h₅ k₆ gs₅ hz hk₅ B₅
    have F₅ := F₄.low (hlow hk₅)
    have c₅ := cx.ext F₅.ok.keep
    refine hQ₁ _ _ (wpAny_execs_nil (hidE fun E₂ _ => ?_))
    clear hQ₁ Q₁
    refine s_ret (r_binop ?_)
    walk_at "nm"
    refine r_lev r₁ c₅ rfl rfl rfl rfl rfl ?_
    walk_at "nm"
    refine ⟨Y, _, _, _, rfl, rfl, Ext.refl _, by omega, fun h₆ k₇ x₆ => r_int fun t₁ k₈ => ⟨1, _, _, _, rfl, rfl, Ext.refl _, by omega, by omega, fun h₇ k₉ t₂ x₇ => r_add fun t₃ k₁₀ => hQ₀ _ _ ?_⟩⟩
    have e : col + lev Y 1 = standF X ns := by rw [← hgo, standGo, hz]
    have := H h₇ k₁₀ t₃ gs₅ ((F₅.ok.keep.trans x₆).trans x₇) B₅
    rw [← e, Int.natCast_add] at this
    exact this

/- MT -/
section
variable {M : Model} {A : Around} {E : Value → Shared → Prop} {s : Shared}
/-- an exception that no frame has noted yet -/
inductive Unnoted (base h : Heap) (e : Addr) (cls a0 : Value) : Prop
  | mk (oe : Obj) (vs : Array Value) (he : h.get? e = some oe) (hc : oe.cls = cls) (hd : oe.data = .fields vs) (h1 : vs[1]? = some .none) (h0 : vs[0]? = some a0) (hb : base.get? e = none)
theorem note_first {base : Heap} {env : Env} {outer : List Env} {L e : Addr} {cls a0 : Value} {Q : Unit → Shared → Prop} (hf : env.frame = some L) (hfr : A.frames = some (env :: outer)) (x : Unnoted base s.heap e cls a0) (hkb : base.StaysIn s.heap)
    (hl : s.heap.FunFrames base (env :: outer)) (h : ∀ h', Heap.NotedW base (env :: outer) e cls a0 (rawInt L) s.heap h' → Q () { s with heap := h' }) : wpAny M A (noteFrame (.ref e) env) Q E s := by
  obtain ⟨oe, vs, he, rfl, hd, h1, h0, hb⟩ := x
  rw [show noteFrame (.ref e) env = _ by unfold noteFrame; simp only [hf]; rfl]
  exact wpAny_bind (wpAny_field he hd h1 (by rw [if_neg (by decide)]; exact wpAny_entryW hfr hl hf he hkb hb hd (Array.getElem?_eq_some_iff.mp h1).1 h0 h))
/-- the heap with another word at the place where a traceback tells its flight -/
structure Put3 (base : Heap) (l : List Env) (e : Addr) (cls a0 v : Value) (h h' : Heap) : Prop where
  stays : base.StaysIn h'
  funs : h'.FunFrames base l
  traced : h'.TracedAtW base e cls a0 v
  kept : h.UpToSlots h'
theorem put3 {base h : Heap} {l : List Env} {e : Addr} {cls a0 fl : Value} (hb : base.StaysIn h) (hl : h.FunFrames base l) (ht : h.TracedAtW base e cls a0 fl) :
    ∃ T oT ts, (∃ oe vs, h.get? e = some oe ∧ oe.data = .fields vs ∧ vs[1]? = some (.ref T)) ∧ h.get? T = some oT ∧ oT.data = .fields ts ∧ 3 < ts.size ∧
      ∀ v, Put3 base l e cls a0 v h (h.update T (Obj.mapFields (·.setIfInBounds 3 v))) := by
  obtain ⟨oe, vs, T, oT, ts, he, hcls, hd, h1, hnT, hTe, hT, hdT, h3⟩ := ht
  have lt : 3 < ts.size := (Array.getElem?_eq_some_iff.mp h3).1
  refine ⟨T, oT, ts, ⟨oe, vs, he, hd, h1⟩, hT, hdT, lt, fun v => ?_⟩
  have same {b : Addr} (q : b ≠ T) : (h.update T (Obj.mapFields (·.setIfInBounds 3 v))).get? b = h.get? b := Heap.get?_update_other _ _ q.symm
  have kept {b : Addr} {o : Obj} (hbo : h.get? b = some o) (nf : ∀ ws, o.data ≠ .fields ws) : (h.update T (Obj.mapFields (·.setIfInBounds 3 v))).get? b = some o := by
    by_cases q : b = T
    · subst q
      exact absurd hdT (nf ts ∘ (Option.some.inj (hbo.symm.trans hT) ▸ ·))
    · rw [same q, hbo]
  constructor
  · intro b o hbo
    rw [same (by rintro rfl; exact nomatch hnT.symm.trans hbo)]
    exact hb b o hbo
  · exact hl.of_keeps fun b o q nf => ⟨o, kept q nf, rfl⟩
  · exact ⟨oe, vs, T, _, _, by rw [same hTe.symm, he], hcls, hd, h1, hnT, hTe, Heap.get?_update_self _ hT (Obj.isFreed_of_fields (Obj.data_mapFields hdT _)), Obj.data_mapFields hdT _, by simp [lt]⟩
  · exact fun b o q nf => ⟨o.slots, kept q nf⟩
theorem came_back {base : Heap} {env : Env} {l : List Env} {e L : Addr} {cls a0 : Value} {Q : Unit → Shared → Prop} (hf : env.frame = some L) (hh : Heap.HeldW base l e cls a0 L s.heap)
    (hQ : ∀ h', Heap.HeldW base l e cls a0 L h' → s.heap.UpToSlots h' → Q () { s with heap := h' }) :
    wpAny M A (do
      if (← field (.ref e) 1) == Value.none then unsupported "frame.own-activation:exception-without-traceback"
      setFlight (.ref e) env.frame : Sem Unit) Q E s := by
  obtain ⟨T, oT, ts, ⟨oe, vs, he, hd, h1⟩, hT, hdT, lt, put⟩ := put3 hh.1 hh.2.2.1 hh.2.2.2
  have P := put (rawInt L)
  refine wpAny_bind (wpAny_field he hd h1 ?_)
  rw [hf, if_neg (by simp)]
  refine wpAny_bind (wpAny_field he hd h1 ?_)
  rw [if_pos (by simp)]
  exact wpAny_setField hT hdT lt (hQ _ ⟨P.stays, hh.2.1, P.funs, P.traced⟩ P.kept)
/-- what flies below a frame -/
theorem flying_below {base h : Heap} {env : Env} {outer : List Env} {e : Addr} {cls a0 : Value} (x : Heap.FlyingW base (env :: outer) e cls a0 h) : Heap.FlyingW base outer e cls a0 h :=
  ⟨x.1, x.2.1, x.2.2.1.2.2, x.2.2.2⟩
theorem leaves_held {base : Heap} {env : Env} {outer : List Env} {L e : Addr} {cls a0 : Value} {Q : Unit → Shared → Prop} (hf : env.frame = some L)
    (hh : Heap.HeldW base (env :: outer) e cls a0 L s.heap) (hQ : ∀ h', Heap.FlyingW base outer e cls a0 h' → s.heap.UpToSlots h' → Q () { s with heap := h' }) : wpAny M A (leaving env (.ref e)) Q E s :=
  wpAny_bind (wpAny_noteFrame_againW hf hh.2.2.2 (wpAny_landsW hh fun h' F => hQ h' (flying_below F)))
end

/-- a heap without one of its objects -/
noncomputable def without (h : Heap) (a : Addr) : Heap := h.update a fun o => { o with data := .freed }
theorem without_self (h : Heap) (a : Addr) : (without h a).get? a = none := by
  cases e : (without h a).get? a with
  | none => rfl
  | some o =>
    obtain ⟨e1, e2⟩ := Heap.get?_some_iff.mp e
    obtain ⟨objs, l⟩ := h
    have e1 : (objs.modify a fun o => { o with data := .freed })[a]? = some o := e1
    rw [Array.getElem?_modify, if_pos rfl] at e1
    cases q : objs[a]? with
    | none => rw [q] at e1; cases e1
    | some o' => rw [q] at e1; cases e1; cases e2
theorem without_other (h : Heap) (a : Addr) {b : Addr} (hb : b ≠ a) : (without h a).get? b = h.get? b := Heap.get?_update_other _ _ (Ne.symm hb)

/- MT2 -/
/-- namespaces away from one are kept -/
noncomputable def NsKept (C : Addr) (h h' : Heap) : Prop := ∀ b m, b ≠ C → h.Ns b m → h'.Ns b m
theorem NsKept.refl (C : Addr) (h : Heap) : NsKept C h h := fun _ _ _ x => x
theorem NsKept.trans {C : Addr} {h h' h'' : Heap} (a : NsKept C h h') (b : NsKept C h' h'') : NsKept C h h'' := fun x m n q => b x m n (a x m n q)
theorem NsKept.up {C : Addr} {h h' : Heap} (u : h.UpToSlots h') : NsKept C h h' := fun _ _ _ x => u.ns x
theorem NsKept.ext {C : Addr} {h h' : Heap} (u : Ext h h') : NsKept C h h' := fun _ _ _ x => x.keeps u

noncomputable def KeptBut (C : Addr) (h h' : Heap) : Prop := ∀ b o, b ≠ C → h.get? b = some o → h'.get? b = some o
theorem KeptBut.trans {C : Addr} {h h' h'' : Heap} (a : KeptBut C h h') (b : KeptBut C h' h'') : KeptBut C h h'' := fun x o n q => b x o n (a x o n q)
theorem NsKept.but {C : Addr} {h h' : Heap} (u : KeptBut C h h') : NsKept C h h' := fun b _ hb x => x.at' fun o e => u b o hb e
theorem funFrames_but {C : Addr} {h h' base : Heap} (u : KeptBut C h h') : ∀ {l : List Env}, (∀ env ∈ l, env.frame ≠ some C) → h.FunFrames base l → h'.FunFrames base l
  | [], _, _ => trivial
  | env :: rest, hne, ⟨hk, ⟨L, o, hf, hn, ho, hd⟩, hr⟩ =>
    ⟨hk, ⟨L, o, hf, hn, u L o (fun e => hne env List.mem_cons_self (by rw [hf, e])) ho, hd⟩, funFrames_but u (fun e he => hne e (List.mem_cons_of_mem _ he)) hr⟩

noncomputable def eR (base : Heap) (outer : List Env) (C : Addr) : GenEnd := fun _ s₀ r s₁ => ∃ e a0 h₁ tk, r = .error (.ref e) ∧ s₁ = { s₀ with heap := h₁, toks := tk } ∧ Heap.FlyingW base outer e (.type "ValueError") a0 h₁ ∧ NsKept C s₀.heap h₁
noncomputable def eY : Protocol := fun _ _ _ _ _ => False
theorem boot_VE : bootBuiltins "ValueError" = some (.type "ValueError") := by decide +kernel
theorem over_func {A : Around} {b : List Stmt} {env : Env} {outer : List Env} (h : A.frames = some outer) : (A.over (.func b env) []).frames = some (env :: outer) := by
  show pushEnvs [env] (pushEnvs [] A.frames) = _
  rw [h]; rfl
theorem over_for {A : Around} {b b' : List Stmt} {env env' : Env} {outer : List Env} {t : PySem.Expr} {it : Value} {k : Result → Sem PySem.Fin} {p : Pos} {gd : Bool} {l : List Value} (h : A.frames = some outer) :
    (A.over (.forLoop t it b' [] env') [.ret k none gd l (.func b env) p []]).frames = some (env :: outer) := by
  show pushEnvs [] (pushEnvs [env] A.frames) = _
  rw [h]; rfl

section
variable {prog : Program} {w : World} {A : Around} {g : Heap} {C : Nat}
theorem gen_raise {l : Addr} {ns : List Int} {base : Heap} {outer : List Env} (hh : A.handled = none) (hfr : A.frames = some outer) (cx : Cx w g) (hl : IL g l (0 :: ns))
    {s : Shared} (F : Frm g (genv C) (C + 1) s.heap [("grouping", .ref l)]) (hb : base.StaysIn s.heap) (hbC : base.get? C = none) (hfun : s.heap.FunFrames base outer) (hne : ∀ env ∈ outer, env.frame ≠ some C) :
    (GenState.fresh (.func gbody (genv C))).Goes (model prog w) A (eR base outer C) eY 0 (.send .none) s := by
  refine ⟨rfl, ?_⟩
  obtain ⟨h, gs, d, k, os⟩ := s
  obtain ⟨vs, hv, hvi⟩ := hl
  refine seg_func ?_
  refine seg_execs_cons (seg_wrap (wpAny_Assign_Name (r_none ?_) rfl))
  refine store_var F (.inl rfl) fun h₁ k₁ F₁ o₁ => ?_
  replace F₁ : Frm g (genv C) (C + 1) h₁ [("last_interval", .none), ("grouping", .ref l)] := F₁
  have but : ∀ {ha hb : Heap}, Out C (C + 1) ha hb → KeptBut C ha hb := fun q b o hb e => q b o (Nat.lt_or_gt_of_ne hb) e
  have u₁ : KeptBut C h h₁ := but o₁
  have hC₁ := F₁.ok.size
  refine seg_execs_cons (g_for (fun _ => rfl) ?_)
  walk_at "nm"
  have hv₁ : h₁.IsList l vs.toArray := isList_ext hv F₁.ok.keep
  refine r_iterL hv₁ fun ob St hW hStz st p => ?_
  refine g_forLoop (fun _ => rfl) ?_
  have hvl := hvi.length
  refine (hW _ ?hd).item 0 _ _ _ (by rw [hvl]; simp) st fun v h₂ tk hv2 st₂ hk₂ => ?_
  case hd => simp [Around.over, marksOver, Frame.marks, markOver, hh]
  obtain ⟨tv, hv'⟩ := intsAre_get hvi (i := 0) (by simp)
  rw [hv'] at hv2
  cases hv2
  have u₂ : KeptBut C h₁ h₂ := fun b o hb e => hk₂ b o (ne_mem1 (Heap.lt_size e)) (Heap.get?_push_of_some _ e)
  have F₂ := (F₁.ext (Ext.push h₁ ob)).low (h' := h₂) fun b o hb e => hk₂ b o (ne_mem1 (Nat.lt_of_lt_of_le hb hC₁)) e
  refine s_assign (.inl rfl) F₂ fun h₃ k₃ F₃ o₃ => ?_
  replace F₃ : Frm g (genv C) (C + 1) h₃ [("interval", .int 0 tv), ("last_interval", .none), ("grouping", .ref l)] := F₃
  have u₃ : KeptBut C h h₃ := (u₁.trans u₂).trans (but o₃)
  have c₃ := cx.ext F₃.ok.keep
  refine seg_execs_cons (g_if (r_test ?_))
  walk_at "nm"
  refine r_glob c₃ rfl (r_eq ⟨_, rfl, fun hb => (by cases hb), fun _ => seg_execs_nil ?_⟩) rfl rfl rfl
  refine seg_execs_cons (g_if (r_test ?_))
  walk_at "nm"
  refine r_int fun t₁ k₄ => r_eq ⟨_, rfl, fun _ => ?_, fun hb => (by cases hb)⟩
  refine seg_execs_cons (g_if (r_test ?_))
  walk_at "nm"
  refine r_none (wpAny_is_self rfl ⟨_, rfl, fun _ => ?_, fun hb => (by cases hb)⟩)
  refine seg_execs_cons (seg_wrap (wpAny_Raise_call PySem.F.excCall_ValueError PySem.F.excRaise_ValueError (by simp [Around.over, marksOver, Frame.marks, markOver, hh]) rfl ?_))
  refine r_blt c₃ rfl boot_VE (by decide) ⟨rfl, Calls.evalArgs_plain (a_cons rfl (r_str fun t₂ k₅ => a_nil ⟨rfl, (by show 1 ≤ sizeLine; rw [sizeLine_eq]; omega), fun h₄ e hm => ?_⟩))⟩ rfl rfl rfl rfl
  obtain ⟨ta, het, _, _⟩ := hm.there
  have u₄ : KeptBut C h h₄ := u₃.trans fun b o _ q => hm.keeps b o q
  have hne' : ∀ b o, base.get? b = some o → b ≠ C := fun b o q e => by rw [e, hbC] at q; cases q
  have hb₃ : base.StaysIn h₃ := fun b o q => u₃ b o (hne' b o q) (hb b o q)
  have hb₄ : base.StaysIn h₄ := fun b o q => u₄ b o (hne' b o q) (hb b o q)
  have hen : base.get? e = none := by
    cases q : base.get? e with
    | none => rfl
    | some o => have := hb₃ e o q; rw [hm.new] at this; cases this
  obtain ⟨m, hns⟩ := F₃.ok.ns
  have hfun₄ : h₄.FunFrames base (genv C :: outer) := Heap.FunFrames.cons (m := m) (L := C) (fun q => nomatch (show ScopeKind.function = ScopeKind.module from q)) rfl (hns.keeps hm.keeps) hbC (funFrames_but u₄ hne hfun)
  refine seg_wrap (wpAny_bind (note_first (L := C) (cls := .type "ValueError") (a0 := .ref ta) rfl (over_for hfr) ⟨_, _, het, rfl, rfl, rfl, rfl, hen⟩ hb₄ hfun₄ fun h₅ hN => wpAny_theTreesLotGoes ?_))
  obtain ⟨n1, n2, n3, n4⟩ := hN
  refine seg_leaf (.error (.ref e)) ?_
  show Seg _ _ _ _ _ _ _ (Sem.wrap _ _ id id ((do
      if (← field (.ref e) 1) == Value.none then unsupported "frame.own-activation:exception-without-traceback"
      setFlight (.ref e) (genv C).frame : Sem Unit) >>= fun _ => Sem.raise (.ref e))) _ _
  refine seg_bind_wrap (came_back (L := C) rfl ⟨n1, hen, n2, n3⟩ fun h₆ hH u₆ => ?_)
  show Seg _ _ _ _ _ _ _ ((leaving (genv C) (.ref e)).wrap (fun _ => .raise (.ref e)) .raise id id) _ _
  refine seg_wrap (leaves_held (L := C) rfl hH fun h₇ hF u₇ => ?_)
  exact seg_end (.error (.ref e)) ⟨e, .ref ta, h₇, _, rfl, rfl, hF, ((NsKept.but u₄).trans (NsKept.up n4)).trans ((NsKept.up u₆).trans (NsKept.up u₇))⟩
end

/- C14 -/
theorem sub_VE_stop : isSubtype (.type "ValueError") (.type "StopIteration") = pure false := by rw [isSubtype_type]; kernel_rfl
theorem sub_VE_exc : isSubtype (.type "ValueError") (.type "BaseException") = pure true := by rw [isSubtype_type]; kernel_rfl
theorem sub_VE_self : isSubtype (.type "ValueError") (.type "ValueError") = pure true := by rw [isSubtype_type]; kernel_rfl
theorem sub_VE_nt : isSubtype (.type ((Manifest.find? "ValueError").elim "type" fun x => x.metatype)) (.type "tuple") = pure false := by
  have : ((Manifest.find? "ValueError").elim "type" fun x => x.metatype) = "type" := by decide +kernel
  rw [this, isSubtype_type]; kernel_rfl
section
variable {prog : Program} {w : World} {A : Around} {E : Value → Shared → Prop} {s : Shared}
theorem r_nextE {a : Addr} {g : Nat} {c : Code} {base : Heap} {outer : List Env} {C : Addr} {Q : Option Value → Shared → Prop}
    (hh : A.handled = none) (hl : s.heap.NoLimit) (hroom : A.depth < recursionLimit) (hg : s.heap.IsGen a g) (hgb : base.IsGen a g) (hgs : s.gens[g]? = some (.fresh c))
    (hgo : (GenState.fresh c).Goes (model prog w) A.in1 (eR base outer C) eY 0 (.send .none) (s.setGen g .running))
    (hE : ∀ e a0 h₁ tk, Heap.FlyingW base outer e (.type "ValueError") a0 h₁ → NsKept C s.heap h₁ → E (.ref e) { (s.setGen g .running).setGen g .finished with heap := h₁, toks := tk }) :
    wpAny (model prog w) A (pyNext (.ref a)) Q E s := by
  refine ask_next hg (wake_run hh hl hroom hg hgs hgo (fun x s₁ hx => .inr ?_) fun v s₁ gs' hb hv => hv.elim)
  obtain ⟨e, a0, h₁, tk, rfl, rfl, hF, hN⟩ := hx
  have told : ∀ {A' : Around} {E' : Value → Shared → Prop} {P : Bool → Shared → Prop} {s' : Shared}, s'.heap = h₁ → P false s' → wpAny (model prog w) A' (isInstance (.ref e) (.type "StopIteration")) P E' s' := fun q p =>
    wpAny_isInstance (T := "ValueError") (b := false) (let ⟨ob, ho, hc⟩ := hF.there; ⟨ob, by rw [q]; exact ho, hc⟩) sub_VE_stop p
  obtain ⟨ob, nm, qn, hob, hc, hd, hsl⟩ := hgb
  refine ⟨.ref e, rfl, ?_⟩
  unfold Builtin.Generator.genLeft Builtin.Generator.madeByALambda
  refine wpAny_bind (m := do let o ← load a; _) (wpAny_bind (wpAny_load (hF.1 a ob hob) ?_))
  rw [hd]
  refine wpAny_pure (wpAny_bind (told rfl ?_))
  rw [if_neg (by simp)]
  unfold Builtin.Generator.genEscaped
  exact wpAny_bind (told rfl (wpAny_throw (told rfl ⟨fun q => (nomatch q), fun _ => hE e a0 h₁ tk hF hN⟩)))
end

/- C15 -/
theorem refused_spec {prog : Program} {w : World} {A : Around} {h : Heap} {gs : Array GenState} {d : Drawn} {k : Nat} {os : OsState} (r : Rm A 2) {g : Heap} (cg : Cx w g) (xg : Ext g h) {envL : Env} {L : Addr} (hgL : g.objs.size ≤ L)
    (hfr : A.frames = some [envL]) (hkL : envL.scope.kind ≠ .module) (hfL : envL.frame = some L) {mL : Str → Option Value} (hnL : h.Ns L mL) {l : Addr} {ns : List Int} (hl : IL h l (0 :: ns)) (B : AllBare gs)
    {R : Result → Shared → Prop} (H : ∀ h' k' gs', KeptBut L h h' → (∀ m, h.Ns L m → h'.Ns L m) → AllBare gs' → R (.ok (.ret (.bool true))) ⟨h', gs', d, k', os⟩) :
    codeAny (model prog w) A (.call (.ref 140) ⟨[.ref l], []⟩) R ⟨h, gs, d, k, os⟩ := by
  have cx := cg.ext xg
  refine enterF (fd := fdAt 140) (n := 1) [("sizes", .ref l)] ["sizes"] r cx rfl rfl rfl rfl rfl rfl rfl rfl (by decide) (fun h₁ k₁ F c₁ r₁ E => ?_) rfl rfl rfl
  change Frm h (callEnvC (fdAt 140) h.objs.size 140) (h.objs.size + 1) h₁ _ at F
  have hfr' : (A.deeper (callEnvC (fdAt 140) h.objs.size 140)).frames = some (callEnvC (fdAt 140) h.objs.size 140 :: [envL]) := Around.frames_deeper hfr
  generalize hA : A.deeper (callEnvC (fdAt 140) h.objs.size 140) = A' at r₁ hfr' ⊢
  have hLlt : L < h.objs.size := hnL.lt
  have hsz₁ := F.ok.size
  refine s_cons (wpAny_Try_except ?_)
  refine s_for (fun _ => rfl) (r_callK c₁ rfl rfl rfl rfl rfl (by decide) rfl rfl (a_cons rfl ?_))
  walk_at "nm"
  refine a_nil ⟨c₁.K, wpAny_call (gen_call r₁ c₁ fun h₃ k₄ G₃ hg₃ => ?_)⟩
  refine wpAny_pyIter_gen hg₃ ?_
  have x₃ := G₃.ok.keep
  have F₃ := F.ext x₃
  generalize hC : h₁.objs.size = C at *
  have hLr : L ≠ h.objs.size := Nat.ne_of_lt hLlt
  have hLC : L ≠ C := Nat.ne_of_lt (Nat.lt_of_lt_of_le hLlt (by omega))
  have hrC : h.objs.size ≠ C := by omega
  generalize hbase : without (without (without h₃ L) h.objs.size) C = base
  have bget : ∀ b, b ≠ L → b ≠ h.objs.size → b ≠ C → base.get? b = h₃.get? b := fun b h1 h2 h3 => by
    rw [← hbase, without_other _ _ h3, without_other _ _ h2, without_other _ _ h1]
  have bC : base.get? C = none := by rw [← hbase]; exact without_self _ _
  have br : base.get? h.objs.size = none := by rw [← hbase, without_other _ _ hrC]; exact without_self _ _
  have bL : base.get? L = none := by rw [← hbase, without_other _ _ hLC, without_other _ _ hLr]; exact without_self _ _
  have hst : base.StaysIn h₃ := fun b o q => by
    have h1 : b ≠ L := fun e => by rw [e, bL] at q; cases q
    have h2 : b ≠ h.objs.size := fun e => by rw [e, br] at q; cases q
    have h3 : b ≠ C := fun e => by rw [e, bC] at q; cases q
    rw [← bget b h1 h2 h3]; exact q
  have hgb : base.IsGen (C + 1) gs.size := by
    obtain ⟨ob, nm, qn, ho, rr⟩ := hg₃
    exact ⟨ob, nm, qn, (bget _ (Nat.ne_of_gt (Nat.lt_of_lt_of_le hLlt (by omega))) (Nat.ne_of_gt (by omega)) (Nat.ne_of_gt (by omega))).trans ho, rr⟩
  obtain ⟨mr, hnr⟩ := F₃.ok.ns
  have hfun : h₃.FunFrames base (callEnvC (fdAt 140) h.objs.size 140 :: [envL]) :=
    Heap.FunFrames.cons (L := h.objs.size) (m := mr) (fun q => nomatch (show ScopeKind.function = ScopeKind.module from q)) rfl hnr br
      (Heap.FunFrames.cons hkL hfL ((hnL.keeps F.ok.keep).keeps x₃) bL trivial)
  have fin : ∀ h', base.StaysIn h' → KeptBut L h h' := fun h' q b o hb e => q b o ((bget b hb (Nat.ne_of_lt (Heap.lt_size e)) (Nat.ne_of_lt (Nat.lt_of_lt_of_le (Heap.lt_size e) (by omega)))).trans (F₃.ok.keep b o e))
  have B₃ : AllBare (gs.push (.fresh (.func gbody (genv C)))) := B.push rfl
  refine codeAny_forLoop (fun n s => n = 0 ∧ s = ⟨h₃, gs.push (.fresh (.func gbody (genv C))), d, k₄, os⟩) ?_ 0 ⟨rfl, rfl⟩ (fun _ => rfl)
  rintro n s ⟨rfl, rfl⟩
  refine r_nextE (base := base) (outer := callEnvC (fdAt 140) h.objs.size 140 :: [envL]) (C := C) (c := .func gbody (genv C)) r₁.hh (cx.ext F₃.ok.keep).nolimit r₁.room hg₃ hgb (Array.getElem?_push_size ..) ?_ ?_
  · refine gen_raise (g := h₁) (show A'.in1.handled = none from r₁.hh) hfr' c₁ (hl.ext F.ok.keep) G₃ hst bC hfun ?_
    intro env he
    rcases List.mem_cons.mp he with rfl | he
    · exact fun q => hrC (by injection q)
    · rcases List.mem_cons.mp he with rfl | he
      · rw [hfL]; exact fun q => hLC (by injection q)
      · cases he
  · intro e a0 h₄ k₅ hF hN
    have B₄ : AllBare (((gs.push (.fresh (.func gbody (genv C)))).setIfInBounds gs.size .running).setIfInBounds gs.size .finished) := allBare_set (allBare_set B₃ _ rfl) _ rfl
    show wpAny _ _ (noteFrame _ _) _ _ _
    refine wpAny_looks_onW (L := h.objs.size) hfr' rfl hF fun h₅ hH u₅ => ?_
    refine came_back (L := h.objs.size) rfl hH fun h₆ hH₆ u₆ => ?_
    refine wpAny_noteFrame_againW (L := h.objs.size) rfl hH₆.2.2.2 ?_
    refine wpAny_landsW hH₆ fun h₇ hF₇ u₇ => ?_
    have kp₇ := fin h₇ hF₇.1
    have c₇ : Cx w h₇ := cg.ext fun b o q => kp₇ b o (Nat.ne_of_lt (Nat.lt_of_lt_of_le (Heap.lt_size q) hgL)) (xg b o q)
    refine wpAny_handleBy_builtin (X := "ValueError") (T := "ValueError") (b := true) sub_VE_exc sub_VE_nt sub_VE_self ?_
    obtain ⟨ob, hob, hcb⟩ := hF₇.there
    refine r_blt c₇ rfl boot_VE (by decide) ⟨rfl, ⟨ob, hob, hcb⟩, ?_⟩ rfl rfl rfl rfl
    rw [if_pos rfl]
    refine wpAny_setFlight_noneW hF₇.1 hF₇.2.2.1 hF₇.2.2.2 fun h₈ z1 z2 z3 z4 => ?_
    refine s_ret (r_bool ?_)
    refine H h₈ _ _ (fin h₈ z1) (fun m hm => ?_) B₄
    have n3 : h₃.Ns L m := (hm.keeps F.ok.keep).keeps x₃
    have n4 := hN L m hLC n3
    have n7 := u₇.ns (u₆.ns (u₅.ns n4))
    exact n7.at' fun o q => z4 L o q fun vs hd => by
      obtain ⟨o', es, ep, ho', hd', _⟩ := n7
      rw [q] at ho'; cases ho'; rw [hd] at hd'; cases hd'

/- C16 -/
theorem IL.uniq {h : Heap} {l : Addr} {ns ms : List Int} (a : IL h l ns) (b : IL h l ms) : ns = ms := by
  obtain ⟨vs, ⟨o, ho, hc, n, hd⟩, hv⟩ := a
  obtain ⟨us, ⟨o', ho', hc', n', hd'⟩, hu⟩ := b
  rw [ho] at ho'
  cases ho'
  rw [hd] at hd'
  injection hd' with e1 e2
  have e : vs = us := by simpa using e1
  subst e
  clear ho hd hc hc' e1 e2
  induction hv generalizing ms with
  | nil => cases hu; rfl
  | cons n t r ih => cases hu with | cons _ _ r' => rw [ih r']
/-- a list of lists of ints -/
noncomputable def LL (h : Heap) (a : Addr) (rs : List (List Int)) : Prop := ∃ vs, h.IsList a vs.toArray ∧ Paired (fun ns v => ∃ l, v = .ref l ∧ IL h l ns) rs vs
theorem paired_mono {α β : Type} {F G : α → β → Prop} (f : ∀ a b, F a b → G a b) : ∀ {l : List α} {r : List β}, Paired F l r → Paired G l r
  | _, _, .nil => .nil
  | _, _, .cons a r => .cons (f _ _ a) (paired_mono f r)
theorem paired_mem {α β : Type} {F : α → β → Prop} : ∀ {l : List α} {r : List β}, Paired F l r → ∀ b ∈ r, ∃ a ∈ l, F a b
  | _, _, .nil, _, h => nomatch h
  | _, _, .cons a r, b, h => by
    rcases List.mem_cons.mp h with e | h
    · exact ⟨_, List.mem_cons_self, e ▸ a⟩
    · obtain ⟨x, hx, q⟩ := paired_mem r b h
      exact ⟨x, List.mem_cons_of_mem _ hx, q⟩
theorem paired_len {α β : Type} {F : α → β → Prop} : ∀ {l : List α} {r : List β}, Paired F l r → l.length = r.length
  | _, _, .nil => rfl
  | _, _, .cons _ r => by rw [List.length_cons, List.length_cons, paired_len r]
theorem paired_comp {α β γ : Type} {F : α → β → Prop} {G : β → γ → Prop} {H : α → γ → Prop} (f : ∀ a b c, F a b → G b c → H a c) : ∀ {l : List α} {m : List β} {r : List γ}, Paired F l m → Paired G m r → Paired H l r
  | _, _, _, .nil, .nil => .nil
  | _, _, _, .cons a r, .cons b s => .cons (f _ _ _ a b) (paired_comp f r s)
theorem LL.ext {h h' : Heap} {a : Addr} {rs : List (List Int)} (x : LL h a rs) (e : Ext h h') : LL h' a rs :=
  let ⟨vs, p, q⟩ := x; ⟨vs, isList_ext p e, paired_mono (fun _ _ ⟨l, z, i⟩ => ⟨l, z, i.ext e⟩) q⟩
/-- a row of the table -/
inductive RowOf (w : World) (h : Heap) (v : Value) (X : List Nat) (c : List Nat) (b n nt : Nat) (ss : List Int) : Prop
  | mk (a : Addr) (t : Tok) (x e s : Addr) (h1 : v = .ref a) (h2 : h.IsList a [.str (S X) t, .ref x, .ref e, .ref s].toArray) (h3 : IsWs w h x c b n nt) (h4 : IL h e (zs (evenF X))) (h5 : IL h s ss)
theorem RowOf.ext {w : World} {h h' : Heap} {v : Value} {X c : List Nat} {b n nt : Nat} {ss : List Int} (x : RowOf w h v X c b n nt ss) (e : Ext h h') : RowOf w h' v X c b n nt ss :=
  let ⟨a, t, x, ee, s, h1, h2, h3, h4, h5⟩ := x; ⟨a, t, x, ee, s, h1, isList_ext h2 e, h3.ext e, h4.ext e, h5.ext e⟩

section
variable {prog : Program} {w : World} {A : Around} {E : Value → Shared → Prop} {env : Env} {h : Heap} {gs : Array GenState} {d : Drawn} {k : Nat} {os : OsState} {Q : Value → Shared → Prop} {R : Flow → Shared → Prop}
theorem r_rangeIt2 {a b : Nat} {t u : Tok} (ha : a < 1000000) (hb : b < 1000000) (hh : A.handled = none)
    (H : ∀ h' k' I St, Ext h h' → h.objs.size ≤ I → I < h'.objs.size → Walks prog w A I [I] [I] (b - a) (fun i v => ∃ t, v = .int ((a + i : Nat) : Int) t) St → St 0 h' → Q (.ref I) ⟨h', gs, d, k', os⟩) :
    wpAny (model prog w) A (call (.type "range") [.int (a : Int) t, .int (b : Int) u]) (fun xv s₁ => wpAny (model prog w) A (pyIter xv) Q E s₁) E ⟨h, gs, d, k, os⟩ := by
  refine r_range2 fun k' v => ?_
  have hr : IsRange (h.push { cls := .type "range", data := .fields #[.int (a : Int) t, .int (b : Int) u, .int 1 v] }) h.objs.size (a : Int) (b : Int) 1 t u v := Heap.get?_push_size _ rfl
  refine r_iterR ha hb hr fun o St hW hStz st => ?_
  have e : (h.push { cls := .type "range", data := .fields #[.int (a : Int) t, .int (b : Int) u, .int 1 v] }).objs.size = h.objs.size + 1 := Heap.size_push ..
  exact H _ _ _ St ((Ext.push _ _).trans (Ext.push _ _)) (by rw [e]; exact Nat.le_succ _) (Nat.lt_of_lt_of_eq (Nat.lt_succ_self _) (Heap.size_push ..).symm) (hW A hh) st
/-- four names from a list of four -/
theorem s_unp4 {x y z u : Str} {p1 p2 p3 p4 tp : Pos} {n : Nat} {value : PySem.Expr} {pos : Pos} {rest : List Stmt} {g : Heap} {hi : Nat} {σ : List (Str × Value)} (hh : A.handled = none) (F : Frm g env hi h σ)
    (hx : env.kindOf x = some .local ∨ (env.kindOf x = some .cell ∧ (env.cells.lookup x).isSome = true)) (hy : env.kindOf y = some .local ∨ (env.kindOf y = some .cell ∧ (env.cells.lookup y).isSome = true))
    (hz : env.kindOf z = some .local ∨ (env.kindOf z = some .cell ∧ (env.cells.lookup z).isSome = true)) (hu : env.kindOf u = some .local ∨ (env.kindOf u = some .cell ∧ (env.cells.lookup u).isSome = true))
    (hs : swapsWithSole [.Tuple [.Name x p1, .Name y p2, .Name z p3, .Name u p4] n tp] value pos.line env = pure false) (hw : swappedStores [.Tuple [.Name x p1, .Name y p2, .Name z p3, .Name u p4] n tp] value env = pure none)
    (H : wpAny (model prog w) A (eval value env) (fun v s₁ => ∃ h₁ k₁ t a b c e, s₁ = ⟨h₁, gs, d, k₁, os⟩ ∧ Ext h h₁ ∧ v = .ref t ∧ h₁.IsList t [a, b, c, e].toArray ∧ ∀ h' k', Frm g env hi h' (put (put (put (put σ x a) y b) z c) u e) → wpAny (model prog w) A (execs rest env) R E ⟨h', gs, d, k', os⟩) E ⟨h, gs, d, k, os⟩) :
    wpAny (model prog w) A (execs (.Assign [.Tuple [.Name x p1, .Name y p2, .Name z p3, .Name u p4] n tp] value pos :: rest) env) R E ⟨h, gs, d, k, os⟩ := by
  refine s_cons (PyProof.Rows.Assign_Tuple (wpAny_mono H (fun v s₁ q => ?_) fun _ _ e => e) hs hw)
  obtain ⟨h₁, k₁, t, a, b, c, e, rfl, xe, rfl, ht, q⟩ := q
  show wpAny _ _ (do standAt tp; unpack (.ref t) (assignEach [.Name x p1, .Name y p2, .Name z p3, .Name u p4] env)) _ _ _
  refine wpAny_bind (wpAny_standAt ?_)
  unfold unpack
  refine wpAny_bind (wpAny_holding ?_)
  show wpAny _ _ (unpackItems (.ref t) [a, b, c, e].toArray.size none) _ _ _
  refine kun_itemsOf hh ht fun h₂ hb => ?_
  have e₂ := ext_of_but hb
  show wpAny _ _ (do holding [b, c, e] (assign (.Name x p1) env a); assignInOrder [assign (.Name y p2) env, assign (.Name z p3) env, assign (.Name u p4) env] [b, c, e]) _ _ _
  refine wpAny_bind (wpAny_holding (s_assign hx ((F.ext xe).ext e₂) fun h₃ k₃ F₃ o₃ => ?_))
  show wpAny _ _ (do holding [c, e] (assign (.Name y p2) env b); assignInOrder [assign (.Name z p3) env, assign (.Name u p4) env] [c, e]) _ _ _
  refine wpAny_bind (wpAny_holding (s_assign hy F₃ fun h₄ k₄ F₄ o₄ => ?_))
  show wpAny _ _ (do holding [e] (assign (.Name z p3) env c); assignInOrder [assign (.Name u p4) env] [e]) _ _ _
  refine wpAny_bind (wpAny_holding (s_assign hz F₄ fun h₅ k₅ F₅ o₅ => ?_))
  show wpAny _ _ (do holding [] (assign (.Name u p4) env e); assignInOrder [] []) _ _ _
  refine wpAny_bind (wpAny_holding (s_assign hu F₅ fun h₆ k₆ F₆ o₆ => ?_))
  exact wpAny_pure (q _ _ F₆)
end
noncomputable def levs (c : List Nat) (b nt : Nat) : List Nat := (List.range' 1 8).map fun z => level c b nt z
noncomputable def aloneF (X : List Nat) (c : List Nat) (b nt : Nat) (ss : List Int) (rs : List (List Int)) : Bool :=
  if zs (levs c b nt) = zs (evenF X) then decide (ss = rs.map fun ns => walkF (marksF ns X.length) X) else false

theorem alone_spec {prog : Program} {w : World} {A : Around} {h : Heap} {gs : Array GenState} {d : Drawn} {k : Nat} {os : OsState} (r : Rm A 2) (cx : Cx w h) {v : Value} {X c : List Nat} {b n nt : Nat} {ss : List Int} (hrow : RowOf w h v X c b n nt ss)
    {l : Addr} {rs : List (List Int)} (hl : LL h l rs) (hX : X.length ≤ 100) (hc : c.length ≤ 1000) (hrs : rs.length ≤ 100) (hns : ∀ ns ∈ rs, ns.length ≤ 100)
    {R : Result → Shared → Prop} (H : ∀ h' k', Ext h h' → R (.ok (.ret (.bool (aloneF X c b nt ss rs)))) ⟨h', gs, d, k', os⟩) :
    codeAny (model prog w) A (.call (.ref 145) ⟨[v, .ref l], []⟩) R ⟨h, gs, d, k, os⟩ := by
  obtain ⟨a, tx, x, e, s, rfl, ha, hw, hev, hss⟩ := hrow
  refine enterF (fd := fdAt 145) (n := 1) [("row", .ref a), ("rulers", .ref l)] ["row", "rulers"] r cx rfl rfl rfl rfl rfl rfl rfl rfl (by decide) (fun h₁ k₁ F c₁ r₁ E => ?_) rfl rfl rfl
  change Frm h (callEnvC (fdAt 145) h.objs.size 145) (h.objs.size + 3) h₁ _ at F
  generalize hA : A.deeper (callEnvC (fdAt 145) h.objs.size 145) = A' at r₁ ⊢
  refine s_unp4 r₁.hh F (.inr ⟨rfl, rfl⟩) (.inr ⟨rfl, rfl⟩) (.inl rfl) (.inl rfl) rfl rfl ?_
  walk_at "nm"
  refine ⟨_, _, a, _, _, _, _, rfl, Ext.refl _, rfl, isList_ext ha F.ok.keep, fun h₂ k₂ F₂ => ?_⟩
  replace F₂ : Frm h (callEnvC (fdAt 145) h.objs.size 145) (h.objs.size + 3) h₂ [("stands", .ref s), ("columns", .ref e), ("indent", .ref x), ("lead", .str (S X) tx), ("row", .ref a), ("rulers", .ref l)] := F₂
  have c₂ := cx.ext F₂.ok.keep
  have hw₂ := hw.ext F₂.ok.keep
  refine s_if (r_test (r_compN (a := 1) (n := 8) (fun _ => true) (fun i y => ∃ t, y = .int (level c b nt i : Int) t) rfl (by decide) rfl (by decide) rfl (fun _ => rfl) (by omega) ?_ ?_ ?_ ?_))
  · refine r_callT c₂ rfl boot_range (by decide) rfl rfl rfl rfl (by decide) rfl rfl (a_cons rfl (r_int fun t₁ k₃ => a_cons rfl (r_int fun t₂ k₄ => a_nil ?_)))
    exact r_rangeIt2 (a := 1) (b := 9) (by omega) (by omega) r₁.hh fun h' k' I St x₆ hI hI2 W st => ⟨_, _, I, St, rfl, rfl, x₆, hI, hI2, W, st⟩
  · intro C j h₆ k₆ E₂ tj _ hj _ hva x₆
    exact t_nil ⟨_, _, rfl, Ext.refl _, rfl⟩
  · intro C j h₆ k₆ E₂ tj hC hj1 hj2 _ hva x₆
    have F₆ := F₂.ext x₆
    have c₆ := c₂.ext x₆
    have hw₆ := hw₂.ext x₆
    obtain ⟨dx, _, _, _, _, _, _, _, _, _, _, _, _, hx, hd, _⟩ := id hw₆
    refine r_meth (r_name rfl ((F₆.var (x := "indent") (by walk_at "mem")).comp rfl rfl rfl) ?_)
    refine o_meth c₆ hx hd rfl rfl rfl (r_withK c₆ rfl rfl rfl (a_cons rfl (r_name rfl hva ?_)))
    exact a_nil ⟨c₆.K, wpAny_call (il_spec r₁ c₆ hw₆ j tj (by omega) (by omega) hc fun h₇ k₇ t₇ x₇ => ⟨_, _, rfl, x₇, t₇, rfl⟩)⟩
  · intro D h₃ k₃ ys hD x₃ hpl hF
    have F₃ := F₂.ext x₃
    have c₃ := c₂.ext x₃
    rw [filter_true] at hF
    have hlv : IL h₃ D (zs (levs c b nt)) := by
      refine ⟨ys, plain_list hpl, ?_⟩
      have := paired_ints hF
      unfold zs levs
      rw [List.map_map]
      exact this
    walk_at "nm"
    refine r_neI r₁.units hlv (hev.ext F₃.ok.keep) ⟨_, rfl, fun hb => ?_, fun hb => ?_⟩
    · have hb : ¬ (zs (levs c b nt) = zs (evenF X)) := by simpa using hb
      refine s_ret (r_bool ?_)
      have e : aloneF X c b nt ss rs = false := by unfold aloneF; rw [if_neg hb]
      rw [e] at H
      exact H _ _ F₃.ok.keep
    · have hb : zs (levs c b nt) = zs (evenF X) := by simpa using hb
      refine s_nil ?_
      obtain ⟨vs, hvl, hvp⟩ := hl.ext F₃.ok.keep
      have hvn := paired_len hvp
      refine s_ret (r_cmp ?_)
      walk_at "nm"
      refine r_compV vs (fun _ => true) (fun v y => ∃ l ns, v = .ref l ∧ IL h₃ l ns ∧ ∃ t, y = .int (walkF (marksF ns X.length) X) t) rfl (by decide) rfl (by decide) rfl (fun _ => rfl) r₁.hh (by omega) ?_ ?_ ?_ ?_
      · walk_at "nm"
        exact ⟨_, _, _, rfl, rfl, Ext.refl _, hvl, Nat.le_refl _⟩
      · intro C v h₆ k₆ E₂ hC hvm hva x₆
        exact t_nil ⟨_, _, rfl, Ext.refl _, rfl⟩
      · intro C v h₆ k₆ E₂ hC hvm _ hva x₆
        obtain ⟨ns, hmem, lv, rfl, hil⟩ := paired_mem hvp v hvm
        have F₆ := F₃.ext x₆
        have c₆ := c₃.ext x₆
        refine r_callK c₆ rfl rfl rfl rfl rfl (by decide) rfl rfl (a_cons rfl (r_name rfl ((F₆.var (x := "lead") (by walk_at "mem")).comp rfl rfl rfl) (a_cons rfl ?_)))
        refine r_callK c₆ rfl rfl rfl rfl rfl (by decide) rfl rfl (a_cons rfl (r_name rfl hva (a_cons rfl ?_)))
        refine r_call1b c₆ (g_len w) boot_len (by decide) rfl rfl rfl rfl (by decide) rfl (r_name rfl ((F₆.var (x := "lead") (by walk_at "mem")).comp rfl rfl rfl) ?_)
        refine r_lenS (by omega) fun t₇ k₇ => a_nil ⟨c₆.K, wpAny_call (marks_spec r₁ c₆ (hil.ext x₆) X.length t₇ hX (hns ns hmem) fun h₇ k₈ D₇ x₇ hm₇ => ?_)⟩
        have c₇ := c₆.ext x₇
        have := marksF_length ns X.length
        exact a_nil ⟨c₇.K, wpAny_call (walk_spec r₁ c₇ X tx hm₇ hX (by omega) fun h₈ k₉ t₈ x₈ => ⟨_, _, rfl, x₇.trans x₈, lv, ns, rfl, hil, t₈, rfl⟩)⟩
      · intro D' h₄ k₄ ys' hD' x₄ hpl' hF'
        rw [filter_true] at hF'
        have hil' : IL h₄ D' (rs.map fun ns => walkF (marksF ns X.length) X) := by
          refine ⟨ys', plain_list hpl', paired_ints (paired_comp ?_ hvp hF')⟩
          rintro ns v y ⟨l1, rfl, i1⟩ ⟨l2, ns2, e2, i2, ty, rfl⟩
          cases e2
          rw [i1.uniq i2]
          exact ⟨ty, rfl⟩
        refine r_eqI r₁.units ((hss.ext F₃.ok.keep).ext x₄) hil' ?_
        have e : aloneF X c b nt ss rs = decide (ss = rs.map fun ns => walkF (marksF ns X.length) X) := by unfold aloneF; rw [if_pos hb]
        rw [e] at H
        exact H _ _ (F₃.ok.keep.trans x₄)

/- C17 -/
theorem evenF_length (X : List Nat) : (evenF X).length = 8 := by
  unfold evenF
  suffices ∀ (X cs : List Nat), cs.length = 8 → (X.foldl evenStep cs).length = 8 from this X _ rfl
  intro X
  induction X with
  | nil => exact fun _ h => h
  | cons x r ih => exact fun cs h => ih _ (evenStep_length _ _)
theorem zs_get {l : List Nat} {j : Nat} (hj : j < (zs l).length) : (zs l)[j] = ((l.getD j 0 : Nat) : Int) := by
  have h : j < l.length := by rwa [zs_length] at hj
  simp [zs, List.getD_eq_getElem?_getD, List.getElem?_eq_getElem h]
noncomputable def agreeF (X1 c1 : List Nat) (b1 n1 nt1 : Nat) (X2 c2 : List Nat) (b2 n2 nt2 : Nat) (tl : List Int) : Bool :=
  if standF X2 (ownF X2 ++ tl) = X2.length then
    if decide (standF X1 (ownF X2 ++ tl) < X2.length) = partGo (X1 ++ [32]) X2 then
      lessF c1 b1 n1 nt1 c2 b2 n2 nt2 == (partGo (X1 ++ [32]) X2 || decide ((List.range' 0 8).filter (fun k => decide ((evenF X2).getD k 0 ≤ (evenF X1).getD k 0)) = []))
    else false
  else false
theorem paired_nil {α β : Type} {F : α → β → Prop} {l : List α} {r : List β} (p : Paired F l r) : l = [] ↔ r = [] := by cases p <;> simp

theorem agree_spec {prog : Program} {w : World} {A : Around} {h : Heap} {gs : Array GenState} {d : Drawn} {k : Nat} {os : OsState} (r : Rm A 4) (cx : Cx w h) {v1 v2 : Value} {X1 c1 : List Nat} {b1 n1 nt1 : Nat} {ss1 : List Int} (hr1 : RowOf w h v1 X1 c1 b1 n1 nt1 ss1)
    {X2 c2 : List Nat} {b2 n2 nt2 : Nat} {ss2 : List Int} (hr2 : RowOf w h v2 X2 c2 b2 n2 nt2 ss2) {l : Addr} {tl : List Int} (hl : IL h l tl) (hX1 : X1.length ≤ 50) (hX2 : X2.length ≤ 50) (hc1 : c1.length ≤ 1000) (hc2 : c2.length ≤ 1000) (hb1 : b1 ≤ 1000) (hb2 : b2 ≤ 1000) (htl : tl.length ≤ 100)
    (hns : ∀ z ∈ ownF X2 ++ tl, 0 ≤ z ∧ z < 1000000) (h0 : (ownF X2 ++ tl).head? ≠ some 0) (B : AllBare gs)
    {R : Result → Shared → Prop} (H : ∀ h' k' gs', Ext h h' → AllBare gs' → R (.ok (.ret (.bool (agreeF X1 c1 b1 n1 nt1 X2 c2 b2 n2 nt2 tl)))) ⟨h', gs', d, k', os⟩) :
    codeAny (model prog w) A (.call (.ref 150) ⟨[v1, v2, .ref l], []⟩) R ⟨h, gs, d, k, os⟩ := by
  obtain ⟨a1, t1, x1, e1, s1, rfl, ha1, hw1, hev1, -⟩ := hr1
  obtain ⟨a2, t2, x2, e2, s2, rfl, ha2, hw2, hev2, -⟩ := hr2
  refine enterF (fd := fdAt 150) (n := 3) [("one", .ref a1), ("two", .ref a2), ("tail", .ref l)] ["one", "two", "tail"] r cx rfl rfl rfl rfl rfl rfl rfl rfl (by decide) (fun h₁ k₁ F c₁ r₁ E => ?_) rfl rfl rfl
  change Frm h (callEnvC (fdAt 150) h.objs.size 150) (h.objs.size + 3) h₁ _ at F
  generalize hA : A.deeper (callEnvC (fdAt 150) h.objs.size 150) = A' at r₁ ⊢
  clear hA
  generalize h.objs.size = L₀ at *
  as_aux_lemma =>
  refine hidQ fun Q₀ hQ₀ => ?_
  -- part = _law_part(one[0], two[0])
  refine s_set F (.inl rfl) rfl (hidQ fun Q₁ hQ₁ => r_callK c₁ rfl rfl rfl rfl rfl (by decide) rfl rfl (a_cons rfl (r_itemL ?_)))
  walk_at "nm"
  refine r_int fun t₃ k₂ => ⟨a1, _, 0, _, _, rfl, rfl, isList_ext ha1 F.ok.keep, by omega, rfl, a_cons rfl (r_itemL ?_)⟩
  walk_at "nm"
  refine r_int fun t₄ k₃ => ⟨a2, _, 0, _, _, rfl, rfl, isList_ext ha2 F.ok.keep, by omega, rfl, a_nil ⟨c₁.K, wpAny_call (part_spec (r₁.le (by omega)) c₁ X1 X2 t1 t2 (by omega) (by omega) fun h₂ k₄ x₂ => hQ₁ _ _ ⟨_, _, rfl, x₂, fun h₃ k₅ F₃ o₃ => ?_⟩)⟩⟩
  clear hQ₁ Q₁
  generalize hpart : partGo (X1 ++ [32]) X2 = part at *
  as_aux_lemma =>
  replace F₃ : Frm h (callEnvC (fdAt 150) L₀ 150) (L₀ + 3) h₃ [("part", .bool part), ("one", .ref a1), ("two", .ref a2), ("tail", .ref l)] := F₃
  have c₃ := cx.ext F₃.ok.keep
  -- sizes = _law_own(two[0]) + tail
  refine s_set F₃ (.inl rfl) rfl (hidQ fun Q₁ hQ₁ => r_binop (r_callK c₃ rfl rfl rfl rfl rfl (by decide) rfl rfl (a_cons rfl (r_itemL ?_))))
  walk_at "nm"
  refine r_int fun t₅ k₆ => ⟨a2, _, 0, _, _, rfl, rfl, isList_ext ha2 F₃.ok.keep, by omega, rfl, a_nil ⟨c₃.K, wpAny_call (own_spec (r₁.le (by omega)) c₃ X2 t2 (by omega) fun h₄ k₇ D x₄ hD => ?_)⟩⟩
  have F₄ := F₃.ext x₄
  walk_at "nm"
  have hol : (ownF X2).length ≤ X2.length + 1 := by
    unfold ownF
    rw [List.length_map, List.length_range']
    exact ownMarks_length X2
  refine r_addI hD (hl.ext F₄.ok.keep) (by omega) fun h₅ x₅ hS => hQ₁ _ _ ⟨_, _, rfl, x₄.trans x₅, fun h₆ k₈ F₆ o₆ => ?_⟩
  clear hQ₁ Q₁
  have hSle : L₀ + 3 ≤ h₄.objs.size := F₄.ok.size
  generalize hsz : h₄.objs.size = L at *
  replace F₆ : Frm h (callEnvC (fdAt 150) L₀ 150) (L₀ + 3) h₆ [("sizes", .ref L), ("part", .bool part), ("one", .ref a1), ("two", .ref a2), ("tail", .ref l)] := F₆
  have hS₆ : IL h₆ L (ownF X2 ++ tl) := hS.at fun o e => o₆ _ o (.inr hSle) e
  clear o₆ o₃
  have c₆ := cx.ext F₆.ok.keep
  as_aux_lemma =>
  -- if _law_stand(two[0], sizes) != len(two[0])
  refine s_if (hidQ fun Q₁ hQ₁ => r_test (r_callK c₆ rfl rfl rfl rfl rfl (by decide) rfl rfl (a_cons rfl (r_itemL ?_))))
  walk_at "nm"
  refine r_int fun t₆ k₉ => ⟨a2, _, 0, _, _, rfl, rfl, isList_ext ha2 F₆.ok.keep, by omega, rfl, a_cons rfl ?_⟩
  walk_at "nm"
  refine a_nil ⟨c₆.K, wpAny_call (stand_spec r₁ c₆ X2 t2 (by omega) hS₆ hns h0 B fun h₇ k₁₀ t₇ gs₇ x₇ B₇ => ?_)⟩
  have F₇ := F₆.ext x₇
  have c₇ := c₆.ext x₇
  refine r_call1b c₇ (g_len w) boot_len (by decide) rfl rfl rfl rfl (by decide) rfl (r_itemL ?_)
  walk_at "nm"
  refine r_int fun t₈ k₁₁ => ⟨a2, _, 0, _, _, rfl, rfl, isList_ext ha2 F₇.ok.keep, by omega, rfl, r_lenS (by omega) fun t₉ k₁₂ => r_ne ⟨_, rfl, hQ₁ _ _ ⟨fun hb => ?_, fun hb => ?_⟩⟩⟩
  all_goals clear hQ₁ Q₁
  · have hne : ¬ standF X2 (ownF X2 ++ tl) = X2.length := by
      have : ¬ (standF X2 (ownF X2 ++ tl) : Int) = (X2.length : Int) := by simpa using hb
      omega
    refine s_ret (r_bool (hQ₀ _ _ ?_))
    have e : agreeF X1 c1 b1 n1 nt1 X2 c2 b2 n2 nt2 tl = false := by unfold agreeF; rw [if_neg hne]
    rw [e] at H
    exact H _ _ _ F₇.ok.keep B₇
  have heq : standF X2 (ownF X2 ++ tl) = X2.length := by
    have : (standF X2 (ownF X2 ++ tl) : Int) = (X2.length : Int) := by simpa using hb
    omega
  refine s_nil ?_
  -- if (_law_stand(one[0], sizes) < len(two[0])) is not part
  as_aux_lemma =>
  refine s_if (hidQ fun Q₁ hQ₁ => r_test (r_cmp (r_callK c₇ rfl rfl rfl rfl rfl (by decide) rfl rfl (a_cons rfl (r_itemL ?_)))))
  walk_at "nm"
  refine r_int fun t₁₀ k₁₃ => ⟨a1, _, 0, _, _, rfl, rfl, isList_ext ha1 F₇.ok.keep, by omega, rfl, a_cons rfl ?_⟩
  walk_at "nm"
  refine a_nil ⟨c₇.K, wpAny_call (stand_spec r₁ c₇ X1 t1 (by omega) (hS₆.ext x₇) hns h0 B₇ fun h₈ k₁₄ t₁₁ gs₈ x₈ B₈ => ?_)⟩
  have F₈ := F₇.ext x₈
  have c₈ := c₇.ext x₈
  refine r_call1b c₈ (g_len w) boot_len (by decide) rfl rfl rfl rfl (by decide) rfl (r_itemL ?_)
  walk_at "nm"
  refine r_int fun t₁₂ k₁₅ => ⟨a2, _, 0, _, _, rfl, rfl, isList_ext ha2 F₈.ok.keep, by omega, rfl, r_lenS (by omega) fun t₁₃ k₁₆ => r_lt ?_⟩
  walk_at "nm"
  have hdd : decide ((standF X1 (ownF X2 ++ tl) : Int) < (X2.length : Int)) = decide (standF X1 (ownF X2 ++ tl) < X2.length) := by
    rw [decide_eq_decide]; omega
  rw [hdd]
  refine PyProof.Rows.isnot_bool ⟨_, rfl, hQ₁ _ _ ⟨fun hb => ?_, fun hb => ?_⟩⟩
  all_goals clear hQ₁ Q₁
  · have hne : ¬ decide (standF X1 (ownF X2 ++ tl) < X2.length) = part := by simpa using hb
    refine s_ret (r_bool (hQ₀ _ _ ?_))
    have e : agreeF X1 c1 b1 n1 nt1 X2 c2 b2 n2 nt2 tl = false := by unfold agreeF; rw [if_pos heq, hpart, if_neg hne]
    rw [e] at H
    exact H _ _ _ F₈.ok.keep B₈
  have hpe : decide (standF X1 (ownF X2 ++ tl) < X2.length) = part := by simpa using hb
  refine s_nil ?_
  -- return one[1].less(two[1]) is (..)
  have hwx := hw1.ext F₈.ok.keep
  have hwy := hw2.ext F₈.ok.keep
  obtain ⟨dx, _, _, _, _, _, _, _, _, _, _, _, _, hx, hd, _⟩ := id hwx
  as_aux_lemma =>
  refine s_ret (r_cmp (r_meth (r_itemL ?_)))
  walk_at "nm"
  refine r_int fun t₁₄ k₁₇ => ⟨a1, _, 1, _, _, rfl, rfl, isList_ext ha1 F₈.ok.keep, by omega, rfl, ?_⟩
  refine o_meth c₈ hx hd rfl rfl rfl (r_withK c₈ rfl rfl rfl (a_cons rfl (r_itemL ?_)))
  walk_at "nm"
  refine r_int fun t₁₅ k₁₈ => ⟨a2, _, 1, _, _, rfl, rfl, isList_ext ha2 F₈.ok.keep, by omega, rfl, ?_⟩
  refine a_nil ⟨c₈.K, wpAny_call (less_spec (r₁.le (by omega)) c₈ hwx hwy hc1 hc2 hb1 hb2 fun h₉ k₁₉ x₉ => ?_)⟩
  have F₉ := F₈.ext x₉
  have c₉ := c₈.ext x₉
  have hag : agreeF X1 c1 b1 n1 nt1 X2 c2 b2 n2 nt2 tl = (lessF c1 b1 n1 nt1 c2 b2 n2 nt2 == (part || decide ((List.range' 0 8).filter (fun k => decide ((evenF X2).getD k 0 ≤ (evenF X1).getD k 0)) = []))) := by
    unfold agreeF; rw [if_pos heq, hpart, if_pos hpe]
  rw [hag] at H
  refine wpAny_Or2 ?_
  walk_at "nm"
  refine wpAny_truthy_bool ?_
  cases part with
  | true =>
    rw [if_pos rfl]
    refine PyProof.Rows.is_bool ?_
    exact hQ₀ _ _ (H _ _ _ F₉.ok.keep B₈)
  | false =>
    rw [if_neg (by decide)]
    obtain ⟨vs1, hv1, hi1⟩ := hev1.ext F₉.ok.keep
    obtain ⟨vs2, hv2, hi2⟩ := hev2.ext F₉.ok.keep
    as_aux_lemma =>
    refine r_cmp (r_compN (a := 0) (n := 8) (fun k => decide ((evenF X2).getD k 0 ≤ (evenF X1).getD k 0)) (fun i y => ∃ t, y = .int (i : Int) t) rfl (by decide) rfl (by decide) rfl (fun _ => rfl) (by omega) ?_ ?_ ?_ ?_)
    · refine r_call1t c₉ rfl boot_range (by decide) rfl rfl rfl rfl (by decide) rfl (r_int fun t₁ k₃ => ?_)
      exact r_rangeIt (b := 8) (by omega) r₁.hh fun h' k' I St x₆ hI hI2 W st => ⟨_, _, I, St, rfl, rfl, x₆, hI, hI2, W, st⟩
    · intro C j hj₁ kj E₂ tj hC hj0 hj hva xj
      have Fj := F₉.ext xj
      have hj1 : j < (zs (evenF X1)).length := by rw [zs_length, evenF_length]; omega
      have hj2 : j < (zs (evenF X2)).length := by rw [zs_length, evenF_length]; omega
      obtain ⟨u1, hu1⟩ := intsAre_get hi1 hj1
      obtain ⟨u2, hu2⟩ := intsAre_get hi2 hj2
      rw [zs_get] at hu1 hu2
      refine t_one (r_test (r_itemL (r_itemL (r_name rfl ((Fj.var (x := "one") (by walk_at "mem")).comp rfl rfl rfl) (r_int fun t₁ k₃ => ⟨a1, _, 2, _, _, rfl, rfl, isList_ext ha1 Fj.ok.keep, by omega, rfl, r_name rfl hva ?_⟩)))))
      refine ⟨e1, vs1, j, _, _, rfl, rfl, isList_ext hv1 xj, by omega, hu1, ?_⟩
      refine r_itemL (r_itemL (r_name rfl ((Fj.var (x := "two") (by walk_at "mem")).comp rfl rfl rfl) (r_int fun t₁ k₃ => ⟨a2, _, 2, _, _, rfl, rfl, isList_ext ha2 Fj.ok.keep, by omega, rfl, r_name rfl hva ?_⟩)))
      refine ⟨e2, vs2, j, _, _, rfl, rfl, isList_ext hv2 xj, by omega, hu2, r_ge ⟨_, rfl, _, _, rfl, Ext.refl _, ?_⟩⟩
      rw [decide_eq_decide]; omega
    · intro C j hj₁ kj E₂ tj hC hj0 hj _ hva xj
      exact r_name rfl hva ⟨_, _, rfl, Ext.refl _, tj, rfl⟩
    · intro D' h₁₀ k₂₀ ys hD' x₁₀ hpl hF
      refine r_list (a_nil ⟨_, _, rfl, by simp, ?_⟩)
      have hil : IL h₁₀ D' (((List.range' 0 8).filter (fun k => decide ((evenF X2).getD k 0 ≤ (evenF X1).getD k 0))).map fun i : Nat => (i : Int)) := ⟨ys, plain_list hpl, paired_ints hF⟩
      refine r_eqI r₁.units (hil.ext (Ext.push _ _)) (IL.nil_push _) (PyProof.Rows.is_bool (hQ₀ _ _ ?_))
      have := H (h₁₀.push (listO [])) k₂₀ gs₈ ((F₉.ok.keep.trans x₁₀).trans (Ext.push _ _)) B₈
      simp only [List.map_eq_nil_iff]
      simpa using this

/- MU -/
/-- objects that no step of the law's own frame turns -/
noncomputable def Kind (o : Obj) : Prop :=
  (∃ its n, o.data = .seq its n ∧ (o.cls = .type "tuple" ∨ (∃ i t, its[0]? = some (.int i t)) ∨ (∃ x t, its[0]? = some (.str x t)) ∨ (n = 0 ∧ ∃ v, its[0]? = some v))) ∨
  o.data = .plain ∨ (∃ es ep, o.data = .dict es ep ∧ nsFind es "script" = none)
noncomputable def Kp (h h' : Heap) : Prop := ∀ (b : Nat) o, Kind o → h.get? b = some o → h'.get? b = some o
theorem Kp.refl (h : Heap) : Kp h h := fun _ _ _ e => e
theorem Kp.trans {h h' h'' : Heap} (a : Kp h h') (b : Kp h' h'') : Kp h h'' := fun x o q e => b x o q (a x o q e)
theorem Ext.kp {h h' : Heap} (a : Ext h h') : Kp h h' := fun x o _ e => a x o e
theorem kind_cell {o : Obj} {v : Option Value} (e : o.data = .cell v) : ¬ Kind o := by
  rintro (⟨_, _, q, _⟩ | q | ⟨_, _, q, _⟩) <;> rw [e] at q <;> cases q
theorem kind_fields {o : Obj} {v : Array Value} (e : o.data = .fields v) : ¬ Kind o := by
  rintro (⟨_, _, q, _⟩ | q | ⟨_, _, q, _⟩) <;> rw [e] at q <;> cases q
theorem kind_ns {o : Obj} {es : Array DictEntry} {ep : Nat} {v : Value} (e : o.data = .dict es ep) (hv : nsFind es "script" = some v) : ¬ Kind o := by
  rintro (⟨_, _, q, _⟩ | q | ⟨_, _, q, z⟩) <;> rw [e] at q <;> cases q
  rw [hv] at z; cases z
theorem kind_ws {a b c d e : DictEntry} {n : Nat} (h1 : a.key.isStr "script" = false) (h2 : b.key.isStr "script" = false) (h3 : c.key.isStr "script" = false) (h4 : d.key.isStr "script" = false) (h5 : e.key.isStr "script" = false) : Kind (dictOf [a, b, c, d, e] n) := by
  refine .inr (.inr ⟨_, _, rfl, ?_⟩)
  unfold nsFind findBy
  simp [h1, h2, h3, h4, h5]
theorem IL.kp {h h' : Heap} {l : Addr} {ns : List Int} (x : IL h l ns) (hne : ns ≠ []) (k : Kp h h') : IL h' l ns := by
  obtain ⟨vs, ⟨o, ho, hc, n, hd⟩, hv⟩ := x
  refine ⟨vs, ⟨o, k _ _ ?_ ho, hc, n, hd⟩, hv⟩
  cases hv with
  | nil => exact absurd rfl hne
  | cons i t r => exact .inl ⟨_, _, hd, .inr (.inl ⟨i, t, rfl⟩)⟩
theorem kind_strs {o : Obj} {its : Array Value} {n : Nat} {x : Str} {t : Tok} (hd : o.data = .seq its n) (h0 : its[0]? = some (.str x t)) : Kind o := .inl ⟨_, _, hd, .inr (.inr (.inl ⟨x, t, h0⟩))⟩
theorem kind_disp {v : Value} {vs : List Value} : Kind (listO (v :: vs)) := .inl ⟨_, _, rfl, .inr (.inr (.inr ⟨rfl, v, rfl⟩))⟩
theorem kind_tup {vs : List Value} : Kind (tupO vs) := .inl ⟨_, _, rfl, .inl rfl⟩
theorem IsWs.kp {w : World} {h h' : Heap} {x : Addr} {c b n nt} (a : IsWs w h x c b n nt) (k : Kp h h') : IsWs w h' x c b n nt := by
  obtain ⟨dx, tn, tc, raw, t1, t2, t3, t4, t5, u1, u2, u3, vs, h1, h2, h3, h4, h5⟩ := a
  exact ⟨dx, tn, tc, raw, t1, t2, t3, t4, t5, u1, u2, u3, vs, k _ _ (.inr (.inl rfl)) h1, k _ _ (kind_ws rfl rfl rfl rfl rfl) h2, k _ _ kind_tup h3, k _ _ kind_tup h4, h5⟩
theorem isListS_kp {h h' : Heap} {l : Addr} {x : Str} {t : Tok} {vs : List Value} (a : h.IsList l (.str x t :: vs).toArray) (k : Kp h h') : h'.IsList l (.str x t :: vs).toArray := by
  obtain ⟨o, ho, hc, n, hd⟩ := a
  exact ⟨o, k _ _ (kind_strs hd rfl) ho, hc, n, hd⟩
theorem zs_evenF_ne (X : List Nat) : zs (evenF X) ≠ [] := by
  intro e
  have := congrArg List.length e
  rw [zs_length, evenF_length] at this
  cases this
theorem RowOf.kp {w : World} {h h' : Heap} {v : Value} {X c : List Nat} {b n nt : Nat} {ss : List Int} (x : RowOf w h v X c b n nt ss) (hne : ss ≠ []) (k : Kp h h') : RowOf w h' v X c b n nt ss := by
  obtain ⟨a, t, x, ee, s, h1, h2, h3, h4, h5⟩ := x
  exact ⟨a, t, x, ee, s, h1, isListS_kp h2 k, h3.kp k, h4.kp (zs_evenF_ne X) k, h5.kp hne k⟩
/-- a list of texts -/
noncomputable def SL (h : Heap) (a : Addr) (xs : List (List Nat)) : Prop := ∃ vs, h.IsList a vs.toArray ∧ Paired (fun X v => ∃ t, v = .str (S X) t) xs vs
theorem SL.kp {h h' : Heap} {a : Addr} {xs : List (List Nat)} (x : SL h a xs) (hne : xs ≠ []) (k : Kp h h') : SL h' a xs := by
  obtain ⟨vs, hl, hp⟩ := x
  refine ⟨vs, ?_, hp⟩
  cases hp with
  | nil => exact absurd rfl hne
  | cons q r => obtain ⟨t, rfl⟩ := q; exact isListS_kp hl k
theorem paired_get {α β : Type} {F : α → β → Prop} : ∀ {l : List α} {r : List β}, Paired F l r → ∀ {i : Nat} {a : α}, l[i]? = some a → ∃ b, r[i]? = some b ∧ F a b
  | _, _, .nil, _, _, h => by simp at h
  | _, _, .cons p r, 0, a, h => by simp at h; subst h; exact ⟨_, rfl, p⟩
  | _, _, .cons p r, i + 1, a, h => by
    obtain ⟨b, hb, q⟩ := paired_get r (i := i) (by simpa using h)
    exact ⟨b, by simpa using hb, q⟩
theorem paired_getR {α β : Type} {F : α → β → Prop} : ∀ {l : List α} {r : List β}, Paired F l r → ∀ {i : Nat} {b : β}, r[i]? = some b → ∃ a ∈ l, F a b
  | _, _, p, i, b, h => paired_mem p b (List.mem_of_getElem? h)
/-- the four rulers: a display of lists -/
noncomputable def Four (h : Heap) (a : Addr) (rs : List (List Int)) : Prop := ∃ v vs, h.get? a = some (listO (v :: vs)) ∧ Paired (fun ns v => ∃ l, v = .ref l ∧ IL h l ns) rs (v :: vs)
theorem Four.ll {h : Heap} {a : Addr} {rs : List (List Int)} (x : Four h a rs) : LL h a rs := let ⟨v, vs, p, q⟩ := x; ⟨v :: vs, ⟨_, p, rfl, _, rfl⟩, q⟩
theorem paired_monoM {α β : Type} {F G : α → β → Prop} : ∀ {l : List α} {r : List β}, (∀ a b, a ∈ l → F a b → G a b) → Paired F l r → Paired G l r
  | _, _, _, .nil => .nil
  | _, _, f, .cons a r => .cons (f _ _ List.mem_cons_self a) (paired_monoM (fun a b hm q => f a b (List.mem_cons_of_mem _ hm) q) r)
theorem Four.kp {h h' : Heap} {a : Addr} {rs : List (List Int)} (x : Four h a rs) (hne : ∀ ns ∈ rs, ns ≠ []) (k : Kp h h') : Four h' a rs := by
  obtain ⟨v, vs, p, q⟩ := x
  exact ⟨v, vs, k _ _ kind_disp p, paired_monoM (fun ns v hm ⟨l, e, i⟩ => ⟨l, e, i.kp (hne ns hm) k⟩) q⟩

noncomputable abbrev lawEnv (L : Nat) : Env := callEnvC (fdAt 155) L 155
theorem frame_objs {g : Heap} {L : Nat} {h : Heap} {σ : List (Str × Value)} {v : Value} (F : Frm g (lawEnv L) (L + 4) h σ) (hs : ((("script" : Str), v) ∈ σ)) {b : Nat} {o : Obj} (h1 : L ≤ b) (h2 : b < L + 4) (e : h.get? b = some o) : ¬ Kind o := by
  by_cases q : b = L
  · subst q
    rcases F.vars _ _ hs with ⟨_, m, ⟨o', es, ep, ho', hd', _, hf⟩, hm⟩ | ⟨c, k | k, _⟩
    · rw [show (lawEnv b).locals = b from rfl, e] at ho'
      cases ho'
      exact kind_ns hd' ((hf _).trans hm)
    · cases k
    · cases k
  · have cellAt : ∀ n, (lawEnv L).cells.lookup n = some b → ¬ Kind o := fun n hn => by
      obtain ⟨v, o', ho', hd'⟩ := F.ok.cell n b hn
      rw [e] at ho'; cases ho'
      exact kind_cell hd'
    have : b = L + 1 ∨ b = L + 2 ∨ b = L + 3 := by omega
    rcases this with rfl | rfl | rfl
    · exact cellAt "ring" rfl
    · exact cellAt "four" rfl
    · exact cellAt "i" rfl
theorem Kp.out {g : Heap} {L : Nat} {h h' : Heap} {σ : List (Str × Value)} {v : Value} (F : Frm g (lawEnv L) (L + 4) h σ) (hs : ((("script" : Str), v) ∈ σ)) (o : Out L (L + 4) h h') : Kp h h' := fun b ob hk e => by
  by_cases q : b < L ∨ L + 4 ≤ b
  · exact o b ob q e
  · exact absurd hk (frame_objs F hs (by omega) (by omega) e)
theorem Kp.but {g : Heap} {L : Nat} {h h' : Heap} {σ : List (Str × Value)} {v : Value} (F : Frm g (lawEnv L) (L + 4) h σ) (hs : ((("script" : Str), v) ∈ σ)) (o : KeptBut L h h') : Kp h h' := fun b ob hk e => by
  by_cases q : b = L
  · subst q; exact absurd hk (frame_objs F hs (Nat.le_refl _) (Nat.lt_add_of_pos_right (by decide)) e)
  · exact o b ob q e
theorem Kp.iter {I : Addr} {h h' : Heap} {oI : Obj} {fs : Array Value} (hI : h.get? I = some oI) (hf : oI.data = .fields fs) (k : ∀ b o, b ∉ [I] → h.get? b = some o → h'.get? b = some o) : Kp h h' := fun b ob hk e => by
  by_cases q : b = I
  · subst q; rw [hI] at e; cases e; exact absurd hk (kind_fields hf)
  · exact k b ob (by simpa using q) e
theorem Frm.afterL {g : Heap} {L : Nat} {h h' : Heap} {σ : List (Str × Value)} (F : Frm g (lawEnv L) (L + 4) h σ) (k : KeptBut L h h') (n : ∀ m, h.Ns L m → h'.Ns L m) : Frm g (lawEnv L) (L + 4) h' σ := by
  have hc : ∀ {n c v}, (lawEnv L).cells.lookup n = some c → h.IsCell c v → h'.IsCell c v := fun {n c v} hn hv => let ⟨o, ho, hd⟩ := hv; ⟨o, k c o (Nat.ne_of_gt (F.ok.above n c (mem_of_lookup hn)).1) ho, hd⟩
  refine ⟨⟨fun b o q => k b o (Nat.ne_of_lt (Nat.lt_of_lt_of_le (Heap.lt_size q) F.ok.fresh)) (F.ok.keep b o q), F.ok.kind, ?_, ?_, F.ok.above, F.ok.apart, F.ok.fresh, F.ok.lt, F.ok.top⟩, ?_⟩
  · obtain ⟨m, hm⟩ := F.ok.ns
    exact ⟨m, n m hm⟩
  · intro x c hl
    obtain ⟨v, hv⟩ := F.ok.cell x c hl
    exact ⟨v, hc hl hv⟩
  · intro x v hx
    rcases F.vars x v hx with ⟨q, m, hn, hm⟩ | ⟨c, q, hl, hv⟩
    · exact .inl ⟨q, m, n m hn, hm⟩
    · exact .inr ⟨c, q, hl, hc hl hv⟩

section
variable {prog : Program} {w : World} {A : Around} {E : Value → Shared → Prop} {env : Env} {h : Heap} {gs : Array GenState} {d : Drawn} {k : Nat} {os : OsState} {Q : Value → Shared → Prop} {R : Flow → Shared → Prop}
theorem r_or {x y : PySem.Expr} {pos : Pos} {whole : Sem Value} {Q : Bool → Shared → Prop}
    (H : wpAny (model prog w) A (isTrue x env (eval x env)) (fun b s₁ => (b = true → Q true s₁) ∧ (b = false → wpAny (model prog w) A (isTrue y env (eval y env)) Q E s₁)) E ⟨h, gs, d, k, os⟩) :
    wpAny (model prog w) A (isTrue (.BoolOp .Or [x, y] pos) env whole) Q E ⟨h, gs, d, k, os⟩ := by
  show wpAny _ _ (do
    match BoolOp.Or, ← isTrue x env (eval x env) with
    | .And, false => pure false
    | .Or, true => pure true
    | _, _ => allTrue .Or [y] env) _ _ _
  refine wpAny_bind (wpAny_mono H (fun b s₁ q => ?_) fun _ _ e => e)
  cases b with
  | true => exact wpAny_pure (q.1 rfl)
  | false =>
    show wpAny _ _ (do
      match BoolOp.Or, ← isTrue y env (eval y env) with
      | .And, false => pure false
      | .Or, true => pure true
      | _, _ => allTrue .Or [] env) _ _ _
    refine wpAny_bind (wpAny_mono (q.2 rfl) (fun b s₁ q => ?_) fun _ _ e => e)
    cases b with
    | false => exact wpAny_pure q
    | true => exact wpAny_pure q
theorem r_not {x : PySem.Expr} {pos : Pos} {whole : Sem Value} {Q : Bool → Shared → Prop} {s : Shared}
    (H : wpAny (model prog w) A (isTrue x env (eval x env)) (fun b s₁ => Q (!b) s₁) E s) :
    wpAny (model prog w) A (isTrue (.UnaryOp .Not x pos) env whole) Q E s := by
  rw [arm_isTrue_UnaryOp]
  exact wpAny_bind (wpAny_mono H (fun b s₁ q => wpAny_pure q) fun _ _ e => e)
theorem r_callTruth {f : PySem.Expr} {args : List PySem.Expr} {kws : List Keyword} {pos : Pos} {Q : Bool → Shared → Prop} {s : Shared}
    (H : wpAny (model prog w) A (eval (.Call f args kws pos) env) (fun z s₁ => ∃ b, z = .bool b ∧ Q b s₁) E s) : wpAny (model prog w) A (isTrue (.Call f args kws pos) env (eval (.Call f args kws pos) env)) Q E s := by
  show wpAny _ _ (do let v ← eval (.Call f args kws pos) env; standAt _; holding [v] (truthy v)) _ _ _
  refine wpAny_bind (wpAny_mono H (fun z s₁ q => ?_) fun _ _ e => e)
  obtain ⟨b, rfl, q⟩ := q
  exact wpAny_bind (wpAny_standAt (wpAny_holding (wpAny_truthy_bool q)))
/-- an item of a list, from either end -/
theorem r_itemE {value slice : PySem.Expr} {pos : Pos}
    (H : wpAny (model prog w) A (eval value env) (fun o s₁ => wpAny (model prog w) A (eval slice env) (fun i s₂ => ∃ (l : Addr) (vs : List Value) (j : Int) (u : Tok) (x : Value), o = .ref l ∧ i = .int j u ∧ s₂.heap.IsList l vs.toArray ∧ vs.length ≤ 1000 ∧
      ((0 ≤ j ∧ vs[j.toNat]? = some x) ∨ (j < 0 ∧ -(vs.length : Int) ≤ j ∧ vs[(j + vs.length).toNat]? = some x)) ∧ Q x s₂) E s₁) E ⟨h, gs, d, k, os⟩)
    (hs : ∀ (l : Addr) (j : Int) (u : Tok), subscripted slice false (.ref l) (.int j u) = operate [.ref l, .int j u] (getItem (.ref l) (.int j u)) := by intros; with_unfolding_all rfl) :
    wpAny (model prog w) A (eval (.Subscript value slice pos) env) Q E ⟨h, gs, d, k, os⟩ :=
  Subscript_ (wpAny_mono H (fun o s₁ h₁ => wpAny_mono h₁ (fun i s₂ h₂ => by
    obtain ⟨l, vs, j, u, x, rfl, rfl, hl, hn, hx, q⟩ := h₂
    rcases hx with ⟨h0, hx⟩ | ⟨h0, h1, hx⟩
    · have : j.toNat < vs.length := (List.getElem?_eq_some_iff.mp hx).1
      exact tail_any hl.typeIs slot_list_getitem.lookup (wpAny_getItem_list hl h0 (by omega) (by simpa using hx) q) (hs _ _ _)
    · exact tail_any hl.typeIs slot_list_getitem.lookup (wpAny_getItem_list_neg hl h0 (by simpa using h1) (by omega) (by simpa using hx) q) (hs _ _ _)) fun _ _ e => e) fun _ _ e => e)
/-- a range and its iterator: a thing of fields -/
theorem r_rangeItK {b : Nat} {u : Tok} (hb : b < 1000000) (hh : A.handled = none)
    (H : ∀ h' k' I St, Ext h h' → h.objs.size ≤ I → I < h'.objs.size → Walks prog w A I [I] [I] b (fun i v => ∃ t, v = .int ((0 + i : Nat) : Int) t) St → St 0 h' → (∀ i h'', St i h'' → ∃ o fs, h''.get? I = some o ∧ o.data = .fields fs) → Q (.ref I) ⟨h', gs, d, k', os⟩) :
    wpAny (model prog w) A (call (.type "range") [.int (b : Int) u]) (fun xv s₁ => wpAny (model prog w) A (pyIter xv) Q E s₁) E ⟨h, gs, d, k, os⟩ := by
  refine r_range1 fun k' t v => ?_
  have hr : IsRange (h.push { cls := .type "range", data := .fields #[.int 0 t, .int (b : Int) u, .int 1 v] }) h.objs.size 0 (b : Int) 1 t u v := Heap.get?_push_size _ rfl
  have e : (h.push { cls := .type "range", data := .fields #[.int 0 t, .int (b : Int) u, .int 1 v] }).objs.size = h.objs.size + 1 := Heap.size_push ..
  refine wpAny_pyIter_range hr (small_one (by omega) (by omega) (by omega) (by omega)) ?_
  have hsz : Builtin.Range.rangeSize 0 (b : Int) 1 = (b : Int) := by rw [rangeSize_one]; split <;> omega
  generalize hH : h.push { cls := .type "range", data := .fields #[.int 0 t, .int (b : Int) u, .int 1 v] } = H1 at *
  have hext : Ext h H1 := hH ▸ Ext.push _ _
  have W := Walks.range (prog := prog) (w := w) (A := A) hh H1.objs.size 0 1 b
  refine H _ _ _ (fun i h' => IsRangeIter h' H1.objs.size (0 + (i : Nat) * 1) ((b : Int) - (i : Nat)) 1) (hext.trans (Ext.push _ _)) (by rw [e]; exact Nat.le_succ _) (Nat.lt_of_lt_of_eq (Nat.lt_succ_self _) (Heap.size_push ..).symm) ?_ ?_ (fun i h'' st => ⟨_, _, st, rfl⟩)
  · exact ⟨W.sub, W.frame, fun i s Q E hi hs hQ => W.item i s Q E hi hs fun v h' tk hv => hQ v h' tk (by obtain ⟨t, rfl⟩ := hv; exact ⟨t, by congr 1; omega⟩), W.done, W.self⟩
  · rw [hsz]
    have e1 : ((0 : Int) + ((0 : Nat) : Int) * 1) = 0 := by omega
    have e2 : ((b : Int) - ((0 : Nat) : Int)) = (b : Int) := by omega
    show IsRangeIter _ _ _ _ _
    rw [e1, e2]
    exact Heap.get?_push_size _ rfl

noncomputable abbrev LoopEndG (d : Drawn) (os : OsState) (Inv Post : Heap → Array GenState → Prop) (R : Flow → Shared → Prop) : Flow → Shared → Prop := fun f s => match f with
  | .next | .cont => ∃ h' gs' k', s = ⟨h', gs', d, k', os⟩ ∧ Inv h' gs'
  | .brk => ∃ h' gs' k', s = ⟨h', gs', d, k', os⟩ ∧ Post h' gs'
  | .ret v => R (.ret v) s
theorem s_forG {I : Addr} {fp wr : List Addr} {n : Nat} {P : Nat → Value → Prop} {St : Nat → Heap → Prop} (W : Walks prog w A I fp wr n P St)
    {target : PySem.Expr} {body : List Stmt} {rest : List Stmt} {E' : Value → Shared → Prop} (Inv : Nat → Heap → Array GenState → Prop) (Post : Heap → Array GenState → Prop)
    (h0 : Inv 0 h gs) (st0 : St 0 h) (ht : ∀ v, letOwnedTupleGo target (.ref I) v = pure ())
    (turn : ∀ i h gs k v h₁ E', i < n → Inv i h gs → St i h → St (i + 1) h₁ → P i v → (∀ b o, b ∉ wr → h.get? b = some o → h₁.get? b = some o) →
      wpAny (model prog w) A (assign target env v) (fun _ s₂ => wpAny (model prog w) A (execs body env) (LoopEndG d os (fun h' gs' => Inv (i + 1) h' gs' ∧ St (i + 1) h') Post R) E' s₂) E' ⟨h₁, gs, d, k, os⟩)
    (fin : ∀ h gs h₁, Inv n h gs → St n h → (∀ b o, b ∉ wr → h.get? b = some o → h₁.get? b = some o) → Post h₁ gs)
    (K : ∀ h' gs' k', Post h' gs' → wpAny (model prog w) A (execs rest env) R E ⟨h', gs', d, k', os⟩) :
    codeAny (model prog w) A (.forLoop target (.ref I) body [] env) (fun r s' => match r with | .ok f => Then prog w A env rest R E f s' | .error e => cameBackBy (model prog w) A env E' e s') ⟨h, gs, d, k, os⟩ := by
  refine codeAny_forLoop (fun m s => ∃ i h gs k, m = n - i ∧ i ≤ n ∧ s = ⟨h, gs, d, k, os⟩ ∧ Inv i h gs ∧ St i h) ?_ n ⟨0, h, gs, k, rfl, Nat.zero_le _, rfl, h0, st0⟩ ht
  rintro m s ⟨i, h, gs, k, rfl, hi, rfl, hI, hS⟩
  by_cases hlt : i < n
  · refine W.item i _ _ _ hlt hS fun v h₁ tk hP hS₁ hk₁ => ?_
    refine wpAny_mono (turn i h gs tk v h₁ _ hlt hI hS hS₁ hP hk₁) (fun _ s₂ h₂ => wpAny_mono h₂ (fun f s₃ h₃ => ?_) fun _ _ e => e) fun _ _ e => e
    cases f with
    | next => obtain ⟨h', gs', k', rfl, a, b⟩ := h₃; exact ⟨n - (i + 1), by omega, i + 1, h', gs', k', rfl, hlt, rfl, a, b⟩
    | cont => obtain ⟨h', gs', k', rfl, a, b⟩ := h₃; exact ⟨n - (i + 1), by omega, i + 1, h', gs', k', rfl, hlt, rfl, a, b⟩
    | brk => obtain ⟨h', gs', k', rfl, a⟩ := h₃; exact K _ _ _ a
    | ret v => exact h₃
  · have e : i = n := by omega
    subst e
    exact W.done _ _ _ hS fun h₁ tk hk₁ => wpAny_execs_nil (K _ _ _ (fin h gs h₁ hI hS hk₁))

theorem s_setCVG {g : Heap} {hi : Nat} {σ : List (Str × Value)} {elt iter : PySem.Expr} {x y : Str} {px py spos : Pos} {ifs : List PySem.Expr} {scope : Scope} {cl : List (Str × Addr)} {pos : Pos} {rest : List Stmt} (vs : List Value)
    (F : Value → Value → Prop) (G : Array GenState → Prop) (hG : G gs) (Fm : Frm g env hi h σ)
    (hsw : swapsWith (.ListComp elt [⟨.Name x px, iter, [], 0⟩] scope pos) (some (.Name y py)) spos.line env = pure true) (hy : env.kindOf y = some .local)
    (hclos : closureFor scope env = pure cl) (hcell : ∀ y ∈ scope.names, y.2 ≠ .cell) (hkind : scope.kind = .function)
    (hnames : ∀ y ∈ scope.names, y.2 = .local → scope.names.lookup y.1 = some .local) (hx : scope.names.lookup x = some .local) (hs : ∀ x, foldedSetIterable iter env x = pure x) (hh : A.handled = none) (hsz : vs.length ≤ 10000)
    (H1 : wpAny (model prog w) A (eval iter env) (fun xv s₁ => ∃ h₁ k₁ l, s₁ = ⟨h₁, gs, d, k₁, os⟩ ∧ xv = .ref l ∧ Ext h h₁ ∧ h₁.IsList l vs.toArray ∧ h.objs.size ≤ h₁.objs.size) E ⟨h, gs, d, k, os⟩)
    (He : ∀ C v h₃ gs₃ k₃ E', h.objs.size ≤ C → v ∈ vs → G gs₃ → VarAt (compEnvC scope cl C env) h₃ x v → Ext h h₃ →
      wpAny (model prog w) A (eval elt (compEnvC scope cl C env)) (fun y s₄ => ∃ h₄ k₄ gs₄, s₄ = ⟨h₄, gs₄, d, k₄, os⟩ ∧ Ext h₃ h₄ ∧ G gs₄ ∧ F v y) E' ⟨h₃, gs₃, d, k₃, os⟩)
    (K : ∀ D h' k' gs' (ys : List Value), h.objs.size ≤ D → h'.PlainList D ys.toArray → Paired F vs ys → G gs' → Frm g env hi h' (put σ y (.ref D)) → Out env.locals hi h h' → wpAny (model prog w) A (execs rest env) R E ⟨h', gs', d, k', os⟩) :
    wpAny (model prog w) A (execs (.Assign [.Name y py] (.ListComp elt [⟨.Name x px, iter, [], 0⟩] scope pos) spos :: rest) env) R E ⟨h, gs, d, k, os⟩ := by
  refine s_setCG (fun _ => true) F G Fm hsw hy hclos hcell hkind hnames hx hs (wpAny_mono H1 (fun xv s₁ h₁ => ?_) fun _ _ e => e)
  obtain ⟨h₁, k₁, l, rfl, rfl, x₁, hl, hs₁⟩ := h₁
  refine r_iterL hl fun o St hW hSz st => ?_
  have hll : l < h₁.objs.size := let ⟨_, ho, _⟩ := hl; Heap.lt_size ho
  refine ⟨_, _, gs, h₁.objs.size, _, _, _, St, rfl, rfl, x₁.trans (Ext.push _ _), hs₁, Nat.le_trans hs₁ (by rw [Heap.size_push]; exact Nat.le_succ _), hW A hh, hsz, st, ?_, hG, ?_, ?_, ?_⟩
  · intro b hb
    rw [Heap.size_push]
    simp at hb
    rcases hb with rfl | rfl
    · exact Nat.lt_succ_self _
    · exact Nat.lt_succ_of_lt hll
  · rintro C i v h₃ gs₃ k₃ E' hC hv hva hk hG₃
    exact t_nil ⟨h₃, k₃, gs₃, rfl, Ext.refl _, hG₃, rfl⟩
  · rintro C i v h₃ gs₃ k₃ E' hC hv hp hva hk hG₃
    exact He C v h₃ gs₃ k₃ E' (Nat.le_trans hs₁ (Nat.le_trans (by rw [Heap.size_push]; exact Nat.le_succ _) hC)) (List.mem_of_getElem? hv) hG₃ hva (fun b o e => hk b o (Nat.ne_of_lt (Heap.lt_size (x₁ b o e))) (Heap.get?_push_of_some _ (x₁ b o e)))
  · rintro D h₃ h' k' gs' ys vs' hD x₃ hl' hlen hP hF Fm' o' hG'
    have : vs' = vs := by
      apply List.ext_getElem? 
      intro i
      by_cases hi : i < vs'.length
      · have := hP i _ (List.getElem?_eq_getElem hi)
        rw [List.getElem?_eq_getElem hi]; exact this.symm
      · rw [List.getElem?_eq_none (by omega), List.getElem?_eq_none (by omega)]
    subst this
    rw [filter_true] at hF
    exact K D h' k' gs' ys hD hl' hF hG' Fm' fun b o hb e => o' b o hb (x₃ b o e)
/-- a list's append as a statement -/
theorem s_app {x : Str} {np ap cp ep : Pos} {e : PySem.Expr} {rest : List Stmt} {D : Addr} {vs : List Value} {n : Nat} {pl : Sem Bool}
    (hn : ∀ {Q : Value → Shared → Prop}, Q (.ref D) ⟨h, gs, d, k, os⟩ → wpAny (model prog w) A (eval (.Name x np) env) Q E ⟨h, gs, d, k, os⟩)
    (hs : starEach [e] env = (false, eval e env) :: starEach [] env) (hz : vs.length ≤ 1000) (hD : h.get? D = some { cls := .type "list", data := .seq vs.toArray n })
    (H : wpAny (model prog w) A (eval e env) (fun v s₁ => ∃ h₁ gs₁ k₁, s₁ = ⟨h₁, gs₁, d, k₁, os⟩ ∧ Ext h h₁ ∧ ∀ h', Heap.SameBut D h₁ h' → h'.get? D = some { cls := .type "list", data := .seq (vs ++ [v]).toArray (n + 1) } → wpAny (model prog w) A (execs rest env) R E ⟨h', gs₁, d, k₁, os⟩) E ⟨h, gs, d, k, os⟩)
    (he : eval (.Call (.Attribute (.Name x np) "append" ap) [e] [] cp) env = (do
      let ov ← eval (.Name x np) env
      standAt ap.atName
      let (f, first) ← holding [ov] (getMethod ov "append" pl)
      callWith cp f first (backTo cp (starEach [e] env)) []) := by rfl)
    (hi : interactive env = false := by rfl) (hsw : swapsWith (.Call (.Attribute (.Name x np) "append" ap) [e] [] cp) none ep.line env = pure false := by rfl) :
    wpAny (model prog w) A (execs (.Expr (.Call (.Attribute (.Name x np) "append" ap) [e] [] cp) ep :: rest) env) R E ⟨h, gs, d, k, os⟩ := by
  refine s_cons (wpAny_Expr (r_meth (pl := pl) (hn ?_) he) hi hsw)
  refine Calls.getMethod_list_append hD rfl rfl ?_
  refine r_withB hs rfl (a_cons hs (wpAny_mono H (fun v s₁ q => ?_) fun _ _ e => e))
  obtain ⟨h₁, gs₁, k₁, rfl, x₁, q⟩ := q
  refine a_nil ?_
  refine PyProof.Rows.append_at (x₁ _ _ hD) (fun h' hs' hg' => ?_) (by rw [List.size_toArray, sizeLine_eq]; omega)
  refine q h' hs' ?_
  rw [hg']
  simp
end

/- PL -/
noncomputable def leadsOf : Nat → List (List Nat)
  | 0 => [[]]
  | n + 1 => (leadsOf n).flatMap fun l => [32 :: l, 9 :: l]
noncomputable def allLeads : List (List Nat) := leadsOf 0 ++ leadsOf 1 ++ leadsOf 2 ++ leadsOf 3 ++ leadsOf 4 ++ leadsOf 5
noncomputable def fourOf (a b : Int) : List (List Int) := [[a, b, 0, 5, 127], [a, b, 127, 2, 0], [a, b], [127, a, b]]
noncomputable def aloneX (X : List Nat) (rs : List (List Int)) : Bool :=
  let q := wsGo X [] 0 0 0
  aloneF X q.1 q.2.1 q.2.2.2 (rs.map fun ns => (standF X ns : Int)) rs
noncomputable def agreeX (X1 X2 : List Nat) (tl : List Int) : Bool :=
  let q1 := wsGo X1 [] 0 0 0
  let q2 := wsGo X2 [] 0 0 0
  agreeF X1 q1.1 q1.2.1 q1.2.2.1 q1.2.2.2 X2 q2.1 q2.2.1 q2.2.2.1 q2.2.2.2 tl
theorem leadsOf_mem : ∀ (X : List Nat), (∀ c ∈ X, c = 32 ∨ c = 9) → X ∈ leadsOf X.length
  | [], _ => List.mem_cons_self
  | c :: r, h => by
    have ih := leadsOf_mem r fun x hx => h x (List.mem_cons_of_mem _ hx)
    refine List.mem_flatMap.mpr ⟨r, ih, ?_⟩
    rcases h c List.mem_cons_self with e | e <;> subst e <;> simp
theorem allLeads_mem {X : List Nat} (h : ∀ c ∈ X, c = 32 ∨ c = 9) (hl : X.length ≤ 5) : X ∈ allLeads := by
  have := leadsOf_mem X h
  unfold allLeads
  simp only [List.mem_append]
  have hc : X.length = 0 ∨ X.length = 1 ∨ X.length = 2 ∨ X.length = 3 ∨ X.length = 4 ∨ X.length = 5 := by omega
  rcases hc with e | e | e | e | e | e <;> rw [e] at this <;> simp [this]
theorem leadF_signs (x : Int) : ∀ c ∈ leadF x, c = 32 ∨ c = 9 := by
  intro c hc
  obtain ⟨k, _, rfl⟩ := List.mem_map.mp hc
  have hb : leadBit x k = 0 ∨ leadBit x k = 1 := by
    have := fmod_bd ((x.fdiv 6).fdiv ((2 : Int) ^ k)) (b := 2) (by omega)
    unfold leadBit
    omega
  rcases hb with e | e <;> rw [e] <;> simp
theorem leadF_mem (x : Int) : leadF x ∈ allLeads := allLeads_mem (leadF_signs x) (leadF_length x)

/- the tail of a ruler does not matter -/
theorem standGo_ge (out : Nat → Option Int) : ∀ (f j : Nat) (Y : List Nat) (col : Nat), Y.length < f → col ≤ standGo out f j Y col
  | 0, _, _, _, h => absurd h (Nat.not_lt_zero _)
  | f + 1, j, Y, col, h => by
    rw [standGo]
    split
    · omega
    · rename_i z _
      split
      · omega
      · rename_i hk
        have h1 := firstK_ge Y z.toNat Y.length 1
        have := standGo_ge out f (j + 1) (Y.drop (firstK Y z.toNat Y.length 1)) (col + z.toNat) (by rw [List.length_drop]; omega)
        omega
theorem stand_min {out out' : Nat → Option Int} {m T : Nat} {rem : Nat → Nat} (hm : rem m = 0) (hs : ∀ j, j < m → out j = out' j ∧ ∃ z, out' j = some z ∧ rem j = z.toNat + rem (j + 1)) :
    ∀ (f j : Nat) (Y : List Nat) (col : Nat), Y.length < f → j ≤ m → col + rem j = T → standGo out f j Y col = standGo out' f j Y col ∨ (T ≤ standGo out f j Y col ∧ T ≤ standGo out' f j Y col)
  | 0, _, _, _, h, _, _ => absurd h (Nat.not_lt_zero _)
  | f + 1, j, Y, col, h, hj, hT => by
    by_cases e : j = m
    · subst e
      have h1 := standGo_ge out (f + 1) j Y col h
      have h2 := standGo_ge out' (f + 1) j Y col h
      exact .inr ⟨by omega, by omega⟩
    · obtain ⟨e1, z, e2, e3⟩ := hs j (by omega)
      rw [standGo, standGo, e1, e2]
      simp only
      split
      · exact .inl rfl
      · have h1 := firstK_ge Y z.toNat Y.length 1
        exact stand_min hm hs f (j + 1) _ _ (by rw [List.length_drop]; omega) (by omega) (by omega)
theorem gOut_app : ∀ (own tl : List Int) (last last' : Option Int) (j : Nat), (∀ z ∈ own, z ≠ 0 ∧ z ≠ 127) → j < own.length → gOut last (own ++ tl) j = gOut last' own j ∧ gOut last' own j = own[j]?
  | [], _, _, _, _, _, h => absurd h (Nat.not_lt_zero _)
  | y :: r, tl, last, last', j, hz, h => by
    have hy := hz y List.mem_cons_self
    rw [List.cons_append]
    unfold gOut
    rw [if_neg hy.2, if_neg hy.1, if_neg hy.2, if_neg hy.1]
    cases j with
    | zero => exact ⟨rfl, rfl⟩
    | succ j => exact gOut_app r tl (some y) (some y) j (fun z q => hz z (List.mem_cons_of_mem _ q)) (by simpa using h)
theorem stand_tail (X : List Nat) (own tl : List Int) (hz : ∀ z ∈ own, z ≠ 0 ∧ z ≠ 127) : standF X (own ++ tl) = standF X own ∨ ((own.map Int.toNat).sum ≤ standF X (own ++ tl) ∧ (own.map Int.toNat).sum ≤ standF X own) := by
  unfold standF
  refine stand_min (m := own.length) (rem := fun j => ((own.drop j).map Int.toNat).sum) (by simp) (fun j hj => ?_) _ _ _ _ (by omega) (Nat.zero_le _) (by simp)
  obtain ⟨h1, h2⟩ := gOut_app own tl none none j hz hj
  refine ⟨h1, own[j], by rw [h2, List.getElem?_eq_getElem hj], ?_⟩
  show ((own.drop j).map Int.toNat).sum = _
  rw [List.drop_eq_getElem_cons hj, List.map_cons, List.sum_cons]

noncomputable def ownOk (X : List Nat) : Bool := (ownF X).all (fun z => decide (0 < z ∧ z < 127)) && decide (((ownF X).map Int.toNat).sum = X.length + 1) && decide (ownF X ≠ [])
theorem own_all : allLeads.all ownOk = true := by decide +kernel
theorem own_ok {X : List Nat} (h : X ∈ allLeads) : (∀ z ∈ ownF X, 0 < z ∧ z < 127) ∧ ((ownF X).map Int.toNat).sum = X.length + 1 ∧ ownF X ≠ [] := by
  have := List.all_eq_true.mp own_all X h
  unfold ownOk at this
  simp only [Bool.and_eq_true, decide_eq_true_eq, List.all_eq_true] at this
  exact ⟨this.1.1, this.1.2, this.2⟩
theorem agree_tail {X1 X2 : List Nat} (h2 : X2 ∈ allLeads) (tl : List Int) : agreeX X1 X2 tl = agreeX X1 X2 [] := by
  obtain ⟨ho, hs, _⟩ := own_ok h2
  have hz : ∀ z ∈ ownF X2, z ≠ 0 ∧ z ≠ 127 := fun z q => by have := ho z q; omega
  have e1 := stand_tail X2 (ownF X2) tl hz
  have e2 := stand_tail X1 (ownF X2) tl hz
  rw [hs] at e1 e2
  unfold agreeX agreeF
  simp only [List.append_nil]
  have q1 : (standF X2 (ownF X2 ++ tl) = X2.length) = (standF X2 (ownF X2) = X2.length) := by
    apply propext; omega
  have q2 : decide (standF X1 (ownF X2 ++ tl) < X2.length) = decide (standF X1 (ownF X2) < X2.length) := by
    rw [decide_eq_decide]; omega
  simp only [q1, q2]

/- PL2 -/
theorem lev_all : (allLeads.all fun X => let q := wsGo X [] 0 0 0; decide (zs (levs q.1 q.2.1 q.2.2.2) = zs (evenF X))) = true := by decide +kernel
noncomputable def standOk (a b : Int) : Bool := allLeads.all fun X => (fourOf a b).all fun ns => decide ((standF X ns : Int) = walkF (marksF ns X.length) X)
theorem st_11 : standOk 1 1 = true := by decide +kernel
theorem st_12 : standOk 1 2 = true := by decide +kernel
theorem st_13 : standOk 1 3 = true := by decide +kernel
theorem st_14 : standOk 1 4 = true := by decide +kernel
theorem st_21 : standOk 2 1 = true := by decide +kernel
theorem st_22 : standOk 2 2 = true := by decide +kernel
theorem st_23 : standOk 2 3 = true := by decide +kernel
theorem st_24 : standOk 2 4 = true := by decide +kernel
theorem st_31 : standOk 3 1 = true := by decide +kernel
theorem st_32 : standOk 3 2 = true := by decide +kernel
theorem st_33 : standOk 3 3 = true := by decide +kernel
theorem st_34 : standOk 3 4 = true := by decide +kernel
theorem st_41 : standOk 4 1 = true := by decide +kernel
theorem st_42 : standOk 4 2 = true := by decide +kernel
theorem st_43 : standOk 4 3 = true := by decide +kernel
theorem st_44 : standOk 4 4 = true := by decide +kernel
theorem st_all {a b : Int} (ha : 1 ≤ a ∧ a ≤ 4) (hb : 1 ≤ b ∧ b ≤ 4) : standOk a b = true := by
  have h1 : a = 1 ∨ a = 2 ∨ a = 3 ∨ a = 4 := by omega
  have h2 : b = 1 ∨ b = 2 ∨ b = 3 ∨ b = 4 := by omega
  rcases h1 with rfl | rfl | rfl | rfl <;> rcases h2 with rfl | rfl | rfl | rfl
  · exact st_11
  · exact st_12
  · exact st_13
  · exact st_14
  · exact st_21
  · exact st_22
  · exact st_23
  · exact st_24
  · exact st_31
  · exact st_32
  · exact st_33
  · exact st_34
  · exact st_41
  · exact st_42
  · exact st_43
  · exact st_44
theorem alone_true {X : List Nat} (h : X ∈ allLeads) {a b : Int} (ha : 1 ≤ a ∧ a ≤ 4) (hb : 1 ≤ b ∧ b ≤ 4) : aloneX X (fourOf a b) = true := by
  have h1 := List.all_eq_true.mp lev_all X h
  have h2 := List.all_eq_true.mp (st_all ha hb) X h
  have h1 := of_decide_eq_true h1
  unfold aloneX aloneF
  simp only
  rw [if_pos h1, decide_eq_true_eq]
  refine List.map_congr_left fun ns hns => ?_
  exact of_decide_eq_true (List.all_eq_true.mp h2 ns hns)
noncomputable def agreeOk (l : List (List Nat)) : Bool := l.all fun X2 => allLeads.all fun X1 => agreeX X1 X2 []
theorem ag_a : agreeOk (leadsOf 0 ++ leadsOf 1 ++ leadsOf 2) = true := by decide +kernel
theorem ag_b : agreeOk (leadsOf 3) = true := by decide +kernel
theorem ag_c0 : agreeOk (((leadsOf 4).drop 0).take 8) = true := by decide +kernel
theorem ag_c1 : agreeOk (((leadsOf 4).drop 8).take 8) = true := by decide +kernel
theorem ag_d0 : agreeOk (((leadsOf 5).drop 0).take 8) = true := by decide +kernel
theorem ag_d1 : agreeOk (((leadsOf 5).drop 8).take 8) = true := by decide +kernel
theorem ag_d2 : agreeOk (((leadsOf 5).drop 16).take 8) = true := by decide +kernel
theorem ag_d3 : agreeOk (((leadsOf 5).drop 24).take 8) = true := by decide +kernel
theorem agreeOk_append {l r : List (List Nat)} (a : agreeOk l = true) (b : agreeOk r = true) : agreeOk (l ++ r) = true := by
  unfold agreeOk at *
  rw [List.all_append, a, b]; rfl
theorem ag_all : agreeOk allLeads = true := by
  have e4 : leadsOf 4 = ((leadsOf 4).drop 0).take 8 ++ ((leadsOf 4).drop 8).take 8 := by decide +kernel
  have e5 : leadsOf 5 = ((leadsOf 5).drop 0).take 8 ++ ((leadsOf 5).drop 8).take 8 ++ ((leadsOf 5).drop 16).take 8 ++ ((leadsOf 5).drop 24).take 8 := by decide +kernel
  have h4 : agreeOk (leadsOf 4) = true := by rw [e4]; exact agreeOk_append ag_c0 ag_c1
  have h5 : agreeOk (leadsOf 5) = true := by rw [e5]; exact agreeOk_append (agreeOk_append (agreeOk_append ag_d0 ag_d1) ag_d2) ag_d3
  exact agreeOk_append (agreeOk_append (agreeOk_append ag_a ag_b) h4) h5
theorem agree_true {X1 X2 : List Nat} (h1 : X1 ∈ allLeads) (h2 : X2 ∈ allLeads) (tl : List Int) : agreeX X1 X2 tl = true := by
  rw [agree_tail h2]
  exact List.all_eq_true.mp (List.all_eq_true.mp ag_all X2 h2) X1 h1

/- C18 -/
section
variable {prog : Program} {w : World} {A : Around} {E : Value → Shared → Prop} {env : Env} {h : Heap} {gs : Array GenState} {d : Drawn} {k : Nat} {os : OsState} {Q : Value → Shared → Prop} {R : Flow → Shared → Prop}
/-- a comprehension over a list that its own head makes -/
theorem r_compW {elt iter : PySem.Expr} {x : Str} {px : Pos} {scope : Scope} {cl : List (Str × Addr)} {pos : Pos} (F : Value → Value → Prop)
    (hclos : closureFor scope env = pure cl) (hcell : ∀ y ∈ scope.names, y.2 ≠ .cell) (hkind : scope.kind = .function)
    (hnames : ∀ y ∈ scope.names, y.2 = .local → scope.names.lookup y.1 = some .local) (hx : scope.names.lookup x = some .local) (hs : ∀ x, foldedSetIterable iter env x = pure x) (hh : A.handled = none)
    (H1 : wpAny (model prog w) A (eval iter env) (fun xv s₁ => ∃ h₁ k₁ l vs, s₁ = ⟨h₁, gs, d, k₁, os⟩ ∧ xv = .ref l ∧ Ext h h₁ ∧ h₁.IsList l vs.toArray ∧ h.objs.size ≤ h₁.objs.size ∧ vs.length ≤ 10000 ∧
      (∀ C v h₃ k₃ E', v ∈ vs → VarAt (compEnvC scope cl C env) h₃ x v → Ext h h₃ →
        wpAny (model prog w) A (eval elt (compEnvC scope cl C env)) (fun y s₄ => ∃ h₄ k₄, s₄ = ⟨h₄, gs, d, k₄, os⟩ ∧ Ext h₃ h₄ ∧ F v y) E' ⟨h₃, gs, d, k₃, os⟩) ∧
      (∀ D h' k' (ys : List Value), h.objs.size ≤ D → Ext h h' → h'.PlainList D ys.toArray → Paired F vs ys → Q (.ref D) ⟨h', gs, d, k', os⟩)) E ⟨h, gs, d, k, os⟩) :
    wpAny (model prog w) A (eval (.ListComp elt [⟨.Name x px, iter, [], 0⟩] scope pos) env) Q E ⟨h, gs, d, k, os⟩ := by
  refine r_compG (fun _ => true) F (· = gs) hclos hcell hkind hnames hx hs (wpAny_mono H1 (fun xv s₁ h₁ => ?_) fun _ _ e => e)
  obtain ⟨h₁, k₁, l, vs, rfl, rfl, x₁, hl, hs₁, hsz, He, K⟩ := h₁
  refine r_iterL hl fun o St hW hSz st => ?_
  have hll : l < h₁.objs.size := let ⟨_, ho, _⟩ := hl; Heap.lt_size ho
  refine ⟨_, _, gs, h₁.objs.size, _, _, _, St, rfl, rfl, hW A hh, hsz, st, ?_, rfl, ?_, ?_, ?_⟩
  · intro b hb
    rw [Heap.size_push]
    simp at hb
    rcases hb with rfl | rfl
    · exact Nat.lt_succ_self _
    · exact Nat.lt_succ_of_lt hll
  · rintro C i v h₃ gs₃ k₃ E' hC hv hva hk rfl
    exact t_nil ⟨h₃, k₃, gs₃, rfl, Ext.refl _, rfl, rfl⟩
  · rintro C i v h₃ gs₃ k₃ E' hC hv hp hva hk rfl
    refine wpAny_mono (He C v h₃ k₃ E' (List.mem_of_getElem? hv) hva (fun b o e => hk b o (Nat.ne_of_lt (Heap.lt_size (x₁ b o e))) (Heap.get?_push_of_some _ (x₁ b o e)))) (fun ok s₄ q => ?_) fun _ _ e => e
    obtain ⟨h₄, k₄, rfl, x₄, e⟩ := q
    exact ⟨h₄, k₄, _, rfl, x₄, rfl, e⟩
  · rintro D h' k' gs' ys vs' hD hl' hlen hP hF hk rfl
    have : vs' = vs := by
      apply List.ext_getElem? 
      intro i
      by_cases hi : i < vs'.length
      · have := hP i _ (List.getElem?_eq_getElem hi)
        rw [List.getElem?_eq_getElem hi]; exact this.symm
      · rw [List.getElem?_eq_none (by omega), List.getElem?_eq_none (by omega)]
    subst this
    rw [filter_true] at hF
    exact K D h' k' ys (Nat.le_trans hs₁ (Nat.le_trans (by rw [Heap.size_push]; exact Nat.le_succ _) hD)) (fun b o e => hk b o (Nat.ne_of_lt (Heap.lt_size (x₁ b o e))) (Heap.get?_push_of_some _ (x₁ b o e))) hl' hF
/-- a name bound to a comprehension over a list that its own head makes -/
theorem s_setCW {g : Heap} {hi : Nat} {σ : List (Str × Value)} {elt iter : PySem.Expr} {x y : Str} {px py spos : Pos} {scope : Scope} {cl : List (Str × Addr)} {pos : Pos} {rest : List Stmt} (F : Value → Value → Prop) (Fm : Frm g env hi h σ)
    (hsw : swapsWith (.ListComp elt [⟨.Name x px, iter, [], 0⟩] scope pos) (some (.Name y py)) spos.line env = pure true) (hy : env.kindOf y = some .local)
    (hclos : closureFor scope env = pure cl) (hcell : ∀ y ∈ scope.names, y.2 ≠ .cell) (hkind : scope.kind = .function)
    (hnames : ∀ y ∈ scope.names, y.2 = .local → scope.names.lookup y.1 = some .local) (hx : scope.names.lookup x = some .local) (hs : ∀ x, foldedSetIterable iter env x = pure x) (hh : A.handled = none)
    (H1 : wpAny (model prog w) A (eval iter env) (fun xv s₁ => ∃ h₁ k₁ l vs, s₁ = ⟨h₁, gs, d, k₁, os⟩ ∧ xv = .ref l ∧ Ext h h₁ ∧ h₁.IsList l vs.toArray ∧ h.objs.size ≤ h₁.objs.size ∧ vs.length ≤ 10000 ∧
      (∀ C v h₃ k₃ E', v ∈ vs → VarAt (compEnvC scope cl C env) h₃ x v → Ext h h₃ →
        wpAny (model prog w) A (eval elt (compEnvC scope cl C env)) (fun y s₄ => ∃ h₄ k₄, s₄ = ⟨h₄, gs, d, k₄, os⟩ ∧ Ext h₃ h₄ ∧ F v y) E' ⟨h₃, gs, d, k₃, os⟩) ∧
      (∀ D h' k' (ys : List Value), h.objs.size ≤ D → h'.PlainList D ys.toArray → Paired F vs ys → Frm g env hi h' (put σ y (.ref D)) → Out env.locals hi h h' → wpAny (model prog w) A (execs rest env) R E ⟨h', gs, d, k', os⟩)) E ⟨h, gs, d, k, os⟩) :
    wpAny (model prog w) A (execs (.Assign [.Name y py] (.ListComp elt [⟨.Name x px, iter, [], 0⟩] scope pos) spos :: rest) env) R E ⟨h, gs, d, k, os⟩ := by
  refine s_setCG (fun _ => true) F (· = gs) Fm hsw hy hclos hcell hkind hnames hx hs (wpAny_mono H1 (fun xv s₁ h₁ => ?_) fun _ _ e => e)
  obtain ⟨h₁, k₁, l, vs, rfl, rfl, x₁, hl, hs₁, hsz, He, K⟩ := h₁
  refine r_iterL hl fun o St hW hSz st => ?_
  have hll : l < h₁.objs.size := let ⟨_, ho, _⟩ := hl; Heap.lt_size ho
  refine ⟨_, _, gs, h₁.objs.size, _, _, _, St, rfl, rfl, x₁.trans (Ext.push _ _), hs₁, Nat.le_trans hs₁ (by rw [Heap.size_push]; exact Nat.le_succ _), hW A hh, hsz, st, ?_, rfl, ?_, ?_, ?_⟩
  · intro b hb
    rw [Heap.size_push]
    simp at hb
    rcases hb with rfl | rfl
    · exact Nat.lt_succ_self _
    · exact Nat.lt_succ_of_lt hll
  · rintro C i v h₃ gs₃ k₃ E' hC hv hva hk rfl
    exact t_nil ⟨h₃, k₃, gs₃, rfl, Ext.refl _, rfl, rfl⟩
  · rintro C i v h₃ gs₃ k₃ E' hC hv hp hva hk rfl
    refine wpAny_mono (He C v h₃ k₃ E' (List.mem_of_getElem? hv) hva (fun b o e => hk b o (Nat.ne_of_lt (Heap.lt_size (x₁ b o e))) (Heap.get?_push_of_some _ (x₁ b o e)))) (fun ok s₄ q => ?_) fun _ _ e => e
    obtain ⟨h₄, k₄, rfl, x₄, e⟩ := q
    exact ⟨h₄, k₄, _, rfl, x₄, rfl, e⟩
  · rintro D h₃ h' k' gs' ys vs' hD x₃ hl' hlen hP hF Fm' o' rfl
    have : vs' = vs := by
      apply List.ext_getElem? 
      intro i
      by_cases hi : i < vs'.length
      · have := hP i _ (List.getElem?_eq_getElem hi)
        rw [List.getElem?_eq_getElem hi]; exact this.symm
      · rw [List.getElem?_eq_none (by omega), List.getElem?_eq_none (by omega)]
    subst this
    rw [filter_true] at hF
    exact K D h' k' ys hD hl' hF Fm' fun b o hb e => o' b o hb (x₃ b o e)
/-- a slice of a list that an expression makes -/
theorem r_slT {value : PySem.Expr} {lower upper : Option PySem.Expr} {p pos : Pos}
    (H : wpAny (model prog w) A (eval value env) (fun o s₁ => wpAny (model prog w) A (evalPart lower env) (fun vl s₂ => wpAny (model prog w) A (evalPart upper env) (fun vu s₃ =>
      ∃ l vs lo hi h₃ k₃, s₃ = ⟨h₃, gs, d, k₃, os⟩ ∧ o = .ref l ∧ h₃.IsList l vs.toArray ∧ vs.length ≤ 1000 ∧ IsPart vl lo ∧ IsPart vu hi ∧
        ∀ h' D, Ext h₃ h' → h₃.objs.size ≤ D → h'.get? D = some (listO (cutL vs lo hi)) → Q (.ref D) ⟨h', gs, d, k₃, os⟩) E s₂) E s₁) E ⟨h, gs, d, k, os⟩) :
    wpAny (model prog w) A (eval (.Subscript value (.Slice lower upper none p) pos) env) Q E ⟨h, gs, d, k, os⟩ := by
  refine Subscript_ (wpAny_mono H (fun o s₁ h₁ => wpAny_Slice (wpAny_mono h₁ (fun vl s₂ h₂ => wpAny_mono h₂ (fun vu s₃ h₃ => ?_) fun _ _ e => e) fun _ _ e => e)) fun _ _ e => e)
  obtain ⟨l, vs, lo, hi, h₃, k₃, rfl, rfl, hl, hsz, pl, pu, hQ⟩ := h₃
  rw [evalPart_none]
  refine wpAny_pure (tail_any (ops := [_, _]) (hl.push _).typeIs slot_list_getitem.lookup (wpAny_getItem_list_slice (hl.push _) (Heap.IsSliceOf.new ..) pl pu .none (by simp) ?_ (by rw [List.size_toArray, sizeLine_eq]; omega)) rfl)
  refine hQ _ _ ((Ext.push _ _).trans (Ext.push _ _)) (by rw [Heap.size_push]; exact Nat.le_succ _) ?_
  have e2 : slicePick vs.toArray lo hi none = (cutL vs lo hi).toArray := by
    rw [slicePick_plain, List.size_toArray]; rfl
  rw [Heap.get?_push_size _ rfl, e2]
end
theorem cutL_to {α : Type} (l : List α) (n : Nat) : cutL l none (some (n : Int)) = l.take n := by
  unfold cutL
  simp only [Option.elim]
  rw [clipAt_nat, List.drop_zero, Nat.sub_zero, take_min]
noncomputable def ringF (ns : List Int) : List (List Nat) := ((ns ++ [0]).take 3).map leadF ++ [[32, 32], [9], [32, 9], [32, 32, 9, 9, 9]]
theorem ringF_mem {ns : List Int} {X : List Nat} (h : X ∈ ringF ns) : X ∈ allLeads := by
  rcases List.mem_append.mp h with h | h
  · obtain ⟨n, _, rfl⟩ := List.mem_map.mp h
    exact leadF_mem n
  · refine allLeads_mem ?_ ?_
    · simp at h
      rcases h with rfl | rfl | rfl | rfl <;> simp
    · simp at h
      rcases h with rfl | rfl | rfl | rfl <;> simp
theorem allLeads_len {X : List Nat} (h : X ∈ allLeads) : X.length ≤ 5 := by
  have : (allLeads.all fun X => decide (X.length ≤ 5)) = true := by decide +kernel
  exact of_decide_eq_true (List.all_eq_true.mp this X h)
theorem allLeads_signs {X : List Nat} (h : X ∈ allLeads) : ∀ c ∈ X, c = 32 ∨ c = 9 := by
  have : (allLeads.all fun X => X.all fun c => decide (c = 32 ∨ c = 9)) = true := by decide +kernel
  intro c hc
  exact of_decide_eq_true (List.all_eq_true.mp (List.all_eq_true.mp this X h) c hc)
theorem ringF_length (ns : List Int) : 4 ≤ (ringF ns).length ∧ (ringF ns).length ≤ 7 := by
  unfold ringF
  rw [List.length_append, List.length_map, List.length_take]
  simp only [List.length_cons, List.length_nil]
  omega
theorem wsGo_stop {q : Nat} (h1 : q ≠ 32) (h2 : q ≠ 9) (r : List Nat) : ∀ (X c : List Nat) (b n nt : Nat), (∀ x ∈ X, x = 32 ∨ x = 9) → wsGo (X ++ q :: r) c b n nt = wsGo X c b n nt
  | [], c, b, n, nt, _ => by
    show wsGo (q :: r) c b n nt = (c, b, n, nt)
    unfold wsGo; rw [if_neg h1, if_neg h2]
  | x :: X, c, b, n, nt, h => by
    rw [List.cons_append]
    unfold wsGo
    rw [wsGo_stop h1 h2 r X _ _ _ _ fun y hy => h y (List.mem_cons_of_mem _ hy), wsGo_stop h1 h2 r X _ _ _ _ fun y hy => h y (List.mem_cons_of_mem _ hy)]
/-- a row of the table by its lead -/
noncomputable def RowX (w : World) (h : Heap) (v : Value) (X : List Nat) (rs : List (List Int)) : Prop :=
  RowOf w h v X (wsGo X [] 0 0 0).1 (wsGo X [] 0 0 0).2.1 (wsGo X [] 0 0 0).2.2.1 (wsGo X [] 0 0 0).2.2.2 (rs.map fun ns => (standF X ns : Int))
theorem RowX.kp {w : World} {h h' : Heap} {v : Value} {X : List Nat} {rs : List (List Int)} (x : RowX w h v X rs) (hne : rs ≠ []) (k : Kp h h') : RowX w h' v X rs :=
  RowOf.kp x (by simpa using hne) k
theorem rows_kp {w : World} {h h' : Heap} {rs : List (List Int)} {xs : List (List Nat)} {vs : List Value} (p : Paired (fun X v => RowX w h v X rs) xs vs) (hne : rs ≠ []) (k : Kp h h') : Paired (fun X v => RowX w h' v X rs) xs vs :=
  paired_mono (fun _ _ q => q.kp hne k) p
theorem table_kind {w : World} {h : Heap} {rs : List (List Int)} {xs : List (List Nat)} {vs : List Value} (p : Paired (fun X v => RowX w h v X rs) xs vs) : ¬ Kind { cls := .type "list", data := .seq vs.toArray vs.length } := by
  rintro (⟨its, n, q, z⟩ | q | ⟨_, _, q, _⟩)
  · injection q with q1 q2
    subst q1 q2
    rcases z with z | ⟨i, t, z⟩ | ⟨x, t, z⟩ | ⟨z, v, z2⟩
    · injection z with z; exact absurd z (by decide)
    · cases p with
      | nil => simp at z
      | cons a r => obtain ⟨a, _, _, _, _, e, _⟩ := a; simp at z; rw [e] at z; cases z
    · cases p with
      | nil => simp at z
      | cons a r => obtain ⟨a, _, _, _, _, e, _⟩ := a; simp at z; rw [e] at z; cases z
    · cases p with
      | nil => simp at z2
      | cons a r => simp at z
  · cases q
  · cases q
theorem Kp.app {w : World} {h h₁ h' : Heap} {rs : List (List Int)} {xs : List (List Nat)} {vs : List Value} {D : Addr} (p : Paired (fun X v => RowX w h v X rs) xs vs) (hD : h₁.get? D = some { cls := .type "list", data := .seq vs.toArray vs.length }) (s : Heap.SameBut D h₁ h') : Kp h₁ h' := fun b o hk e => by
  by_cases q : b = D
  · subst q; rw [hD] at e; cases e; exact absurd hk (table_kind p)
  · exact s.extBut b o q e

/- C19 -/
noncomputable def wordsF : List (List Nat) := [[120], [10], [12], [160]]
/-- what the loops keep -/
structure LawSt (w : World) (g : Heap) (L : Nat) (l Rg M Wd dr D : Addr) (ns : List Int) (a b : Int) (xs : List (List Nat)) (h : Heap) : Prop where
  frm : Frm g (lawEnv L) (L + 4) h [("table", .ref D), ("words", .ref Wd), ("four", .ref M), ("ring", .ref Rg), ("drawn", .ref dr), ("script", .ref l)]
  ring : SL h Rg (ringF ns)
  four : Four h M (fourOf a b)
  words : SL h Wd wordsF
  drawn : IL h dr [a, b]
  table : ∃ vs, h.get? D = some { cls := .type "list", data := .seq vs.toArray vs.length } ∧ Paired (fun X v => RowX w h v X (fourOf a b)) xs vs
  hD : L + 4 ≤ D
theorem ringF_ne (ns : List Int) : ringF ns ≠ [] := by
  have := ringF_length ns
  intro e
  rw [e] at this
  simp at this
theorem fourOf_ne (a b : Int) : fourOf a b ≠ [] := by unfold fourOf; simp
theorem fourOf_nes (a b : Int) : ∀ ns ∈ fourOf a b, ns ≠ [] := by
  unfold fourOf
  intro ns h
  simp at h
  rcases h with rfl | rfl | rfl | rfl <;> simp
theorem fourOf_len (a b : Int) : ∀ ns ∈ fourOf a b, ns.length ≤ 5 := by
  unfold fourOf
  intro ns h
  simp at h
  rcases h with rfl | rfl | rfl | rfl <;> simp
theorem fourOf_range {a b : Int} (ha : 1 ≤ a ∧ a ≤ 4) (hb : 1 ≤ b ∧ b ≤ 4) : ∀ ns ∈ fourOf a b, ∀ z ∈ ns, 0 ≤ z ∧ z < 1000000 := by
  unfold fourOf
  intro ns h z hz
  simp at h
  rcases h with rfl | rfl | rfl | rfl <;> simp at hz <;> omega
theorem fourOf_head {a b : Int} (ha : 1 ≤ a ∧ a ≤ 4) : ∀ ns ∈ fourOf a b, ns.head? ≠ some 0 := by
  unfold fourOf
  intro ns h
  simp at h
  rcases h with rfl | rfl | rfl | rfl <;> simp <;> omega
theorem own_range {X : List Nat} (h : X ∈ allLeads) {tl : List Int} (ht : ∀ z ∈ tl, 0 ≤ z ∧ z < 1000000) : ∀ z ∈ ownF X ++ tl, 0 ≤ z ∧ z < 1000000 := by
  intro z hz
  rcases List.mem_append.mp hz with q | q
  · have := (own_ok h).1 z q; omega
  · exact ht z q
theorem own_head {X : List Nat} (h : X ∈ allLeads) (tl : List Int) : (ownF X ++ tl).head? ≠ some 0 := by
  obtain ⟨h1, _, h3⟩ := own_ok h
  cases e : ownF X with
  | nil => exact absurd e h3
  | cons y r =>
    have := h1 y (by rw [e]; exact List.mem_cons_self)
    simp; omega
/-- the frame's things over a step that keeps -/
theorem LawSt.kp {w : World} {g : Heap} {L : Nat} {l Rg M Wd dr D : Addr} {ns : List Int} {a b : Int} {xs : List (List Nat)} {h h' : Heap} (s : LawSt w g L l Rg M Wd dr D ns a b xs h) (k : Kp h h')
    (F : Frm g (lawEnv L) (L + 4) h' [("table", .ref D), ("words", .ref Wd), ("four", .ref M), ("ring", .ref Rg), ("drawn", .ref dr), ("script", .ref l)]) (hd : ∀ o, h.get? D = some o → h'.get? D = some o) : LawSt w g L l Rg M Wd dr D ns a b xs h' :=
  ⟨F, s.ring.kp (ringF_ne ns) k, s.four.kp (fourOf_nes a b) k, s.words.kp (by unfold wordsF; simp) k, s.drawn.kp (by simp) k, let ⟨vs, h1, h2⟩ := s.table; ⟨vs, hd _ h1, rows_kp h2 (fourOf_ne a b) k⟩, s.hD⟩
theorem LawSt.ext {w : World} {g : Heap} {L : Nat} {l Rg M Wd dr D : Addr} {ns : List Int} {a b : Int} {xs : List (List Nat)} {h h' : Heap} (s : LawSt w g L l Rg M Wd dr D ns a b xs h) (k : Ext h h') : LawSt w g L l Rg M Wd dr D ns a b xs h' :=
  s.kp k.kp (s.frm.ext k) fun o e => k _ o e
theorem mem_script {σ : List (Str × Value)} {a b c d e : Str × Value} {v : Value} : (("script" : Str), v) ∈ [a, b, c, d, e, (("script" : Str), v)] := by simp
theorem LawSt.out {w : World} {g : Heap} {L : Nat} {l Rg M Wd dr D : Addr} {ns : List Int} {a b : Int} {xs : List (List Nat)} {h h' : Heap} (s : LawSt w g L l Rg M Wd dr D ns a b xs h) (o : Out L (L + 4) h h')
    (F : Frm g (lawEnv L) (L + 4) h' [("table", .ref D), ("words", .ref Wd), ("four", .ref M), ("ring", .ref Rg), ("drawn", .ref dr), ("script", .ref l)]) : LawSt w g L l Rg M Wd dr D ns a b xs h' :=
  s.kp (Kp.out s.frm (v := .ref l) (by simp) o) F fun ob e => o _ ob (.inr s.hD) e
theorem LawSt.iter {w : World} {g : Heap} {L : Nat} {l Rg M Wd dr D : Addr} {ns : List Int} {a b : Int} {xs : List (List Nat)} {h h' : Heap} (s : LawSt w g L l Rg M Wd dr D ns a b xs h) {I : Addr} {oI : Obj} {fs : Array Value} (hI : h.get? I = some oI) (hf : oI.data = .fields fs)
    (hIL : L + 4 ≤ I) (hDI : D ≠ I) (k : ∀ b o, b ∉ [I] → h.get? b = some o → h'.get? b = some o) : LawSt w g L l Rg M Wd dr D ns a b xs h' :=
  s.kp (Kp.iter hI hf k) (s.frm.low fun b o hb e => k b o (by simp; exact Nat.ne_of_lt (Nat.lt_of_lt_of_le hb hIL)) e) fun o e => k _ o (by simpa using hDI) e
theorem paired_append {α β : Type} {F : α → β → Prop} : ∀ {l₁ l₂ : List α} {r₁ r₂ : List β}, Paired F l₁ r₁ → Paired F l₂ r₂ → Paired F (l₁ ++ l₂) (r₁ ++ r₂)
  | _, _, _, _, .nil, b => b
  | _, _, _, _, .cons q r, b => .cons q (paired_append r b)
theorem fmod4 (i : Nat) : ((i : Nat) : Int).fmod 4 = ((i % 4 : Nat) : Int) := by
  rw [Int.fmod_eq_emod_of_nonneg _ (by omega)]; omega
theorem word_at (i : Nat) : ∃ q, wordsF[i % 4]? = some [q] ∧ q ≠ 32 ∧ q ≠ 9 := by
  have : i % 4 = 0 ∨ i % 4 = 1 ∨ i % 4 = 2 ∨ i % 4 = 3 := by omega
  rcases this with e | e | e | e <;> rw [e]
  · exact ⟨120, rfl, by decide, by decide⟩
  · exact ⟨10, rfl, by decide, by decide⟩
  · exact ⟨12, rfl, by decide, by decide⟩
  · exact ⟨160, rfl, by decide, by decide⟩
theorem lead_bds {X : List Nat} (h : X ∈ allLeads) : (wsGo X [] 0 0 0).1.length ≤ 1000 ∧ (wsGo X [] 0 0 0).2.1 ≤ 1000 := by
  have : (allLeads.all fun X => decide ((wsGo X [] 0 0 0).1.length ≤ 5 ∧ (wsGo X [] 0 0 0).2.1 ≤ 5)) = true := by decide +kernel
  have := of_decide_eq_true (List.all_eq_true.mp this X h)
  omega
theorem four_at (a b : Int) (i : Nat) : ∃ tl, (fourOf a b)[i % 4]? = some tl := by
  have : i % 4 < (fourOf a b).length := by show i % 4 < 4; omega
  exact ⟨_, List.getElem?_eq_getElem this⟩
theorem prev_at {vs : List Value} {i : Nat} (hi : i < vs.length) : ∃ v, ((0 ≤ (i : Int) - 1 ∧ vs[((i : Int) - 1).toNat]? = some v) ∨ ((i : Int) - 1 < 0 ∧ -(vs.length : Int) ≤ (i : Int) - 1 ∧ vs[((i : Int) - 1 + vs.length).toNat]? = some v)) ∧ v ∈ vs := by
  by_cases h : i = 0
  · subst h
    have hlt : (((0 : Nat) : Int) - 1 + vs.length).toNat < vs.length := by omega
    exact ⟨_, .inr ⟨by omega, by omega, List.getElem?_eq_getElem hlt⟩, List.getElem_mem hlt⟩
  · have hlt : ((i : Int) - 1).toNat < vs.length := by omega
    exact ⟨_, .inl ⟨by omega, List.getElem?_eq_getElem hlt⟩, List.getElem_mem hlt⟩
theorem ints_mod4 : ∀ {us ys : List Value} {ms : List Int}, IntsAre us ms → Paired (fun v y => ∃ n t t', v = Value.int n t ∧ y = Value.int (n.fmod 4 + 1) t') us ys → IntsAre ys (ms.map fun m => m.fmod 4 + 1)
  | _, _, _, .nil, .nil => .nil
  | _, _, _, .cons _ _ r, .cons ⟨_, _, t, e, e'⟩ r' => by cases e; cases e'; exact .cons _ t (ints_mod4 r r')
theorem law_spec {prog : Program} {w : World} {A : Around} {h : Heap} {gs : Array GenState} {d : Drawn} {k : Nat} {os : OsState} (r : Rm A 5) (cx : Cx w h) (hfr : A.frames = some []) {l : Addr} {ns : List Int} (hl : IL h l ns) (hns : ns.length ≤ 100) (B : AllBare gs)
    {R : Result → Shared → Prop} (H : ∀ h' k' gs', Ext h h' → AllBare gs' → R (.ok (.ret (.bool true))) ⟨h', gs', d, k', os⟩) :
    codeAny (model prog w) A (.call (.ref 155) ⟨[.ref l], []⟩) R ⟨h, gs, d, k, os⟩ := by
  refine enterF (fd := fdAt 155) (n := 4) [("script", .ref l)] ["script"] r cx rfl rfl rfl rfl rfl rfl rfl rfl (by decide) (fun h₁ k₁ F c₁ r₁ E => ?_) rfl rfl rfl
  change Frm h (lawEnv h.objs.size) (h.objs.size + 4) h₁ _ at F
  have hfr' : (A.deeper (lawEnv h.objs.size)).frames = some [lawEnv h.objs.size] := Around.frames_deeper hfr
  change Rm (A.deeper (lawEnv h.objs.size)) 4 at r₁
  generalize hA : A.deeper (lawEnv h.objs.size) = A' at r₁ hfr'
  generalize hL : h.objs.size = L at *
  as_aux_lemma =>
  refine hidQ fun Q₀ hQ₀ => ?_
  obtain ⟨vs0, hv0, hi0⟩ := id hl
  have hn0 := hi0.length
  -- ring
  refine s_set F (.inr ⟨rfl, rfl⟩) rfl (r_binop (r_compW (fun v y => ∃ n t t', v = .int n t ∧ y = .str (S (leadF n)) t') rfl (by decide) rfl (by decide) rfl (fun _ => rfl) r₁.hh (r_slT (r_binop ?_))))
  walk_at "nm"
  refine r_list (a_cons rfl (r_int fun t₁ k₂ => a_nil ⟨_, _, rfl, by simp, ?_⟩))
  refine r_addL (isList_ext hv0 (F.ok.keep.trans (Ext.push _ _))) (isList_push _ _) (by simp; omega) ?_
  refine e_none (e_some (r_int fun t₂ k₃ => ?_))
  refine ⟨_, _, _, _, _, _, rfl, rfl, isList_push _ _, by simp; omega, .none, .int _ _, fun h₂ G x₂ hG hg => ?_⟩
  refine ⟨_, _, _, _, rfl, rfl, ((Ext.push _ _).trans (Ext.push _ _)).trans x₂, ⟨_, hg, rfl, _, rfl⟩, ?_, ?_, ?_, ?_⟩
  · rw [Heap.size_push, Heap.size_push] at hG
    exact Nat.le_trans (by omega) (Nat.le_trans hG (Nat.le_of_lt (Heap.lt_size hg)))
  · have := cutL_length_le (vs0 ++ [Value.int 0 t₁]) none (some 3)
    rw [List.length_append, List.length_singleton] at this
    omega
  · intro C v h₃ k₄ E₂ hv hva x₃
    have hvi : IntsAre (cutL (vs0 ++ [Value.int 0 t₁]) none (some 3)) (cutL (ns ++ [0]) none (some 3)) := intsAre_cut (hi0.append (.cons 0 t₁ .nil)) _ _
    obtain ⟨n, tn, rfl, _⟩ := intsAre_mem hvi v hv
    have c₃ := c₁.ext x₃
    refine r_callK c₃ rfl rfl rfl rfl rfl (by decide) rfl rfl (a_cons rfl (r_name rfl hva (a_nil ⟨c₃.K, wpAny_call (lead_spec (r₁.le (by omega)) c₃ n tn fun h₄ k₅ t₄ x₄ => ⟨_, _, rfl, x₄, n, tn, t₄, rfl, rfl⟩)⟩)))
  intro D₁ h₃ k₄ ys hD₁ x₃ hpl hF
  have hring : Paired (fun X v => ∃ t, v = .str (S X) t) (((ns ++ [0]).take 3).map leadF) ys := by
    have hvi : IntsAre (cutL (vs0 ++ [Value.int 0 t₁]) none (some 3)) (cutL (ns ++ [0]) none (some 3)) := intsAre_cut (hi0.append (.cons 0 t₁ .nil)) _ _
    have e : cutL (ns ++ [0]) none (some 3) = (ns ++ [0]).take 3 := cutL_to _ 3
    rw [e] at hvi
    clear hpl
    generalize cutL (vs0 ++ [Value.int 0 t₁]) none (some 3) = us at hvi hF
    generalize (ns ++ [0]).take 3 = ms at hvi
    as_aux_lemma =>
    induction hvi generalizing ys with
    | nil => cases hF; exact .nil
    | cons n t r ih =>
      cases hF with
      | cons q r' =>
        obtain ⟨n', t', t'', e, q⟩ := q
        cases e
        exact .cons ⟨t'', q⟩ (ih _ r')
  refine r_list (a_cons rfl (r_lit [32, 32] (by decide +kernel) fun t₃ k₅ => a_cons rfl (r_lit [9] (by decide +kernel) fun t₄ k₆ => a_cons rfl (r_lit [32, 9] (by decide +kernel) fun t₅ k₇ => a_cons rfl (r_lit [32, 32, 9, 9, 9] (by decide +kernel) fun t₆ k₈ => a_nil ⟨_, _, rfl, by simp, ?_⟩)))))
  have hylen : ys.length ≤ 3 := by
    rw [← paired_len hring, List.length_map, List.length_take]; omega
  refine r_addL ((plain_list hpl).push _) (isList_push _ _) (by simp; omega) ⟨_, _, rfl, (x₃.trans (Ext.push _ _)).trans (Ext.push _ _), fun h₄ k₉ F₄ o₄ => ?_⟩
  have hsl : SL h₄ (h₃.push (listO [.str (S [32, 32]) t₃, .str (S [9]) t₄, .str (S [32, 9]) t₅, .str (S [32, 32, 9, 9, 9]) t₆])).objs.size (ringF ns) := by
    refine ⟨_, isList_at (isList_push _ _) (fun o e => o₄ _ o (.inr ?_) e), ?_⟩
    · rw [Heap.size_push]
      exact Nat.le_succ_of_le (F.ext x₃).ok.size
    · exact paired_append hring (.cons ⟨_, rfl⟩ (.cons ⟨_, rfl⟩ (.cons ⟨_, rfl⟩ (.cons ⟨_, rfl⟩ .nil))))
  have hRg : L + 4 ≤ (h₃.push (listO [.str (S [32, 32]) t₃, .str (S [9]) t₄, .str (S [32, 9]) t₅, .str (S [32, 32, 9, 9, 9]) t₆])).objs.size := by
    rw [Heap.size_push]
    exact Nat.le_succ_of_le (F.ext x₃).ok.size
  generalize (h₃.push (listO [.str (S [32, 32]) t₃, .str (S [9]) t₄, .str (S [32, 9]) t₅, .str (S [32, 32, 9, 9, 9]) t₆])).objs.size = Rg at hsl hRg F₄
  clear o₄ hpl hF hring x₃ hg x₂ hD₁ hG
  as_aux_lemma =>
  replace F₄ : Frm h (lawEnv L) (L + 4) h₄ [("ring", .ref Rg), ("script", .ref l)] := F₄
  have c₄ := cx.ext F₄.ok.keep
  -- drawn
  refine s_setCW (fun v y => ∃ n t t', v = .int n t ∧ y = .int (n.fmod 4 + 1) t') F₄ rfl rfl rfl (by decide) rfl (by decide) rfl (fun _ => rfl) r₁.hh (r_slT (r_binop ?_))
  walk_at "nm"
  refine r_list (a_cons rfl (r_int fun t₁ k₂ => a_cons rfl (r_int fun t₇ k₁₀ => a_nil ⟨_, _, rfl, by simp, ?_⟩)))
  refine r_addL (isList_ext hv0 (F₄.ok.keep.trans (Ext.push _ _))) (isList_push _ _) (by simp; omega) ?_
  refine e_none (e_some (r_int fun t₂ k₃ => ?_))
  refine ⟨_, _, _, _, _, _, rfl, rfl, isList_push _ _, by simp; omega, .none, .int _ _, fun h₅ G x₅ hG hg => ?_⟩
  have hvi : IntsAre (cutL (vs0 ++ [Value.int 1 t₁, Value.int 2 t₇]) none (some 2)) ((ns ++ [1, 2]).take 2) := by
    have e : cutL (ns ++ [1, 2]) none (some 2) = (ns ++ [1, 2]).take 2 := cutL_to _ 2
    rw [← e]
    exact intsAre_cut (hi0.append (.cons 1 t₁ (.cons 2 t₇ .nil))) _ _
  refine ⟨_, _, _, _, rfl, rfl, ((Ext.push _ _).trans (Ext.push _ _)).trans x₅, ⟨_, hg, rfl, _, rfl⟩, ?_, ?_, ?_, ?_⟩
  · rw [Heap.size_push, Heap.size_push] at hG
    exact Nat.le_trans (by omega) (Nat.le_trans hG (Nat.le_of_lt (Heap.lt_size hg)))
  · have := cutL_length_le (vs0 ++ [Value.int 1 t₁, Value.int 2 t₇]) none (some 2)
    rw [List.length_append] at this
    simp only [List.length_cons, List.length_nil] at this
    omega
  · intro C v h₆ k₄ E₂ hv hva x₆
    obtain ⟨n, tn, rfl, _⟩ := intsAre_mem hvi v hv
    exact r_binop (r_binop (r_name rfl hva (r_int fun t₈ k₅ => r_mod (by decide) fun t₉ k₆ => r_int fun t₁₀ k₇ => r_add fun t₁₁ k₈ => ⟨_, _, rfl, Ext.refl _, n, tn, t₁₁, rfl, rfl⟩)))
  intro dr h₆ k₄ ys hdr hpl hF F₆ o₆
  replace F₆ : Frm h (lawEnv L) (L + 4) h₆ [("drawn", .ref dr), ("ring", .ref Rg), ("script", .ref l)] := F₆
  obtain ⟨a, b, ha, hb, hil⟩ : ∃ a b, (1 ≤ a ∧ a ≤ 4) ∧ (1 ≤ b ∧ b ≤ 4) ∧ IL h₆ dr [a, b] := by
    obtain ⟨m1, m2, em⟩ : ∃ m1 m2, (ns ++ [1, 2]).take 2 = [m1, m2] := by
      match ns with
      | [] => exact ⟨1, 2, rfl⟩
      | [x] => exact ⟨x, 1, rfl⟩
      | x :: y :: r => exact ⟨x, y, rfl⟩
    rw [em] at hvi
    have h1 := fmod_bd m1 (b := 4) (by omega)
    have h2 := fmod_bd m2 (b := 4) (by omega)
    refine ⟨m1.fmod 4 + 1, m2.fmod 4 + 1, by omega, by omega, ys, plain_list hpl, ?_⟩
    exact ints_mod4 hvi hF
  replace hsl := hsl.kp (ringF_ne ns) (Kp.out F₄ (v := .ref l) (by simp) o₆)
  clear o₆ hpl hF hvi hg x₅ hG
  have hdr4 : L + 4 ≤ dr := Nat.le_trans F₄.ok.size hdr
  -- four
  as_aux_lemma =>
  refine s_set F₆ (.inr ⟨rfl, rfl⟩) rfl (hidQ fun Q₁ hQ₁ => r_list (a_cons rfl (hidQ fun Q₂ hQ₂ => r_binop ?_)))
  walk_at "nm"
  refine r_list (a_cons rfl (r_int fun t₁ k₁₁ => a_cons rfl (r_int fun t₂ k₁₂ => a_cons rfl (r_int fun t₃ k₁₃ => a_nil ⟨_, _, rfl, by simp, ?_⟩))))
  refine r_addI (hil.ext (Ext.push _ _)) ⟨_, isList_push _ _, .cons 0 t₁ (.cons 5 t₂ (.cons 127 t₃ .nil))⟩ (by simp) fun h₇ x₇ hf1 => hQ₂ _ _ (a_cons rfl (hidQ fun Q₃ hQ₃ => r_binop ?_))
  clear hQ₂ Q₂
  have xa := (Ext.push h₆ (listO [.int 0 t₁, .int 5 t₂, .int 127 t₃])).trans x₇
  generalize (h₆.push (listO [.int 0 t₁, .int 5 t₂, .int 127 t₃])).objs.size = f1 at hf1 hQ₃
  clear x₇
  as_aux_lemma =>
  have F₇ := F₆.ext xa
  walk_at "nm"
  refine r_list (a_cons rfl (r_int fun t₁ k₁₁ => a_cons rfl (r_int fun t₂ k₁₂ => a_cons rfl (r_int fun t₃ k₁₃ => a_nil ⟨_, _, rfl, by simp, ?_⟩))))
  refine r_addI ((hil.ext xa).ext (Ext.push _ _)) ⟨_, isList_push _ _, .cons 127 t₁ (.cons 2 t₂ (.cons 0 t₃ .nil))⟩ (by simp) fun h₈ x₈ hf2 => hQ₃ _ _ (a_cons rfl ?_)
  clear hQ₃ Q₃
  have xb := (Ext.push h₇ (listO [.int 127 t₁, .int 2 t₂, .int 0 t₃])).trans x₈
  generalize (h₇.push (listO [.int 127 t₁, .int 2 t₂, .int 0 t₃])).objs.size = f2 at hf2
  clear x₈
  as_aux_lemma =>
  have F₈ := F₇.ext xb
  walk_at "nm"
  refine a_cons rfl (r_binop (r_list (a_cons rfl (r_int fun t₁ k₁₁ => a_nil ⟨_, _, rfl, by simp, ?_⟩))))
  have F₉ := F₈.ext (Ext.push h₈ (listO [.int 127 t₁]))
  walk_at "nm"
  refine r_addI (IL.one_push _ _ _) (((hil.ext xa).ext xb).ext (Ext.push _ _)) (by simp) fun h₉ x₉ hf3 => a_nil ⟨_, _, rfl, by simp, ?_⟩
  have xc := (Ext.push h₈ (listO [.int 127 t₁])).trans x₉
  generalize (h₈.push (listO [.int 127 t₁])).objs.size = f3 at hf3
  clear x₉
  as_aux_lemma =>
  have F₁₀ := F₈.ext xc
  refine hQ₁ _ _ ⟨_, _, rfl, ((xa.trans xb).trans xc).trans (Ext.push _ _), fun h₁₀ k₁₄ F₁₁ o₁₁ => ?_⟩
  clear hQ₁ Q₁
  have hfour : Four h₁₀ h₉.objs.size (fourOf a b) := by
    have f0 : Four (h₉.push (listO [.ref f1, .ref f2, .ref dr, .ref f3])) h₉.objs.size (fourOf a b) :=
      ⟨_, _, Heap.get?_push_size _ rfl, .cons ⟨f1, rfl, ((hf1.ext xb).ext xc).ext (Ext.push _ _)⟩ (.cons ⟨f2, rfl, (hf2.ext xc).ext (Ext.push _ _)⟩ (.cons ⟨dr, rfl, (((hil.ext xa).ext xb).ext xc).ext (Ext.push _ _)⟩ (.cons ⟨f3, rfl, hf3.ext (Ext.push _ _)⟩ .nil)))⟩
    exact f0.kp (fourOf_nes a b) (Kp.out (F₁₀.ext (Ext.push _ _)) (v := .ref l) (by simp) o₁₁)
  have kq : Kp h₆ h₁₀ := (((xa.trans xb).trans xc).trans (Ext.push _ _)).kp.trans (Kp.out (F₁₀.ext (Ext.push _ _)) (v := .ref l) (by simp) o₁₁)
  replace hsl := hsl.kp (ringF_ne ns) kq
  replace hil := hil.kp (by simp) kq
  generalize h₉.objs.size = M at hfour F₁₁
  clear o₁₁ hf1 hf2 hf3 F₇ F₈ F₉ F₁₀ xa xb xc kq
  as_aux_lemma =>
  replace F₁₁ : Frm h (lawEnv L) (L + 4) h₁₀ [("four", .ref M), ("drawn", .ref dr), ("ring", .ref Rg), ("script", .ref l)] := F₁₁
  -- words
  refine s_set F₁₁ (.inl rfl) rfl (hidQ fun Q₁ hQ₁ => r_list (a_cons rfl (r_lit [120] (by decide +kernel) fun t₃ k₅ => a_cons rfl (r_lit [10] (by decide +kernel) fun t₄ k₆ => a_cons rfl (r_lit [12] (by decide +kernel) fun t₅ k₇ => a_cons rfl (r_lit [160] (by decide +kernel) fun t₆ k₈ => a_nil ⟨_, _, rfl, by simp, ?_⟩))))))
  refine hQ₁ _ _ ⟨_, _, rfl, Ext.push _ _, fun h₁₁ k₁₅ F₁₂ o₁₂ => ?_⟩
  clear hQ₁ Q₁
  have kq := (Ext.push h₁₀ (listO [.str (S [120]) t₃, .str (S [10]) t₄, .str (S [12]) t₅, .str (S [160]) t₆])).kp.trans (Kp.out (F₁₁.ext (Ext.push _ _)) (v := .ref l) (by simp) o₁₂)
  have hwords : SL h₁₁ h₁₀.objs.size wordsF := by
    refine SL.kp (h := h₁₀.push (listO [.str (S [120]) t₃, .str (S [10]) t₄, .str (S [12]) t₅, .str (S [160]) t₆])) ⟨_, isList_push _ _, ?_⟩ (by unfold wordsF; simp) (Kp.out (F₁₁.ext (Ext.push _ _)) (v := .ref l) (by simp) o₁₂)
    exact .cons ⟨_, rfl⟩ (.cons ⟨_, rfl⟩ (.cons ⟨_, rfl⟩ (.cons ⟨_, rfl⟩ .nil)))
  replace hsl := hsl.kp (ringF_ne ns) kq
  replace hil := hil.kp (by simp) kq
  replace hfour := hfour.kp (fourOf_nes a b) kq
  generalize h₁₀.objs.size = Wd at hwords F₁₂
  clear kq o₁₂
  as_aux_lemma =>
  replace F₁₂ : Frm h (lawEnv L) (L + 4) h₁₁ [("words", .ref Wd), ("four", .ref M), ("drawn", .ref dr), ("ring", .ref Rg), ("script", .ref l)] := F₁₂
  -- table
  refine s_set F₁₂ (.inl rfl) rfl (r_list (a_nil ⟨_, _, rfl, by simp, ?_⟩))
  refine ⟨_, _, rfl, Ext.push _ _, fun h₁₂ k₁₆ F₁₃ o₁₃ => ?_⟩
  have kq := (Ext.push h₁₁ (listO [])).kp.trans (Kp.out (F₁₂.ext (Ext.push _ _)) (v := .ref l) (by simp) o₁₃)
  have hDle : L + 4 ≤ h₁₁.objs.size := F₁₂.ok.size
  have htab : h₁₂.get? h₁₁.objs.size = some (listO []) := o₁₃ _ _ (.inr hDle) (Heap.get?_push_size _ rfl)
  have st : LawSt w h L l Rg M Wd dr h₁₁.objs.size ns a b [] h₁₂ :=
    ⟨F₁₃.sub (by walk_at "sub"), hsl.kp (ringF_ne ns) kq, hfour.kp (fourOf_nes a b) kq, hwords.kp (by unfold wordsF; simp) kq, hil.kp (by simp) kq, ⟨[], htab, .nil⟩, hDle⟩
  generalize h₁₁.objs.size = D at st
  clear htab kq o₁₃ F₁₃ hDle hsl hil hfour hwords
  clear F₁₂ F₁₁ F₆ F₄ F c₄ c₁
  as_aux_lemma =>
  have c₁₂ := cx.ext st.frm.ok.keep
  have F₁₂ := st.frm
  obtain ⟨vr, hvr, hpr⟩ := id st.ring
  have hvrn := paired_len hpr
  have hrl := ringF_length ns
  have hL12 : L + 4 ≤ h₁₂.objs.size := F₁₂.ok.size
  have hD12 : D < h₁₂.objs.size := by
    obtain ⟨_, hT, _⟩ := st.table
    exact Heap.lt_size hT
  refine s_for (fun _ => rfl) (r_call1t c₁₂ rfl boot_range (by decide) rfl rfl rfl rfl (by decide) rfl (r_call1b c₁₂ (g_len w) boot_len (by decide) rfl rfl rfl rfl (by decide) rfl ?_))
  walk_at "nm"
  refine r_len hvr (by omega) fun t₁ k₁₇ => ?_
  rw [← hvrn]
  refine r_rangeItK (by omega) r₁.hh fun h₁₃ k₁₈ I St x₁₃ hI hI2 W st₀ hIf => ?_
  have hIL : L + 4 ≤ I := Nat.le_trans hL12 hI
  have hDI : D ≠ I := Nat.ne_of_lt (Nat.lt_of_lt_of_le hD12 hI)
  refine s_forG W (fun i h' gs' => LawSt w h L l Rg M Wd dr D ns a b ((ringF ns).take i) h' ∧ AllBare gs') (fun h' gs' => LawSt w h L l Rg M Wd dr D ns a b (ringF ns) h' ∧ AllBare gs') ⟨st.ext x₁₃, B⟩ st₀ (fun _ => rfl) ?_ ?_ ?_
  · rintro i h₁₄ gs₁₄ k₁₉ v h₁₅ E' hi ⟨s₁₄, B₁₄⟩ stI stI' ⟨tv, rfl⟩ hk
    rw [Nat.zero_add]
    obtain ⟨oI, fs, hoI, hfs⟩ := hIf i _ stI
    have s₁₅ := s₁₄.iter hoI hfs hIL hDI hk
    refine s_assign (.inr ⟨rfl, rfl⟩) s₁₅.frm fun h₁₆ k₂₀ F₁₆ o₁₆ => hidQ fun Q₁ hQ₁ => ?_
    as_aux_lemma =>
    replace F₁₆ : Frm h (lawEnv L) (L + 4) h₁₆ [("i", .int ((i : Nat) : Int) tv), ("table", .ref D), ("words", .ref Wd), ("four", .ref M), ("ring", .ref Rg), ("drawn", .ref dr), ("script", .ref l)] := F₁₆
    have s₁₆ := s₁₅.out o₁₆ (F₁₆.sub (by walk_at "sub"))
    have stI₁₆ : St (i + 1) h₁₆ := W.frame _ _ _ stI' fun b hb o e => o₁₆ b o (.inr (by simp at hb; subst hb; exact hIL)) e
    obtain ⟨X, hX⟩ : ∃ X, (ringF ns)[i]? = some X := ⟨_, List.getElem?_eq_getElem hi⟩
    have hXm := ringF_mem (List.mem_of_getElem? hX)
    have hXl := allLeads_len hXm
    -- stood
    obtain ⟨vm, vms, hM, hMp⟩ := id s₁₆.four
    obtain ⟨vr, hvr, hpr⟩ := id s₁₆.ring
    obtain ⟨_, hvi, tX, rfl⟩ := paired_get hpr hX
    have hMn : (vm :: vms).length = 4 := (paired_len hMp).symm
    refine s_setCVG (ifs := []) (vm :: vms) (fun v y => ∃ lv ns', v = .ref lv ∧ IL h₁₆ lv ns' ∧ ∃ t, y = .int (standF X ns' : Int) t) AllBare B₁₄ F₁₆ rfl rfl rfl (by decide) rfl (by decide) rfl (fun _ => rfl) r₁.hh (by omega) ?_ ?_ ?_
    · walk_at "nm"
      exact ⟨_, _, _, rfl, rfl, Ext.refl _, ⟨_, hM, rfl, _, rfl⟩, Nat.le_refl _⟩
    · intro C v h₁₇ gs₁₇ k₂₁ E₂ hC hvm B₁₇ hva x₁₇
      obtain ⟨ns', hmem, lv, rfl, hil⟩ := paired_mem hMp v hvm
      have F₁₇ := F₁₆.ext x₁₇
      have c₁₇ := cx.ext F₁₇.ok.keep
      refine r_callK c₁₇ rfl rfl rfl rfl rfl (by decide) rfl rfl (a_cons rfl (r_itemL (r_name rfl ((F₁₇.var (x := "ring") (by walk_at "mem")).comp rfl rfl rfl) (r_name rfl ((F₁₇.var (x := "i") (by walk_at "mem")).comp rfl rfl rfl) ⟨Rg, vr, i, _, _, rfl, rfl, isList_ext hvr x₁₇, by omega, hvi, ?_⟩))))
      refine a_cons rfl (r_name rfl hva (a_nil ⟨c₁₇.K, wpAny_call (stand_spec (r₁.le (by omega)) c₁₇ X tX (by omega) (hil.ext x₁₇) (fourOf_range ha hb ns' hmem) (fourOf_head ha ns' hmem) B₁₇ fun h' k' t' gs' x' B' => ⟨_, _, _, rfl, x', B', lv, ns', rfl, hil, t', rfl⟩)⟩))
    · intro Ds h₁₇ k₂₁ gs₁₇ ys hDs hpl hF B₁₇ F₁₇ o₁₇
      have hstood : IL h₁₇ Ds ((fourOf a b).map fun ns => (standF X ns : Int)) := by
        refine ⟨ys, plain_list hpl, paired_ints (paired_comp ?_ hMp hF)⟩
        rintro ns v y ⟨l1, rfl, i1⟩ ⟨l2, ns2, e2, i2, ty, rfl⟩
        cases e2
        rw [i1.uniq i2]
        exact ⟨ty, rfl⟩
      replace F₁₇ : Frm h (lawEnv L) (L + 4) h₁₇ [("stood", .ref Ds), ("i", .int ((i : Nat) : Int) tv), ("table", .ref D), ("words", .ref Wd), ("four", .ref M), ("ring", .ref Rg), ("drawn", .ref dr), ("script", .ref l)] := F₁₇
      have s₁₇ := s₁₆.out o₁₇ (F₁₇.sub (by walk_at "sub"))
      have stI₁₇ : St (i + 1) h₁₇ := W.frame _ _ _ stI₁₆ fun b hb o e => o₁₇ b o (.inr (by simp at hb; subst hb; exact hIL)) e
      clear hF hMp hM hpl o₁₇ o₁₆ stI stI' stI₁₆ hvr hpr
      obtain ⟨vt, hT, hTp⟩ := id s₁₇.table
      obtain ⟨vr, hvr, hpr⟩ := id s₁₇.ring
      obtain ⟨_, hvi, tX, rfl⟩ := paired_get hpr hX
      obtain ⟨q, hq, hq32, hq9⟩ := word_at i
      obtain ⟨vw, hvw, hpw⟩ := id s₁₇.words
      obtain ⟨_, hvq, tq, rfl⟩ := paired_get hpw hq
      have c₁₇ := cx.ext F₁₇.ok.keep
      have hTn : vt.length ≤ 7 := by
        rw [← paired_len hTp, List.length_take]; omega
      refine s_app (fun q => r_name rfl (F₁₇.var (by walk_at "mem")) q) rfl (by omega) hT (hidQ fun Q₂ hQ₂ => r_list (a_cons rfl (hidQ fun Q₃ hQ₃ => r_itemL ?_)))
      as_aux_lemma =>
      walk_at "nm"
      walk_at "nm"
      refine ⟨Rg, vr, i, _, _, rfl, rfl, hvr, by omega, hvi, hQ₃ _ _ (a_cons rfl (hidQ fun Q₄ hQ₄ => r_callK c₁₇ rfl rfl rfl rfl rfl (by decide) rfl rfl (a_cons rfl (hidQ fun Q₅ hQ₅ => r_binop (r_binop (r_itemL ?_))))))⟩
      walk_at "nm"
      walk_at "nm"
      refine ⟨Rg, vr, i, _, _, rfl, rfl, hvr, by omega, hvi, r_itemL ?_⟩
      walk_at "nm"
      refine r_binop ?_
      walk_at "nm"
      refine r_int fun t₂ k₂₂ => r_mod (by decide) fun t₃ k₂₃ => ⟨Wd, vw, i % 4, _, _, rfl, by rw [fmod4], hvw, by omega, hvq, ?_⟩
      refine r_cat (by simp; omega) fun t₄ k₂₄ => r_lit [32, 9] (by decide +kernel) fun t₅ k₂₅ => r_cat (by simp; omega) fun t₆ k₂₆ => hQ₅ _ _ (a_nil ⟨c₁₇.K, ?_⟩)
      refine ws_new (r₁.le (by omega)) c₁₇ (X ++ [q] ++ [32, 9]) t₆ (by simp; omega) fun x h₁₈ k₂₇ cc bb nn nt x₁₈ hx hgo hw => ?_
      rw [show X ++ [q] ++ [32, 9] = X ++ q :: [32, 9] by simp, wsGo_stop hq32 hq9 [32, 9] X [] 0 0 0 (allLeads_signs hXm)] at hgo
      have F₁₈ := F₁₇.ext x₁₈
      have c₁₈ := c₁₇.ext x₁₈
      refine hQ₄ _ _ (a_cons rfl (hidQ fun Q₆ hQ₆ => r_callK c₁₈ rfl rfl rfl rfl rfl (by decide) rfl rfl (a_cons rfl (r_itemL ?_))))
      walk_at "nm"
      walk_at "nm"
      refine ⟨Rg, vr, i, _, _, rfl, rfl, isList_ext hvr x₁₈, by omega, hvi, a_nil ⟨c₁₈.K, wpAny_call (even_spec (r₁.le (by omega)) c₁₈ X tX (by omega) fun h₁₉ k₂₈ De x₁₉ hDe => hQ₆ _ _ (a_cons rfl ?_))⟩⟩
      have F₁₉ := F₁₈.ext x₁₉
      walk_at "nm"
      refine a_nil ⟨_, _, rfl, by simp, ?_⟩
      have xe := (x₁₈.trans x₁₉).trans (Ext.push h₁₉ (listO [.str (S X) tX, .ref x, .ref De, .ref Ds]))
      have hrow : RowX w (h₁₉.push (listO [.str (S X) tX, .ref x, .ref De, .ref Ds])) (.ref h₁₉.objs.size) X (fourOf a b) := by
        unfold RowX
        rw [hgo]
        exact ⟨_, tX, x, De, Ds, rfl, isList_push _ _, (hw.ext x₁₉).ext (Ext.push _ _), hDe.ext (Ext.push _ _), hstood.ext xe⟩
      refine hQ₂ _ _ ⟨_, _, _, rfl, xe, fun h₂₀ hsm hget => s_nil (hQ₁ _ _ ⟨_, _, _, rfl, ⟨?_, B₁₇⟩, ?_⟩)⟩
      · have s₁₉ := s₁₇.ext xe
        have kp := Kp.app hTp (xe _ _ hT) hsm
        have hDL := s₁₉.hD
        refine ⟨s₁₉.frm.low fun b o hb e => hsm.extBut b o (Nat.ne_of_lt (Nat.lt_of_lt_of_le hb hDL)) e, s₁₉.ring.kp (ringF_ne ns) kp, s₁₉.four.kp (fourOf_nes a b) kp, s₁₉.words.kp (by unfold wordsF; simp) kp, s₁₉.drawn.kp (by simp) kp,
          ⟨vt ++ [.ref h₁₉.objs.size], ?_, ?_⟩, hDL⟩
        · rw [hget, List.length_append, List.length_singleton]
        · rw [List.take_add_one, hX]
          exact Paired.snoc (rows_kp hTp (fourOf_ne a b) (xe.kp.trans kp)) (hrow.kp (fourOf_ne a b) kp)
      · exact W.frame _ _ _ stI₁₇ fun b hb o e => hsm.extBut b o (by simp at hb; subst hb; exact Ne.symm hDI) (xe b o e)
  · rintro h₁₄ gs₁₄ h₁₅ ⟨s₁₄, B₁₄⟩ stI hk
    obtain ⟨oI, fs, hoI, hfs⟩ := hIf _ _ stI
    have s₁₅ := s₁₄.iter hoI hfs hIL hDI hk
    rw [List.take_of_length_le (Nat.le_refl _)] at s₁₅
    exact ⟨s₁₅, B₁₄⟩
  rintro h₁₄ gs₁₄ k₁₉ ⟨s₁₄, B₁₄⟩
  clear st F₁₂ c₁₂ hvr hpr hIf W st₀ x₁₃ hI hI2
  have F₁₄ := s₁₄.frm
  have c₁₄ := cx.ext F₁₄.ok.keep
  as_aux_lemma =>
  refine s_if (hidQ fun Q₁ hQ₁ => r_or (hidQ fun Q₂ hQ₂ => r_not (r_callTruth (r_callK c₁₄ rfl rfl rfl rfl rfl (by decide) rfl rfl (a_cons rfl (r_binop (r_list (a_cons rfl (r_int fun t₁ k₂₀ => a_nil ⟨_, _, rfl, by simp, ?_⟩)))))))))
  have F₁₅ := F₁₄.ext (Ext.push h₁₄ (listO [.int 0 t₁]))
  walk_at "nm"
  refine r_addI (IL.one_push _ _ _) (s₁₄.drawn.ext (Ext.push _ _)) (by simp) fun h₁₅ x₁₅ hz => a_nil ⟨(c₁₄.ext ((Ext.push _ _).trans x₁₅)).K, ?_⟩
  have s₁₅ := s₁₄.ext ((Ext.push h₁₄ (listO [.int 0 t₁])).trans x₁₅)
  generalize (h₁₄.push (listO [.int 0 t₁])).objs.size = zl at hz
  clear F₁₄ F₁₅ c₁₄ s₁₄ x₁₅
  as_aux_lemma =>
  obtain ⟨mL, hnL⟩ := s₁₅.frm.ok.ns
  refine wpAny_call (refused_spec (r₁.le (by omega)) cx s₁₅.frm.ok.keep (envL := lawEnv L) (L := L) (Nat.le_of_eq hL) hfr' (fun q => nomatch (show ScopeKind.function = ScopeKind.module from q)) rfl hnL hz B₁₄ fun h₁₆ k₂₁ gs₁₆ kb nsk B₁₆ => ?_)
  refine ⟨true, rfl, hQ₂ _ _ ⟨fun q => (by cases q), fun _ => ?_⟩⟩
  clear hQ₂ Q₂
  have F₁₆ := s₁₅.frm.afterL kb nsk
  have s₁₆ := s₁₅.kp (Kp.but s₁₅.frm (v := .ref l) (by simp) kb) F₁₆ (fun o e => kb _ o (Nat.ne_of_gt (Nat.lt_of_lt_of_le (Nat.lt_add_of_pos_right (by decide)) s₁₅.hD)) e)
  clear s₁₅ hnL hz kb nsk
  obtain ⟨vt, hT, hTp⟩ := id s₁₆.table
  have hvt := paired_len hTp
  have hMll := s₁₆.four.ll
  refine r_test (r_compV vt (fun _ => false) (fun _ _ => True) rfl (by decide) rfl (by decide) rfl (fun _ => rfl) r₁.hh (by omega) ?_ ?_ ?_ ?_)
  · walk_at "nm"
    exact ⟨_, _, _, rfl, rfl, Ext.refl _, ⟨_, hT, rfl, _, rfl⟩, Nat.le_refl _⟩
  · intro C v h₁₇ k₂₂ E₂ hC hvm hva x₁₇
    obtain ⟨X, hXr, hrow⟩ := paired_mem hTp v hvm
    have hXm := ringF_mem hXr
    have hXl := allLeads_len hXm
    have F₁₇ := F₁₆.ext x₁₇
    have c₁₇ := cx.ext F₁₇.ok.keep
    refine t_one (r_not (r_callTruth (r_callK c₁₇ rfl rfl rfl rfl rfl (by decide) rfl rfl (a_cons rfl (r_name rfl hva (a_cons rfl (r_name rfl ((F₁₇.var (x := "four") (by walk_at "mem")).comp rfl rfl rfl) (a_nil ⟨c₁₇.K, ?_⟩))))))))
    refine wpAny_call (alone_spec (r₁.le (by omega)) c₁₇ (RowOf.ext hrow x₁₇) (hMll.ext x₁₇) (by omega) (lead_bds hXm).1 (by show 4 ≤ 100; omega) (fun ns' hn' => by have := fourOf_len a b ns' hn'; omega) fun h₁₈ k₂₃ x₁₈ => ⟨_, rfl, _, _, rfl, x₁₈, ?_⟩)
    have := alone_true hXm ha hb
    unfold aloneX at this
    simp only at this
    rw [this]; rfl
  · intro C v h₁₇ k₂₂ E₂ hC hvm hp
    cases hp
  intro D' h₁₇ k₂₂ ys' hD' x₁₇ hpl hF
  have hys : ys' = [] := by
    have e : vt.filter (fun _ => false) = [] := by simp
    rw [e] at hF
    cases hF; rfl
  subst hys
  refine r_list (a_nil ⟨_, _, rfl, by simp, ?_⟩)
  refine r_neI r₁.units (ns := []) (ms := []) ⟨[], isList_ext (plain_list hpl) (Ext.push _ _), .nil⟩ (IL.nil_push _) ⟨_, rfl, hQ₁ _ _ ⟨fun q => (by simp at q), fun _ => ?_⟩⟩
  clear hQ₁ Q₁
  refine s_nil ?_
  have s₁₈ := s₁₆.ext (x₁₇.trans (Ext.push h₁₇ (listO [])))
  generalize h₁₇.push (listO []) = h₁₈ at s₁₈
  clear hF hpl x₁₇ hMll hTp hT s₁₆ F₁₆
  as_aux_lemma =>
  -- the second loop
  have c₁₈ := cx.ext s₁₈.frm.ok.keep
  have F₁₈ := s₁₈.frm
  obtain ⟨vt, hT, hTp⟩ := id s₁₈.table
  have hvt := paired_len hTp
  have hL18 : L + 4 ≤ h₁₈.objs.size := F₁₈.ok.size
  have hD18 : D < h₁₈.objs.size := Heap.lt_size hT
  refine s_for (fun _ => rfl) (r_call1t c₁₈ rfl boot_range (by decide) rfl rfl rfl rfl (by decide) rfl (r_call1b c₁₈ (g_len w) boot_len (by decide) rfl rfl rfl rfl (by decide) rfl ?_))
  walk_at "nm"
  refine r_len (vs := vt) ⟨_, hT, rfl, _, rfl⟩ (by omega) fun t₁ k₂₃ => ?_
  rw [← hvt]
  refine r_rangeItK (by omega) r₁.hh fun h₁₉ k₂₄ I St x₁₉ hI hI2 W st₀ hIf => ?_
  have hIL : L + 4 ≤ I := Nat.le_trans hL18 hI
  have hDI : D ≠ I := Nat.ne_of_lt (Nat.lt_of_lt_of_le hD18 hI)
  refine s_forG W (fun i h' gs' => LawSt w h L l Rg M Wd dr D ns a b (ringF ns) h' ∧ AllBare gs') (fun h' gs' => LawSt w h L l Rg M Wd dr D ns a b (ringF ns) h' ∧ AllBare gs') ⟨s₁₈.ext x₁₉, B₁₆⟩ st₀ (fun _ => rfl) ?_ ?_ ?_
  · clear s₁₈ F₁₈ c₁₈ hT hTp st₀ x₁₉ hI hI2
    rintro i h₂₀ gs₂₀ k₂₅ v h₂₁ E' hi ⟨s₂₀, B₂₀⟩ stI stI' ⟨tv, rfl⟩ hk
    rw [Nat.zero_add]
    obtain ⟨oI, fs, hoI, hfs⟩ := hIf i _ stI
    have s₂₁ := s₂₀.iter hoI hfs hIL hDI hk
    refine s_assign (.inr ⟨rfl, rfl⟩) s₂₁.frm fun h₂₂ k₂₆ F₂₂ o₂₂ => hidQ fun Q₁ hQ₁ => ?_
    as_aux_lemma =>
    replace F₂₂ : Frm h (lawEnv L) (L + 4) h₂₂ [("i", .int ((i : Nat) : Int) tv), ("table", .ref D), ("words", .ref Wd), ("four", .ref M), ("ring", .ref Rg), ("drawn", .ref dr), ("script", .ref l)] := F₂₂
    have s₂₂ := s₂₁.out o₂₂ (F₂₂.sub (by walk_at "sub"))
    have stI₂₂ : St (i + 1) h₂₂ := W.frame _ _ _ stI' fun b hb o e => o₂₂ b o (.inr (by simp at hb; subst hb; exact hIL)) e
    clear o₂₂ s₂₁ s₂₀ hk stI stI' hoI
    obtain ⟨vt, hT, hTp⟩ := id s₂₂.table
    have hvt := paired_len hTp
    obtain ⟨v1, hv1, hm1⟩ := prev_at (vs := vt) (i := i) (by omega)
    obtain ⟨v2, hv2, hm2⟩ : ∃ v2, vt[i]? = some v2 ∧ v2 ∈ vt := ⟨_, List.getElem?_eq_getElem (by omega), List.getElem_mem _⟩
    obtain ⟨X1, hX1, hrow1⟩ := paired_mem hTp v1 hm1
    obtain ⟨X2, hX2, hrow2⟩ := paired_mem hTp v2 hm2
    replace hX1 := ringF_mem hX1
    replace hX2 := ringF_mem hX2
    have hl1 := allLeads_len hX1
    have hl2 := allLeads_len hX2
    obtain ⟨vm, vms, hM, hMp⟩ := id s₂₂.four
    have hIsT : h₂₂.IsList D vt.toArray := ⟨_, hT, rfl, _, rfl⟩
    have hIsM : h₂₂.IsList M (vm :: vms).toArray := ⟨_, hM, rfl, _, rfl⟩
    have c₂₂ := cx.ext F₂₂.ok.keep
    obtain ⟨tl, htl⟩ := four_at a b i
    obtain ⟨_, hvl, lt, rfl, hilt⟩ := paired_get hMp htl
    have htm := List.mem_of_getElem? htl
    refine s_if (hidQ fun Q₂ hQ₂ => r_not (r_callTruth (hidQ fun Q₃ hQ₃ => r_callK c₂₂ rfl rfl rfl rfl rfl (by decide) rfl rfl (a_cons rfl (r_itemE ?_)))))
    as_aux_lemma =>
    walk_at "nm"
    refine r_binop ?_
    walk_at "nm"
    refine r_int fun t₂ k₂₇ => r_sub fun t₃ k₂₈ => ⟨D, vt, _, _, v1, rfl, rfl, hIsT, by omega, hv1, a_cons rfl (r_itemL ?_)⟩
    walk_at "nm"
    walk_at "nm"
    refine ⟨D, vt, i, _, v2, rfl, rfl, hIsT, by omega, hv2, a_cons rfl (r_itemL ?_)⟩
    walk_at "nm"
    refine r_binop ?_
    walk_at "nm"
    refine r_int fun t₄ k₂₉ => r_mod (by decide) fun t₅ k₃₀ => ⟨M, vm :: vms, i % 4, _, _, rfl, by rw [fmod4], hIsM, by omega, hvl, a_nil ⟨c₂₂.K, ?_⟩⟩
    refine wpAny_call (agree_spec r₁ c₂₂ hrow1 hrow2 hilt (by omega) (by omega) (lead_bds hX1).1 (lead_bds hX2).1 (lead_bds hX1).2 (lead_bds hX2).2 (by have := fourOf_len a b tl htm; omega) (own_range hX2 (fourOf_range ha hb tl htm)) (own_head hX2 tl) B₂₀ fun h₂₃ k₃₁ gs₂₃ x₂₃ B₂₃ => ?_)
    have e12 := agree_true hX1 hX2 tl
    unfold agreeX at e12
    simp only at e12
    rw [e12]
    refine hQ₃ _ _ ⟨true, rfl, hQ₂ _ _ ⟨fun q => (by cases q), fun _ => s_nil ?_⟩⟩
    clear hQ₂ hQ₃ Q₂ Q₃
    have F₂₃ := F₂₂.ext x₂₃
    have c₂₃ := cx.ext F₂₃.ok.keep
    obtain ⟨tl', htl'⟩ := four_at a b (i + 1)
    obtain ⟨_, hvl', lt', rfl, hilt'⟩ := paired_get hMp htl'
    have htm' := List.mem_of_getElem? htl'
    refine s_if (hidQ fun Q₂ hQ₂ => r_not (r_callTruth (hidQ fun Q₃ hQ₃ => r_callK c₂₃ rfl rfl rfl rfl rfl (by decide) rfl rfl (a_cons rfl (r_itemL ?_)))))
    as_aux_lemma =>
    walk_at "nm"
    walk_at "nm"
    refine ⟨D, vt, i, _, v2, rfl, rfl, isList_ext hIsT x₂₃, by omega, hv2, a_cons rfl (r_itemE ?_)⟩
    walk_at "nm"
    refine r_binop ?_
    walk_at "nm"
    refine r_int fun t₂ k₂₇ => r_sub fun t₃ k₂₈ => ⟨D, vt, _, _, v1, rfl, rfl, isList_ext hIsT x₂₃, by omega, hv1, a_cons rfl (r_itemL ?_)⟩
    walk_at "nm"
    refine r_binop (r_binop ?_)
    walk_at "nm"
    refine r_int fun t₄ k₂₉ => r_add fun t₆ k₃₂ => r_int fun t₅ k₃₀ => r_mod (by decide) fun t₇ k₃₃ => ⟨M, vm :: vms, (i + 1) % 4, _, _, rfl, by rw [← fmod4 (i + 1), Int.natCast_add]; rfl, isList_ext hIsM x₂₃, by omega, hvl', a_nil ⟨c₂₃.K, ?_⟩⟩
    refine wpAny_call (agree_spec r₁ c₂₃ (RowOf.ext hrow2 x₂₃) (RowOf.ext hrow1 x₂₃) (hilt'.ext x₂₃) (by omega) (by omega) (lead_bds hX2).1 (lead_bds hX1).1 (lead_bds hX2).2 (lead_bds hX1).2 (by have := fourOf_len a b tl' htm'; omega) (own_range hX1 (fourOf_range ha hb tl' htm')) (own_head hX1 tl') B₂₃ fun h₂₄ k₃₄ gs₂₄ x₂₄ B₂₄ => ?_)
    have e21 := agree_true hX2 hX1 tl'
    unfold agreeX at e21
    simp only at e21
    rw [e21]
    refine hQ₃ _ _ ⟨true, rfl, hQ₂ _ _ ⟨fun q => (by cases q), fun _ => s_nil (s_nil (hQ₁ _ _ ?_))⟩⟩
    exact ⟨_, _, _, rfl, ⟨s₂₂.ext (x₂₃.trans x₂₄), B₂₄⟩, W.frame _ _ _ stI₂₂ fun b hb o e => x₂₄ b o (x₂₃ b o e)⟩
  · rintro h₂₀ gs₂₀ h₂₁ ⟨s₂₀, B₂₀⟩ stI hk
    obtain ⟨oI, fs, hoI, hfs⟩ := hIf _ _ stI
    exact ⟨s₂₀.iter hoI hfs hIL hDI hk, B₂₀⟩
  rintro h₂₀ gs₂₀ k₂₅ ⟨s₂₀, B₂₀⟩
  refine s_ret (r_bool (hQ₀ _ _ ?_))
  exact H _ _ _ s₂₀.frm.ok.keep B₂₀

/- C20 -/
theorem top_law : PySem.Challenge.rw_pu0029_01.Holds := by
  refine Mine.hd ?_
  intro w s₀ s₁ mg mb G Y fa o pm cd doc dV kV ho hd hcd hD hmg hg args vals as hpre hlay hrd hwl hlo
  have KX := kIn_of Y
  have T := G.T
  have hfa : fa = 155 := by
    have e := mg_of KX T.g (show nsIn (KF w) mainGlobals "law" = some (some (.ref 155)) from rfl)
    have e2 : mg "law" = some (.ref fa) := hmg
    rw [e] at e2
    cases e2; rfl
  subst hfa
  clear hD hcd hd ho
  have cx : Cx w s₁.heap := ⟨KX, _, _, _, T⟩
  wrow_args hpre hlay hrd hwl hlo
  rename_i ns _ _ _ _ _ _ _ l vs _ hL _ _ _ hI _ hlen _
  have hn : ns.length ≤ 63 := by omega
  obtain ⟨h₁, gs₁, d₁, k₁, os₁⟩ := s₁
  have hg' : gs₁ = #[] := hg
  subst hg'
  show wpAny _ callerA (call (.ref 155) [.ref l]) _ _ _
  refine wpAny_call (law_spec ⟨rfl, by decide, by decide⟩ cx rfl ⟨vs, hL, hI⟩ (by omega) .empty fun h' k' gs' x' B' => ?_)
  refine ⟨.inl ⟨.bool true, .bool true, [], rfl, ?_, .bool true, ?_, ?_⟩, .of_keep x', rfl, B'⟩
  · exact raisesW_false (by wrow_none_raised)
  · wrow_post
  · intro _
    exact ⟨List.nodup_nil, fun a ha => by cases ha⟩

end Mine

theorem PySem.Challenge.cw_pu0029_01_holds : PySem.Challenge.rw_pu0029_01.Holds := by
  exact Mine.top_law
