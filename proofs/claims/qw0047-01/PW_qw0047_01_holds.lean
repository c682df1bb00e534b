import PyProof.Rows.All
import Wide.All
import OpenK.AllK
import Wide.FinOn
import PySem.Challenge.RW_qw0047_01
set_option Elab.async false

section -- Kx
open PySem PySem.W PySem.W.X PyProof.Rows
set_option maxRecDepth 100000
set_option maxHeartbeats 8000000
set_option linter.unusedVariables false
namespace Mine
/- `km_head` writes down the part of the heap that it hooks on (`kX.heap_1`), then calls `o_head`; here `o_head` ends at once, so only that part stays. The head itself is run in `law_holds`. -/
set_option hygiene false in
local macro_rules | `(tactic| o_head $_) => `(tactic| exact hh)
theorem kX : PySem.Challenge.rw_qw0047_01.row.Holds → PySem.Challenge.rw_qw0047_01.row.Holds := by
  intro hh
  km_head
end Mine
end

section -- Fw
open PySem PySem.W PyProof.Rows PySem.W.X
set_option linter.unusedVariables false
set_option maxRecDepth 100000
set_option maxHeartbeats 8000000
namespace Mine
noncomputable abbrev prg : Program := PySem.Challenge.rw_qw0047_01.prog
noncomputable def K0 (P : Params) : Frag := kX.heap_1 P

noncomputable def Le (G h : Heap) : Prop := ∀ b o, G.get? b = some o → h.get? b = some o
theorem Le.refl (G : Heap) : Le G G := fun _ _ e => e
theorem Le.trans {a b c : Heap} (x : Le a b) (y : Le b c) : Le a c := fun q o e => y q o (x q o e)

/-- the names that are built in, and their module -/
noncomputable def BI (G : Heap) : Prop := (∃ mb, G.Ns 0 mb ∧ ∀ x : Str, x ≠ "__name__" → mb x = bootBuiltins x) ∧ (∃ ob, G.get? 4 = some ob ∧ ob.cls = .type "module" ∧ ob.dict = some 0 ∧ ob.data = .plain) ∧ ∃ o, G.get? sysModules = some o
theorem BI.keeps {G h : Heap} (x : Le G h) (b : BI G) : BI h := let ⟨⟨mb, h1, h2⟩, ⟨ob, h3, h4⟩, o, h5⟩ := b; ⟨⟨mb, h1.keeps x, h2⟩, ⟨ob, x _ _ h3, h4⟩, o, x _ _ h5⟩
noncomputable def biT : List (Str × Value) := [(Str.ofString "len", .builtin "len"), (Str.ofString "range", .type "range"), (Str.ofString "sorted", .builtin "sorted"), (Str.ofString "str", .type "str"), (Str.ofString "isinstance", .builtin "isinstance"), (Str.ofString "iter", .builtin "iter"), (Str.ofString "object", .type "object"), (Str.ofString "type", .type "type"), (Str.ofString "issubclass", .builtin "issubclass"), (Str.ofString "bytes", .type "bytes"), (Str.ofString "__build_class__", .builtin "__build_class__")]
noncomputable def biF (x : Str) : Option Value := biT.lookup x
theorem biT_ok : ∀ p ∈ biT, bootBuiltins p.1 = some p.2 ∧ p.1 ≠ "__name__" := by decide +kernel
theorem mem_of_lookup {α β : Type} [BEq α] [LawfulBEq α] : ∀ {l : List (α × β)} {a : α} {b : β}, l.lookup a = some b → (a, b) ∈ l
  | [], _, _, e => by cases e
  | (x, y) :: r, a, b, e => by
    rw [List.lookup_cons] at e
    cases h : a == x with
    | true => rw [h] at e; cases e; rw [eq_of_beq h]; exact .head _
    | false => rw [h] at e; exact .tail _ (mem_of_lookup e)
theorem biF_ok {x : Str} {v : Value} (e : biF x = some v) : bootBuiltins x = some v ∧ x ≠ "__name__" := biT_ok (x, v) (mem_of_lookup e)
structure Tp (P : Params) (G : Heap) : Prop where
  k : (K0 P).In G
  b : BI G
theorem Tp.keeps {P : Params} {G h : Heap} (t : Tp P G) (x : Le G h) : Tp P h := ⟨t.k.keeps x, t.b.keeps x⟩
noncomputable abbrev Ow := List (Addr × (Obj → Prop))
structure St (w : World) (os₀ : OsState) (G : Heap) (ow : Ow) (s : Shared) : Prop where
  top : Tp w.params G
  le : Le G s.heap
  own : ∀ p ∈ ow, ∃ o, s.heap.get? p.1 = some o ∧ p.2 o
  off : ∀ p ∈ ow, G.get? p.1 = none
  nd : (ow.map (·.1)).Nodup
  gens : s.gens = #[]
  os : s.os = os₀

noncomputable def nsP (m : Str → Option Value) (o : Obj) : Prop := ∃ es ep, o.data = .dict es ep ∧ StrKeys es ∧ ∀ name, nsFind es name = m name
noncomputable def cellP (v : Option Value) (o : Obj) : Prop := o.data = .cell v
noncomputable def listP (xs : Array Value) (o : Obj) : Prop := o.cls = .type "list" ∧ ∃ n, o.data = .seq xs n
noncomputable def iterP (l : Addr) (i : Nat) (o : Obj) : Prop := o.cls = .type "list_iterator" ∧ o.data = .fields #[.ref l, .int i 0]
noncomputable def objP (o₀ : Obj) (o : Obj) : Prop := o = o₀

section
variable {w : World} {os₀ : OsState} {G G' : Heap} {own own' : Ow} {s : Shared} {a : Addr} {P P' : Obj → Prop}

theorem St.topH (H : St w os₀ G own s) : (K0 w.params).In s.heap := H.top.k.keeps H.le
theorem St.topB (H : St w os₀ G own s) : BI s.heap := H.top.b.keeps H.le
theorem St.tok (H : St w os₀ G own s) (t : Nat) : St w os₀ G own { s with toks := t } := ⟨H.top, H.le, H.own, H.off, H.nd, H.gens, H.os⟩
theorem St.drop {x} (H : St w os₀ G (x :: own) s) : St w os₀ G own s :=
  ⟨H.top, H.le, fun p hp => H.own p (.tail _ hp), fun p hp => H.off p (.tail _ hp), (List.nodup_cons.mp H.nd).2, H.gens, H.os⟩
theorem St.perm (H : St w os₀ G own s) (h : own.Perm own') : St w os₀ G own' s :=
  ⟨H.top, H.le, fun p hp => H.own p (h.mem_iff.mpr hp), fun p hp => H.off p (h.mem_iff.mpr hp), (h.map _).nodup_iff.mp H.nd, H.gens, H.os⟩
theorem St.swap {x y} (H : St w os₀ G (x :: y :: own) s) : St w os₀ G (y :: x :: own) s := H.perm (List.Perm.swap ..)
theorem St.lt {p} (H : St w os₀ G own s) (hp : p ∈ own) : p.1 < s.heap.objs.size := by
  obtain ⟨o, ho, _⟩ := H.own p hp; exact Heap.lt_size ho
theorem St.fresh (H : St w os₀ G own s) : G.get? s.heap.objs.size = none := by
  cases h : G.get? s.heap.objs.size with
  | none => rfl
  | some o => exact absurd (Heap.lt_size (H.le _ _ h)) (Nat.lt_irrefl _)
theorem St.push (H : St w os₀ G own s) (o : Obj) (hf : o.isFreed = false := by rfl) (hP : P o) (t : Nat) : St w os₀ G ((s.heap.objs.size, P) :: own) { s with heap := s.heap.push o, toks := t } := by
  refine ⟨H.top, fun b o' e => Heap.get?_push_of_some _ (H.le b o' e), fun p hp => ?_, fun p hp => ?_, ?_, H.gens, H.os⟩
  · rcases List.mem_cons.mp hp with rfl | hp
    · exact ⟨o, Heap.get?_push_size _ hf, hP⟩
    · obtain ⟨o', ho, h⟩ := H.own p hp; exact ⟨o', Heap.get?_push_of_some _ ho, h⟩
  · rcases List.mem_cons.mp hp with rfl | hp
    · exact H.fresh
    · exact H.off p hp
  · rw [List.map_cons, List.nodup_cons]
    refine ⟨fun hm => ?_, H.nd⟩
    obtain ⟨p, hp, e⟩ := List.mem_map.mp hm
    exact absurd (H.lt hp) (by rw [e]; exact Nat.lt_irrefl _)
/-- the heap is kept but at one owned address -/
theorem St.upd {h' : Heap} {t : Nat} (H : St w os₀ G ((a, P) :: own) s) (hs : Heap.SameBut a s.heap h') (hP : ∃ o, h'.get? a = some o ∧ P' o) : St w os₀ G ((a, P') :: own) { s with heap := h', toks := t } := by
  have hn := List.nodup_cons.mp (show ((a, P).1 :: own.map (·.1)).Nodup from H.nd)
  refine ⟨H.top, fun b o' e => ?_, fun p hp => ?_, fun p hp => ?_, H.nd, H.gens, H.os⟩
  · have hb : b ≠ a := fun q => by rw [q, H.off _ (.head _)] at e; cases e
    exact (hs.2 b hb).trans (H.le b o' e)
  · rcases List.mem_cons.mp hp with rfl | hp
    · exact hP
    · obtain ⟨o', ho, h⟩ := H.own p (.tail _ hp)
      have hb : p.1 ≠ a := fun q => hn.1 (List.mem_map.mpr ⟨p, hp, q⟩)
      exact ⟨o', (hs.2 _ hb).trans ho, h⟩
  · rcases List.mem_cons.mp hp with rfl | hp
    · exact H.off (a, P) (.head _)
    · exact H.off p (.tail _ hp)
theorem St.ext {h' : Heap} {t : Nat} (H : St w os₀ G ((a, P) :: own) s) (hs : Heap.ExtBut a s.heap h') : St w os₀ G own { s with heap := h', toks := t } := by
  have hn := List.nodup_cons.mp (show ((a, P).1 :: own.map (·.1)).Nodup from H.nd)
  refine ⟨H.top, fun b o' e => ?_, fun p hp => ?_, fun p hp => H.off p (.tail _ hp), hn.2, H.gens, H.os⟩
  · have hb : b ≠ a := fun q => by rw [q, H.off _ (.head _)] at e; cases e
    exact hs b o' hb (H.le b o' e)
  · obtain ⟨o', ho, h⟩ := H.own p (.tail _ hp)
    have hb : p.1 ≠ a := fun q => hn.1 (List.mem_map.mpr ⟨p, hp, q⟩)
    exact ⟨o', hs _ _ hb ho, h⟩
theorem St.keep {h' : Heap} {t : Nat} (H : St w os₀ G own s) (hs : Le s.heap h') : St w os₀ G own { s with heap := h', toks := t } :=
  ⟨H.top, H.le.trans hs, fun p hp => let ⟨o, ho, h⟩ := H.own p hp; ⟨o, hs _ _ ho, h⟩, H.off, H.nd, H.gens, H.os⟩

noncomputable def addObj (G : Heap) (a : Addr) (o : Obj) : Heap :=
  ⟨(G.objs ++ Array.replicate (a + 1 - G.objs.size) ({ cls := .none, data := .freed } : Obj)).setIfInBounds a o, G.life⟩
theorem addObj_get {G : Heap} {a : Addr} {o : Obj} (ho : o.isFreed = false) (b : Addr) : (addObj G a o).get? b = if b = a then some o else G.get? b := by
  unfold addObj
  by_cases hb : b = a
  · subst hb
    rw [if_pos rfl]
    refine Heap.get?_some_iff.mpr ⟨?_, ho⟩
    rw [Array.getElem?_setIfInBounds_self_of_lt (by simp; omega)]
  · rw [if_neg hb]
    unfold Heap.get?
    dsimp only
    rw [Array.getElem?_setIfInBounds_ne (Ne.symm hb)]
    rw [Array.getElem?_append]
    by_cases hlt : b < G.objs.size
    · rw [if_pos hlt]
    · rw [if_neg hlt, show G.objs[b]? = none from Array.getElem?_eq_none (Nat.le_of_not_lt hlt)]
      by_cases h2 : b - G.objs.size < a + 1 - G.objs.size
      · rw [Array.getElem?_replicate, if_pos h2]
      · rw [Array.getElem?_replicate, if_neg h2]
theorem St.notFreed {o : Obj} {h : Heap} (e : h.get? a = some o) : o.isFreed = false := (Heap.get?_some_iff.mp e).2
theorem St.freeze (H : St w os₀ G ((a, P) :: own) s) : ∃ o G', P o ∧ Le G G' ∧ G'.get? a = some o ∧ St w os₀ G' own s := by
  obtain ⟨o, ho, hP⟩ := H.own _ (.head _)
  have hfr := St.notFreed ho
  have hn := List.nodup_cons.mp (show ((a, P).1 :: own.map (·.1)).Nodup from H.nd)
  have hle : Le G (addObj G a o) := fun b o' e => by
    rw [addObj_get hfr]
    have hb : b ≠ a := fun q => by rw [q, H.off _ (.head _)] at e; cases e
    rw [if_neg hb]; exact e
  refine ⟨o, addObj G a o, hP, hle, by rw [addObj_get hfr, if_pos rfl], H.top.keeps hle, fun b o' e => ?_, fun p hp => H.own p (.tail _ hp), fun p hp => ?_, hn.2, H.gens, H.os⟩
  · rw [addObj_get hfr] at e
    by_cases hb : b = a
    · subst hb; rw [if_pos rfl] at e; cases e; exact ho
    · rw [if_neg hb] at e; exact H.le b o' e
  · have hb : p.1 ≠ a := fun q => hn.1 (List.mem_map.mpr ⟨p, hp, q⟩)
    rw [addObj_get hfr, if_neg hb]; exact H.off p (.tail _ hp)

theorem St.ns {L : Addr} {m : Str → Option Value} (H : St w os₀ G ((L, nsP m) :: own) s) : s.heap.Ns L m := by
  obtain ⟨o, ho, es, ep, h1, h2, h3⟩ := H.own _ (.head _); exact ⟨o, es, ep, ho, h1, h2, h3⟩
theorem nsP_of {h : Heap} {L : Addr} {m : Str → Option Value} (x : h.Ns L m) : ∃ o, h.get? L = some o ∧ nsP m o := by
  obtain ⟨o, es, ep, ho, h1, h2, h3⟩ := x; exact ⟨o, ho, es, ep, h1, h2, h3⟩
end

/-- room for n more frames -/
structure AOk (n : Nat) (A : Around) : Prop where
  handled : A.handled = none
  depth : A.depth + n ≤ 900
  units : A.units + 20 * n ≤ 9000
theorem AOk.mono {n k : Nat} {A : Around} (h : AOk n A) (hk : k ≤ n) : AOk k A := ⟨h.handled, by have := h.depth; omega, by have := h.units; omega⟩
theorem AOk.deeper {n : Nat} {A : Around} (h : AOk (n + 1) A) (env : Env) : AOk n (A.deeper env) := ⟨h.handled, by have := h.depth; show A.depth + 1 + n ≤ 900; omega, by have := h.units; show A.units + 3 + 20 * n ≤ 9000; omega⟩
theorem AOk.in1 {n : Nat} {A : Around} (h : AOk (n + 1) A) : AOk n A.in1 := ⟨h.handled, by have := h.depth; show A.depth + n ≤ 900; omega, by have := h.units; show A.units + 1 + 20 * n ≤ 9000; omega⟩
theorem AOk.room {n : Nat} {A : Around} (h : AOk n A) : A.depth < recursionLimit := by have := h.depth; show _ < 1000; omega
theorem AOk.cl {n : Nat} {A : Around} (h : AOk n A) : A.units < cLine := by have := h.units; show _ < 9900; omega
theorem AOk.cl64 {n : Nat} {A : Around} (h : AOk n A) : A.units + 64 < cLine := by have := h.units; show _ < 9900; omega
/-- the widest context -/
noncomputable def AA : Around := { handled := none, depth := 900, frames := none, guards := none, units := 9000 }
theorem of_AA {α : Type} {M : Model} {n : Nat} {A : Around} {t : Sem α} {Q : α → Shared → Prop} {E : Value → Shared → Prop} {s : Shared} (hA : AOk n A) (h : wpAny M AA t Q E s) : wpAny M A t Q E s :=
  fun Γ p hΓ => h Γ p ⟨hΓ.1.trans hA.handled, Nat.le_trans hΓ.2.1 (by have := hA.depth; show _ ≤ 900; omega), (fun l e => by exact absurd e (by simp [AA])), (fun l e => by exact absurd e (by simp [AA])), Nat.le_trans hΓ.2.2.2.2 (by have := hA.units; show _ ≤ 9000; omega)⟩
end Mine
end

section -- Fw2
open PySem PySem.W PyProof.Rows PySem.W.X
set_option linter.unusedVariables false
set_option maxRecDepth 100000
set_option maxHeartbeats 8000000
namespace Mine

noncomputable def Rd (G : Heap) (v : Value) (d : PyData) : Prop := ∃ as, Reads G v d as
theorem Rd.le {G G' : Heap} {v : Value} {d : PyData} (h : Rd G v d) (x : Le G G') : Rd G' v d := let ⟨as, r⟩ := h; ⟨as, Reads.keeps x r⟩

noncomputable def Spec (w : World) (os₀ : OsState) (n : Nat) (f : Value) (args : List Value) (G : Heap) (Out : Heap → Value → Prop) : Prop :=
  ∀ (A : Around) (ow : Ow) (s : Shared) (Q E : Value → Shared → Prop), AOk n A → St w os₀ G ow s →
    (∀ v G' s', Le G G' → St w os₀ G' ow s' → Out G' v → Q v s') → wpAny (model prg w) A (call f args) Q E s

noncomputable def retOf : Flow → Value
  | .ret v => v
  | _ => .none

section
variable {w : World} {os₀ : OsState} {G : Heap} {ow : Ow} {s : Shared} {A : Around} {n : Nat}

theorem noLimit (H : St w os₀ G ow s) : s.heap.NoLimit := by
  have X := H.topH
  have h2 := X 2 _ rfl
  refine ⟨fun _ => none, ⟨_, #[], 0, h2, rfl, ?_, ?_⟩, rfl⟩
  · intro e he; simp at he
  · intro name; rfl

noncomputable def cellOw (cm : Str → Option Value) (cs : List (Str × Addr)) : Ow := cs.map fun p => (p.2, cellP (cm p.1))

theorem enterC {Q E : Value → Shared → Prop} {a : Addr} {o : Obj} {fd : FuncData} {body : List Stmt} {vals : List Value} {binds : List (Str × Value)}
    (hA : AOk (n + 1) A) (H : St w os₀ G ow s) (ho : G.get? a = some o) (hdata : o.data = .func fd) (hcd : G.CodeRec fd.code fd.qualname)
    (hbody : fd.body = .stmts body) (hbind : bindArgs fd ⟨vals, []⟩ = pure binds) (hclo : fd.closure = [])
    (hkind : ∀ k, ∀ x ∈ binds, fd.scope.names.lookup x.1 = some .local ∨ (fd.scope.names.lookup x.1 = some .cell ∧ ((cellsFrom k fd.scope.names []).lookup x.1).isSome = true))
    (h : ∀ L s₁, AOk n (A.deeper (callEnvC fd L a)) → St w os₀ G ((L, nsP (bindL (callEnvC fd L a).kindOf binds fun _ => none)) :: (cellOw (bindC (callEnvC fd L a).kindOf binds fun _ => none) (cellsFrom (L + 1) fd.scope.names []) ++ ow)) s₁ →
      wpAny (model prg w) (A.deeper (callEnvC fd L a)) (execs body (callEnvC fd L a)) (fun f s' => Q (retOf f) s') (fun _ _ => False) s₁)
    (hnd : ∀ k, ((cellsFrom k fd.scope.names []).map (·.1)).Nodup)
    (hco : fd.scope.isCoroutine = false := by rfl) (hgen : fd.scope.isGenerator = false := by rfl) (hk : fd.scope.kind = .function := by rfl) :
    wpAny (model prg w) A (call (.ref a) vals) Q E s := by
  refine wpAny_call (codeAny_call_cells hA.room (H.le _ _ ho) hdata (noLimit H) ?_ hbody hbind hclo (hkind _) (fun s₁ I => ?_) hco hgen hk)
  · obtain ⟨c, oc, vs, t, e1, e2, e3, e4⟩ := hcd
    exact ⟨c, oc, vs, t, e1, H.le _ _ e2, e3, e4⟩
  · have hS : St w os₀ G ((s.heap.objs.size, nsP (bindL (callEnvC fd s.heap.objs.size a).kindOf binds fun _ => none)) :: (cellOw (bindC (callEnvC fd s.heap.objs.size a).kindOf binds fun _ => none) (cellsFrom (s.heap.objs.size + 1) fd.scope.names []) ++ ow)) s₁ := by
      have hcell : ∀ p ∈ cellsFrom (s.heap.objs.size + 1) fd.scope.names [], s.heap.objs.size < p.2 := fun p hp => I.above p.1 p.2 hp
      have hlk : ∀ p ∈ cellsFrom (s.heap.objs.size + 1) fd.scope.names [], (cellsFrom (s.heap.objs.size + 1) fd.scope.names []).lookup p.1 = some p.2 := by
        have key : ∀ l : List (Str × Addr), (l.map (·.1)).Nodup → ∀ p ∈ l, l.lookup p.1 = some p.2 := by
          intro l
          induction l with
          | nil => intro _ p hp; cases hp
          | cons x r ih =>
            intro hn p hp
            rw [List.map_cons, List.nodup_cons] at hn
            rcases List.mem_cons.mp hp with rfl | hp'
            · rw [List.lookup_cons]; simp
            · have hne : (p.1 == x.1) = false := by
                rw [beq_eq_false_iff_ne]; intro e; exact hn.1 (List.mem_map.mpr ⟨p, hp', e⟩)
              rw [List.lookup_cons, hne]; exact ih hn.2 p hp'
        exact key _ (hnd _)
      refine ⟨H.top, fun b o' e => I.toInCall.keep b o' (H.le b o' e), fun p hp => ?_, fun p hp => ?_, ?_, ?_, ?_⟩
      · rcases List.mem_cons.mp hp with rfl | hp
        · exact nsP_of I.toInCall.ns
        · rcases List.mem_append.mp hp with hp | hp
          · obtain ⟨q, hq, rfl⟩ := List.mem_map.mp hp
            exact I.cell q.1 q.2 (hlk q hq)
          · obtain ⟨o', h1, h2⟩ := H.own p hp
            exact ⟨o', I.toInCall.keep _ _ h1, h2⟩
      · rcases List.mem_cons.mp hp with rfl | hp
        · exact H.fresh
        · rcases List.mem_append.mp hp with hp | hp
          · obtain ⟨q, hq, rfl⟩ := List.mem_map.mp hp
            cases hh : G.get? q.2 with
            | none => rfl
            | some o' => exact absurd (Heap.lt_size (H.le _ _ hh)) (Nat.not_lt.mpr (Nat.le_of_lt (hcell q hq)))
          · exact H.off p hp
      · show (s.heap.objs.size :: ((cellOw _ _ ++ ow).map (·.1))).Nodup
        rw [List.nodup_cons, List.map_append]
        have h1 : (cellOw (bindC (callEnvC fd s.heap.objs.size a).kindOf binds fun _ => none) (cellsFrom (s.heap.objs.size + 1) fd.scope.names [])).map (·.1) = (cellsFrom (s.heap.objs.size + 1) fd.scope.names []).map (·.2) := by
          unfold cellOw; rw [List.map_map]; rfl
        rw [h1]
        refine ⟨fun hm => ?_, List.nodup_append.mpr ⟨?_, H.nd, fun x hx y hy e => ?_⟩⟩
        · rcases List.mem_append.mp hm with hm | hm
          · obtain ⟨q, hq, e⟩ := List.mem_map.mp hm
            exact absurd (hcell q hq) (by rw [e]; exact Nat.lt_irrefl _)
          · obtain ⟨q, hq, e⟩ := List.mem_map.mp hm
            exact absurd (H.lt hq) (by rw [e]; exact Nat.lt_irrefl _)
        · exact List.pairwise_map.mpr I.apart
        · obtain ⟨q, hq, rfl⟩ := List.mem_map.mp hx
          obtain ⟨r, hr, rfl⟩ := List.mem_map.mp hy
          exact absurd (H.lt hr) (by rw [← e]; exact Nat.not_lt.mpr (Nat.le_of_lt (hcell q hq)))
      · obtain ⟨h', tk, e⟩ := I.toInCall.same; rw [e]; exact H.gens
      · obtain ⟨h', tk, e⟩ := I.toInCall.same; rw [e]; exact H.os
    refine wpAny_mono (h _ s₁ (hA.deeper _) hS) (fun f s' hq => ?_) fun _ _ x => x.elim
    cases f <;> exact hq

/-- what is known of a frame's environment -/
structure EV (env : Env) (L : Addr) (names : List (Str × NameKind)) (cs : List (Str × Addr)) (code : Value) (qual : Str) : Prop where
  locals : env.locals = L
  globals : env.globals = 3
  builtins : env.builtins = 0
  kind : env.scope.kind = .function
  names : env.scope.names = names
  cells : env.cells = cs
  code : env.code = code
  qual : env.qual = qual

theorem enter {Q E : Value → Shared → Prop} {a : Addr} {o : Obj} {fd : FuncData} {body : List Stmt} {vals : List Value} {names : List (Str × NameKind)} {code : Value} {qual : Str}
    (binds : List (Str × Value)) (m cm : Str → Option Value) (cs : Nat → List (Str × Addr))
    (hA : AOk (n + 1) A) (H : St w os₀ G ow s) (ho : (K0 w.params).lookup a = some o) (hdata : o.data = .func fd) (hcd : ∀ h : Heap, (K0 w.params).In h → h.CodeRec fd.code fd.qualname)
    (hbody : fd.body = .stmts body) (hnames : fd.scope.names = names) (hcode : fd.code = code) (hqual : (fd.qualname ++ ".<locals>.") = qual) (hbind : bindArgs fd ⟨vals, []⟩ = pure binds) (hclo : fd.closure = [])
    (hcs : ∀ k, cellsFrom k names [] = cs k)
    (hkind : ∀ x ∈ binds, names.lookup x.1 = some .local ∨ (names.lookup x.1 = some .cell ∧ ((cs 0).lookup x.1).isSome = true))
    (hm : bindL (fun x => names.lookup x) binds (fun _ => none) = m) (hcm : bindC (fun x => names.lookup x) binds (fun _ => none) = cm)
    (h : ∀ env L A' s₁, EV env L names (cs (L + 1)) code qual → AOk n A' → St w os₀ G ((L, nsP m) :: (cellOw cm (cs (L + 1)) ++ ow)) s₁ →
      wpAny (model prg w) A' (execs body env) (fun f s' => Q (retOf f) s') (fun _ _ => False) s₁)
    (hnd : ((cs 0).map (·.1)).Nodup) (hss : ∀ k, (cs k).map (·.1) = (cs 0).map (·.1))
    (hglob : fd.globals = 3 := by rfl) (hbi : fd.builtins = 0 := by rfl)
    (hco : fd.scope.isCoroutine = false := by rfl) (hgen : fd.scope.isGenerator = false := by rfl) (hk : fd.scope.kind = .function := by rfl) :
    wpAny (model prg w) A (call (.ref a) vals) Q E s := by
  subst hnames hcode hqual
  have hlk : ∀ (l l' : List (Str × Addr)) (x : Str), l.map (·.1) = l'.map (·.1) → (l.lookup x).isSome = (l'.lookup x).isSome := by
    intro l
    induction l with
    | nil => intro l' x e; cases l' with
      | nil => rfl
      | cons y r => cases e
    | cons y r ih => intro l' x e; cases l' with
      | nil => cases e
      | cons z r' =>
        obtain ⟨y1, y2⟩ := y; obtain ⟨z1, z2⟩ := z
        simp only [List.map_cons, List.cons.injEq] at e
        obtain ⟨e1, e2⟩ := e
        subst e1
        rw [List.lookup_cons, List.lookup_cons]
        cases x == y1
        · exact ih r' x e2
        · rfl
  refine enterC (n := n) hA H (H.top.k _ _ ho) hdata (hcd _ H.top.k) hbody hbind hclo (fun k x hx => ?_) (fun L s₁ hA' H' => ?_) (fun k => ?_) hco hgen hk
  · rcases hkind x hx with h1 | ⟨h1, h2⟩
    · exact .inl h1
    · exact .inr ⟨h1, by rw [hcs, hlk _ (cs 0) _ (hss k)]; exact h2⟩
  · refine h _ L _ s₁ ⟨rfl, hglob, hbi, hk, rfl, hcs _, rfl, rfl⟩ hA' ?_
    have e1 : bindL (callEnvC fd L a).kindOf binds (fun _ => none) = m := hm
    have e2 : bindC (callEnvC fd L a).kindOf binds (fun _ => none) = cm := hcm
    rw [e1, e2, hcs] at H'
    exact H'
  · rw [hcs, hss]; exact hnd
end
end Mine
end

section -- Fw3
open PySem PySem.W PyProof.Rows PySem.W.X PySem.Calls
set_option linter.unusedVariables false
set_option maxRecDepth 100000
set_option maxHeartbeats 8000000
namespace Mine
section
variable {w : World} {os₀ : OsState} {G : Heap} {ow : Ow} {s : Shared} {A : Around} {n : Nat} {env : Env} {E : Value → Shared → Prop} {L : Addr} {m : Str → Option Value} {x : Str} {v : Value} {pos : Pos} {names : List (Str × NameKind)} {cs : List (Str × Addr)} {code : Value} {qual : Str}

theorem EV.kd {k : NameKind} (V : EV env L names cs code qual) (h : names.lookup x = some k) : env.kindOf x = some k := by
  show env.scope.names.lookup x = some k
  rw [V.names]; exact h
theorem keptSt : KeptByPush (St w os₀ G ow) := fun s ob k H => H.keep fun b o e => Heap.get?_push_of_some _ e

theorem nmL {Q : Value → Shared → Prop} (V : EV env L names cs code qual) (H : St w os₀ G ((L, nsP m) :: ow) s) (hv : m x = some v) (h : Q v s)
    (hl : names.lookup x = some .local := by rfl) (hd : (x == ("__debug__" : Str)) = false := by rfl) :
    wpAny (model prg w) A (eval (.Name x pos) env) Q E s :=
  wpAny_Name (wpAny_loadName_local V.kind (V.kd hl) (V.locals ▸ H.ns) hv h) hd

theorem nmG {Q : Value → Shared → Prop} (V : EV env L names cs code qual) (H : St w os₀ G ow s) (e : nsIn (K0 w.params) 3 x = some (some v)) (h : Q v s)
    (hx : names.lookup x = some .globalImplicit := by rfl) (hd : (x == ("__debug__" : Str)) = false := by rfl) :
    wpAny (model prg w) A (eval (.Name x pos) env) Q E s := by
  refine Name_function_global V.kind (V.kd hx) ?_ hd
  unfold loadGlobal
  rw [V.globals]
  exact wpAny_bind ((looks_nsIn H.topH e).here (wpAny_pure h))

theorem nsGetB {M : Model} {Q : Option Value → Shared → Prop} (b : BI s.heap) (e : biF x = some v) (h : Q (some v) s) : wpAny M A (nsGet 0 x) Q E s := by
  obtain ⟨⟨mb, h1, h2⟩, _⟩ := b
  obtain ⟨e1, e2⟩ := biF_ok e
  refine wpAny_nsGet h1 ?_
  rw [h2 x e2, e1]; exact h
theorem nmB {Q : Value → Shared → Prop} (V : EV env L names cs code qual) (H : St w os₀ G ow s) (e : nsIn (K0 w.params) 3 x = some none) (e2 : biF x = some v) (h : Q v s)
    (hx : names.lookup x = some .globalImplicit := by rfl) (hd : (x == ("__debug__" : Str)) = false := by rfl) :
    wpAny (model prg w) A (eval (.Name x pos) env) Q E s := by
  refine Name_function_global V.kind (V.kd hx) ?_ hd
  unfold loadGlobal
  rw [V.globals, V.builtins]
  exact wpAny_bind ((looks_nsIn H.topH e).here (wpAny_bind (nsGetB H.topB e2 (wpAny_pure h))))

noncomputable def upd (m : Str → Option Value) (x : Str) (v : Value) : Str → Option Value := fun y => if y = x then some v else m y

theorem stL {Q : Unit → Shared → Prop} (V : EV env L names cs code qual) (H : St w os₀ G ((L, nsP m) :: ow) s) (h : ∀ s', St w os₀ G ((L, nsP (upd m x v)) :: ow) s' → Q () s')
    (hl : names.lookup x = some .local := by rfl) :
    wpAny (model prg w) A (storeName env x v) Q E s :=
  wpAny_storeName_local (V.kd hl) (V.locals ▸ H.ns) (fun h' hn hs => h _ (H.upd (V.locals ▸ hs) (nsP_of (V.locals ▸ hn)))) (by rw [V.kind]; rfl)

theorem nmC {Q : Value → Shared → Prop} {c : Addr} (V : EV env L names cs code qual) (H : St w os₀ G ow s) (hm : (c, cellP (some v)) ∈ ow) (h : Q v s)
    (hc : cs.lookup x = some c := by rfl) (hl : names.lookup x = some .cell := by rfl) (hd : (x == ("__debug__" : Str)) = false := by rfl) :
    wpAny (model prg w) A (eval (.Name x pos) env) Q E s :=
  wpAny_Name (wpAny_loadName_cell V.kind (V.kd hl) (V.cells ▸ hc) (H.own _ hm) h) hd
theorem nmF {Q : Value → Shared → Prop} {c : Addr} (V : EV env L names cs code qual) (H : St w os₀ G ow s) (hm : (c, cellP (some v)) ∈ ow) (h : Q v s)
    (hc : cs.lookup x = some c := by rfl) (hl : names.lookup x = some .free := by rfl) (hd : (x == ("__debug__" : Str)) = false := by rfl) (hn : (x == ("__classdict__" : Str)) = false := by rfl) :
    wpAny (model prg w) A (eval (.Name x pos) env) Q E s :=
  wpAny_Name (wpAny_loadName_free V.kind (V.kd hl) (V.cells ▸ hc) (H.own _ hm) h hn) hd
/-- store into the cell that is owned second -/
theorem stC {Q : Unit → Shared → Prop} {c : Addr} {y} {v₀ : Option Value} (V : EV env L names cs code qual) (H : St w os₀ G (y :: (c, cellP v₀) :: ow) s) (h : ∀ s', St w os₀ G (y :: (c, cellP (some v)) :: ow) s' → Q () s')
    (hc : cs.lookup x = some c := by rfl) (hl : names.lookup x = some .cell := by rfl) :
    wpAny (model prg w) A (storeName env x v) Q E s :=
  wpAny_storeName_cell V.kind (V.kd hl) (V.cells ▸ hc) (H.own _ (.tail _ (.head _))) fun h' hc' hs => h _ ((H.swap.upd (t := s.toks) hs hc').swap)

theorem callGf {a : Addr} {o : Obj} {fd : FuncData} {f : Str} {p : Pos} {e₁ : Expr} {rest : List Expr} {tm : Sem Value} {tr : List (Bool × Sem Value)} {Q : Value → Shared → Prop} (V : EV env L names cs code qual) (H : St w os₀ G ow s) (e : nsIn (K0 w.params) 3 f = some (some (.ref a)))
    (ho : (K0 w.params).lookup a = some o) (hd : o.data = .func fd) (hs : backTo pos (starEach (e₁ :: rest) env) = (false, tm) :: tr)
    (h : wpAny (model prg w) A (spliced ((false, tm) :: tr)) (fun vs s₁ => (∃ G₁ ow₁, St w os₀ G₁ ow₁ s₁) ∧ wpAny (model prg w) A (call (.ref a) vs) Q E s₁) E s)
    (hx : names.lookup f = some .globalImplicit := by rfl) (hdb : (f == ("__debug__" : Str)) = false := by rfl) :
    wpAny (model prg w) A (eval (.Call (.Name f p) (e₁ :: rest) [] pos) env) Q E s := by
  refine wpAny_Call_NameR (nmG V H e ?_ hx hdb)
  rw [hs]
  refine callWith_function (o := o) (fd := fd) (evalArgs_plain (wpAny_mono h (fun vs s₁ h₁ => ?_) fun _ _ x => x))
  obtain ⟨⟨G₁, ow₁, H₁⟩, h₁⟩ := h₁
  exact ⟨⟨H₁.topH _ _ ho, hd⟩, h₁⟩
end
end Mine
namespace Mine
section
variable {w : World} {os₀ : OsState} {G : Heap} {ow : Ow} {s : Shared} {A : Around} {n : Nat} {env : Env} {E : Value → Shared → Prop} {L : Addr} {m : Str → Option Value} {x : Str} {v : Value} {pos : Pos} {names : List (Str × NameKind)} {cs : List (Str × Addr)} {code : Value} {qual : Str}

noncomputable def tupO (vs : List Value) : Obj := { cls := .type "tuple", data := .seq vs.toArray }
noncomputable def lstO (vs : List Value) : Obj := { cls := .type "list", data := .seq vs.toArray }
theorem newTup {vs : List Value} {Q : Value → Shared → Prop} (H : St w os₀ G ow s) (h : ∀ a s', St w os₀ G ((a, objP (tupO vs)) :: ow) s' → Q (.ref a) s') (hsz : vs.length ≤ sizeLine := by size_fits) :
    wpAny (model prg w) A (newTuple vs) Q E s :=
  wpAny_newObj_type (h _ _ (H.push (P := objP (tupO vs)) (tupO vs) rfl rfl s.toks)) (by show vs.toArray.size ≤ sizeLine; rw [List.size_toArray]; exact hsz)
theorem newLst {vs : List Value} {Q : Value → Shared → Prop} (H : St w os₀ G ow s) (h : ∀ a s', St w os₀ G ((a, objP (lstO vs)) :: ow) s' → Q (.ref a) s') (hsz : vs.length ≤ sizeLine := by size_fits) :
    wpAny (model prg w) A (newList vs) Q E s :=
  wpAny_newObj_type (h _ _ (H.push (P := objP (lstO vs)) (lstO vs) rfl rfl s.toks)) (by show vs.toArray.size ≤ sizeLine; rw [List.size_toArray]; exact hsz)

theorem swapped2 {a b : Str} {pa pb tp p2 : Pos} {k k2 : Nat} {v1 v2 : Expr} (V : EV env L names cs code qual) (ha : names.lookup a = some .local) (hb : names.lookup b = some .local) (hline : pb.line = pa.line) (hab : (b == a) = false)
    (h0 : ∀ a b, v1 ≠ .Starred a b) (h1 : ∀ a b, v2 ≠ .Starred a b) (h2 : ([v1, v2].all (foldedForSure 8)) = false) (h3 : ([v1, v2].all (constantsAlone 8)) = false) :
    swappedStores [.Tuple [.Name a pa, .Name b pb] k tp] (.Tuple [v1, v2] k2 p2) env = pure (some [a, b]) := by
  have ea := V.kd ha
  have eb := V.kd hb
  have hk : env.blockKind = .function := by unfold Env.blockKind; rw [V.kind]; rfl
  have hne : ¬ b = a := by intro e; subst e; simp at hab
  have hne' : (a != b) = true := by simp; exact fun e => hne e.symm
  unfold swappedStores
  simp only [List.length_cons, List.length_nil, hk, bne_self_eq_false, Bool.or_false, Bool.false_eq_true, if_false, h2, h3]
  simp [ea, eb, hline, Expr.pos, List.eraseDups, List.eraseDupsBy, List.eraseDupsBy.loop, hab]
  try
    (intro hc
     exfalso
     rcases hc with hc | hc <;> split at hc <;> simp_all)
end
end Mine
end

section -- Fw4
open PySem PySem.W PyProof.Rows PySem.W.X PySem.Calls
set_option linter.unusedVariables false
set_option maxRecDepth 100000
set_option maxHeartbeats 8000000
namespace Mine
section
variable {w : World} {os₀ : OsState} {G : Heap} {ow : Ow} {s : Shared} {A : Around} {n : Nat} {env : Env} {E : Value → Shared → Prop} {L : Addr} {m : Str → Option Value} {x y : Str} {v : Value} {pos : Pos} {names : List (Str × NameKind)} {cs : List (Str × Addr)} {code : Value} {qual : Str} {t u : Tok} {i j : Int}

theorem cInt {k : Nat} {Q : Value → Shared → Prop} (H : St w os₀ G ow s) (h : ∀ t s', St w os₀ G ow s' → Q (.int i t) s') : wpAny (model prg w) A (eval (.Constant (.int i) k pos) env) Q E s := wpAny_Constant_int (h _ _ (H.tok _))
theorem cStr {k : Nat} {Q : Value → Shared → Prop} (H : St w os₀ G ow s) (h : ∀ t s', St w os₀ G ow s' → Q (.str x t) s') : wpAny (model prg w) A (eval (.Constant (.str x) k pos) env) Q E s := wpAny_Constant_str (h _ _ (H.tok _))
theorem addI {Q : Value → Shared → Prop} (H : St w os₀ G ow s) (h : ∀ t s', St w os₀ G ow s' → Q (.int (i + j) t) s') : wpAny (model prg w) A (binaryOp .Add (.int i t) (.int j u)) Q E s := add_int (h _ _ (H.tok _))
theorem addS {Q : Value → Shared → Prop} (H : St w os₀ G ow s) (h : ∀ t s', St w os₀ G ow s' → Q (.str (x ++ y) t) s') (hsz : x.length + y.length ≤ sizeLine) : wpAny (model prg w) A (binaryOp .Add (.str x t) (.str y u)) Q E s := add_str (fun t' k => h _ _ (H.tok _)) hsz
theorem lenS {Q : Value → Shared → Prop} (H : St w os₀ G ow s) (h : ∀ t s', St w os₀ G ow s' → Q (.int x.length t) s') (hsz : x.length ≤ sizeLine) : wpAny (model prg w) A (call (.builtin "len") [.str x t]) Q E s :=
  len_str (by rw [sizeLine_eq] at hsz; omega) (h _ _ ((H.tok _)))
theorem truthS {Q : Bool → Shared → Prop} (H : St w os₀ G ow s) (h : ∀ s', St w os₀ G ow s' → Q ((x.length : Int) != 0) s') (hsz : x.length ≤ sizeLine) : wpAny (model prg w) A (truthy (.str x t)) Q E s :=
  PySem.P.truthy_str (by rw [sizeLine_eq] at hsz; omega) (h _ (H.tok _))
theorem slS_nu {value : Expr} {up : Expr} {p : Pos} {Q : Value → Shared → Prop}
    (h : wpAny (model prg w) A (eval value env) (fun o s₁ => wpAny (model prg w) A (eval up env) (fun vu s₃ => ∃ G' ow' x t j uj, o = .str x t ∧ vu = .int j uj ∧ x.length ≤ sizeLine ∧ St w os₀ G' ow' s₃ ∧ ∀ t' s', St w os₀ G' ow' s' → Q (.str (Txt.slice x none (some j)) t') s') E s₁) E s)
    (ht : ∀ o r, letTemporaryGo value o r = pure () := by intro _ _; rfl) :
    wpAny (model prg w) A (eval (.Subscript value (.Slice none (some up) none p) pos) env) Q E s := by
  refine wpAny_Subscript_Slice (T := "str") F.slot_str_getitem.lookup (wpAny_mono h (fun o s₁ h₁ => wpAny_Slice ?_) fun _ _ e => e) ht
  try rw [evalPart_none]
  refine wpAny_pure ?_
  refine wpAny_mono (show wpAny (model prg w) A (evalPart (some up) env) _ E s₁ from h₁) (fun vu s₃ hh => ?_) fun _ _ e => e
  try rw [evalPart_none]
  obtain ⟨G', ow', x, t, j, uj, rfl, rfl, hsz, H, hQ⟩ := hh
  obtain ⟨T, id, h1, h2, h3⟩ := SBG.sliceItem_ns (uj := uj) (A := A) (E := E) (prog := prg) (w := w) (t := t) keptSt H (fun s' t' H' => hQ t' s' H') hsz
  exact wpAny_pure ⟨typeIs_str _ x t, h3⟩
theorem slS_ln {value : Expr} {lo : Expr} {p : Pos} {Q : Value → Shared → Prop}
    (h : wpAny (model prg w) A (eval value env) (fun o s₁ => wpAny (model prg w) A (eval lo env) (fun vl s₂ => ∃ G' ow' x t i ui, o = .str x t ∧ vl = .int i ui ∧ x.length ≤ sizeLine ∧ St w os₀ G' ow' s₂ ∧ ∀ t' s', St w os₀ G' ow' s' → Q (.str (Txt.slice x (some i) none) t') s') E s₁) E s)
    (ht : ∀ o r, letTemporaryGo value o r = pure () := by intro _ _; rfl) :
    wpAny (model prg w) A (eval (.Subscript value (.Slice (some lo) none none p) pos) env) Q E s := by
  refine wpAny_Subscript_Slice (T := "str") F.slot_str_getitem.lookup (wpAny_mono h (fun o s₁ h₁ => wpAny_Slice ?_) fun _ _ e => e) ht
  refine wpAny_mono (show wpAny (model prg w) A (evalPart (some lo) env) _ E s₁ from h₁) (fun vl s₂ hh => ?_) fun _ _ e => e
  try rw [evalPart_none]
  refine wpAny_pure ?_
  obtain ⟨G', ow', x, t, i, ui, rfl, rfl, hsz, H, hQ⟩ := hh
  obtain ⟨T, id, h1, h2, h3⟩ := SBG.sliceItem_sn (ui := ui) (A := A) (E := E) (prog := prg) (w := w) (t := t) keptSt H (fun s' t' H' => hQ t' s' H') hsz
  exact wpAny_pure ⟨typeIs_str _ x t, h3⟩
theorem slS_lu {value : Expr} {lo : Expr} {up : Expr} {p : Pos} {Q : Value → Shared → Prop}
    (h : wpAny (model prg w) A (eval value env) (fun o s₁ => wpAny (model prg w) A (eval lo env) (fun vl s₂ => wpAny (model prg w) A (eval up env) (fun vu s₃ => ∃ G' ow' x t i ui j uj, o = .str x t ∧ vl = .int i ui ∧ vu = .int j uj ∧ x.length ≤ sizeLine ∧ St w os₀ G' ow' s₃ ∧ ∀ t' s', St w os₀ G' ow' s' → Q (.str (Txt.slice x (some i) (some j)) t') s') E s₂) E s₁) E s)
    (ht : ∀ o r, letTemporaryGo value o r = pure () := by intro _ _; rfl) :
    wpAny (model prg w) A (eval (.Subscript value (.Slice (some lo) (some up) none p) pos) env) Q E s := by
  refine wpAny_Subscript_Slice (T := "str") F.slot_str_getitem.lookup (wpAny_mono h (fun o s₁ h₁ => wpAny_Slice ?_) fun _ _ e => e) ht
  refine wpAny_mono (show wpAny (model prg w) A (evalPart (some lo) env) _ E s₁ from h₁) (fun vl s₂ h₂ => ?_) fun _ _ e => e
  refine wpAny_mono (show wpAny (model prg w) A (evalPart (some up) env) _ E s₂ from h₂) (fun vu s₃ hh => ?_) fun _ _ e => e
  try rw [evalPart_none]
  obtain ⟨G', ow', x, t, i, ui, j, uj, rfl, rfl, rfl, hsz, H, hQ⟩ := hh
  obtain ⟨T, id, h1, h2, h3⟩ := SBG.sliceItem_ss (ui := ui) (uj := uj) (A := A) (E := E) (prog := prg) (w := w) (t := t) keptSt H (fun s' t' H' => hQ t' s' H') hsz
  exact wpAny_pure ⟨typeIs_str _ x t, h3⟩
end
end Mine
namespace Mine
section
variable {w : World} {os₀ : OsState} {G : Heap} {ow : Ow} {s : Shared} {A : Around} {n : Nat} {env : Env} {E : Value → Shared → Prop} {L : Addr} {m : Str → Option Value} {x y : Str} {v : Value} {pos : Pos} {names : List (Str × NameKind)} {cs : List (Str × Addr)} {code : Value} {qual : Str} {t u : Tok} {i j : Int}
theorem extLe {h h' : Heap} (e : Heap.ExtBut h.objs.size h h') : Le h h' := fun b o q => e b o (Nat.ne_of_lt (Heap.lt_size q)) q
theorem unpT {a : Addr} {vs : List Value} {k : Nat} {Q : List Value → Shared → Prop} (hA : AOk n A) (H : St w os₀ G ow s) (ht : IsTup s.heap a vs.toArray) (hk : k = vs.length) (h : ∀ s', St w os₀ G ow s' → Q vs s') :
    wpAny (model prg w) A (unpackItems (.ref a) k none) Q E s := by
  subst hk
  have := unpackItems_tuple (prog := prg) (w := w) (A := A) (E := E) (Q := Q) hA.handled ht fun h' he => by
    have q := h _ (H.keep (t := s.toks) (extLe he))
    simpa using q
  simpa using this
theorem IsTup.head {a : Addr} {vs : List Value} (H : St w os₀ G ((a, objP (tupO vs)) :: ow) s) : IsTup s.heap a vs.toArray := by
  obtain ⟨o, ho, e⟩ := H.own _ (.head _)
  cases e
  exact ⟨_, ho, rfl, _, rfl⟩
theorem stL' {Q : Unit → Shared → Prop} (V : EV env L names cs code qual) (H : St w os₀ G ((L, nsP m) :: ow) s) (h : ∀ s', St w os₀ G ((L, nsP (upd m x v)) :: ow) s' → Q () s')
    (hl : names.lookup x = some .local := by rfl) : wpAny (model prg w) A (bindName env x v) Q E s := wpAny_bindName (stL V H h hl)
end
end Mine
end

section -- Fw5
open PySem PySem.W PyProof.Rows PySem.W.X PySem.Calls
set_option linter.unusedVariables false
set_option maxRecDepth 100000
set_option maxHeartbeats 8000000
namespace Mine
/-- an iterator of N items, the i-th of which Val tells -/
structure Src (w : World) (os₀ : OsState) (G₀ : Heap) (it : Addr) (N : Nat) (Val : Nat → Value → Prop) (P : Nat → Obj → Prop) : Prop where
  next : ∀ {A : Around} {n : Nat} {G : Heap} {ow : Ow} {s : Shared} {i : Nat} {Q : Option Value → Shared → Prop} {E : Value → Shared → Prop}, AOk n A → Le G₀ G → i < N → St w os₀ G ((it, P i) :: ow) s →
    (∀ v s', Val i v → St w os₀ G ((it, P (i + 1)) :: ow) s' → Q (some v) s') → wpAny (model prg w) A (pyNext (.ref it)) Q E s
  over : ∀ {A : Around} {n : Nat} {G : Heap} {ow : Ow} {s : Shared} {Q : Option Value → Shared → Prop} {E : Value → Shared → Prop}, AOk n A → Le G₀ G → St w os₀ G ((it, P N) :: ow) s →
    (∀ s', St w os₀ G ow s' → Q none s') → wpAny (model prg w) A (pyNext (.ref it)) Q E s
  again : ∀ {A : Around} {n : Nat} {G : Heap} {ow : Ow} {s : Shared} {Q : Value → Shared → Prop} {E : Value → Shared → Prop}, AOk n A → Le G₀ G → St w os₀ G ((it, P 0) :: ow) s → Q (.ref it) s → wpAny (model prg w) A (pyIter (.ref it)) Q E s

section
variable {w : World} {os₀ : OsState} {G : Heap} {ow : Ow} {s : Shared} {A : Around} {n : Nat} {env : Env} {E : Value → Shared → Prop} {L : Addr} {m : Str → Option Value} {pos : Pos} {names : List (Str × NameKind)} {cs : List (Str × Addr)} {code : Value} {qual : Str}

theorem isList_le {G G' : Heap} {l : Addr} {xs : Array Value} (h : G.IsList l xs) (x : Le G G') : G'.IsList l xs := let ⟨o, ho, r⟩ := h; ⟨o, x _ _ ho, r⟩
theorem srcList {G₀ : Heap} {it l : Addr} {items : Array Value} (hl : G₀.IsList l items) : Src w os₀ G₀ it items.size (fun i v => items[i]? = some v) (iterP l) where
  next := fun {A n G ow s i Q E} hA hle hi H h => by
    obtain ⟨o, ho, h1, h2⟩ := H.own _ (.head _)
    refine wpAny_pyNext_list_item ⟨o, ho, h1, h2⟩ (isList_le (isList_le hl hle) H.le) (Array.getElem?_eq_getElem hi) fun h' hit hs => h _ _ (Array.getElem?_eq_getElem hi) (H.upd (t := s.toks) hs hit)
  over := fun {A n G ow s Q E} hA hle H h => by
    obtain ⟨o, ho, h1, h2⟩ := H.own _ (.head _)
    exact wpAny_pyNext_list_end hA.handled ⟨o, ho, h1, h2⟩ (isList_le (isList_le hl hle) H.le) (Array.getElem?_eq_none (Nat.le_refl _)) fun h' he => h _ (H.ext (t := s.toks) he)
  again := fun {A n G ow s Q E} hA hle H h => by
    obtain ⟨o, ho, h1, h2⟩ := H.own _ (.head _)
    exact wpAny_pyIter_listiter ⟨o, ho, h1, h2⟩ h
theorem iterList {l : Addr} {items : Array Value} {Q : Value → Shared → Prop} (H : St w os₀ G ow s) (hl : s.heap.IsList l items) (h : ∀ it s', St w os₀ G ((it, iterP l 0) :: ow) s' → Q (.ref it) s') :
    wpAny (model prg w) A (pyIter (.ref l)) Q E s :=
  wpAny_pyIter_list hl (h _ _ (H.push (P := iterP l 0) _ rfl ⟨rfl, rfl⟩ s.toks))

/-- a for loop over an iterator; the state between the turns is told by Inv -/
theorem forS {target : Expr} {body : List Stmt} {it : Addr} {N : Nat} {Val : Nat → Value → Prop} {P : Nat → Obj → Prop} {R : Result → Shared → Prop} (S : Src w os₀ G it N Val P) (hA : AOk n A)
    (Inv : Nat → Heap → Ow → Prop) (h0 : Inv 0 G ow) (H : St w os₀ G ((it, P 0) :: ow) s)
    (step : ∀ i v G' ow' s', i < N → Val i v → Inv i G' ow' → Le G G' → St w os₀ G' ((it, P (i + 1)) :: ow') s' →
      wpAny (model prg w) A (assign target env v) (fun _ s₂ => wpAny (model prg w) A (execs body env) (fun f s₃ => (f = .next ∨ f = .cont) ∧ ∃ G'' ow'', Inv (i + 1) G'' ow'' ∧ Le G' G'' ∧ St w os₀ G'' ((it, P (i + 1)) :: ow'') s₃) (fun _ _ => False) s₂) (fun _ _ => False) s')
    (fin : ∀ G' ow' s', Inv N G' ow' → Le G G' → St w os₀ G' ow' s' → R (.ok .next) s') (ht : ∀ v, letOwnedTupleGo target (.ref it) v = pure () := by intro _; rfl) :
    codeAny (model prg w) A (.forLoop target (.ref it) body [] env) R s := by
  refine codeAny_forLoop (fun k s' => ∃ i G' ow', i ≤ N ∧ k = N + 1 - i ∧ Inv i G' ow' ∧ Le G G' ∧ St w os₀ G' ((it, P i) :: ow') s') ?_ (N + 1) ⟨0, G, ow, Nat.zero_le _, rfl, h0, Le.refl _, H⟩ ht
  rintro k s' ⟨i, G', ow', hi, rfl, hI, hle, H'⟩
  by_cases hN : i < N
  · refine S.next hA hle hN H' fun v s₂ hv H₂ => ?_
    refine wpAny_mono (step i v G' ow' s₂ hN hv hI hle H₂) (fun _ s₃ h₃ => wpAny_mono h₃ (fun f s₄ h₄ => ?_) fun _ _ e => e.elim) fun _ _ e => e.elim
    obtain ⟨hf, G'', ow'', hI', hle', H''⟩ := h₄
    have : ∃ m, m < N + 1 - i ∧ ∃ i G' ow', i ≤ N ∧ m = N + 1 - i ∧ Inv i G' ow' ∧ Le G G' ∧ St w os₀ G' ((it, P i) :: ow') s₄ := ⟨N + 1 - (i + 1), by omega, i + 1, G'', ow'', hN, rfl, hI', hle.trans hle', H''⟩
    rcases hf with rfl | rfl <;> exact this
  · have e : i = N := by omega
    subst e
    refine S.over hA hle H' fun s₂ H₂ => wpAny_execs_nil (fin G' ow' s₂ hI hle H₂)
end
end Mine
end

section -- Fw6
open PySem PySem.W PyProof.Rows PySem.W.X PySem.Calls
set_option linter.unusedVariables false
set_option maxRecDepth 100000
set_option maxHeartbeats 8000000
namespace Mine
noncomputable def cloOf (cs : List (Str × Addr)) : List (Str × NameKind) → List (Str × Addr) → Option (List (Str × Addr))
  | [], acc => some acc
  | (n, k) :: r, acc => match k == .free, cs.lookup n with
    | true, some c => cloOf cs r ((n, c) :: acc)
    | true, none => none
    | false, _ => cloOf cs r acc
theorem cloOf_go {env : Env} (f : Str × NameKind → List (Str × Addr) → Sem (ForInStep (List (Str × Addr))))
    (hf : ∀ n k acc, f (n, k) acc = if k == .free then (do let c ← cellOf env n; pure (.yield ((n, c) :: acc))) else pure (.yield acc)) :
    ∀ (l : List (Str × NameKind)) (acc cl : List (Str × Addr)), cloOf env.cells l acc = some cl → forIn l acc f = pure cl
  | [], acc, cl, h => by cases h; rfl
  | (n, k) :: r, acc, cl, h => by
    rw [List.forIn_cons, hf]
    unfold cloOf at h
    cases hk : k == NameKind.free with
    | false =>
      simp only [hk] at h
      rw [if_neg (by simp)]
      exact cloOf_go f hf r acc cl h
    | true =>
      rw [if_pos rfl]
      cases hc : env.cells.lookup n with
      | none => simp only [hk, hc] at h; cases h
      | some c =>
        simp only [hk, hc] at h
        have e : cellOf env n = pure c := by unfold cellOf; rw [hc]
        rw [e]
        exact cloOf_go f hf r _ cl h
theorem closureFor_of {scope : Scope} {env : Env} {cl : List (Str × Addr)} (h : cloOf env.cells scope.names [] = some cl) : closureFor scope env = pure cl := by
  unfold closureFor
  have := cloOf_go (env := env) (fun x (acc : List (Str × Addr)) => match x with | (name, kind) => if kind == .free then (do let c ← cellOf env name; pure (.yield ((name, c) :: acc))) else pure (.yield acc)) (fun n k acc => rfl) scope.names [] cl h
  have e : (forIn scope.names ([] : List (Str × Addr)) fun x r => match x with | (name, kind) => let cs := r; if (kind == NameKind.free) = true then do let __do_lift ← cellOf env name; pure (ForInStep.yield ((name, __do_lift) :: cs)) else pure (ForInStep.yield cs)) = pure cl := this
  first | exact e | (simpa using e)

theorem cellsFrom_acc : ∀ (names : List (Str × NameKind)) (k : Nat) (acc : List (Str × Addr)), cellsFrom k names acc = cellsFrom k names [] ++ acc
  | [], _, _ => rfl
  | (n, kd) :: r, k, acc => by
    unfold cellsFrom
    split
    · rw [cellsFrom_acc r (k + 1) ((n, k) :: acc), cellsFrom_acc r (k + 1) [(n, k)]]; simp
    · exact cellsFrom_acc r k acc

section
variable {w : World} {os₀ : OsState} {G : Heap} {ow : Ow} {s : Shared} {A : Around} {n : Nat} {env : Env} {E : Value → Shared → Prop} {L : Addr} {m : Str → Option Value} {pos : Pos} {names : List (Str × NameKind)} {cs : List (Str × Addr)} {code : Value} {qual : Str}

theorem pushCells_sizes : ∀ (names : List (Str × NameKind)) (h : Heap), ∀ p ∈ cellsFrom h.objs.size names [], h.objs.size ≤ p.2 ∧ (pushCells h names).IsCell p.2 none := by
  intro names h p hp
  have ok := cellsFrom_ok names h h.objs.size [] ⟨fun _ _ hm => (nomatch hm), List.Pairwise.nil⟩ (Nat.le_refl _)
  exact ⟨(ok.empty p.1 p.2 hp).2, (ok.empty p.1 p.2 hp).1⟩

theorem newCompEnv {scope : Scope} {cl : List (Str × Addr)} {Q : Env → Shared → Prop} (H : St w os₀ G ow s)
    (h : ∀ L' s', St w os₀ G ((L', nsP fun _ => none) :: (cellOw (fun _ => none) (cellsFrom (L' + 1) scope.names []) ++ ow)) s' →
      Q { scope := scope, locals := L', globals := env.globals, cells := cellsFrom (L' + 1) scope.names [] ++ cl, qual := env.qual, func := none, code := env.code, frame := env.frame, builtins := env.builtins } s') :
    wpAny (model prg w) A (newFunctionEnv scope env.globals cl [] env.qual none .none (some env)) Q E s := by
  simp only [newFunctionEnv, Option.isSome_some, if_true]
  refine wpAny_bind (wpAny_alloc ?_)
  refine wpAny_bind (wpAny_layCells _ (fun name kind cells => by cases hkc : kind == NameKind.cell <;> simp [hkc]) _ _ _ _ ?_)
  refine wpAny_bind ?_
  rw [List.forIn_nil]
  refine wpAny_pure (wpAny_pure ?_)
  have hsz : ({ s with heap := s.heap.push { cls := .type "dict", data := .dict #[] } } : Shared).heap.objs.size = s.heap.objs.size + 1 := Heap.size_push ..
  rw [hsz, cellsFrom_acc]
  refine h _ _ ?_
  have ok := cellsFrom_ok scope.names (s.heap.push { cls := .type "dict", data := .dict #[] }) (s.heap.objs.size + 1) [] ⟨fun _ _ hm => (nomatch hm), List.Pairwise.nil⟩ (by rw [Heap.size_push]; exact Nat.le_refl _)
  rw [Heap.size_push] at ok
  have keep : Le s.heap (pushCells (s.heap.push { cls := .type "dict", data := .dict #[] }) scope.names) := fun b o e => pushCells_keeps _ _ b o (Heap.get?_push_of_some _ e)
  have h1 : (cellOw (fun _ => none) (cellsFrom (s.heap.objs.size + 1) scope.names [])).map (·.1) = (cellsFrom (s.heap.objs.size + 1) scope.names []).map (·.2) := by
    unfold cellOw; rw [List.map_map]; rfl
  refine ⟨H.top, H.le.trans keep, fun p hp => ?_, fun p hp => ?_, ?_, H.gens, H.os⟩
  · rcases List.mem_cons.mp hp with rfl | hp
    · exact nsP_of ((Heap.Ns.new s.heap (.type "dict")).keeps (pushCells_keeps _ _))
    · rcases List.mem_append.mp hp with hp | hp
      · obtain ⟨q, hq, rfl⟩ := List.mem_map.mp hp
        exact (ok.empty q.1 q.2 hq).1
      · obtain ⟨o', h1, h2⟩ := H.own p hp
        exact ⟨o', keep _ _ h1, h2⟩
  · rcases List.mem_cons.mp hp with rfl | hp
    · exact H.fresh
    · rcases List.mem_append.mp hp with hp | hp
      · obtain ⟨q, hq, rfl⟩ := List.mem_map.mp hp
        cases hh : G.get? q.2 with
        | none => rfl
        | some o' => exact absurd (Heap.lt_size (H.le _ _ hh)) (Nat.not_lt.mpr (Nat.le_of_succ_le (ok.empty q.1 q.2 hq).2))
      · exact H.off p hp
  · show (s.heap.objs.size :: ((cellOw _ _ ++ ow).map (·.1))).Nodup
    rw [List.nodup_cons, List.map_append, h1]
    refine ⟨fun hm => ?_, List.nodup_append.mpr ⟨List.pairwise_map.mpr ok.apart, H.nd, fun x hx y hy e => ?_⟩⟩
    · rcases List.mem_append.mp hm with hm | hm
      · obtain ⟨q, hq, e⟩ := List.mem_map.mp hm
        exact absurd (ok.empty q.1 q.2 hq).2 (by rw [e]; exact Nat.not_succ_le_self _)
      · obtain ⟨q, hq, e⟩ := List.mem_map.mp hm
        exact absurd (H.lt hq) (by rw [e]; exact Nat.lt_irrefl _)
    · obtain ⟨q, hq, rfl⟩ := List.mem_map.mp hx
      obtain ⟨r, hr, rfl⟩ := List.mem_map.mp hy
      exact absurd (H.lt hr) (by rw [← e]; exact Nat.not_lt.mpr (Nat.le_of_succ_le (ok.empty q.1 q.2 hq).2))
end
end Mine
end

section -- Fw7
open PySem PySem.W PyProof.Rows PySem.W.X PySem.Calls
set_option linter.unusedVariables false
set_option maxRecDepth 100000
set_option maxHeartbeats 8000000
namespace Mine
section
variable {w : World} {os₀ : OsState} {G : Heap} {ow : Ow} {s : Shared} {A : Around} {n : Nat} {env : Env} {E : Value → Shared → Prop} {L : Addr} {m : Str → Option Value} {pos : Pos} {names : List (Str × NameKind)} {cs : List (Str × Addr)} {code : Value} {qual : Str}

/-- the names of a comprehension's scope as its frame sees them -/
noncomputable def seenNames (outer : List (Str × NameKind)) (l : List (Str × NameKind)) : List (Str × NameKind) :=
  l.map fun x => if (x.2 == .free && outer.lookup x.1 == some .cell) = true then (x.1, .cell) else x

theorem appendL {l : Addr} {xs : Array Value} {x : Value} {Q : Value → Shared → Prop} (H : St w os₀ G ((l, listP xs) :: ow) s) (h : ∀ s', St w os₀ G ((l, listP (xs.push x)) :: ow) s' → Q .none s') (hsz : xs.size ≤ sizeLine) :
    wpAny (model prg w) A (call (.builtin "list.append") [.ref l, x]) Q E s := by
  obtain ⟨o, ho, h1, h2⟩ := H.own _ (.head _)
  refine wpAny_list_append ⟨o, ho, h1, h2⟩ (fun h' hl hs => h _ (H.upd (t := s.toks) hs ?_)) hsz
  obtain ⟨o', a, b, c⟩ := hl
  exact ⟨o', a, b, c⟩

/-- the loop of a comprehension -/
theorem compGo {elt target iter : Expr} {ifs : List Expr} {scope : Scope} {cenv : Env} {it acc C : Addr} {N : Nat} {Val : Nat → Value → Prop} {P : Nat → Obj → Prop} {R : Result → Shared → Prop}
    (S : Src w os₀ G it N Val P) (hA : AOk n A) (hN : N ≤ 1000)
    (Inv : Nat → List Value → Heap → (Str → Option Value) → Ow → Prop) (h0 : Inv 0 [] G (fun _ => none) ow) (H : St w os₀ G ((C, nsP fun _ => none) :: (acc, listP #[]) :: (it, P 0) :: ow) s)
    (step : ∀ i v out G' m' ow' s', i < N → Val i v → out.length ≤ i → Inv i out G' m' ow' → Le G G' → St w os₀ G' ((C, nsP m') :: (acc, listP out.toArray) :: (it, P (i + 1)) :: ow') s' →
      wpAny (model prg w) A (assign target cenv v) (fun _ s₂ =>
        wpAny (model prg w) A (forIn ifs true fun c r => if r = true then do let ok ← isTrue c cenv (eval c cenv); pure (ForInStep.yield ok) else pure (ForInStep.yield r)) (fun ok s₃ =>
          if ok = true then wpAny (model prg w) A (eval elt cenv) (fun x s₄ => ∃ G'' m'' ow'', Inv (i + 1) (out ++ [x]) G'' m'' ow'' ∧ Le G' G'' ∧ St w os₀ G'' ((C, nsP m'') :: (acc, listP out.toArray) :: (it, P (i + 1)) :: ow'') s₄) (fun _ _ => False) s₃
          else ∃ G'' m'' ow'', Inv (i + 1) out G'' m'' ow'' ∧ Le G' G'' ∧ St w os₀ G'' ((C, nsP m'') :: (acc, listP out.toArray) :: (it, P (i + 1)) :: ow'') s₃) (fun _ _ => False) s₂) (fun _ _ => False) s')
    (fin : ∀ out G' m' ow' s', out.length ≤ N → Inv N out G' m' ow' → Le G G' → St w os₀ G' ((C, nsP m') :: (acc, listP out.toArray) :: ow') s' → R (.ok .next) s') (ht : ∀ v, letOwnedTupleGo target (.ref it) v = pure () := by intro _; rfl) :
    codeAny (model prg w) A (.compStart (.ListComp elt [⟨target, iter, ifs, 0⟩] scope pos) 0 (.ref it) (.ref acc) cenv) R s := by
  have loop : ∀ s, St w os₀ G ((C, nsP fun _ => none) :: (acc, listP #[]) :: (it, P 0) :: ow) s → codeAny (model prg w) A (.compLoop (.ListComp elt [⟨target, iter, ifs, 0⟩] scope pos) 0 (.ref it) (.ref acc) cenv) R s := by
    intro s H
    refine codeAny_compLoop_tests (fun k s' => ∃ i out G' m' ow', i ≤ N ∧ k = N + 1 - i ∧ out.length ≤ i ∧ Inv i out G' m' ow' ∧ Le G G' ∧ St w os₀ G' ((C, nsP m') :: (acc, listP out.toArray) :: (it, P i) :: ow') s') ?_ (N + 1)
      ⟨0, [], G, _, ow, Nat.zero_le _, rfl, Nat.zero_le _, h0, Le.refl _, H⟩ ht
    rintro k s' ⟨i, out, G', m', ow', hi, rfl, ho, hI, hle, H'⟩
    have rot : ∀ {x y z : Addr × (Obj → Prop)} {r : Ow}, (x :: y :: z :: r).Perm (z :: x :: y :: r) := fun {x y z r} => ((List.Perm.swap z y r).cons x).trans (List.Perm.swap z x (y :: r))
    have back : ∀ {x y z : Addr × (Obj → Prop)} {r : Ow}, (z :: x :: y :: r).Perm (x :: y :: z :: r) := fun {x y z r} => rot.symm
    by_cases hlt : i < N
    · refine S.next hA hle hlt (H'.perm rot) fun v s₂ hv H₂ => ?_
      refine wpAny_mono (step i v out G' m' ow' s₂ hlt hv ho hI hle (H₂.perm back)) (fun _ s₃ h₃ => wpAny_mono h₃ (fun ok s₄ h₄ => ?_) fun _ _ e => e.elim) fun _ _ e => e.elim
      cases ok with
      | false =>
        rw [if_neg (by simp)] at h₄ ⊢
        obtain ⟨G'', m'', ow'', hI', hle', H''⟩ := h₄
        exact ⟨N + 1 - (i + 1), by omega, i + 1, out, G'', m'', ow'', hlt, rfl, by omega, hI', hle.trans hle', H''⟩
      | true =>
        rw [if_pos rfl] at h₄ ⊢
        refine wpAny_mono h₄ (fun x s₅ h₅ => ?_) fun _ _ e => e.elim
        obtain ⟨G'', m'', ow'', hI', hle', H''⟩ := h₅
        refine appendL H''.swap (fun s₆ H₆ => ?_) (by rw [List.size_toArray, sizeLine_eq]; omega)
        refine ⟨N + 1 - (i + 1), by omega, i + 1, out ++ [x], G'', m'', ow'', hlt, rfl, by simp; omega, hI', hle.trans hle', ?_⟩
        have e : out.toArray.push x = (out ++ [x]).toArray := by simp
        rw [← e]; exact H₆.swap
    · have e : i = N := by omega
      subst e
      exact S.over hA hle (H'.perm rot) fun s₂ H₂ => fin out G' m' ow' s₂ ho hI hle H₂
  have rot : ∀ {x y z : Addr × (Obj → Prop)} {r : Ow}, (x :: y :: z :: r).Perm (z :: x :: y :: r) := fun {x y z r} => ((List.Perm.swap z y r).cons x).trans (List.Perm.swap z x (y :: r))
  refine codeAny_compStart_list (loop s H) ?_
  exact wpAny_mono (S.again (E := fun _ _ => False) hA (Le.refl _) (H.perm rot) (Q := fun v s' => v = .ref it ∧ s' = s) ⟨rfl, rfl⟩) (fun v s' hv => by obtain ⟨rfl, rfl⟩ := hv; exact loop _ H) fun _ _ e => e.elim
end
end Mine
end

section -- Fw8
open PySem PySem.W PyProof.Rows PySem.W.X PySem.Calls
set_option linter.unusedVariables false
set_option maxRecDepth 100000
set_option maxHeartbeats 8000000
namespace Mine
section
variable {w : World} {os₀ : OsState} {G : Heap} {ow : Ow} {s : Shared} {A : Around} {n : Nat} {env : Env} {E : Value → Shared → Prop} {L : Addr} {m : Str → Option Value} {pos : Pos} {names : List (Str × NameKind)} {cs : List (Str × Addr)} {code : Value} {qual : Str}

theorem compCl {e : Expr} {scope : Scope} {pos : Pos} {newAcc first : Sem Value} {g : Comprehension} {gs : List Comprehension} {cl : List (Str × Addr)} {Q : Value → Shared → Prop} (V : EV env L names cs code qual)
    (hcl : clausesOf e = g :: gs) (hs : ∀ x, foldedSetIterable g.iter env x = pure x) (hclo : closureFor scope env = pure cl) (hkind : scope.kind = .function)
    (hnames : ∀ x ∈ scope.names, x.2 = .local → (seenNames names scope.names).lookup x.1 = some .local)
    (h : wpAny (model prg w) A first (fun x s₁ => wpAny (model prg w) A (pyIter x) (fun it s₂ => wpAny (model prg w) A newAcc (fun acc s₃ =>
      wpAny (model prg w) A (newFunctionEnv scope env.globals cl [] env.qual none .none (some env)) (fun cenv s₄ =>
        codeAny (model prg w) A (.compStart e 0 it acc { cenv with scope := { scope with names := seenNames names scope.names } }) (fun r s' => ∃ m, s'.heap.Ns cenv.locals m ∧ ∀ h', Heap.SameBut cenv.locals s'.heap h' →
          match r with | .ok _ => Q acc { s' with heap := h' } | .error x => False) s₄) E s₃) E s₂) E s₁) E s) :
    wpAny (model prg w) A (comprehension e scope env pos newAcc false first) Q E s := by
  unfold comprehension
  rw [hclo, hcl]
  refine wpAny_bind (wpAny_mono h (fun x s₁ h₁ => wpAny_bind (wpAny_standAt (wpAny_bind (wpAny_of_eq (hs x) (wpAny_bind (wpAny_holding (wpAny_mono h₁ (fun it s₂ h₂ =>
    wpAny_standIf (wpAny_bind (wpAny_mono h₂ (fun acc s₃ h₃ => wpAny_bind (wpAny_pure (wpAny_bind (wpAny_mono h₃ (fun cenv s₄ h₄ => ?_) fun _ _ h' => h')))) fun _ _ h' => h')))
      fun _ _ h' => h'))))))) fun _ _ h' => h')
  dsimp only
  have hmap : (scope.names.map fun x => match x with | (n, k) => if (k == NameKind.free && env.scope.kind == ScopeKind.function && env.kindOf n == some NameKind.cell) = true then (n, NameKind.cell) else (n, k)) = seenNames names scope.names := by
    unfold seenNames
    apply List.map_congr_left
    intro x hx
    obtain ⟨n, k⟩ := x
    have e1 : env.kindOf n = names.lookup n := by show env.scope.names.lookup n = _; rw [V.names]
    have e2 : (env.scope.kind == ScopeKind.function) = true := by rw [V.kind]; rfl
    simp only [e1, e2, Bool.and_true]
  rw [hmap]
  have hv : ∀ x ∈ (scope.names.filter fun x => (x.2 == .local || x.2 == .cell) && x.1 != (".0" : Str)).reverse, x.2 = .local →
      Env.kindOf { cenv with scope := { scope with names := seenNames names scope.names } } x.1 = some .local := fun x hx hl => hnames x (List.mem_filter.mp (List.mem_reverse.mp hx)).1 hl
  refine wpAny_holding (wpAny_bind (wpAny_attempt (wpAny_holding (wpAny_run (codeAny_mono h₄ fun r s' hr => ?_)))))
  obtain ⟨m, hn, hr⟩ := hr
  cases r with
  | ok f => exact wpAny_bind (wpAny_holding (wpAny_comp_letGo (cenv := { cenv with scope := { scope with names := seenNames names scope.names } }) hkind _ s' m hv hn fun h' m' _ hs' => wpAny_pure (hr h' hs')))
  | error x => exact (hr s'.heap (.refl ..)).elim
end
end Mine
end

section -- Fw9
open PySem PySem.W PyProof.Rows PySem.W.X PySem.Calls
set_option linter.unusedVariables false
set_option maxRecDepth 100000
set_option maxHeartbeats 8000000
namespace Mine
section
variable {w : World} {os₀ : OsState} {G : Heap} {ow : Ow} {s : Shared} {A : Around} {n : Nat} {env : Env} {E : Value → Shared → Prop} {L : Addr} {m : Str → Option Value} {pos : Pos} {names : List (Str × NameKind)} {cs : List (Str × Addr)} {code : Value} {qual : Str}

theorem compIn {elt target iter : Expr} {ifs : List Expr} {scope : Scope} {cl : List (Str × Addr)} {it : Addr} {N : Nat} {Val : Nat → Value → Prop} {P : Nat → Obj → Prop} {Q : Value → Shared → Prop}
    (S : Src w os₀ G it N Val P) (hA : AOk n A) (V : EV env L names cs code qual) (H : St w os₀ G ((it, P 0) :: ow) s) (hN : N ≤ 1000) (csN : Nat → List (Str × Addr)) (hcs : ∀ k, cellsFrom k scope.names [] = csN k) (hkind : scope.kind = .function)
    (Inv : Addr → Nat → List Value → Heap → (Str → Option Value) → Ow → Prop) (h0 : ∀ C, Inv C 0 [] G (fun _ => none) (cellOw (fun _ => none) (csN (C + 1)) ++ ow))
    (step : ∀ cenv C acc, EV cenv C (seenNames names scope.names) (csN (C + 1) ++ cl) code qual → ∀ i v out G' m' ow' s', i < N → Val i v → out.length ≤ i → Inv C i out G' m' ow' → Le G G' → St w os₀ G' ((C, nsP m') :: (acc, listP out.toArray) :: (it, P (i + 1)) :: ow') s' →
      wpAny (model prg w) A (assign target cenv v) (fun _ s₂ =>
        wpAny (model prg w) A (forIn ifs true fun c r => if r = true then do let ok ← isTrue c cenv (eval c cenv); pure (ForInStep.yield ok) else pure (ForInStep.yield r)) (fun ok s₃ =>
          if ok = true then wpAny (model prg w) A (eval elt cenv) (fun x s₄ => ∃ G'' m'' ow'', Inv C (i + 1) (out ++ [x]) G'' m'' ow'' ∧ Le G' G'' ∧ St w os₀ G'' ((C, nsP m'') :: (acc, listP out.toArray) :: (it, P (i + 1)) :: ow'') s₄) (fun _ _ => False) s₃
          else ∃ G'' m'' ow'', Inv C (i + 1) out G'' m'' ow'' ∧ Le G' G'' ∧ St w os₀ G'' ((C, nsP m'') :: (acc, listP out.toArray) :: (it, P (i + 1)) :: ow'') s₃) (fun _ _ => False) s₂) (fun _ _ => False) s')
    (fin : ∀ C acc out G' m' ow' s', out.length ≤ N → Inv C N out G' m' ow' → Le G G' → St w os₀ G' ((acc, listP out.toArray) :: ow') s' → Q (.ref acc) s') (ht : ∀ it v, letOwnedTupleGo target it v = pure () := by intro _ _; rfl) :
    wpAny (model prg w) A (newList []) (fun acc s₃ =>
      wpAny (model prg w) A (newFunctionEnv scope env.globals cl [] env.qual none .none (some env)) (fun cenv s₄ =>
        codeAny (model prg w) A (.compStart (.ListComp elt [⟨target, iter, ifs, 0⟩] scope pos) 0 (.ref it) acc { cenv with scope := { scope with names := seenNames names scope.names } }) (fun r s' => ∃ m, s'.heap.Ns cenv.locals m ∧ ∀ h', Heap.SameBut cenv.locals s'.heap h' →
          match r with | .ok _ => Q acc { s' with heap := h' } | .error x => False) s₄) E s₃) E s := by
  refine newLst H (fun acc s₁ H => ?_) (by rw [sizeLine_eq]; simp)
  refine newCompEnv H fun C s₂ H => ?_
  have hp : (((C, nsP fun _ => none) : Addr × (Obj → Prop)) :: (cellOw (fun _ => none) (cellsFrom (C + 1) scope.names []) ++ (acc, objP (lstO [])) :: (it, P 0) :: ow)).Perm ((C, nsP fun _ => none) :: (acc, objP (lstO [])) :: (it, P 0) :: (cellOw (fun _ => none) (csN (C + 1)) ++ ow)) := by
    rw [hcs]
    refine List.Perm.cons _ ?_
    have := List.perm_append_comm_assoc (cellOw (fun _ => none) (csN (C + 1))) [(acc, objP (lstO [])), (it, P 0)] ow
    simpa using this
  have H := H.perm hp
  have H' : St w os₀ G ((C, nsP fun _ => none) :: (acc, listP #[]) :: (it, P 0) :: (cellOw (fun _ => none) (csN (C + 1)) ++ ow)) s₂ := by
    refine ⟨H.top, H.le, fun p hp => ?_, fun p hp => ?_, H.nd, H.gens, H.os⟩
    · rcases List.mem_cons.mp hp with rfl | hp
      · exact H.own _ (.head _)
      · rcases List.mem_cons.mp hp with rfl | hp
        · obtain ⟨o, ho, e⟩ := H.own (acc, objP (lstO [])) (.tail _ (.head _))
          cases e
          exact ⟨_, ho, rfl, _, rfl⟩
        · exact H.own _ (.tail _ (.tail _ hp))
    · rcases List.mem_cons.mp hp with rfl | hp
      · exact H.off _ (.head _)
      · rcases List.mem_cons.mp hp with rfl | hp
        · exact H.off (acc, objP (lstO [])) (.tail _ (.head _))
        · exact H.off _ (.tail _ (.tail _ hp))
  rw [hcs]
  refine compGo S hA hN (Inv C) (h0 C) H' (fun i v out G' m' ow' s' => step _ C acc (by exact ⟨rfl, V.globals, V.builtins, hkind, rfl, rfl, V.code, V.qual⟩) i v out G' m' ow' s') (fun out G' m' ow' s' hl hI hle H => ?_) (ht _)
  refine ⟨m', H.ns, fun h' hs => ?_⟩
  exact fin C acc out G' m' ow' _ hl hI hle ((H.ext (t := s'.toks) hs.extBut))

theorem compE {elt target iter : Expr} {ifs : List Expr} {scope : Scope} {cl : List (Str × Addr)} {Q : Value → Shared → Prop} (V : EV env L names cs code qual)
    (hclo : cloOf cs scope.names [] = some cl) (hkind : scope.kind = .function) (hnames : ∀ x ∈ scope.names, x.2 = .local → (seenNames names scope.names).lookup x.1 = some .local)
    (h : wpAny (model prg w) A (eval iter env) (fun x s₁ => wpAny (model prg w) A (pyIter x) (fun it s₂ => wpAny (model prg w) A (newList []) (fun acc s₃ =>
      wpAny (model prg w) A (newFunctionEnv scope env.globals cl [] env.qual none .none (some env)) (fun cenv s₄ =>
        codeAny (model prg w) A (.compStart (.ListComp elt [⟨target, iter, ifs, 0⟩] scope pos) 0 it acc { cenv with scope := { scope with names := seenNames names scope.names } }) (fun r s' => ∃ m, s'.heap.Ns cenv.locals m ∧ ∀ h', Heap.SameBut cenv.locals s'.heap h' →
          match r with | .ok _ => Q acc { s' with heap := h' } | .error x => False) s₄) E s₃) E s₂) E s₁) E s)
    (hs : ∀ x, foldedSetIterable iter env x = pure x := by intro _; rfl) :
    wpAny (model prg w) A (eval (.ListComp elt [⟨target, iter, ifs, 0⟩] scope pos) env) Q E s := by
  rw [eval_ListComp]
  exact compCl V rfl hs (closureFor_of (by rw [V.cells]; exact hclo)) hkind hnames h
end
end Mine
end

section -- Fw10
open PySem PySem.W PyProof.Rows PySem.W.X PySem.Calls
set_option linter.unusedVariables false
set_option maxRecDepth 100000
set_option maxHeartbeats 8000000
namespace Mine
section
variable {w : World} {os₀ : OsState} {G : Heap} {ow : Ow} {s : Shared} {A : Around} {n : Nat} {env : Env} {E : Value → Shared → Prop} {L : Addr} {m : Str → Option Value} {pos : Pos} {names : List (Str × NameKind)} {cs : List (Str × Addr)} {code : Value} {qual : Str}

theorem compClU {e : Expr} {scope : Scope} {pos : Pos} {newAcc first : Sem Value} {g : Comprehension} {gs : List Comprehension} {cl : List (Str × Addr)} {u : Value → Sem Unit} {Q : Shared → Prop} (V : EV env L names cs code qual)
    (hcl : clausesOf e = g :: gs) (hs : ∀ x, foldedSetIterable g.iter env x = pure x) (hclo : closureFor scope env = pure cl) (hkind : scope.kind = .function)
    (hnames : ∀ x ∈ scope.names, x.2 = .local → (seenNames names scope.names).lookup x.1 = some .local)
    (h : wpAny (model prg w) A first (fun x s₁ => wpAny (model prg w) A (pyIter x) (fun it s₂ => wpAny (model prg w) A newAcc (fun acc s₃ =>
      wpAny (model prg w) A (newFunctionEnv scope env.globals cl [] env.qual none .none (some env)) (fun cenv s₄ =>
        codeAny (model prg w) A (.compStart e 0 it acc { cenv with scope := { scope with names := seenNames names scope.names } }) (fun r s' =>
          match r with | .ok _ => wpAny (model prg w) A (u acc) (fun _ s'' => ∃ m, s''.heap.Ns cenv.locals m ∧ ∀ h', Heap.SameBut cenv.locals s''.heap h' → Q { s'' with heap := h' }) E s' | .error x => False) s₄) E s₃) E s₂) E s₁) E s) :
    wpAny (model prg w) A (comprehension e scope env pos newAcc false first (some u)) (fun _ s' => Q s') E s := by
  unfold comprehension
  rw [hclo, hcl]
  refine wpAny_bind (wpAny_mono h (fun x s₁ h₁ => wpAny_bind (wpAny_standAt (wpAny_bind (wpAny_of_eq (hs x) (wpAny_bind (wpAny_holding (wpAny_mono h₁ (fun it s₂ h₂ =>
    wpAny_standIf (wpAny_bind (wpAny_mono h₂ (fun acc s₃ h₃ => wpAny_bind (wpAny_pure (wpAny_bind (wpAny_mono h₃ (fun cenv s₄ h₄ => ?_) fun _ _ h' => h')))) fun _ _ h' => h')))
      fun _ _ h' => h'))))))) fun _ _ h' => h')
  dsimp only
  have hmap : (scope.names.map fun x => match x with | (n, k) => if (k == NameKind.free && env.scope.kind == ScopeKind.function && env.kindOf n == some NameKind.cell) = true then (n, NameKind.cell) else (n, k)) = seenNames names scope.names := by
    unfold seenNames
    apply List.map_congr_left
    intro x hx
    obtain ⟨n, k⟩ := x
    have e1 : env.kindOf n = names.lookup n := by show env.scope.names.lookup n = _; rw [V.names]
    have e2 : (env.scope.kind == ScopeKind.function) = true := by rw [V.kind]; rfl
    simp only [e1, e2, Bool.and_true]
  rw [hmap]
  have hv0 : ∀ x ∈ (scope.names.filter fun x => (x.2 == .local || x.2 == .cell) && x.1 != (".0" : Str)).reverse, x.2 = .local →
      Env.kindOf { cenv with scope := { scope with names := seenNames names scope.names } } x.1 = some .local := fun x hx hl => hnames x (List.mem_filter.mp (List.mem_reverse.mp hx)).1 hl
  refine wpAny_holding (wpAny_bind (wpAny_attempt (wpAny_holding (wpAny_run (codeAny_mono h₄ fun r s' hr => ?_)))))
  cases r with
  | ok f =>
    refine wpAny_bind (wpAny_rule (wpAny_bind (wpAny_holding (wpAny_mono hr (fun _ s'' hq => ?_) fun _ _ x => x))))
    obtain ⟨m, hn, hq⟩ := hq
    refine wpAny_bind (wpAny_comp_letGo (cenv := { cenv with scope := { scope with names := seenNames names scope.names } }) hkind _ s'' m (fun x hx => ?_) hn fun h' m' _ hs' => wpAny_pure (hq h' hs'))
    refine hv0 x ?_
    rcases List.mem_append.mp hx with hx | hx
    · exact List.mem_of_mem_drop hx
    · exact List.mem_of_mem_take hx
  | error x => exact hr.elim

theorem swaps_true {elt : Expr} {gens : List Comprehension} {scope : Scope} {cpos py : Pos} {y : Str} {line : Nat} (V : EV env L names cs code qual) (hy : names.lookup y = some .local) (hl : py.line = cpos.line) (hn : (scope.names.any fun x => x.1 == y && (x.2 == .local || x.2 == .cell)) = false) :
    swapsWith (.ListComp elt gens scope cpos) (some (.Name y py)) line env = pure true := by
  have hk : env.blockKind = .function := by unfold Env.blockKind; rw [V.kind]; rfl
  have e1 := V.kd hy
  have hp : (Expr.ListComp elt gens scope cpos).pos = cpos := rfl
  unfold swapsWith
  simp only [hk, e1, hp, hl, beq_self_eq_true, Bool.true_and, Bool.and_true]
  have : (!(scope.names.any fun x => match x with | (n, k) => n == y && (k == NameKind.local || k == NameKind.cell))) = true := by
    rw [Bool.not_eq_true']; exact hn
  simp only [this]

/-- y = [comprehension], y a local of the frame -/
theorem compU {elt target iter : Expr} {ifs : List Expr} {scope : Scope} {cl : List (Str × Addr)} {y : Str} {py spos : Pos} {Q : Flow → Shared → Prop} (V : EV env L names cs code qual)
    (hclo : cloOf cs scope.names [] = some cl) (hkind : scope.kind = .function) (hnames : ∀ x ∈ scope.names, x.2 = .local → (seenNames names scope.names).lookup x.1 = some .local)
    (hy : names.lookup y = some .local) (hl : py.line = pos.line) (hn : (scope.names.any fun x => x.1 == y && (x.2 == .local || x.2 == .cell)) = false)
    (h : wpAny (model prg w) A (eval iter env) (fun x s₁ => wpAny (model prg w) A (pyIter x) (fun it s₂ => wpAny (model prg w) A (newList []) (fun acc s₃ =>
      wpAny (model prg w) A (newFunctionEnv scope env.globals cl [] env.qual none .none (some env)) (fun cenv s₄ =>
        codeAny (model prg w) A (.compStart (.ListComp elt [⟨target, iter, ifs, 0⟩] scope pos) 0 it acc { cenv with scope := { scope with names := seenNames names scope.names } }) (fun r s' =>
          match r with | .ok _ => wpAny (model prg w) A (storeName env y acc) (fun _ s'' => ∃ m, s''.heap.Ns cenv.locals m ∧ ∀ h', Heap.SameBut cenv.locals s''.heap h' → Q .next { s'' with heap := h' }) E s' | .error x => False) s₄) E s₃) E s₂) E s₁) E s)
    (hs : ∀ x, foldedSetIterable iter env x = pure x := by intro _; rfl) :
    wpAny (model prg w) A (exec (.Assign [.Name y py] (.ListComp elt [⟨target, iter, ifs, 0⟩] scope pos) spos) env) Q E s := by
  rw [exec_Assign_Name_used _ _ _ _ (swaps_true V hy hl hn)]
  refine wpAny_bind (wpAny_standAt (wpAny_bind ?_))
  show wpAny _ A (do let _ ← comprehension (.ListComp elt [⟨target, iter, ifs, 0⟩] scope pos) scope env _ (newList []) false (eval iter env) (some (assign (.Name y py) env))) _ _ s
  refine wpAny_bind (wpAny_mono (compClU (u := assign (.Name y py) env) (Q := fun s' => Q .next s') V rfl hs (closureFor_of (by rw [V.cells]; exact hclo)) hkind hnames
    (wpAny_mono h (fun xv s₁ h₁ => wpAny_mono h₁ (fun it s₂ h₂ => wpAny_mono h₂ (fun acc s₃ h₃ => wpAny_mono h₃ (fun cenv s₄ h₄ => codeAny_mono h₄ fun r s₅ hr => ?_) fun _ _ e => e) fun _ _ e => e) fun _ _ e => e) fun _ _ e => e)) (fun _ s' hq => wpAny_pure (wpAny_pure hq)) fun _ _ e => e)
  cases r with
  | ok f => exact wpAny_assign_Name hr
  | error x => exact hr
end
end Mine
end

section -- Fw11
open PySem PySem.W PyProof.Rows PySem.W.X PySem.Calls
set_option linter.unusedVariables false
set_option maxRecDepth 100000
set_option maxHeartbeats 8000000
namespace Mine
section
variable {w : World} {os₀ : OsState} {G : Heap} {ow : Ow} {s : Shared} {A : Around} {n : Nat} {env : Env} {E : Value → Shared → Prop} {L : Addr} {m : Str → Option Value} {pos : Pos} {names : List (Str × NameKind)} {cs : List (Str × Addr)} {code : Value} {qual : Str}

theorem St.ns1 {x} {C : Addr} {m : Str → Option Value} (H : St w os₀ G (x :: (C, nsP m) :: ow) s) : s.heap.Ns C m := H.swap.ns
theorem rot3 {x y z : Addr × (Obj → Prop)} {r : Ow} : (x :: y :: z :: r).Perm (z :: x :: y :: r) := ((List.Perm.swap z y r).cons x).trans (List.Perm.swap z x (y :: r))

theorem compInU {elt target iter : Expr} {ifs : List Expr} {scope : Scope} {cl : List (Str × Addr)} {it : Addr} {N : Nat} {Val : Nat → Value → Prop} {P : Nat → Obj → Prop} {y : Str} {Q : Flow → Shared → Prop}
    (S : Src w os₀ G it N Val P) (hA : AOk n A) (V : EV env L names cs code qual) (H : St w os₀ G ((it, P 0) :: ow) s) (hN : N ≤ 1000) (csN : Nat → List (Str × Addr)) (hcs : ∀ k, cellsFrom k scope.names [] = csN k) (hkind : scope.kind = .function) (hy : names.lookup y = some .local)
    (Inv : Addr → Nat → List Value → Heap → (Str → Option Value) → Ow → Prop) (h0 : ∀ C, Inv C 0 [] G (fun _ => none) (cellOw (fun _ => none) (csN (C + 1)) ++ ow))
    (step : ∀ cenv C acc, EV cenv C (seenNames names scope.names) (csN (C + 1) ++ cl) code qual → ∀ i v out G' m' ow' s', i < N → Val i v → out.length ≤ i → Inv C i out G' m' ow' → Le G G' → St w os₀ G' ((C, nsP m') :: (acc, listP out.toArray) :: (it, P (i + 1)) :: ow') s' →
      wpAny (model prg w) A (assign target cenv v) (fun _ s₂ =>
        wpAny (model prg w) A (forIn ifs true fun c r => if r = true then do let ok ← isTrue c cenv (eval c cenv); pure (ForInStep.yield ok) else pure (ForInStep.yield r)) (fun ok s₃ =>
          if ok = true then wpAny (model prg w) A (eval elt cenv) (fun x s₄ => ∃ G'' m'' ow'', Inv C (i + 1) (out ++ [x]) G'' m'' ow'' ∧ Le G' G'' ∧ St w os₀ G'' ((C, nsP m'') :: (acc, listP out.toArray) :: (it, P (i + 1)) :: ow'') s₄) (fun _ _ => False) s₃
          else ∃ G'' m'' ow'', Inv C (i + 1) out G'' m'' ow'' ∧ Le G' G'' ∧ St w os₀ G'' ((C, nsP m'') :: (acc, listP out.toArray) :: (it, P (i + 1)) :: ow'') s₃) (fun _ _ => False) s₂) (fun _ _ => False) s')
    (fin : ∀ C acc out G' m' ow', out.length ≤ N → Inv C N out G' m' ow' → Le G G' → ∃ mL rest, ow'.Perm ((L, nsP mL) :: rest) ∧ ∀ s', St w os₀ G' ((L, nsP (upd mL y (.ref acc))) :: (acc, listP out.toArray) :: rest) s' → Q .next s') (ht : ∀ it v, letOwnedTupleGo target it v = pure () := by intro _ _; rfl) :
    wpAny (model prg w) A (newList []) (fun acc s₃ =>
      wpAny (model prg w) A (newFunctionEnv scope env.globals cl [] env.qual none .none (some env)) (fun cenv s₄ =>
        codeAny (model prg w) A (.compStart (.ListComp elt [⟨target, iter, ifs, 0⟩] scope pos) 0 (.ref it) acc { cenv with scope := { scope with names := seenNames names scope.names } }) (fun r s' =>
          match r with | .ok _ => wpAny (model prg w) A (storeName env y acc) (fun _ s'' => ∃ m, s''.heap.Ns cenv.locals m ∧ ∀ h', Heap.SameBut cenv.locals s''.heap h' → Q .next { s'' with heap := h' }) E s' | .error x => False) s₄) E s₃) E s := by
  refine newLst H (fun acc s₁ H => ?_) (by rw [sizeLine_eq]; simp)
  refine newCompEnv H fun C s₂ H => ?_
  have hp : (((C, nsP fun _ => none) : Addr × (Obj → Prop)) :: (cellOw (fun _ => none) (cellsFrom (C + 1) scope.names []) ++ (acc, objP (lstO [])) :: (it, P 0) :: ow)).Perm ((C, nsP fun _ => none) :: (acc, objP (lstO [])) :: (it, P 0) :: (cellOw (fun _ => none) (csN (C + 1)) ++ ow)) := by
    rw [hcs]
    refine List.Perm.cons _ ?_
    have := List.perm_append_comm_assoc (cellOw (fun _ => none) (csN (C + 1))) [(acc, objP (lstO [])), (it, P 0)] ow
    simpa using this
  have H := H.perm hp
  have H' : St w os₀ G ((C, nsP fun _ => none) :: (acc, listP #[]) :: (it, P 0) :: (cellOw (fun _ => none) (csN (C + 1)) ++ ow)) s₂ := by
    refine ⟨H.top, H.le, fun p hp => ?_, fun p hp => ?_, H.nd, H.gens, H.os⟩
    · rcases List.mem_cons.mp hp with rfl | hp
      · exact H.own _ (.head _)
      · rcases List.mem_cons.mp hp with rfl | hp
        · obtain ⟨o, ho, e⟩ := H.own (acc, objP (lstO [])) (.tail _ (.head _))
          cases e
          exact ⟨_, ho, rfl, _, rfl⟩
        · exact H.own _ (.tail _ (.tail _ hp))
    · rcases List.mem_cons.mp hp with rfl | hp
      · exact H.off _ (.head _)
      · rcases List.mem_cons.mp hp with rfl | hp
        · exact H.off (acc, objP (lstO [])) (.tail _ (.head _))
        · exact H.off _ (.tail _ (.tail _ hp))
  rw [hcs]
  refine compGo S hA hN (Inv C) (h0 C) H' (fun i v out G' m' ow' s' => step _ C acc (by exact ⟨rfl, V.globals, V.builtins, hkind, rfl, rfl, V.code, V.qual⟩) i v out G' m' ow' s') (fun out G' m' ow' s' hl hI hle H => ?_) (ht _)
  obtain ⟨mL, rest, hpm, hq⟩ := fin C acc out G' m' ow' hl hI hle
  have H := (H.perm (((hpm.cons _).cons _).trans rot3))
  refine stL V H (fun s'' H => ?_) hy
  refine ⟨m', H.ns1, fun h' hs => ?_⟩
  exact hq _ ((H.swap.ext (t := s''.toks) hs.extBut))
end
end Mine
end

section -- Fw12
open PySem PySem.W PyProof.Rows PySem.W.X PySem.Calls
set_option linter.unusedVariables false
set_option maxRecDepth 100000
set_option maxHeartbeats 8000000
namespace Mine
section
variable {w : World} {os₀ : OsState} {G : Heap} {ow : Ow} {s : Shared} {A : Around} {n : Nat} {env : Env} {E : Value → Shared → Prop} {L : Addr} {m : Str → Option Value} {pos : Pos} {names : List (Str × NameKind)} {cs : List (Str × Addr)} {code : Value} {qual : Str}

noncomputable def rngP (N i : Nat) (o : Obj) : Prop := o = { cls := .type "range_iterator", dict := none, data := .fields #[rawInt i, rawInt ((N : Int) - i), rawInt 1], slots := #[] }
theorem srcRange {G₀ : Heap} {it : Addr} {N : Nat} : Src w os₀ G₀ it N (fun i v => ∃ t, v = .int i t) (rngP N) where
  next := fun {A n G ow s i Q E} hA hle hi H h => by
    obtain ⟨o, ho, rfl⟩ := H.own _ (.head _)
    refine wpAny_pyNext_range_item ho (by omega) fun h' hit hs => h _ _ ⟨_, rfl⟩ (H.upd (t := s.toks + 1) hs ⟨_, hit, ?_⟩)
    unfold rngP
    have e1 : ((i : Int) + 1) = ((i + 1 : Nat) : Int) := by omega
    have e2 : ((N : Int) - i - 1) = (N : Int) - ((i + 1 : Nat) : Int) := by omega
    rw [e1, e2]
  over := fun {A n G ow s Q E} hA hle H h => by
    obtain ⟨o, ho, rfl⟩ := H.own _ (.head _)
    exact wpAny_pyNext_range_end hA.handled ho (by omega) fun h' he => h _ (H.ext (t := s.toks) he)
  again := fun {A n G ow s Q E} hA hle H h => by
    obtain ⟨o, ho, rfl⟩ := H.own _ (.head _)
    exact (Walks.range (prog := prg) (w := w) hA.handled it 0 1 N).self 0 s Q E (by
      show IsRangeIter _ _ _ _ _
      simpa using ho) h
/-- range(k) and its iterator -/
theorem rangeIter {N : Nat} {t : Tok} {Q : Value → Shared → Prop} (H : St w os₀ G ow s) (hN : N ≤ 1000) (h : ∀ it s', St w os₀ G ((it, rngP N 0) :: ow) s' → Q (.ref it) s') :
    wpAny (model prg w) A (call (.type "range") [.int N t]) (fun v s' => wpAny (model prg w) A (pyIter v) Q E s') E s := by
  refine call_range_1 ?_
  have hs : Builtin.Range.rangeSize 0 N 1 = N := by unfold Builtin.Range.rangeSize; simp; omega
  refine wpAny_pyIter_range (IsRange.new _ 0 N 1 _ _ _) ?_ ?_
  · exact small_one (by omega) (by omega) (by omega) (by omega)
  · rw [hs]
    have H1 := H.keep (t := s.toks + 1 + 1) (h' := s.heap.push { cls := .type "range", data := .fields #[.int 0 s.toks, .int N t, .int 1 (s.toks + 1)] }) fun b o e => Heap.get?_push_of_some _ e
    exact h _ _ (H1.push (P := rngP N 0) _ rfl (by unfold rngP; simp) _)

/-- a while loop by a measure; the state between the turns is told by Inv -/
theorem whileS {test : Expr} {body : List Stmt} {Q : Flow → Shared → Prop} (Inv : Nat → Heap → Ow → Prop) (k : Nat) (h0 : Inv k G ow) (H : St w os₀ G ow s)
    (step : ∀ k G' ow' s', Inv k G' ow' → Le G G' → St w os₀ G' ow' s' →
      wpAny (model prg w) A (isTrue test env (eval test env)) (fun b s₂ => if b then wpAny (model prg w) A (execs body env) (fun f s₃ => (f = .next ∨ f = .cont) ∧ ∃ k' G'' ow'', k' < k ∧ Inv k' G'' ow'' ∧ Le G' G'' ∧ St w os₀ G'' ow'' s₃) (fun _ _ => False) s₂
        else Q .next s₂) (fun _ _ => False) s') :
    wpAny (model prg w) A (exec (.While test body [] pos) env) Q E s := by
  refine wpAny_While (codeAny_whileLoop (fun k s' => ∃ G' ow', Inv k G' ow' ∧ Le G G' ∧ St w os₀ G' ow' s') ?_ k ⟨G, ow, h0, Le.refl _, H⟩)
  rintro k s' ⟨G', ow', hI, hle, H'⟩
  refine wpAny_mono (step k G' ow' s' hI hle H') (fun b s₂ h₂ => ?_) fun _ _ e => e.elim
  cases b with
  | true =>
    rw [if_pos rfl] at h₂ ⊢
    refine wpAny_mono h₂ (fun f s₃ h₃ => ?_) fun _ _ e => e.elim
    obtain ⟨hf, k', G'', ow'', hk, hI', hle', H''⟩ := h₃
    have : ∃ m, m < k ∧ ∃ G' ow', Inv m G' ow' ∧ Le G G' ∧ St w os₀ G' ow' s₃ := ⟨k', hk, G'', ow'', hI', hle.trans hle', H''⟩
    rcases hf with rfl | rfl <;> exact this
  | false =>
    rw [if_neg (by simp)] at h₂ ⊢
    exact wpAny_execs_nil h₂
end
end Mine
end

section -- Fw13
open PySem PySem.W PyProof.Rows PySem.W.X PySem.Calls
set_option linter.unusedVariables false
set_option maxRecDepth 100000
set_option maxHeartbeats 8000000
namespace Mine
section
variable {w : World} {os₀ : OsState} {G : Heap} {ow : Ow} {s : Shared} {A : Around} {n : Nat} {env : Env} {E : Value → Shared → Prop} {L : Addr} {m : Str → Option Value} {pos : Pos} {names : List (Str × NameKind)} {cs : List (Str × Addr)} {code : Value} {qual : Str} {x y : Str} {t u : Tok}

theorem callB {id : String} {f : Str} {p : Pos} {e₁ : Expr} {rest : List Expr} {tm : Sem Value} {tr : List (Bool × Sem Value)} {Q : Value → Shared → Prop} (V : EV env L names cs code qual) (H : St w os₀ G ow s)
    (e : nsIn (K0 w.params) 3 f = some none) (e2 : biF f = some (.builtin id)) (hs : backTo pos (starEach (e₁ :: rest) env) = (false, tm) :: tr) (hp : tr.any (·.1) = false)
    (h : wpAny (model prg w) A (spliced ((false, tm) :: tr)) (fun vs s₁ => wpAny (model prg w) A (call (.builtin id) vs) Q E s₁) E s)
    (hx : names.lookup f = some .globalImplicit := by rfl) (hdb : (f == ("__debug__" : Str)) = false := by rfl) :
    wpAny (model prg w) A (eval (.Call (.Name f p) (e₁ :: rest) [] pos) env) Q E s := by
  refine wpAny_Call_NameR (nmB V H e e2 ?_ hx hdb)
  rw [hs]
  exact callWith_builtin (by simpa using hp) (evalArgs_plain h)
theorem callT1 {T : String} {f : Str} {p : Pos} {e₁ : Expr} {Q : Value → Shared → Prop} (V : EV env L names cs code qual) (H : St w os₀ G ow s)
    (e : nsIn (K0 w.params) 3 f = some none) (e2 : biF f = some (.type T)) (hs : starEach [e₁] env = [(false, eval e₁ env)])
    (h : wpAny (model prg w) A (eval e₁ env) (fun v s₁ => wpAny (model prg w) A (call (.type T) [v]) Q E s₁) E s)
    (hx : names.lookup f = some .globalImplicit := by rfl) (hdb : (f == ("__debug__" : Str)) = false := by rfl) :
    wpAny (model prg w) A (eval (.Call (.Name f p) [e₁] [] pos) env) Q E s :=
  Call_name1 hs (nmB V H e e2 (callWith_type1 h) hx hdb)

theorem x_endS {Q : Value → Shared → Prop} {v : Value} {h' : Heap} {t : Nat} {news : List (Addr × Obj)} (hQ : ∀ s', St w os₀ G ow s' → Q v s') (H : St w os₀ G ow s) (D : Mem s.heap h' [] news) : Q v ⟨h', s.gens, s.drawn, t, s.os⟩ :=
  hQ _ (H.keep (t := t) fun b o e => D.keep b o e (by simp [away]))
theorem x_endT {Q : Value → Shared → Prop} {v : Value} {t : Nat} (hQ : ∀ s', St w os₀ G ow s' → Q v s') (H : St w os₀ G ow s) : Q v ⟨s.heap, s.gens, s.drawn, t, s.os⟩ := hQ _ (H.tok t)
local macro_rules | `(tactic| x_close) => `(tactic| first | exact x_endT (by assumption) (by assumption) | exact x_endS (by assumption) (by assumption) (by assumption))
theorem isBytes {Q : Value → Shared → Prop} (hA : AOk n A) (H : St w os₀ G ow s) (h : ∀ s', St w os₀ G ow s' → Q (.bool false) s') : wpAny (model prg w) A (call (.builtin "isinstance") [.str x t, .type "bytes"]) Q E s := by
  refine of_AA hA ?_
  have KX := H.topH
  x_run
theorem cBytes {b : List UInt8} {k : Nat} {Q : Value → Shared → Prop} (H : St w os₀ G ow s) (h : ∀ t s', St w os₀ G ow s' → Q (.bytes b.toArray t) s') : wpAny (model prg w) A (eval (.Constant (.bytes b) k pos) env) Q E s := fun Γ p hΓ => h _ _ (H.tok _)
end
end Mine
end

section -- Fw14
open PySem PySem.W PyProof.Rows PySem.W.X PySem.Calls
set_option linter.unusedVariables false
set_option maxRecDepth 100000
set_option maxHeartbeats 8000000
namespace Mine
section
variable {w : World} {os₀ : OsState} {G : Heap} {ow : Ow} {s : Shared} {A : Around} {n : Nat} {env : Env} {E : Value → Shared → Prop} {L : Addr} {m : Str → Option Value} {pos : Pos} {names : List (Str × NameKind)} {cs : List (Str × Addr)} {code : Value} {qual : Str} {x y : Str} {t u : Tok}

noncomputable def bindAll (env : Env) : List (Str × Value) → Sem Unit
  | [] => pure ()
  | (n, v) :: r => do storeName env n v; bindAll env r
theorem bindAll_of {env : Env} (f : Str × Value → PUnit → Sem (ForInStep PUnit)) (hf : ∀ n v u, f (n, v) u = (do storeName env n v; pure (.yield ⟨⟩))) : ∀ l, forIn l ⟨⟩ f = bindAll env l
  | [] => rfl
  | (n, v) :: r => by
    rw [List.forIn_cons, hf]
    unfold bindAll
    rw [← bindAll_of f hf r]
    simp
theorem bindAll_nil {Q : Unit → Shared → Prop} (h : Q () s) : wpAny (model prg w) A (bindAll env []) Q E s := wpAny_pure h
theorem bindAll_cons {v : Value} {r : List (Str × Value)} {Q : Unit → Shared → Prop} (h : wpAny (model prg w) A (storeName env x v) (fun _ s₁ => wpAny (model prg w) A (bindAll env r) Q E s₁) E s) : wpAny (model prg w) A (bindAll env ((x, v) :: r)) Q E s := wpAny_bind h

theorem newFnEnv {scope : Scope} {cl : List (Str × Addr)} {binds : List (Str × Value)} {gl bi : Addr} {fn : Option Addr} {Q : Env → Shared → Prop} (H : St w os₀ G ow s)
    (h : ∀ env L' s', env = newEnv scope L' gl (cellsFrom (L' + 1) scope.names [] ++ cl) qual fn code none bi → St w os₀ G ((L', nsP fun _ => none) :: (cellOw (fun _ => none) (cellsFrom (L' + 1) scope.names []) ++ ow)) s' →
      wpAny (model prg w) A (bindAll env binds) (fun _ s'' => Q env s'') E s') :
    wpAny (model prg w) A (newFunctionEnv scope gl cl binds qual fn code none bi) Q E s := by
  simp only [newFunctionEnv, Option.isSome_none, Bool.false_eq_true, if_false]
  refine wpAny_bind (wpAny_alloc ?_)
  refine wpAny_bind (wpAny_layCells _ (fun name kind cells => by cases hkc : kind == NameKind.cell <;> simp [hkc]) _ _ _ _ ?_)
  refine wpAny_bind ?_
  have hsz : ({ s with heap := s.heap.push { cls := .type "frame", data := .dict #[] } } : Shared).heap.objs.size = s.heap.objs.size + 1 := Heap.size_push ..
  rw [hsz, cellsFrom_acc, bindAll_of _ (fun _ _ _ => rfl)]
  refine wpAny_mono (h _ _ _ rfl ?_) (fun _ s' hh => wpAny_pure hh) fun _ _ e => e
  have ok := cellsFrom_ok scope.names (s.heap.push { cls := .type "frame", data := .dict #[] }) (s.heap.objs.size + 1) [] ⟨fun _ _ hm => (nomatch hm), List.Pairwise.nil⟩ (by rw [Heap.size_push]; exact Nat.le_refl _)
  rw [Heap.size_push] at ok
  have keep : Le s.heap (pushCells (s.heap.push { cls := .type "frame", data := .dict #[] }) scope.names) := fun b o e => pushCells_keeps _ _ b o (Heap.get?_push_of_some _ e)
  have h1 : (cellOw (fun _ => none) (cellsFrom (s.heap.objs.size + 1) scope.names [])).map (·.1) = (cellsFrom (s.heap.objs.size + 1) scope.names []).map (·.2) := by
    unfold cellOw; rw [List.map_map]; rfl
  refine ⟨H.top, H.le.trans keep, fun p hp => ?_, fun p hp => ?_, ?_, H.gens, H.os⟩
  · rcases List.mem_cons.mp hp with rfl | hp
    · exact nsP_of ((Heap.Ns.new s.heap (.type "frame")).keeps (pushCells_keeps _ _))
    · rcases List.mem_append.mp hp with hp | hp
      · obtain ⟨q, hq, rfl⟩ := List.mem_map.mp hp
        exact (ok.empty q.1 q.2 hq).1
      · obtain ⟨o', h1, h2⟩ := H.own p hp
        exact ⟨o', keep _ _ h1, h2⟩
  · rcases List.mem_cons.mp hp with rfl | hp
    · exact H.fresh
    · rcases List.mem_append.mp hp with hp | hp
      · obtain ⟨q, hq, rfl⟩ := List.mem_map.mp hp
        cases hh : G.get? q.2 with
        | none => rfl
        | some o' => exact absurd (Heap.lt_size (H.le _ _ hh)) (Nat.not_lt.mpr (Nat.le_of_succ_le (ok.empty q.1 q.2 hq).2))
      · exact H.off p hp
  · show (s.heap.objs.size :: ((cellOw _ _ ++ ow).map (·.1))).Nodup
    rw [List.nodup_cons, List.map_append, h1]
    refine ⟨fun hm => ?_, List.nodup_append.mpr ⟨List.pairwise_map.mpr ok.apart, H.nd, fun x hx y hy e => ?_⟩⟩
    · rcases List.mem_append.mp hm with hm | hm
      · obtain ⟨q, hq, e⟩ := List.mem_map.mp hm
        exact absurd (ok.empty q.1 q.2 hq).2 (by rw [e]; exact Nat.not_succ_le_self _)
      · obtain ⟨q, hq, e⟩ := List.mem_map.mp hm
        exact absurd (H.lt hq) (by rw [e]; exact Nat.lt_irrefl _)
    · obtain ⟨q, hq, rfl⟩ := List.mem_map.mp hx
      obtain ⟨r, hr, rfl⟩ := List.mem_map.mp hy
      exact absurd (H.lt hr) (by rw [← e]; exact Nat.not_lt.mpr (Nat.le_of_succ_le (ok.empty q.1 q.2 hq).2))

/-- entry of any def: what binds is told by bindArgs itself; own cells and a closure allowed -/
theorem enterW {Q E : Value → Shared → Prop} {a : Addr} {o : Obj} {fd : FuncData} {body : List Stmt} {args : Args}
    (cl : List (Str × Addr)) (cs : Nat → List (Str × Addr))
    (hA : AOk (n + 1) A) (ho : s.heap.get? a = some o) (hdata : o.data = .func fd) (hcd : s.heap.CodeRec fd.code fd.qualname)
    (hbody : fd.body = .stmts body) (hnames : fd.scope.names = names) (hcode : fd.code = code) (hqual : (fd.qualname ++ ".<locals>.") = qual) (hclo : fd.closure = cl)
    (hcs : ∀ k, cellsFrom k names [] = cs k)
    (h : wpAny (model prg w) A.in1 (bindArgs fd args) (fun binds s₁ => ∃ G₁ ow₁, St w os₀ G₁ ow₁ s₁ ∧ ∀ env L A₁ A' s₂, EV env L names (cs (L + 1) ++ cl) code qual → AOk n A' → St w os₀ G₁ ((L, nsP fun _ => none) :: (cellOw (fun _ => none) (cs (L + 1)) ++ ow₁)) s₂ →
      wpAny (model prg w) A₁ (bindAll env binds) (fun _ s₃ => (∃ G₃ ow₃, St w os₀ G₃ ow₃ s₃) ∧ wpAny (model prg w) A' (execs body env) (fun f s' => Q (retOf f) s') (fun _ _ => False) s₃) (fun _ _ => False) s₂) (fun _ _ => False) s)
    (hglob : fd.globals = 3 := by rfl) (hbi : fd.builtins = 0 := by rfl)
    (hco : fd.scope.isCoroutine = false := by rfl) (hgen : fd.scope.isGenerator = false := by rfl) (hk : fd.scope.kind = .function := by rfl) :
    wpAny (model prg w) A (call (.ref a) args.pos args.kw) Q E s := by
  subst hnames hcode hqual hclo
  refine wpAny_call (codeAny_call_function hA.room ho hdata hco hgen hbody hcd (wpAny_mono h (fun binds s₁ h₁ => ?_) fun _ _ e => e.elim))
  obtain ⟨G₁, ow₁, H₁, h₁⟩ := h₁
  refine newFnEnv H₁ fun env L s₂ he H₂ => ?_
  rw [hcs] at H₂
  refine wpAny_mono (h₁ env L _ (A.deeper env) s₂ ?_ (hA.deeper _) H₂) (fun _ s₃ h₃ => ⟨noLimit h₃.1.choose_spec.choose_spec, codeAny_func ?_⟩) fun _ _ e => e.elim
  · rw [he, hcs]; exact ⟨rfl, hglob, hbi, hk, rfl, rfl, rfl, rfl⟩
  · refine wpAny_mono h₃.2 (fun f s' hq => ?_) fun _ _ e => e.elim
    cases f <;> exact hq
end
end Mine
end

section -- P1
open PySem PySem.W PyProof.Rows PySem.W.X PySem.Calls
set_option linter.unusedVariables false
set_option maxRecDepth 100000
set_option maxHeartbeats 8000000
namespace Mine
theorem iteF {b : Bool} {P Q : Prop} (h : b = false) (q : Q) : if b = true then P else Q := by rw [if_neg (by simp [h])]; exact q
theorem iteT {b : Bool} {P Q : Prop} (h : b = true) (q : P) : if b = true then P else Q := by rw [if_pos h]; exact q
section
variable {w : World} {os₀ : OsState} {G : Heap} {ow : Ow} {s : Shared} {A : Around} {n : Nat} {E : Value → Shared → Prop}
local macro_rules | `(tactic| x_close) => `(tactic| first | exact x_endT (by assumption) (by assumption) | exact x_endS (by assumption) (by assumption) (by assumption))
theorem typeStr {x : Str} {t : Tok} {Q : Value → Shared → Prop} (hA : AOk n A) (H : St w os₀ G ow s) (h : ∀ s', St w os₀ G ow s' → Q (.type "str") s') : wpAny (model prg w) A (call (.type "type") [.str x t]) Q E s := by
  refine of_AA hA ?_
  have KX := H.topH
  x_run
theorem subStr {T : Addr} {k : Nat} {Q : Value → Shared → Prop} (hA : AOk n A) (H : St w os₀ G ow s) (hT : s.heap.get? T = some { cls := .type "tuple", data := .seq #[.type "str", .type "bytes"] k }) (h : ∀ s', St w os₀ G ow s' → Q (.bool true) s') : wpAny (model prg w) A (call (.builtin "issubclass") [.type "str", .ref T]) Q E s := by
  refine of_AA hA ?_
  have KX := H.topH
  x_run
end
section
variable {w : World} {os₀ : OsState} {G : Heap}
theorem getsep_spec {p : Str} {t : Tok} : Spec w os₀ 1 (.ref 124) [.str p t] G (fun _ v => ∃ u, v = .str (Str.ofString "/") u) := by
  intro A ow s Q E hA H hQ
  refine enter [(Str.ofString "path", .str p t)] (fun y => if y = Str.ofString "path" then some (.str p t) else none) (fun _ => none) (fun _ => []) hA H rfl rfl (fun h X => ⟨_, _, _, _, rfl, X 123 _ rfl, rfl, rfl⟩) rfl rfl rfl rfl rfl rfl (fun _ => rfl) ?_ rfl rfl (fun env L A' s₁ V hA H => ?_) .nil (fun _ => rfl)
  · simp only [List.mem_singleton, forall_eq]; exact .inl rfl
  · dsimp only at V
    have H : St w os₀ G ((L, nsP fun y => if y = Str.ofString "path" then some (.str p t) else none) :: ow) s₁ := H
    refine wpAny_execs_cons (wpAny_If (isTrue_plain (callB V H rfl rfl rfl rfl (spliced_cons (nmL V H rfl (spliced_cons (nmB V H rfl rfl (spliced_nil (isBytes hA H fun s H => wpAny_truthy_bool ?_)))))))))
    refine iteF rfl (wpAny_execs_cons (wpAny_Return_some (cStr H fun u s H => ?_)))
    exact hQ _ G _ (Le.refl _) H.drop ⟨u, rfl⟩
theorem fspath_spec {p : Str} {t : Tok} : Spec w os₀ 1 (.ref 110) [.str p t] G (fun _ v => ∃ u, v = .str p u) := by
  intro A ow s Q E hA H hQ
  refine enter [(Str.ofString "path", .str p t)] (fun y => if y = Str.ofString "path" then some (.str p t) else none) (fun _ => none) (fun _ => []) hA H rfl rfl (fun h X => ⟨_, _, _, _, rfl, X 109 _ rfl, rfl, rfl⟩) rfl rfl rfl rfl rfl rfl (fun _ => rfl) ?_ rfl rfl (fun env L A' s₁ V hA H => ?_) .nil (fun _ => rfl)
  · simp only [List.mem_singleton, forall_eq]; exact .inl rfl
  · dsimp only at V
    have H : St w os₀ G ((L, nsP fun y => if y = Str.ofString "path" then some (.str p t) else none) :: ow) s₁ := H
    refine wpAny_execs_cons (wpAny_Assign_Name (callT1 V H rfl rfl rfl (nmL V H rfl (typeStr hA H fun s H => stL V H fun s H => ?_))))
    dsimp only
    refine wpAny_execs_cons (wpAny_If (isTrue_plain (callB V H rfl rfl rfl rfl (spliced_cons (nmL V H rfl (spliced_cons (Tuple_ (k := 0) (spliced_cons (nmB V H rfl rfl (spliced_cons (nmB V H rfl rfl (spliced_nil (newTup H (fun T s H => ?_) (by rw [sizeLine_eq]; simp))))))))))))))
    obtain ⟨o, ho, e⟩ := H.own _ (.head _)
    cases e
    refine spliced_nil (subStr hA H.drop ho fun s H => wpAny_truthy_bool ?_)
    refine iteT rfl (wpAny_execs_cons (wpAny_Return_some (nmL V H rfl ?_)))
    exact hQ _ G _ (Le.refl _) H.drop ⟨t, rfl⟩
end
end Mine
end

section -- S1
open PySem PySem.W PyProof.Rows PySem.W.X PySem.Calls
set_option linter.unusedVariables false
set_option maxRecDepth 100000
set_option maxHeartbeats 8000000
namespace Mine
section
variable {w : World} {os₀ : OsState} {G : Heap}
noncomputable def sl : Str := Str.ofString "/"
noncomputable def splitH (p : Str) : Str := Txt.slice p none (some (Txt.rfind p sl + 1))
noncomputable def splitT (p : Str) : Str := Txt.slice p (some (Txt.rfind p sl + 1)) none
noncomputable def splitF (p : Str) : Str := if (((splitH p).length : Int) != 0 && (splitH p).cps.toList != (Txt.mul sl (splitH p).length).cps.toList) = true then Txt.rstripChars (splitH p) sl else splitH p
theorem big {n : Nat} (h : n ≤ 1000) : n ≤ sizeLine := by rw [sizeLine_eq]; omega
theorem mulOk {n : Nat} (h : n ≤ 1000) : MulOk sl n := by
  have e : sl.length = 1 := by decide +kernel
  refine ⟨?_, fun h1 h2 => ?_, fun h1 h2 => ?_⟩
  · rw [Bool.or_eq_false_iff, decide_eq_false_iff_not, decide_eq_false_iff_not]; omega
  · rw [e]
    have hn : (1 : Int) ≤ n := by omega
    have : (1 : Int) ≤ (2 ^ 63 - 1) / n := by
      apply Int.le_ediv_of_mul_le (by omega)
      omega
    omega
  · rw [e]; unfold Builtin.Str.tooLong; rw [sizeLine_eq]; simp only [Int.toNat_natCast, Nat.one_mul]; rw [decide_eq_false_iff_not]; omega
theorem split_spec {p : Str} {t : Tok} (hp : p.length ≤ 1000) : Spec w os₀ 2 (.ref 138) [.str p t] G (fun G' v => Rd G' v (.tuple [.str (splitF p), .str (splitT p)])) := by
  intro A ow s Q E hA H hQ
  refine enter [(Str.ofString "p", .str p t)] (fun y => if y = Str.ofString "p" then some (.str p t) else none) (fun _ => none) (fun _ => []) hA H rfl rfl (fun h X => ⟨_, _, _, _, rfl, X 137 _ rfl, rfl, rfl⟩) rfl rfl rfl rfl rfl rfl (fun _ => rfl) ?_ rfl rfl (fun env L A' s₁ V hA H => ?_) .nil (fun _ => rfl)
  · simp only [List.mem_singleton, forall_eq]; exact .inl rfl
  · dsimp only at V
    -- p = fspath(p)
    refine wpAny_execs_cons (wpAny_Assign_Name (callGf V H rfl rfl rfl rfl (spliced_cons (nmL V H rfl (spliced_nil ⟨⟨_, _, H⟩, ?_⟩)))))
    refine fspath_spec A' _ _ _ _ (hA.mono (by omega)) H ?_
    rintro v G₁ s₂ hle H ⟨u, rfl⟩
    refine stL V H fun s₃ H => ?_
    dsimp only
    -- sep = _get_sep(p)
    refine wpAny_execs_cons (wpAny_Assign_Name (callGf V H rfl rfl rfl rfl (spliced_cons (nmL V H rfl (spliced_nil ⟨⟨_, _, H⟩, ?_⟩)))))
    refine getsep_spec A' _ _ _ _ (hA.mono (by omega)) H ?_
    rintro v G₂ s₂ hle2 H ⟨u2, rfl⟩
    refine stL V H fun s₃ H => ?_
    dsimp only
    -- i = p.rfind(sep) + 1
    refine wpAny_execs_cons (wpAny_Assign_Name (wpAny_BinOp (Call_method1 rfl rfl rfl (nmL V H rfl (SB.rfind (nmL V H rfl ⟨_, _, rfl, cInt (H.tok _) fun _ s₃ H => addI H fun _ s₃ H => stL V H fun s₃ H => ?_⟩))))))
    dsimp only
    -- head, tail = (p[:i], p[i:])
    refine wpAny_execs_cons (Assign_Tuple_swapped (names := [Str.ofString "head", Str.ofString "tail"]) (Tuple_ (spliced_cons (slS_nu (nmL V H rfl (nmL V H rfl ⟨_, _, _, _, _, _, rfl, rfl, big hp, H, fun t1 s₄ H => spliced_cons (slS_ln (nmL V H rfl (nmL V H rfl ⟨_, _, _, _, _, _, rfl, rfl, big hp, H, fun t2 s₅ H => spliced_nil (newTup H fun a s₆ H => ?_)⟩)))⟩))))) rfl (swapped2 V rfl rfl rfl rfl nofun nofun rfl rfl))
    refine unpT (k := 2) hA H.drop (IsTup.head H) rfl fun s₇ H => ?_
    refine assignInOrder_cons (stL' V H fun s₈ H => assignInOrder_cons (stL' V H fun s₉ H => assignInOrder_nil ?_))
    dsimp only
    have hh : (splitH p).length ≤ 1000 := Nat.le_trans (Txt.slice_le _ _ _) hp
    -- if head and head != sep * len(head): head = head.rstrip(sep)
    refine wpAny_execs_cons (wpAny_mono (Q := fun f s' => f = .next ∧ ∃ t3 mm, mm (Str.ofString "head") = some (.str (splitF p) t3) ∧ mm (Str.ofString "tail") = some (.str (splitT p) t2) ∧ St w os₀ G₂ ((L, nsP mm) :: (cellOw (fun _ => none) [] ++ ow)) s') (wpAny_If (isTrue_and (isTrue_plain (nmL V H rfl (truthS H (fun s₁ H => ?_) (big hh)))))) ?_ fun _ _ e => e)
    · cases h1 : (((Txt.slice p none (some (Txt.rfind p (Str.ofString "/") + 1))).length : Int) != 0) with
      | false =>
        rw [if_neg (by simp)]
        have e : splitF p = splitH p := by
          unfold splitF
          rw [show ((((splitH p).length : Int) != 0)) = false from h1, Bool.false_and, if_neg (by simp)]
        refine wpAny_execs_nil ⟨rfl, t1, _, ?_, ?_, H⟩
        · rw [e]; rfl
        · rfl
      | true =>
        rw [if_pos rfl]
        refine isTrue_and (wpAny_isTrue_Compare1 (nmL V H rfl (wpAny_BinOp (nmL V H rfl (Call_name1 rfl (nmB V H rfl rfl (callWith_builtin1 (nmL V H rfl (lenS H (fun t5 s₂ H => SB.mul (mulOk hh) fun t6 k => PySem.P.ne_str (wpAny_truthy_bool ?_)) (big hh))))))))))
        have H := H.tok k
        cases h2 : ((Txt.slice p none (some (Txt.rfind p (Str.ofString "/") + 1))).cps.toList != (Txt.mul (Str.ofString "/") (Txt.slice p none (some (Txt.rfind p (Str.ofString "/") + 1))).length).cps.toList) with
        | false =>
          rw [if_neg (by simp)]
          have e : splitF p = splitH p := by
            unfold splitF
            rw [show ((splitH p).cps.toList != (Txt.mul sl (splitH p).length).cps.toList) = false from h2, Bool.and_false, if_neg (by simp)]
          refine wpAny_execs_nil ⟨rfl, t1, _, ?_, ?_, H⟩
          · rw [e]; rfl
          · rfl
        | true =>
          rw [if_pos rfl]
          refine isTrue_and_nil ?_
          rw [if_pos rfl]
          have e : splitF p = Txt.rstripChars (splitH p) sl := by
            unfold splitF
            rw [show ((splitH p).cps.toList != (Txt.mul sl (splitH p).length).cps.toList) = true from h2, show ((((splitH p).length : Int) != 0)) = true from h1, Bool.and_true, if_pos rfl]
          refine wpAny_execs_cons (wpAny_Assign_Name (Call_method1 rfl rfl rfl (nmL V H rfl (SB.rstripChars (nmL V H rfl ⟨_, _, rfl, fun t7 k => stL V (H.tok k) fun s₃ H => ?_⟩) (big hh)))))
          dsimp only
          refine wpAny_execs_nil ⟨rfl, t7, _, ?_, ?_, H⟩
          · rw [e]; rfl
          · rfl
    · rintro f s' ⟨rfl, t3, mm, h1, h2, H⟩
      dsimp only
      refine wpAny_execs_cons (wpAny_Return_some (Tuple_ (spliced_cons (nmL V H h1 (spliced_cons (nmL V H h2 (spliced_nil (newTup H fun a s₆ H => ?_))))))))
      dsimp only [retOf]
      obtain ⟨o, G', ho, hle', hg, H⟩ := H.freeze
      cases ho
      exact hQ _ G' _ ((hle.trans hle2).trans hle') H.drop ⟨_, Reads.tuple hg rfl rfl (.cons (.str _ _) (.cons (.str _ _) .nil))⟩
end
end Mine
end

section -- S2
open PySem PySem.W PyProof.Rows PySem.W.X PySem.Calls
set_option linter.unusedVariables false
set_option maxRecDepth 100000
set_option maxHeartbeats 8000000
namespace Mine
section
variable {w : World} {os₀ : OsState} {G : Heap}
theorem splitroot_spec {p : Str} {t : Tok} (hp : p.length ≤ 1000) (h1 : ((Txt.slice p none (some 1)).cps.toList != sl.cps.toList) = false) (h2 : ((Txt.slice p (some 1) (some 2)).cps.toList != sl.cps.toList) = true) :
    Spec w os₀ 2 (.ref 145) [.str p t] G (fun G' v => ∃ a t1 t2 t3 o, v = .ref a ∧ G'.get? a = some o ∧ o = tupO [.str (Str.ofString "") t1, .str sl t2, .str (Txt.slice p (some 1) none) t3]) := by
  intro A ow s Q E hA H hQ
  refine enter [(Str.ofString "p", .str p t)] (fun y => if y = Str.ofString "p" then some (.str p t) else none) (fun _ => none) (fun _ => []) hA H rfl rfl (fun h X => ⟨_, _, _, _, rfl, X 144 _ rfl, rfl, rfl⟩) rfl rfl rfl rfl rfl rfl (fun _ => rfl) ?_ rfl rfl (fun env L A' s₁ V hA H => ?_) .nil (fun _ => rfl)
  · simp only [List.mem_singleton, forall_eq]; exact .inl rfl
  · dsimp only at V
    -- p = fspath(p)
    refine wpAny_execs_cons (wpAny_Assign_Name (callGf V H rfl rfl rfl rfl (spliced_cons (nmL V H rfl (spliced_nil ⟨⟨_, _, H⟩, ?_⟩)))))
    refine fspath_spec A' _ _ _ _ (hA.mono (by omega)) H ?_
    rintro v G₁ s₂ hle H ⟨u, rfl⟩
    refine stL V H fun s₃ H => ?_
    dsimp only
    -- if isinstance(p, bytes)
    refine wpAny_execs_cons (wpAny_If (isTrue_plain (callB V H rfl rfl rfl rfl (spliced_cons (nmL V H rfl (spliced_cons (nmB V H rfl rfl (spliced_nil (isBytes hA H fun s₄ H => wpAny_truthy_bool ?_)))))))))
    refine iteF rfl ?_
    refine wpAny_execs_cons (wpAny_Assign_Name (cStr H fun _ s₅ H => stL V H fun s₆ H => ?_))
    dsimp only
    refine wpAny_execs_cons (wpAny_Assign_Name (cStr H fun _ s₅ H => stL V H fun s₆ H => wpAny_execs_nil ?_))
    dsimp only
    -- if p[:1] != sep
    refine wpAny_execs_cons (wpAny_If (wpAny_isTrue_Compare1 (slS_nu (nmL V H rfl (cInt H fun _ s₇ H => ⟨_, _, _, _, _, _, rfl, rfl, big hp, H, fun _ s₈ H => nmL V H rfl (PySem.P.ne_str (wpAny_truthy_bool ?_))⟩)))))
    refine iteF h1 ?_
    refine wpAny_execs_cons (wpAny_If (isTrue_or (wpAny_isTrue_Compare1 (slS_lu (nmL V H rfl (cInt H fun _ s₇ H => cInt H fun _ s₈ H => ⟨_, _, _, _, _, _, _, _, rfl, rfl, rfl, big hp, H, fun _ s₉ H => nmL V H rfl (PySem.P.ne_str (wpAny_truthy_bool ?_))⟩))))))
    refine iteT h2 (iteT rfl ?_)
    refine wpAny_execs_cons (wpAny_Return_some (Tuple_ (spliced_cons (nmL V H rfl (spliced_cons (nmL V H rfl (spliced_cons (slS_ln (nmL V H rfl (cInt H fun _ s₇ H => ⟨_, _, _, _, _, _, rfl, rfl, big hp, H, fun _ s₈ H => spliced_nil (newTup H fun a s₉ H => ?_)⟩))))))))))
    dsimp only [retOf]
    obtain ⟨o, G', ho, hle', hg, H⟩ := H.freeze
    exact hQ _ G' _ (hle.trans hle') H.drop ⟨_, _, _, _, _, rfl, hg, ho⟩
end
end Mine
end

section -- S3
open PySem PySem.W PyProof.Rows PySem.W.X PySem.Calls
set_option linter.unusedVariables false
set_option maxRecDepth 100000
set_option maxHeartbeats 8000000
namespace Mine
noncomputable def tupIterP (l : Addr) (i : Nat) (o : Obj) : Prop := o.cls = .type "tuple_iterator" ∧ o.data = .fields #[.ref l, .int i 0]
section
variable {w : World} {os₀ : OsState} {G : Heap} {ow : Ow} {s : Shared} {A : Around} {n : Nat} {env : Env} {E : Value → Shared → Prop} {L : Addr} {m : Str → Option Value} {pos : Pos} {names : List (Str × NameKind)} {cs : List (Str × Addr)} {code : Value} {qual : Str} {x y : Str} {t u : Tok}
theorem isTuple_le {G G' : Heap} {l : Addr} {xs : Array Value} (h : G.IsTuple l xs) (x : Le G G') : G'.IsTuple l xs := let ⟨o, ho, r⟩ := h; ⟨o, x _ _ ho, r⟩
theorem srcTup {G₀ : Heap} {it l : Addr} {items : Array Value} (hl : G₀.IsTuple l items) : Src w os₀ G₀ it items.size (fun i v => items[i]? = some v) (tupIterP l) where
  next := fun {A n G ow s i Q E} hA hle hi H h => by
    obtain ⟨o, ho, h1, h2⟩ := H.own _ (.head _)
    refine wpAny_pyNext_tuple_item ⟨o, ho, h1, h2⟩ (isTuple_le (isTuple_le hl hle) H.le) (Array.getElem?_eq_getElem hi) fun h' hit hs => h _ _ (Array.getElem?_eq_getElem hi) (H.upd (t := s.toks) hs hit)
  over := fun {A n G ow s Q E} hA hle H h => by
    obtain ⟨o, ho, h1, h2⟩ := H.own _ (.head _)
    exact wpAny_pyNext_tuple_end hA.handled ⟨o, ho, h1, h2⟩ (isTuple_le (isTuple_le hl hle) H.le) (Array.getElem?_eq_none (Nat.le_refl _)) fun h' he => h _ (H.ext (t := s.toks) he)
  again := fun {A n G ow s Q E} hA hle H h => by
    obtain ⟨o, ho, h1, h2⟩ := H.own _ (.head _)
    exact wpAny_pyIter_tupleiter ⟨o, ho, h1, h2⟩ h
theorem iterTup {l : Addr} {items : Array Value} {Q : Value → Shared → Prop} (H : St w os₀ G ow s) (hl : s.heap.IsTuple l items) (h : ∀ it s', St w os₀ G ((it, tupIterP l 0) :: ow) s' → Q (.ref it) s') :
    wpAny (model prg w) A (pyIter (.ref l)) Q E s :=
  wpAny_pyIter_tuple hl (h _ _ (H.push (P := tupIterP l 0) _ rfl ⟨rfl, rfl⟩ s.toks))
theorem ldL {v : Value} {Q : Value → Shared → Prop} (V : EV env L names cs code qual) (H : St w os₀ G ((L, nsP m) :: ow) s) (hv : m x = some v) (h : Q v s)
    (hl : names.lookup x = some .local := by rfl) : wpAny (model prg w) A (loadName env x) Q E s :=
  wpAny_loadName_local V.kind (V.kd hl) (V.locals ▸ H.ns) hv h
theorem iaddS {Q : Value → Shared → Prop} (H : St w os₀ G ow s) (h : ∀ t s', St w os₀ G ow s' → Q (.str (x ++ y) t) s') (hsz : x.length + y.length ≤ sizeLine) : wpAny (model prg w) A (inplaceOp .Add (.str x t) (.str y u)) Q E s := SB.iadd (fun t' k => h _ _ (H.tok _)) hsz
end
section
variable {w : World} {os₀ : OsState} {G : Heap}
noncomputable def joinS (path b : Str) : Str := if Txt.startswith b sl = true then b else if ((path.length : Int) != 0) = false then b else if Txt.endswith path sl = true then path ++ b else path ++ (sl ++ b)
noncomputable def joinF (b1 b2 b3 : Str) : Str := joinS (joinS (joinS sl b1) b2) b3
noncomputable def jp (b1 b2 b3 : Str) : Nat → Str
  | 0 => sl
  | 1 => joinS sl b1
  | 2 => joinS (joinS sl b1) b2
  | _ => joinF b1 b2 b3
theorem joinS_len (p b : Str) : (joinS p b).length ≤ p.length + b.length + 1 := by
  have e : sl.length = 1 := by decide +kernel
  unfold joinS
  split
  · omega
  · split
    · omega
    · split
      · rw [Str.length_append]; omega
      · rw [Str.length_append, Str.length_append, e]; omega
theorem jp_len {b1 b2 b3 : Str} (h1 : b1.length ≤ 20) (h2 : b2.length ≤ 20) (h3 : b3.length ≤ 20) (i : Nat) : (jp b1 b2 b3 i).length ≤ 100 := by
  have e : sl.length = 1 := by decide +kernel
  have q1 := joinS_len sl b1
  have q2 := joinS_len (joinS sl b1) b2
  have q3 := joinS_len (joinS (joinS sl b1) b2) b3
  unfold jp
  split
  · omega
  · omega
  · omega
  · unfold joinF; omega
theorem jp_step {b1 b2 b3 : Str} {t1 t2 t3 : Tok} (h1 : b1.length ≤ 20) (h2 : b2.length ≤ 20) (h3 : b3.length ≤ 20) {i : Nat} {v : Value} (hi : i < 3) (hv : #[Value.str b1 t1, .str b2 t2, .str b3 t3][i]? = some v) :
    ∃ b u, v = .str b u ∧ b.length ≤ 20 ∧ jp b1 b2 b3 (i + 1) = joinS (jp b1 b2 b3 i) b := by
  match i, hi with
  | 0, _ => cases hv; exact ⟨_, _, rfl, h1, rfl⟩
  | 1, _ => cases hv; exact ⟨_, _, rfl, h2, rfl⟩
  | 2, _ => cases hv; exact ⟨_, _, rfl, h3, rfl⟩
theorem join_spec {b1 b2 b3 : Str} {t t1 t2 t3 : Tok} (h1 : b1.length ≤ 20) (h2 : b2.length ≤ 20) (h3 : b3.length ≤ 20) : Spec w os₀ 2 (.ref 131) [.str sl t, .str b1 t1, .str b2 t2, .str b3 t3] G (fun G' v => ∃ t, v = .str (joinF b1 b2 b3) t) := by
  intro A ow s Q E hA H hQ
  refine enterW (os₀ := os₀) [] (fun _ => []) hA (H.topH 131 _ rfl) rfl ⟨_, _, _, _, rfl, H.topH 130 _ rfl, rfl, rfl⟩ rfl rfl rfl rfl rfl (fun _ => rfl) (args := ⟨_, []⟩) ?_
  change wpAny _ _ (newTuple [.str b1 t1, .str b2 t2, .str b3 t3] >>= fun v => pure [(Str.ofString "a", .str sl t), (Str.ofString "p", v)]) _ _ _
  refine wpAny_bind (newTup H fun tp s₁ H => wpAny_pure ?_)
  obtain ⟨o, G₁, ho, hle, hg, H⟩ := H.freeze
  cases ho
  refine ⟨_, _, H, fun env L A₁ A' s₂ V hA H => ?_⟩
  refine bindAll_cons (stL V H fun s₂ H => bindAll_cons (stL V H fun s₂ H => bindAll_nil ⟨⟨_, _, H⟩, ?_⟩))
  dsimp only [List.append_nil] at V
  -- a = fspath(a)
  refine wpAny_execs_cons (wpAny_Assign_Name (callGf V H rfl rfl rfl rfl (spliced_cons (nmL V H rfl (spliced_nil ⟨⟨_, _, H⟩, ?_⟩)))))
  refine fspath_spec A' _ _ _ _ (hA.mono (by omega)) H ?_
  rintro v G₂ s₂ hle2 H ⟨u, rfl⟩
  refine stL V H fun s₃ H => ?_
  dsimp only
  -- sep = _get_sep(a)
  refine wpAny_execs_cons (wpAny_Assign_Name (callGf V H rfl rfl rfl rfl (spliced_cons (nmL V H rfl (spliced_nil ⟨⟨_, _, H⟩, ?_⟩)))))
  refine getsep_spec A' _ _ _ _ (hA.mono (by omega)) H ?_
  rintro v G₃ s₂ hle3 H ⟨u2, rfl⟩
  refine stL V H fun s₃ H => ?_
  dsimp only
  refine wpAny_execs_cons (wpAny_Assign_Name (nmL V H rfl (stL V H fun s₃ H => ?_)))
  dsimp only
  have hT : G₃.IsTuple tp #[.str b1 t1, .str b2 t2, .str b3 t3] := ⟨_, hle3 _ _ (hle2 _ _ hg), rfl, _, rfl⟩
  refine wpAny_execs_cons (wpAny_Try_except (wpAny_execs_cons (wpAny_For (nmL V H rfl (iterTup H (isTuple_le hT H.le) fun it s₄ H => ?_)))))
  refine forS (srcTup hT) hA (fun i G' ow' => ∃ mm, ow' = (L, nsP mm) :: (cellOw (fun _ => none) [] ++ ow) ∧ ∃ t1 t2, mm (Str.ofString "path") = some (.str (jp b1 b2 b3 i) t1) ∧ mm (Str.ofString "sep") = some (.str sl t2)) ⟨_, rfl, _, _, rfl, rfl⟩ H ?_ ?_
  · rintro i v G' ow' s' hi hv ⟨mm, rfl, ta, tb, hm1, hm2⟩ hle' H
    obtain ⟨b, u, rfl, hb, hj⟩ := jp_step h1 h2 h3 hi hv
    refine wpAny_assign_Name (stL V H.swap fun s₂ H => ?_)
    -- b = fspath(b)
    refine wpAny_execs_cons (wpAny_Assign_Name (callGf V H rfl rfl rfl rfl (spliced_cons (nmL V H rfl (spliced_nil ⟨⟨_, _, H⟩, ?_⟩)))))
    refine fspath_spec A' _ _ _ _ (hA.mono (by omega)) H ?_
    rintro v G₅ s₂ hle5 H ⟨u5, rfl⟩
    refine stL V H fun s₃ H => ?_
    dsimp only
    have hl := jp_len h1 h2 h3 i
    generalize jp b1 b2 b3 i = P at hl hm1 hj
    have e1 : sl.length = 1 := by decide +kernel
    refine wpAny_execs_cons (wpAny_mono (Q := fun f s' => f = .next ∧ ∃ t3 t4 mm, St w os₀ G₅ ((L, nsP mm) :: (it, tupIterP tp (i + 1)) :: (cellOw (fun _ => none) [] ++ ow)) s' ∧ mm (Str.ofString "path") = some (.str (joinS P b) t3) ∧ mm (Str.ofString "sep") = some (.str sl t4)) (wpAny_If (isTrue_or (isTrue_plain (Call_method1 rfl rfl rfl (nmL V H rfl (SB.startswith (nmL V H hm2 ⟨_, _, rfl, wpAny_truthy_bool ?_⟩))))))) ?_ fun _ _ e => e)
    · cases hc1 : Txt.startswith b sl with
      | true =>
        refine iteT rfl (iteT rfl ?_)
        refine wpAny_execs_cons (wpAny_Assign_Name (nmL V H rfl (stL V H fun s₄ H => wpAny_execs_nil ⟨rfl, u5, _, _, H, ?_, hm2⟩)))
        unfold joinS; rw [if_pos hc1]; rfl
      | false =>
        refine iteF rfl (isTrue_or (wpAny_isTrue_Not (isTrue_plain (nmL V H hm1 (truthS H (fun s₄ H => ?_) (big (by omega)))))))
        cases hc2 : ((P.length : Int) != 0) with
        | false =>
          refine iteT rfl (iteT rfl ?_)
          refine wpAny_execs_cons (wpAny_Assign_Name (nmL V H rfl (stL V H fun s₄ H => wpAny_execs_nil ⟨rfl, u5, _, _, H, ?_, hm2⟩)))
          unfold joinS; rw [if_neg (by simp [hc1]), if_pos hc2]; rfl
        | true =>
          refine iteF rfl (isTrue_or_nil (iteF rfl ?_))
          refine wpAny_execs_cons (wpAny_If (isTrue_plain (Call_method1 rfl rfl rfl (nmL V H hm1 (SB.endswith (nmL V H hm2 ⟨_, _, rfl, wpAny_truthy_bool ?_⟩))))))
          cases hc3 : Txt.endswith P sl with
          | true =>
            refine iteT rfl ?_
            refine wpAny_execs_cons (wpAny_AugAssign_Name (ldL V H hm1 (nmL V H rfl (iaddS H (fun t9 s₄ H => stL V H fun s₅ H => wpAny_execs_nil (wpAny_execs_nil ⟨rfl, t9, _, _, H, ?_, hm2⟩)) (big (by omega))))))
            unfold joinS; rw [if_neg (by simp [hc1]), if_neg (by simp [hc2]), if_pos hc3]; rfl
          | false =>
            refine iteF rfl ?_
            refine wpAny_execs_cons (wpAny_AugAssign_Name (ldL V H hm1 (wpAny_BinOp (nmL V H hm2 (nmL V H rfl (addS H (fun t9 s₄ H => iaddS H (fun t9 s₄ H => stL V H fun s₅ H => wpAny_execs_nil (wpAny_execs_nil ⟨rfl, t9, _, _, H, ?_, hm2⟩)) (big (by rw [Str.length_append, e1]; omega))) (big (by omega))))))))
            unfold joinS; rw [if_neg (by simp [hc1]), if_neg (by simp [hc2]), if_neg (by simp [hc3])]; rfl
    · rintro f s' ⟨rfl, t3, t4, mm', H, hp1, hp2⟩
      exact wpAny_execs_nil ⟨.inl rfl, _, _, ⟨_, rfl, _, _, by rw [hj]; exact hp1, hp2⟩, hle5, H.swap⟩
  · rintro G' ow' s' ⟨mm, rfl, ta, tb, hm1, hm2⟩ hle' H
    dsimp only
    refine wpAny_execs_nil (wpAny_execs_nil (wpAny_execs_cons (wpAny_Return_some (nmL V H hm1 ?_))))
    exact hQ _ G' _ (hle.trans (hle2.trans (hle3.trans hle'))) H.drop ⟨_, rfl⟩
end
end Mine
end

section -- Fw15
open PySem PySem.W PyProof.Rows PySem.W.X PySem.Calls
set_option linter.unusedVariables false
set_option maxRecDepth 100000
set_option maxHeartbeats 8000000
namespace Mine
noncomputable def lsP (xs : Array Value) (o : Obj) : Prop := ∃ n, o = { cls := .type "list", dict := none, data := .seq xs n, slots := #[] }
section
variable {w : World} {os₀ : OsState} {G : Heap} {ow : Ow} {s : Shared} {A : Around} {n : Nat} {env : Env} {E : Value → Shared → Prop} {L : Addr} {m : Str → Option Value} {pos : Pos} {names : List (Str × NameKind)} {cs : List (Str × Addr)} {code : Value} {qual : Str} {x y : Str} {t u : Tok} {l : Addr} {xs : Array Value}
theorem St.weak {a : Addr} {P P' : Obj → Prop} (H : St w os₀ G ((a, P) :: ow) s) (h : ∀ o, P o → P' o) : St w os₀ G ((a, P') :: ow) s := by
  refine ⟨H.top, H.le, fun p hp => ?_, fun p hp => ?_, H.nd, H.gens, H.os⟩
  · rcases List.mem_cons.mp hp with rfl | hp
    · obtain ⟨o, ho, e⟩ := H.own _ (.head _); exact ⟨o, ho, h o e⟩
    · exact H.own p (.tail _ hp)
  · rcases List.mem_cons.mp hp with rfl | hp
    · exact H.off (a, P) (.head _)
    · exact H.off p (.tail _ hp)
theorem St.asL {vs : List Value} (H : St w os₀ G ((l, objP (lstO vs)) :: ow) s) : St w os₀ G ((l, lsP vs.toArray) :: ow) s := H.weak fun o e => ⟨_, e⟩
theorem St.isL (H : St w os₀ G ow s) (hm : (l, lsP xs) ∈ ow) : s.heap.IsList l xs := by
  obtain ⟨o, ho, k, rfl⟩ := H.own _ hm
  exact ⟨_, ho, rfl, _, rfl⟩
theorem sameBut_upd {h : Heap} {a : Addr} {f : Obj → Obj} : Heap.SameBut a h (h.update a f) := by
  refine ⟨?_, fun b hb => Heap.get?_update_ne _ _ _ _ hb⟩
  simp [Heap.update]
theorem appM {c : Sem Value} {Q : Value → Shared → Prop} (H : St w os₀ G ow s) (hm : (l, lsP xs) ∈ ow)
    (h : wpAny (model prg w) A c (fun v s₁ => ∃ G' ow' xs', St w os₀ G' ((l, lsP xs') :: ow') s₁ ∧ xs'.size ≤ 1000 ∧ ∀ s', St w os₀ G' ((l, lsP (xs'.push v)) :: ow') s' → Q .none s') E s) :
    MethodOnS prg w A E "append" (.ref l) pos [(false, c)] Q s := by
  obtain ⟨o, ho, k, rfl⟩ := H.own _ hm
  refine ⟨"list", _, F.plainAttrs_list, F.slot_list_append, F.type_list_append, ⟨_, ho, rfl⟩, (fun a e => by cases e; exact ⟨_, ho, rfl⟩), PySem.P.append_list (wpAny_mono h (fun v s₁ h₁ => ?_) fun _ _ e => e)⟩
  obtain ⟨G', ow', xs', H', hsz, hq⟩ := h₁
  obtain ⟨o', ho', k', rfl⟩ := H'.own _ (.head _)
  exact ⟨xs', k', by rw [sizeLine_eq]; omega, ho', hq _ (H'.upd (t := s₁.toks) sameBut_upd ⟨_, IsL.update ho' _, _, rfl⟩)⟩
theorem popM {v : Value} {Q : Value → Shared → Prop} (H : St w os₀ G ((l, lsP xs) :: ow) s) (hv : xs[xs.size - 1]? = some v) (hsz : xs.size ≤ 1000)
    (h : ∀ s', St w os₀ G ((l, lsP (xs.eraseIdxIfInBounds (xs.size - 1))) :: ow) s' → Q v s') :
    MethodOnS prg w A E "pop" (.ref l) pos [] Q s := by
  obtain ⟨o, ho, k, rfl⟩ := H.own _ (.head _)
  refine ⟨"list", _, F.plainAttrs_list, F.slot_list_pop, F.type_list_pop, ⟨_, ho, rfl⟩, (fun a e => by cases e; exact ⟨_, ho, rfl⟩), PySem.P.pop_list ho hv ?_ (by rw [sizeLine_eq]; omega)⟩
  exact h _ (H.upd (t := s.toks) sameBut_upd ⟨_, IsL.update ho _, _, rfl⟩)
theorem truthL {Q : Bool → Shared → Prop} (H : St w os₀ G ow s) (hl : s.heap.IsList l xs) (hsz : xs.size ≤ 1000) (h : ∀ s', St w os₀ G ow s' → Q (!xs.isEmpty) s') : wpAny (model prg w) A (truthy (.ref l)) Q E s :=
  wpAny_truthy_list hl (by omega) (h _ (H.tok _))
theorem lenL {Q : Value → Shared → Prop} (H : St w os₀ G ow s) (hl : s.heap.IsList l xs) (hsz : xs.size ≤ 1000) (h : ∀ t s', St w os₀ G ow s' → Q (.int xs.size t) s') : wpAny (model prg w) A (call (.builtin "len") [.ref l]) Q E s :=
  len_list hl (by omega) (h _ _ (H.tok _))
theorem pushL {items : Array Value} (H : St w os₀ G ow s) (k : Nat) : St w os₀ G ((s.heap.objs.size, lsP items) :: ow) { s with heap := s.heap.push { cls := .type "list", data := .seq items }, toks := k } := H.push _ rfl ⟨_, rfl⟩ k
theorem splM {a : Sem Value} {Q : Value → Shared → Prop} (h : wpAny (model prg w) A a (fun v s₁ => ∃ y u G' ow', v = .str y u ∧ (y.length == 0) = false ∧ St w os₀ G' ow' s₁ ∧ (Builtin.Str.partsBetween x (Builtin.Str.occurrences x y 0 x.length (x.length + 1)) y.length).length ≤ sizeLine ∧
      ∀ D l s', l.map (·.1) = Txt.split x y → St w os₀ G' ((D, lsP (strValues l).toArray) :: ow') s' → Q (.ref D) s') E s) (hx : x.length ≤ sizeLine) :
    MethodOnS prg w A E "split" (.str x t) pos [(false, a)] Q s := by
  refine ⟨"str", _, F.plainAttrs_str, F.slot_str_split, F.type_str_split, typeIs_str _ _ _, (fun _ e => nomatch e),
    method1_meets F.slot_str_split F.entry_str_split (wpAny_mono h (fun v s₁ h₁ => ?_) fun _ _ e => e)⟩
  obtain ⟨y, u, G', ow', rfl, hy, hI, hn, hq⟩ := h₁
  refine ⟨typeIs_str _ _ _, F.args_str_split_2 _ _, ?_⟩
  cases h1 : (decide (x.length < y.length) || decide (Builtin.Str.strKind x < Builtin.Str.strKind y))
  · cases hf : (Builtin.Str.occurrences x y 0 x.length (x.length + 1)).isEmpty
    · refine ⟨_, meets_str_split_sep x y t u h1 hy hf hx hn, ?_⟩
      show wants Q E _ { s₁ with toks := _, heap := s₁.heap.push { cls := .type "list", data := .seq (strsFrom s₁.toks (Builtin.Str.partsBetween x (Builtin.Str.occurrences x y 0 x.length (x.length + 1)) y.length)).toArray } }
      rw [strsFrom_eq]
      exact hq _ (numbered s₁.toks _) _ ((numbered_texts _ _).trans ((if_neg (ne_true_of_eq_false h1)).trans (if_neg (ne_true_of_eq_false hf))).symm) (pushL hI _)
    · exact ⟨_, meets_str_split_not_found x y t u h1 hy hf, hq _ [(x, t)] _ ((if_neg (ne_true_of_eq_false h1)).trans (if_pos hf)).symm (pushL hI _)⟩
  · exact ⟨_, meets_str_split_cannot_occur x y t u h1, hq _ [(x, t)] _ (if_pos h1).symm (pushL hI _)⟩
end
end Mine
end

section -- Fw16
open PySem PySem.W PyProof.Rows PySem.W.X PySem.Calls
set_option linter.unusedVariables false
set_option maxRecDepth 100000
set_option maxHeartbeats 2000000
namespace Mine
section
variable {w : World} {os₀ : OsState} {G : Heap} {ow : Ow} {s : Shared} {A : Around} {n : Nat} {env : Env} {E : Value → Shared → Prop} {L : Addr} {m : Str → Option Value} {pos : Pos} {names : List (Str × NameKind)} {cs : List (Str × Addr)} {code : Value} {qual : Str} {x y : Str} {t u : Tok} {l : Addr} {xs : Array Value}
/-- x[-1] of a list that isn't empty -/
theorem lstLast {value : Expr} {k : Nat} {p1 p2 : Pos} {Q : Value → Shared → Prop}
    (h : wpAny (model prg w) A (eval value env) (fun o s₁ => ∃ l xs v G' ow', o = .ref l ∧ St w os₀ G' ow' s₁ ∧ (∀ s', St w os₀ G' ow' s' → s'.heap.IsList l xs) ∧ 0 < xs.size ∧ xs.size ≤ 1000 ∧ xs[xs.size - 1]? = some v ∧ ∀ s', St w os₀ G' ow' s' → Q v s') E s)
    (ht : ∀ o r, letTemporaryGo value o r = pure () := by intro _ _; rfl) :
    wpAny (model prg w) A (eval (.Subscript value (.UnaryOp .USub (.Constant (.int 1) k p1) p2) pos) env) Q E s := by
  refine Subscript_UnaryOp (wpAny_mono h (fun o s₁ ⟨l, xs, v, G', ow', e, H, hl, h0, hz, hv, hq⟩ => ?_) fun _ _ e => e) ht
  subst e
  refine wpAny_UnaryOp (cInt H fun t s₂ H2 => PySem.P.neg_int ⟨"list", _, slot_list_getitem.lookup, (hl _ (H2.tok _)).typeIs, ?_⟩)
  refine wpAny_getItem_list_neg (hl _ (H2.tok _)) (by decide) (by omega) (by decide) ?_ (hq _ (H2.tok _))
  rw [show (-1 + (xs.size : Int)).toNat = xs.size - 1 by omega]
  exact hv
theorem eqS {Q : Value → Shared → Prop} (h : Q (.bool (x.cps.toList == y.cps.toList)) s) : wpAny (model prg w) A (compareOp .Eq (.str x t) (.str y u)) Q E s := PySem.P.eq_str h
end
end Mine
end

section -- S5
open PySem PySem.W PyProof.Rows PySem.W.X PySem.Calls
set_option linter.unusedVariables false
set_option maxRecDepth 100000
set_option maxHeartbeats 8000000
namespace Mine
/-- a frozen list of texts -/
noncomputable def RowAt (G : Heap) (a : Addr) (r : List Str) : Prop := ∃ l : List (Str × Tok), l.map (·.1) = r ∧ G.IsList a (strValues l).toArray
theorem RowAt.le {G G' : Heap} {a : Addr} {r : List Str} (h : RowAt G a r) (x : Le G G') : RowAt G' a r := let ⟨l, h1, h2⟩ := h; ⟨l, h1, isList_le h2 x⟩
noncomputable def lastS (r : List Str) : Str := r.getLast?.getD Str.empty
noncomputable def cmpL (a b : Str) : Int := 5 * (if decide (b.cps.toList < a.cps.toList) = true then 1 else 0) - 3 * (if decide (a.cps.toList < b.cps.toList) = true then 1 else 0)
noncomputable def cmpF (r1 r2 : List Str) : Int := cmpL (Txt.lower (lastS r1)) (Txt.lower (lastS r2))
section
variable {w : World} {os₀ : OsState} {G : Heap}
theorem compared_spec {a b : Addr} {r1 r2 : List Str} (h1 : RowAt G a r1) (h2 : RowAt G b r2) (n1 : 0 < r1.length) (n2 : 0 < r2.length) (z1 : r1.length ≤ 1000) (z2 : r2.length ≤ 1000) (f1 : (lastS r1).length ≤ 1000) (f2 : (lastS r2).length ≤ 1000) :
    Spec w os₀ 1 (.ref 183) [.ref a, .ref b] G (fun _ v => ∃ t, v = .int (cmpF r1 r2) t) := by
  intro A ow s Q E hA H hQ
  obtain ⟨l1, rfl, hl1⟩ := h1
  obtain ⟨l2, rfl, hl2⟩ := h2
  rcases List.eq_nil_or_concat l1 with rfl | ⟨l1, ⟨p1, t1⟩, rfl⟩
  · simp at n1
  rcases List.eq_nil_or_concat l2 with rfl | ⟨l2, ⟨p2, t2⟩, rfl⟩
  · simp at n2
  simp only [List.concat_eq_append] at *
  have e1 : lastS ((l1 ++ [(p1, t1)]).map (·.1)) = p1 := by simp [lastS]
  have e2 : lastS ((l2 ++ [(p2, t2)]).map (·.1)) = p2 := by simp [lastS]
  rw [e1] at f1
  rw [e2] at f2
  simp only [List.length_map] at z1 z2
  refine enter [(Str.ofString "one", .ref a), (Str.ofString "two", .ref b)] (fun y => if y = Str.ofString "two" then some (.ref b) else if y = Str.ofString "one" then some (.ref a) else none) (fun _ => none) (fun _ => []) hA H rfl rfl (fun h X => ⟨_, _, _, _, rfl, X 182 _ rfl, rfl, rfl⟩) rfl rfl rfl rfl rfl rfl (fun _ => rfl) ?_ rfl rfl (fun env L A' s₁ V hA H => ?_) .nil (fun _ => rfl)
  · simp only [List.mem_cons, List.not_mem_nil, or_false, forall_eq_or_imp, forall_eq]; exact ⟨.inl rfl, .inl rfl⟩
  · dsimp only at V
    refine wpAny_execs_cons (Assign_Tuple_swapped (names := [Str.ofString "first", Str.ofString "second"]) (Tuple_ (spliced_cons (Call_method0 rfl rfl (lstLast (nmL V H rfl ⟨a, _, .str p1 t1, _, _, rfl, H, fun s' H => isList_le hl1 H.le, by simp [strValues], by simpa [strValues] using z1, by simp [strValues], fun s₄ H => SBL.lower (by omega) fun q1 => spliced_cons (Call_method0 rfl rfl (lstLast (nmL V (H.tok _) rfl ⟨b, _, .str p2 t2, _, _, rfl, H.tok _, fun s' H => isList_le hl2 H.le, by simp [strValues], by simpa [strValues] using z2, by simp [strValues], fun s₄ H => SBL.lower (by omega) fun q2 => spliced_nil (newTup (H.tok _) fun a s₆ H => ?_)⟩)))⟩))))) rfl (swapped2 V rfl rfl rfl rfl nofun nofun rfl rfl))
    refine unpT (k := 2) hA H.drop (IsTup.head H) rfl fun s₇ H => ?_
    refine assignInOrder_cons (stL' V H fun s₈ H => assignInOrder_cons (stL' V H fun s₉ H => assignInOrder_nil ?_))
    dsimp only
    refine wpAny_execs_cons (wpAny_Return_some (wpAny_BinOp (wpAny_BinOp (cInt H fun _ s H => wpAny_Compare1 (nmL V H rfl (nmL V H rfl (PySem.P.gt_str (PySem.IntBool.mul_int_bool ?_))))))))
    have H := H.tok (s.toks + 1)
    refine wpAny_BinOp (cInt H fun _ s H => wpAny_Compare1 (nmL V H rfl (nmL V H rfl (PySem.P.lt_str (PySem.IntBool.mul_int_bool ?_)))))
    have H := H.tok (s.toks + 1)
    refine PySem.P.sub_int ?_
    have H := H.tok (s.toks + 1 + 1)
    refine hQ _ G _ (Le.refl _) H.drop ?_
    simp only [cmpF, e1, e2]
    exact ⟨_, rfl⟩
end
end Mine
end

section -- Fw17
open PySem PySem.W PyProof.Rows PySem.W.X PySem.Calls
set_option linter.unusedVariables false
set_option maxRecDepth 100000
set_option maxHeartbeats 2000000
namespace Mine
section
variable {w : World} {os₀ : OsState} {G : Heap} {ow : Ow} {s : Shared} {A : Around} {n : Nat} {env : Env} {E : Value → Shared → Prop} {L : Addr} {m : Str → Option Value} {pos : Pos} {names : List (Str × NameKind)} {cs : List (Str × Addr)} {code : Value} {qual : Str} {x y : Str} {t u : Tok} {l : Addr} {xs : Array Value}
/-- a slice of a list makes a new list -/
theorem slL {value : Expr} {lower upper : Option Expr} {p : Pos} {Q : Value → Shared → Prop}
    (h : wpAny (model prg w) A (eval value env) (fun o s₁ => wpAny (model prg w) A (evalPart lower env) (fun vl s₂ => wpAny (model prg w) A (evalPart upper env) (fun vu s₃ => ∃ l items lo hi G' ow', o = .ref l ∧ St w os₀ G' ow' s₃ ∧ s₃.heap.IsList l items ∧ items.size ≤ 1000 ∧ IsPart vl lo ∧ IsPart vu hi ∧
      ∀ D s', St w os₀ G' ((D, lsP (slicePick items lo hi none)) :: ow') s' → Q (.ref D) s') E s₂) E s₁) E s)
    (ht : ∀ o r, letTemporaryGo value o r = pure () := by intro _ _; rfl) :
    wpAny (model prg w) A (eval (.Subscript value (.Slice lower upper none p) pos) env) Q E s := by
  refine wpAny_Subscript_list_slice (wpAny_mono h (fun o s₁ h₁ => wpAny_mono h₁ (fun vl s₂ h₂ => wpAny_mono h₂ (fun vu s₃ h₃ => ?_) fun _ _ e => e) fun _ _ e => e) fun _ _ e => e) ht
  obtain ⟨l, items, lo, hi, G', ow', rfl, H, hl, hsz, pl, pu, hQ⟩ := h₃
  refine ⟨l, items, lo, hi, rfl, hl, big hsz, pl, pu, ?_⟩
  have H1 := H.push (P := fun _ => True) { cls := .type "slice", data := .fields #[vl, vu, .none] } rfl trivial s₃.toks
  have H2 := pushL (items := slicePick items lo hi none) H1 s₃.toks
  have e := Heap.size_push s₃.heap { cls := .type "slice", data := .fields #[vl, vu, .none] }
  dsimp only at H2
  rw [e] at H2
  exact hQ _ _ H2.swap.drop
theorem partN {Q : Value → Shared → Prop} (h : Q .none s) : wpAny (model prg w) A (evalPart none env) Q E s := wpAny_evalPart_none h
theorem partS {e : Expr} {Q : Value → Shared → Prop} (h : wpAny (model prg w) A (eval e env) Q E s) : wpAny (model prg w) A (evalPart (some e) env) Q E s := by
  exact h
/-- list + list -/
theorem addL {l b : Addr} {vs ws : List Value} {Q : Value → Shared → Prop} (H : St w os₀ G ow s) (hl : s.heap.IsList l vs.toArray) (hb : s.heap.IsList b ws.toArray) (h : ∀ D s', St w os₀ G ((D, lsP (vs ++ ws).toArray) :: ow) s' → Q (.ref D) s') (hsz : vs.length + ws.length ≤ 1000) :
    wpAny (model prg w) A (binaryOp .Add (.ref l) (.ref b)) Q E s := by
  obtain ⟨⟨cls, dd, data, sl⟩, ho, hc, n, hd⟩ := id hl
  obtain ⟨⟨cls2, dd2, data2, sl2⟩, ho2, hc2, n2, hd2⟩ := id hb
  simp only at hc hd hc2 hd2
  subst hc hd hc2 hd2
  have e : vs.toArray ++ ws.toArray = (vs ++ ws).toArray := by simp
  refine concat_meets ⟨_, ho, rfl⟩ ⟨_, ho2, rfl⟩ noFill_list_add seq_list_add PySem.F.slot_list_add PySem.F.entry_list_add (PySem.F.args_list_add_2 _ _) (list_addW l b vs.toArray ws.toArray n n2 dd dd2 sl sl2 (by simpa using big hsz)) ⟨ho, ho2, ?_⟩
  rw [e]
  exact h _ _ (pushL (items := (vs ++ ws).toArray) H s.toks)
end
noncomputable def rowD (r : List Str) : PyData := .list (r.map .str)
theorem readsAll_strs (G : Heap) : ∀ l : List (Str × Tok), ReadsAll G (strValues l) ((l.map (·.1)).map .str) []
  | [] => .nil
  | (x, t) :: r => .cons (.str x t) (readsAll_strs G r)
theorem RowAt.reads {G : Heap} {a : Addr} {r : List Str} (h : RowAt G a r) : Reads G (.ref a) (rowD r) [a] := by
  obtain ⟨l, rfl, o, ho, hc, n, hd⟩ := h
  exact .list ho hc hd (by rw [List.toList_toArray]; exact readsAll_strs G l)
/-- a frozen list of rows -/
inductive RowsL (G : Heap) : List Value → List (List Str) → Prop
  | nil : RowsL G [] []
  | cons {a r vs rs} : RowAt G a r → RowsL G vs rs → RowsL G (.ref a :: vs) (r :: rs)
noncomputable def RowsAt (G : Heap) (a : Addr) (rs : List (List Str)) : Prop := ∃ vs, G.IsList a vs.toArray ∧ RowsL G vs rs
theorem RowsL.le {G G' : Heap} (x : Le G G') : ∀ {vs rs}, RowsL G vs rs → RowsL G' vs rs
  | _, _, .nil => .nil
  | _, _, .cons h r => .cons (h.le x) (r.le x)
theorem RowsAt.le {G G' : Heap} {a : Addr} {rs : List (List Str)} (h : RowsAt G a rs) (x : Le G G') : RowsAt G' a rs := let ⟨vs, h1, h2⟩ := h; ⟨vs, isList_le h1 x, h2.le x⟩
theorem RowsL.length {G : Heap} : ∀ {vs rs}, RowsL G vs rs → vs.length = rs.length
  | _, _, .nil => rfl
  | _, _, .cons _ r => by simp [r.length]
theorem RowsL.get {G : Heap} : ∀ {vs rs}, RowsL G vs rs → ∀ (i : Nat) v, vs[i]? = some v → ∃ a r, v = Value.ref a ∧ rs[i]? = some r ∧ RowAt G a r
  | _, _, .nil, i, v, e => by simp at e
  | _, _, .cons (a := a) (r := r) h t, 0, v, e => by cases e; exact ⟨a, r, rfl, rfl, h⟩
  | _, _, .cons h t, i + 1, v, e => t.get i v (by simpa using e)
theorem RowsL.append {G : Heap} : ∀ {vs rs}, RowsL G vs rs → ∀ {vs' rs'}, RowsL G vs' rs' → RowsL G (vs ++ vs') (rs ++ rs')
  | _, _, .nil, _, _, h => h
  | _, _, .cons h t, _, _, h' => .cons h (t.append h')
theorem RowsL.reads {G : Heap} : ∀ {vs rs}, RowsL G vs rs → ∃ as, ReadsAll G vs (rs.map rowD) as
  | _, _, .nil => ⟨_, .nil⟩
  | _, _, .cons h t => let ⟨as, q⟩ := t.reads; ⟨_, .cons h.reads q⟩
theorem RowsAt.reads {G : Heap} {a : Addr} {rs : List (List Str)} (h : RowsAt G a rs) : ∃ as, Reads G (.ref a) (.list (rs.map rowD)) as := by
  obtain ⟨vs, ⟨o, ho, hc, n, hd⟩, h2⟩ := h
  obtain ⟨as, q⟩ := h2.reads
  exact ⟨_, .list ho hc hd (by rw [List.toList_toArray]; exact q)⟩
end Mine
end

section -- S4
open PySem PySem.W PyProof.Rows PySem.W.X PySem.Calls
set_option linter.unusedVariables false
set_option maxRecDepth 100000
set_option maxHeartbeats 8000000
namespace Mine
noncomputable def dt : Str := Str.ofString "."
noncomputable def dd : Str := Str.ofString ".."
/-- one turn of normpath's loop -/
noncomputable def npS (nc : List Str) (c : Str) : List Str :=
  if ((c.length : Int) != 0) = false then nc else if (c.cps.toList == dt.cps.toList) = true then nc
  else if (c.cps.toList != dd.cps.toList) = true then nc ++ [c]
  else match nc.getLast? with
    | none => nc
    | some z => if (z.cps.toList == dd.cps.toList) = true then nc ++ [c] else nc.dropLast
noncomputable def npF (p : Str) : Str := sl ++ Txt.join sl ((Txt.split (Txt.slice p (some 1) none) sl).foldl npS [])
section
variable {w : World} {os₀ : OsState} {G : Heap} {ow : Ow} {s : Shared} {A : Around} {n : Nat} {env : Env} {E : Value → Shared → Prop} {L : Addr} {m : Str → Option Value} {pos : Pos} {names : List (Str × NameKind)} {cs : List (Str × Addr)} {code : Value} {qual : Str} {x y : Str} {t u : Tok} {l : Addr} {xs : Array Value}
theorem EV.inter (V : EV env L names cs code qual) : interactive env = false := by
  unfold interactive; rw [V.kind]; rfl
theorem assT {elts : List Expr} {k : Nat} {a : Addr} {vs : List Value} {Q : Unit → Shared → Prop} (hA : AOk n A) (H : St w os₀ G ow s) (ht : s.heap.IsTuple a vs.toArray) (hn : (assignEach elts env).length = vs.length) (hstar : (assignEach elts env).findIdx? (·.1) = none)
    (h : ∀ s', St w os₀ G ow s' → wpAny (model prg w) A (assignInOrder ((assignEach elts env).map (·.2)) vs) Q E s') : wpAny (model prg w) A (assign (.Tuple elts k pos) env (.ref a)) Q E s :=
  wpAny_assign_Tuple hA.handled ht (by simpa using hn) hstar fun h' he => by simpa using h _ (H.keep (t := s.toks) (extLe he))
end
theorem npS_mem {nc : List Str} {c c' : Str} (h : c' ∈ npS nc c) : c' ∈ nc ∨ c' = c := by
  unfold npS at h
  split at h
  · exact .inl h
  · split at h
    · exact .inl h
    · split at h
      · simpa using h
      · split at h
        · exact .inl h
        · split at h
          · simpa using h
          · exact .inl ((List.dropLast_sublist _).subset h)
theorem npS_fold : ∀ (l nc : List Str) (c : Str), c ∈ l.foldl npS nc → c ∈ nc ∨ c ∈ l
  | [], nc, c, h => .inl h
  | x :: l, nc, c, h => by
    rcases npS_fold l (npS nc x) c h with h | h
    · rcases npS_mem h with h | h
      · exact .inl h
      · exact .inr (by rw [h]; exact .head _)
    · exact .inr (.tail _ h)
theorem joinOk_of {texts : List Str} (h : ∀ c ∈ texts, c.length ≤ 100) (hn : texts.length ≤ 1000) : JoinOk sl texts = true ∧ (Txt.join sl texts).length ≤ 101000 := by
  have e : sl.length = 1 := by decide +kernel
  have hs : ∀ l : List Str, (∀ c ∈ l, c.length ≤ 100) → (l.map (·.length)).sum ≤ l.length * 100 := by
    intro l
    induction l with
    | nil => intro _; simp
    | cons x r ih =>
      intro h
      have h1 := ih fun c hc => h c (.tail _ hc)
      have h2 := h x (.head _)
      simp only [List.map_cons, List.sum_cons, List.length_cons]
      omega
  have h3 := hs texts h
  refine ⟨?_, ?_⟩
  · unfold JoinOk
    rw [Bool.not_eq_true']
    unfold PySem.Builtin.Str.tooLong
    rw [StrLaws.joinTotal, e, sizeLine_eq]
    simp only [decide_eq_false_iff_not]
    omega
  · have h4 := StrLaws.join_length_le sl texts
    rw [e] at h4
    show (PySem.Builtin.Str.glued sl texts).length ≤ _
    rw [StrLaws.glued_eq_join]
    omega
section
variable {w : World} {os₀ : OsState} {G : Heap}
theorem normpath_spec {p : Str} {t : Tok} (hp : p.length ≤ 1000) (h1 : ((Txt.slice p none (some 1)).cps.toList != sl.cps.toList) = false) (h2 : ((Txt.slice p (some 1) (some 2)).cps.toList != sl.cps.toList) = true)
    (h3 : (Txt.split (Txt.slice p (some 1) none) sl).length ≤ 1000) (h4 : ∀ c ∈ Txt.split (Txt.slice p (some 1) none) sl, c.length ≤ 100)
    (h5 : (Builtin.Str.partsBetween (Txt.slice p (some 1) none) (Builtin.Str.occurrences (Txt.slice p (some 1) none) sl 0 (Txt.slice p (some 1) none).length ((Txt.slice p (some 1) none).length + 1)) sl.length).length ≤ 1000) :
    Spec w os₀ 3 (.ref 152) [.str p t] G (fun G' v => ∃ t, v = .str (npF p) t) := by
  intro A ow s Q E hA H hQ
  refine enter [(Str.ofString "path", .str p t)] (fun y => if y = Str.ofString "path" then some (.str p t) else none) (fun _ => none) (fun _ => []) hA H rfl rfl (fun h X => ⟨_, _, _, _, rfl, X 151 _ rfl, rfl, rfl⟩) rfl rfl rfl rfl rfl rfl (fun _ => rfl) ?_ rfl rfl (fun env L A' s₁ V hA H => ?_) .nil (fun _ => rfl)
  · simp only [List.mem_singleton, forall_eq]; exact .inl rfl
  · dsimp only at V
    -- path = fspath(path)
    refine wpAny_execs_cons (wpAny_Assign_Name (callGf V H rfl rfl rfl rfl (spliced_cons (nmL V H rfl (spliced_nil ⟨⟨_, _, H⟩, ?_⟩)))))
    refine fspath_spec A' _ _ _ _ (hA.mono (by omega)) H ?_
    rintro v G₁ s₂ hle H ⟨u, rfl⟩
    refine stL V H fun s₃ H => ?_
    dsimp only
    -- if isinstance(path, bytes)
    refine wpAny_execs_cons (wpAny_If (isTrue_plain (callB V H rfl rfl rfl rfl (spliced_cons (nmL V H rfl (spliced_cons (nmB V H rfl rfl (spliced_nil (isBytes hA H fun s₄ H => wpAny_truthy_bool ?_)))))))))
    refine iteF rfl ?_
    refine wpAny_execs_cons (wpAny_Assign_Name (cStr H fun _ s₅ H => stL V H fun s₆ H => ?_))
    dsimp only
    refine wpAny_execs_cons (wpAny_Assign_Name (cStr H fun _ s₅ H => stL V H fun s₆ H => ?_))
    dsimp only
    refine wpAny_execs_cons (wpAny_Assign_Name (cStr H fun _ s₅ H => stL V H fun s₆ H => wpAny_execs_nil ?_))
    dsimp only
    -- if not path
    have hne : ((p.length : Int) != 0) = true := by
      cases hh : ((p.length : Int) != 0) with
      | true => rfl
      | false =>
        exfalso
        have e0 : p.length = 0 := by simpa using hh
        have := Txt.slice_le p none (some 1)
        have e1 : (Txt.slice p none (some 1)).length = 0 := by omega
        have e2 : (Txt.slice p none (some 1)).cps.toList = sl.cps.toList := by simpa using h1
        have e3 : (Txt.slice p none (some 1)).cps.toList.length = 0 := by simpa [Str.length] using e1
        rw [e2] at e3
        exact absurd e3 (by decide +kernel)
    refine wpAny_execs_cons (wpAny_If (wpAny_isTrue_Not (isTrue_plain (nmL V H rfl (truthS H (fun s₇ H => ?_) (big hp))))))
    refine iteF (by rw [hne]; rfl) (wpAny_execs_nil ?_)
    dsimp only
    -- _, initial_slashes, path = splitroot(path)
    refine wpAny_execs_cons (Assign_Tuple (callGf V H rfl rfl rfl rfl (spliced_cons (nmL V H rfl (spliced_nil ⟨⟨_, _, H⟩, ?_⟩)))))
    refine splitroot_spec hp h1 h2 A' _ _ _ _ (hA.mono (by omega)) H ?_
    rintro v G₂ s₂ hle2 H ⟨a, ta, tb, tc, o, rfl, ho, rfl⟩
    refine assT hA H ⟨_, H.le _ _ ho, rfl, _, rfl⟩ rfl rfl fun s₃ H => ?_
    refine assignInOrder_cons (wpAny_assign_Name (stL V H fun s₄ H => assignInOrder_cons (wpAny_assign_Name (stL V H fun s₄ H => assignInOrder_cons (wpAny_assign_Name (stL V H fun s₄ H => assignInOrder_nil ?_))))))
    dsimp only
    have hsl : (Txt.slice p (some 1) none).length ≤ 1000 := Nat.le_trans (Txt.slice_le _ _ _) hp
    generalize hrest : Txt.slice p (some 1) none = R at H h3 h4 h5 hsl
    -- comps = path.split(sep)
    refine wpAny_execs_cons (wpAny_Assign_Name (Call_method1 rfl rfl rfl (nmL V H rfl (splM (nmL V H rfl ⟨_, _, _, _, rfl, by decide +kernel, H, ?_, fun D l s₅ hl H => ?_⟩) (big hsl)))))
    · exact big h5
    obtain ⟨o, G₃, ⟨k, ho⟩, hle3, hg, H⟩ := H.freeze
    have hD : G₃.IsList D (strValues l).toArray := ⟨_, hg, by rw [ho], _, by rw [ho]⟩
    refine stL V H fun s₆ H => ?_
    dsimp only
    -- new_comps = []
    refine wpAny_execs_cons (wpAny_Assign_Name (List_ (spliced_nil (newLst H fun nc s₇ H => stL V H.swap fun s₈ H => ?_))))
    dsimp only
    have H := (H.swap.asL).swap
    refine wpAny_execs_cons (wpAny_For (nmL V H rfl (iterList H (isList_le hD H.le) fun it s₉ H => ?_)))
    have hl : l.map (·.1) = Txt.split R sl := hl
    have hlen : l.length ≤ 1000 := by rw [← hl, List.length_map] at h3; exact h3
    refine forS (srcList hD) hA (fun i G' ow' => ∃ mm l', ow' = (L, nsP mm) :: (nc, lsP (strValues l').toArray) :: (cellOw (fun _ => none) [] ++ ow) ∧ l'.length ≤ i ∧ l'.map (·.1) = ((l.map (·.1)).take i).foldl npS [] ∧ ∃ t1 t2 t3 t4,
      mm (Str.ofString "sep") = some (.str sl t1) ∧ mm (Str.ofString "dot") = some (.str dt t2) ∧ mm (Str.ofString "dotdot") = some (.str dd t3) ∧ mm (Str.ofString "initial_slashes") = some (.str sl t4) ∧ mm (Str.ofString "new_comps") = some (.ref nc)) ⟨_, [], rfl, Nat.le_refl _, rfl, _, _, _, _, rfl, rfl, rfl, rfl, rfl⟩ H ?_ ?_
    · rintro i v G' ow' s' hi hv ⟨mm, l', rfl, hl', hf, t1, t2, t3, t4, hm1, hm2, hm3, hm4, hm5⟩ hle' H
      obtain ⟨c, tc, hc, rfl⟩ : ∃ c tc, l[i]? = some (c, tc) ∧ v = .str c tc := by
        simp only [strValues, List.getElem?_toArray, List.getElem?_map, Option.map_eq_some_iff] at hv
        obtain ⟨⟨c, tc⟩, hc, rfl⟩ := hv
        exact ⟨c, tc, hc, rfl⟩
      have hstep : ((l.map (·.1)).take (i + 1)).foldl npS [] = npS (l'.map (·.1)) c := by
        rw [List.take_add_one, List.foldl_append, ← hf]; simp [hc]
      have hi' : i < l.length := by simpa [strValues] using hi
      have hcl : c.length ≤ 100 := h4 c (by rw [← hl]; exact List.mem_map.mpr ⟨_, List.mem_of_getElem? hc, rfl⟩)
      have fin : ∀ l'' s', St w os₀ G' ((it, iterP D (i + 1)) :: (L, nsP (upd mm (Str.ofString "comp") (.str c tc))) :: (nc, lsP (strValues l'').toArray) :: (cellOw (fun _ => none) [] ++ ow)) s' → l''.length ≤ i + 1 → l''.map (·.1) = npS (l'.map (·.1)) c →
          ∃ G'' ow'', (∃ mm l', ow'' = (L, nsP mm) :: (nc, lsP (strValues l').toArray) :: (cellOw (fun _ => none) [] ++ ow) ∧ l'.length ≤ i + 1 ∧ l'.map (·.1) = ((l.map (·.1)).take (i + 1)).foldl npS [] ∧ ∃ t1 t2 t3 t4,
      mm (Str.ofString "sep") = some (.str sl t1) ∧ mm (Str.ofString "dot") = some (.str dt t2) ∧ mm (Str.ofString "dotdot") = some (.str dd t3) ∧ mm (Str.ofString "initial_slashes") = some (.str sl t4) ∧ mm (Str.ofString "new_comps") = some (.ref nc)) ∧ Le G' G'' ∧ St w os₀ G'' ((it, iterP D (i + 1)) :: ow'') s' := by
        intro l'' s' H hlen' hmap
        exact ⟨G', _, ⟨upd mm (Str.ofString "comp") (.str c tc), l'', rfl, hlen', by rw [hmap, hstep], t1, t2, t3, t4, hm1, hm2, hm3, hm4, hm5⟩, Le.refl _, H⟩
      refine wpAny_assign_Name (stL V H.swap fun s₂ H => ?_)
      refine wpAny_execs_cons (wpAny_If (isTrue_or (wpAny_isTrue_Not (isTrue_plain (nmL V H rfl (truthS H (fun s₃ H => ?_) (big (by omega))))))))
      cases hc1 : ((c.length : Int) != 0) with
      | false =>
        refine iteT rfl (iteT rfl (wpAny_execs_cons (wpAny_Continue ?_)))
        exact ⟨.inr rfl, fin l' _ H.swap (by omega) (by unfold npS; rw [if_pos hc1])⟩
      | true =>
        refine iteF rfl (isTrue_or (wpAny_isTrue_Compare1 (nmL V H rfl (nmL V H hm2 (PySem.P.eq_str (wpAny_truthy_bool ?_))))))
        cases hc2 : (c.cps.toList == dt.cps.toList) with
        | true =>
          refine iteT rfl (iteT rfl (wpAny_execs_cons (wpAny_Continue ?_)))
          exact ⟨.inr rfl, fin l' _ H.swap (by omega) (by unfold npS; rw [if_neg (by simp [hc1]), if_pos hc2])⟩
        | false =>
          refine iteF rfl (isTrue_or_nil (iteF rfl (wpAny_execs_nil ?_)))
          dsimp only
          refine wpAny_execs_cons (wpAny_If (isTrue_or (wpAny_isTrue_Compare1 (nmL V H rfl (nmL V H hm3 (PySem.P.ne_str (wpAny_truthy_bool ?_)))))))
          cases hc3 : (c.cps.toList != dd.cps.toList) with
          | true =>
            refine iteT rfl (iteT rfl (wpAny_execs_cons (wpAny_Expr_any (Call_method1 rfl rfl rfl (nmL V H hm5 (appM H (.tail _ (.tail _ (.head _))) (nmL V H rfl ⟨_, _, _, H.perm rot3, by simp [strValues]; omega, fun s₄ H => wpAny_execs_nil (wpAny_execs_nil ?_)⟩)))) V.inter)))
            refine ⟨.inl rfl, fin (l' ++ [(c, tc)]) _ ?_ (by simp; omega) (by unfold npS; rw [if_neg (by simp [hc1]), if_neg (by simp [hc2]), if_pos hc3]; simp)⟩
            rw [show (strValues (l' ++ [(c, tc)])).toArray = (strValues l').toArray.push (.str c tc) by simp [strValues]]
            exact (H.perm rot3.symm).swap
          | false =>
            refine iteF rfl (isTrue_or (isTrue_and (wpAny_isTrue_Not (isTrue_plain (nmL V H hm4 (truthS H (fun s₃ H => ?_) (by decide +kernel)))))))
            refine iteF (by decide +kernel) (iteF rfl (isTrue_or (isTrue_and (isTrue_plain (nmL V H hm5 (truthL H (H.isL (.tail _ (.tail _ (.head _)))) (by simp [strValues]; omega) fun s₃ H => ?_))))))
            have hn3 : npS (l'.map (·.1)) c = match (l'.map (·.1)).getLast? with
                | none => l'.map (·.1)
                | some z => if (z.cps.toList == dd.cps.toList) = true then l'.map (·.1) ++ [c] else (l'.map (·.1)).dropLast := by
              unfold npS; rw [if_neg (by simp [hc1]), if_neg (by simp [hc2]), if_neg (by simp [hc3])]
            rcases List.eq_nil_or_concat l' with rfl | ⟨l0, ⟨z, tz⟩, rfl⟩
            · refine iteF rfl (iteF rfl (isTrue_or_nil (iteF rfl ?_)))
              refine wpAny_execs_cons (wpAny_If (isTrue_plain (nmL V H hm5 (truthL H (H.isL (.tail _ (.tail _ (.head _)))) (by simp [strValues]) fun s₃ H => ?_))))
              refine iteF rfl (wpAny_execs_nil (wpAny_execs_nil (wpAny_execs_nil ?_)))
              exact ⟨.inl rfl, fin [] _ H.swap (by simp) (by rw [hn3]; rfl)⟩
            · rw [List.concat_eq_append] at H hl' hf hn3 hstep fin
              have hz : (strValues (l0 ++ [(z, tz)])).toArray.size = l0.length + 1 := by simp [strValues]
              have hl0 : l0.length + 1 ≤ i := by simpa using hl'
              have hlast : ∀ {s' : Shared}, St w os₀ G' ((L, nsP (upd mm (Str.ofString "comp") (.str c tc))) :: (it, iterP D (i + 1)) :: (nc, lsP (strValues (l0 ++ [(z, tz)])).toArray) :: (cellOw (fun _ => none) [] ++ ow)) s' → s'.heap.IsList nc (strValues (l0 ++ [(z, tz)])).toArray := fun H => H.isL (.tail _ (.tail _ (.head _)))
              refine iteT (by simp [strValues]) (isTrue_and (wpAny_isTrue_Compare1 (lstLast (nmL V H hm5 ⟨nc, _, .str z tz, _, _, rfl, H, fun s' H => hlast H, by omega, by omega, by simp [strValues], fun s₄ H => nmL V H hm3 (eqS (wpAny_truthy_bool ?_))⟩))))
              have hn4 : npS ((l0 ++ [(z, tz)]).map (·.1)) c = if (z.cps.toList == dd.cps.toList) = true then (l0 ++ [(z, tz)]).map (·.1) ++ [c] else l0.map (·.1) := by
                rw [hn3]; simp
              cases hc4 : (z.cps.toList == dd.cps.toList) with
              | true =>
                refine iteT rfl (isTrue_and_nil (iteT rfl (iteT rfl ?_)))
                refine wpAny_execs_cons (wpAny_Expr_any (Call_method1 rfl rfl rfl (nmL V H hm5 (appM H (.tail _ (.tail _ (.head _))) (nmL V H rfl ⟨_, _, _, H.perm rot3, by omega, fun s₄ H => wpAny_execs_nil (wpAny_execs_nil ?_)⟩)))) V.inter)
                refine ⟨.inl rfl, fin ((l0 ++ [(z, tz)]) ++ [(c, tc)]) _ ?_ (by simp; omega) (by rw [hn4, if_pos hc4]; simp)⟩
                rw [show (strValues ((l0 ++ [(z, tz)]) ++ [(c, tc)])).toArray = (strValues (l0 ++ [(z, tz)])).toArray.push (.str c tc) by simp [strValues]]
                exact (H.perm rot3.symm).swap
              | false =>
                refine iteF rfl (iteF rfl (isTrue_or_nil (iteF rfl ?_)))
                refine wpAny_execs_cons (wpAny_If (isTrue_plain (nmL V H hm5 (truthL H (hlast H) (by omega) fun s₃ H => ?_))))
                refine iteT (by simp [strValues]) ?_
                refine wpAny_execs_cons (wpAny_Expr_any (Call_method0 rfl rfl (nmL V H hm5 (popM (H.perm rot3) (v := .str z tz) (by simp [strValues]) (by omega) fun s₄ H => wpAny_execs_nil (wpAny_execs_nil (wpAny_execs_nil ?_))))) V.inter)
                refine ⟨.inl rfl, fin l0 _ ?_ (by omega) (by rw [hn4, if_neg (by simp [hc4])])⟩
                have e : ((strValues (l0 ++ [(z, tz)])).toArray.eraseIdxIfInBounds ((strValues (l0 ++ [(z, tz)])).toArray.size - 1)) = (strValues l0).toArray := by
                  rw [hz, List.eraseIdxIfInBounds_toArray, Nat.add_sub_cancel]
                  have e9 : l0.length = (l0.map fun p => Value.str p.1 p.2).length := by simp
                  simp only [strValues, List.map_append, List.map_cons, List.map_nil]
                  rw [e9, List.eraseIdx_append_of_length_le (Nat.le_refl _)]
                  simp
                rw [e] at H
                exact (H.perm rot3.symm).swap

    · rintro G' ow' s' ⟨mm, l', rfl, hl', hf, t1, t2, t3, t4, hm1, hm2, hm3, hm4, hm5⟩ hle' H
      dsimp only
      have hmem : ∀ c ∈ l'.map (·.1), c.length ≤ 100 := by
        rw [hf]
        intro c hc
        rcases npS_fold _ _ c hc with h | h
        · simp at h
        · exact h4 c (by rw [← hl]; exact List.mem_of_mem_take h)
      have hl'' : l'.length ≤ 1000 := by
        have : (strValues l).toArray.size = l.length := by simp [strValues]
        omega
      have hj := joinOk_of (texts := l'.map (·.1)) hmem (by simpa using hl'')
      refine wpAny_execs_cons (wpAny_Assign_Name (nmL V H hm5 (stL V H fun s H => ?_)))
      dsimp only
      refine wpAny_execs_cons (wpAny_Assign_Name (wpAny_BinOp (nmL V H hm4 (Call_method1 rfl rfl rfl (nmL V H hm1 (SB.join (nmL V H rfl ⟨nc, l', rfl, H.isL (.tail _ (.head _)), _, rfl, hj.1, fun t' k => ?_⟩)))))))
      have e1 : sl.length = 1 := by decide +kernel
      refine addS (H.tok k) (fun t7 s H => stL V H fun s H => ?_) (by rw [sizeLine_eq]; omega)
      dsimp only
      have hlen2 : (sl ++ Txt.join sl (l'.map (·.1))).length ≤ sizeLine := by rw [Str.length_append, sizeLine_eq]; omega
      refine wpAny_execs_cons (wpAny_Return_some (BoolOp_or (nmL V H rfl (truthS H (fun s H => ?_) hlen2))))
      refine iteT ?_ ?_
      · have : 0 < (sl ++ Txt.join sl (l'.map (·.1))).length := by rw [Str.length_append]; omega
        simp only [bne_iff_ne, ne_eq]; omega
      · refine hQ _ G' _ (hle.trans (hle2.trans (hle3.trans hle'))) H.drop.drop ⟨t7, ?_⟩
        unfold npF
        rw [hrest, ← hl, hf, List.take_of_length_le (by simp [strValues])]
        rfl
end
end Mine
end

section -- Sx
open PySem PySem.W PyProof.Rows PySem.W.X PySem.Calls
set_option linter.unusedVariables false
set_option maxRecDepth 100000
set_option maxHeartbeats 2000000
namespace Mine
section
variable {α : Type} {w : World} {os₀ : OsState} {G : Heap} {ow : Ow} {A : Around} {Q : α → Shared → Prop} {E : Value → Shared → Prop} {s : Shared}
theorem sx_pure {a : α} (h : Q a s) : wpAny (model prg w) A (Sem.pure a) Q E s := wpAny_pure h
theorem sx_rule {t : String} {k : Unit → Sem α} (h : wpAny (model prg w) A (k ()) Q E s) : wpAny (model prg w) A (.rule t k) Q E s := x_rule h
theorem sx_at {t : Pos} {k : Unit → Sem α} (h : wpAny (model prg w) A (k ()) Q E s) : wpAny (model prg w) A (.at t k) Q E s := x_at h
theorem sx_point {t : List Value} {k : Unit → Sem α} (h : wpAny (model prg w) A (k ()) Q E s) : wpAny (model prg w) A (.point t k) Q E s := x_point h
theorem sx_ask {k : Setting → Sem α} (h : wpAny (model prg w) A (k ⟨prg, w.params⟩) Q E s) : wpAny (model prg w) A (.ask k) Q E s := x_ask h
theorem sx_fresh {k : Tok → Sem α} (H : St w os₀ G ow s) (h : ∀ t s', St w os₀ G ow s' → wpAny (model prg w) A (k t) Q E s') : wpAny (model prg w) A (.fresh k) Q E s := x_fresh (h _ _ (H.tok _))
theorem sx_loadO {a : Addr} {q : Option Value} {k : Obj → Sem α} {o : Obj} (H : St w os₀ G ow s) (hm : (a, objP o) ∈ ow) (h : wpAny (model prg w) A (k o) Q E s) : wpAny (model prg w) A (.load a q k) Q E s := by
  obtain ⟨o', ho, e⟩ := H.own _ hm
  cases e
  exact x_load ho h
theorem sx_loadT {a : Addr} {q : Option Value} {k : Obj → Sem α} {o : Obj} (H : St w os₀ G ow s) (e : (K0 w.params).lookup a = some o) (h : wpAny (model prg w) A (k o) Q E s) : wpAny (model prg w) A (.load a q k) Q E s := x_load (H.topH _ _ e) h
theorem sx_loadG {a : Addr} {q : Option Value} {k : Obj → Sem α} {o : Obj} (H : St w os₀ G ow s) (e : G.get? a = some o) (h : wpAny (model prg w) A (k o) Q E s) : wpAny (model prg w) A (.load a q k) Q E s := x_load (H.le _ _ e) h
theorem sx_alloc {o : Obj} {k : Addr → Sem α} (H : St w os₀ G ow s) (h : ∀ a s', St w os₀ G ((a, objP o) :: ow) s' → wpAny (model prg w) A (k a) Q E s') (hf : o.isFreed = false := by rfl) : wpAny (model prg w) A (.alloc o k) Q E s :=
  wpAny_bind (m := alloc o) (f := k) (wpAny_alloc (h _ _ (H.push (P := objP o) o hf rfl s.toks)))
theorem St.updAt {i : Nat} {a : Addr} {P P' : Obj → Prop} {h' : Heap} {t : Nat} (H : St w os₀ G ow s) (hm : ow[i]? = some (a, P)) (hs : Heap.SameBut a s.heap h') (hP : ∃ o, h'.get? a = some o ∧ P' o) : St w os₀ G (ow.set i (a, P')) { s with heap := h', toks := t } := by
  obtain ⟨hl, he⟩ := List.getElem?_eq_some_iff.mp hm
  have p1 : ow.Perm ((a, P) :: ow.eraseIdx i) := by
    have : ow = ow.take i ++ (a, P) :: ow.drop (i + 1) := by rw [← he, ← List.drop_eq_getElem_cons hl, List.take_append_drop]
    rw [List.eraseIdx_eq_take_drop_succ]
    conv => lhs; rw [this]
    exact List.perm_middle
  have p2 : ((a, P') :: ow.eraseIdx i).Perm (ow.set i (a, P')) := by
    rw [List.eraseIdx_eq_take_drop_succ, List.set_eq_take_append_cons_drop, if_pos hl]
    exact List.perm_middle.symm
  exact ((H.perm p1).upd (t := t) hs hP).perm p2
theorem sx_upd {a : Addr} {q : Option Value} {f : Obj → Obj} {k : Unit → Sem α} {o : Obj} (i : Nat) (H : St w os₀ G ow s) (hm : ow[i]? = some (a, objP o)) (h : ∀ s', St w os₀ G (ow.set i (a, objP (f o))) s' → wpAny (model prg w) A (k ()) Q E s') (hf : (f o).isFreed = false := by rfl) : wpAny (model prg w) A (.update a q f k) Q E s := by
  obtain ⟨o', ho, e⟩ := H.own _ (List.mem_of_getElem? hm)
  cases e
  refine wpAny_bind (m := updatePart a q f) (f := k) (wpAny_updatePart ho (h _ ?_))
  exact H.updAt (t := s.toks) hm sameBut_upd ⟨_, by first | exact Heap.get?_update_self _ ho hf | (rw [Heap.get?_update_self _ ho hf]), rfl⟩
theorem sx_ifn {c : Prop} {d : Decidable c} {t e : Sem α} (hc : ¬ c) (h : wpAny (model prg w) A e Q E s) : wpAny (model prg w) A (@ite _ c d t e) Q E s := by rw [if_neg hc]; exact h
theorem sx_ifp {c : Prop} {d : Decidable c} {t e : Sem α} (hc : c) (h : wpAny (model prg w) A t Q E s) : wpAny (model prg w) A (@ite _ c d t e) Q E s := by rw [if_pos hc]; exact h
theorem sx_cT {b : Bool} {t e : Sem α} (hb : b = true) (h : wpAny (model prg w) A t Q E s) : wpAny (model prg w) A (condFn (Sem α) b t e) Q E s := by subst hb; exact h
theorem sx_cF {b : Bool} {t e : Sem α} (hb : b = false) (h : wpAny (model prg w) A e Q E s) : wpAny (model prg w) A (condFn (Sem α) b t e) Q E s := by subst hb; exact h
theorem sx_call {c : Code} {hd : Option Value} {g : Bool} {l : List Value} {k : Result → Sem α} (h : wpAny (model prg w) A (.call c hd g l Sem.pure) (fun r s' => wpAny (model prg w) A (k r) Q E s') (fun _ _ => False) s) : wpAny (model prg w) A (.call c hd g l k) Q E s :=
  show wpAny (model prg w) A ((Sem.call c hd g l Sem.pure).bind k) Q E s from wpAny_bind (m := Sem.call c hd g l Sem.pure) (f := k) (wpAny_mono h (fun _ _ x => x) fun _ _ x => x.elim)
theorem St.ne1 {a : Addr} {P : Obj → Prop} (H : St w os₀ G ow s) (hm : (a, P) ∈ ow) : a ≠ sysModules := fun q => by
  subst q
  have := H.off _ hm
  obtain ⟨_, _, o, h⟩ := H.top.b
  rw [h] at this
  cases this
theorem St.neT {a b : Addr} {P : Obj → Prop} {o : Obj} (H : St w os₀ G ow s) (hm : (a, P) ∈ ow) (e : (K0 w.params).lookup b = some o) : a ≠ b := fun q => by
  subst q
  have := H.off _ hm
  rw [H.top.k _ _ e] at this
  cases this
end
end Mine
end

section -- C1
open PySem PySem.W PyProof.Rows PySem.W.X PySem.Calls
set_option linter.unusedVariables false
set_option maxRecDepth 100000
set_option maxHeartbeats 2000000
namespace Mine
open PySem.Builtin
theorem k_mroObj : mroOf (.type "object") = Sem.pure [.type "object"] := by rw [mroOf_type]; kernel_rfl
theorem k_typeObj : typeOf (.type "object") = Sem.pure (.type "type") := by kernel_rfl
theorem k_subTT : isSubtype (.type "type") (.type "type") = Sem.pure true := by rw [isSubtype_type]; kernel_rfl
theorem k_iterDict : typeLookup (.type "dict") (Str.ofString "__iter__") = Sem.pure (some (.builtin "dict.__iter__")) := by rw [typeLookup_type, builtinLookup_eq_fast]; kernel_rfl
theorem k_solid : Slots.solid (.type "object") = Sem.pure (.type "object") := by kernel_rfl
theorem k_best : Slots.bestBase [.type "object"] = Sem.pure (.type "object") := by kernel_rfl
theorem k_slotNames : Slots.slotNamesOf (.type "object") = Sem.pure [] := by kernel_rfl
theorem k_givesDict : Slots.givesDict (.type "object") = Sem.pure false := by kernel_rfl
theorem k_givesWeak : Slots.givesWeak (.type "object") = Sem.pure false := by kernel_rfl
theorem k_varSize : Slots.varSize (.type "object") = Sem.pure false := by kernel_rfl
theorem k_extended : extendedBase [.type "object"] = Sem.pure (.type "object") := by kernel_rfl
theorem k_linearize : linearize [.type "object"] mroOf = Sem.pure [.type "object"] := by kernel_rfl
theorem k_mroHook : mroHook? (.type "type") = Sem.pure none := by kernel_rfl
theorem k_madeBy : Bind.madeBy (.type "object") = Sem.pure (some "object.__new__") := by kernel_rfl
end Mine
end

section -- L3
open PySem PySem.W PyProof.Rows PySem.W.X PySem.Calls
set_option linter.unusedVariables false
set_option maxRecDepth 100000
set_option maxHeartbeats 2000000
namespace Mine
open PySem.Builtin
section
variable {α β : Type} {w : World} {os₀ : OsState} {G : Heap} {ow : Ow} {A : Around} {Q : α → Shared → Prop} {E : Value → Shared → Prop} {s : Shared}
theorem bindE {M : Model} {m : Sem β} {v : β} {f : β → Sem α} (h : m = Sem.pure v) (k : wpAny M A (f v) Q E s) : wpAny M A (m >>= f) Q E s := by
  rw [h]; exact wpAny_bind (wpAny_pure k)
theorem typeG {a : Addr} {o : Obj} {Q : Value → Shared → Prop} (H : St w os₀ G ow s) (hg : G.get? a = some o) (h : Q o.cls s) : wpAny (model prg w) A (typeOf (.ref a)) Q E s := by
  unfold typeOf
  exact wpAny_bind (wpAny_loadPart (H.le _ _ hg) (wpAny_pure h))
theorem typeO {a : Addr} {o : Obj} {Q : Value → Shared → Prop} (H : St w os₀ G ow s) (hg : (a, objP o) ∈ ow) (h : Q o.cls s) : wpAny (model prg w) A (typeOf (.ref a)) Q E s := by
  obtain ⟨o', ho, e⟩ := H.own _ hg
  cases e
  unfold typeOf
  exact wpAny_bind (wpAny_loadPart ho (wpAny_pure h))
theorem forIn1 {γ : Type} {x : γ} {init : β} {f : γ → β → Sem (ForInStep β)} {Q : β → Shared → Prop} {M : Model} (h : wpAny M A (f x init) (fun r s' => match r with | .done b => Q b s' | .yield b => Q b s') E s) : wpAny M A (forIn [x] init f) Q E s := by
  rw [List.forIn_cons]
  refine wpAny_bind (wpAny_mono h (fun r s' hr => ?_) fun _ _ x => x)
  cases r with
  | done b => exact wpAny_pure hr
  | yield b => exact wpAny_pure hr
theorem forInA {γ : Type} {arr : Array γ} {l : List γ} {init : β} {f : γ → β → Sem (ForInStep β)} {Q : β → Shared → Prop} {M : Model} (hl : arr.toList = l) (h : wpAny M A (forIn l init f) Q E s) : wpAny M A (forIn arr init f) Q E s := by
  rw [← Array.forIn_toList, hl]; exact h
theorem forIn2 {γ : Type} {x y : γ} {r : List γ} {init : β} {f : γ → β → Sem (ForInStep β)} {Q : β → Shared → Prop} {M : Model} (h : wpAny M A (f x init) (fun r' s' => match r' with | .done b => Q b s' | .yield b => wpAny M A (forIn (y :: r) b f) Q E s') E s) : wpAny M A (forIn (x :: y :: r) init f) Q E s := by
  rw [List.forIn_cons]
  refine wpAny_bind (wpAny_mono h (fun r s' hr => ?_) fun _ _ x => x)
  cases r with
  | done b => exact wpAny_pure hr
  | yield b => exact hr
end
theorem leColl {h : Heap} {o : Obj} {f : Obj → Obj} : Le h ((h.push o).update h.objs.size f) := fun b o' e => by
  have hlt : b < h.objs.size := Heap.lt_size e
  rw [Heap.get?_update_ne _ _ _ _ (Nat.ne_of_lt hlt), Heap.get?_push_ne _ _ _ (Nat.ne_of_lt hlt)]
  exact e
theorem collG {w : World} {os₀ : OsState} {G : Heap} {ow : Ow} {A : Around} {E : Value → Shared → Prop} {s : Shared} {l : Addr} {vs : List Value} {Q : List Value → Shared → Prop} (H : St w os₀ G ow s) (hl : G.IsList l vs.toArray) (h : ∀ s', St w os₀ G ow s' → Q vs s') (hsz : vs.length ≤ sizeLine := by size_fits) : wpAny (model prg w) A (collect (.ref l)) Q E s :=
  collect_list (isList_le hl H.le) (h _ (H.keep (t := s.toks) leColl)) hsz
theorem newO {w : World} {os₀ : OsState} {G : Heap} {ow : Ow} {A : Around} {E : Value → Shared → Prop} {s : Shared} {T : String} {data : Data} {Q : Value → Shared → Prop} (H : St w os₀ G ow s) (h : ∀ a s', St w os₀ G ((a, objP { cls := .type T, data := data }) :: ow) s' → Q (.ref a) s') (hd : sizeOk data := by size_fits) (hf : ({ cls := .type T, data := data } : Obj).isFreed = false := by rfl) : wpAny (model prg w) A (newObj (.type T) data) Q E s :=
  wpAny_newObj_type (h _ _ (H.push (P := objP { cls := .type T, data := data }) _ hf rfl s.toks)) hd
theorem slotSet {w : World} {os₀ : OsState} {G : Heap} {ow : Ow} {A : Around} {E : Value → Shared → Prop} {s : Shared} {a : Addr} {c : Value} {dt : Data} {sl : Array (Option Value)} {v : Option Value} {Q : Unit → Shared → Prop} (i j : Nat) (sl' : Array (Option Value)) (H : St w os₀ G ow s) (hm : ow[i]? = some (a, objP { cls := c, data := dt, slots := sl })) (h : ∀ s', St w os₀ G (ow.set i (a, objP { cls := c, data := dt, slots := sl' })) s' → Q () s') (hsl : (sl ++ Array.replicate (j + 1 - sl.size) none).setIfInBounds j v = sl' := by kernel_rfl) (hj : ¬ j ≥ sizeLine := by decide) (hf : ({ cls := c, data := dt, slots := sl } : Obj).isFreed = false := by rfl) : wpAny (model prg w) A (setSlotAt a j v) Q E s := by
  unfold setSlotAt
  subst hsl
  refine sx_ifn hj (sx_upd i H hm (fun s' H => sx_pure (h s' H)) ?_)
  cases dt <;> first | rfl | cases hf
theorem slotGet {w : World} {os₀ : OsState} {G : Heap} {ow : Ow} {A : Around} {E : Value → Shared → Prop} {s : Shared} {a : Addr} {o : Obj} {Q : Option Value → Shared → Prop} (j : Nat) (H : St w os₀ G ow s) (hm : (a, objP o) ∈ ow) (h : Q (o.slots[j]?).join s) : wpAny (model prg w) A (slotAt a j) Q E s := by
  unfold slotAt
  exact sx_loadO H hm (wpAny_pure h)
theorem nsGetO {w : World} {os₀ : OsState} {G : Heap} {ow : Ow} {A : Around} {E : Value → Shared → Prop} {s : Shared} {a : Addr} {o : Obj} {x : Str} {r : Option Value} {Q : Option Value → Shared → Prop} (H : St w os₀ G ow s) (hm : (a, objP o) ∈ ow) (hr : nsLook x o = Sem.pure r) (h : Q r s) : wpAny (model prg w) A (nsGet a x) Q E s := by
  unfold nsGet
  exact sx_loadO H hm (wpAny_of_eq hr h)
theorem nsDelO {w : World} {os₀ : OsState} {G : Heap} {ow : Ow} {A : Around} {E : Value → Shared → Prop} {s : Shared} {a : Addr} {o : Obj} {x : Str} {Q : Bool → Shared → Prop} (i : Nat) (H : St w os₀ G ow s) (hm : ow[i]? = some (a, objP o)) (hr : nsHas x o = Sem.pure true) (h : ∀ s', St w os₀ G (ow.set i (a, objP (Obj.dropName x o))) s' → Q true s') (hf : (Obj.dropName x o).isFreed = false := by rfl) : wpAny (model prg w) A (nsDel a x) Q E s := by
  unfold nsDel
  refine wpAny_bind (sx_loadO H (List.mem_of_getElem? hm) (wpAny_pure ?_))
  refine wpAny_bind (wpAny_of_eq hr ?_)
  exact sx_ifp rfl (sx_upd i H hm (fun s' H => wpAny_pure (h s' H)) hf)
theorem nsSetO {w : World} {os₀ : OsState} {G : Heap} {ow : Ow} {A : Around} {E : Value → Shared → Prop} {s : Shared} {a : Addr} {c : Value} {es : Array DictEntry} {k : Nat} {x : Str} {v : Value} {Q : Unit → Shared → Prop} (i : Nat) (H : St w os₀ G ow s) (hm : ow[i]? = some (a, objP { cls := c, data := .dict es k })) (hr : aRefKeyMayBeTheName x es = false) (h : ∀ hh t s', St w os₀ G (ow.set i (a, objP (Obj.putName x hh (.str x t) v { cls := c, data := .dict es k }))) s' → Q () s') (hf : ∀ hh t, (Obj.putName x hh (.str x t) v { cls := c, data := .dict es k }).isFreed = false := by intros; rfl) : wpAny (model prg w) A (nsSet a x v) Q E s := by
  unfold nsSet
  refine wpAny_bind ?_
  unfold strHash
  refine sx_ask (sx_pure ?_)
  refine wpAny_bind ?_
  unfold mkText
  refine sx_fresh H fun t s' H => sx_pure ?_
  refine wpAny_bind (sx_loadO H (List.mem_of_getElem? hm) (wpAny_pure ?_))
  refine sx_ifn (by rw [hr]; simp) ?_
  exact sx_upd i H hm (fun s' H => wpAny_pure (h _ _ s' H)) (hf _ _)
theorem clsUpd {w : World} {os₀ : OsState} {G : Heap} {ow : Ow} {A : Around} {E : Value → Shared → Prop} {s : Shared} {a : Addr} {c : Value} {cd : ClassData} {sl : Array (Option Value)} {f : ClassData → ClassData} {Q : Unit → Shared → Prop} (i : Nat) (H : St w os₀ G ow s) (hm : ow[i]? = some (a, objP { cls := c, data := .cls cd, slots := sl })) (h : ∀ s', St w os₀ G (ow.set i (a, objP { cls := c, data := .cls (f cd), slots := sl })) s' → Q () s') (hp : (Data.cls (f cd)).pastItsLine = none) : wpAny (model prg w) A (updateCls a f) Q E s := by
  unfold updateCls
  refine wpAny_bind (sx_loadO H (List.mem_of_getElem? hm) (sx_pure ?_))
  refine wpAny_bind (sx_upd i H hm (fun s' H => sx_pure ?_))
  unfold lookBehind
  have hm2 : (a, objP { cls := c, data := .cls (f cd), slots := sl }) ∈ ow.set i (a, objP { cls := c, data := .cls (f cd), slots := sl }) := List.mem_set (List.getElem?_eq_some_iff.mp hm).1 _
  refine wpAny_bind (sx_loadO H hm2 (sx_pure ?_))
  dsimp only [Obj.mapCls]
  rw [hp]
  exact wpAny_pure (h _ H)
theorem lookC {w : World} {os₀ : OsState} {G : Heap} {ow : Ow} {A : Around} {E : Value → Shared → Prop} {s : Shared} {C n1 : Addr} {oC oN : Obj} {cd : ClassData} {x : Str} {r : Option Value} {Q : Option Value → Shared → Prop} (H : St w os₀ G ow s) (hC : (C, objP oC) ∈ ow) (hd : oC.data = .cls cd) (hm : cd.mro = [.ref C, .type "object"]) (hn : cd.ns = n1) (hN : (n1, objP oN) ∈ ow) (hr : nsLook x oN = Sem.pure r)
    (h : Q (match r with | some v => some v | none => builtinOwn "object" x) s) : wpAny (model prg w) A (typeLookup (.ref C) x) Q E s := by
  unfold typeLookup
  have cdl : ∀ {Q : ClassData → Shared → Prop}, Q cd s → wpAny (model prg w) A (classData C) Q E s := fun {Q} h => by
    unfold classData
    refine wpAny_bind (sx_loadO H hC (sx_pure ?_))
    rw [hd]; exact sx_pure h
  refine wpAny_bind ?_
  unfold mroOf
  refine wpAny_bind (cdl (sx_pure ?_))
  rw [hm]
  refine wpAny_bind (forIn2 ?_)
  unfold classOwn
  refine wpAny_bind (wpAny_bind (cdl ?_))
  rw [hn]
  refine nsGetO H hN hr ?_
  cases r with
  | some v => exact sx_pure (sx_pure h)
  | none =>
    refine sx_pure (forIn1 ?_)
    refine bindE rfl ?_
    dsimp only at h
    cases hb : builtinOwn "object" x with
    | some v => rw [hb] at h; exact sx_pure (sx_pure h)
    | none => rw [hb] at h; exact sx_pure (sx_pure h)
noncomputable def fnO (fd : FuncData) : Obj := { cls := .type "function", data := .func fd }
noncomputable def kEs (sl sa f1 f2 f3 f4 f5 f6 : Addr) (e0 e1 e2 e3 e4 e5 e6 e7 e8 e9 e10 e11 : Int) (t0 t1 t2 t3 t4 t5 t6 t7 t8 t9 t10 t11 u0 u1 u2 : Tok) : Array DictEntry := #[
  ⟨e0, .str (Str.ofString "__module__") t0, .str (Str.ofString "cpy313.functools") u0⟩,
  ⟨e1, .str (Str.ofString "__qualname__") t1, .str (Str.ofString "cmp_to_key.<locals>.K") u1⟩,
  ⟨e2, .str (Str.ofString "__firstlineno__") t2, .int 7 u2⟩,
  ⟨e3, .str (Str.ofString "__slots__") t3, .ref sl⟩,
  ⟨e4, .str (Str.ofString "__init__") t4, .ref f1⟩,
  ⟨e5, .str (Str.ofString "__lt__") t5, .ref f2⟩,
  ⟨e6, .str (Str.ofString "__gt__") t6, .ref f3⟩,
  ⟨e7, .str (Str.ofString "__eq__") t7, .ref f4⟩,
  ⟨e8, .str (Str.ofString "__le__") t8, .ref f5⟩,
  ⟨e9, .str (Str.ofString "__ge__") t9, .ref f6⟩,
  ⟨e10, .str (Str.ofString "__hash__") t10, .none⟩,
  ⟨e11, .str (Str.ofString "__static_attributes__") t11, .ref sa⟩]
noncomputable def kN1 (sl sa f1 f2 f3 f4 f5 f6 : Addr) (e0 e2 e3 e4 e5 e6 e7 e8 e9 e10 e11 : Int) (t0 t2 t3 t4 t5 t6 t7 t8 t9 t10 t11 u0 u2 : Tok) : Array DictEntry := #[
  ⟨e0, .str (Str.ofString "__module__") t0, .str (Str.ofString "cpy313.functools") u0⟩,
  ⟨e2, .str (Str.ofString "__firstlineno__") t2, .int 7 u2⟩,
  ⟨e3, .str (Str.ofString "__slots__") t3, .ref sl⟩,
  ⟨e4, .str (Str.ofString "__init__") t4, .ref f1⟩,
  ⟨e5, .str (Str.ofString "__lt__") t5, .ref f2⟩,
  ⟨e6, .str (Str.ofString "__gt__") t6, .ref f3⟩,
  ⟨e7, .str (Str.ofString "__eq__") t7, .ref f4⟩,
  ⟨e8, .str (Str.ofString "__le__") t8, .ref f5⟩,
  ⟨e9, .str (Str.ofString "__ge__") t9, .ref f6⟩,
  ⟨e10, .str (Str.ofString "__hash__") t10, .none⟩,
  ⟨e11, .str (Str.ofString "__static_attributes__") t11, .ref sa⟩]
noncomputable def kCd (n1 : Addr) (mro : List Value) (hd : Bool) (sn : List Str) : ClassData := { name := Str.ofString "K", bases := [.type "object"], mro := mro, ns := n1, qualname := Str.ofString "cmp_to_key.<locals>.K", hasDict := hd, slotNames := sn }
theorem slotsRead {w : World} {os₀ : OsState} {G : Heap} {ow : Ow} {s : Shared} {A : Around} {Q : Slots.Plan → Shared → Prop} {E : Value → Shared → Prop} {sl sa f1 f2 f3 f4 f5 f6 : Addr} {e0 e1 e2 e3 e4 e5 e6 e7 e8 e9 e10 e11 : Int} {t0 t1 t2 t3 t4 t5 t6 t7 t8 t9 t10 t11 u0 u1 u2 u3 : Tok}
   (H : St w os₀ G ow s) (hsl : G.get? sl = some { cls := .type "list", data := .seq #[.str (Str.ofString "obj") u3] })
   (hQ : ∀ s', St w os₀ G ow s' → Q { names := [Str.ofString "obj"], dict := false, weak := false, inherited := [] } s') :
   wpAny (model prg w) A (Slots.read (Str.ofString "K") [.type "object"] (kEs sl sa f1 f2 f3 f4 f5 f6 e0 e1 e2 e3 e4 e5 e6 e7 e8 e9 e10 e11 t0 t1 t2 t3 t4 t5 t6 t7 t8 t9 t10 t11 u0 u1 u2)) Q E s := by
  unfold Slots.read
  refine bindE k_best (bindE k_slotNames (bindE k_givesDict (bindE k_givesWeak (bindE k_varSize ?_))))
  have hf : (kEs sl sa f1 f2 f3 f4 f5 f6 e0 e1 e2 e3 e4 e5 e6 e7 e8 e9 e10 e11 t0 t1 t2 t3 t4 t5 t6 t7 t8 t9 t10 t11 u0 u1 u2).find? (·.key.isStr (Str.ofString "__slots__")) = some ⟨e3, .str (Str.ofString "__slots__") t3, .ref sl⟩ := rfl
  dsimp -zeta only
  rw [hf]
  refine wpAny_bind (sx_rule (sx_pure ?_))
  refine wpAny_bind (sx_loadG H hsl (sx_pure ?_))
  refine sx_ifn (by simp) ?_
  refine wpAny_bind (collG H (vs := [.str (Str.ofString "obj") u3]) ⟨_, hsl, rfl, _, rfl⟩ fun s H => ?_)
  refine sx_ifp rfl ?_
  refine bindE k_varSize (sx_ifn (by decide) ?_)
  refine wpAny_bind (forIn1 ?_)
  refine bindE (v := some (Str.ofString "obj")) rfl ?_
  refine bindE (v := Str.ofString "obj") rfl ?_
  have hid : Slots.isIdentifier (Str.ofString "obj") = some true := by kernel_rfl
  dsimp -zeta only
  rw [hid]
  refine bindE (v := true) rfl ?_
  refine sx_ifn (by decide) ?_
  refine sx_ifn (by decide) ?_
  refine sx_ifn (by decide) ?_
  refine sx_pure ?_
  dsimp -zeta only
  refine wpAny_bind (forInA (l := [Str.ofString "obj"]) rfl (forIn1 ?_))
  have hm : Slots.mangle (Str.ofString "K") (Str.ofString "obj") = Str.ofString "obj" := by kernel_rfl
  rw [hm]
  refine sx_ifn (by decide +kernel) ?_
  refine sx_ifn (by
    have : (kEs sl sa f1 f2 f3 f4 f5 f6 e0 e1 e2 e3 e4 e5 e6 e7 e8 e9 e10 e11 t0 t1 t2 t3 t4 t5 t6 t7 t8 t9 t10 t11 u0 u1 u2).any (fun x => x.key.isStr (Str.ofString "obj")) = false := by rw [← Array.any_toList]; rfl
    rw [this]; simp) ?_
  refine sx_ifn (by decide +kernel) ?_
  refine sx_pure ?_
  refine wpAny_bind (forIn1 (sx_ifn (by decide) (sx_pure ?_)))
  exact wpAny_pure (hQ _ H)
end Mine
end

section -- S6
open PySem PySem.W PyProof.Rows PySem.W.X PySem.Calls
set_option linter.unusedVariables false
set_option maxRecDepth 100000
set_option maxHeartbeats 8000000
namespace Mine
theorem eqv_strs : ∀ a b : List Str, PyData.eqvAll (a.map PyData.str) (b.map PyData.str) = (a == b)
  | [], [] => rfl
  | [], _ :: _ => rfl
  | _ :: _, [] => rfl
  | x :: a, y :: b => by
    show (PyData.eqv (.str x) (.str y) && PyData.eqvAll (a.map PyData.str) (b.map PyData.str)) = _
    rw [eqv_strs a b]; rfl
theorem eqv_row (a b : List Str) : PyData.eqv (rowD a) (rowD b) = (a == b) := eqv_strs a b
/-- the five names that can stand in a whole path -/
noncomputable def NM : List Str := [Str.ofString "a", Str.ofString "B&&\"\"", Str.ofString "b&&\"\"", Str.ofString "c<\"<", Str.ofString "A>>\r\r\n\n\t\t"]
noncomputable def GR (r : List Str) : Prop := ∀ x ∈ r, x ∈ NM
theorem NM_ok : ∀ x ∈ NM, PyData.canLay0 (.str x) = true ∧ x.length ≤ 10 := by decide +kernel
theorem canLay_strs : ∀ a : List Str, GR a → PyData.canLayAll0 (a.map PyData.str) = true
  | [], _ => rfl
  | x :: a, h => by
    show (PyData.canLay0 (.str x) && PyData.canLayAll0 (a.map PyData.str)) = true
    rw [canLay_strs a fun y hy => h y (.tail _ hy), (NM_ok x (h x (.head _))).1]; rfl
theorem canLay_row (a : List Str) (h : GR a) : PyData.canLay0 (rowD a) = true := canLay_strs a h
theorem canLay_rows : ∀ rs : List (List Str), (∀ r ∈ rs, GR r) → PyData.canLayAll0 (rs.map rowD) = true
  | [], _ => rfl
  | r :: rs, h => by
    show (PyData.canLay0 (rowD r) && PyData.canLayAll0 (rs.map rowD)) = true
    rw [canLay_rows rs fun y hy => h y (.tail _ hy), canLay_row _ (h r (.head _))]; rfl
noncomputable def nmsF : Nat → Str → List Str → List Str
  | 0, _, ns => ns
  | k + 1, p, ns => if (p.cps.toList != sl.cps.toList) = true then nmsF k (splitF p) (splitT p :: ns) else ns
noncomputable def pathOk : Nat → Str → Bool
  | 0, p => p.cps.toList == sl.cps.toList
  | k + 1, p => p.cps.toList == sl.cps.toList || (decide (p.length ≤ 1000) && NM.contains (splitT p) && pathOk k (splitF p))
theorem depth_strs : ∀ a : List Str, PyData.depthAll (a.map PyData.str) ≤ 1
  | [] => by simp [PyData.depthAll]
  | x :: a => by
    have := depth_strs a
    simp only [List.map_cons, PyData.depthAll, PyData.depth]
    omega
theorem depth_row (a : List Str) : PyData.depth (rowD a) ≤ 3 := by
  have := depth_strs a
  simp only [rowD, PyData.depth]
  omega
noncomputable def freshF (rs : List (List Str)) (N : List Str) (i : Nat) : List (List Str) := (List.range i).filterMap fun k => if (rs.any fun y => y == N.take (k + 1)) = true then none else some (N.take (k + 1))
theorem freshF_succ (rs : List (List Str)) (N : List Str) (i : Nat) : freshF rs N (i + 1) = freshF rs N i ++ (if (rs.any fun y => y == N.take (i + 1)) = true then [] else [N.take (i + 1)]) := by
  unfold freshF
  rw [List.range_succ, List.filterMap_append]
  congr 1
  simp only [List.filterMap_cons, List.filterMap_nil]
  split <;> split <;> simp_all
theorem freshF_len (rs : List (List Str)) (N : List Str) (i : Nat) : (freshF rs N i).length ≤ i := by
  unfold freshF
  refine Nat.le_trans (List.length_filterMap_le _ _) (by simp)
section
variable {w : World} {os₀ : OsState} {G : Heap} {ow : Ow} {s : Shared}
theorem St.frzL {D : Addr} {xs : Array Value} (H : St w os₀ G ((D, lsP xs) :: ow) s) : ∃ G', Le G G' ∧ G'.IsList D xs ∧ St w os₀ G' ow s := by
  obtain ⟨o, G', ⟨k, ho⟩, hle, hg, H⟩ := H.freeze
  exact ⟨G', hle, ⟨_, hg, by rw [ho], _, by rw [ho]⟩, H⟩
/-- a list without a dict of its own -/
noncomputable def Pl (G : Heap) (a : Addr) : Prop := ∃ o, G.get? a = some o ∧ o.dict = none
theorem Pl.le {G G' : Heap} {a : Addr} (h : Pl G a) (x : Le G G') : Pl G' a := let ⟨o, h1, h2⟩ := h; ⟨o, x _ _ h1, h2⟩
theorem St.frzLp {D : Addr} {xs : Array Value} (H : St w os₀ G ((D, lsP xs) :: ow) s) : ∃ G', Le G G' ∧ G'.IsList D xs ∧ Pl G' D ∧ St w os₀ G' ow s := by
  obtain ⟨o, G', ⟨k, ho⟩, hle, hg, H⟩ := H.freeze
  exact ⟨G', hle, ⟨_, hg, by rw [ho], _, by rw [ho]⟩, ⟨_, hg, by rw [ho]⟩, H⟩
noncomputable def LaidP (w : World) (os₀ : OsState) (L nl f : Addr) (mm : Str → Option Value) (rs : List (List Str)) (ns : List Str) (ow : Ow) (G2 : Heap) (fl : Flow) (s' : Shared) : Prop :=
  fl = .next ∧ ∃ G' acc out, Le G2 G' ∧ RowsL G' out (freshF rs ns ns.length) ∧ St w os₀ G' ((L, nsP (upd mm (Str.ofString "fresh") (.ref acc))) :: (acc, listP out.toArray) :: (L + 1 + 1, cellP (some (.ref nl))) :: (L + 1, cellP (some (.ref f))) :: ow) s'
theorem laid_spec {f : Addr} {rs : List (List Str)} {p : Str} {t : Tok} {k : Nat} {N : List Str} (hN : nmsF k p [] = N) (hrs : ∀ r ∈ rs, GR r) (hf : RowsAt G f rs) (hok : pathOk k p = true) (hk : k ≤ 100) (hz : rs.length ≤ 500) :
    Spec w os₀ 6 (.ref 176) [.ref f, .str p t] G (fun G' v => ∃ a, v = .ref a ∧ RowsAt G' a (rs ++ freshF rs N N.length) ∧ Pl G' a) := by
  intro A ow s Q E hA H hQ
  refine enter [(Str.ofString "found", .ref f), (Str.ofString "path", .str p t)] (fun y => if y = Str.ofString "path" then some (.str p t) else none) (fun y => if y = Str.ofString "found" then some (.ref f) else none) (fun k => [(Str.ofString "names", k + 1), (Str.ofString "found", k)]) hA H rfl rfl (fun h X => ⟨_, _, _, _, rfl, X 175 _ rfl, rfl, rfl⟩) rfl rfl rfl rfl rfl rfl (fun _ => rfl) ?_ rfl rfl (fun env L A' s₁ V hA H => ?_) (by decide +kernel) (fun _ => rfl)
  · simp only [List.mem_cons, List.not_mem_nil, or_false, forall_eq_or_imp, forall_eq]; exact ⟨.inr ⟨rfl, rfl⟩, .inl rfl⟩
  · dsimp only at V
    have H : St w os₀ G ((L, nsP fun y => if y = Str.ofString "path" then some (.str p t) else none) :: (L + 1 + 1, cellP none) :: (L + 1, cellP (some (.ref f))) :: ow) s₁ := H
    -- names = []
    refine wpAny_execs_cons (wpAny_Assign_Name (List_ (spliced_nil (newLst H fun nl s H => ?_))))
    obtain ⟨G1, hle1, hnl, H⟩ := H.asL.frzL
    refine stC V H fun s H => ?_
    refine wpAny_execs_cons (whileS (fun k G' ow' => ∃ mm p t ns nl, ow' = (L, nsP mm) :: (L + 1 + 1, cellP (some (.ref nl))) :: (L + 1, cellP (some (.ref f))) :: ow ∧ mm (Str.ofString "path") = some (.str p t) ∧ RowAt G' nl ns ∧ GR ns ∧ nmsF k p ns = N ∧ pathOk k p = true ∧ ns.length + k ≤ 100) k ⟨_, _, _, [], _, rfl, rfl, ⟨[], rfl, hnl⟩, nofun, hN, hok, by simpa using hk⟩ H ?_)
    rintro k G2 ow2 s2 ⟨mm, p, t, ns, nl, rfl, hm, hrow, hgr, hres, hok, hlen⟩ hle2 H
    refine wpAny_isTrue_Compare1 (nmL V H hm (cStr H fun _ s3 H => PySem.P.ne_str (wpAny_truthy_bool ?_)))
    cases hc : (p.cps.toList != sl.cps.toList) with
    | true =>
      refine iteT hc ?_
      have hc' : (p.cps.toList == sl.cps.toList) = false := by simpa [bne] using hc
      match k, hok, hres, hlen with
      | 0, hok, _, _ => 
        exfalso
        unfold pathOk at hok
        rw [hok] at hc'; cases hc'
      | k + 1, hok, hres, hlen =>
      unfold pathOk at hok
      rw [hc', Bool.false_or, Bool.and_eq_true, Bool.and_eq_true] at hok
      obtain ⟨⟨hpl, hnm⟩, hok⟩ := hok
      have hpl : p.length ≤ 1000 := of_decide_eq_true hpl
      have hnm : splitT p ∈ NM := by simpa using hnm
      refine wpAny_execs_cons (Assign_Tuple (callGf V H rfl rfl rfl rfl (spliced_cons (nmL V H hm (spliced_nil ⟨⟨_, _, H⟩, ?_⟩)))))
      refine split_spec hpl A' _ _ _ _ (hA.mono (by omega)) H ?_
      rintro v G3 s4 hle3 H ⟨_, hr⟩
      obtain ⟨a, ta, tb, rfl, hT⟩ : ∃ a ta tb, v = .ref a ∧ G3.IsTuple a #[.str (splitF p) ta, .str (splitT p) tb] := by
        cases hr with
        | tuple h1 h2 h3 h4 =>
          rename_i a o vs n
          obtain ⟨vs⟩ := vs
          cases h4 with
          | cons q1 q2 => cases q2 with
            | cons q3 q4 => cases q4; cases q1; cases q3; exact ⟨_, _, _, rfl, _, h1, h2, _, h3⟩
      refine assT (vs := [.str (splitF p) ta, .str (splitT p) tb]) hA H (isTuple_le hT H.le) rfl rfl fun s₃ H => ?_
      refine assignInOrder_cons (wpAny_assign_Name (stL V H fun s₄ H => assignInOrder_cons (wpAny_assign_Name (stL V H fun s₄ H => assignInOrder_nil ?_))))
      dsimp only
      -- names = [name] + names
      refine wpAny_execs_cons (wpAny_Assign_Name (wpAny_BinOp (List_ (spliced_cons (nmL V H rfl (spliced_nil (newLst H fun D s H => ?_)))))))
      obtain ⟨G4, hle4, hD, H⟩ := H.asL.frzL
      obtain ⟨lr, hlr, hnl⟩ := (hrow.le (hle3.trans hle4))
      refine nmC V H (.tail _ (.head _)) (addL (vs := [.str (splitT p) tb]) (ws := strValues lr) H (isList_le hD H.le) (isList_le hnl H.le) (fun D2 s H => ?_) (by simp [strValues, ← hlr] at hlen ⊢; omega))
      obtain ⟨G5, hle5, hD2, H⟩ := H.frzL
      refine stC V H fun s H => wpAny_execs_nil ?_
      refine ⟨.inl rfl, k, G5, _, Nat.lt_succ_self _, ⟨_, splitF p, ta, splitT p :: ns, D2, rfl, rfl, ⟨(splitT p, tb) :: lr, by simp [hlr], hD2⟩, ?_, ?_, hok, by simp; omega⟩, hle3.trans (hle4.trans hle5), H⟩
      · intro x hx
        rcases List.mem_cons.mp hx with rfl | hx
        · exact hnm
        · exact hgr x hx
      · unfold nmsF at hres
        rw [if_pos hc] at hres
        exact hres
    | false =>
      refine iteF hc ?_
      dsimp only
      have hns : ns = N := by
        cases k with
        | zero => exact hres
        | succ k => unfold nmsF at hres; rw [if_neg (by simp [hc])] at hres; exact hres
      subst hns
      obtain ⟨lr, hlr, hnl⟩ := id hrow
      have hlen' : ns.length ≤ 100 := by omega
      have hsz : (strValues lr).length = ns.length := by simp [strValues, ← hlr]
      refine wpAny_execs_cons (wpAny_mono (Q := LaidP w os₀ L nl f mm rs ns ow G2) (compU V (cl := [(Str.ofString "names", L + 1 + 1), (Str.ofString "found", L + 1)]) rfl rfl (by decide +kernel) rfl rfl (by decide +kernel) ?_) ?_ fun _ _ e => e)
      rotate_left
      · rintro fl s' ⟨rfl, G', acc, out, hle', hout, H⟩
        dsimp only
        obtain ⟨vs, hvs, hrows⟩ := (hf.le (hle1.trans (hle2.trans hle')))
        have hacc : s'.heap.IsList acc out.toArray := by
          obtain ⟨o, h1, h2, k, h3⟩ := H.own (acc, _) (.tail _ (.head _))
          exact ⟨o, h1, h2, k, h3⟩
        refine wpAny_execs_cons (wpAny_Return_some (wpAny_BinOp (nmC V H (.tail _ (.tail _ (.tail _ (.head _)))) (nmL V H rfl (addL H (isList_le hvs H.le) hacc (fun D s H => ?_) ?_)))))
        · obtain ⟨G6, hle6, hD, hpl, H⟩ := H.frzLp
          exact hQ _ G6 _ (hle1.trans (hle2.trans (hle'.trans hle6))) H.drop.drop.drop.drop ⟨D, rfl, ⟨_, hD, (hrows.append hout).le hle6⟩, hpl⟩
        · have h1 := hrows.length
          have h2 := hout.length
          have h3 := freshF_len rs ns ns.length
          omega
      refine callT1 V H rfl rfl rfl (callB V H rfl rfl rfl rfl (spliced_cons (nmC V H (.tail _ (.head _)) (spliced_nil (lenL H (isList_le hnl H.le) (by simp [hsz]; omega) fun _ s H => ?_)))))
      rw [show (((strValues lr).toArray.size : Nat) : Int) = ((ns.length : Nat) : Int) by simp [hsz]]
      refine rangeIter H (by omega) fun it s H => ?_
      refine compInU (Q := LaidP w os₀ L nl f mm rs ns ow G2) (y := Str.ofString "fresh") (ht := ?ht) srcRange hA V H ?hn (fun _ => []) ?h1 ?h2 rfl (fun C i out G' m' ow' => RowsL G' out (freshF rs ns i) ∧ ow' = (L, nsP mm) :: (L + 1 + 1, cellP (some (.ref nl))) :: (L + 1, cellP (some (.ref f))) :: ow) (fun C => ⟨.nil, rfl⟩) ?_ ?_
      case ht => intro _ _; rfl
      case hn => omega
      case h1 => intro _; rfl
      case h2 => rfl
      · rintro cenv C acc Vc i v out G' m' ow' s' hi ⟨tv, rfl⟩ ho ⟨hout, rfl⟩ hle' H
        refine wpAny_assign_Name (stL Vc H fun s H => ?_)
        refine forIn1 (sx_ifp rfl (wpAny_bind ?_))
        -- names[:k + 1]
        have hcut : ∀ (G5 : Heap) D, G5.IsList D (slicePick (strValues lr).toArray none (some (((i : Nat) : Int) + 1)) none) → RowAt G5 D (ns.take (i + 1)) := fun G5 D h => by
          rw [show (((i : Nat) : Int) + 1) = ((i + 1 : Nat) : Int) from rfl, slicePick_upto'] at h
          exact ⟨lr.take (i + 1), by rw [List.map_take, hlr], by simpa [strValues, List.map_take] using h⟩
        have hgt : GR (ns.take (i + 1)) := fun x hx => hgr x (List.mem_of_mem_take hx)
        refine wpAny_isTrue_Compare1 (slL (nmC Vc H (.tail _ (.tail _ (.tail _ (.tail _ (.head _))))) (partN (partS (wpAny_BinOp (nmL Vc H rfl (cInt H fun _ s H => addI H fun _ s H => ⟨nl, _, _, _, _, _, rfl, H, isList_le hnl (hle'.trans H.le), by simp [hsz]; omega, .none, .int _ _, fun D s H => ?_⟩)))))))
        obtain ⟨G6, hle6, hD, H⟩ := H.frzL
        have hrow6 := hcut G6 D hD
        obtain ⟨as, hrd⟩ := (hf.le (hle1.trans (hle2.trans (hle'.trans (hle6.trans H.le))))).reads
        have hrx := (hrow6.le H.le).reads
        refine nmC Vc H (.tail _ (.tail _ (.tail _ (.tail _ (.tail _ (.head _)))))) (PySem.SeqAt.notIn_list_reads hrd hrx (canLay_rows rs hrs) (canLay_row _ hgt) ?_ (wpAny_truthy_bool ?_))
        · have h1 := hA.units
          have h2 := depth_row (ns.take (i + 1))
          have h3 : min (PyData.depthAll (rs.map rowD)) (rowD (ns.take (i + 1))).depth ≤ 3 := Nat.le_trans (Nat.min_le_right _ _) h2
          show _ < 9900
          omega
        have hany : ((rs.map rowD).any fun y => y.eqv (rowD (ns.take (i + 1)))) = (rs.any fun y => y == ns.take (i + 1)) := by
          rw [List.any_map]
          congr 1
          funext y
          exact eqv_row y _
        rw [hany]
        have hfs := freshF_succ rs ns i
        cases hc4 : (rs.any fun y => y == ns.take (i + 1)) with
        | true =>
          rw [hc4, if_pos rfl, List.append_nil] at hfs
          refine wpAny_pure ?_
          refine iteF rfl ?_
          exact ⟨G6, _, _, ⟨by rw [hfs]; exact hout.le hle6, rfl⟩, hle6, H⟩
        | false =>
          rw [hc4, if_neg (by simp)] at hfs
          refine wpAny_pure ?_
          refine iteT rfl ?_
          refine slL (nmC Vc H (.tail _ (.tail _ (.tail _ (.tail _ (.head _))))) (partN (partS (wpAny_BinOp (nmL Vc H rfl (cInt H fun _ s H => addI H fun _ s H => ⟨nl, _, _, _, _, _, rfl, H, isList_le hnl (hle'.trans (hle6.trans H.le)), by simp [hsz]; omega, .none, .int _ _, fun D s H => ?_⟩))))))
          obtain ⟨G7, hle7, hD7, H⟩ := H.frzL
          exact ⟨G7, _, _, ⟨by rw [hfs]; exact (hout.le (hle6.trans hle7)).append (.cons (hcut G7 D hD7) .nil), rfl⟩, hle6.trans hle7, H⟩
      · rintro C acc out G' m' ow' ho ⟨hout, rfl⟩ hle'
        exact ⟨mm, _, .refl _, fun s' H => ⟨rfl, G', acc, out, hle', hout, H⟩⟩
end
end Mine
end

section -- S7
open PySem PySem.W PyProof.Rows PySem.W.X PySem.Calls
set_option linter.unusedVariables false
set_option maxRecDepth 100000
set_option maxHeartbeats 8000000
namespace Mine
noncomputable def laidF (rs : List (List Str)) (N : List Str) : List (List Str) := rs ++ freshF rs N N.length
theorem laidF_len (rs : List (List Str)) (N : List Str) : (laidF rs N).length ≤ rs.length + N.length := by
  unfold laidF
  have := freshF_len rs N N.length
  rw [List.length_append]; omega
theorem laidF_good {rs : List (List Str)} {N : List Str} (h : ∀ r ∈ rs, GR r) (hN : GR N) : ∀ r ∈ laidF rs N, GR r := by
  intro r hr
  rcases List.mem_append.mp hr with hr | hr
  · exact h r hr
  · unfold freshF at hr
    obtain ⟨k, hk, e⟩ := List.mem_filterMap.mp hr
    split at e
    · cases e
    · cases e; exact fun x hx => hN x (List.mem_of_mem_take hx)
theorem nmsF_good : ∀ (k : Nat) (p : Str) (ns : List Str), pathOk k p = true → GR ns → GR (nmsF k p ns)
  | 0, _, _, _, h => h
  | k + 1, p, ns, hok, h => by
    unfold nmsF
    split
    · rename_i hc
      have hc' : (p.cps.toList == sl.cps.toList) = false := by simpa [bne] using hc
      unfold pathOk at hok
      rw [hc', Bool.false_or, Bool.and_eq_true, Bool.and_eq_true] at hok
      refine nmsF_good k _ _ hok.2 fun x hx => ?_
      rcases List.mem_cons.mp hx with rfl | hx
      · simpa using hok.1.2
      · exact h x hx
    · exact h
theorem nmsF_len : ∀ (k : Nat) (p : Str) (ns : List Str), (nmsF k p ns).length ≤ ns.length + k
  | 0, _, _ => Nat.le_refl _
  | k + 1, p, ns => by
    unfold nmsF
    split
    · have := nmsF_len k (splitF p) (splitT p :: ns)
      simp only [List.length_cons] at this; omega
    · omega
section
variable {w : World} {os₀ : OsState} {G : Heap} {ow : Ow} {s : Shared} {A : Around} {E : Value → Shared → Prop}
theorem k_kindIter : builtinKind "iter" = none := by decide +kernel
theorem k_plainIter : plainId "iter" = true := by decide +kernel
theorem k_entryIter : entryFor table "iter" = some Builtin.«iter» := entryFor_of_tree (by kernel_rfl)
theorem k_argsIter (a : Value) : argsOk "iter" ⟨[a], []⟩ := by unfold argsOk; kernel_rfl
theorem iterB {l : Addr} {items : Array Value} {Q : Value → Shared → Prop} (H : St w os₀ G ow s) (hl : s.heap.IsList l items) (h : ∀ it s', St w os₀ G ((it, iterP l 0) :: ow) s' → Q (.ref it) s') :
    wpAny (model prg w) A (call (.builtin "iter") [.ref l]) Q E s := by
  refine call_function_entry k_kindIter k_plainIter k_entryIter (k_argsIter _) ?_
  unfold Builtin.«iter»
  refine wpAny_bind (wpAny_pure (wpAny_bind (iterList H hl fun it s' H => wpAny_pure ⟨_, rfl, h _ _ H⟩)))
theorem reduce_spec {lp l0 : Addr} {rs : List (List Str)} {ps : List (Str × Tok)} (hp : G.IsList lp (strValues ps).toArray) (h0 : RowsAt G l0 rs) (h0p : Pl G l0) (hrs : ∀ r ∈ rs, GR r) (hok : ∀ p ∈ ps, pathOk 4 p.1 = true) (hz : rs.length + 4 * ps.length ≤ 100) :
    Spec w os₀ 8 (.ref 37) [.ref 176, .ref lp, .ref l0] G (fun G' v => ∃ a, v = .ref a ∧ RowsAt G' a ((ps.map fun p => nmsF 4 p.1 []).foldl laidF rs) ∧ Pl G' a) := by
  intro A ow s Q E hA H hQ
  refine enterW (os₀ := os₀) [] (fun _ => []) hA (H.topH 37 _ rfl) rfl ⟨_, _, _, _, rfl, H.topH 36 _ rfl, rfl, rfl⟩ rfl rfl rfl rfl rfl (fun _ => rfl) (args := ⟨_, []⟩) ?_
  · unfold bindArgs
    refine bindE rfl ?_
    refine wpAny_bind ?_
    show wpAny _ _ (seqItems? (.ref 30)) _ _ _
    unfold seqItems?
    refine wpAny_bind (sx_loadT H rfl (sx_pure (sx_pure ?_)))
    refine wpAny_of_eq (a := [(Str.ofString "function", .ref 176), (Str.ofString "sequence", .ref lp), (Str.ofString "initial", .ref l0)]) rfl ?_
    refine ⟨_, _, H, fun env L A₁ A' s₂ V hA H => ?_⟩
    refine bindAll_cons (stL V H fun s₂ H => bindAll_cons (stL V H fun s₂ H => bindAll_cons (stL V H fun s₂ H => bindAll_nil ⟨⟨_, _, H⟩, ?_⟩)))
    dsimp only [List.append_nil] at V
    refine wpAny_execs_cons (wpAny_Assign_Name (callB V H rfl rfl rfl rfl (spliced_cons (nmL V H rfl (spliced_nil (iterB H (isList_le hp H.le) fun it s H => stL V H.swap fun s H => ?_))))))
    have hne : l0 ≠ 29 := fun q => by
      obtain ⟨vs, ⟨o, ho, hc, _⟩, _⟩ := h0
      have := H.top.k 29 _ rfl
      rw [q] at ho; rw [ho] at this
      have h9 := congrArg Obj.cls (Option.some.inj this)
      rw [hc] at h9
      injection h9 with h9
      exact absurd h9 (by decide)
    obtain ⟨o0, ho0, hc0⟩ : ∃ o, G.get? l0 = some o ∧ o.cls = .type "list" := by
      obtain ⟨vs, ⟨o, ho, hc, _⟩, _⟩ := h0
      exact ⟨o, ho, hc⟩
    refine wpAny_execs_cons (wpAny_If (wpAny_isTrue_Compare1 (nmL V H rfl (nmG V H rfl (wpAny_is_ref_other hne (H.le _ _ ho0) (H.topH 29 _ rfl) (by rw [hc0]; nofun) (wpAny_truthy_bool ?_))))))
    refine iteF rfl ?_
    refine wpAny_execs_cons (wpAny_Assign_Name (nmL V H rfl (stL V H fun s H => wpAny_execs_nil ?_)))
    dsimp only
    refine wpAny_execs_cons (wpAny_For (nmL V H rfl ?_))
    have hpl : (strValues ps).toArray.size = ps.length := by simp [strValues]
    have H := H.swap
    refine (srcList hp).again hA (Le.refl _) H ?_
    refine forS (srcList hp) hA (fun i G' ow' => ∃ mm a, ow' = (L, nsP mm) :: (cellOw (fun _ => none) [] ++ ow) ∧ mm (Str.ofString "function") = some (.ref 176) ∧ mm (Str.ofString "value") = some (.ref a) ∧ RowsAt G' a (((ps.map fun p => nmsF 4 p.1 []).take i).foldl laidF rs) ∧ Pl G' a ∧ (∀ r ∈ ((ps.map fun p => nmsF 4 p.1 []).take i).foldl laidF rs, GR r) ∧ (((ps.map fun p => nmsF 4 p.1 []).take i).foldl laidF rs).length ≤ rs.length + 4 * i) ⟨_, l0, rfl, rfl, rfl, h0, h0p, hrs, Nat.le_refl _⟩ H ?_ ?_
    · rintro i v G' ow' s' hi hv ⟨mm, a, rfl, hm1, hm2, hra, hpl0, hgr, hlen⟩ hle' H
      rw [hpl] at hi
      obtain ⟨p, tp, hpi, rfl⟩ : ∃ p tp, ps[i]? = some (p, tp) ∧ v = .str p tp := by
        simp only [strValues, List.getElem?_toArray, List.getElem?_map, Option.map_eq_some_iff] at hv
        obtain ⟨⟨c, tc⟩, hc, rfl⟩ := hv
        exact ⟨c, tc, hc, rfl⟩
      have hstep : ((ps.map fun p => nmsF 4 p.1 []).take (i + 1)).foldl laidF rs = laidF (((ps.map fun p => nmsF 4 p.1 []).take i).foldl laidF rs) (nmsF 4 p []) := by
        rw [List.take_add_one, List.foldl_append]; simp [hpi]
      have hpo := hok (p, tp) (List.mem_of_getElem? hpi)
      refine wpAny_assign_Name (stL V H.swap fun s₂ H => ?_)
      refine wpAny_execs_cons (wpAny_Assign_Name (wpAny_Call_NameR (nmL V H hm1 (callWith_function (o := _) (fd := _) (evalArgs_plain (spliced_cons (nmL V H hm2 (spliced_cons (nmL V H rfl (spliced_nil ⟨⟨H.topH 176 _ rfl, rfl⟩, ?_⟩))))))))))
      refine laid_spec rfl hgr hra hpo (by omega) (by omega) A' _ _ _ _ (hA.mono (by omega)) H ?_
      rintro v G2 s2 hle2 H ⟨b, rfl, hb, hbp⟩
      refine stL V H fun s H => wpAny_execs_nil ⟨.inl rfl, G2, _, ⟨upd (upd mm (Str.ofString "element") (.str p tp)) (Str.ofString "value") (.ref b), b, rfl, hm1, rfl, ?_, hbp, ?_, ?_⟩, hle2, H.swap⟩
      · rw [hstep]; exact hb
      · rw [hstep]; exact laidF_good hgr (nmsF_good 4 p [] hpo nofun)
      · rw [hstep]
        have h1 := laidF_len (((ps.map fun p => nmsF 4 p.1 []).take i).foldl laidF rs) (nmsF 4 p [])
        have h2 := nmsF_len 4 p []
        simp only [List.length_nil] at h2
        omega
    · rintro G' ow' s' ⟨mm, a, rfl, hm1, hm2, hra, hpl0, hgr, hlen⟩ hle' H
      dsimp only
      refine wpAny_execs_cons (wpAny_Return_some (nmL V H hm2 ?_))
      rw [hpl, List.take_of_length_le (by simp)] at hra
      exact hQ _ G' _ hle' H.drop ⟨a, rfl, hra, hpl0⟩
end
end Mine
end

section -- Pu1
open PySem PySem.W PyProof.Rows PySem.W.X PySem.Calls
set_option linter.unusedVariables false
set_option linter.unusedSectionVars false
set_option maxHeartbeats 2000000
namespace Mine
noncomputable abbrev KK := List (List (List Nat))
theorem kk_as (a b : KK) (h : a < b) : ¬ b < a := Std.Asymm.asymm _ _ h
theorem kk_tr (a b c : KK) (h : ¬ b < a) (h2 : ¬ c < b) : ¬ c < a := List.le_trans (α := List (List Nat)) h h2
theorem kk_eq (a b : KK) (h : ¬ b < a) (h2 : ¬ a < b) : a = b := List.le_antisymm (α := List (List Nat)) h h2
noncomputable def lk (x : Str) : List Nat := (Txt.lower x).cps.toList
/-- the key of a row behind p -/
noncomputable def keyA (E : List (List Str)) : List Str → List Str → KK
  | _, [] => []
  | p, x :: r => [lk x, [E.idxOf (p ++ [x])]] :: keyA E (p ++ [x]) r
noncomputable def keyF (E : List (List Str)) (r : List Str) : KK := keyA E [] r
theorem keyA_append (E : List (List Str)) : ∀ (c p t : List Str), keyA E p (c ++ t) = keyA E p c ++ keyA E (p ++ c) t
  | [], p, t => by simp [keyA]
  | x :: c, p, t => by
    simp only [List.cons_append, keyA]
    rw [keyA_append E c (p ++ [x]) t]
    simp
theorem keyF_append (E : List (List Str)) (c t : List Str) : keyF E (c ++ t) = keyF E c ++ keyA E c t := by
  unfold keyF; rw [keyA_append]; simp
theorem keyF_snoc (E : List (List Str)) (c : List Str) (x : Str) : keyF E (c ++ [x]) = keyF E c ++ [[lk x, [E.idxOf (c ++ [x])]]] := by
  rw [keyF_append]; simp [keyA]
structure GE (E : List (List Str)) : Prop where
  nd : E.Nodup
  nil : [] ∈ E
  pre : ∀ r ∈ E, ∀ k, r.take k ∈ E
  len : ∀ r ∈ E, r.length ≤ 3
  gr : ∀ r ∈ E, GR r
/-- child c comes before child c' -/
noncomputable def cLt (E : List (List Str)) (c c' : List Str) : Prop := lk (lastS c) < lk (lastS c') ∨ (lk (lastS c) = lk (lastS c') ∧ E.idxOf c < E.idxOf c')
theorem lastS_snoc (r : List Str) (x : Str) : lastS (r ++ [x]) = x := by simp [lastS]
theorem lt_ext (E : List (List Str)) (r : List Str) (x : Str) (t : List Str) : keyF E r < keyF E (r ++ x :: t) := by
  rw [keyF_append]
  have : keyF E r ++ [] < keyF E r ++ keyA E r (x :: t) := List.append_left_lt (by unfold keyA; exact List.nil_lt_cons _ _)
  simpa using this
theorem lt_sib {E : List (List Str)} {r : List Str} {x x' : Str} (h : cLt E (r ++ [x]) (r ++ [x'])) (t t' : List Str) : keyF E (r ++ [x] ++ t) < keyF E (r ++ [x'] ++ t') := by
  rw [keyF_append E (r ++ [x]) t, keyF_append E (r ++ [x']) t', keyF_snoc, keyF_snoc, List.append_assoc, List.append_assoc]
  refine List.append_left_lt ?_
  simp only [List.cons_append, List.nil_append]
  rw [List.cons_lt_cons_iff]
  left
  unfold cLt at h
  rw [lastS_snoc, lastS_snoc] at h
  rw [List.cons_lt_cons_iff]
  rcases h with h | ⟨h1, h2⟩
  · exact .inl h
  · refine .inr ⟨h1, ?_⟩
    rw [List.cons_lt_cons_iff]
    exact .inl (by rw [List.cons_lt_cons_iff]; exact .inl h2)
/-- the rows in r's folder, r first, in the order of a walk through -/
noncomputable def preF (ch : List Str → List (List Str)) : Nat → List Str → List (List Str)
  | 0, _ => []
  | d + 1, r => r :: (ch r).flatMap (preF ch d)
structure GC (E : List (List Str)) (ch : List Str → List (List Str)) : Prop where
  mem : ∀ r, ∀ c, c ∈ ch r ↔ c ∈ E ∧ ∃ x, c = r ++ [x]
  srt : ∀ r, r ∈ E → (ch r).Pairwise (cLt E)
section
variable {E : List (List Str)} {ch : List Str → List (List Str)} (hE : GE E) (hC : GC E ch)
include hE hC
theorem pre_sub : ∀ (d : Nat) (r : List Str), r ∈ E → ∀ x ∈ preF ch d r, x ∈ E ∧ ∃ t, x = r ++ t
  | 0, r, _, x, h => by cases h
  | d + 1, r, hr, x, h => by
    unfold preF at h
    rcases List.mem_cons.mp h with rfl | h
    · exact ⟨hr, [], by simp⟩
    · obtain ⟨c, hc, hx⟩ := List.mem_flatMap.mp h
      obtain ⟨h1, y, rfl⟩ := (hC.mem r c).mp hc
      obtain ⟨h2, t, rfl⟩ := pre_sub d _ h1 x hx
      exact ⟨h2, y :: t, by simp⟩
theorem pre_srt : ∀ (d : Nat) (r : List Str), r ∈ E → (preF ch d r).Pairwise fun a b => keyF E a < keyF E b
  | 0, r, _ => .nil
  | d + 1, r, hr => by
    unfold preF
    rw [List.pairwise_cons, List.pairwise_flatMap]
    refine ⟨fun x hx => ?_, fun c hc => pre_srt d c ((hC.mem r c).mp hc).1, ?_⟩
    · obtain ⟨c, hc, hx⟩ := List.mem_flatMap.mp hx
      obtain ⟨h1, y, rfl⟩ := (hC.mem r c).mp hc
      obtain ⟨h2, t, rfl⟩ := pre_sub hE hC d _ h1 x hx
      rw [List.append_assoc]
      exact lt_ext E r y t
    · refine List.Pairwise.imp_of_mem (fun {c c'} hc hc' h x hx y hy => ?_) (hC.srt r hr)
      obtain ⟨h1, a, rfl⟩ := (hC.mem r c).mp hc
      obtain ⟨h1', a', rfl⟩ := (hC.mem r c').mp hc'
      obtain ⟨h2, t, rfl⟩ := pre_sub hE hC d _ h1 x hx
      obtain ⟨h2', t', rfl⟩ := pre_sub hE hC d _ h1' y hy
      exact lt_sib h t t'
theorem pre_all : ∀ (d : Nat) (r t : List Str), r ++ t ∈ E → t.length < d → r ++ t ∈ preF ch d r
  | 0, r, t, _, h => absurd h (Nat.not_lt_zero _)
  | d + 1, r, [], h, _ => by unfold preF; simp
  | d + 1, r, x :: t, h, hl => by
    unfold preF
    refine List.mem_cons_of_mem _ (List.mem_flatMap.mpr ⟨r ++ [x], (hC.mem r _).mpr ⟨?_, x, rfl⟩, ?_⟩)
    · have := hE.pre _ h (r.length + 1)
      rwa [show (r ++ x :: t).take (r.length + 1) = r ++ [x] by rw [show r ++ x :: t = (r ++ [x]) ++ t by simp]; exact List.take_left' (by simp)] at this
    · have := pre_all d (r ++ [x]) t (by simpa using h) (by simp at hl; omega)
      simpa using this
theorem pre_perm : (preF ch 4 []).Perm E := by
  refine (List.perm_ext_iff_of_nodup ((pre_srt hE hC 4 [] hE.nil).imp fun {a b} h e => ?_) hE.nd).mpr fun x => ⟨fun h => (pre_sub hE hC 4 [] hE.nil x h).1, fun h => ?_⟩
  · subst e; exact kk_as _ _ h h
  · have := pre_all hE hC 4 [] x h (by have := hE.len x h; omega)
    simpa using this
theorem keyF_inj {a b : List Str} (ha : a ∈ E) (hb : b ∈ E) (h : keyF E a = keyF E b) : a = b := by
  rcases List.eq_nil_or_concat a with rfl | ⟨a, x, rfl⟩
  · rcases List.eq_nil_or_concat b with rfl | ⟨b, y, rfl⟩
    · rfl
    · rw [List.concat_eq_append, keyF_snoc] at h
      simp [keyF, keyA] at h
  · rcases List.eq_nil_or_concat b with rfl | ⟨b, y, rfl⟩
    · rw [List.concat_eq_append, keyF_snoc] at h
      simp [keyF, keyA] at h
    · rw [List.concat_eq_append, List.concat_eq_append] at *
      rw [keyF_snoc, keyF_snoc] at h
      have h2 := List.append_inj_right' h rfl
      simp only [List.cons.injEq, and_true] at h2
      have h3 := h2.2
      have e1 := List.idxOf_lt_length_of_mem ha
      have e2 := List.idxOf_lt_length_of_mem hb
      have q1 : E[E.idxOf (a ++ [x])] = a ++ [x] := List.getElem_idxOf e1
      have q2 : E[E.idxOf (b ++ [y])] = b ++ [y] := List.getElem_idxOf e2
      rw [← q1, ← q2]
      congr 1
/-- any sorted arrangement of E is the walk through -/
theorem pre_uniq {T : List (List Str)} (hp : T.Perm E) (hs : T.Pairwise fun a b => ¬ keyF E b < keyF E a) : T = preF ch 4 [] := by
  refine List.Perm.eq_of_pairwise (le := fun a b => ¬ keyF E b < keyF E a) (fun a b ha hb h1 h2 => ?_) hs ((pre_srt hE hC 4 [] hE.nil).imp fun {a b} h => kk_as _ _ h) (hp.trans (pre_perm hE hC).symm)
  exact keyF_inj hE hC (hp.mem_iff.mp ha) (pre_sub hE hC 4 [] hE.nil b hb).1 (kk_eq _ _ h1 h2)
end
end Mine
end

section -- S9
open PySem PySem.W PyProof.Rows PySem.W.X PySem.Calls
set_option linter.unusedVariables false
set_option maxRecDepth 100000
set_option maxHeartbeats 2000000
namespace Mine
/-- a name as _escape_attrib writes it -/
noncomputable def escF (x : Str) : Str := (NM.zip [Str.ofString "a", Str.ofString "B&amp;&amp;&quot;&quot;", Str.ofString "b&amp;&amp;&quot;&quot;", Str.ofString "c&lt;&quot;&lt;", Str.ofString "A&gt;&gt;&#13;&#13;&#10;&#10;&#09;&#09;"]).lookup x |>.getD Str.empty
noncomputable def repF (x y z : Str) : Str := if Txt.contains x y = true then Txt.replace x y z else x
noncomputable def e1F (x : Str) : Str := repF x (Str.ofString "&") (Str.ofString "&amp;")
noncomputable def e2F (x : Str) : Str := repF (e1F x) (Str.ofString "<") (Str.ofString "&lt;")
noncomputable def e3F (x : Str) : Str := repF (e2F x) (Str.ofString ">") (Str.ofString "&gt;")
noncomputable def e4F (x : Str) : Str := repF (e3F x) (Str.ofString "\"") (Str.ofString "&quot;")
noncomputable def e5F (x : Str) : Str := repF (e4F x) (Str.ofString "\r") (Str.ofString "&#13;")
noncomputable def e6F (x : Str) : Str := repF (e5F x) (Str.ofString "\n") (Str.ofString "&#10;")
noncomputable def e7F (x : Str) : Str := repF (e6F x) (Str.ofString "\t") (Str.ofString "&#09;")
noncomputable def lowB (x : Str) : Bool := Nat.ble x.length 100
theorem esc_low : ∀ x ∈ Str.empty :: NM, (lowB x && lowB (e1F x) && lowB (e2F x) && lowB (e3F x) && lowB (e4F x) && lowB (e5F x) && lowB (e6F x)) = true ∧ e7F x = escF x := by decide +kernel
section
variable {w : World} {os₀ : OsState} {G : Heap} {ow : Ow} {s : Shared} {A : Around} {n : Nat} {env : Env} {E : Value → Shared → Prop} {L : Addr} {m : Str → Option Value} {names : List (Str × NameKind)} {cs : List (Str × Addr)} {code : Value} {qual : Str}
/-- if 'y' in text: text = text.replace('y', 'z') -/
theorem escStep {x y z nm : Str} {t : Tok} {p1 p2 p3 p4 p5 p6 p7 p8 p9 pa pb : Pos} {Q : Flow → Shared → Prop} (V : EV env L names cs code qual) (hn : names.lookup nm = some .local) (hd : (nm == ("__debug__" : Str)) = false) (H : St w os₀ G ((L, nsP m) :: ow) s) (hm : m nm = some (.str x t)) (hx : lowB x = true) (hyz : (y == z) = false) (hz : Nat.ble z.length 14 = true) (hline : (p6.endLine == p9.line) = true)
    (h : ∀ t' m' s', m' nm = some (.str (repF x y z) t') → St w os₀ G ((L, nsP m') :: ow) s' → Q .next s') :
    wpAny (model prg w) A (PySem.exec (.If (.Compare (.Constant (.str y) 0 p1) [.In] [.Name nm p2] p3) [.Assign [.Name nm p4] (.Call (.Attribute (.Name nm p5) "replace" p6) [.Constant (.str y) 0 p7, .Constant (.str z) 0 p8] [] p9) pa] [] pb) env) Q E s := by
  have hx : x.length ≤ 100 := Nat.le_of_ble_eq_true hx
  have hz : z.length ≤ 14 := Nat.le_of_ble_eq_true hz
  refine wpAny_If (wpAny_isTrue_Compare1 (wpAny_Constant_str (nmL V (H.tok _) hm (SB.contains (wpAny_truthy_bool ?_)) hn hd)))
  cases hc : Txt.contains x y with
  | false =>
    refine iteF rfl (wpAny_execs_nil ?_)
    exact h t m _ (by unfold repF; rw [hc, if_neg (by simp)]; exact hm) (H.tok _)
  | true =>
    refine iteT rfl (wpAny_execs_cons (wpAny_Assign_Name (Call_method2 rfl rfl hline (nmL V (H.tok _) hm ⟨"str", _, F.plainAttrs_str, F.slot_str_replace, F.type_str_replace, typeIs_str _ _ _, (fun _ e => nomatch e), ?_⟩ hn hd))))
    refine callWith_builtin rfl (evalArgs_plain (spliced_cons (wpAny_Constant_str (spliced_cons (wpAny_Constant_str (spliced_nil ?_))))))
    refine SC.replaceW (by simp) (by simp) (by simp) hyz (by omega) hz fun t' k => stL V (H.tok k) (fun s H => wpAny_execs_nil ?_) hn
    exact h t' _ _ (by unfold repF; rw [hc, if_pos rfl]; unfold upd; rw [if_pos rfl]) H
theorem esc_at {x : Str} {t : Tok} (hx : x ∈ Str.empty :: NM) : Spec w os₀ 1 (.ref 166) [.str x t] G (fun _ v => ∃ u, v = .str (escF x) u) := by
  intro A ow s Q E hA H hQ
  obtain ⟨hl, he⟩ := esc_low x hx
  simp only [Bool.and_eq_true] at hl
  obtain ⟨⟨⟨⟨⟨⟨l0, l1⟩, l2⟩, l3⟩, l4⟩, l5⟩, l6⟩ := hl
  refine enter [(Str.ofString "text", .str x t)] (fun y => if y = Str.ofString "text" then some (.str x t) else none) (fun _ => none) (fun _ => []) hA H rfl rfl (fun h X => ⟨_, _, _, _, rfl, X 165 _ rfl, rfl, rfl⟩) rfl rfl rfl rfl rfl rfl (fun _ => rfl) ?_ rfl rfl (fun env L A' s₁ V hA H => ?_) .nil (fun _ => rfl)
  · simp only [List.mem_singleton, forall_eq]; exact .inl rfl
  · dsimp only at V
    have H : St w os₀ G ((L, nsP fun y => if y = Str.ofString "text" then some (.str x t) else none) :: ow) s₁ := H
    refine wpAny_execs_cons (wpAny_Try_except (wpAny_execs_cons (escStep V rfl rfl H rfl l0 (by decide +kernel) rfl rfl fun t1 m1 s hm H => ?_)))
    refine wpAny_execs_cons (escStep V rfl rfl H hm l1 (by decide +kernel) rfl rfl fun t2 m2 s hm H => ?_)
    refine wpAny_execs_cons (escStep V rfl rfl H hm l2 (by decide +kernel) rfl rfl fun t3 m3 s hm H => ?_)
    refine wpAny_execs_cons (escStep V rfl rfl H hm l3 (by decide +kernel) rfl rfl fun t4 m4 s hm H => ?_)
    refine wpAny_execs_cons (escStep V rfl rfl H hm l4 (by decide +kernel) rfl rfl fun t5 m5 s hm H => ?_)
    refine wpAny_execs_cons (escStep V rfl rfl H hm l5 (by decide +kernel) rfl rfl fun t6 m6 s hm H => ?_)
    refine wpAny_execs_cons (escStep V rfl rfl H hm l6 (by decide +kernel) rfl rfl fun t7 m7 s hm H => ?_)
    refine wpAny_execs_cons (wpAny_Return_some (nmL V H hm ?_))
    exact hQ _ G _ (Le.refl _) H.drop ⟨t7, by rw [← he]; rfl⟩
end
end Mine
end

section -- Pu2
open PySem PySem.W PyProof.Rows PySem.W.X PySem.Calls
set_option linter.unusedVariables false
set_option linter.unusedSectionVars false
set_option maxHeartbeats 2000000
namespace Mine
noncomputable def emS : Str := Str.ofString ""
theorem emS_eq : emS = Str.empty := by decide +kernel
noncomputable def clS : Str := Str.ofString "</d>"
noncomputable def o1S : Str := Str.ofString "<d n=\""
noncomputable def o2S : Str := Str.ofString "\" k=\""
noncomputable def o3S : Str := Str.ofString "\">"
noncomputable def decS (i : Nat) : Str := Str.ofString (toString (i : Int))
theorem joinE_nil : Txt.join emS [] = Str.empty := rfl
theorem joinE_cons (x : Str) (r : List Str) : Txt.join emS (x :: r) = x ++ Txt.join emS r := by
  show Builtin.Str.glued emS (x :: r) = x ++ Builtin.Str.glued emS r
  rw [StrLaws.glued_eq_join, StrLaws.glued_eq_join]
  cases r with
  | nil => exact (Str.append_empty x).symm
  | cons y r =>
    show x ++ emS ++ Str.join emS (y :: r) = _
    rw [emS_eq, Str.append_empty]
/-- n ends -/
noncomputable def endsF : Nat → Str
  | 0 => Str.empty
  | n + 1 => endsF n ++ clS
theorem endsF_add (a : Nat) : ∀ b, endsF (a + b) = endsF a ++ endsF b
  | 0 => (Str.append_empty _).symm
  | b + 1 => by
    show endsF (a + b) ++ clS = endsF a ++ (endsF b ++ clS)
    rw [endsF_add a b, Str.append_assoc]
theorem rep_fold (x : Array Nat) : ∀ (n : Nat) (a : Array Nat), (List.replicate n x).foldl (· ++ ·) a = a ++ (List.replicate n x).foldl (· ++ ·) #[]
  | 0, a => by simp
  | n + 1, a => by
    rw [List.replicate_succ, List.foldl_cons, List.foldl_cons, rep_fold x n (a ++ x), rep_fold x n (#[] ++ x)]
    simp
theorem endsF_rep : ∀ n, (⟨(List.replicate n clS.cps).foldl (· ++ ·) #[]⟩ : Str) = endsF n
  | 0 => rfl
  | n + 1 => by
    rw [show n + 1 = 1 + n by omega, endsF_add 1 n, ← endsF_rep n]
    refine Str.ext' ?_
    rw [show 1 + n = n + 1 by omega, List.replicate_succ, List.foldl_cons, rep_fold]
    show #[] ++ clS.cps ++ _ = ((Str.empty ++ clS) ++ _ : Str).cps
    rw [Str.empty_append, Str.cps_append]
    simp
theorem clS_len : clS.length = 4 := by decide +kernel
theorem mul_ends (n : Nat) : Txt.mul clS (n : Int) = endsF n := by
  unfold Txt.mul
  split
  · have : n = 0 := by omega
    subst this; rfl
  · split
    · rename_i h1 h2
      rw [clS_len] at h2
      have h2 : (n : Int) = 1 := by simpa using h2
      have : n = 1 := by omega
      subst this
      show clS = Str.empty ++ clS
      rw [Str.empty_append]
    · rw [Int.toNat_natCast]; exact endsF_rep n
/-- a row's own beginning behind M -/
noncomputable def opG (E : List (List Str)) (M : Str) (r : List Str) : Str := M ++ o1S ++ escF (lastS r) ++ o2S ++ decS (E.idxOf r) ++ o3S
noncomputable def opF (E : List (List Str)) (r : List Str) : Str := o1S ++ escF (lastS r) ++ o2S ++ decS (E.idxOf r) ++ o3S
theorem opG_eq (E : List (List Str)) (M : Str) (r : List Str) : opG E M r = M ++ opF E r := by
  unfold opG opF; simp only [Str.append_assoc]
/-- the text as _law_written writes it -/
noncomputable def wrF (E : List (List Str)) (ch : List Str → List (List Str)) : Nat → List Str → Str
  | 0, _ => Str.empty
  | d + 1, r => opF E r ++ Txt.join emS ((ch r).map (wrF E ch d)) ++ clS
/-- one turn of _law_told's loop -/
noncomputable def tdS (E : List (List Str)) (acc : Str × Nat) (r : List Str) : Str × Nat := (acc.1 ++ opG E (Txt.mul clS ((acc.2 : Int) - (r.length : Int))) r, r.length + 1)
noncomputable def tdF (E T : List (List Str)) : Str := (T.foldl (tdS E) (emS, 0)).1 ++ Txt.mul clS ((T.foldl (tdS E) (emS, 0)).2 : Int)
section
variable {E : List (List Str)} {ch : List Str → List (List Str)}
theorem tdS_eq {t : Str} {k : Nat} {r : List Str} (h : r.length ≤ k) : tdS E (t, k) r = (t ++ (endsF (k - r.length) ++ opF E r), r.length + 1) := by
  unfold tdS
  dsimp only
  rw [show ((k : Int) - (r.length : Int)) = ((k - r.length : Nat) : Int) by omega, mul_ends, opG_eq]
theorem join_none : ∀ cs : List (List Str), Txt.join emS (cs.map (wrF E ch 0)) = Str.empty
  | [] => rfl
  | c :: cs => by
    rw [List.map_cons, joinE_cons, join_none cs]; exact Str.append_empty _
theorem fold_list {d m : Nat} (hn : ∀ (r : List Str) (t : Str) (k : Nat), r.length ≤ k → ∃ X k', (preF ch (d + 1) r).foldl (tdS E) (t, k) = (t ++ (endsF (k - r.length) ++ X), k') ∧ r.length ≤ k' ∧ X ++ endsF (k' - r.length) = wrF E ch (d + 1) r) :
    ∀ (cs : List (List Str)), (∀ c ∈ cs, c.length = m) → ∀ (t : Str) (k : Nat), m ≤ k → ∃ X k', (cs.flatMap (preF ch (d + 1))).foldl (tdS E) (t, k) = (t ++ X, k') ∧ m ≤ k' ∧ X ++ endsF (k' - m) = endsF (k - m) ++ Txt.join emS (cs.map (wrF E ch (d + 1)))
  | [], _, t, k, hk => ⟨Str.empty, k, by rw [Str.append_empty]; rfl, hk, by
      rw [Str.empty_append]; exact (Str.append_empty _).symm⟩
  | c :: cs, hc, t, k, hk => by
    have hcm := hc c (.head _)
    obtain ⟨X, k', e, h1, h2⟩ := hn c t k (by omega)
    rw [hcm] at e h1 h2
    obtain ⟨X', k'', e', h1', h2'⟩ := fold_list hn cs (fun x hx => hc x (.tail _ hx)) (t ++ (endsF (k - m) ++ X)) k' h1
    refine ⟨endsF (k - m) ++ X ++ X', k'', ?_, h1', ?_⟩
    · rw [List.flatMap_cons, List.foldl_append, e, e', Str.append_assoc]
    · rw [List.map_cons, joinE_cons, Str.append_assoc, h2', ← h2]
      simp only [Str.append_assoc]
theorem fold_pre (hl : ∀ r c, c ∈ ch r → c.length = r.length + 1) : ∀ (d : Nat) (r : List Str) (t : Str) (k : Nat), r.length ≤ k → ∃ X k', (preF ch (d + 1) r).foldl (tdS E) (t, k) = (t ++ (endsF (k - r.length) ++ X), k') ∧ r.length ≤ k' ∧ X ++ endsF (k' - r.length) = wrF E ch (d + 1) r
  | 0, r, t, k, hk => by
    refine ⟨opF E r, r.length + 1, ?_, by omega, ?_⟩
    · have : preF ch 1 r = [r] := by
        unfold preF
        congr 1
        simp [preF]
      rw [this, List.foldl_cons, List.foldl_nil, tdS_eq hk]
    · rw [show r.length + 1 - r.length = 0 + 1 by omega]
      unfold wrF
      rw [join_none, Str.append_empty]
      show opF E r ++ (Str.empty ++ clS) = _
      rw [Str.empty_append]
  | d + 1, r, t, k, hk => by
    obtain ⟨X, k', e, h1, h2⟩ := fold_list (E := E) (fold_pre hl d) (ch r) (m := r.length + 1) (hl r) (t ++ (endsF (k - r.length) ++ opF E r)) (r.length + 1) (Nat.le_refl _)
    refine ⟨opF E r ++ X, k', ?_, by omega, ?_⟩
    · have : preF ch (d + 1 + 1) r = r :: (ch r).flatMap (preF ch (d + 1)) := rfl
      rw [this, List.foldl_cons, tdS_eq hk, e]
      simp only [Str.append_assoc]
    · have : wrF E ch (d + 1 + 1) r = opF E r ++ Txt.join emS ((ch r).map (wrF E ch (d + 1))) ++ clS := rfl
      rw [this, show k' - r.length = (k' - (r.length + 1)) + 1 by omega]
      show opF E r ++ X ++ (endsF (k' - (r.length + 1)) ++ clS) = _
      rw [Nat.sub_self] at h2
      have h3 : X ++ endsF (k' - (r.length + 1)) = Txt.join emS ((ch r).map (wrF E ch (d + 1))) := by rw [h2]; exact Str.empty_append _
      rw [← h3]
      simp only [Str.append_assoc]
theorem told_eq_written (hE : GE E) (hC : GC E ch) {T : List (List Str)} (hp : T.Perm E) (hs : T.Pairwise fun a b => ¬ keyF E b < keyF E a) : tdF E T = wrF E ch 4 [] := by
  rw [pre_uniq hE hC hp hs]
  obtain ⟨X, k', e, h1, h2⟩ := fold_pre (E := E) (ch := ch) (fun r c hc => by obtain ⟨_, x, rfl⟩ := (hC.mem r c).mp hc; simp) 3 [] emS 0 (Nat.le_refl _)
  unfold tdF
  rw [e]
  dsimp only
  rw [mul_ends, emS_eq, Str.empty_append]
  rw [← h2]
  show (Str.empty ++ X) ++ _ = _
  rw [Str.empty_append]; rfl
end
end Mine
end

section -- Wi
open PySem PySem.W PyProof.Rows PySem.W.X PySem.Calls
set_option linter.unusedVariables false
set_option maxHeartbeats 2000000
namespace Mine
/-- the rows that lie straight in row -/
noncomputable def inF (row one : List Str) : Bool := ((one.length : Int) == (row.length : Int) + 1) && (one.take row.length == row)
noncomputable def withinF (rs : List (List Str)) (row : List Str) : List (List Str) := rs.filter (inF row)
theorem within_succ {rs : List (List Str)} {row r : List Str} {i : Nat} (h : rs[i]? = some r) : withinF (rs.take (i + 1)) row = withinF (rs.take i) row ++ if inF row r = true then [r] else [] := by
  unfold withinF
  rw [List.take_add_one, h, List.filter_append]
  simp only [Option.toList_some, List.filter_cons, List.filter_nil]
theorem inF_iff {r c : List Str} : inF r c = true ↔ ∃ x, c = r ++ [x] := by
  unfold inF
  rw [Bool.and_eq_true, beq_iff_eq, beq_iff_eq]
  constructor
  · rintro ⟨h1, h2⟩
    have hl : (c.drop r.length).length = 1 := by rw [List.length_drop]; omega
    obtain ⟨x, hx⟩ := List.length_eq_one_iff.mp hl
    exact ⟨x, by rw [← hx]; conv => lhs; rw [← List.take_append_drop r.length c, h2]⟩
  · rintro ⟨x, rfl⟩
    exact ⟨by simp, by simp⟩
theorem mem_within {E : List (List Str)} {r c : List Str} : c ∈ withinF E r ↔ c ∈ E ∧ ∃ x, c = r ++ [x] := by
  unfold withinF
  rw [List.mem_filter, inF_iff]
end Mine
end

section -- C2
open PySem PySem.W PyProof.Rows PySem.W.X PySem.Calls
set_option linter.unusedVariables false
set_option maxRecDepth 100000
set_option maxHeartbeats 2000000
namespace Mine
open PySem.Builtin
theorem k_sn_str : typeLookup (.type "str") (Str.ofString "__set_name__") = Sem.pure none := by rw [typeLookup_type, builtinLookup_eq_fast]; kernel_rfl
theorem k_sn_int : typeLookup (.type "int") (Str.ofString "__set_name__") = Sem.pure none := by rw [typeLookup_type, builtinLookup_eq_fast]; kernel_rfl
theorem k_sn_list : typeLookup (.type "list") (Str.ofString "__set_name__") = Sem.pure none := by rw [typeLookup_type, builtinLookup_eq_fast]; kernel_rfl
theorem k_sn_function : typeLookup (.type "function") (Str.ofString "__set_name__") = Sem.pure none := by rw [typeLookup_type, builtinLookup_eq_fast]; kernel_rfl
theorem k_sn_none : typeLookup (.type "NoneType") (Str.ofString "__set_name__") = Sem.pure none := by rw [typeLookup_type, builtinLookup_eq_fast]; kernel_rfl
theorem k_sn_tuple : typeLookup (.type "tuple") (Str.ofString "__set_name__") = Sem.pure none := by rw [typeLookup_type, builtinLookup_eq_fast]; kernel_rfl
theorem k_sn_md : typeLookup (.type "member_descriptor") (Str.ofString "__set_name__") = Sem.pure none := by rw [typeLookup_type, builtinLookup_eq_fast]; kernel_rfl
theorem k_eqNone : typeOf .none = Sem.pure (.type "NoneType") := rfl
section
variable {w : World} {os₀ : OsState} {G : Heap} {ow : Ow} {A : Around} {E : Value → Shared → Prop} {s : Shared} {n : Nat}
theorem x_endN {Q : Value → Shared → Prop} {h' : Heap} {t : Nat} {a : Addr} {o : Obj} {news : List (Addr × Obj)} (hQ : ∀ a s', St w os₀ G ((a, objP o) :: ow) s' → Q (.ref a) s') (H : St w os₀ G ow s) (D : Mem s.heap h' [] news) (hm : (a, o) ∈ news) : Q (.ref a) ⟨h', s.gens, s.drawn, t, s.os⟩ := by
  refine hQ _ _ ⟨H.top, fun b o' e => D.keep b o' (H.le b o' e) (by simp [away]), fun p hp => ?_, fun p hp => ?_, ?_, H.gens, H.os⟩
  · rcases List.mem_cons.mp hp with rfl | hp
    · exact ⟨o, (D.nw _ hm).1, rfl⟩
    · obtain ⟨o', ho, h⟩ := H.own p hp
      exact ⟨o', D.keep _ _ ho (by simp [away]), h⟩
  · rcases List.mem_cons.mp hp with rfl | hp
    · cases hg : G.get? a with
      | none => rfl
      | some o' => have := (D.nw _ hm).2; rw [H.le _ _ hg] at this; cases this
    · exact H.off p hp
  · rw [List.map_cons, List.nodup_cons]
    refine ⟨fun hx => ?_, H.nd⟩
    obtain ⟨p, hp, e⟩ := List.mem_map.mp hx
    obtain ⟨o', ho, _⟩ := H.own p hp
    have := (D.nw _ hm).2
    dsimp only at e this
    rw [← e, ho] at this; cases this
local macro_rules | `(tactic| x_close) => `(tactic| (exact x_endN (by assumption) (by assumption) (by assumption) (.head _)))
theorem superNew {C : Addr} {cd : ClassData} {sl : Array (Option Value)} {Q : Value → Shared → Prop} (hA : AOk n A) (H : St w os₀ G ow s) (hC : s.heap.get? C = some { cls := .type "type", data := .cls cd, slots := sl }) (hm : cd.mro = [.ref C, .type "object"])
   (hQ : ∀ so s', St w os₀ G ((so, objP { cls := .type "super", data := .fields #[.ref C, .ref C, .ref C] }) :: ow) s' → Q (.ref so) s') : wpAny (model prg w) A (call (.type "super") [.ref C, .ref C]) Q E s := by
  obtain ⟨nm, bs, mro, ns, q, hdct, sn, sub, ab, col, del⟩ := cd
  dsimp only at hm
  subst hm
  refine of_AA hA ?_
  have KX := H.topH
  x_run
end
end Mine
end

section -- C3
open PySem PySem.W PyProof.Rows PySem.W.X PySem.Calls
set_option linter.unusedVariables false
set_option maxRecDepth 100000
set_option maxHeartbeats 2000000
namespace Mine
open PySem.Builtin
section
variable {w : World} {os₀ : OsState} {G : Heap} {ow : Ow} {A : Around} {E : Value → Shared → Prop} {s : Shared} {n : Nat}
theorem St.getO {a : Addr} {o : Obj} (H : St w os₀ G ow s) (hm : (a, objP o) ∈ ow) : s.heap.get? a = some o := by
  obtain ⟨o', ho, e⟩ := H.own _ hm
  cases e; exact ho
local macro_rules | `(tactic| x_close) => `(tactic| first | exact x_endN (by assumption) (by assumption) (by assumption) (.head _) | exact x_endT (by assumption) (by assumption) | exact x_endS (by assumption) (by assumption) (by assumption))
theorem getSub {C n1 : Addr} {sl : Array (Option Value)} {Q : Value → Shared → Prop} (hA : AOk n A) (H : St w os₀ G ow s)
   (hC : s.heap.get? C = some { cls := .type "type", data := .cls (kCd n1 [.ref C, .type "object"] false [Str.ofString "obj"]), slots := sl })
   (hQ : ∀ so s', St w os₀ G ((so, objP { cls := .type "builtin_function_or_method", data := .fields #[.builtin "object.__init_subclass__", .ref C] }) :: ow) s' → Q (.ref so) s') : wpAny (model prg w) A (call (.builtin "classmethod_descriptor.__get__") [.builtin "object.__init_subclass__", .none, .ref C]) Q E s := by
  refine of_AA hA ?_
  have KX := H.topH
  x_run
theorem initSub {C b n1 : Addr} {sl : Array (Option Value)} {Q : Value → Shared → Prop} (hA : AOk n A) (H : St w os₀ G ow s) (hb : s.heap.get? b = some { cls := .type "builtin_function_or_method", data := .fields #[.builtin "object.__init_subclass__", .ref C] })
   (hC : s.heap.get? C = some { cls := .type "type", data := .cls (kCd n1 [.ref C, .type "object"] false [Str.ofString "obj"]), slots := sl })
   (hQ : ∀ s', St w os₀ G ow s' → Q .none s') : wpAny (model prg w) A (call (.ref b) []) Q E s := by
  refine of_AA hA ?_
  have KX := H.topH
  x_run
theorem eqE {α : Type} {M : Model} {t t' : Sem α} {Q : α → Shared → Prop} (h : t = t') (k : wpAny M A t' Q E s) : wpAny M A t Q E s := by rw [h]; exact k
theorem forInL {γ α : Type} {M : Model} {l l' : List γ} {init : α} {f : γ → α → Sem (ForInStep α)} {Q : α → Shared → Prop} (hl : l = l') (h : wpAny M A (forIn l' init f) Q E s) : wpAny M A (forIn l init f) Q E s := by subst hl; exact h
theorem notOpaque {what how : String} {C : Addr} {Q : Unit → Shared → Prop} (H : St w os₀ G ow s) (hQ : Q () s) : wpAny (model prg w) A (notOfAnOpaqueClass what how (.ref C)) Q E s := by
  unfold notOfAnOpaqueClass opaqueClassAbove anyOpaqueLoaded
  refine wpAny_bind ?_
  refine wpAny_bind (wpAny_bind ?_)
  unfold nsGet
  refine sx_loadT H (a := 2) rfl ?_
  refine sx_pure (sx_pure ?_)
  refine sx_ifp (by simp) (sx_pure (sx_pure hQ))
theorem superGa {C n1 so : Addr} {sl : Array (Option Value)} {tk : Tok} {Q : Fin → Shared → Prop} (hA : AOk n A) (H : St w os₀ G ow s) (hso : (so, objP { cls := .type "super", data := .fields #[.ref C, .ref C, .ref C] }) ∈ ow)
   (hC : (C, objP { cls := .type "type", data := .cls (kCd n1 [.ref C, .type "object"] false [Str.ofString "obj"]), slots := sl }) ∈ ow)
   (hQ : ∀ b s', St w os₀ G ((b, objP { cls := .type "builtin_function_or_method", data := .fields #[.builtin "object.__init_subclass__", .ref C] }) :: ow) s' → Q (.done (.ret (.ref b))) s') :
   wpAny (model prg w) A (Builtin.«super.__getattribute__» ⟨[.ref so, .str (Str.ofString "__init_subclass__") tk], []⟩) Q E s := by
  unfold Builtin.«super.__getattribute__»
  refine bindE (v := some (Str.ofString "__init_subclass__")) rfl ?_
  refine sx_ifn (by decide) ?_
  refine bindE (v := some (Str.ofString "__init_subclass__")) rfl ?_
  refine wpAny_bind (wpAny_field (H.getO hso) rfl rfl (wpAny_bind (wpAny_field (H.getO hso) rfl rfl (wpAny_bind (wpAny_field (H.getO hso) rfl rfl ?_)))))
  refine sx_ifn (by simp; decide +kernel) ?_
  refine wpAny_bind (notOpaque H ?_)
  refine sx_ifn (by simp) ?_
  refine wpAny_bind ?_
  unfold mroOf classData
  refine wpAny_bind (wpAny_bind (sx_loadO H hC (sx_pure (sx_pure (sx_pure ?_)))))
  have e1 : List.drop 1 (List.dropWhile (fun x => x != #[Value.ref C, Value.ref C, Value.ref C][0]) (kCd n1 [.ref C, .type "object"] false [Str.ofString "obj"]).mro) = [.type "object"] := by
    simp [kCd]
  refine wpAny_bind (forInL e1 (forIn1 ?_))
  refine bindE (v := some (.builtin "object.__init_subclass__")) (by kernel_rfl) ?_
  refine bindE (v := .type "classmethod_descriptor") (by kernel_rfl) ?_
  refine bindE (v := some (.builtin "classmethod_descriptor.__get__")) (by rw [typeLookup_type, builtinLookup_eq_fast]; kernel_rfl) ?_
  refine wpAny_bind (wpAny_holding ?_)
  have e2 : (if (#[Value.ref C, Value.ref C, Value.ref C][1] == #[Value.ref C, Value.ref C, Value.ref C][2]) = true then Value.none else #[Value.ref C, Value.ref C, Value.ref C][1]) = Value.none := by simp
  rw [show (#[Value.ref C, Value.ref C, Value.ref C][2] : Value) = .ref C from rfl] at *
  refine eqE (congrArg (fun v => call (.builtin "classmethod_descriptor.__get__") [.builtin "object.__init_subclass__", v, .ref C]) e2) ?_
  refine getSub hA H (H.getO hC) fun b s H => ?_
  refine bindE rfl ?_
  exact sx_pure (sx_pure (hQ _ _ H))
end
end Mine
end

section -- L3b
open PySem PySem.W PyProof.Rows PySem.W.X PySem.Calls
set_option linter.unusedVariables false
set_option maxRecDepth 100000
set_option maxHeartbeats 2000000
namespace Mine
open PySem.Builtin
theorem forInAll {w : World} {os₀ : OsState} {G : Heap} {ow : Ow} {A : Around} {E : Value → Shared → Prop} {γ β : Type} {b : β} {f : γ → β → Sem (ForInStep β)} {Q : β → Shared → Prop} : ∀ {l : List γ} {s : Shared} (H : St w os₀ G ow s) (step : ∀ x ∈ l, ∀ s, St w os₀ G ow s → wpAny (model prg w) A (f x b) (fun r s' => r = .yield b ∧ St w os₀ G ow s') E s) (fin : ∀ s, St w os₀ G ow s → Q b s), wpAny (model prg w) A (forIn l b f) Q E s
  | [], s, H, _, fin => by rw [List.forIn_nil]; exact wpAny_pure (fin _ H)
  | x :: l, s, H, step, fin => by
    rw [List.forIn_cons]
    refine wpAny_bind (wpAny_mono (step x (.head _) s H) (fun r s' h => ?_) fun _ _ x => x)
    obtain ⟨rfl, H'⟩ := h
    exact forInAll H' (fun y hy => step y (.tail _ hy)) fin
noncomputable def kCo (C n1 bt : Addr) (t u1 : Tok) : Obj := { cls := .type "type", data := .cls (kCd n1 [.ref C, .type "object"] false [Str.ofString "obj"]), slots := #[some (.ref bt), none, some (.str (Str.ofString "K") t), some (.str (Str.ofString "cmp_to_key.<locals>.K") u1), some (.builtin "object.__new__"), some (.bool false)] }
noncomputable def kMd (C : Addr) (t20 : Tok) : Obj := { cls := .type "member_descriptor", data := .fields #[.str (Str.ofString "obj") t20, .ref C, .builtin "proto.slot", .builtin "proto.slot#set", rawInt 0] }
noncomputable def kN (md sl sa f1 f2 f3 f4 f5 f6 : Addr) (e0 e2 e3 e4 e5 e6 e7 e8 e9 e10 e11 e12 e13 : Int) (t0 t2 t3 t4 t5 t6 t7 t8 t9 t10 t11 t12 t13 u0 u2 : Tok) : Array DictEntry := #[
  ⟨e0, .str (Str.ofString "__module__") t0, .str (Str.ofString "cpy313.functools") u0⟩,
  ⟨e2, .str (Str.ofString "__firstlineno__") t2, .int 7 u2⟩,
  ⟨e3, .str (Str.ofString "__slots__") t3, .ref sl⟩,
  ⟨e4, .str (Str.ofString "__init__") t4, .ref f1⟩,
  ⟨e5, .str (Str.ofString "__lt__") t5, .ref f2⟩,
  ⟨e6, .str (Str.ofString "__gt__") t6, .ref f3⟩,
  ⟨e7, .str (Str.ofString "__eq__") t7, .ref f4⟩,
  ⟨e8, .str (Str.ofString "__le__") t8, .ref f5⟩,
  ⟨e9, .str (Str.ofString "__ge__") t9, .ref f6⟩,
  ⟨e10, .str (Str.ofString "__hash__") t10, .none⟩,
  ⟨e11, .str (Str.ofString "__static_attributes__") t11, .ref sa⟩,
  ⟨e12, .str (Str.ofString "obj") t12, .ref md⟩,
  ⟨e13, .str (Str.ofString "__doc__") t13, .none⟩]
theorem setNameNone {w : World} {A : Around} {E : Value → Shared → Prop} {s : Shared} {v : Value} {T : String} {Q : Option Value → Shared → Prop} (hT : ∀ Q : Value → Shared → Prop, Q (.type T) s → wpAny (model prg w) A (typeOf v) Q E s) (hl : typeLookup (.type T) (Str.ofString "__set_name__") = Sem.pure none) (h : Q none s) : wpAny (model prg w) A (specialOf v (Str.ofString "__set_name__")) Q E s := by
  unfold specialOf
  exact wpAny_bind (hT _ (wpAny_of_eq hl h))
theorem l3 {w : World} {os₀ : OsState} {G : Heap} {ow : Ow} {s : Shared} {A : Around} {Q : Fin → Shared → Prop} {E : Value → Shared → Prop} {bt n0 sl sa f1 f2 f3 f4 f5 f6 : Addr} {fd1 fd2 fd3 fd4 fd5 fd6 : FuncData} {t t0 t1 t2 t3 t4 t5 t6 t7 t8 t9 t10 t11 u0 u1 u2 u3 : Tok} {e0 e1 e2 e3 e4 e5 e6 e7 e8 e9 e10 e11 : Int} {k n : Nat} {u4 : Tok}
   (H : St w os₀ G ow s) (hbt : G.get? bt = some { cls := .type "tuple", data := .seq #[.type "object"] })
   (hn0 : G.get? n0 = some { cls := .type "dict", data := .dict (kEs sl sa f1 f2 f3 f4 f5 f6 e0 e1 e2 e3 e4 e5 e6 e7 e8 e9 e10 e11 t0 t1 t2 t3 t4 t5 t6 t7 t8 t9 t10 t11 u0 u1 u2) k })
   (hsl : G.get? sl = some { cls := .type "list", data := .seq #[.str (Str.ofString "obj") u3] }) (hne : (n0 == sysModules) = false)
   (h1 : G.get? f1 = some (fnO fd1)) (h2 : G.get? f2 = some (fnO fd2)) (h3 : G.get? f3 = some (fnO fd3)) (h4 : G.get? f4 = some (fnO fd4)) (h5 : G.get? f5 = some (fnO fd5)) (h6 : G.get? f6 = some (fnO fd6)) (hsa : G.get? sa = some { cls := .type "tuple", data := .seq #[.str (Str.ofString "obj") u4] }) (hA : AOk (n + 2) A)
   (hQ : ∀ C n1 md e12 e13 t12 t13 t20 s', St w os₀ G ((md, objP (kMd C t20)) :: (C, objP (kCo C n1 bt t u1)) :: (n1, objP { cls := .type "dict", data := .dict (kN md sl sa f1 f2 f3 f4 f5 f6 e0 e2 e3 e4 e5 e6 e7 e8 e9 e10 e11 e12 e13 t0 t2 t3 t4 t5 t6 t7 t8 t9 t10 t11 t12 t13 u0 u2) 3 }) :: ow) s' → Q (.done (.ret (.ref C))) s') :
   wpAny (model prg w) A (Builtin.«type.__new__» ⟨[.type "type", .str (Str.ofString "K") t, .ref bt, .ref n0], []⟩) Q E s := by
  unfold Builtin.«type.__new__»
  refine bindE (v := some (Str.ofString "K")) rfl ?_
  refine wpAny_bind (wpAny_bind (typeG H hbt (wpAny_of_eq isSubtype_tuple_tuple ?_)))
  refine sx_ifn (by decide) ?_
  refine wpAny_bind (wpAny_bind (typeG H hn0 (wpAny_of_eq isSubtype_dict_dict ?_)))
  refine sx_ifn (by decide) ?_
  refine wpAny_bind (sx_loadG H hbt (sx_pure ?_))
  refine sx_ifn (by decide) ?_
  refine wpAny_bind (forIn1 ?_)
  refine bindE (v := true) rfl ?_
  refine sx_ifn (by decide) (sx_pure ?_)
  dsimp -zeta only
  refine wpAny_bind (forIn1 ?_)
  refine bindE k_typeObj (bindE k_subTT (sx_ifp rfl (sx_pure ?_)))
  dsimp -zeta only
  refine sx_ifn (by decide) ?_
  rw [show (if ((some #[Value.type "object"]).getD #[]).toList.isEmpty = true then [Value.type "object"] else ((some #[Value.type "object"]).getD #[]).toList) = [Value.type "object"] from rfl]
  refine wpAny_bind ?_
  refine wpAny_mono (Q := fun _ s' => St w os₀ G ow s') ?_ (fun _ s H => ?_) fun _ _ x => x
  · unfold notOverATurnedClass
    refine wpAny_bind (forIn1 ?_)
    refine bindE (v := true) rfl (sx_ifp rfl ?_)
    refine bindE k_mroObj (wpAny_bind (forIn2 (sx_pure (forIn1 (sx_pure (sx_pure (sx_pure H)))))))
  · refine bindE k_extended ?_
    refine sx_ifn (by rw [hne]; simp) ?_
    refine wpAny_bind (wpAny_dictEntries (H.le _ _ hn0) rfl ?_)
    refine wpAny_bind (wpAny_bind (typeG H hn0 (wpAny_of_eq k_iterDict ?_)))
    refine sx_ifp (by simp) ?_
    refine bindE rfl ?_
    refine wpAny_bind (wpAny_holding (slotsRead H hsl fun s H => ?_))
    refine wpAny_bind (newO H (fun n1 s H => ?_) (by show (12 : Nat) ≤ _; rw [sizeLine_eq]; decide))
    refine sx_ifn (by
      have : (kEs sl sa f1 f2 f3 f4 f5 f6 e0 e1 e2 e3 e4 e5 e6 e7 e8 e9 e10 e11 t0 t1 t2 t3 t4 t5 t6 t7 t8 t9 t10 t11 u0 u1 u2).any (fun x => x.key.isStr (Str.ofString "__module__")) = true := by rw [← Array.any_toList]; rfl
      dsimp only
      rw [this]; simp) ?_
    refine wpAny_bind (sx_ifn (by decide +kernel) (sx_pure ?_))
    refine sx_ifn (by decide +kernel) ?_
    refine wpAny_bind (nsGetO H (.head _) rfl ?_)
    refine wpAny_bind (nsGetO H (.head _) rfl ?_)
    refine bindE (v := some (Str.ofString "cmp_to_key.<locals>.K")) rfl (bindE rfl ?_)
    refine wpAny_bind (nsGetO H (.head _) rfl ?_)
    refine wpAny_bind (sx_alloc H (fun C s H => sx_pure ?_))
    refine sx_ifp (by simp) ?_
    refine wpAny_bind (slotSet 0 0 #[some (.ref bt)] H rfl fun s H => ?_)
    refine wpAny_bind (slotSet 0 2 #[some (.ref bt), none, some (.str (Str.ofString "K") t)] H rfl fun s H => ?_)
    refine wpAny_bind (slotSet 0 3 #[some (.ref bt), none, some (.str (Str.ofString "K") t), some (.str (Str.ofString "cmp_to_key.<locals>.K") u1)] H rfl fun s H => ?_)
    have H : St w os₀ G ((C, objP { cls := .type "type", data := .cls (kCd n1 [] true []), slots := #[some (.ref bt), none, some (.str (Str.ofString "K") t), some (.str (Str.ofString "cmp_to_key.<locals>.K") u1)] }) ::
      (n1, objP { cls := .type "dict", data := .dict (kEs sl sa f1 f2 f3 f4 f5 f6 e0 e1 e2 e3 e4 e5 e6 e7 e8 e9 e10 e11 t0 t1 t2 t3 t4 t5 t6 t7 t8 t9 t10 t11 u0 u1 u2) }) :: ow) s := H
    refine wpAny_bind (nsDelO 1 H rfl rfl fun s H => ?_)
    have H : St w os₀ G ((C, objP { cls := .type "type", data := .cls (kCd n1 [] true []), slots := #[some (.ref bt), none, some (.str (Str.ofString "K") t), some (.str (Str.ofString "cmp_to_key.<locals>.K") u1)] }) ::
      (n1, objP { cls := .type "dict", data := .dict (kN1 sl sa f1 f2 f3 f4 f5 f6 e0 e2 e3 e4 e5 e6 e7 e8 e9 e10 e11 t0 t2 t3 t4 t5 t6 t7 t8 t9 t10 t11 u0 u2) 1 }) :: ow) s := H
    refine wpAny_bind (nsGetO H (.tail _ (.head _)) rfl ?_)
    refine wpAny_bind (forIn2 ?_)
    refine wpAny_bind (nsGetO H (.tail _ (.head _)) rfl (sx_pure (forIn1 ?_)))
    refine wpAny_bind (nsGetO H (.tail _ (.head _)) rfl (sx_pure ?_))
    refine wpAny_bind (nsGetO H (.tail _ (.head _)) rfl ?_)
    refine wpAny_bind (nsGetO H (.tail _ (.head _)) rfl ?_)
    refine bindE k_mroHook ?_
    refine bindE k_linearize (bindE rfl ?_)
    refine bindE (v := false) ?_ ?_
    · rw [show List.filter (fun x => x != Value.ref C) [.ref C, .type "object"] = [.type "object"] from by simp]; kernel_rfl
    have hdel : (kEs sl sa f1 f2 f3 f4 f5 f6 e0 e1 e2 e3 e4 e5 e6 e7 e8 e9 e10 e11 t0 t1 t2 t3 t4 t5 t6 t7 t8 t9 t10 t11 u0 u1 u2).any (fun x => x.key.isStr (Str.ofString "__del__")) = false := by rw [← Array.any_toList]; rfl
    dsimp -zeta only
    rw [hdel]
    refine wpAny_bind (clsUpd 0 H rfl (fun s H => ?_) (by rfl))
    have H : St w os₀ G ((C, objP { cls := .type "type", data := .cls (kCd n1 [.ref C, .type "object"] true []), slots := #[some (.ref bt), none, some (.str (Str.ofString "K") t), some (.str (Str.ofString "cmp_to_key.<locals>.K") u1)] }) ::
      (n1, objP { cls := .type "dict", data := .dict (kN1 sl sa f1 f2 f3 f4 f5 f6 e0 e2 e3 e4 e5 e6 e7 e8 e9 e10 e11 t0 t2 t3 t4 t5 t6 t7 t8 t9 t10 t11 u0 u2) 1 }) :: ow) s := H
    refine bindE k_madeBy ?_
    refine wpAny_bind (slotSet 0 4 #[some (.ref bt), none, some (.str (Str.ofString "K") t), some (.str (Str.ofString "cmp_to_key.<locals>.K") u1), some (.builtin "object.__new__")] H rfl fun s H => ?_)
    refine wpAny_bind ?_
    refine wpAny_mono (Q := fun _ s' => s' = s) ?_ (fun _ s' e => ?_) fun _ _ x => x
    · unfold Bind.refreshMaker
      refine wpAny_bind (slotGet 4 H (.head _) ?_)
      refine sx_ifn (by show ¬ (false = true); decide) ?_
      refine wpAny_bind (lookC H (.head _) rfl rfl rfl (.tail _ (.head _)) rfl ?_)
      rw [show builtinOwn "object" (Str.ofString "__new__") = some (.builtin "object.__new__") from by kernel_rfl]
      exact sx_ifn (by decide +kernel) (sx_pure rfl)
    subst e
    refine wpAny_bind ?_
    unfold Slots.install
    refine wpAny_mono (Q := fun _ s' => ∃ md hh t20 t21, St w os₀ G ((md, objP { cls := .type "member_descriptor", data := .fields #[.str (Str.ofString "obj") t20, .ref C, .builtin "proto.slot", .builtin "proto.slot#set", rawInt 0] }) ::
      (C, objP { cls := .type "type", data := .cls (kCd n1 [.ref C, .type "object"] false [Str.ofString "obj"]), slots := #[some (.ref bt), none, some (.str (Str.ofString "K") t), some (.str (Str.ofString "cmp_to_key.<locals>.K") u1), some (.builtin "object.__new__")] }) ::
      (n1, objP { cls := .type "dict", data := .dict ((kN1 sl sa f1 f2 f3 f4 f5 f6 e0 e2 e3 e4 e5 e6 e7 e8 e9 e10 e11 t0 t2 t3 t4 t5 t6 t7 t8 t9 t10 t11 u0 u2).push ⟨hh, .str (Str.ofString "obj") t21, .ref md⟩) 2 }) :: ow) s') ?_ (fun _ s e => ?_) fun _ _ x => x
    · refine wpAny_bind (forIn1 ?_)
      refine wpAny_bind (nsGetO H (.tail _ (.head _)) rfl ?_)
      refine sx_ifp rfl ?_
      refine wpAny_bind (sx_fresh H fun t20 s H => sx_pure ?_)
      refine wpAny_bind (newO H (fun md s H => ?_))
      refine wpAny_bind ?_
      unfold nsSetByValue
      refine wpAny_bind (sx_loadO H (.tail _ (.tail _ (.head _))) (sx_pure ?_))
      refine sx_ifn (by show ¬ ((decide ((11 : Nat) > sizeLine) && _) = true); rw [sizeLine_eq]; simp) ?_
      refine nsSetO 2 H rfl rfl (fun hh t21 s H => ?_)
      refine sx_pure ?_
      refine wpAny_bind (forIn1 (bindE k_givesDict (sx_ifn (by decide) (sx_pure ?_))))
      refine sx_ifn (by show ¬ (1 > sizeLine); rw [sizeLine_eq]; decide) ?_
      refine clsUpd 1 H rfl (fun s H => ?_) (by rfl)
      exact ⟨md, hh, t20, t21, H⟩
    obtain ⟨md, hh, t20, t21, H⟩ := e
    refine bindE k_givesWeak ?_
    refine wpAny_bind (slotSet 1 5 #[some (.ref bt), none, some (.str (Str.ofString "K") t), some (.str (Str.ofString "cmp_to_key.<locals>.K") u1), some (.builtin "object.__new__"), some (.bool false)] H rfl fun s H => ?_)
    refine sx_ifn (by decide) ?_
    refine sx_ifn (by decide) ?_
    refine wpAny_bind (nsGetO H (.tail _ (.tail _ (.head _))) rfl ?_)
    refine sx_ifp rfl ?_
    refine wpAny_bind (nsSetO 2 H rfl rfl (fun e13 t13 s H => ?_))
    have H : St w os₀ G ((md, objP (kMd C t20)) :: (C, objP (kCo C n1 bt t u1)) :: (n1, objP { cls := .type "dict", data := .dict (kN md sl sa f1 f2 f3 f4 f5 f6 e0 e2 e3 e4 e5 e6 e7 e8 e9 e10 e11 hh e13 t0 t2 t3 t4 t5 t6 t7 t8 t9 t10 t11 t21 t13 u0 u2) 3 }) :: ow) s := H
    refine wpAny_bind (nsGetO H (.tail _ (.tail _ (.head _))) rfl ?_)
    refine sx_ifp rfl ?_
    refine wpAny_bind (nsGetO H (.tail _ (.tail _ (.head _))) rfl ?_)
    refine sx_ifn (by show ¬ (false = true); decide) ?_
    refine wpAny_bind (forIn1 ?_)
    refine wpAny_bind ?_
    unfold noteSubclassOfBuiltin
    refine sx_ifp (by decide +kernel) (sx_pure (sx_pure ?_))
    dsimp -zeta only
    refine wpAny_bind (wpAny_tryCatch (wpAny_holding ?_))
    have hN : s.heap.get? n1 = _ := H.getO (.tail _ (.tail _ (.head _)))
    refine wpAny_bind (wpAny_dictEntries hN rfl (wpAny_bind (forInA rfl (forInAll H (fun x hx s H => ?_) fun s H => ?_))))
    · simp only [kN, List.mem_cons, List.not_mem_nil, or_false] at hx
      have : ∃ a t, x.key = .str a t := by
        rcases hx with rfl | rfl | rfl | rfl | rfl | rfl | rfl | rfl | rfl | rfl | rfl | rfl | rfl <;> exact ⟨_, _, rfl⟩
      obtain ⟨a, t, e⟩ := this
      refine bindE (v := some a) (by rw [e]; rfl) ?_
      exact sx_ifn (by simp) (sx_pure ⟨rfl, H⟩)
    refine sx_ifn (by decide) ?_
    have hN : s.heap.get? n1 = _ := H.getO (.tail _ (.tail _ (.head _)))
    refine wpAny_bind (wpAny_dictEntries hN rfl (wpAny_bind (forInA rfl (forInAll H (fun x hx s H => ?_) fun s H => ?_))))
    · simp only [kN, List.mem_cons, List.not_mem_nil, or_false] at hx
      rcases hx with rfl | rfl | rfl | rfl | rfl | rfl | rfl | rfl | rfl | rfl | rfl | rfl | rfl
      · exact sx_ifn (by show ¬ (false = true); decide) (wpAny_bind (setNameNone (fun Q h => wpAny_of_eq rfl h) k_sn_str (sx_pure ⟨rfl, H⟩)))
      · exact sx_ifn (by show ¬ (false = true); decide) (wpAny_bind (setNameNone (fun Q h => wpAny_of_eq rfl h) k_sn_int (sx_pure ⟨rfl, H⟩)))
      · exact sx_ifn (by show ¬ (false = true); decide) (wpAny_bind (setNameNone (fun Q h => typeG H hsl h) k_sn_list (sx_pure ⟨rfl, H⟩)))
      · exact sx_ifn (by show ¬ (false = true); decide) (wpAny_bind (setNameNone (fun Q h => typeG H h1 h) k_sn_function (sx_pure ⟨rfl, H⟩)))
      · exact sx_ifn (by show ¬ (false = true); decide) (wpAny_bind (setNameNone (fun Q h => typeG H h2 h) k_sn_function (sx_pure ⟨rfl, H⟩)))
      · exact sx_ifn (by show ¬ (false = true); decide) (wpAny_bind (setNameNone (fun Q h => typeG H h3 h) k_sn_function (sx_pure ⟨rfl, H⟩)))
      · exact sx_ifn (by show ¬ (false = true); decide) (wpAny_bind (setNameNone (fun Q h => typeG H h4 h) k_sn_function (sx_pure ⟨rfl, H⟩)))
      · exact sx_ifn (by show ¬ (false = true); decide) (wpAny_bind (setNameNone (fun Q h => typeG H h5 h) k_sn_function (sx_pure ⟨rfl, H⟩)))
      · exact sx_ifn (by show ¬ (false = true); decide) (wpAny_bind (setNameNone (fun Q h => typeG H h6 h) k_sn_function (sx_pure ⟨rfl, H⟩)))
      · exact sx_ifn (by show ¬ (false = true); decide) (wpAny_bind (setNameNone (fun Q h => wpAny_of_eq rfl h) k_sn_none (sx_pure ⟨rfl, H⟩)))
      · exact sx_ifn (by show ¬ (false = true); decide) (wpAny_bind (setNameNone (fun Q h => typeG H hsa h) k_sn_tuple (sx_pure ⟨rfl, H⟩)))
      · exact sx_ifn (by show ¬ (false = true); decide) (wpAny_bind (setNameNone (fun Q h => typeO H (.head _) h) k_sn_md (sx_pure ⟨rfl, H⟩)))
      · exact sx_ifn (by show ¬ (false = true); decide) (wpAny_bind (setNameNone (fun Q h => wpAny_of_eq rfl h) k_sn_none (sx_pure ⟨rfl, H⟩)))
    refine wpAny_bind (superNew hA H (H.getO (.tail _ (.head _))) rfl fun so s H => ?_)
    refine wpAny_bind (wpAny_holding ?_)
    unfold getAttr
    refine wpAny_bind (sx_fresh H fun tk s H => sx_pure ?_)
    unfold getAttrBy
    refine wpAny_holding (wpAny_bind (typeO H (.head _) ?_))
    refine wpAny_bind (wpAny_of_eq F.ks_slot_super_ga.lookup ?_)
    refine sx_ifn (by show ¬ ((false && _) = true); simp) ?_
    unfold getAttrByItsOwn hookBefore callGetattribute boundAndCalled
    refine bindE rfl ?_
    refine wpAny_bind (wpAny_attempt (wpAny_holding ?_))
    refine sx_ifn (by decide) ?_
    refine wpAny_bind (wpAny_of_eq (F.ks_slot_super_ga.bind _) ?_)
    refine wpAny_call_entry F.ks_slot_super_ga ⟨_, H.getO (.head _), rfl⟩ F.ks_entry_super_ga ?_ (F.ks_gaArgs_super _ _)
    refine superGa hA.in1 H (.head _) (.tail _ (.tail _ (.head _))) fun b s H => ?_
    refine ⟨_, rfl, ?_⟩
    refine wpAny_pure ?_
    refine wpAny_bind ?_
    refine wpAny_mono (initSub (n1 := n1) hA H (H.getO (.head _)) (H.getO (.tail _ (.tail _ (.tail _ (.head _))))) (Q := fun _ s' => St w os₀ G _ s') fun s H => H) (fun v s H => ?_) fun _ _ x => x
    refine sx_pure (sx_pure ?_)
    exact hQ _ _ _ _ _ _ _ _ _ H.drop.drop
end Mine
end

section -- L2
open PySem PySem.W PyProof.Rows PySem.W.X PySem.Calls
set_option linter.unusedVariables false
set_option maxRecDepth 100000
set_option maxHeartbeats 2000000
namespace Mine
open PySem.Builtin
theorem k_mroType : mroOf (.type "type") = Sem.pure [.type "type", .type "object"] := by rw [mroOf_type]; kernel_rfl
theorem k_madeType : Bind.madeBy (.type "type") = Sem.pure (some "type.__new__") := by kernel_rfl
theorem k_checkType (a b c : Value) : checkTypeCall "type" ⟨[a, b, c], []⟩ = Sem.pure () := by kernel_rfl
theorem k_newType (a b c : Value) : checkBuiltinCall "type.__new__" ⟨[.type "type", a, b, c], []⟩ = Sem.pure () := by kernel_rfl
theorem k_entryNew : entryFor table "type.__new__" = some Builtin.«type.__new__» := entryFor_of_tree (by kernel_rfl)
theorem k_plainNew : plainId "type.__new__" = true := by decide +kernel
theorem k_slotInit : Slot "type" "__init__" "type.__init__" := .of (owner := "type") (n := "__init__") (by rw [typeLookup_type, builtinLookup_eq_fast]; kernel_rfl) (by decide +kernel) (by decide +kernel) (by decide +kernel) (by decide +kernel) k_subTT
theorem k_entryInit : entryFor table "type.__init__" = some Builtin.«type.__init__» := entryFor_of_tree (by kernel_rfl)
theorem k_argsInit (o a b c : Value) : argsOk "type.__init__" ⟨[o, a, b, c], []⟩ := by unfold argsOk; kernel_rfl
theorem l2 {w : World} {os₀ : OsState} {G : Heap} {ow : Ow} {s : Shared} {A : Around} {Q : Value → Shared → Prop} {E : Value → Shared → Prop} {bt n0 sl sa f1 f2 f3 f4 f5 f6 : Addr} {fd1 fd2 fd3 fd4 fd5 fd6 : FuncData} {t t0 t1 t2 t3 t4 t5 t6 t7 t8 t9 t10 t11 u0 u1 u2 u3 : Tok} {e0 e1 e2 e3 e4 e5 e6 e7 e8 e9 e10 e11 : Int} {k n : Nat} {u4 : Tok}
   (H : St w os₀ G ow s) (hbt : G.get? bt = some { cls := .type "tuple", data := .seq #[.type "object"] })
   (hn0 : G.get? n0 = some { cls := .type "dict", data := .dict (kEs sl sa f1 f2 f3 f4 f5 f6 e0 e1 e2 e3 e4 e5 e6 e7 e8 e9 e10 e11 t0 t1 t2 t3 t4 t5 t6 t7 t8 t9 t10 t11 u0 u1 u2) k })
   (hsl : G.get? sl = some { cls := .type "list", data := .seq #[.str (Str.ofString "obj") u3] }) (hne : (n0 == sysModules) = false)
   (h1 : G.get? f1 = some (fnO fd1)) (h2 : G.get? f2 = some (fnO fd2)) (h3 : G.get? f3 = some (fnO fd3)) (h4 : G.get? f4 = some (fnO fd4)) (h5 : G.get? f5 = some (fnO fd5)) (h6 : G.get? f6 = some (fnO fd6)) (hsa : G.get? sa = some { cls := .type "tuple", data := .seq #[.str (Str.ofString "obj") u4] }) (hA : AOk (n + 4) A)
   (hQ : ∀ C n1 md e12 e13 t12 t13 t20 s', St w os₀ G ((md, objP (kMd C t20)) :: (C, objP (kCo C n1 bt t u1)) :: (n1, objP { cls := .type "dict", data := .dict (kN md sl sa f1 f2 f3 f4 f5 f6 e0 e2 e3 e4 e5 e6 e7 e8 e9 e10 e11 e12 e13 t0 t2 t3 t4 t5 t6 t7 t8 t9 t10 t11 t12 t13 u0 u2) 3 }) :: ow) s' → Q (.ref C) s') :
   wpAny (model prg w) A (call (.type "type") [.str (Str.ofString "K") t, .ref bt, .ref n0]) Q E s := by
  refine wpAny_call (codeAny_of_tree ?_)
  show wpAny _ _ (callAny (.type "type") _) _ _ _
  refine wpAny_pure ⟨Code.quiet_builtin _ (by decide +kernel), codeAny_builtin F.entry_type_call ?_⟩
  rw [Around.under_plain (weight_type_call_type "type" _ []) rfl]
  have hA1 : AOk (n + 3) A.in1 := hA.in1
  unfold Builtin.«type.__call__»
  refine sx_ifp (by decide) ?_
  refine sx_ifn (by simp) ?_
  refine sx_ifn (by simp) ?_
  refine sx_ifn (by decide +kernel) ?_
  refine wpAny_bind (wpAny_of_eq (k_checkType _ _ _) ?_)
  refine bindE k_mroType ?_
  refine sx_ifn (by simp) ?_
  refine bindE k_madeType ?_
  refine bindE rfl ?_
  refine wpAny_bind (wpAny_holding (wpAny_call (codeAny_call_builtin k_plainNew k_entryNew (wpAny_of_eq (k_newType _ _ _) ?_))))
  refine l3 H hbt hn0 hsl hne h1 h2 h3 h4 h5 h6 hsa hA1.in1 fun C n1 md e12 e13 t12 t13 t20 s H => ?_
  refine wpAny_bind (wpAny_bind (typeO H (.tail _ (.head _)) (wpAny_of_eq k_subTT ?_)))
  refine sx_ifn (by simp) ?_
  refine wpAny_bind (wpAny_holding (wpAny_callSpecial?_slot ⟨_, H.getO (.tail _ (.head _)), rfl⟩ k_slotInit (wpAny_call_entry k_slotInit ⟨_, H.getO (.tail _ (.head _)), rfl⟩ k_entryInit ?_ (k_argsInit _ _ _ _))))
  unfold Builtin.«type.__init__»
  refine sx_ifn (by simp) ?_
  refine sx_ifn (by simp) ?_
  refine wpAny_pure ⟨_, rfl, ?_⟩
  refine sx_ifn (by simp) ?_
  exact wpAny_pure (hQ _ _ _ _ _ _ _ _ _ H)
end Mine
end

section -- Code
open PySem PySem.W PyProof.Rows PySem.W.X PySem.Calls
set_option linter.unusedVariables false
set_option maxRecDepth 100000
set_option maxHeartbeats 2000000
namespace Mine
noncomputable def tabO (ps : Array Value) : Obj := { cls := .none, data := .fields ps }
/-- the record of a code object, its table at P -/
noncomputable def CodeF (G : Heap) (c P : Addr) (qual : Str) : Prop := ∃ o vs file tf flags tg inF text tt t, G.get? c = some o ∧ o.cls = .type "code" ∧ o.data = .fields vs ∧ vs.getD 11 .none = .ref P ∧ vs[11]? = some (.ref P) ∧ vs.getD 18 .none = .str file tf ∧ vs.getD 7 .none = .int flags tg ∧ vs.getD 9 .none = .bool inF ∧ vs.getD 10 .none = .int text tt ∧ vs[1]? = some (.str qual t) ∧ c ≠ P
theorem CodeF.le {G G' : Heap} {c P : Addr} {q : Str} (h : CodeF G c P q) (x : Le G G') : CodeF G' c P q := let ⟨o, vs, file, tf, flags, tg, inF, text, tt, t, a, r⟩ := h; ⟨o, vs, file, tf, flags, tg, inF, text, tt, t, x _ _ a, r⟩
theorem CodeF.rec {G : Heap} {c P : Addr} {q : Str} (h : CodeF G c P q) : G.CodeRec (.ref c) q := let ⟨o, vs, file, tf, flags, tg, inF, text, tt, t, a, b, d, _, _, _, _, _, _, e, _⟩ := h; ⟨c, o, vs, t, rfl, a, d, e⟩
theorem CodeF.isCode {G : Heap} {c P : Addr} {q : Str} {ps : Array Value} (h : CodeF G c P q) (ht : G.get? P = some (tabO ps)) (htr : TriplesOk ps.toList) : G.IsCode c P ps :=
  let ⟨o, vs, file, tf, flags, tg, inF, text, tt, t, a, b, d, e1, e1', e2, e3, e4, e5, e, hne⟩ := h
  ⟨o, vs, file, tf, flags, tg, inF, text, tt, _, a, d, e1, e2, e3, e4, e5, ht, rfl, htr, hne⟩
theorem CodeF.tab {G : Heap} {c P : Addr} {q : Str} {ps : Array Value} (h : CodeF G c P q) (ht : G.get? P = some (tabO ps)) : G.TableAt c P ps :=
  let ⟨o, vs, file, tf, flags, tg, inF, text, tt, t, a, b, d, e1, e1', e2, e3, e4, e5, e, hne⟩ := h
  ⟨⟨o, vs, a, b, d, e1'⟩, ht⟩
theorem codeF_of {h : Heap} {c P : Addr} {q : Str} {ps : Array Value} (h1 : h.IsCode c P ps) (h2 : h.TableAt c P ps) (h3 : h.CodeRec (.ref c) q) : CodeF h c P q := by
  obtain ⟨o, vs, file, tf, flags, tg, inF, text, tt, op, ho, hd, h11, e2, h7, h9, h10, hop, hpd, htr, hne⟩ := h1
  obtain ⟨⟨o', vs', ho', hc', hd', h11'⟩, _⟩ := h2
  obtain ⟨c', o2, vs2, t, e, ho2, hd2, hq⟩ := h3
  cases e
  rw [ho] at ho' ho2
  cases ho'; cases ho2
  rw [hd] at hd' hd2
  cases hd'; cases hd2
  exact ⟨o, vs, file, tf, flags, tg, inF, text, tt, t, ho, hc', hd, h11, h11', e2, h7, h9, h10, hq, hne⟩
section
variable {w : World} {os₀ : OsState} {G : Heap} {ow : Ow} {s : Shared} {A : Around} {n : Nat} {a : Addr} {o : Obj}
theorem St.adopt (H : St w os₀ G ow s) (ha : s.heap.get? a = some o) (hn : ∀ p ∈ ow, p.1 ≠ a) : ∃ G', Le G G' ∧ G'.get? a = some o ∧ St w os₀ G' ow s := by
  have hfr := St.notFreed ha
  have hle : Le G (addObj G a o) := fun b o' e => by
    rw [addObj_get hfr]
    by_cases hb : b = a
    · subst hb; rw [if_pos rfl]; have := H.le _ _ e; rw [ha] at this; exact this
    · rw [if_neg hb]; exact e
  refine ⟨addObj G a o, hle, by rw [addObj_get hfr, if_pos rfl], H.top.keeps hle, fun b o' e => ?_, H.own, fun p hp => ?_, H.nd, H.gens, H.os⟩
  · rw [addObj_get hfr] at e
    by_cases hb : b = a
    · subst hb; rw [if_pos rfl] at e; cases e; exact ha
    · rw [if_neg hb] at e; exact H.le b o' e
  · rw [addObj_get hfr, if_neg (hn p hp)]; exact H.off p hp
theorem St.take (H : St w os₀ G ow s) (ha : s.heap.get? a = some o) (hn : ∀ p ∈ ow, p.1 ≠ a) (hg : G.get? a = none) : St w os₀ G ((a, objP o) :: ow) s := by
  refine ⟨H.top, H.le, fun p hp => ?_, fun p hp => ?_, ?_, H.gens, H.os⟩
  · rcases List.mem_cons.mp hp with rfl | hp
    · exact ⟨o, ha, rfl⟩
    · exact H.own p hp
  · rcases List.mem_cons.mp hp with rfl | hp
    · exact hg
    · exact H.off p hp
  · rw [List.map_cons, List.nodup_cons]
    refine ⟨fun hx => ?_, H.nd⟩
    obtain ⟨p, hp, e⟩ := List.mem_map.mp hx
    exact hn p hp e
theorem St.updExt {P P' : Obj → Prop} {h' : Heap} {t : Nat} (H : St w os₀ G ((a, P) :: ow) s) (hs : Heap.ExtBut a s.heap h') (hP : ∃ o, h'.get? a = some o ∧ P' o) : St w os₀ G ((a, P') :: ow) { s with heap := h', toks := t } := by
  have hn := List.nodup_cons.mp (show ((a, P).1 :: ow.map (·.1)).Nodup from H.nd)
  refine ⟨H.top, fun b o' e => ?_, fun p hp => ?_, fun p hp => ?_, H.nd, H.gens, H.os⟩
  · have hb : b ≠ a := fun q => by rw [q, H.off _ (.head _)] at e; cases e
    exact hs b o' hb (H.le b o' e)
  · rcases List.mem_cons.mp hp with rfl | hp
    · exact hP
    · obtain ⟨o', ho, h⟩ := H.own p (.tail _ hp)
      have hb : p.1 ≠ a := fun q => hn.1 (List.mem_map.mpr ⟨p, hp, q⟩)
      exact ⟨o', hs _ _ hb ho, h⟩
  · rcases List.mem_cons.mp hp with rfl | hp
    · exact H.off (a, P) (.head _)
    · exact H.off p (.tail _ hp)
theorem St.none_of_le {b : Addr} (H : St w os₀ G ow s) (h : s.heap.objs.size ≤ b) : G.get? b = none := by
  cases hg : G.get? b with
  | none => rfl
  | some o => exact absurd (Heap.lt_size (H.le _ _ hg)) (Nat.not_lt.mpr h)

/-- a function's code that the table does not hold yet -/
theorem fcMiss {env : Env} {c P : Addr} {q qual : Str} {ps : Array Value} {pos : Pos} {firstLine : Nat} {name : Str} {p : Arguments} {scope : Scope} {body : FuncBody} {E Q : Value → Shared → Prop} (hc : env.code = .ref c) (H : St w os₀ G ((P, objP (tabO ps)) :: ow) s) (hF : CodeF G c P q) (htr : TriplesOk ps.toList) (hnf : codeAmong pos ps.toList = none)
    (hQ : ∀ c' P' G' s', Le G G' → CodeF G' c' P' qual → St w os₀ G' ((P, objP (tabO (ps ++ #[rawInt pos.line, rawInt pos.col, .ref c']))) :: ow) s' → Q (.ref c') s') :
    wpAny (model prg w) A (functionCode env pos firstLine name qual p scope body) Q E s := by
  have hF' := hF.le H.le
  have hP := H.getO (.head _)
  refine wpAny_functionCodeX hc (hF'.isCode hP htr) (hF'.tab hP) hnf fun c' h' tk hx hge hlt hcode hrec htab hnew => ?_
  obtain ⟨P', hP', i1, i2⟩ := hnew
  have hf := codeF_of i1 i2 hrec
  obtain ⟨o, vs, file, tf, flags, tg, inF, text, tt, t, ho, r⟩ := hf
  have H1 := H.updExt (t := tk) (P' := objP (tabO (ps ++ #[rawInt pos.line, rawInt pos.col, .ref c']))) hx ⟨_, htab.2, rfl⟩
  obtain ⟨G', hle, hg, H2⟩ := H1.adopt (a := c') ho (fun p hp => by
    rcases List.mem_cons.mp hp with rfl | hp
    · exact Nat.ne_of_lt (Nat.lt_of_lt_of_le (H.lt (p := (P, objP (tabO ps))) (.head _)) hge)
    · exact Nat.ne_of_lt (Nat.lt_of_lt_of_le (H.lt (.tail _ hp)) hge))
  exact hQ c' P' G' _ hle ⟨o, vs, file, tf, flags, tg, inF, text, tt, t, hg, r⟩ H2
theorem fcHit {env : Env} {c P : Addr} {q : Str} {ps : Array Value} {pos : Pos} {firstLine : Nat} {name qual : Str} {p : Arguments} {scope : Scope} {body : FuncBody} {v : Value} {E Q : Value → Shared → Prop} (hc : env.code = .ref c) (H : St w os₀ G ow s) (hF : CodeF G c P q) (ht : G.get? P = some (tabO ps)) (htr : TriplesOk ps.toList) (hf : codeAmong pos ps.toList = some v)
    (hQ : Q v s) : wpAny (model prg w) A (functionCode env pos firstLine name qual p scope body) Q E s :=
  wpAny_functionCode_hit hc ((hF.le H.le).isCode (H.le _ _ ht) htr) hf hQ
theorem ccHit {env : Env} {c P : Addr} {q : Str} {ps : Array Value} {pos : Pos} {firstLine : Nat} {name qual : Str} {scope : Scope} {v : Value} {E Q : Value → Shared → Prop} (hc : env.code = .ref c) (H : St w os₀ G ow s) (hF : CodeF G c P q) (ht : G.get? P = some (tabO ps)) (htr : TriplesOk ps.toList) (hf : codeAmong pos ps.toList = some v)
    (hQ : Q v s) : wpAny (model prg w) A (classCode env pos firstLine name qual scope) Q E s :=
  wpAny_codeAt_hit hc ((hF.le H.le).isCode (H.le _ _ ht) htr) hf hQ
theorem ccMiss {env : Env} {c P : Addr} {q qual : Str} {ps : Array Value} {pos : Pos} {firstLine : Nat} {name : Str} {scope : Scope} {E Q : Value → Shared → Prop} (hc : env.code = .ref c) (H : St w os₀ G ((P, objP (tabO ps)) :: ow) s) (hF : CodeF G c P q) (htr : TriplesOk ps.toList) (hnf : codeAmong pos ps.toList = none)
    (hQ : ∀ c' P' G' s', Le G G' → CodeF G' c' P' qual → St w os₀ G' ((P', objP (tabO #[])) :: (P, objP (tabO (ps ++ #[rawInt pos.line, rawInt pos.col, .ref c']))) :: ow) s' → Q (.ref c') s') :
    wpAny (model prg w) A (classCode env pos firstLine name qual scope) Q E s := by
  obtain ⟨o, vs, file, tf, flags, tg, inF, text, tt, t, ho, hcls, hd, e11, e11', e18, e7, e9, e10, e1, hne⟩ := hF
  unfold classCode codeAt
  rw [hc]
  refine sx_ifn (by simp) ?_
  refine wpAny_bind (wpAny_fieldsOf (H.le _ _ ho) hd ?_)
  rw [e11]
  refine wpAny_bind (wpAny_fieldsOf (H.getO (.head _)) rfl ?_)
  rw [hnf, e18, e7, e9, e10]
  refine wpAny_bind (wpAny_newCodeX fun c' P' h' tk hk hc' hP' hcode htab hrec => ?_)
  obtain ⟨o2, vs2, file2, tf2, flags2, tg2, inF2, text2, tt2, t2, ho2, r2⟩ := codeF_of hcode htab hrec
  have H1 := H.keep (t := tk) hk
  have hlt : ∀ p ∈ ((P, objP (tabO ps)) :: ow : Ow), p.1 < s.heap.objs.size := fun p hp => H.lt hp
  have hcP : c' ≠ P' := r2.2.2.2.2.2.2.2.2.2
  have H2 : St w os₀ G ((P', objP (tabO #[])) :: (P, objP (tabO ps)) :: ow) _ := H1.take htab.2 (fun p hp => Nat.ne_of_lt (Nat.lt_of_lt_of_le (hlt p hp) hP')) (H.none_of_le hP')
  obtain ⟨G', hle, hg, H3⟩ := H2.adopt (a := c') ho2 fun p hp => by
    rcases List.mem_cons.mp hp with rfl | hp
    · exact fun e => hcP e.symm
    · exact Nat.ne_of_lt (Nat.lt_of_lt_of_le (hlt p hp) hc')
  refine wpAny_bind (wpAny_updateFieldsOfTheText (H3.getO (.tail _ (.head _))) rfl ?_)
  have H4 : St w os₀ G' ((P', objP (tabO #[])) :: (P, objP (tabO (ps ++ #[rawInt pos.line, rawInt pos.col, .ref c']))) :: ow) _ := H3.updAt (i := 1) (t := tk) (h' := h'.update P (Obj.mapFields fun vs => if (codeAmong pos vs.toList).isSome then vs else vs ++ #[rawInt pos.line, rawInt pos.col, .ref c'])) rfl sameBut_upd ⟨_, Heap.get?_update_self _ (H3.getO (.tail _ (.head _))) (by simp only [tabO, Obj.mapFields]; rfl), by
    simp only [tabO, Obj.mapFields, hnf, objP]; rfl⟩
  refine wpAny_bind (wpAny_fieldsOf (H4.getO (.tail _ (.head _))) rfl ?_)
  have hl : (ps ++ #[rawInt pos.line, rawInt pos.col, Value.ref c']).toList = ps.toList ++ [rawInt pos.line, rawInt pos.col, .ref c'] := by simp
  rw [hl, codeAmong_snoc _ htr hnf]
  exact wpAny_pure (hQ _ _ _ _ hle ⟨o2, vs2, file2, tf2, flags2, tg2, inF2, text2, tt2, t2, hg, r2⟩ H4)
end
end Mine
end

section -- L1a
open PySem PySem.W PyProof.Rows PySem.W.X PySem.Calls
set_option linter.unusedVariables false
set_option maxRecDepth 100000
set_option maxHeartbeats 2000000
namespace Mine
open PySem.Builtin
section
variable {w : World} {os₀ : OsState} {G : Heap} {ow : Ow} {s : Shared} {A : Around} {n : Nat} {E : Value → Shared → Prop}
local macro_rules | `(tactic| x_close) => `(tactic| first | exact x_endN (by assumption) (by assumption) (by assumption) (.head _) | exact x_endT (by assumption) (by assumption) | exact x_endS (by assumption) (by assumption) (by assumption))
theorem nsGetT {a : Addr} {x : Str} {r : Option Value} {Q : Option Value → Shared → Prop} (H : St w os₀ G ow s) (e : nsIn (K0 w.params) a x = some r) (h : Q r s) : wpAny (model prg w) A (nsGet a x) Q E s := (looks_nsIn H.topH e).here h
theorem sx_ifp' {α : Type} {M : Model} {c : Prop} {d : Decidable c} {t e : Sem α} {Q : α → Shared → Prop} (hc : c) (h : wpAny M A t Q E s) : wpAny M A (@ite _ c d t e) Q E s := by rw [if_pos hc]; exact h
theorem evalArgs_cls {f : Value} {e : Sem Value} {M : Model} {Q : Args → Shared → Prop} (h : wpAny M A e (fun v s' => Q ⟨[v], []⟩ s') E s) : wpAny M A (evalArgs f false [(false, e)] []) Q E s := by
  unfold evalArgs
  refine wpAny_bind (spliced_cons (wpAny_mono h (fun v s' h => spliced_nil ?_) fun _ _ x => x))
  refine wpAny_bind (wpAny_pure ?_)
  refine wpAny_holding ?_
  refine sx_ifp' (by decide) ?_
  exact bindE (v := []) rfl (wpAny_pure h)
theorem prepGet {t : Tok} {Q : Value → Shared → Prop} (hA : AOk n A) (H : St w os₀ G ow s) (hQ : ∀ a s', St w os₀ G ((a, objP { cls := .type "builtin_function_or_method", data := .fields #[.builtin "type.__prepare__", .type "type"] }) :: ow) s' → Q (.ref a) s') : wpAny (model prg w) A (call (.builtin "type.__getattribute__") [.type "type", .str (Str.ofString "__prepare__") t]) Q E s := by
  refine of_AA hA ?_
  have KX := H.topH
  x_run
theorem prepCall {a : Addr} {v1 v2 : Value} {Q : Value → Shared → Prop} (hA : AOk n A) (H : St w os₀ G ow s) (ha : s.heap.get? a = some { cls := .type "builtin_function_or_method", data := .fields #[.builtin "type.__prepare__", .type "type"] }) (hQ : ∀ a s', St w os₀ G ((a, objP { cls := .type "dict", data := .dict #[] }) :: ow) s' → Q (.ref a) s') : wpAny (model prg w) A (call (.ref a) [v1, v2]) Q E s := by
  refine of_AA hA ?_
  have KX := H.topH
  x_run
end

/-- the table of the class body's code: what functionCode finds or lays -/
structure FC (w : World) (os₀ : OsState) (code : Value) (TB : Nat → Heap → Ow → Prop) (posOf : Nat → Pos) (qualOf : Nat → Str) : Prop where
  mono : ∀ i G G' tb, Le G G' → TB i G tb → TB i G' tb
  step : ∀ {A : Around} {E Q : Value → Shared → Prop} {i : Nat} {G : Heap} {tb ow : Ow} {s : Shared} {env : Env} {firstLine : Nat} {name : Str} {p : Arguments} {scope : Scope} {body : FuncBody}, i < 6 → env.code = code → TB i G tb → St w os₀ G (tb ++ ow) s →
    (∀ v G' tb' s', Le G G' → TB (i + 1) G' tb' → St w os₀ G' (tb' ++ ow) s' → G'.CodeRec v (qualOf i) → Q v s') →
    wpAny (model prg w) A (functionCode env (posOf i) firstLine name (qualOf i) p scope body) Q E s
noncomputable def dictO (es : Array DictEntry) (k : Nat) : Obj := { cls := .type "dict", data := .dict es k }
section
variable {w : World} {os₀ : OsState} {G : Heap} {ow : Ow} {s : Shared} {A : Around} {n : Nat} {E : Value → Shared → Prop}
theorem bltFor {Q : Addr → Shared → Prop} (H : St w os₀ G ow s) (h : Q 0 s) : wpAny (model prg w) A (builtinsFor 3 0) Q E s := by
  unfold builtinsFor
  refine wpAny_bind (nsGetT H (r := some (.ref 4)) rfl ?_)
  refine sx_ifn (by decide) ?_
  obtain ⟨_, ⟨⟨cls, dict, data, sl⟩, h4, c1, c2, c3⟩, _⟩ := H.topB
  simp only at c1 c2 c3
  subst c1 c2 c3
  refine wpAny_bind (x_load h4 (sx_pure ?_))
  exact sx_ifp rfl (sx_pure h)
theorem midPerm {x : Addr × (Obj → Prop)} {tb ow : Ow} : (x :: (tb ++ ow)).Perm (tb ++ x :: ow) := List.perm_middle.symm
theorem fnDef {cenv : Env} {name : Str} {params : Arguments} {body : List Stmt} {scope : Scope} {pos : Pos} {i : Nat} {n0 : Addr} {es : Array DictEntry} {k : Nat} {clo : List (Str × Addr)} {TB : Nat → Heap → Ow → Prop} {tb : Ow} {posOf : Nat → Pos} {qualOf : Nat → Str} {Q : Flow → Shared → Prop} (F : FC w os₀ cenv.code TB posOf qualOf) (hi : i < 6) (hpos : pos = posOf i) (hq : qualnameIn cenv name name = qualOf i)
    (hT : TB i G tb) (H : St w os₀ G ((n0, objP (dictO es k)) :: (tb ++ ow)) s) (hloc : cenv.locals = n0) (hgl : cenv.globals = 3) (hbi : cenv.builtins = 0) (hst : ∀ v, storeName cenv name v = localSet cenv name v) (hclo : cloOf cenv.cells scope.names [] = some clo)
    (hann : annotationsOf (params.args ++ params.posonlyargs ++ params.vararg.toList ++ params.kwonlyargs ++ params.kwarg.toList) cenv = []) (hde : defaultsOf params cenv = ([], [])) (hko : params.kwonlyargs = []) (hdoc : docOf body = none) (hkey : aRefKeyMayBeTheName name es = false) (hput : ∀ hh t v, Obj.putName name hh (.str name t) v (dictO es k) = dictO (es.push ⟨hh, .str name t, v⟩) (k + 1))
    (hQ : ∀ f fd G' tb' hh t s', Le G G' → TB (i + 1) G' tb' → G'.get? f = some (fnO fd) → fd.name = name → fd.qualname = qualOf i → fd.params = params → fd.body = .stmts body → fd.scope = scope → fd.globals = 3 → fd.builtins = 0 → fd.closure = clo → fd.defaults = .none → fd.kwdefaults = .none → G'.CodeRec fd.code (qualOf i) →
      St w os₀ G' ((n0, objP (dictO (es.push ⟨hh, .str name t, .ref f⟩) (k + 1))) :: (tb' ++ ow)) s' → Q .next s') :
    wpAny (model prg w) A (PySem.exec (.FunctionDef name params body [] none [] scope none name pos) cenv) Q E s := by
  subst hpos
  obtain ⟨po, pa, va, ko, kd, kwa, de⟩ := params
  dsimp only at hko
  subst hko
  rw [arm_exec_FunctionDef]
  unfold defStmt
  rw [hde]
  refine sx_ifn (by simp) ?_
  refine bindE (v := []) rfl ?_
  refine wpAny_bind (sx_at (sx_pure ?_))
  refine wpAny_bind (wpAny_holding ?_)
  refine bindE (v := []) rfl ?_
  refine bindE (v := []) rfl ?_
  refine wpAny_holding ?_
  dsimp only
  rw [hann]
  refine bindE (v := []) rfl ?_
  unfold makeFunction
  refine sx_ifp (by simp) (bindE rfl ?_)
  refine sx_ifp (by simp) (bindE rfl ?_)
  refine sx_ifp (by simp) (bindE rfl ?_)
  refine wpAny_bind (wpAny_of_eq (closureFor_of hclo) ?_)
  rw [hq, hgl, hbi]
  cases hce : clo.isEmpty
  case' false =>
    refine sx_ifn (by simp) ?_
    unfold newTextTuple newObjAsIs
    refine wpAny_bind (wpAny_bind (sx_alloc H (fun ct s H => sx_pure (sx_pure ?_))))
    have H := H.drop
  case' true => refine sx_ifp rfl (bindE rfl ?_)
  all_goals
    refine wpAny_bind (F.step hi rfl hT (H.perm midPerm) fun v G' tb' s' hle hT' H' hrec => ?_)
    refine wpAny_bind (bltFor H' (wpAny_bind (nsGetT H' rfl ?_)))
    refine bindE (v := .none) (by rw [hdoc]; rfl) ?_
    refine newO H' (fun f s H => ?_)
    obtain ⟨o, G'', ho, hle2, hg, H⟩ := H.freeze
    cases ho
    refine bindE rfl ?_
    refine wpAny_bind (sx_at (sx_pure ?_))
    refine wpAny_bind ?_
    unfold bindName
    refine wpAny_bind (wpAny_holding (sx_point (sx_pure ?_)))
    rw [hst]
    unfold localSet
    rw [hloc]
    have H := H.perm midPerm.symm
    refine wpAny_bind (wpAny_bind (sx_loadO H (.head _) (sx_pure ?_)))
    refine sx_ifp rfl ?_
    refine nsSetO 0 H rfl hkey (fun hh t s H => ?_) (fun hh t => by show (Obj.putName name hh (.str name t) (.ref f) (dictO es k)).isFreed = false; rw [hput]; rfl)
    have H : St w os₀ G'' ((n0, objP (Obj.putName name hh (.str name t) (.ref f) (dictO es k))) :: (tb' ++ ow)) s := H
    rw [hput] at H
    refine sx_point (sx_pure (sx_pure ?_))
    exact hQ f _ G'' tb' hh t s (hle.trans hle2) (F.mono _ _ _ _ hle2 hT') hg rfl rfl rfl rfl rfl rfl rfl rfl rfl rfl (hrec.keeps hle2) H
end
end Mine
end

section -- L1b
open PySem PySem.W PyProof.Rows PySem.W.X PySem.Calls
set_option linter.unusedVariables false
set_option maxRecDepth 100000
set_option maxHeartbeats 2000000
namespace Mine
open PySem.Builtin
noncomputable def bodyOf : Stmt → List Stmt
  | .FunctionDef _ _ b _ _ _ _ _ _ _ => b
  | _ => []
noncomputable def kDef : List Stmt := (prg.main.body.drop 2).head?.elim [] bodyOf
noncomputable def kBody : List Stmt := match kDef with | .ClassDef _ _ _ b _ _ _ _ _ _ _ :: _ => b | _ => []
noncomputable def kScope : Scope := match kDef with | .ClassDef _ _ _ _ _ _ sc _ _ _ _ :: _ => sc | _ => default
noncomputable def kStat : List Str := match kDef with | .ClassDef _ _ _ _ _ _ _ _ _ st _ :: _ => st | _ => []
noncomputable def kPosC : Pos := match kDef with | .ClassDef _ _ _ _ _ _ _ _ _ _ p :: _ => p | _ => default
noncomputable def kPos (i : Nat) : Pos := match kBody[i + 2]? with | some (.FunctionDef _ _ _ _ _ _ _ _ _ p) => p | _ => default
noncomputable def kName (i : Nat) : Str := match kBody[i + 2]? with | some (.FunctionDef n _ _ _ _ _ _ _ _ _) => n | _ => Str.empty
noncomputable def kPar (i : Nat) : Arguments := match kBody[i + 2]? with | some (.FunctionDef _ p _ _ _ _ _ _ _ _) => p | _ => ⟨[], [], none, [], [], none, []⟩
noncomputable def kBod (i : Nat) : List Stmt := match kBody[i + 2]? with | some (.FunctionDef _ _ b _ _ _ _ _ _ _) => b | _ => []
noncomputable def kSco (i : Nat) : Scope := match kBody[i + 2]? with | some (.FunctionDef _ _ _ _ _ _ sc _ _ _) => sc | _ => default
noncomputable def kQual (i : Nat) : Str := Str.ofString "cmp_to_key.<locals>.K." ++ kName i
theorem k_slotGA : Slot "type" "__getattribute__" "type.__getattribute__" := .of (owner := "type") (n := "__getattribute__") (by rw [typeLookup_type, builtinLookup_eq_fast]; kernel_rfl) (by decide +kernel) (by decide +kernel) (by decide +kernel) (by decide +kernel) k_subTT
theorem k_getItemDict : typeLookup (.type "dict") (Str.ofString "__getitem__") = Sem.pure (some (.builtin "dict.__getitem__")) := by rw [typeLookup_type, builtinLookup_eq_fast]; kernel_rfl
structure FnK (G : Heap) (fd : FuncData) (i : Nat) (clo : List (Str × Addr)) : Prop where
  params : fd.params = kPar i
  body : fd.body = .stmts (kBod i)
  scope : fd.scope = kSco i
  globals : fd.globals = 3
  builtins : fd.builtins = 0
  closure : fd.closure = clo
  defaults : fd.defaults = .none
  kwdefaults : fd.kwdefaults = .none
  qual : fd.qualname = kQual i
  name : fd.name = kName i
  code : G.CodeRec fd.code (kQual i)
structure KG (G : Heap) (mc C : Addr) (n1 md bt sl sa f1 f2 f3 f4 f5 f6 : Addr) (fd1 fd2 : FuncData) (e0 e2 e3 e4 e5 e6 e7 e8 e9 e10 e11 e12 e13 : Int) (t t0 t2 t3 t4 t5 t6 t7 t8 t9 t10 t11 t12 t13 t20 u0 u1 u2 : Tok) : Prop where
  cls : G.get? C = some (kCo C n1 bt t u1)
  mem : G.get? md = some (kMd C t20)
  ns : G.get? n1 = some (dictO (kN md sl sa f1 f2 f3 f4 f5 f6 e0 e2 e3 e4 e5 e6 e7 e8 e9 e10 e11 e12 e13 t0 t2 t3 t4 t5 t6 t7 t8 t9 t10 t11 t12 t13 u0 u2) 3)
  init : G.get? f1 = some (fnO fd1)
  lt : G.get? f2 = some (fnO fd2)
  initF : FnK G fd1 0 []
  ltF : FnK G fd2 1 [(Str.ofString "mycmp", mc)]
inductive KG' (G : Heap) (mc C : Addr) : Prop
  | mk (n1 md bt sl sa f1 f2 f3 f4 f5 f6 : Addr) (fd1 fd2 : FuncData) (e0 e2 e3 e4 e5 e6 e7 e8 e9 e10 e11 e12 e13 : Int) (t t0 t2 t3 t4 t5 t6 t7 t8 t9 t10 t11 t12 t13 t20 u0 u1 u2 : Tok) (h : KG G mc C n1 md bt sl sa f1 f2 f3 f4 f5 f6 fd1 fd2 e0 e2 e3 e4 e5 e6 e7 e8 e9 e10 e11 e12 e13 t t0 t2 t3 t4 t5 t6 t7 t8 t9 t10 t11 t12 t13 t20 u0 u1 u2)
/-- what the class's code object is: found or laid -/
noncomputable def CC (w : World) (os₀ : OsState) (G : Heap) (tbc : Ow) (Done : Heap → Ow → Prop) : Prop :=
  ∀ {A : Around} {E Q : Value → Shared → Prop} {G₁ : Heap} {ow : Ow} {s : Shared} {env : Env} {firstLine : Nat} {name : Str} {scope : Scope}, env.code = .ref 27 → Le G G₁ → St w os₀ G₁ (tbc ++ ow) s →
    (∀ c1 TB G' tb s', Le G₁ G' → FC w os₀ (.ref c1) TB kPos kQual → TB 0 G' tb → (∀ G'' tb'', Le G' G'' → TB 6 G'' tb'' → Done G'' tb'') → St w os₀ G' (tb ++ ow) s' → Q (.ref c1) s') →
    wpAny (model prg w) A (classCode env kPosC firstLine name (Str.ofString "cmp_to_key.<locals>.K") scope) Q E s
section
variable {w : World} {os₀ : OsState} {G : Heap} {ow : Ow} {s : Shared} {A : Around} {n : Nat} {E : Value → Shared → Prop}
theorem AOk.under' {c : Code} (h : AOk (n + 1) A) (hw : c.weight ≤ 1) (hu : c.cUnits ≤ 20) : AOk n (A.under c) := ⟨h.handled, by have := h.depth; show A.depth + c.weight + n ≤ 900; omega, by have := h.units; show A.units + c.cUnits + 20 * n ≤ 9000; omega⟩
theorem lset {env : Env} {n0 : Addr} {x : Str} {v : Value} {es : Array DictEntry} {k k' : Nat} {Q : Unit → Shared → Prop} (i : Nat) (H : St w os₀ G ow s) (hm : ow[i]? = some (n0, objP (dictO es k))) (hloc : env.locals = n0) (hst : storeName env x v = localSet env x v) (hkey : aRefKeyMayBeTheName x es = false) (f : Int → Tok → Array DictEntry) (hput : ∀ hh t, Obj.putName x hh (.str x t) v (dictO es k) = dictO (f hh t) k')
    (hQ : ∀ hh t s', St w os₀ G (ow.set i (n0, objP (dictO (f hh t) k'))) s' → Q () s') : wpAny (model prg w) A (storeName env x v) Q E s := by
  rw [hst]
  unfold localSet
  rw [hloc]
  refine wpAny_bind (sx_loadO H (List.mem_of_getElem? hm) (sx_pure ?_))
  refine sx_ifp rfl ?_
  refine nsSetO i H hm hkey (fun hh t s H => ?_) (fun hh t => by show (Obj.putName x hh (.str x t) v (dictO es k)).isFreed = false; rw [hput]; rfl)
  refine hQ hh t s ?_
  have H : St w os₀ G (ow.set i (n0, objP (Obj.putName x hh (.str x t) v (dictO es k)))) s := H
  rw [hput] at H
  exact H
noncomputable def kEnv (n0 mc c1 fr : Addr) : Env := { scope := kScope, locals := n0, globals := 3, cells := [(Str.ofString "mycmp", mc)], qual := Str.ofString "cmp_to_key.<locals>.K" ++ Str.ofString ".", code := Value.ref c1, frame := some fr, builtins := 0 }
noncomputable def kE3 (e0 e1 e2 : Int) (t0 t1 t2 u1 u2 : Tok) (u : Value) : Array DictEntry := #[⟨e0, .str (Str.ofString "__module__") t0, u⟩, ⟨e1, .str (Str.ofString "__qualname__") t1, .str (Str.ofString "cmp_to_key.<locals>.K") u1⟩, ⟨e2, .str (Str.ofString "__firstlineno__") t2, .int 7 u2⟩]
noncomputable def kE11 (sl f1 f2 f3 f4 f5 f6 : Addr) (e0 e1 e2 e3 e4 e5 e6 e7 e8 e9 e10 : Int) (t0 t1 t2 t3 t4 t5 t6 t7 t8 t9 t10 u0 u1 u2 : Tok) : Array DictEntry := #[
  ⟨e0, .str (Str.ofString "__module__") t0, .str (Str.ofString "cpy313.functools") u0⟩,
  ⟨e1, .str (Str.ofString "__qualname__") t1, .str (Str.ofString "cmp_to_key.<locals>.K") u1⟩,
  ⟨e2, .str (Str.ofString "__firstlineno__") t2, .int 7 u2⟩,
  ⟨e3, .str (Str.ofString "__slots__") t3, .ref sl⟩,
  ⟨e4, .str (Str.ofString "__init__") t4, .ref f1⟩,
  ⟨e5, .str (Str.ofString "__lt__") t5, .ref f2⟩,
  ⟨e6, .str (Str.ofString "__gt__") t6, .ref f3⟩,
  ⟨e7, .str (Str.ofString "__eq__") t7, .ref f4⟩,
  ⟨e8, .str (Str.ofString "__le__") t8, .ref f5⟩,
  ⟨e9, .str (Str.ofString "__ge__") t9, .ref f6⟩,
  ⟨e10, .str (Str.ofString "__hash__") t10, .none⟩]
theorem bodyK {n0 mc c1 fr : Addr} {TB : Nat → Heap → Ow → Prop} {tb : Ow} {e0 e1 e2 : Int} {t0 t1 t2 u1 u2 : Tok} {u : Value} {Q : Flow → Shared → Prop} (F : FC w os₀ (.ref c1) TB kPos kQual) (hT : TB 0 G tb) (hA : AOk n A) (H : St w os₀ G ((n0, objP (dictO (kE3 e0 e1 e2 t0 t1 t2 u1 u2 u) 3)) :: (tb ++ ow)) s)
    (hQ : ∀ f1 f2 f3 f4 f5 f6 fd1 fd2 fd3 fd4 fd5 fd6 sl u0 u3 e3 e4 e5 e6 e7 e8 e9 e10 t3 t4 t5 t6 t7 t8 t9 t10 G' tb' s', Le G G' → TB 6 G' tb' → G'.get? sl = some { cls := .type "list", data := .seq #[.str (Str.ofString "obj") u3] } →
      G'.get? f1 = some (fnO fd1) → G'.get? f2 = some (fnO fd2) → G'.get? f3 = some (fnO fd3) → G'.get? f4 = some (fnO fd4) → G'.get? f5 = some (fnO fd5) → G'.get? f6 = some (fnO fd6) → FnK G' fd1 0 [] → FnK G' fd2 1 [(Str.ofString "mycmp", mc)] →
      St w os₀ G' ((n0, objP (dictO (kE11 sl f1 f2 f3 f4 f5 f6 e0 e1 e2 e3 e4 e5 e6 e7 e8 e9 e10 t0 t1 t2 t3 t4 t5 t6 t7 t8 t9 t10 u0 u1 u2) 11)) :: (tb' ++ ow)) s' → Q .next s') :
    wpAny (model prg w) A (execs kBody (kEnv n0 mc c1 fr)) Q E s := by
  refine wpAny_execs_cons (wpAny_Assign_Name (cStr H fun u0 s H => lset 0 H rfl rfl (by kernel_rfl) rfl (fun hh t => (kE3 e0 e1 e2 t0 t1 t2 u1 u2 (.str (Str.ofString "cpy313.functools") u0))) (k' := 3) (fun hh t => rfl) fun _ _ s H => ?_))
  refine wpAny_execs_cons (wpAny_Assign_Name (List_ (spliced_cons (cStr (k := 0) (pos := ⟨9, 21, 9, 26⟩) H fun u3 s H => spliced_nil (newLst H fun sl s H => ?_)))))
  obtain ⟨o, G1, ho, hle1, hsl, H⟩ := H.freeze
  cases ho
  have hT := F.mono _ _ _ _ hle1 hT
  refine lset 0 H rfl rfl (by kernel_rfl) rfl (fun hh t => (kE3 e0 e1 e2 t0 t1 t2 u1 u2 (.str (Str.ofString "cpy313.functools") u0)).push ⟨hh, .str (Str.ofString "__slots__") t, .ref sl⟩) (k' := 4) (fun hh t => rfl) fun e3 t3 s H => ?_
  refine wpAny_execs_cons (fnDef F (i := 0) (by decide) (by rfl) (by kernel_rfl) hT H rfl rfl rfl (fun v => by kernel_rfl) (clo := []) (by rfl) rfl rfl rfl rfl (by rfl) (fun _ _ _ => rfl) fun f1 fd1 G2 tb e4 t4 s hle2 hT h1 a1 b1 c1 d1 x1 y1 z1 p1 q1 r1 v1 H => ?_)
  refine wpAny_execs_cons (fnDef F (i := 1) (by decide) (by rfl) (by kernel_rfl) hT H rfl rfl rfl (fun v => by kernel_rfl) (clo := [(Str.ofString "mycmp", mc)]) (by rfl) rfl rfl rfl rfl (by rfl) (fun _ _ _ => rfl) fun f2 fd2 G3 tb e5 t5 s hle3 hT h2 a2 b2 c2 d2 x2 y2 z2 p2 q2 r2 v2 H => ?_)
  refine wpAny_execs_cons (fnDef F (i := 2) (by decide) (by rfl) (by kernel_rfl) hT H rfl rfl rfl (fun v => by kernel_rfl) (clo := [(Str.ofString "mycmp", mc)]) (by rfl) rfl rfl rfl rfl (by rfl) (fun _ _ _ => rfl) fun f3 fd3 G4 tb e6 t6 s hle4 hT h3 a3 b3 c3 d3 x3 y3 z3 p3 q3 r3 v3 H => ?_)
  refine wpAny_execs_cons (fnDef F (i := 3) (by decide) (by rfl) (by kernel_rfl) hT H rfl rfl rfl (fun v => by kernel_rfl) (clo := [(Str.ofString "mycmp", mc)]) (by rfl) rfl rfl rfl rfl (by rfl) (fun _ _ _ => rfl) fun f4 fd4 G5 tb e7 t7 s hle5 hT h4 a4 b4 c4 d4 x4 y4 z4 p4 q4 r4 v4 H => ?_)
  refine wpAny_execs_cons (fnDef F (i := 4) (by decide) (by rfl) (by kernel_rfl) hT H rfl rfl rfl (fun v => by kernel_rfl) (clo := [(Str.ofString "mycmp", mc)]) (by rfl) rfl rfl rfl rfl (by rfl) (fun _ _ _ => rfl) fun f5 fd5 G6 tb e8 t8 s hle6 hT h5 a5 b5 c5 d5 x5 y5 z5 p5 q5 r5 v5 H => ?_)
  refine wpAny_execs_cons (fnDef F (i := 5) (by decide) (by rfl) (by kernel_rfl) hT H rfl rfl rfl (fun v => by kernel_rfl) (clo := [(Str.ofString "mycmp", mc)]) (by rfl) rfl rfl rfl rfl (by rfl) (fun _ _ _ => rfl) fun f6 fd6 G7 tb e9 t9 s hle7 hT h6 a6 b6 c6 d6 x6 y6 z6 p6 q6 r6 v6 H => ?_)
  have L5 := hle7
  have L4 := hle6.trans L5
  have L3 := hle5.trans L4
  have L2 := hle4.trans L3
  have L1 := hle3.trans L2
  have L0 := hle2.trans L1
  refine wpAny_execs_cons (wpAny_Assign_Name (wpAny_of_eq (a := .none) (by rfl) (lset 0 H rfl rfl (by kernel_rfl) rfl (fun hh t => kE11 sl f1 f2 f3 f4 f5 f6 e0 e1 e2 e3 e4 e5 e6 e7 e8 e9 hh t0 t1 t2 t3 t4 t5 t6 t7 t8 t9 t u0 u1 u2) (k' := 11) (fun hh t => rfl) fun e10 t10 s H => ?_)))
  refine wpAny_execs_nil ?_
  refine hQ f1 f2 f3 f4 f5 f6 fd1 fd2 fd3 fd4 fd5 fd6 sl u0 u3 e3 e4 e5 e6 e7 e8 e9 e10 t3 t4 t5 t6 t7 t8 t9 t10 G7 tb s (hle1.trans L0) hT (L0 _ _ hsl) (L1 _ _ h1) (L2 _ _ h2) (L3 _ _ h3) (L4 _ _ h4) (L5 _ _ h5) h6 ?_ ?_ H
  · exact ⟨c1, d1, x1, y1, z1, p1, q1, r1, b1, a1, v1.keeps L1⟩
  · exact ⟨c2, d2, x2, y2, z2, p2, q2, r2, b2, a2, v2.keeps L2⟩
theorem bcl {env : Env} {L mc : Addr} {names : List (Str × NameKind)} {tbc : Ow} {Done : Heap → Ow → Prop} {Q : Value → Shared → Prop} (V : EV env L names [(Str.ofString "mycmp", mc)] (.ref 27) (Str.ofString "cmp_to_key" ++ Str.ofString ".<locals>.")) (hnk : names.lookup (Str.ofString "K") = some .local) (hA : AOk (n + 10) A) (H : St w os₀ G (tbc ++ ow) s) (hcc : CC w os₀ G tbc Done)
    (hQ : ∀ C G' tb' s', Le G G' → Done G' tb' → KG' G' mc C → St w os₀ G' (tb' ++ ow) s' → Q (.ref C) s') :
    wpAny (model prg w) A (buildClass (Str.ofString "K") (qualnameIn env (Str.ofString "K") (Str.ofString "K")) [.type "object"] [] kBody kScope kStat 7 env kPosC none) Q E s := by
  have hq : qualnameIn env (Str.ofString "K") (Str.ofString "K") = Str.ofString "cmp_to_key.<locals>.K" := by
    unfold qualnameIn
    rw [if_neg (by rw [V.kd hnk]; simp), V.qual]
    decide +kernel
  rw [hq]
  unfold buildClass
  refine wpAny_bind (newTup H fun bt s H => ?_)
  refine wpAny_bind (forIn1 ?_)
  refine bindE (v := true) rfl (sx_ifp rfl (sx_ifn (by decide) (sx_pure ?_)))
  dsimp -zeta only
  refine bindE k_typeObj ?_
  refine bindE (v := true) rfl (sx_ifp rfl ?_)
  refine wpAny_bind (forIn1 ?_)
  refine bindE k_typeObj (bindE k_subTT (sx_ifp rfl (sx_pure ?_)))
  dsimp -zeta only
  refine wpAny_bind (sx_fresh H fun t s H => sx_pure ?_)
  refine sx_ifn (by decide) (bindE rfl ?_)
  refine wpAny_holding ?_
  refine wpAny_bind ?_
  unfold getAttr? getAttrBy? getAttrBy
  refine wpAny_bind (sx_fresh H fun t2 s H => sx_pure ?_)
  refine wpAny_bind (wpAny_attempt (wpAny_holding ?_))
  refine bindE (v := .type "type") (by kernel_rfl) ?_
  refine wpAny_bind (wpAny_of_eq k_slotGA.lookup ?_)
  refine sx_ifn (by show ¬ ((false && _) = true); simp) ?_
  unfold getAttrByItsOwn hookBefore callGetattribute boundAndCalled
  refine bindE rfl ?_
  refine wpAny_bind (wpAny_attempt (wpAny_holding ?_))
  refine sx_ifn (by decide) ?_
  refine wpAny_bind (wpAny_of_eq (k_slotGA.bind _) ?_)
  refine prepGet hA H fun pm s H => ?_
  refine sx_pure (sx_pure ?_)
  refine wpAny_bind (prepCall hA H (H.getO (.head _)) fun n0 s H => ?_)
  refine wpAny_bind ?_
  unfold notTheModulesDict
  refine sx_ifn (by simpa using H.ne1 (.head _)) (sx_pure ?_)
  refine wpAny_bind ?_
  unfold specialOf
  refine wpAny_bind (typeO H (.head _) (wpAny_of_eq k_getItemDict ?_))
  refine sx_ifn (by simp) ?_
  refine wpAny_holding ?_
  refine sx_ifn (by decide +kernel) (bindE rfl ?_)
  refine sx_ifn (by decide +kernel) (bindE rfl ?_)
  have H : St w os₀ G (tbc ++ ((n0, objP (dictO #[] 0)) :: (pm, _) :: (bt, _) :: ow)) s := H.perm (List.perm_append_comm_assoc [_, _, _] tbc ow)
  refine wpAny_bind (hcc V.code (Le.refl _) H fun c1 TB G1 tb s hle1 F hT hDone H => ?_)
  have H : St w os₀ G1 ((n0, objP (dictO #[] 0)) :: (pm, _) :: (bt, _) :: (tb ++ ow)) s := H.perm (List.perm_append_comm_assoc tb [_, _, _] ow)
  rw [V.globals, V.builtins]
  refine wpAny_bind (bltFor H ?_)
  refine wpAny_bind ?_
  unfold newBodyFrame
  refine wpAny_bind (nsGetT H rfl (sx_alloc H (fun fr s H => sx_pure ?_)))
  have H := H.drop
  refine wpAny_bind (wpAny_of_eq (closureFor_of (cl := [(Str.ofString "mycmp", mc)]) (by rw [V.cells]; rfl)) ?_)
  refine wpAny_holding ?_
  refine wpAny_bind (wpAny_enterFrame (noLimit H) hA.room ?_)
  refine wpAny_bind (wpAny_onRaise ?_)
  refine wpAny_bind ?_
  unfold loadName
  refine sx_ifn (by show ¬ ((false && _) = true); simp) ?_
  refine sx_ifn (by decide +kernel) ?_
  refine wpAny_bind ?_
  unfold localGet
  refine wpAny_bind (sx_loadO H (.head _) (sx_pure ?_))
  refine sx_ifp rfl (nsGetO H (.head _) rfl ?_)
  unfold loadGlobal
  refine wpAny_bind (nsGetT H rfl (sx_pure ?_))
  refine wpAny_bind (lset 0 H rfl rfl (by kernel_rfl) rfl (fun hh t => #[⟨hh, .str (Str.ofString "__module__") t, .str (Str.ofString "law_qw0047_01") 401⟩]) (k' := 1) (fun hh t => rfl) fun e0 t0 s H => ?_)
  refine wpAny_bind (sx_fresh H fun u1 s H => sx_pure ?_)
  refine wpAny_bind (lset 0 H rfl rfl (by kernel_rfl) rfl (fun hh t => #[⟨e0, .str (Str.ofString "__module__") t0, .str (Str.ofString "law_qw0047_01") 401⟩, ⟨hh, .str (Str.ofString "__qualname__") t, .str (Str.ofString "cmp_to_key.<locals>.K") u1⟩]) (k' := 2) (fun hh t => rfl) fun e1 t1 s H => ?_)
  refine wpAny_bind (sx_fresh H fun u2 s H => sx_pure ?_)
  refine wpAny_bind (lset 0 H rfl rfl (by kernel_rfl) rfl (fun hh t => #[⟨e0, .str (Str.ofString "__module__") t0, .str (Str.ofString "law_qw0047_01") 401⟩, ⟨e1, .str (Str.ofString "__qualname__") t1, .str (Str.ofString "cmp_to_key.<locals>.K") u1⟩, ⟨hh, .str (Str.ofString "__firstlineno__") t, .int 7 u2⟩]) (k' := 3) (fun hh t => rfl) fun e2 t2 s H => ?_)
  refine sx_pure ?_
  dsimp -zeta only
  refine wpAny_bind (wpAny_run (codeAny_of_tree ?_))
  refine wpAny_bind (m := blockStart kBody _) (wpAny_of_eq (a := ()) (by kernel_rfl) (wpAny_bind (wpAny_onRaise ?_)))
  have hA1 : AOk (n + 9) ((A.mark none).under (.body kBody (kEnv n0 mc c1 fr))) := hA.under' (Nat.le_refl 1) (Nat.le_of_ble_eq_true rfl)
  have H : St w os₀ G1 ((n0, objP (dictO (kE3 e0 e1 e2 t0 t1 t2 u1 u2 _) 3)) :: (pm, _) :: (bt, _) :: (tb ++ ow)) s := H
  have H := H.perm (List.Perm.cons _ (List.perm_append_comm_assoc [_, _] tb ow))
  refine bodyK F hT hA1 H fun f1 f2 f3 f4 f5 f6 fd1 fd2 fd3 fd4 fd5 fd6 sl u0 u3 e3 e4 e5 e6 e7 e8 e9 e10 t3 t4 t5 t6 t7 t8 t9 t10 G' tb' s hle2 hT' hsl h1 h2 h3 h4 h5 h6 hf1 hf2 H => ?_
  refine wpAny_pure ?_
  rw [show kStat = [Str.ofString "obj"] from by kernel_rfl, List.mapM_cons, List.mapM_nil]
  refine wpAny_bind (wpAny_onRaise ?_)
  refine wpAny_bind (wpAny_bind (sx_fresh H fun u4 s H => sx_pure (bindE rfl (sx_pure ?_))))
  refine wpAny_bind ?_
  unfold newTextTuple newObjAsIs
  refine wpAny_bind (sx_alloc H (fun sa s H => sx_pure (sx_pure ?_)))
  obtain ⟨o, G8, ho, hle3, hsa, H⟩ := H.freeze
  cases ho
  have hne := H.ne1 (.head _)
  refine wpAny_bind (lset 0 H rfl rfl (by kernel_rfl) rfl (fun hh t => kEs sl sa f1 f2 f3 f4 f5 f6 e0 e1 e2 e3 e4 e5 e6 e7 e8 e9 e10 hh t0 t1 t2 t3 t4 t5 t6 t7 t8 t9 t10 t u0 u1 u2) (k' := 12) (fun hh t => rfl) fun e11 t11 s H => ?_)
  refine sx_pure ?_
  refine sx_ifn (by decide) ?_
  obtain ⟨o, G9, ho, hle4, hn0, H⟩ := H.freeze
  cases ho
  have H := (H.perm (List.perm_append_comm_assoc tb' [_, _] ow)).drop
  obtain ⟨o, G10, ho, hle5, hbt, H⟩ := H.freeze
  cases ho
  have L := hle4.trans hle5
  have L' := hle3.trans L
  refine wpAny_bind (l2 H hbt (hle5 _ _ hn0) (L' _ _ hsl) (by simpa using hne) (L' _ _ h1) (L' _ _ h2) (L' _ _ h3) (L' _ _ h4) (L' _ _ h5) (L' _ _ h6) (L _ _ hsa) (n := n + 6) hA fun C n1 md e12 e13 t12 t13 t20 s H => ?_)
  refine sx_pure ?_
  obtain ⟨o, G11, ho, hle6, hmd, H⟩ := H.freeze
  cases ho
  obtain ⟨o, G12, ho, hle7, hC, H⟩ := H.freeze
  cases ho
  obtain ⟨o, G13, ho, hle8, hn1, H⟩ := H.freeze
  cases ho
  have M := L'.trans (hle6.trans (hle7.trans hle8))
  refine hQ C G13 tb' s (hle1.trans (hle2.trans M)) (hDone _ _ (hle2.trans M) (F.mono _ _ _ _ M hT')) ?_ H
  · refine ⟨n1, md, bt, sl, sa, f1, f2, f3, f4, f5, f6, fd1, fd2, e0, e2, e3, e4, e5, e6, e7, e8, e9, e10, e11, e12, e13, t, t0, t2, t3, t4, t5, t6, t7, t8, t9, t10, t11, t12, t13, t20, u0, u1, u2, ?_⟩
    exact ⟨hle8 _ _ hC, (hle7.trans hle8) _ _ hmd, hn1, M _ _ h1, M _ _ h2, ⟨hf1.1, hf1.2, hf1.3, hf1.4, hf1.5, hf1.6, hf1.7, hf1.8, hf1.9, hf1.10, hf1.11.keeps M⟩, ⟨hf2.1, hf2.2, hf2.3, hf2.4, hf2.5, hf2.6, hf2.7, hf2.8, hf2.9, hf2.10, hf2.11.keeps M⟩⟩
end
end Mine
end

section -- Ck
open PySem PySem.W PyProof.Rows PySem.W.X PySem.Calls
set_option linter.unusedVariables false
set_option maxRecDepth 100000
set_option maxHeartbeats 2000000
namespace Mine
open PySem.Builtin
theorem codeAmong_other {p q : Pos} {c : Value} (l : List Value) (h : TriplesOk l) (hn : (p.line : Int) ≠ q.line) : codeAmong q (l ++ [rawInt p.line, rawInt p.col, c]) = codeAmong q l := by
  fun_induction TriplesOk l with
  | case1 => simp [codeAmong, rawInt]; intro e; exact absurd (by exact_mod_cast e) hn
  | case2 a t b u x rest ih =>
    simp only [List.cons_append, codeAmong]
    split
    · rfl
    · exact ih h
  | case3 l h1 h2 => exact h.elim
noncomputable def kQualC : Str := Str.ofString "cmp_to_key.<locals>.K"
theorem kPos_ne : ∀ i < 6, ∀ j < 6, i ≠ j → ((kPos i).line : Int) ≠ (kPos j).line := by decide +kernel
noncomputable def TBA (G0 : Heap) (c1 P1 : Addr) (i : Nat) (G : Heap) (tb : Ow) : Prop := CodeF G c1 P1 kQualC ∧ ∃ ps : Array Value, tb = [(P1, objP (tabO ps)), (23, objP (tabO (#[] ++ #[rawInt kPosC.line, rawInt kPosC.col, .ref c1])))] ∧ TriplesOk ps.toList ∧ (∀ j < i, ∃ v, codeAmong (kPos j) ps.toList = some v ∧ G.CodeRec v (kQual j)) ∧ ∀ j, i ≤ j → j < 6 → codeAmong (kPos j) ps.toList = none
noncomputable def TBB (c1 P1 : Addr) (i : Nat) (G : Heap) (tb : Ow) : Prop := CodeF G c1 P1 kQualC ∧ tb = [] ∧ ∃ ps : Array Value, G.get? P1 = some (tabO ps) ∧ TriplesOk ps.toList ∧ (∀ j < 6, ∃ v, codeAmong (kPos j) ps.toList = some v ∧ G.CodeRec v (kQual j))
/-- the class's code objects are laid -/
noncomputable def Ready (G : Heap) : Prop := ∃ c1 P1 ps23, G.get? 23 = some (tabO ps23) ∧ TriplesOk ps23.toList ∧ codeAmong kPosC ps23.toList = some (.ref c1) ∧ TBB c1 P1 6 G []
theorem TBB.le {c1 P1 i : Nat} {G G' : Heap} {tb : Ow} (x : Le G G') (h : TBB c1 P1 i G tb) : TBB c1 P1 i G' tb := by
  obtain ⟨h1, h2, ps, h3, h4, h5⟩ := h
  exact ⟨h1.le x, h2, ps, x _ _ h3, h4, fun j hj => let ⟨v, a, b⟩ := h5 j hj; ⟨v, a, b.keeps x⟩⟩
theorem Ready.le {G G' : Heap} (x : Le G G') (h : Ready G) : Ready G' := by
  obtain ⟨c1, P1, ps, h1, h2, h3, h4⟩ := h
  exact ⟨c1, P1, ps, x _ _ h1, h2, h3, h4.le x⟩
noncomputable def DoneA (G : Heap) (tb : Ow) : Prop := ∃ c1 P1, TBA G c1 P1 6 G tb
section
variable {w : World} {os₀ : OsState} {G : Heap} {ow : Ow} {s : Shared} {A : Around} {n : Nat} {E : Value → Shared → Prop}
theorem fcA {c1 P1 : Addr} : FC w os₀ (.ref c1) (TBA G c1 P1) kPos kQual where
  mono := fun i G G' tb x h => by
    obtain ⟨h1, ps, h2, h3, h4, h5⟩ := h
    exact ⟨h1.le x, ps, h2, h3, fun j hj => let ⟨v, a, b⟩ := h4 j hj; ⟨v, a, b.keeps x⟩, h5⟩
  step := fun {A E Q i G tb ow s env firstLine name p scope body} hi hc hT H hQ => by
    obtain ⟨h1, ps, rfl, h3, h4, h5⟩ := hT
    refine fcMiss hc H h1 h3 (h5 i (Nat.le_refl _) hi) fun c' P' G' s' hle hF H' => ?_
    refine hQ (.ref c') G' _ s' hle ⟨h1.le hle, _, rfl, ?_, fun j hj => ?_, fun j hj hj6 => ?_⟩ H' hF.rec
    · simpa using TriplesOk_snoc _ _ _ _ h3
    · have hl : (ps ++ #[rawInt (kPos i).line, rawInt (kPos i).col, Value.ref c']).toList = ps.toList ++ [rawInt (kPos i).line, rawInt (kPos i).col, .ref c'] := by simp
      rw [hl]
      by_cases e : j = i
      · subst e
        exact ⟨_, codeAmong_snoc _ h3 (h5 j (Nat.le_refl _) hi), hF.rec⟩
      · rw [codeAmong_other _ h3 (kPos_ne i hi j (by omega) (fun q => e q.symm))]
        obtain ⟨v, a, b⟩ := h4 j (by omega)
        exact ⟨v, a, b.keeps hle⟩
    · have hl : (ps ++ #[rawInt (kPos i).line, rawInt (kPos i).col, Value.ref c']).toList = ps.toList ++ [rawInt (kPos i).line, rawInt (kPos i).col, .ref c'] := by simp
      rw [hl, codeAmong_other _ h3 (kPos_ne i hi j hj6 (by omega))]
      exact h5 j (by omega) hj6
theorem fcB {c1 P1 : Addr} : FC w os₀ (.ref c1) (TBB c1 P1) kPos kQual where
  mono := fun i G G' tb x h => h.le x
  step := fun {A E Q i G tb ow s env firstLine name p scope body} hi hc hT H hQ => by
    obtain ⟨h1, rfl, ps, h3, h4, h5⟩ := id hT
    obtain ⟨v, a, b⟩ := h5 i hi
    exact fcHit hc H h1 h3 h4 a (hQ v G [] s (Le.refl _) hT H b)
theorem codeF27 (hG : (K0 w.params).In G) : ∃ q, CodeF G 27 23 q := ⟨_, _, _, _, _, _, _, _, _, _, _, hG 27 _ rfl, rfl, rfl, rfl, rfl, rfl, rfl, rfl, rfl, rfl, by decide⟩
theorem ccA : CC w os₀ G [(23, objP (tabO #[]))] DoneA := by
  intro A E Q G₁ ow s env firstLine name scope hc hle H hQ
  obtain ⟨q, hF⟩ := codeF27 H.top.k
  refine ccMiss hc H hF trivial rfl fun c1 P1 G' s' hle' hF' H' => ?_
  refine hQ c1 (TBA G c1 P1) G' _ s' hle' fcA ⟨hF', #[], rfl, trivial, fun j hj => absurd hj (Nat.not_lt_zero _), fun j _ _ => rfl⟩ (fun G'' tb'' _ h => ⟨c1, P1, ?_⟩) H'
  obtain ⟨h1, ps, h2, h3, h4, h5⟩ := h
  exact ⟨h1, ps, h2, h3, h4, h5⟩
theorem ccB (hR : Ready G) : CC w os₀ G [] (fun G' tb => tb = []) := by
  intro A E Q G₁ ow s env firstLine name scope hc hle H hQ
  obtain ⟨q, hF⟩ := codeF27 H.top.k
  obtain ⟨c1, P1, ps23, h1, h2, h3, h4⟩ := hR
  exact ccHit hc H hF (hle _ _ h1) h2 h3 (hQ c1 (TBB c1 P1) G₁ [] s (Le.refl _) fcB (by obtain ⟨a, b, c⟩ := h4.le hle; exact ⟨a, b, c⟩) (fun G'' tb'' _ h => h.2.1) H)
end
end Mine
end

section -- Ck2
open PySem PySem.W PyProof.Rows PySem.W.X PySem.Calls
set_option linter.unusedVariables false
set_option maxRecDepth 100000
set_option maxHeartbeats 2000000
namespace Mine
open PySem.Builtin
theorem FnK.le {G G' : Heap} {fd : FuncData} {i : Nat} {clo : List (Str × Addr)} (h : FnK G fd i clo) (x : Le G G') : FnK G' fd i clo := ⟨h.1, h.2, h.3, h.4, h.5, h.6, h.7, h.8, h.9, h.10, h.11.keeps x⟩
theorem KG'.le {G G' : Heap} {mc C : Addr} (x : Le G G') (h : KG' G mc C) : KG' G' mc C := by
  obtain ⟨n1, md, bt, sl, sa, f1, f2, f3, f4, f5, f6, fd1, fd2, e0, e2, e3, e4, e5, e6, e7, e8, e9, e10, e11, e12, e13, t, t0, t2, t3, t4, t5, t6, t7, t8, t9, t10, t11, t12, t13, t20, u0, u1, u2, hk⟩ := h
  exact ⟨n1, md, bt, sl, sa, f1, f2, f3, f4, f5, f6, fd1, fd2, e0, e2, e3, e4, e5, e6, e7, e8, e9, e10, e11, e12, e13, t, t0, t2, t3, t4, t5, t6, t7, t8, t9, t10, t11, t12, t13, t20, u0, u1, u2, ⟨x _ _ hk.cls, x _ _ hk.mem, x _ _ hk.ns, x _ _ hk.init, x _ _ hk.lt, hk.initF.le x, hk.ltF.le x⟩⟩
section
variable {w : World} {os₀ : OsState} {G : Heap} {ow : Ow} {s : Shared} {A : Around} {n : Nat} {E : Value → Shared → Prop}
theorem ckGen {tbc : Ow} {Done : Heap → Ow → Prop} {Q : Value → Shared → Prop} (hcc : CC w os₀ G tbc Done) (hA : AOk (n + 11) A) (H : St w os₀ G (tbc ++ ow) s) (hDle : ∀ G G' tb, Le G G' → Done G tb → Done G' tb)
    (hQ : ∀ C mc G' tb' s', Le G G' → Done G' tb' → KG' G' mc C → (∃ o, G'.get? mc = some o ∧ o.data = .cell (some (.ref 183))) → St w os₀ G' (tb' ++ ow) s' → Q (.ref C) s') :
    wpAny (model prg w) A (call (.ref 28) [.ref 183]) Q E s := by
  refine enter (n := n + 10) [(Str.ofString "mycmp", .ref 183)] (fun _ => none) (fun y => if y = Str.ofString "mycmp" then some (.ref 183) else none) (fun k => [(Str.ofString "mycmp", k)]) hA H rfl rfl (fun h X => ⟨_, _, _, _, rfl, X 27 _ rfl, rfl, rfl⟩) rfl rfl rfl rfl rfl rfl (fun _ => rfl) ?_ rfl rfl (fun env L A' s₁ V hA H => ?_) (by simp) (fun _ => rfl)
  · simp only [List.mem_singleton, forall_eq]; exact .inr ⟨rfl, rfl⟩
  · dsimp only at V
    refine wpAny_execs_cons ?_
    rw [arm_exec_ClassDef]
    refine bindE (v := []) rfl ?_
    refine wpAny_bind (sx_at (sx_pure ?_))
    refine wpAny_bind ?_
    unfold buildClassGuard
    rw [V.builtins]
    refine wpAny_bind (nsGetB (v := .builtin "__build_class__") H.topB rfl (wpAny_pure ?_))
    refine wpAny_bind (wpAny_holding (wpAny_bind ?_))
    refine evalArgs_cls (e := PySem.eval (Expr.Name (Str.ofString "object") { line := 7, col := 12, endLine := 7, endCol := 18 }) env) (nmB V H (v := .type "object") rfl rfl ?_)
    refine wpAny_bind (sx_at (sx_pure ?_))
    refine wpAny_holding ?_
    have H : St w os₀ G (tbc ++ ((L, nsP fun _ => none) :: (L + 1, cellP (some (.ref 183))) :: ow)) _ := H.perm (List.perm_append_comm_assoc [_, _] tbc ow)
    refine bcl V rfl hA H hcc fun C G' tb' s' hle hD hK H => ?_
    have H : St w os₀ G' ((L, nsP fun _ => none) :: (L + 1, cellP (some (.ref 183))) :: (tb' ++ ow)) _ := H.perm (List.perm_append_comm_assoc tb' [_, _] ow)
    refine bindE rfl ?_
    refine wpAny_bind (sx_at (sx_pure ?_))
    refine wpAny_bind (wpAny_bindName (stL V H (fun s H => ?_)))
    refine sx_pure ?_
    refine wpAny_execs_cons (wpAny_Return_some (nmL V H rfl ?_))
    obtain ⟨o, G'', ho, hle2, hg, H⟩ := H.drop.freeze
    exact hQ C (L + 1) G'' tb' _ (hle.trans hle2) (hDle _ _ _ hle2 hD) (hK.le hle2) ⟨o, hg, ho⟩ H
noncomputable def MC (G : Heap) (mc : Addr) : Prop := ∃ o, G.get? mc = some o ∧ o.data = .cell (some (.ref 183))
theorem ckB {Q : Value → Shared → Prop} (hR : Ready G) (hA : AOk (n + 11) A) (H : St w os₀ G ow s) (hQ : ∀ C mc G' s', Le G G' → KG' G' mc C → MC G' mc → St w os₀ G' ow s' → Q (.ref C) s') :
    wpAny (model prg w) A (call (.ref 28) [.ref 183]) Q E s :=
  ckGen (tbc := []) (ccB hR) hA H (fun _ _ _ _ h => h) fun C mc G' tb' s' hle hD hK hM H => by
    subst hD
    exact hQ C mc G' s' hle hK hM H
theorem ckA {Q : Value → Shared → Prop} (hA : AOk (n + 11) A) (H : St w os₀ G ((23, objP (tabO #[])) :: ow) s) (hQ : ∀ C mc G' s', Le G G' → Ready G' → KG' G' mc C → MC G' mc → St w os₀ G' ow s' → Q (.ref C) s') :
    wpAny (model prg w) A (call (.ref 28) [.ref 183]) Q E s :=
  ckGen (tbc := [(23, objP (tabO #[]))]) ccA hA H (fun G G' tb x ⟨c1, P1, h⟩ => ⟨c1, P1, (fcA (w := w) (os₀ := os₀) (G := G)).mono _ _ _ _ x h⟩) fun C mc G' tb' s' hle hD hK hM H => by
    obtain ⟨c1, P1, h1, ps, rfl, h3, h4, h5⟩ := hD
    obtain ⟨o, G2, ho, hle2, hg, H⟩ := H.freeze
    cases ho
    obtain ⟨o, G3, ho, hle3, hg3, H⟩ := H.freeze
    cases ho
    have x := hle2.trans hle3
    refine hQ C mc G3 s' (hle.trans x) ⟨c1, P1, _, hg3, by simpa [TriplesOk, rawInt] using trivial, by simp [codeAmong, rawInt], h1.le x, rfl, ps, hle3 _ _ hg, h3, fun j hj => ?_⟩ (hK.le x) (let ⟨o, a, b⟩ := hM; ⟨o, x _ _ a, b⟩) H
    obtain ⟨v, a, b⟩ := h4 j hj
    exact ⟨v, a, b.keeps x⟩
end
end Mine
end

section -- Inst
open PySem PySem.W PyProof.Rows PySem.W.X PySem.Calls
set_option linter.unusedVariables false
set_option maxRecDepth 100000
set_option maxHeartbeats 2000000
namespace Mine
open PySem.Builtin
theorem k_slotSetOwner : builtinOwn "object" (Str.ofString "__setattr__") = some (.builtin "object.__setattr__") := by kernel_rfl
theorem k_bindSet (self : Value) : bindSpecial (.builtin "object.__setattr__") self = Sem.pure (.builtin "object.__setattr__", [self]) := by kernel_rfl
theorem k_plainSet : plainId "object.__setattr__" = true := by decide +kernel
theorem k_entrySet : entryFor table "object.__setattr__" = some Builtin.«object.__setattr__» := entryFor_of_tree (by kernel_rfl)
theorem k_mdSet : typeLookup (.type "member_descriptor") (Str.ofString "__set__") = Sem.pure (some (.builtin "member_descriptor.__set__")) := by rw [typeLookup_type, builtinLookup_eq_fast]; kernel_rfl
theorem k_subMd : isSubtype (.type "member_descriptor") (.type "member_descriptor") = Sem.pure true := by rw [isSubtype_type]; kernel_rfl
theorem k_slotMdSet : Slot "member_descriptor" "__set__" "member_descriptor.__set__" := .of (owner := "member_descriptor") (n := "__set__") (by rw [typeLookup_type, builtinLookup_eq_fast]; kernel_rfl) (by decide +kernel) (by decide +kernel) (by decide +kernel) (by decide +kernel) k_subMd
theorem k_entryMdSet : entryFor table "member_descriptor.__set__" = some Builtin.«member_descriptor.__set__» := entryFor_of_tree (by kernel_rfl)
theorem k_argsMdSet (a b c : Value) : argsOk "member_descriptor.__set__" ⟨[a, b, c], []⟩ := by unfold argsOk; kernel_rfl
theorem k_entrySlot : entryFor table "proto.slot#set" = some Builtin.«proto.slot#set» := entryFor_of_tree (by kernel_rfl)
theorem k_plainSlot : plainId "proto.slot#set" = true := by decide +kernel
noncomputable def inO (C dx : Addr) (v : Value) : Obj := { cls := .ref C, dict := some dx, data := .plain, slots := #[some v] }
section
variable {w : World} {os₀ : OsState} {G : Heap} {ow : Ow} {s : Shared} {A : Around} {n : Nat} {E : Value → Shared → Prop}
theorem sx_ifn' {α : Type} {M : Model} {c : Prop} {d : Decidable c} {t e : Sem α} {Q : α → Shared → Prop} (hc : ¬ c) (h : wpAny M A e Q E s) : wpAny M A (@ite _ c d t e) Q E s := by rw [if_neg hc]; exact h
theorem lookG {C n1 : Addr} {oC oN : Obj} {cd : ClassData} {x : Str} {r : Option Value} {Q : Option Value → Shared → Prop} (H : St w os₀ G ow s) (hC : G.get? C = some oC) (hd : oC.data = .cls cd) (hm : cd.mro = [.ref C, .type "object"]) (hn : cd.ns = n1) (hN : G.get? n1 = some oN) (hr : nsLook x oN = Sem.pure r)
    (h : Q (match r with | some v => some v | none => builtinOwn "object" x) s) : wpAny (model prg w) A (typeLookup (.ref C) x) Q E s := by
  unfold typeLookup
  have cdl : ∀ {Q : ClassData → Shared → Prop}, Q cd s → wpAny (model prg w) A (classData C) Q E s := fun {Q} h => by
    unfold classData
    refine wpAny_bind (sx_loadG H hC (sx_pure ?_))
    rw [hd]; exact sx_pure h
  refine wpAny_bind ?_
  unfold mroOf
  refine wpAny_bind (cdl (sx_pure ?_))
  rw [hm]
  refine wpAny_bind (forIn2 ?_)
  unfold classOwn
  refine wpAny_bind (wpAny_bind (cdl ?_))
  rw [hn]
  unfold nsGet
  refine sx_loadG H hN ?_
  refine wpAny_of_eq hr ?_
  cases r with
  | some v => exact sx_pure (sx_pure h)
  | none =>
    refine sx_pure (forIn1 ?_)
    refine bindE rfl ?_
    dsimp only at h
    cases hb : builtinOwn "object" x with
    | some v => rw [hb] at h; exact sx_pure (sx_pure h)
    | none => rw [hb] at h; exact sx_pure (sx_pure h)
theorem k_argsSet (a b c : Value) : argsOk "object.__setattr__" ⟨[a, b, c], []⟩ := by unfold argsOk; kernel_rfl
theorem k_kindSet : builtinKind "object.__setattr__" = some .slot := by decide +kernel
theorem k_splitSet : splitId "object.__setattr__" = some ("object", "__setattr__") := by decide +kernel
theorem checkSet {a b c : Value} {M : Model} {Q : Unit → Shared → Prop} (hi : Looks M s.heap (isInstance a (.type "object")) true) (q : Q () s) : wpAny M A (checkBuiltinCall "object.__setattr__" ⟨[a, b, c], []⟩) Q E s :=
  check_slot (i := "object.__setattr__") (owner := "object") (n := "__setattr__") (self := a) (rest := [b, c]) (kw := []) k_kindSet k_splitSet hi (k_argsSet a b c) q
theorem looksSub {C : Addr} {oC : Obj} {cd : ClassData} {b : Value} {r : Bool} {h : Heap} {M : Model} (hC : h.get? C = some oC) (hd : oC.data = .cls cd) (hm : cd.mro = [.ref C, .type "object"]) (hr : ([.ref C, .type "object"] : List Value).contains b = r) : Looks M h (isSubtype (.ref C) b) r := by
  intro A Q E s k q
  unfold isSubtype
  refine wpAny_bind ?_
  unfold mroOf classData
  refine wpAny_bind (wpAny_bind (wpAny_load (k _ _ hC) ?_))
  rw [hd]
  refine wpAny_pure (wpAny_pure ?_)
  rw [hm]
  refine sx_ifn' (by simp) ?_
  rw [hr]
  exact wpAny_pure q
theorem looksInst {C x : Addr} {oC ox : Obj} {cd : ClassData} {b : Value} {r : Bool} {h : Heap} {M : Model} (hx : h.get? x = some ox) (hxc : ox.cls = .ref C) (hC : h.get? C = some oC) (hd : oC.data = .cls cd) (hm : cd.mro = [.ref C, .type "object"]) (hr : ([.ref C, .type "object"] : List Value).contains b = r) : Looks M h (isInstance (.ref x) b) r := by
  intro A Q E s k q
  unfold isInstance
  refine wpAny_bind ?_
  unfold typeOf
  refine wpAny_bind (wpAny_loadPart (k _ _ hx) (wpAny_pure ?_))
  rw [hxc]
  exact looksSub hC hd hm hr A Q E s k q
theorem mroG {C : Addr} {oC : Obj} {cd : ClassData} {Q : List Value → Shared → Prop} (H : St w os₀ G ow s) (hC : G.get? C = some oC) (hd : oC.data = .cls cd) (hm : cd.mro = [.ref C, .type "object"]) (h : Q [.ref C, .type "object"] s) : wpAny (model prg w) A (mroOf (.ref C)) Q E s := by
  unfold mroOf classData
  refine wpAny_bind (wpAny_bind (sx_loadG H hC (sx_pure ?_)))
  rw [hd]
  refine sx_pure (sx_pure ?_)
  rw [hm]; exact h
theorem slotSetD {C x dx : Addr} {v : Value} {Q : Unit → Shared → Prop} (i : Nat) (H : St w os₀ G ((x, objP (instObj C dx)) :: ow) s) (h : ∀ s', St w os₀ G ((x, objP (inO C dx v)) :: ow) s' → Q () s') : wpAny (model prg w) A (setSlotAt x 0 (some v)) Q E s := by
  unfold setSlotAt
  exact sx_ifn (by decide) (sx_upd 0 H rfl (fun s' H => sx_pure (h s' H)))
theorem setS {mc C n1 md bt sl sa f1 f2 f3 f4 f5 f6 : Addr} {fd1 fd2 : FuncData} {e0 e2 e3 e4 e5 e6 e7 e8 e9 e10 e11 e12 e13 : Int} {t t0 t2 t3 t4 t5 t6 t7 t8 t9 t10 t11 t12 t13 t20 u0 u1 u2 : Tok} (hk : KG G mc C n1 md bt sl sa f1 f2 f3 f4 f5 f6 fd1 fd2 e0 e2 e3 e4 e5 e6 e7 e8 e9 e10 e11 e12 e13 t t0 t2 t3 t4 t5 t6 t7 t8 t9 t10 t11 t12 t13 t20 u0 u1 u2)
    {x dx : Addr} {v : Value} {Q : Unit → Shared → Prop} (H : St w os₀ G ((x, objP (instObj C dx)) :: ow) s) (hQ : ∀ s', St w os₀ G ((x, objP (inO C dx v)) :: ow) s' → Q () s') : wpAny (model prg w) A (setAttr (.ref x) (Str.ofString "obj") v) Q E s := by
  have hC := hk.cls
  have hN := hk.ns
  unfold setAttr
  refine wpAny_bind (sx_fresh H fun tk s H => sx_pure ?_)
  unfold callSpecial? specialOf
  refine wpAny_bind (wpAny_bind (wpAny_bind (typeO H (.head _) ?_)))
  refine lookG H hC rfl rfl rfl hN (r := none) rfl ?_
  rw [k_slotSetOwner]
  refine wpAny_holding (wpAny_bind (wpAny_of_eq (k_bindSet _) ?_))
  refine wpAny_bind (wpAny_call (codeAny_call_builtin k_plainSet k_entrySet ?_))
  refine checkSet (looksInst (H.getO (.head _)) rfl (H.le _ _ hC) rfl rfl (by simp)) ?_
  unfold Builtin.«object.__setattr__»
  refine sx_ifn (by simp) ?_
  refine wpAny_bind ?_
  unfold ObjectAttr.refuseIfOverridden
  refine wpAny_bind (typeO H (.head _) ?_)
  refine wpAny_bind (mroG H hC rfl rfl ?_)
  refine wpAny_bind (forIn2 (sx_pure (forIn1 ?_)))
  refine sx_ifn (by decide) (sx_ifn (by decide +kernel) ?_)
  refine bindE (v := some (.builtin "object.__setattr__")) (by kernel_rfl) ?_
  refine sx_ifp rfl (sx_ifn (by decide +kernel) ?_)
  refine sx_pure (sx_pure ?_)
  dsimp -zeta only
  unfold ObjectAttr.attrName
  refine bindE rfl ?_
  refine wpAny_bind (typeO H (.head _) ?_)
  refine wpAny_bind (lookG H hC rfl rfl rfl hN (r := some (.ref md)) rfl ?_)
  dsimp -zeta only
  unfold ObjectAttr.storeTaker? ObjectAttr.takesStores specialOf
  refine wpAny_bind (wpAny_bind (wpAny_bind (wpAny_bind (typeG H hk.mem (wpAny_of_eq k_mdSet ?_)))))
  refine sx_ifp rfl (sx_pure (sx_ifp rfl (sx_pure ?_)))
  unfold ObjectAttr.setByDescriptor
  refine wpAny_bind (sx_rule (sx_pure ?_))
  refine wpAny_bind (wpAny_holding (wpAny_callSpecial?_slot ⟨_, H.le _ _ hk.mem, rfl⟩ k_slotMdSet (wpAny_call (codeAny_call_builtin k_slotMdSet.plain k_entryMdSet (k_slotMdSet.check _ _ _ _ _ _ _ _ ⟨_, H.le _ _ hk.mem, rfl⟩ (k_argsMdSet _ _ _) ?_)))))
  unfold «member_descriptor.__set__» Getset_descriptor.descrSet
  refine sx_ifn (by simp) ?_
  unfold Getset_descriptor.descrStoreThrough
  refine wpAny_bind ?_
  unfold Getset_descriptor.descrCheckInstance Getset_descriptor.descrNameAndClass
  have hmd : ∀ {s : Shared} {ow : Ow}, St w os₀ G ow s → s.heap.get? md = some (kMd C t20) := fun H => H.le _ _ hk.mem
  refine wpAny_bind (wpAny_bind (wpAny_field (hmd H) rfl rfl ?_))
  refine wpAny_bind (wpAny_field (hmd H) rfl rfl (sx_pure ?_))
  refine wpAny_bind ((looksInst (H.getO (.head _)) rfl (H.le _ _ hC) rfl rfl (r := true) (by simp)).here ?_)
  refine sx_ifn (by simp) (sx_pure ?_)
  unfold Getset_descriptor.descrItself
  refine wpAny_bind (wpAny_bind (wpAny_fieldsOf (hmd H) rfl (sx_pure ?_)))
  refine wpAny_bind (wpAny_field (hmd H) rfl rfl ?_)
  refine wpAny_bind (sx_rule (sx_pure ?_))
  refine sx_pure ⟨plainId_quiet k_plainSlot _, codeAny_builtin k_entrySlot ?_⟩
  unfold «proto.slot#set»
  unfold Slots.target
  refine wpAny_bind (wpAny_bind (wpAny_field (hmd H) rfl rfl ?_))
  refine wpAny_bind (wpAny_field (hmd H) rfl rfl ?_)
  dsimp -zeta only [rawInt]
  refine wpAny_bind (typeO H (.head _) ?_)
  refine wpAny_bind ?_
  unfold Slots.slotNamesOf classData
  refine wpAny_bind (wpAny_bind (sx_loadG H hC (sx_pure (sx_pure (sx_pure ?_)))))
  refine sx_ifn (by show ¬ ((1 : Nat) ≤ 0); decide) (sx_pure ?_)
  refine wpAny_bind (slotSetD 0 H fun s H => ?_)
  exact sx_pure (sx_pure (sx_pure (sx_pure (hQ _ H))))
end
end Mine
end

section -- K1
open PySem PySem.W PyProof.Rows PySem.W.X PySem.Calls
set_option linter.unusedVariables false
set_option maxRecDepth 100000
set_option maxHeartbeats 2000000
namespace Mine
section
variable {w : World} {os₀ : OsState} {G : Heap} {ow : Ow} {s : Shared} {A : Around} {n : Nat} {E : Value → Shared → Prop} {names : List (Str × NameKind)} {code : Value} {qual : Str}
theorem enterCd {R : Result → Shared → Prop} {a : Addr} {o : Obj} {fd : FuncData} {body : List Stmt} {args : Args}
    (cl : List (Str × Addr)) (cs : Nat → List (Str × Addr))
    (hA : AOk (n + 1) A) (ho : s.heap.get? a = some o) (hdata : o.data = .func fd) (hcd : s.heap.CodeRec fd.code fd.qualname)
    (hbody : fd.body = .stmts body) (hnames : fd.scope.names = names) (hcode : fd.code = code) (hqual : (fd.qualname ++ ".<locals>.") = qual) (hclo : fd.closure = cl)
    (hcs : ∀ k, cellsFrom k names [] = cs k)
    (h : wpAny (model prg w) A.in1 (bindArgs fd args) (fun binds s₁ => ∃ G₁ ow₁, St w os₀ G₁ ow₁ s₁ ∧ ∀ env L A₁ A' s₂, EV env L names (cs (L + 1) ++ cl) code qual → AOk n A' → St w os₀ G₁ ((L, nsP fun _ => none) :: (cellOw (fun _ => none) (cs (L + 1)) ++ ow₁)) s₂ →
      wpAny (model prg w) A₁ (bindAll env binds) (fun _ s₃ => (∃ G₃ ow₃, St w os₀ G₃ ow₃ s₃) ∧ wpAny (model prg w) A' (execs body env) (fun f s' => R (.ok (.ret (retOf f))) s') (fun _ _ => False) s₃) (fun _ _ => False) s₂) (fun _ _ => False) s)
    (hglob : fd.globals = 3) (hbi : fd.builtins = 0)
    (hco : fd.scope.isCoroutine = false) (hgen : fd.scope.isGenerator = false) (hk : fd.scope.kind = .function) :
    codeAny (model prg w) A (.call (.ref a) args) R s := by
  subst hnames hcode hqual hclo
  refine codeAny_call_function hA.room ho hdata hco hgen hbody hcd (wpAny_mono h (fun binds s₁ h₁ => ?_) fun _ _ e => e.elim)
  obtain ⟨G₁, ow₁, H₁, h₁⟩ := h₁
  refine newFnEnv H₁ fun env L s₂ he H₂ => ?_
  rw [hcs] at H₂
  refine wpAny_mono (h₁ env L _ (A.deeper env) s₂ ?_ (hA.deeper _) H₂) (fun _ s₃ h₃ => ⟨noLimit h₃.1.choose_spec.choose_spec, codeAny_func ?_⟩) fun _ _ e => e.elim
  · rw [he, hcs]; exact ⟨rfl, hglob, hbi, hk, rfl, rfl, rfl, rfl⟩
  · refine wpAny_mono h₃.2 (fun f s' hq => ?_) fun _ _ e => e.elim
    cases f <;> exact hq
theorem initK {mc C n1 md bt sl sa f1 f2 f3 f4 f5 f6 : Addr} {fd1 fd2 : FuncData} {e0 e2 e3 e4 e5 e6 e7 e8 e9 e10 e11 e12 e13 : Int} {t t0 t2 t3 t4 t5 t6 t7 t8 t9 t10 t11 t12 t13 t20 u0 u1 u2 : Tok} (hk : KG G mc C n1 md bt sl sa f1 f2 f3 f4 f5 f6 fd1 fd2 e0 e2 e3 e4 e5 e6 e7 e8 e9 e10 e11 e12 e13 t t0 t2 t3 t4 t5 t6 t7 t8 t9 t10 t11 t12 t13 t20 u0 u1 u2)
    {x dx : Addr} {v : Value} {R : Result → Shared → Prop} (hA : AOk (n + 1) A) (H : St w os₀ G ((x, objP (instObj C dx)) :: ow) s) (hQ : ∀ s', St w os₀ G ((x, objP (inO C dx v)) :: ow) s' → R (.ok (.ret .none)) s') : codeAny (model prg w) A (.call (.ref f1) ⟨[.ref x, v], []⟩) R s := by
  have F := hk.initF
  refine enterCd (os₀ := os₀) (names := [(Str.ofString "self", .local), (Str.ofString "obj", .local)]) [] (fun _ => []) hA (H.le _ _ hk.init) rfl (by rw [F.qual]; exact F.code.keeps H.le) F.body (by rw [F.scope]; rfl) rfl rfl F.closure (fun _ => rfl) ?_ F.globals F.builtins (by rw [F.scope]; rfl) (by rw [F.scope]; rfl) (by rw [F.scope]; rfl)
  have hb : bindArgs fd1 ⟨[.ref x, v], []⟩ = pure [(Str.ofString "self", .ref x), (Str.ofString "obj", v)] := by
    have a1 := F.params
    have a2 := F.defaults
    have a3 := F.kwdefaults
    obtain ⟨⟩ := fd1
    dsimp only at a1 a2 a3
    subst a1 a2 a3
    rfl
  rw [hb]
  refine wpAny_pure ⟨_, _, H, fun env L A₁ A' s₂ V hA H => ?_⟩
  refine bindAll_cons (stL V H fun s₂ H => bindAll_cons (stL V H fun s₂ H => bindAll_nil ⟨⟨_, _, H⟩, ?_⟩))
  refine wpAny_execs_cons (plainObj_wpAny_Assign_Attribute (nmL V H rfl (nmL V H rfl (setS hk H.swap fun s H => wpAny_execs_nil (hQ _ H.swap.drop)))))
theorem k_typeCallIn : typeLookup (.type "type") (Str.ofString "__call__") = Sem.pure (some (.builtin "type.__call__")) := by rw [typeLookup_type, builtinLookup_eq_fast]; kernel_rfl
theorem nsOf {h : Heap} {n1 : Addr} {oN : Obj} {x : Str} {r : Option Value} (hN : h.get? n1 = some oN) (hr : nsLook x oN = Sem.pure r) : Looks (model prg w) h (nsGet n1 x) r := by
  intro A Q E s k q
  unfold nsGet
  exact wpAny_bind (wpAny_loadPart (k _ _ hN) (wpAny_of_eq hr q))
theorem looksFind {h : Heap} {C n1 : Addr} {oC oN : Obj} {cd : ClassData} {x : Str} {v : Value} (hC : h.get? C = some oC) (hd : oC.data = .cls cd) (hm : cd.mro = [.ref C, .type "object"]) (hn : cd.ns = n1) (hN : h.get? n1 = some oN) (hr : nsLook x oN = Sem.pure (some v)) : Looks (model prg w) h (typeLookup (.ref C) x) (some v) := by
  intro A Q E s k q
  unfold typeLookup mroOf classOwn classData
  refine wpAny_bind (wpAny_bind (wpAny_bind (wpAny_load (k _ _ hC) ?_)))
  rw [hd]
  refine wpAny_pure (wpAny_pure ?_)
  rw [hm, List.forIn_cons]
  refine wpAny_bind (wpAny_bind (wpAny_bind (wpAny_bind (wpAny_bind (wpAny_load (k _ _ hC) ?_)))))
  rw [hd]
  refine wpAny_pure ?_
  rw [hn]
  refine nsOf hN hr _ _ _ _ k ?_
  exact wpAny_pure (wpAny_pure (wpAny_pure q))
theorem makesK {h : Heap} {mc C n1 md bt sl sa f1 f2 f3 f4 f5 f6 : Addr} {fd1 fd2 : FuncData} {e0 e2 e3 e4 e5 e6 e7 e8 e9 e10 e11 e12 e13 : Int} {t t0 t2 t3 t4 t5 t6 t7 t8 t9 t10 t11 t12 t13 t20 u0 u1 u2 : Tok} (hk : KG G mc C n1 md bt sl sa f1 f2 f3 f4 f5 f6 fd1 fd2 e0 e2 e3 e4 e5 e6 e7 e8 e9 e10 e11 e12 e13 t t0 t2 t3 t4 t5 t6 t7 t8 t9 t10 t11 t12 t13 t20 u0 u1 u2) (hle : Le G h) : Makes (model prg w) h C := by
  have hC := hle _ _ hk.cls
  have hm : Looks (model prg w) h (mroOf (.ref C)) [.ref C, .type "object"] := by
    intro A Q E s k q
    unfold mroOf classData
    exact wpAny_bind (wpAny_bind (wpAny_load (k _ _ hC) (wpAny_pure (wpAny_pure q))))
  have made : Looks (model prg w) h (Bind.madeBy (.ref C)) (some "object.__new__") := by
    intro A Q E s k q
    unfold Bind.madeBy
    refine wpAny_bind (hm A _ E s k ?_)
    rw [List.forIn_cons]
    refine wpAny_bind (wpAny_bind (wpAny_bind (wpAny_bind (wpAny_loadPart (k _ _ hC) (wpAny_pure ?_)))))
    exact wpAny_pure (wpAny_pure (wpAny_pure q))
  have ty : Looks (model prg w) h (typeOf (.ref C)) (.type "type") := by
    intro A Q E s k q
    unfold typeOf
    exact wpAny_bind (wpAny_loadPart (k _ _ hC) (wpAny_pure q))
  refine ⟨⟨_, _, _, _, hC, rfl, rfl, rfl⟩, made, ?_, looksSub hC rfl rfl (by simp), looksSub hC rfl rfl (by simp), ty.andThen (Looks.of_pure k_typeCallIn), ty.andThen (Looks.of_pure k_subTT)⟩
  intro A Q E s k q
  unfold Bind.staticBase
  refine wpAny_bind (hm A _ E s k ?_)
  rw [List.forIn_cons]
  exact wpAny_bind (wpAny_bind (wpAny_bind (made A _ E s k (wpAny_pure (wpAny_pure (wpAny_pure q))))))
theorem mkK {mc C n1 md bt sl sa f1 f2 f3 f4 f5 f6 : Addr} {fd1 fd2 : FuncData} {e0 e2 e3 e4 e5 e6 e7 e8 e9 e10 e11 e12 e13 : Int} {t t0 t2 t3 t4 t5 t6 t7 t8 t9 t10 t11 t12 t13 t20 u0 u1 u2 : Tok} (hk : KG G mc C n1 md bt sl sa f1 f2 f3 f4 f5 f6 fd1 fd2 e0 e2 e3 e4 e5 e6 e7 e8 e9 e10 e11 e12 e13 t t0 t2 t3 t4 t5 t6 t7 t8 t9 t10 t11 t12 t13 t20 u0 u1 u2)
    {v : Value} {Q : Value → Shared → Prop} (hA : AOk (n + 2) A) (H : St w os₀ G ow s) (hQ : ∀ x dx G' s', Le G G' → G'.get? x = some (inO C dx v) → St w os₀ G' ow s' → Q (.ref x) s') : wpAny (model prg w) A (call (.ref C) [v]) Q E s := by
  refine wpAny_call ?_
  obtain ⟨hh, g, d, tt, os⟩ := s
  have hf : ∀ self, Looks (model prg w) hh (bindSpecial (.ref f1) self) (.ref f1, [self]) := fun self => by
    intro A Q E s k q
    unfold bindSpecial typeOf
    refine wpAny_bind (wpAny_bind (wpAny_loadPart (k _ _ (H.le _ _ hk.init)) (wpAny_pure ?_)))
    refine wpAny_of_eq (by kernel_rfl) q
  refine make_core (makesK hk H.le) (looksFind (H.le _ _ hk.cls) rfl rfl rfl (H.le _ _ hk.ns) rfl) hf (.inl rfl) ?_
  have H1 := H.push (P := objP emptyDict) emptyDict rfl rfl tt
  have H2 := H1.push (P := objP (instObj C hh.objs.size)) (instObj C hh.objs.size) rfl rfl tt
  rw [show (Heap.push hh emptyDict).objs.size = hh.objs.size + 1 from Heap.size_push ..] at H2
  refine initK hk (hA.under' (Nat.le_of_ble_eq_true (by kernel_rfl)) (Nat.le_of_ble_eq_true (by kernel_rfl))) H2 fun s' H => ?_
  refine ⟨rfl, ?_⟩
  obtain ⟨o, G1, ho, hle, hg, H⟩ := H.freeze
  cases ho
  exact hQ _ _ G1 s' hle hg H.drop
end
end Mine
end

section -- K2
open PySem PySem.W PyProof.Rows PySem.W.X PySem.Calls
set_option linter.unusedVariables false
set_option maxRecDepth 100000
set_option maxHeartbeats 2000000
namespace Mine
open PySem.Builtin PySem.Builtin.ObjectAttr PySem.Builtin.Getset_descriptor
section
variable {w : World} {os₀ : OsState} {G : Heap} {ow : Ow} {s : Shared} {A : Around} {n : Nat} {E : Value → Shared → Prop} {names : List (Str × NameKind)} {code : Value} {qual : Str}
theorem k_mdGet : typeLookup (.type "member_descriptor") (Str.ofString "__get__") = Sem.pure (some (.builtin "member_descriptor.__get__")) := by rw [typeLookup_type, builtinLookup_eq_fast]; kernel_rfl
theorem looksNone {h : Heap} {C n1 : Addr} {oC oN : Obj} {cd : ClassData} {x : Str} {r : Option Value} (hC : h.get? C = some oC) (hd : oC.data = .cls cd) (hm : cd.mro = [.ref C, .type "object"]) (hn : cd.ns = n1) (hN : h.get? n1 = some oN) (hr : nsLook x oN = Sem.pure none) (hb : builtinOwn "object" x = r) : Looks (model prg w) h (typeLookup (.ref C) x) r := by
  subst hb
  intro A Q E s k q
  unfold typeLookup mroOf classOwn classData
  refine wpAny_bind (wpAny_bind (wpAny_bind (wpAny_load (k _ _ hC) ?_)))
  rw [hd]
  refine wpAny_pure (wpAny_pure ?_)
  rw [hm, List.forIn_cons]
  refine wpAny_bind (wpAny_bind (wpAny_bind (wpAny_bind (wpAny_bind (wpAny_load (k _ _ hC) ?_)))))
  rw [hd]
  refine wpAny_pure ?_
  rw [hn]
  refine nsOf hN hr _ _ _ _ k ?_
  refine wpAny_pure ?_
  refine forIn1 ?_
  refine bindE rfl ?_
  cases hb : builtinOwn "object" x with
  | some v => rw [hb] at q; exact wpAny_pure (wpAny_pure q)
  | none => rw [hb] at q; exact wpAny_pure (wpAny_pure q)
theorem getS {mc C n1 md bt sl sa f1 f2 f3 f4 f5 f6 : Addr} {fd1 fd2 : FuncData} {e0 e2 e3 e4 e5 e6 e7 e8 e9 e10 e11 e12 e13 : Int} {t t0 t2 t3 t4 t5 t6 t7 t8 t9 t10 t11 t12 t13 t20 u0 u1 u2 : Tok} (hk : KG G mc C n1 md bt sl sa f1 f2 f3 f4 f5 f6 fd1 fd2 e0 e2 e3 e4 e5 e6 e7 e8 e9 e10 e11 e12 e13 t t0 t2 t3 t4 t5 t6 t7 t8 t9 t10 t11 t12 t13 t20 u0 u1 u2)
    {x dx va : Addr} {b : Bool} {Q : Value → Shared → Prop} (H : St w os₀ G ow s) (hx : G.get? x = some (inO C dx (.ref va))) (hQ : ∀ s', St w os₀ G ow s' → Q (.ref va) s') : wpAny (model prg w) A (getAttr (.ref x) (Str.ofString "obj") b) Q E s := by
  obtain ⟨hh, g, d, tt, os⟩ := s
  have hC := H.le _ _ hk.cls
  have hN := H.le _ _ hk.ns
  have hM := H.le _ _ hk.mem
  have hX := H.le _ _ hx
  dsimp only at hC hN hM hX
  have T : Looks (model prg w) hh (typeOf (.ref x)) (.ref C) := (Looks.ld hX).andThen .now
  have TM : Looks (model prg w) hh (typeOf (.ref md)) (.type "member_descriptor") := (Looks.ld hM).andThen .now
  have L1 : Looks (model prg w) hh (typeLookup (.ref C) (Str.ofString "obj")) (some (.ref md)) := looksFind hC rfl rfl rfl hN rfl
  have L2 : Looks (model prg w) hh (getOf (some (.ref md))) (some (.builtin "member_descriptor.__get__")) := TM.andThen (Looks.of_pure k_mdGet)
  have L3 : Looks (model prg w) hh (ObjectAttr.takesStores (.ref md)) true := by
    intro A Q E s k q
    unfold ObjectAttr.takesStores specialOf
    refine wpAny_bind (wpAny_bind (TM _ _ _ _ k (wpAny_of_eq k_mdSet ?_)))
    exact sx_ifp' rfl (wpAny_pure q)
  have L4 : Looks (model prg w) hh (ObjectAttr.find (.ref x) (.ref C) (Str.ofString "obj")) (.bind (.builtin "member_descriptor.__get__") (.ref md)) :=
    L1.andThen (L2.andThen ((show Looks (model prg w) hh (ObjectAttr.dataDescriptor? (some (.ref md)) (some (.builtin "member_descriptor.__get__"))) (some (.builtin "member_descriptor.__get__", .ref md)) from L3.andThen .now).andThen (Looks.tag .now)))
  have L5 : Looks (model prg w) hh (typeLookup (.ref C) (Str.ofString "__getattribute__")) (some (.builtin "object.__getattribute__")) := looksNone hC rfl rfl rfl hN rfl (by kernel_rfl)
  have L6 : Looks (model prg w) hh (typeLookup (.ref C) (Str.ofString "__getattr__")) none := looksNone hC rfl rfl rfl hN rfl (by kernel_rfl)
  unfold getAttr getAttrBy
  refine wpAny_bind (wpAny_mkText (wpAny_holding (wpAny_bind (T.at (wpAny_bind (L5.at ?_))))))
  show wpAny _ _ (getAttrEveryday _ _ _) _ _ _
  refine wpAny_bind (wpAny_onRaise (wpAny_runValue (codeAny_builtin F.plainObj_entry_getattr_hooked ?_)))
  refine wpAny_bind (wpAny_pure (wpAny_bind (T.at (wpAny_bind (L4.at (wpAny_bind (L6.at ?_)))))))
  show wpAny _ _ (holding [.ref md] (call (.builtin "member_descriptor.__get__") [.ref md, .ref x, .ref C]) >>= ret) _ _ _
  refine wpAny_bind (wpAny_holding (wpAny_call ?_))
  have f0 := looks_field (M := model prg w) hM 0 (v := .str (Str.ofString "obj") t20) rfl
  have f1 := looks_field (M := model prg w) hM 1 (v := .ref C) rfl
  have f2 := looks_field (M := model prg w) hM 2 (v := .builtin "proto.slot") rfl
  have f4 := looks_field (M := model prg w) hM 4 (v := rawInt 0) rfl
  have LI : Looks (model prg w) hh (isInstance (.ref x) (.ref C)) true := looksInst hX rfl hC rfl rfl (by simp)
  have LS : Looks (model prg w) hh (Slots.slotNamesOf (.ref C)) [Str.ofString "obj"] := by
    intro A Q E s k q
    unfold Slots.slotNamesOf classData
    exact wpAny_bind (wpAny_bind (wpAny_load (k _ _ hC) (wpAny_pure (wpAny_pure q))))
  refine codeAny_call_builtin KF.slot_mem.plain KF.entry_mem (KF.slot_mem.check _ _ _ _ _ _ _ _ ⟨_, hM, rfl⟩ (KF.args_mem _ _ _) ?_)
  unfold Builtin.«member_descriptor.__get__» Getset_descriptor.descrGet
  rw [dga_obj]
  refine wpAny_bind (wpAny_pure ?_)
  unfold Getset_descriptor.descrGetter Getset_descriptor.descrCheckInstance Getset_descriptor.descrNameAndClass
  repeat lk
  refine ⟨Code.quiet_builtin _ (by decide +kernel), codeAny_builtin KF.entry_slot ?_⟩
  unfold Builtin.«proto.slot» Slots.target
  repeat lk
  exact hQ _ (H.tok _)
/-- what is asked of mycmp: a contract of `_law_compared` at two lists -/
noncomputable def CmpSpec (w : World) (os₀ : OsState) (n : Nat) (G : Heap) (a b : Addr) (r : Int) : Prop := Spec w os₀ n (.ref 183) [.ref a, .ref b] G (fun _ v => ∃ t, v = .int r t)
theorem nmFG {env : Env} {L c : Addr} {cs : List (Str × Addr)} {x : Str} {v : Value} {pos : Pos} {o : Obj} {Q : Value → Shared → Prop} (V : EV env L names cs code qual) (H : St w os₀ G ow s) (hm : G.get? c = some o) (ho : o.data = .cell (some v)) (h : Q v s)
    (hc : cs.lookup x = some c := by rfl) (hl : names.lookup x = some .free := by rfl) (hd : (x == ("__debug__" : Str)) = false := by rfl) (hn : (x == ("__classdict__" : Str)) = false := by rfl) :
    wpAny (model prg w) A (eval (.Name x pos) env) Q E s :=
  wpAny_Name (wpAny_loadName_free V.kind (V.kd hl) (V.cells ▸ hc) ⟨_, H.le _ _ hm, ho⟩ h hn) hd
theorem ltCall {mc C n1 md bt sl sa f1 f2 f3 f4 f5 f6 : Addr} {fd1 fd2 : FuncData} {e0 e2 e3 e4 e5 e6 e7 e8 e9 e10 e11 e12 e13 : Int} {t t0 t2 t3 t4 t5 t6 t7 t8 t9 t10 t11 t12 t13 t20 u0 u1 u2 : Tok} (hk : KG G mc C n1 md bt sl sa f1 f2 f3 f4 f5 f6 fd1 fd2 e0 e2 e3 e4 e5 e6 e7 e8 e9 e10 e11 e12 e13 t t0 t2 t3 t4 t5 t6 t7 t8 t9 t10 t11 t12 t13 t20 u0 u1 u2) (hm : MC G mc)
    {x dx y dy a b : Addr} {r : Int} {Q : Value → Shared → Prop} (hA : AOk (n + 1) A) (H : St w os₀ G ow s) (hx : G.get? x = some (inO C dx (.ref a))) (hy : G.get? y = some (inO C dy (.ref b))) (hC : CmpSpec w os₀ n G a b r)
    (hQ : ∀ G' s', Le G G' → St w os₀ G' ow s' → Q (.bool (decide (r < 0))) s') : wpAny (model prg w) A (call (.ref f2) [.ref x, .ref y]) Q E s := by
  refine wpAny_call ?_
  have F := hk.ltF
  refine enterCd (os₀ := os₀) (names := [(Str.ofString "self", .local), (Str.ofString "other", .local), (Str.ofString "mycmp", .free)]) [(Str.ofString "mycmp", mc)] (fun _ => []) hA (H.le _ _ hk.lt) rfl (by rw [F.qual]; exact F.code.keeps H.le) F.body (by rw [F.scope]; rfl) rfl rfl F.closure (fun _ => rfl) ?_ F.globals F.builtins (by rw [F.scope]; rfl) (by rw [F.scope]; rfl) (by rw [F.scope]; rfl)
  have hb : bindArgs fd2 ⟨[.ref x, .ref y], []⟩ = pure [(Str.ofString "self", .ref x), (Str.ofString "other", .ref y)] := by
    have a1 := F.params
    have a2 := F.defaults
    have a3 := F.kwdefaults
    obtain ⟨⟩ := fd2
    dsimp only at a1 a2 a3
    subst a1 a2 a3
    rfl
  rw [hb]
  refine wpAny_pure ⟨_, _, H, fun env L A₁ A' s₂ V hA H => ?_⟩
  refine bindAll_cons (stL V H fun s₂ H => bindAll_cons (stL V H fun s₂ H => bindAll_nil ⟨⟨_, _, H⟩, ?_⟩))
  obtain ⟨om, hmg, hmd⟩ := hm
  refine wpAny_execs_cons (wpAny_Return_some (wpAny_Compare1 ?_))
  refine wpAny_Call_NameR (nmFG V H hmg hmd ?_)
  refine callWith_function (o := _) (fd := _) (evalArgs_plain (spliced_cons (Attribute_name (nmL V H rfl (getS hk H hx fun s H => spliced_cons (Attribute_name (nmL V H rfl (getS hk H hy fun s H => spliced_nil ⟨⟨H.topH 183 _ rfl, rfl⟩, ?_⟩))))))))
  refine hC _ _ _ _ _ hA H ?_
  rintro v G' s' hle H ⟨t, rfl⟩
  refine cInt H fun t0 s H => ?_
  exact PySem.P.lt_int (hQ _ _ hle H.drop)
/-- one question of a sort with keys K(..): what keyLt' answers -/
theorem keyLtK {mc C n1 md bt sl sa f1 f2 f3 f4 f5 f6 : Addr} {fd1 fd2 : FuncData} {e0 e2 e3 e4 e5 e6 e7 e8 e9 e10 e11 e12 e13 : Int} {t t0 t2 t3 t4 t5 t6 t7 t8 t9 t10 t11 t12 t13 t20 u0 u1 u2 : Tok} (hk : KG G mc C n1 md bt sl sa f1 f2 f3 f4 f5 f6 fd1 fd2 e0 e2 e3 e4 e5 e6 e7 e8 e9 e10 e11 e12 e13 t t0 t2 t3 t4 t5 t6 t7 t8 t9 t10 t11 t12 t13 t20 u0 u1 u2) (hm : MC G mc)
    {x dx y dy a b : Addr} {r : Int} {Q : Bool → Shared → Prop} (hA : AOk (n + 1) A) (H : St w os₀ G ow s) (hx : G.get? x = some (inO C dx (.ref a))) (hy : G.get? y = some (inO C dy (.ref b))) (hC : CmpSpec w os₀ n G a b r)
    (hQ : ∀ G' s', Le G G' → St w os₀ G' ow s' → Q (decide (r < 0)) s') : wpAny (model prg w) A (keyLt' oneType' (.ref x) (.ref y)) Q E s := by
  rw [keyLt'_oneType, oneLt'_eq]
  simp only [if_true]
  refine wpAny_bind (wpAny_cRoomFor hA.cl ?_)
  refine wpAny_bind ?_
  have T : Looks (model prg w) s.heap (typeOf (.ref x)) (.ref C) := (Looks.ld (H.le _ _ hx)).andThen .now
  have L1 : Looks (model prg w) s.heap (typeLookup (.ref C) (Str.ofString "__lt__")) (some (.ref f2)) := looksFind (H.le _ _ hk.cls) rfl rfl rfl (H.le _ _ hk.ns) rfl
  have hf : Looks (model prg w) s.heap (bindSpecial (.ref f2) (.ref x)) (.ref f2, [.ref x]) := by
    intro A Q E s k q
    unfold bindSpecial typeOf
    refine wpAny_bind (wpAny_bind (wpAny_loadPart (k _ _ (H.le _ _ hk.lt)) (wpAny_pure ?_)))
    refine wpAny_of_eq (by kernel_rfl) q
  simp only [callSpecialIfBound?, bindSpecialIfBound?]
  refine wpAny_holding (wpAny_bind (wpAny_bind (wpAny_bind (T.here (L1.here ?_)))))
  refine wpAny_bind (wpAny_askSetting (wpAny_ite ?_))
  have fin : ∀ {Q2 : Option Value → Shared → Prop}, (∀ G' s', Le G G' → St w os₀ G' ow s' → Q2 (some (.bool (decide (r < 0)))) s') → wpAny (model prg w) A (call (.ref f2) ([.ref x] ++ [.ref y]) >>= fun v => pure (some v)) Q2 E s := fun h => wpAny_bind (ltCall hk hm hA H hx hy hC fun G' s' hle H => wpAny_pure (h _ _ hle H))
  split
  · exact wpAny_bind (hf.here (wpAny_pure (fin fun G' s' hle H => wpAny_truthy_bool (hQ _ _ hle H))))
  · exact wpAny_tryCatch (wpAny_bind (hf.here (wpAny_pure (fin fun G' s' hle H => wpAny_truthy_bool (hQ _ _ hle H)))))
end
end Mine
end

section -- Srt
open PySem PySem.W PyProof.Rows PySem.W.X PySem.Calls
set_option linter.unusedVariables false
set_option maxRecDepth 100000
set_option maxHeartbeats 2000000
namespace Mine
noncomputable def restO (h : Heap) (xs : List Addr) : List (Addr × Obj) := (List.range h.objs.size).filterMap fun a => if a ∈ xs then none else (h.get? a).map fun o => (a, o)
theorem mem_restO {h : Heap} {xs : List Addr} {a : Addr} {o : Obj} : (a, o) ∈ restO h xs ↔ h.get? a = some o ∧ a ∉ xs := by
  unfold restO
  rw [List.mem_filterMap]
  constructor
  · rintro ⟨b, hb, e⟩
    split at e
    · cases e
    · rename_i hx
      cases hg : h.get? b with
      | none => rw [hg] at e; cases e
      | some o' => rw [hg] at e; cases e; exact ⟨hg, hx⟩
  · rintro ⟨hg, hx⟩
    exact ⟨a, List.mem_range.mpr (Heap.lt_size hg), by rw [if_neg hx, hg]; rfl⟩
noncomputable def h0 : Heap := {}
theorem h0_none (a : Addr) : h0.get? a = none := rfl
section
variable {w : World} {os₀ : OsState} {G : Heap} {ow : Ow} {s : Shared} {A : Around} {n : Nat} {E : Value → Shared → Prop} {L x : Addr} {m : Str → Option Value} {P P' : Obj → Prop}
theorem frOf (h : Heap) (hn : h.Ns L m) : Fr h0 L h m := ⟨hn, fun b o e => (by cases e), Nat.zero_le _⟩
theorem newsOf {h : Heap} {xs : List Addr} (hx : L ∈ xs) : News h0 L h (restO h xs) := fun p hp => by
  obtain ⟨a, o⟩ := p
  obtain ⟨h1, h2⟩ := mem_restO.mp hp
  exact ⟨h1, fun e => h2 (by rw [show a = L from e]; exact hx), rfl⟩
theorem stBack {h' : Heap} {o' : Obj} (H : St w os₀ G ((x, P) :: (L, nsP m) :: ow) s) (F : Fr h0 L h' m) (N : News h0 L h' ((x, o') :: restO s.heap [L, x])) (hP : P' o') : St w os₀ G ((x, P') :: (L, nsP m) :: ow) { s with heap := h' } := by
  have old : ∀ b o, b ≠ L → b ≠ x → s.heap.get? b = some o → h'.get? b = some o := fun b o h1 h2 e => (N (b, o) (.tail _ (mem_restO.mpr ⟨e, by simp [h1, h2]⟩))).1
  have nd := H.nd
  simp only [List.map_cons, List.nodup_cons, List.mem_cons, List.mem_map, not_or] at nd
  refine ⟨H.top, fun b o e => ?_, fun p hp => ?_, fun p hp => ?_, H.nd, H.gens, H.os⟩
  · refine old b o (fun q => ?_) (fun q => ?_) (H.le b o e)
    · rw [q, H.off (L, _) (.tail _ (.head _))] at e; cases e
    · rw [q, H.off (x, P) (.head _)] at e; cases e
  · rcases List.mem_cons.mp hp with rfl | hp
    · exact ⟨o', (N _ (.head _)).1, hP⟩
    · rcases List.mem_cons.mp hp with rfl | hp
      · exact nsP_of F.ns
      · obtain ⟨o, h1, h2⟩ := H.own p (.tail _ (.tail _ hp))
        exact ⟨o, old _ _ (fun q => nd.2.1 ⟨p, hp, q⟩) (fun q => nd.1.2 ⟨p, hp, q⟩) h1, h2⟩
  · rcases List.mem_cons.mp hp with rfl | hp
    · exact H.off (x, P) (.head _)
    · exact H.off p (.tail _ hp)
theorem stNew {h' : Heap} {D kS : Addr} {o1 o2 : Obj} (H : St w os₀ G ((L, nsP m) :: ow) s) (F : Fr h0 L h' m) (N : News h0 L h' ((kS, o1) :: (D, o2) :: restO s.heap [L])) (hlt : D < kS) (hq : ∀ q ∈ restO s.heap [L], q.1 < D) : St w os₀ G ((kS, objP o1) :: (D, objP o2) :: (L, nsP m) :: ow) { s with heap := h' } := by
  have old : ∀ b o, b ≠ L → s.heap.get? b = some o → h'.get? b = some o ∧ b < D := fun b o h1 e => ⟨(N (b, o) (.tail _ (.tail _ (mem_restO.mpr ⟨e, by simp [h1]⟩)))).1, hq (b, o) (mem_restO.mpr ⟨e, by simp [h1]⟩)⟩
  have hD := (N (D, o2) (.tail _ (.head _)))
  have hK := (N (kS, o1) (.head _))
  have nd := H.nd
  have nd' := nd
  simp only [List.map_cons, List.nodup_cons, List.mem_map] at nd'
  have offL : ∀ b o, G.get? b = some o → b ≠ L := fun b o e q => by rw [q, H.off (L, _) (.head _)] at e; cases e
  have owlt : ∀ p ∈ ow, p.1 < D := fun p hp => by
    obtain ⟨o, h1, h2⟩ := H.own p (.tail _ hp)
    exact (old _ _ (fun q => nd'.1 ⟨p, hp, q⟩) h1).2
  have gnone : ∀ b, D ≤ b → G.get? b = none := fun b hb => by
    cases hg : G.get? b with
    | none => rfl
    | some o => exact absurd (old _ _ (offL _ _ hg) (H.le _ _ hg)).2 (Nat.not_lt.mpr hb)
  refine ⟨H.top, fun b o e => (old b o (offL _ _ e) (H.le b o e)).1, fun p hp => ?_, fun p hp => ?_, ?_, H.gens, H.os⟩
  · rcases List.mem_cons.mp hp with rfl | hp
    · exact ⟨o1, hK.1, rfl⟩
    · rcases List.mem_cons.mp hp with rfl | hp
      · exact ⟨o2, hD.1, rfl⟩
      · rcases List.mem_cons.mp hp with rfl | hp
        · exact nsP_of F.ns
        · obtain ⟨o, h1, h2⟩ := H.own p (.tail _ hp)
          exact ⟨o, (old _ _ (fun q => nd'.1 ⟨p, hp, q⟩) h1).1, h2⟩
  · rcases List.mem_cons.mp hp with rfl | hp
    · exact gnone _ (Nat.le_of_lt hlt)
    · rcases List.mem_cons.mp hp with rfl | hp
      · exact gnone _ (Nat.le_refl _)
      · exact H.off p hp
  · simp only [List.map_cons]
    refine List.nodup_cons.mpr ⟨?_, List.nodup_cons.mpr ⟨?_, nd⟩⟩
    · simp only [List.mem_cons, List.mem_map, not_or]
      exact ⟨Nat.ne_of_gt hlt, hK.2.1, fun ⟨p, hp, q⟩ => absurd (owlt p hp) (by rw [q]; exact Nat.not_lt.mpr (Nat.le_of_lt hlt))⟩
    · simp only [List.mem_cons, List.mem_map, not_or]
      exact ⟨hD.2.1, fun ⟨p, hp, q⟩ => absurd (owlt p hp) (by rw [q]; exact Nat.lt_irrefl _)⟩
theorem updRest {h : Heap} {o : Obj} : UpdF x o ((x, o) :: restO h [L, x]) (fun o' => (x, o') :: restO h [L, x]) := .head fun p hp q => by
  obtain ⟨a, o⟩ := p
  exact (mem_restO.mp hp).2 (by rw [show a = x from q]; simp)
theorem newsCons {o : Obj} (H : St w os₀ G ((x, objP o) :: (L, nsP m) :: ow) s) : News h0 L s.heap ((x, o) :: restO s.heap [L, x]) := fun p hp => by
  have nd := H.nd
  simp only [List.map_cons, List.nodup_cons, List.mem_cons, List.mem_map, not_or] at nd
  rcases List.mem_cons.mp hp with rfl | hp
  · obtain ⟨o', h1, h2⟩ := H.own _ (.head _)
    cases h2
    exact ⟨h1, nd.1.1, rfl⟩
  · exact newsOf (by simp) p hp
theorem keysS {f : Value} {vs : List Value} {kS : Addr} {Fin : List Value → Nat → Shared → Prop} (I : Heap → List Value → Prop) (hA : AOk n A) (hm : ∀ G G' ks, Le G G' → I G ks → I G' ks)
    (hcall : ∀ ks v, vs[ks.length]? = some v → ∀ G', Le G G' → I G' ks → Spec w os₀ n f [v] G' (fun G'' k => I G'' (ks ++ [k]))) :
    ∀ (r ks : List Value) (e : Nat) (s : Shared) (G' : Heap), Le G G' → I G' ks → vs.drop ks.length = r → St w os₀ G' ((kS, objP (seqObj "list" ks.toArray e)) :: (L, nsP m) :: ow) s →
      (∀ ks' e' s' G'', Le G' G'' → I G'' ks' → ks'.length = ks.length + r.length → St w os₀ G'' ((kS, objP (seqObj "list" ks'.toArray e')) :: (L, nsP m) :: ow) s' → Fin ks' e' s') →
      KatKeys prg w A h0 L m kS f Fin r ks e s
  | [], ks, e, s, G', hle, hI, hd, H, hF => .nil (hF ks e s G' (Le.refl _) hI (by simp) H)
  | v :: r, ks, e, s, G', hle, hI, hd, H, hF => by
    refine .cons ?_
    have hv : vs[ks.length]? = some v := by
      have := congrArg (·[0]?) hd
      simpa using this
    refine hcall ks v hv G' hle hI A _ s _ _ hA H fun k G'' s' hle' H' hI' => ?_
    refine KatBack.intro (frOf _ (H'.swap.ns)) (newsCons H') updRest fun h' c F' N' => ?_
    refine keysS I hA hm hcall r (ks ++ [k]) c _ G'' (hle.trans hle') hI' ?_ (stBack H' F' N' rfl) fun ks' e' s' G3 h1 h2 h3 h4 => hF ks' e' s' G3 (hle'.trans h1) h2 ?_ h4
    · rw [List.length_append, List.length_singleton, ← List.drop_drop, hd]; rfl
    · rw [h3]; simp; omega
noncomputable def kRun {α : Type} (lt : Nat → Nat → Bool) : KasT α → α
  | .ret a => a
  | .ask i j k => kRun lt (k (lt i j))
noncomputable def kIn {α : Type} (n : Nat) : KasT α → Prop
  | .ret _ => True
  | .ask i j k => i < n ∧ j < n ∧ ∀ b, kIn n (k b)
theorem runS {α : Type} {κ : SortKind} {ks : List Value} {n k : Nat} {lt : Nat → Nat → Bool} {Q : α → Shared → Prop} (I : Heap → Prop) (hA : AOk n A) (hm : ∀ G G', Le G G' → I G → I G')
    (hask : ∀ i j G' (ow : Ow) s' (Q : Bool → Shared → Prop), i < k → j < k → I G' → St w os₀ G' ow s' → (∀ G'' s'', Le G' G'' → St w os₀ G'' ow s'' → Q (lt i j) s'') → wpAny (model prg w) A (keyLt' κ (ks.getD i Value.none) (ks.getD j Value.none)) Q (fun _ _ => False) s') :
    ∀ (t : KasT α) (G : Heap) (s : Shared), kIn k t → I G → St w os₀ G ow s → (∀ G' s', Le G G' → St w os₀ G' ow s' → Q (kRun lt t) s') → t.kasWp (kas_ask prg w A κ ks) Q s
  | .ret a, G, s, _, _, H, h => h G s (Le.refl _) H
  | .ask i j kk, G, s, ⟨h1, h2, h3⟩, hI, H, h => by
    show kas_ask prg w A κ ks i j _ s
    unfold kas_ask
    refine hask i j G ow s _ h1 h2 hI H fun G' s' hle H' => ?_
    exact runS I hA hm hask (kk (lt i j)) G' s' (h3 _) (hm _ _ hle hI) H' fun G'' s'' hle' H'' => h G'' s'' (hle.trans hle') H''
theorem sortS {l : Addr} {f : Value} {kw : List (Str × Value)} {vs : List Value} {κ : SortKind} {lt : Nat → Nat → Bool} {Q : Value → Shared → Prop} (I : Heap → List Value → Prop) (hA : AOk (n + 2) A) (H : St w os₀ G ((L, nsP m) :: ow) s) (hl : G.IsList l vs.toArray) (h2 : 2 ≤ vs.length) (h64 : vs.length < 64)
    (ha1 : argsOk "sorted" ⟨[.ref l], kw⟩) (ha2 : ∀ x, argsOk "list.sort" ⟨[.ref x], kw⟩) (ht : ∀ x, Builtin.«list.sort» ⟨[.ref x], kw⟩ = ksk_tree x f false)
    (hkin : kIn vs.length (kas_sort vs.length)) (hI0 : I G []) (hm : ∀ G G' ks, Le G G' → I G ks → I G' ks)
    (hcall : ∀ ks v, vs[ks.length]? = some v → ∀ G', Le G G' → I G' ks → Spec w os₀ n f [v] G' (fun G'' k => I G'' (ks ++ [k])))
    (hkind : ∀ ks G' (s' : Shared) (A : Around) (Q : SortKind → Shared → Prop), I G' ks → ks.length = vs.length → Le G' s'.heap → Q κ s' → wpAny (model prg w) A (keyKind' ks.toArray) Q (fun _ _ => False) s')
    (hask : ∀ ks i j G' A (ow : Ow) s' (Q : Bool → Shared → Prop), AOk n A → ks.length = vs.length → i < vs.length → j < vs.length → I G' ks → St w os₀ G' ow s' → (∀ G'' s'', Le G' G'' → St w os₀ G'' ow s'' → Q (lt i j) s'') → wpAny (model prg w) A (keyLt' κ (ks.getD i Value.none) (ks.getD j Value.none)) Q (fun _ _ => False) s')
    (hQ : ∀ D c G' s', Le G G' → St w os₀ G' ((D, objP (listOf ((kRun lt (kas_sort vs.length)).toList.map fun i => vs.getD i Value.none).toArray c)) :: (L, nsP m) :: ow) s' → Q (.ref D) s') :
    wpAny (model prg w) A (call (.builtin "sorted") [.ref l] kw) Q E s := by
  refine kat_sortedK (frOf s.heap H.ns) (newsOf (h := s.heap) (xs := [L]) (by simp)) (isList_le hl H.le) h2 h64 ha1 ha2 ht fun D kS e1 h' F' N' hDk hq => ?_
  have H1 := stNew H F' N' hDk hq
  have hA2 : AOk n A.in1.in1 := (AOk.in1 (n := n + 1) hA).in1
  have p1 : ∀ {a b c : Addr × (Obj → Prop)}, (a :: b :: c :: ow).Perm (a :: c :: b :: ow) := (List.Perm.swap _ _ _).cons _
  refine keysS I hA2 hm hcall vs [] 0 _ G (Le.refl _) hI0 rfl (H1.perm p1) fun ks e s1 G1 hle1 hI1 hlen H2 => ?_
  have hlen : ks.length = vs.length := by simpa using hlen
  refine hkind ks G1 s1 _ _ hI1 hlen H2.le ?_
  refine runS (k := vs.length) (lt := lt) (fun G => I G ks) hA2 (fun G G' x h => hm G G' ks x h) (fun i j G' ow s' Q h1 h2 hI H h => hask ks i j G' _ ow s' Q hA2 hlen h1 h2 hI H h) _ G1 s1 hkin hI1 H2 fun G2 s2 hle2 H3 => ?_
  refine KatFin.intro (frOf _ H3.swap.ns) (newsCons H3) updRest fun h2 c F2 N2 => ?_
  have H4 := stBack (P' := objP (seqObj "list" #[] c)) H3 F2 N2 rfl
  have p2 : ∀ {a b c : Addr × (Obj → Prop)}, (a :: b :: c :: ow).Perm (c :: b :: a :: ow) := by
    intro a b c
    exact (List.Perm.swap _ _ _).trans (((List.Perm.swap _ _ _).cons _).trans (List.Perm.swap _ _ _))
  have H5 := H4.perm p2
  refine KasFin.intro (frOf _ H5.swap.ns) (newsCons H5) updRest fun h3 c3 F3 N3 => ?_
  have H6 := stBack (P' := objP (listOf ((kRun lt (kas_sort vs.length)).toList.map fun i => vs.getD i Value.none).toArray c3)) H5 F3 N3 rfl
  have p3 : ∀ {a b c : Addr × (Obj → Prop)}, (a :: b :: c :: ow).Perm (c :: a :: b :: ow) := by
    intro a b c
    exact ((List.Perm.swap _ _ _).cons _).trans (List.Perm.swap _ _ _)
  exact hQ D c3 G2 _ (hle1.trans hle2) (H6.perm p3).drop
end
end Mine
end

section -- Kp
open PySem PySem.W PyProof.Rows PySem.W.X PySem.Calls
set_option linter.unusedVariables false
set_option maxHeartbeats 2000000
namespace Mine
noncomputable def kInP {α : Type} (n : Nat) (P : α → Prop) : KasT α → Prop
  | .ret a => P a
  | .ask i j k => i < n ∧ j < n ∧ ∀ b, kInP n P (k b)
theorem kInP_bind {α β : Type} {n : Nat} {P : α → Prop} {R : β → Prop} {f : α → KasT β} : ∀ {t : KasT α}, kInP n P t → (∀ a, P a → kInP n R (f a)) → kInP n R (t.bind f)
  | .ret a, h, hf => hf a h
  | .ask i j k, ⟨h1, h2, h3⟩, hf => ⟨h1, h2, fun b => kInP_bind (h3 b) hf⟩
theorem kInP_in {α : Type} {n : Nat} {P : α → Prop} : ∀ {t : KasT α}, kInP n P t → kIn n t
  | .ret _, _ => trivial
  | .ask _ _ _, ⟨h1, h2, h3⟩ => ⟨h1, h2, fun b => kInP_in (h3 b)⟩
noncomputable def ALt (n : Nat) (p : Array Nat) : Prop := ∀ i, p.getD i 0 < n
theorem ALt_iff {n : Nat} (hn : 0 < n) {p : Array Nat} : ALt n p ↔ ∀ x ∈ p, x < n := by
  constructor
  · intro h x hx
    obtain ⟨i, hi, e⟩ := Array.getElem_of_mem hx
    have := h i
    simp [Array.getD, hi] at this
    omega
  · intro h i
    unfold Array.getD
    split
    · exact h _ (Array.getElem_mem _)
    · exact hn
theorem ALt_perm {n : Nat} (hn : 0 < n) {p q : Array Nat} (h : q.Perm p) (hp : ALt n p) : ALt n q := by
  rw [ALt_iff hn] at hp ⊢
  intro x hx
  exact hp x (h.mem_iff.mp hx)
noncomputable def rngA (n : Nat) : Array Nat := List.toArray (List.range n)
theorem rng_lt {n : Nat} (hn : 0 < n) {p : Array Nat} (h : p.Perm (rngA n)) : ALt n p :=
  ALt_perm hn h ((ALt_iff hn).mpr fun x hx => by simpa [rngA] using hx)
section
variable {n : Nat} (hn : 0 < n)
include hn
theorem asc_in {p : Array Nat} (hp : p.Perm (rngA n)) : ∀ f k, kInP n (fun _ => True) (kas_asc p f k)
  | 0, k => trivial
  | f + 1, k => ⟨rng_lt hn hp _, rng_lt hn hp _, fun b => by
      cases b with
      | true => exact trivial
      | false => exact asc_in hp f (k + 1)⟩
theorem rev_perm {p : Array Nat} (hp : p.Perm (rngA n)) (i j : Nat) : (kas_rev p i j).Perm (rngA n) := (mirror_perm _ _ _ _).trans hp
theorem desc_in : ∀ f (p : Array Nat) k q, p.Perm (rngA n) → kInP n (fun r : Array Nat × Nat × Nat => r.1.Perm (rngA n)) (kas_desc f p k q)
  | 0, p, k, q, hp => hp
  | f + 1, p, k, q, hp => ⟨rng_lt hn hp _, rng_lt hn hp _, fun b => by
      cases b with
      | true =>
        dsimp only
        rw [if_pos rfl]
        split
        · exact desc_in f _ _ _ (rev_perm hn hp _ _)
        · exact desc_in f _ _ _ hp
      | false =>
        dsimp only
        rw [if_neg (by simp)]
        refine ⟨rng_lt hn hp _, rng_lt hn hp _, fun d => ?_⟩
        cases d with
        | true => exact hp
        | false => exact desc_in f _ _ _ hp⟩
theorem tail3_in {p : Array Nat} (hp : p.Perm (rngA n)) (a b : Nat) : kInP n (fun r : Nat × Array Nat => r.2.Perm (rngA n)) (kas_tail3 a b p) :=
  kInP_bind (asc_in hn (rev_perm hn hp _ _) _ _) fun _ _ => rev_perm hn hp _ _
theorem descPart_in {p : Array Nat} (hp : p.Perm (rngA n)) (a b : Nat) : kInP n (fun r : Nat × Array Nat => r.2.Perm (rngA n)) (kas_descPart a b p) := by
  refine kInP_bind (desc_in hn _ _ _ _ hp) fun r hr => ?_
  split
  · exact tail3_in hn (rev_perm hn hr _ _) _ _
  · exact tail3_in hn hr _ _
theorem count_in {p : Array Nat} (hp : p.Perm (rngA n)) (b : Nat) : kInP n (fun r : Nat × Array Nat => r.2.Perm (rngA n)) (kas_count b p) := by
  refine kInP_bind (asc_in hn hp _ _) fun k _ => ?_
  split
  · exact hp
  · split
    · refine ⟨rng_lt hn hp _, rng_lt hn hp _, fun c => ?_⟩
      cases c with
      | true => exact hp
      | false => exact descPart_in hn (rev_perm hn hp _ _) _ _
    · exact descPart_in hn hp _ _
theorem place_in {p : Array Nat} (hp : p.Perm (rngA n)) (k : Nat) : ∀ f l r, kInP n (fun _ => True) (kas_place p k f l r)
  | 0, _, _ => trivial
  | f + 1, l, r => by
    unfold kas_place
    split
    · exact trivial
    · refine ⟨rng_lt hn hp _, rng_lt hn hp _, fun b => ?_⟩
      cases b with
      | true => exact place_in hp k f _ _
      | false => exact place_in hp k f _ _
theorem bin_in : ∀ f (p : Array Nat) k, p.Perm (rngA n) → kInP n (fun q : Array Nat => q.Perm (rngA n)) (kas_bin f p k)
  | 0, p, k, hp => hp
  | f + 1, p, k, hp => kInP_bind (place_in hn hp _ _ _ _) fun l _ => bin_in f _ _ ((bubble_perm _ _ _).trans hp)
theorem sort_in : kInP n (fun q : Array Nat => q.Perm (rngA n)) (kas_sort n) := by
  refine kInP_bind (count_in hn (.refl _) _) fun r hr => ?_
  split
  · exact bin_in hn _ _ _ hr
  · exact hr
end
theorem kIn_sort {n : Nat} (hn : 0 < n) : kIn n (kas_sort n) := kInP_in (sort_in hn)
theorem kRun_P {α : Type} {n : Nat} {P : α → Prop} {lt : Nat → Nat → Bool} : ∀ {t : KasT α}, kInP n P t → P (kRun lt t)
  | .ret _, h => h
  | .ask i j k, ⟨_, _, h⟩ => kRun_P (n := n) (P := P) (lt := lt) (t := k (lt i j)) (h (lt i j))
theorem kRun_perm {n : Nat} (hn : 0 < n) (lt : Nat → Nat → Bool) : (kRun lt (kas_sort n)).Perm (rngA n) := kRun_P (sort_in hn)
theorem kRun_bind {α β : Type} {lt : Nat → Nat → Bool} {f : α → KasT β} : ∀ t : KasT α, kRun lt (t.bind f) = kRun lt (f (kRun lt t))
  | .ret _ => rfl
  | .ask i j k => kRun_bind (k (lt i j))
end Mine
end

section -- Kq
open PySem PySem.W PyProof.Rows PySem.W.X PySem.Calls
set_option linter.unusedVariables false
set_option linter.unusedSectionVars false
set_option maxHeartbeats 2000000
namespace Mine
theorem getD_q (p : Array Nat) (k : Nat) : p.getD k 0 = (p[k]?).getD 0 := by simp
theorem rev_getD {p : Array Nat} {i j : Nat} (hj : j ≤ p.size) (k : Nat) : (kas_rev p i j).getD k 0 = if i ≤ k ∧ k < j then p.getD (i + j - 1 - k) 0 else p.getD k 0 := by
  rw [getD_q, getD_q, getD_q]
  unfold kas_rev
  rw [getElem?_mirror_all hj]
  split <;> rfl
theorem bub_getD {p : Array Nat} {k l : Nat} (hk : k < p.size) (hl : l ≤ k) (i : Nat) : (bubble p k (k - l)).getD i 0 = if i = l then p.getD k 0 else if l < i ∧ i ≤ k then p.getD (i - 1) 0 else p.getD i 0 := by
  rw [getD_q, getD_q, getD_q, getD_q, getElem?_bubble hk _ (by omega), show k - (k - l) = l by omega]
  split
  · rfl
  · split <;> rfl
section
variable {lt : Nat → Nat → Bool} (as : ∀ a b, lt a b = true → lt b a = false) (tr : ∀ a b c, lt b a = false → lt c b = false → lt c a = false)
noncomputable def Srt (lt : Nat → Nat → Bool) (p : Array Nat) (k : Nat) : Prop := ∀ i j, i ≤ j → j < k → lt (p.getD j 0) (p.getD i 0) = false
noncomputable def Dsc (lt : Nat → Nat → Bool) (p : Array Nat) (k : Nat) : Prop := ∀ i j, i ≤ j → j < k → lt (p.getD i 0) (p.getD j 0) = false
include as tr
theorem irr (a : Nat) : lt a a = false := by
  cases h : lt a a with
  | false => rfl
  | true => rw [as a a h] at h; cases h
theorem srt_one (p : Array Nat) : Srt lt p 1 := fun i j h1 h2 => by
  obtain rfl : i = j := by omega
  exact irr as tr _
theorem srt_ext {p : Array Nat} {k : Nat} (hk : 1 ≤ k) (h : Srt lt p k) (hl : lt (p.getD k 0) (p.getD (k - 1) 0) = false) : Srt lt p (k + 1) := fun i j h1 h2 => by
  by_cases hj : j < k
  · exact h i j h1 hj
  · obtain rfl : j = k := by omega
    by_cases hi : i = j
    · subst hi; exact irr as tr _
    · exact tr _ _ _ (h i (j - 1) (by omega) (by omega)) hl
theorem asc_run {p : Array Nat} : ∀ f k, 1 ≤ k → Srt lt p k → Srt lt p (kRun lt (kas_asc p f k)) ∧ k ≤ kRun lt (kas_asc p f k) ∧ kRun lt (kas_asc p f k) ≤ k + f ∧ (kRun lt (kas_asc p f k) < k + f → lt (p.getD (kRun lt (kas_asc p f k)) 0) (p.getD (kRun lt (kas_asc p f k) - 1) 0) = true)
  | 0, k, _, h => ⟨h, Nat.le_refl _, Nat.le_refl _, fun hh => absurd hh (Nat.lt_irrefl _)⟩
  | f + 1, k, hk, h => by
    unfold kas_asc
    unfold kRun
    cases hc : lt (p.getD k 0) (p.getD (k - 1) 0) with
    | true =>
      dsimp only
      rw [if_pos rfl]
      exact ⟨h, Nat.le_refl _, by show k ≤ _; omega, fun _ => hc⟩
    | false =>
      dsimp only
      rw [if_neg (by simp)]
      obtain ⟨a, b, c, d⟩ := asc_run f (k + 1) (by omega) (srt_ext as tr hk h hc)
      exact ⟨a, by omega, by omega, fun hh => d (by omega)⟩
theorem dsc_ext {p : Array Nat} {k : Nat} (hk : 1 ≤ k) (h : Dsc lt p k) (hl : lt (p.getD (k - 1) 0) (p.getD k 0) = false) : Dsc lt p (k + 1) := fun i j h1 h2 => by
  by_cases hj : j < k
  · exact h i j h1 hj
  · obtain rfl : j = k := by omega
    by_cases hi : i = j
    · subst hi; exact irr as tr _
    · exact tr _ _ _ hl (h i (j - 1) (by omega) (by omega))
theorem dsc_rev {p : Array Nat} {k i j : Nat} (hj : j ≤ k) (hk : k ≤ p.size) (h : Dsc lt p k) (ht : ∀ a b, i ≤ a → a < j → i ≤ b → b < j → lt (p.getD a 0) (p.getD b 0) = false) : Dsc lt (kas_rev p i j) k := fun a b h1 h2 => by
  rw [rev_getD (by omega), rev_getD (by omega)]
  split <;> split
  · exact ht _ _ (by omega) (by omega) (by omega) (by omega)
  · exact h _ _ (by omega) h2
  · exact h _ _ (by omega) (by omega)
  · exact h _ _ h1 h2
/-- what a descending run is: the last q + 1 of its k things are alike -/
structure DRun (lt : Nat → Nat → Bool) (N : Nat) (p : Array Nat) (k q : Nat) : Prop where
  size : p.size = N
  le : k ≤ N
  hq : q + 1 ≤ k
  dsc : Dsc lt p k
  ties : ∀ i, k - (q + 1) ≤ i → i < k → lt (p.getD (k - 1) 0) (p.getD i 0) = false
theorem DRun.tie {N q k : Nat} {p : Array Nat} (D : DRun lt N p k q) : ∀ a b, k - (q + 1) ≤ a → a < k → k - (q + 1) ≤ b → b < k → lt (p.getD a 0) (p.getD b 0) = false := fun a b h1 h2 h3 h4 =>
  tr _ _ _ (D.ties b h3 h4) (D.dsc a (k - 1) (by omega) (by have := D.hq; omega))
theorem desc_run {N : Nat} : ∀ f (p : Array Nat) k q, k + f ≤ N → DRun lt N p k q → DRun lt N (kRun lt (kas_desc f p k q)).1 (kRun lt (kas_desc f p k q)).2.1 (kRun lt (kas_desc f p k q)).2.2 ∧ k ≤ (kRun lt (kas_desc f p k q)).2.1
  | 0, p, k, q, _, D => ⟨D, Nat.le_refl _⟩
  | f + 1, p, k, q, hN, D => by
    have hq := D.hq
    unfold kas_desc
    unfold kRun
    cases hc : lt (p.getD k 0) (p.getD (k - 1) 0) with
    | true =>
      dsimp only
      rw [if_pos rfl]
      have e1 := dsc_ext as tr (by omega) D.dsc (as _ _ hc)
      split
      · have e2 : Dsc lt (kas_rev p (k - (q + 1)) k) (k + 1) := dsc_rev as tr (i := k - (q + 1)) (j := k) (by omega) (by rw [D.size]; omega) e1 (DRun.tie as tr D)
        obtain ⟨a, b⟩ := desc_run f (kas_rev p (k - (q + 1)) k) (k + 1) 0 (by omega) ⟨(mirror_size _ _ _ _).trans D.size, by omega, by omega, e2, fun i h1 h2 => by
          obtain rfl : i = k := by omega
          exact irr as tr _⟩
        exact ⟨a, by omega⟩
      · obtain ⟨a, b⟩ := desc_run f p (k + 1) 0 (by omega) ⟨D.size, by omega, by omega, e1, fun i h1 h2 => by
          obtain rfl : i = k := by omega
          exact irr as tr _⟩
        exact ⟨a, by omega⟩
    | false =>
      dsimp only
      rw [if_neg (by simp)]
      unfold kRun
      cases hd : lt (p.getD (k - 1) 0) (p.getD k 0) with
      | true => exact ⟨D, Nat.le_refl _⟩
      | false =>
        dsimp only
        rw [if_neg (by simp)]
        obtain ⟨a, b⟩ := desc_run f p (k + 1) (q + 1) (by omega) ⟨D.size, by omega, by omega, dsc_ext as tr (by omega) D.dsc hd, fun i h1 h2 => by
          by_cases hi : i = k
          · subst hi; exact irr as tr _
          · exact tr _ _ _ (D.ties i (by omega) (by omega)) hc⟩
        exact ⟨a, by omega⟩
theorem tail3_run {N k n : Nat} {p : Array Nat} (hs : p.size = N) (hk : k ≤ n) (hn : n ≤ N) (h1 : 1 ≤ k) (D : Dsc lt p k) : Srt lt (kRun lt (kas_tail3 k n p)).2 (kRun lt (kas_tail3 k n p)).1 ∧ (kRun lt (kas_tail3 k n p)).1 ≤ n ∧ 1 ≤ (kRun lt (kas_tail3 k n p)).1 := by
  unfold kas_tail3
  rw [kRun_bind]
  have hs : Srt lt (kas_rev p 0 k) k := fun i j h1 h2 => by
    rw [rev_getD (by omega), rev_getD (by omega), if_pos (by omega), if_pos (by omega)]
    exact D _ _ (by omega) (by omega)
  obtain ⟨a, b, c, d⟩ := asc_run as tr (n - k) k h1 hs
  exact ⟨a, by show kRun lt (kas_asc (kas_rev p 0 k) (n - k) k) ≤ n; omega, by show 1 ≤ kRun lt (kas_asc (kas_rev p 0 k) (n - k) k); omega⟩
theorem descPart_run {N n : Nat} {p : Array Nat} (hs : p.size = N) (hn : n + 1 ≤ N) (D : Dsc lt p (n + 1)) : Srt lt (kRun lt (kas_descPart n N p)).2 (kRun lt (kas_descPart n N p)).1 ∧ (kRun lt (kas_descPart n N p)).1 ≤ N ∧ 1 ≤ (kRun lt (kas_descPart n N p)).1 := by
  unfold kas_descPart
  rw [kRun_bind]
  obtain ⟨a, b⟩ := desc_run as tr (N - (n + 1)) p (n + 1) 0 (by omega) ⟨hs, hn, by omega, D, fun i h1 h2 => by
    obtain rfl : i = n := by omega
    exact irr as tr _⟩
  generalize kRun lt (kas_desc (N - (n + 1)) p (n + 1) 0) = r at a b
  have h1 := a.le
  have h2 := a.size
  split
  · exact tail3_run as tr (N := N) ((mirror_size _ _ _ _).trans a.size) (by omega) (Nat.le_refl _) (by omega) (dsc_rev as tr (i := r.2.1 - (r.2.2 + 1)) (j := r.2.1) (by omega) (by omega) a.dsc (DRun.tie as tr a))
  · exact tail3_run as tr (N := N) a.size (by omega) (Nat.le_refl _) (by omega) a.dsc
theorem count_run {N : Nat} {p : Array Nat} (hs : p.size = N) (hN : 1 ≤ N) : Srt lt (kRun lt (kas_count N p)).2 (kRun lt (kas_count N p)).1 ∧ (kRun lt (kas_count N p)).1 ≤ N ∧ 1 ≤ (kRun lt (kas_count N p)).1 := by
  unfold kas_count
  rw [kRun_bind]
  obtain ⟨a, b, c, d⟩ := asc_run as tr (p := p) (N - 1) 1 (Nat.le_refl _) (srt_one as tr p)
  generalize kRun lt (kas_asc p (N - 1) 1) = m at a b c d
  split
  · rename_i h
    exact ⟨a, by show m ≤ N; omega, b⟩
  · rename_i h
    have hne : m ≠ N := by simpa using h
    have hd := d (by omega)
    split
    · rename_i h1
      unfold kRun
      cases hc : lt (p.getD 0 0) (p.getD (m - 1) 0) with
      | true =>
        dsimp only
        rw [if_pos rfl]
        exact ⟨a, by show m ≤ N; omega, b⟩
      | false =>
        dsimp only
        rw [if_neg (by simp)]
        have tie : ∀ x y, x < m → y < m → lt (p.getD x 0) (p.getD y 0) = false := fun x y hx hy =>
          tr _ _ _ (a y (m - 1) (by omega) (by omega)) (tr _ _ _ hc (a 0 x (by omega) hx))
        refine descPart_run as tr ((mirror_size _ _ _ _).trans hs) (by omega) (dsc_ext as tr b (fun i j h2 h3 => ?_) ?_)
        · rw [rev_getD (by omega), rev_getD (by omega), if_pos (by omega), if_pos (by omega)]
          exact tie _ _ (by omega) (by omega)
        · rw [rev_getD (by omega), rev_getD (by omega), if_pos (by omega), if_neg (by omega)]
          exact tr _ _ _ (as _ _ hd) (tie _ _ (by omega) (by omega))
    · obtain rfl : m = 1 := by omega
      exact descPart_run as tr hs (by omega) (dsc_ext as tr (Nat.le_refl _) (fun i j h2 h3 => by
        obtain rfl : i = j := by omega
        exact irr as tr _) (as _ _ hd))
theorem place_run {p : Array Nat} {k : Nat} (hs : Srt lt p k) : ∀ f l r, l ≤ r → r ≤ k → r - l ≤ f → (∀ i, i < l → lt (p.getD k 0) (p.getD i 0) = false) → (∀ i, r ≤ i → i < k → lt (p.getD k 0) (p.getD i 0) = true) →
    kRun lt (kas_place p k f l r) ≤ k ∧ (∀ i, i < kRun lt (kas_place p k f l r) → lt (p.getD k 0) (p.getD i 0) = false) ∧ (∀ i, kRun lt (kas_place p k f l r) ≤ i → i < k → lt (p.getD k 0) (p.getD i 0) = true)
  | 0, l, r, h1, h2, h3, ha, hb => ⟨by show l ≤ k; omega, ha, fun i hi => hb i (by have : l ≤ i := hi; omega)⟩
  | f + 1, l, r, h1, h2, h3, ha, hb => by
    unfold kas_place
    split
    · exact ⟨by show l ≤ k; omega, ha, fun i hi => hb i (by have : l ≤ i := hi; omega)⟩
    · unfold kRun
      cases hc : lt (p.getD k 0) (p.getD ((l + r) / 2) 0) with
      | true =>
        dsimp only
        rw [if_pos rfl]
        refine place_run hs f l ((l + r) / 2) (by omega) (by omega) (by omega) ha fun i hi hk => ?_
        cases h9 : lt (p.getD k 0) (p.getD i 0) with
        | true => rfl
        | false =>
          have := tr _ _ _ (hs _ _ hi hk) h9
          rw [this] at hc; cases hc
      | false =>
        dsimp only
        rw [if_neg (by simp)]
        refine place_run hs f ((l + r) / 2 + 1) r (by omega) h2 (by omega) (fun i hi => ?_) hb
        exact tr _ _ _ (hs i ((l + r) / 2) (by omega) (by omega)) hc
theorem bin_run {N : Nat} : ∀ f (p : Array Nat) k, p.size = N → k + f = N → 1 ≤ k → Srt lt p k → Srt lt (kRun lt (kas_bin f p k)) N
  | 0, p, k, h1, h2, h3, h4 => by
    obtain rfl : k = N := by omega
    exact h4
  | f + 1, p, k, h1, h2, h3, h4 => by
    unfold kas_bin
    rw [kRun_bind]
    obtain ⟨a, b, c⟩ := place_run as tr h4 k 0 k (by omega) (Nat.le_refl _) (by omega) (fun i hi => by omega) (fun i hi hk => by omega)
    generalize kRun lt (kas_place p k k 0 k) = l at a b c
    refine bin_run f _ (k + 1) ((bubble_size _ _ _).trans h1) (by omega) (by omega) fun i j hij hj => ?_
    rw [bub_getD (by omega) a, bub_getD (by omega) a]
    repeat' split
    all_goals first | exact irr as tr _ | (exfalso; omega) | skip
    all_goals first | exact h4 _ _ (by omega) (by omega) | exact b _ (by omega) | exact as _ _ (c _ (by omega) (by omega)) | skip
theorem sort_run {N : Nat} (hN : 1 ≤ N) : Srt lt (kRun lt (kas_sort N)) N := by
  unfold kas_sort
  rw [kRun_bind]
  have hsz : (List.toArray (List.range N)).size = N := by simp
  obtain ⟨a, b, c⟩ := count_run as tr hsz hN
  have hp : (kRun lt (kas_count N (List.toArray (List.range N)))).2.Perm (rngA N) := kRun_P (P := fun r : Nat × Array Nat => r.2.Perm (rngA N)) (count_in hN (.refl _) N)
  have hs : (kRun lt (kas_count N (List.toArray (List.range N)))).2.size = N := by rw [hp.size_eq]; simp [rngA]
  generalize kRun lt (kas_count N (List.toArray (List.range N))) = r at a b c hs
  split
  · exact bin_run as tr _ _ _ hs (by omega) (by omega) (by rw [Nat.max_eq_left c]; exact a)
  · have : r.1 = N := by omega
    rw [this] at a
    exact a
end
end Mine
end

section -- Kr
open PySem PySem.W PyProof.Rows PySem.W.X PySem.Calls
set_option linter.unusedVariables false
set_option maxRecDepth 100000
set_option maxHeartbeats 2000000
namespace Mine
/-- the place of a name among the names in small letters: a >> .., a, b.., c.. by the letters' numbers -/
noncomputable def rk (x : Str) : Nat := if x == Str.ofString "a" then 0 else if x == Str.ofString "A>>\r\r\n\n\t\t" then 1 else if x == Str.ofString "c<\"<" then 3 else 2
theorem rk_cmp : ∀ a ∈ NM, ∀ b ∈ NM, decide (cmpL (Txt.lower a) (Txt.lower b) < 0) = decide (rk a < rk b) := by decide +kernel
/-- the ranks of five names, by place in NM -/
noncomputable def rkN : Nat → Nat
  | 0 => 0 | 1 => 2 | 2 => 2 | 3 => 3 | _ => 1
theorem rkN_ok : ∀ i < 5, rk (NM.getD i Str.empty) = rkN i := by decide +kernel
noncomputable def insN (x : Nat) : List Nat → List Nat
  | [] => [x]
  | y :: r => if rkN x < rkN y then x :: y :: r else y :: insN x r
noncomputable def stabN (l : List Nat) : List Nat := l.foldl (fun acc x => insN x acc) []
/-- all lists of exactly k different things of l -/
noncomputable def arrs (l : List Nat) : Nat → List (List Nat)
  | 0 => [[]]
  | k + 1 => (arrs l k).flatMap fun r => (l.filter fun x => !r.contains x).map fun x => x :: r
theorem mem_arrs {l : List Nat} : ∀ {r : List Nat}, r.Nodup → (∀ x ∈ r, x ∈ l) → r ∈ arrs l r.length
  | [], _, _ => .head _
  | x :: r, hn, hm => by
    have hn' := List.nodup_cons.mp hn
    show x :: r ∈ (arrs l r.length).flatMap _
    rw [List.mem_flatMap]
    exact ⟨r, mem_arrs hn'.2 fun y hy => hm y (.tail _ hy), List.mem_map.mpr ⟨x, List.mem_filter.mpr ⟨hm x (.head _), by simp [hn'.1]⟩, rfl⟩⟩
noncomputable def goodArr (l : List Nat) : Bool := ((kRun (fun i j => decide (rkN (l.getD i 0) < rkN (l.getD j 0))) (kas_sort l.length)).toList.map fun i => l.getD i 0) == stabN l
theorem good2 : (arrs [0,1,2,3,4] 2).all goodArr = true := by decide +kernel
theorem good3 : (arrs [0,1,2,3,4] 3).all goodArr = true := by decide +kernel
theorem good4 : (arrs [0,1,2,3,4] 4).all goodArr = true := by decide +kernel
theorem good5 : (arrs [0,1,2,3,4] 5).all goodArr = true := by decide +kernel
/-- the sort of at most five children is stable -/
theorem goodAll {r : List Nat} (hn : r.Nodup) (hm : ∀ x ∈ r, x < 5) (h2 : 2 ≤ r.length) (h5 : r.length ≤ 5) : (kRun (fun i j => decide (rkN (r.getD i 0) < rkN (r.getD j 0))) (kas_sort r.length)).toList.map (fun i => r.getD i 0) = stabN r := by
  have hm' := mem_arrs (l := [0,1,2,3,4]) hn fun x hx => by
    have := hm x hx
    match x, this with
    | 0, _ => simp
    | 1, _ => simp
    | 2, _ => simp
    | 3, _ => simp
    | 4, _ => simp
  have key : goodArr r = true := by
    obtain h | h | h | h : r.length = 2 ∨ r.length = 3 ∨ r.length = 4 ∨ r.length = 5 := by omega
    · rw [h] at hm'; exact List.all_eq_true.mp good2 r hm'
    · rw [h] at hm'; exact List.all_eq_true.mp good3 r hm'
    · rw [h] at hm'; exact List.all_eq_true.mp good4 r hm'
    · rw [h] at hm'; exact List.all_eq_true.mp good5 r hm'
  exact eq_of_beq key
end Mine
end

section -- Pu3
open PySem PySem.W PyProof.Rows PySem.W.X PySem.Calls
set_option linter.unusedVariables false
set_option maxHeartbeats 2000000
namespace Mine
noncomputable def chP (ws : List (List Str)) : List Nat := if ws.length < 2 then List.range ws.length else (kRun (fun i j => decide (cmpF (ws.getD i []) (ws.getD j []) < 0)) (kas_sort ws.length)).toList
noncomputable def chF (E : List (List Str)) (r : List Str) : List (List Str) := (chP (withinF E r)).map fun i => (withinF E r).getD i []
theorem chP_perm (ws : List (List Str)) : (chP ws).Perm (List.range ws.length) := by
  unfold chP
  split
  · exact .refl _
  · have := kRun_perm (n := ws.length) (by omega) (fun i j => decide (cmpF (ws.getD i []) (ws.getD j []) < 0))
    have h2 := Array.perm_iff_toList_perm.mp this
    simpa [rngA] using h2
theorem kRun_congr {α : Type} {n : Nat} {lt lt' : Nat → Nat → Bool} (h : ∀ i j, i < n → j < n → lt i j = lt' i j) : ∀ t : KasT α, kIn n t → kRun lt t = kRun lt' t
  | .ret a, _ => rfl
  | .ask i j k, ⟨h1, h2, h3⟩ => by
    show kRun lt (k (lt i j)) = kRun lt' (k (lt' i j))
    rw [h i j h1 h2]
    exact kRun_congr h _ (h3 _)
noncomputable def stl (nm : List Nat) (i j : Nat) : Bool := decide (rkN (nm.getD i 0) < rkN (nm.getD j 0)) || (rkN (nm.getD i 0) == rkN (nm.getD j 0) && decide (i < j))
noncomputable def allP (R : Nat → Nat → Bool) : List Nat → Bool
  | [] => true
  | x :: r => r.all (R x) && allP R r
theorem allP_iff {R : Nat → Nat → Bool} : ∀ {l : List Nat}, allP R l = true → l.Pairwise fun a b => R a b = true
  | [], _ => .nil
  | x :: r, h => by
    unfold allP at h
    rw [Bool.and_eq_true, List.all_eq_true] at h
    exact .cons h.1 (allP_iff h.2)
noncomputable def goodS (nm : List Nat) : Bool := allP (stl nm) (kRun (fun i j => decide (rkN (nm.getD i 0) < rkN (nm.getD j 0))) (kas_sort nm.length)).toList
theorem goodS2 : (arrs [0,1,2,3,4] 2).all goodS = true := by decide +kernel
theorem goodS3 : (arrs [0,1,2,3,4] 3).all goodS = true := by decide +kernel
theorem goodS4 : (arrs [0,1,2,3,4] 4).all goodS = true := by decide +kernel
theorem goodS5 : (arrs [0,1,2,3,4] 5).all goodS = true := by decide +kernel
theorem lk_rk : ∀ a ∈ NM, ∀ b ∈ NM, (rk a < rk b → lk a < lk b) ∧ (rk a = rk b → lk a = lk b) := by decide +kernel
theorem five {x : Nat} (h : x < 5) : x ∈ [0,1,2,3,4] := by
  match x, h with
  | 0, _ => simp
  | 1, _ => simp
  | 2, _ => simp
  | 3, _ => simp
  | 4, _ => simp
theorem arrs6 : arrs [0,1,2,3,4] 6 = [] := by decide +kernel
theorem len5 {r : List Nat} (hn : r.Nodup) (hm : ∀ x ∈ r, x < 5) : r.length ≤ 5 := by
  refine Nat.le_of_not_lt fun h => ?_
  have h6 : (r.take 6).length = 6 := by rw [List.length_take]; omega
  have := mem_arrs (l := [0,1,2,3,4]) (r := r.take 6) (hn.sublist (List.take_sublist ..)) fun x hx => five (hm x (List.mem_of_mem_take hx))
  rw [h6, arrs6] at this
  cases this
theorem goodSAll {r : List Nat} (hn : r.Nodup) (hm : ∀ x ∈ r, x < 5) (h2 : 2 ≤ r.length) : goodS r = true := by
  have hm' := mem_arrs (l := [0,1,2,3,4]) hn fun x hx => five (hm x hx)
  have h5 := len5 hn hm
  obtain h | h | h | h : r.length = 2 ∨ r.length = 3 ∨ r.length = 4 ∨ r.length = 5 := by omega
  · rw [h] at hm'; exact List.all_eq_true.mp goodS2 r hm'
  · rw [h] at hm'; exact List.all_eq_true.mp goodS3 r hm'
  · rw [h] at hm'; exact List.all_eq_true.mp goodS4 r hm'
  · rw [h] at hm'; exact List.all_eq_true.mp goodS5 r hm'
noncomputable def nmI (c : List Str) : Nat := NM.idxOf (lastS c)
section
variable {E : List (List Str)} (hE : GE E)
include hE
theorem within_nm {r c : List Str} (h : c ∈ withinF E r) : lastS c ∈ NM ∧ nmI c < 5 ∧ NM.getD (nmI c) Str.empty = lastS c := by
  obtain ⟨h1, x, rfl⟩ := mem_within.mp h
  have hx : x ∈ NM := hE.gr _ h1 x (by simp)
  rw [lastS_snoc]
  have hl : NM.idxOf x < NM.length := List.idxOf_lt_length_of_mem hx
  refine ⟨hx, ?_, ?_⟩
  · unfold nmI; rw [lastS_snoc]; exact hl
  · unfold nmI; rw [lastS_snoc, List.getD_eq_getElem?_getD, List.getElem?_eq_getElem hl, List.getElem_idxOf hl]; rfl
theorem within_nodup (r : List Str) : ((withinF E r).map nmI).Nodup := by
  have h1 : (withinF E r).Nodup := hE.nd.sublist (List.filter_sublist ..)
  unfold List.Nodup
  rw [List.pairwise_map]
  refine List.Pairwise.imp_of_mem (fun {a b} ha hb hne e => hne ?_) h1
  have q1 := (within_nm hE ha).2.2
  have q2 := (within_nm hE hb).2.2
  rw [e] at q1
  have q3 : lastS a = lastS b := q1.symm.trans q2
  obtain ⟨_, x, rfl⟩ := mem_within.mp ha
  obtain ⟨_, y, rfl⟩ := mem_within.mp hb
  rw [lastS_snoc, lastS_snoc] at q3
  rw [q3]
theorem within_len (r : List Str) : (withinF E r).length ≤ 5 := by
  have := len5 (within_nodup hE r) fun x hx => by
    obtain ⟨c, hc, rfl⟩ := List.mem_map.mp hx
    exact (within_nm hE hc).2.1
  simpa using this
theorem within_idx (r : List Str) : (withinF E r).Pairwise fun a b => E.idxOf a < E.idxOf b := by
  refine List.Pairwise.sublist (List.filter_sublist ..) ?_
  rw [List.pairwise_iff_getElem]
  intro i j hi hj hij
  rw [hE.nd.idxOf_getElem, hE.nd.idxOf_getElem]; exact hij
theorem goodC : GC E (chF E) where
  mem := fun r c => by
    rw [← mem_within]
    unfold chF
    rw [List.mem_map]
    constructor
    · rintro ⟨i, hi, rfl⟩
      have := (chP_perm _).mem_iff.mp hi
      rw [List.mem_range] at this
      rw [List.getD_eq_getElem?_getD, List.getElem?_eq_getElem this]
      exact List.getElem_mem _
    · intro h
      obtain ⟨i, hi, rfl⟩ := List.getElem_of_mem h
      exact ⟨i, (chP_perm _).mem_iff.mpr (List.mem_range.mpr hi), by rw [List.getD_eq_getElem?_getD, List.getElem?_eq_getElem hi]; rfl⟩
  srt := fun r hr => by
    unfold chF
    rw [List.pairwise_map]
    have hmem : ∀ i ∈ chP (withinF E r), i < (withinF E r).length := fun i hi => List.mem_range.mp ((chP_perm _).mem_iff.mp hi)
    by_cases h2 : (withinF E r).length < 2
    · unfold chP
      rw [if_pos h2]
      match h : (withinF E r).length, h2 with
      | 0, _ => exact .nil
      | 1, _ => exact .cons (by simp) .nil
    · have hg := goodSAll (within_nodup hE r) (fun x hx => by
        obtain ⟨c, hc, rfl⟩ := List.mem_map.mp hx
        exact (within_nm hE hc).2.1) (by simp; omega)
      have hnm : ∀ i, i < (withinF E r).length → ((withinF E r).map nmI).getD i 0 = nmI ((withinF E r).getD i []) := fun i hi => by
        simp [List.getD_eq_getElem?_getD, hi]
      have hwm : ∀ i, i < (withinF E r).length → (withinF E r).getD i [] ∈ withinF E r := fun i hi => by
        rw [List.getD_eq_getElem?_getD, List.getElem?_eq_getElem hi]
        exact List.getElem_mem _
      have hrk : ∀ i, i < (withinF E r).length → rkN (((withinF E r).map nmI).getD i 0) = rk (lastS ((withinF E r).getD i [])) := fun i hi => by
        obtain ⟨a, b, c⟩ := within_nm hE (hwm i hi)
        rw [hnm i hi, ← rkN_ok _ b, c]
      have hrun : (kRun (fun i j => decide (cmpF ((withinF E r).getD i []) ((withinF E r).getD j []) < 0)) (kas_sort (withinF E r).length)) = (kRun (fun i j => decide (rkN (((withinF E r).map nmI).getD i 0) < rkN (((withinF E r).map nmI).getD j 0))) (kas_sort ((withinF E r).map nmI).length)) := by
        rw [List.length_map]
        refine kRun_congr (n := (withinF E r).length) (fun i j hi hj => ?_) _ (kIn_sort (by omega))
        rw [hrk i hi, hrk j hj]
        exact rk_cmp _ (within_nm hE (hwm i hi)).1 _ (within_nm hE (hwm j hj)).1
      have hp := allP_iff hg
      rw [← hrun] at hp
      have hcp : chP (withinF E r) = (kRun (fun i j => decide (cmpF ((withinF E r).getD i []) ((withinF E r).getD j []) < 0)) (kas_sort (withinF E r).length)).toList := by
        unfold chP; rw [if_neg h2]
      rw [hcp] at hmem ⊢
      refine List.Pairwise.imp_of_mem (fun {i j} hi hj h => ?_) hp
      have hi := hmem i hi
      have hj := hmem j hj
      unfold stl at h
      rw [hrk i hi, hrk j hj, Bool.or_eq_true, Bool.and_eq_true, decide_eq_true_eq, decide_eq_true_eq, beq_iff_eq] at h
      obtain ⟨l1, l2⟩ := lk_rk _ (within_nm hE (hwm i hi)).1 _ (within_nm hE (hwm j hj)).1
      rcases h with h | ⟨h1, h2⟩
      · exact .inl (l1 h)
      · refine .inr ⟨l2 h1, ?_⟩
        have := List.pairwise_iff_getElem.mp (within_idx hE r) i j hi hj h2
        rw [List.getD_eq_getElem?_getD, List.getD_eq_getElem?_getD, List.getElem?_eq_getElem hi, List.getElem?_eq_getElem hj]
        exact this
end
end Mine
end

section -- Pu4
open PySem PySem.W PyProof.Rows PySem.W.X PySem.Calls
set_option linter.unusedVariables false
set_option maxHeartbeats 2000000
namespace Mine
theorem any_iff {rs : List (List Str)} {x : List Str} : (rs.any fun y => y == x) = true ↔ x ∈ rs := by
  rw [List.any_eq_true]
  constructor
  · rintro ⟨y, hy, e⟩
    rw [beq_iff_eq] at e
    exact e ▸ hy
  · intro h
    exact ⟨x, h, by simp⟩
theorem mem_fresh {rs : List (List Str)} {N x : List Str} {i : Nat} : x ∈ freshF rs N i ↔ x ∉ rs ∧ ∃ k, k < i ∧ x = N.take (k + 1) := by
  unfold freshF
  rw [List.mem_filterMap]
  constructor
  · rintro ⟨k, hk, e⟩
    split at e
    · cases e
    · rename_i h
      cases e
      exact ⟨fun q => h (any_iff.mpr q), k, List.mem_range.mp hk, rfl⟩
  · rintro ⟨h1, k, hk, rfl⟩
    exact ⟨k, List.mem_range.mpr hk, by rw [if_neg fun q => h1 (any_iff.mp q)]⟩
theorem mem_laid {rs : List (List Str)} {N x : List Str} : x ∈ laidF rs N ↔ x ∈ rs ∨ ∃ k, k < N.length ∧ x = N.take (k + 1) := by
  unfold laidF
  rw [List.mem_append, mem_fresh]
  constructor
  · rintro (h | ⟨_, h⟩)
    · exact .inl h
    · exact .inr h
  · rintro (h | h)
    · exact .inl h
    · by_cases hx : x ∈ rs
      · exact .inl hx
      · exact .inr ⟨hx, h⟩
theorem fresh_nd {rs : List (List Str)} {N : List Str} : ∀ i, i ≤ N.length → (freshF rs N i).Nodup
  | 0, _ => by unfold freshF; simp
  | i + 1, h => by
    rw [freshF_succ]
    split
    · rw [List.append_nil]; exact fresh_nd i (by omega)
    · refine List.nodup_append.mpr ⟨fresh_nd i (by omega), by simp, fun x hx y hy e => ?_⟩
      obtain ⟨_, k, hk, rfl⟩ := mem_fresh.mp hx
      rw [List.mem_singleton] at hy
      subst hy
      have := congrArg List.length e
      rw [List.length_take, List.length_take] at this
      omega
theorem laidF_GE {E : List (List Str)} {N : List Str} (hE : GE E) (hN : GR N) (h3 : N.length ≤ 3) : GE (laidF E N) where
  nd := by
    unfold laidF
    refine List.nodup_append.mpr ⟨hE.nd, fresh_nd _ (Nat.le_refl _), fun x hx y hy e => ?_⟩
    subst e
    exact (mem_fresh.mp hy).1 hx
  nil := mem_laid.mpr (.inl hE.nil)
  pre := fun r hr j => by
    rcases mem_laid.mp hr with hr | ⟨k, hk, rfl⟩
    · exact mem_laid.mpr (.inl (hE.pre r hr j))
    · rw [List.take_take]
      cases hm : min j (k + 1) with
      | zero => exact mem_laid.mpr (.inl (by rw [List.take_zero]; exact hE.nil))
      | succ m => exact mem_laid.mpr (.inr ⟨m, by omega, rfl⟩)
  len := fun r hr => by
    rcases mem_laid.mp hr with hr | ⟨k, hk, rfl⟩
    · exact hE.len r hr
    · rw [List.length_take]; omega
  gr := fun r hr => by
    rcases mem_laid.mp hr with hr | ⟨k, hk, rfl⟩
    · exact hE.gr r hr
    · exact fun x hx => hN x (List.mem_of_mem_take hx)
theorem GE0 : GE [[]] := ⟨by simp, by simp, fun r hr k => by simp_all, fun r hr => by simp_all, fun r hr x hx => by simp_all⟩
theorem fold_GE : ∀ (ns : List (List Str)) (E : List (List Str)), GE E → (∀ N ∈ ns, GR N ∧ N.length ≤ 3) → GE (ns.foldl laidF E)
  | [], E, h, _ => h
  | N :: ns, E, h, hn => fold_GE ns _ (laidF_GE h (hn N (.head _)).1 (hn N (.head _)).2) fun M hM => hn M (.tail _ hM)
end Mine
end

section -- Srk
open PySem PySem.W PyProof.Rows PySem.W.X PySem.Calls
set_option linter.unusedVariables false
set_option maxRecDepth 100000
set_option maxHeartbeats 2000000
namespace Mine
section
variable {w : World} {os₀ : OsState} {G : Heap} {ow : Ow} {s : Shared} {A : Around} {n : Nat} {E : Value → Shared → Prop} {L x : Addr} {m : Str → Option Value} {P P' : Obj → Prop}
noncomputable def IK (C : Addr) (vs : List Value) (G₀ G : Heap) (ks : List Value) : Prop := Le G₀ G ∧ ∀ (i : Nat) k, ks[i]? = some k → ∃ x dx a : Addr, k = Value.ref x ∧ vs[i]? = some (Value.ref a) ∧ G.get? x = some (inO C dx (.ref a))
theorem sortK {l mc C : Addr} {vs : List Value} {cmp : Nat → Nat → Int} {Q : Value → Shared → Prop} (hk : KG' G mc C) (hm : MC G mc) (hA : AOk (n + 4) A) (H : St w os₀ G ((L, nsP m) :: ow) s) (hl : G.IsList l vs.toArray) (h2 : 2 ≤ vs.length) (h64 : vs.length < 64) (hkin : kIn vs.length (kas_sort vs.length))
    (hv : ∀ (i : Nat) v, vs[i]? = some v → ∃ a, v = Value.ref a)
    (hC : ∀ (i j : Nat) a b, vs[i]? = some (Value.ref a) → vs[j]? = some (Value.ref b) → ∀ G', Le G G' → CmpSpec w os₀ n G' a b (cmp i j))
    (hQ : ∀ D c G' s', Le G G' → St w os₀ G' ((D, objP (listOf ((kRun (fun i j => decide (cmp i j < 0)) (kas_sort vs.length)).toList.map fun i => vs.getD i Value.none).toArray c)) :: (L, nsP m) :: ow) s' → Q (.ref D) s') :
    wpAny (model prg w) A (call (.builtin "sorted") [.ref l] [(Str.ofString "key", .ref C)]) Q E s := by
  refine sortS (n := n + 2) (κ := oneType') (lt := fun i j => decide (cmp i j < 0)) (IK C vs G) hA H hl h2 h64 (ksk_s1 _ _) (fun _ => ksk_l1 _ _) (fun _ => ksk_t1 _ _) hkin ⟨Le.refl _, fun i k e => by simp at e⟩ (fun G1 G2 ks x ⟨h1, h2⟩ => ⟨h1.trans x, fun i k e => ?_⟩) ?_ ?_ ?_ hQ
  · obtain ⟨y, dx, a, e1, e2, e3⟩ := h2 i k e
    exact ⟨y, dx, a, e1, e2, x _ _ e3⟩
  · intro ks v hkv G' hle ⟨_, hI⟩ A ow s Q E hA H hQ
    obtain ⟨a, rfl⟩ := hv _ _ hkv
    obtain ⟨_, _, _, _, _, _, _, _, _, _, _, _, _, _, _, _, _, _, _, _, _, _, _, _, _, _, _, _, _, _, _, _, _, _, _, _, _, _, _, _, _, _, _, _, hk2⟩ := hk.le hle
    refine mkK hk2 hA H fun x dx G2 s2 hle2 hx H2 => hQ _ G2 s2 hle2 H2 ⟨hle.trans hle2, fun i k e => ?_⟩
    by_cases hi : i < ks.length
    · rw [List.getElem?_append_left hi] at e
      obtain ⟨y, dx', a', e1, e2, e3⟩ := hI i k e
      exact ⟨y, dx', a', e1, e2, hle2 _ _ e3⟩
    · have hi' : i = ks.length := by
        have := (List.getElem?_eq_some_iff.mp e).1
        simp at this; omega
      subst hi'
      rw [List.getElem?_append_right (Nat.le_refl _)] at e
      simp at e
      exact ⟨x, dx, a, e.symm, hkv, hx⟩
  · intro ks G' s' A Q ⟨_, hI⟩ hlen hle hQ
    refine kas_kind (T := .ref C) (by rw [hlen]; exact h2) (fun v hv => ?_) rfl (by simp) hQ
    obtain ⟨i, hi, e⟩ := List.getElem_of_mem hv
    obtain ⟨y, dx, a, e1, e2, e3⟩ := hI i v (by rw [List.getElem?_eq_some_iff]; exact ⟨hi, e⟩)
    subst e1
    exact (Looks.ld (hle _ _ e3)).andThen .now
  · intro ks i j G' A ow s' Q hA hlen hi hj ⟨hle, hI⟩ H hQ
    obtain ⟨x, dx, a, e1, e2, e3⟩ := hI i (ks.getD i Value.none) (by simp [List.getD, hlen, hi])
    obtain ⟨y, dy, b, f1, f2, f3⟩ := hI j (ks.getD j Value.none) (by simp [List.getD, hlen, hj])
    rw [e1, f1]
    obtain ⟨_, _, _, _, _, _, _, _, _, _, _, _, _, _, _, _, _, _, _, _, _, _, _, _, _, _, _, _, _, _, _, _, _, _, _, _, _, _, _, _, _, _, _, _, hk2⟩ := hk.le hle
    obtain ⟨om, g1, g2⟩ := hm
    exact keyLtK hk2 ⟨om, hle _ _ g1, g2⟩ (hA.mono (by omega)) H e3 f3 (hC i j a b e2 f2 G' hle) hQ
end
end Mine
end

section -- Sr1
open PySem PySem.W PyProof.Rows PySem.W.X PySem.Calls
set_option linter.unusedVariables false
set_option maxRecDepth 100000
set_option maxHeartbeats 2000000
namespace Mine
section
variable {w : World} {os₀ : OsState} {G : Heap} {ow : Ow} {s : Shared} {A : Around} {n : Nat} {E : Value → Shared → Prop}
theorem St.updS {a : Addr} {xs : Array Value} {c : Nat} (f : Array Value → Array Value) (H : St w os₀ G ((a, objP (seqObj "list" xs c)) :: ow) s) : ∃ c', St w os₀ G ((a, objP (seqObj "list" (f xs) c')) :: ow) { s with heap := s.heap.update a (Obj.mapSeq f) } := by
  obtain ⟨o, ho, e⟩ := H.own _ (.head _)
  cases e
  exact ⟨_, H.upd (t := s.toks) sameBut_upd ⟨_, get?_update_seq ho f, rfl⟩⟩
theorem luS {a : Addr} {xs : Array Value} {c : Nat} {f : Array Value → Array Value} {Q : Unit → Shared → Prop} (H : St w os₀ G ((a, objP (seqObj "list" xs c)) :: ow) s) (h : ∀ c' s', St w os₀ G ((a, objP (seqObj "list" (f xs) c')) :: ow) s' → Q () s') (h1 : xs.size ≤ 1000) (h2 : (f xs).size ≤ 1000) :
    wpAny (model prg w) A (Builtin.List.listUpdate (.ref a) f) Q E s := by
  obtain ⟨o, ho, e⟩ := H.own _ (.head _)
  cases e
  obtain ⟨c', H'⟩ := H.updS f
  exact listUpdate_at ho rfl (h c' _ H') (by rw [sizeLine_eq]; omega) (by rw [sizeLine_eq]; omega)
theorem liS {a : Addr} {xs : Array Value} {c : Nat} {Q : Array Value → Shared → Prop} (H : St w os₀ G ((a, objP (seqObj "list" xs c)) :: ow) s) (h : Q xs s) : wpAny (model prg w) A (Builtin.List.listItems (.ref a)) Q E s := by
  obtain ⟨o, ho, e⟩ := H.own _ (.head _)
  cases e
  exact listItems_at ho rfl h
theorem seS {a : Addr} {xs : Array Value} {c : Nat} {Q : Nat → Shared → Prop} (H : St w os₀ G ((a, objP (seqObj "list" xs c)) :: ow) s) (h : Q c s) : wpAny (model prg w) A (seqEpoch a) Q E s := by
  obtain ⟨o, ho, e⟩ := H.own _ (.head _)
  cases e
  exact seqEpoch_at ho rfl h
/-- sorted of a list of one thing: the key is asked once -/
theorem sort1 {l C : Addr} {v : Value} {Q : Value → Shared → Prop} {Out : Heap → Value → Prop} (hA : AOk (n + 2) A) (H : St w os₀ G ow s) (hl : G.IsList l #[v])
    (hC : ∀ G', Le G G' → Spec w os₀ n (.ref C) [v] G' Out)
    (hQ : ∀ D c G' s', Le G G' → St w os₀ G' ((D, objP (seqObj "list" #[v] c)) :: ow) s' → Q (.ref D) s') : wpAny (model prg w) A (call (.builtin "sorted") [.ref l] [(Str.ofString "key", .ref C)]) Q E s := by
  have hA2 : AOk n A.in1.in1 := (AOk.in1 (n := n + 1) hA).in1
  refine call_function_entry_kw kind_sorted plain_sorted entry_sorted (ksk_s1 _ _) ?_
  unfold Builtin.«sorted»
  refine wpAny_bind (m := checkCount "sorted" 1 1 _) (wpAny_pure ?_)
  refine wpAny_bind (collect_list (vs := [v]) (isList_le hl H.le) ?_ (by rw [sizeLine_eq]; simp))
  have H1 := H.push (P := objP (seqObj "list" #[] 0)) (seqObj "list" #[] 0) rfl rfl s.toks
  obtain ⟨c1, H1⟩ := H1.updS (· ++ [v].toArray)
  have H := H1.drop
  refine wpAny_bind (newLst H (fun D s1 H => ?_) (by rw [sizeLine_eq]; simp))
  have H : St w os₀ G ((D, objP (seqObj "list" #[v] 0)) :: ow) s1 := H
  obtain ⟨o, ho, e⟩ := id (H.own _ (.head _))
  cases e
  refine wpAny_bind (wpAny_holding (wpAny_call_entry_kw slot_list_sort ⟨_, ho, rfl⟩ entry_list_sort ?body (ksk_l1 _ _)))
  show wpAny (model prg w) A.in1.in1 (ksk_tree D (.ref C) false) _ _ _
  unfold ksk_tree
  refine wpAny_bind (liS H ?_)
  refine wpAny_bind (luS H (fun c2 s2 H => ?_) (by simp) (by simp))
  refine wpAny_bind (seS H ?_)
  refine wpAny_bind (newTup H (fun T s3 H => ?_) (by rw [sizeLine_eq]; simp))
  refine wpAny_bind (newLst H (fun K s4 H => ?_) (by rw [sizeLine_eq]; simp))
  have H : St w os₀ G ((K, objP (seqObj "list" #[] 0)) :: _) s4 := H
  refine wpAny_holding ?_
  unfold ksk_rest
  refine wpAny_bind (wpAny_rule ?_)
  refine wpAny_bind ?_
  rw [← Array.forIn_toList]
  simp only [List.forIn_cons, List.forIn_nil]
  refine wpAny_bind (wpAny_bind (wpAny_attempt ?_))
  refine hC G (Le.refl _) _ _ _ _ _ hA2 H fun k G2 s5 hle H _ => ?_
  dsimp only
  refine wpAny_bind (luS H (fun c3 s6 H => ?_) (by simp) (by simp))
  refine wpAny_pure (wpAny_pure ?_)
  refine wpAny_bind (liS H ?_)
  unfold ksk_end
  dsimp only
  refine sx_ifn Bool.false_ne_true (sx_ifp (show (#[v] : Array Value).size < 2 by simp) ?_)
  refine wpAny_bind (wpAny_pure ?_)
  rw [if_pos (show (#[v] : Array Value).size < 2 by simp)]
  refine wpAny_bind (wpAny_pure ?_)
  have hz : ∀ r : Unit × SortSt, r = ((), SortSt.mk' general' ((#[] : Array Value).push k |>.zip #[v]) #[] 7 none) → wpAny (model prg w) A.in1.in1 (ksk_tail D false c2 (Value.ref K) r.2) (fun fin s' => ∃ v, fin = Fin.done (Flow.ret v) ∧ wpAny (model prg w) A.in1 (ret (Value.ref D)) (fun fin s' => ∃ v, fin = Fin.done (Flow.ret v) ∧ Q v s') E s') E s6 := by
    rintro r rfl
    unfold ksk_tail
    dsimp only
    refine wpAny_bind (luS H (fun c4 s7 H => ?_) (by simp) (by simp))
    refine wpAny_bind (wpAny_letGo ?_)
    have H := H.perm rot3
    refine wpAny_bind (seS H ?_)
    refine wpAny_bind (luS H (fun c5 s8 H => ?_) (by simp) (by simp [arrOf, SortSt.mk']))
    simp only [bne_self_eq_false, Bool.false_eq_true, if_false]
    refine wpAny_pure ⟨_, rfl, wpAny_pure ⟨_, rfl, ?_⟩⟩
    have e9 : (if false = true then (Array.map (fun x => x.snd) (arrOf (SortSt.mk' general' (((#[] : Array Value).push k).zip #[v]) #[] 7 none))).reverse else Array.map (fun x => x.snd) (arrOf (SortSt.mk' general' (((#[] : Array Value).push k).zip #[v]) #[] 7 none))) = #[v] := by
      rw [if_neg Bool.false_ne_true]
      show Array.map (fun x : Value × Value => x.snd) (((#[] : Array Value).push k).zip #[v]) = #[v]
      simp
    rw [e9] at H
    exact hQ D c5 G2 _ hle (H.swap.drop.swap.drop)
  exact hz _ rfl
end
end Mine
end

section -- Fw18
open PySem PySem.W PyProof.Rows PySem.W.X PySem.Calls
set_option linter.unusedVariables false
set_option maxRecDepth 100000
set_option maxHeartbeats 2000000
namespace Mine
section
variable {w : World} {os₀ : OsState} {G : Heap} {ow : Ow} {s : Shared} {A : Around} {n : Nat} {env : Env} {E : Value → Shared → Prop} {L : Addr} {m : Str → Option Value} {pos : Pos} {names : List (Str × NameKind)} {cs : List (Str × Addr)} {code : Value} {qual : Str}
/-- f(e₁, k=e₂) of a builtin f -/
theorem callBk {id : String} {f k : Str} {p kp : Pos} {e₁ e₂ : Expr} {tm tk : Sem Value} {Q : Value → Shared → Prop} (V : EV env L names cs code qual) (H : St w os₀ G ow s)
    (e : nsIn (K0 w.params) 3 f = some none) (e2 : biF f = some (.builtin id)) (hs : backTo pos (starEach [e₁] env) = [(false, tm)]) (hk : backToKw pos (keywordEach [⟨some k, e₂, kp⟩] env) = [(some k, tk)])
    (h : wpAny (model prg w) A tm (fun v s₁ => wpAny (model prg w) A tk (fun u s₂ => wpAny (model prg w) A (call (.builtin id) [v] [(k, u)]) Q E s₂) E s₁) E s)
    (hx : names.lookup f = some .globalImplicit := by rfl) (hdb : (f == ("__debug__" : Str)) = false := by rfl) :
    wpAny (model prg w) A (eval (.Call (.Name f p) [e₁] [⟨some k, e₂, kp⟩] pos) env) Q E s := by
  show wpAny (model prg w) A (do callWith pos (← eval (.Name f p) env) [] (backTo pos (starEach [e₁] env)) (backToKw pos (keywordEach [⟨some k, e₂, kp⟩] env))) Q E s
  refine wpAny_bind (nmB V H e e2 ?_ hx hdb)
  rw [hs, hk]
  refine callWith_builtin_kwB rfl rfl (evalArgs_kwB rfl (spliced_cons (wpAny_mono h (fun v s₁ h₁ => spliced_nil ?_) fun _ _ e => e)))
  show wpAny (model prg w) A (evalAll [tk]) _ E s₁
  unfold evalAll
  refine wpAny_bind (wpAny_mono h₁ (fun u s₂ h₂ => wpAny_bind (wpAny_holding ?_)) fun _ _ e => e)
  unfold evalAll
  exact wpAny_pure (wpAny_pure h₂)
end
end Mine
end

section -- Lx
open PySem PySem.W PyProof.Rows PySem.W.X PySem.Calls
set_option linter.unusedVariables false
set_option maxRecDepth 100000
set_option maxHeartbeats 2000000
namespace Mine
theorem escF_len : ∀ x ∈ NM, (escF x).length ≤ 40 := by decide +kernel
theorem escF_nil : escF Str.empty = emS := by decide +kernel
theorem decS_len : ∀ i < 100, (decS i).length ≤ 2 := by decide +kernel
theorem fix_len : o1S.length = 6 ∧ o2S.length = 5 ∧ o3S.length = 2 ∧ emS.length = 0 := by decide +kernel
theorem joinOkE {texts : List Str} {b : Nat} (h : ∀ c ∈ texts, c.length ≤ b) (hb : texts.length * b ≤ 16000000) : JoinOk emS texts = true ∧ (Txt.join emS texts).length ≤ texts.length * b := by
  have hs : ∀ l : List Str, (∀ c ∈ l, c.length ≤ b) → (l.map (·.length)).sum ≤ l.length * b := by
    intro l
    induction l with
    | nil => intro _; simp
    | cons x r ih =>
      intro h
      have h1 := ih fun c hc => h c (.tail _ hc)
      have h2 := h x (.head _)
      simp only [List.map_cons, List.sum_cons, List.length_cons, Nat.succ_mul]
      omega
  have h3 := hs texts h
  refine ⟨?_, ?_⟩
  · unfold JoinOk
    rw [Bool.not_eq_true']
    unfold PySem.Builtin.Str.tooLong
    rw [StrLaws.joinTotal, fix_len.2.2.2, sizeLine_eq]
    simp only [decide_eq_false_iff_not]
    omega
  · have h4 := StrLaws.join_length_le emS texts
    rw [fix_len.2.2.2] at h4
    show (PySem.Builtin.Str.glued emS texts).length ≤ _
    rw [StrLaws.glued_eq_join]
    omega
theorem last_join (r : List Str) : Txt.join emS (r.drop (r.length - 1)) = lastS r := by
  rcases List.eq_nil_or_concat r with rfl | ⟨l, x, rfl⟩
  · rfl
  · rw [List.concat_eq_append, lastS_snoc, List.length_append, List.length_singleton, Nat.add_sub_cancel, List.drop_left, joinE_cons, joinE_nil, Str.append_empty]
theorem lastS_GR {r : List Str} (h : GR r) : lastS r ∈ NM ∨ lastS r = Str.empty := by
  rcases List.eq_nil_or_concat r with rfl | ⟨l, x, rfl⟩
  · exact .inr rfl
  · rw [List.concat_eq_append, lastS_snoc]
    exact .inl (h x (by simp))
theorem esc_last {r : List Str} (h : GR r) : (escF (lastS r)).length ≤ 40 := by
  rcases lastS_GR h with h | h
  · exact escF_len _ h
  · rw [h, escF_nil, fix_len.2.2.2]; omega
theorem last_len {r : List Str} (h : GR r) : (lastS r).length ≤ 10 := by
  rcases lastS_GR h with h | h
  · exact (NM_ok _ h).2
  · rw [h]; show Str.empty.length ≤ 10; decide
section
variable {w : World} {os₀ : OsState} {G : Heap} {ow : Ow} {s : Shared} {A : Around} {n : Nat} {env : Env} {E : Value → Shared → Prop} {L : Addr} {m : Str → Option Value} {pos : Pos} {names : List (Str × NameKind)} {cs : List (Str × Addr)} {code : Value} {qual : Str} {x y : Str} {t u : Tok} {l : Addr}
theorem last_mem {r : List Str} (h : GR r) : lastS r ∈ Str.empty :: NM := by
  rcases lastS_GR h with h | h
  · exact .tail _ h
  · rw [h]; exact .head _
theorem esc_spec {r : List Str} (h : GR r) : Spec w os₀ 1 (.ref 166) [.str (lastS r) t] G (fun _ v => ∃ u, v = .str (escF (lastS r)) u) := esc_at (last_mem h)
theorem strI {i : Nat} {Q : Value → Shared → Prop} (hi : i < 1000) (H : St w os₀ G ow s) (h : ∀ t s', St w os₀ G ow s' → Q (.str (decS i) t) s') : wpAny (model prg w) A (call (.type "str") [.int i t]) Q E s := by
  refine PySem.P.str_of_int ?_ (h _ _ (H.tok _))
  show (i : Int).natAbs.log2 < 1920
  rw [Int.natAbs_natCast]
  rcases Nat.eq_zero_or_pos i with rfl | hp
  · decide
  · have := (Nat.log2_lt (n := i) (k := 1920) (by omega)).mpr (Nat.lt_of_lt_of_le hi (by
      have : (2 : Nat) ^ 10 ≤ 2 ^ 1920 := Nat.pow_le_pow_right (by omega) (by omega)
      omega))
    exact this
theorem RowsL.at {G : Heap} : ∀ {vs rs}, RowsL G vs rs → ∀ (i : Nat) (h : i < vs.length), ∃ a, vs[i] = Value.ref a ∧ ∃ h2 : i < rs.length, RowAt G a rs[i]
  | _, _, .nil, i, h => absurd h (Nat.not_lt_zero _)
  | _, _, .cons h t, 0, _ => ⟨_, rfl, by simp, h⟩
  | _, _, .cons h t, i + 1, hi => by
    obtain ⟨a, h1, h2, h3⟩ := t.at i (by simpa using hi)
    exact ⟨a, h1, by simpa using h2, h3⟩
/-- l.index(r) of rows -/
theorem idxD {rs : List (List Str)} {r : List Str} {c : Sem Value} {Q : Value → Shared → Prop} (hr : RowsAt G l rs) (hp : Pl G l) (hg : ∀ r ∈ rs, GR r) (hm : r ∈ rs) (hz : rs.length ≤ 1000) (hA : AOk n A)
    (h : wpAny (model prg w) A c (fun v s₁ => ∃ a G' ow', v = .ref a ∧ Le G G' ∧ RowAt G' a r ∧ St w os₀ G' ow' s₁ ∧ ∀ t s', St w os₀ G' ow' s' → Q (.int (rs.idxOf r : Nat) t) s') E s) (H : St w os₀ G ow s) :
    MethodOnS prg w A E "index" (.ref l) pos [(false, c)] Q s := by
  obtain ⟨vs, ⟨o, ho, hc, k, hd⟩, hrows⟩ := hr
  obtain ⟨o', ho', hdn⟩ := hp
  rw [ho] at ho'; cases ho'
  obtain ⟨cls, dd, data, sl⟩ := o
  simp only at hc hd hdn
  subst hc hd hdn
  refine ⟨"list", _, F.plainAttrs_list, F.slot_list_index, F.type_list_index, ⟨_, H.le _ _ ho, rfl⟩, (fun b e => by cases e; exact ⟨_, H.le _ _ ho, rfl⟩), method1_meets F.slot_list_index F.entry_list_index (wpAny_mono h (fun v s₁ h₁ => ?_) fun _ _ e => e)⟩
  obtain ⟨a, G', ow', rfl, hle, hra, H', hq⟩ := h₁
  have hj : rs.idxOf r < rs.length := List.idxOf_lt_length_of_mem hm
  have hlen := hrows.length
  have hrows' := (hrows.le (hle.trans H'.le))
  obtain ⟨as, hrd⟩ := hrows'.reads
  have hrx := (hra.le H'.le).reads
  have hcr : PyData.canLay0 (rowD r) = true := canLay_row r (hg r hm)
  have hget : ∀ i (hi : i < vs.length) (hi2 : i < rs.length), PyData.eqv (SeqAt.readOf s₁.heap vs[i]) (rowD r) = (rs[i] == r) := fun i hi hi2 => by
    obtain ⟨b, e1, _, hb⟩ := hrows'.at i hi
    rw [e1, SeqAt.readOf_eq (canLay_row _ (hg _ (List.getElem_mem hi2))) hb.reads, eqv_row]
  refine ⟨⟨_, H'.le _ _ (hle _ _ ho), rfl⟩, F.args_list_index_2 _ _, _, SeqAt.list_indexAt l vs.toArray k none sl (.ref a) (fun y => PyData.eqv (SeqAt.readOf s₁.heap y) (rowD r)) (rs.idxOf r) (by simpa [hlen] using hj) (by omega) ?_ ?_, H'.le _ _ (hle _ _ ho), ?_, hq _ _ (H'.tok _)⟩
  · show PyData.eqv (SeqAt.readOf s₁.heap (vs.toArray[rs.idxOf r]'(by simpa [hlen] using hj))) (rowD r) = true
    rw [List.getElem_toArray, hget _ (by omega) hj, List.getElem_idxOf hj]
    simp
  · intro i hi hlt
    rw [List.getElem_toArray, hget _ (by simpa using hi) (by omega)]
    rw [beq_eq_false_iff_ne]
    intro e
    have := List.not_of_lt_findIdx (p := (· == r)) (xs := rs) (i := i) hlt
    simp [e] at this
  · refine SeqAt.items_eqAt (by simpa using hrd) hrx (canLay_rows rs hg) hcr ?_
    have h1 := hA.units
    have h2 := depth_row r
    have h3 : min (PyData.depthAll (rs.map rowD)) (rowD r).depth ≤ 3 := Nat.le_trans (Nat.min_le_right _ _) h2
    show _ < 9900
    omega
theorem idxM {a : Addr} {rs : List (List Str)} {r : List Str} {c : Sem Value} {Q : Value → Shared → Prop} (hr : RowsAt G l rs) (hp : Pl G l) (hg : ∀ r ∈ rs, GR r) (hm : r ∈ rs) (hz : rs.length ≤ 1000) (hA : AOk n A)
    (h : wpAny (model prg w) A c (fun v s₁ => ∃ G' ow', v = .ref a ∧ Le G G' ∧ RowAt G' a r ∧ St w os₀ G' ow' s₁ ∧ ∀ t s', St w os₀ G' ow' s' → Q (.int (rs.idxOf r : Nat) t) s') E s) (H : St w os₀ G ow s) :
    MethodOnS prg w A E "index" (.ref l) pos [(false, c)] Q s := idxD hr hp hg hm hz hA (wpAny_mono h (fun v s₁ h₁ => ⟨a, h₁⟩) fun _ _ e => e) H
/-- ''.join(row[-1:]) -/
theorem joinLast {x : Str} {a : Addr} {r : List Str} {p1 p2 p3 p4 p5 p6 p7 px : Pos} {Q : Value → Shared → Prop} (ha : RowAt G a r) (hz : r.length ≤ 10) (hg : GR r) (hline : (p2.endLine == p7.line) = true)
    (hrow : ∀ s' (Q' : Value → Shared → Prop), St w os₀ G ow s' → Q' (.ref a) s' → wpAny (model prg w) A (eval (.Name x px) env) Q' E s') (H : St w os₀ G ow s) (h : ∀ t G' s', Le G G' → St w os₀ G' ow s' → Q (.str (lastS r) t) s') :
    wpAny (model prg w) A (eval (.Call (.Attribute (.Constant (.str (Str.ofString "")) 0 p1) "join" p2) [.Subscript (.Name x px) (.Slice (some (.UnaryOp .USub (.Constant (.int 1) 0 p3) p4)) none none p5) p6] [] p7) env) Q E s := by
  obtain ⟨lr, hlr, hal⟩ := id ha
  have hsz : (strValues lr).toArray.size = r.length := by simp [strValues, ← hlr]
  refine Call_method1 rfl rfl hline (cStr H fun t0 s1 H => SB.join (slL (hrow _ _ H (partS (wpAny_UnaryOp (cInt H fun t s₂ H2 => PySem.P.neg_int (partN ⟨a, _, _, _, _, _, rfl, H2.tok _, isList_le hal H2.le, by omega, .int _ _, .none, fun D s H => ?_⟩))))) (by intro _ _; rfl)))
  rw [show (-1 : Int) = -((1 : Nat) : Int) from rfl, slicePick_last _ 1 (Nat.le_refl _)] at H
  obtain ⟨G6, hle6, hD, H⟩ := H.frzL
  have e9 : (List.drop ((strValues lr).toArray.size - 1) (strValues lr)).toArray = (strValues (lr.drop (r.length - 1))).toArray := by
    rw [hsz]; simp [strValues, List.map_drop]
  have hD : G6.IsList D (strValues (lr.drop (r.length - 1))).toArray := e9 ▸ hD
  have e10 : (lr.drop (r.length - 1)).map (·.1) = r.drop (r.length - 1) := by rw [List.map_drop, hlr]
  refine ⟨D, _, rfl, isList_le hD H.le, _, e10, (joinOkE (b := 10) (fun c hc => (NM_ok c (hg c (List.mem_of_mem_drop hc))).2) (by rw [List.length_drop]; omega)).1, fun t' k => ?_⟩
  rw [show Txt.join (Str.ofString "") (r.drop (r.length - 1)) = lastS r from last_join r]
  exact h t' G6 _ hle6 (H.tok k)
end
end Mine
end

section -- Ly
open PySem PySem.W PyProof.Rows PySem.W.X PySem.Calls
set_option linter.unusedVariables false
set_option maxRecDepth 100000
set_option maxHeartbeats 2000000
namespace Mine
theorem rowsL_perm {G : Heap} {vs : List Value} {rs : List (List Str)} (h : RowsL G vs rs) : ∀ p : List Nat, (∀ i ∈ p, i < rs.length) → RowsL G (p.map fun i => vs.getD i Value.none) (p.map fun i => rs.getD i [])
  | [], _ => .nil
  | i :: p, hp => by
    have hi := hp i (.head _)
    have hl := h.length
    obtain ⟨a, e, h2, ha⟩ := h.at i (by omega)
    rw [List.map_cons, List.map_cons]
    have e1 : vs.getD i Value.none = .ref a := by rw [List.getD_eq_getElem?_getD, List.getElem?_eq_getElem (by omega)]; exact e
    have e2 : rs.getD i [] = rs[i] := by rw [List.getD_eq_getElem?_getD, List.getElem?_eq_getElem hi]; rfl
    rw [e1, e2]
    exact .cons ha (rowsL_perm h p fun j hj => hp j (.tail _ hj))
section
variable {w : World} {os₀ : OsState} {G : Heap} {ow : Ow} {s : Shared} {A : Around} {n : Nat} {E : Value → Shared → Prop} {L : Addr} {m : Str → Option Value}
theorem sort0' {l C : Addr} {Q : Value → Shared → Prop} (hA : AOk (n + 2) A) (H : St w os₀ G ow s) (hl : G.IsList l #[])
    (hQ : ∀ D c s', St w os₀ G ((D, objP (seqObj "list" #[] c)) :: ow) s' → Q (.ref D) s') : wpAny (model prg w) A (call (.builtin "sorted") [.ref l] [(Str.ofString "key", .ref C)]) Q E s := by
  have hA2 : AOk n A.in1.in1 := (AOk.in1 (n := n + 1) hA).in1
  refine call_function_entry_kw kind_sorted plain_sorted entry_sorted (ksk_s1 _ _) ?_
  unfold Builtin.«sorted»
  refine wpAny_bind (m := checkCount "sorted" 1 1 _) (wpAny_pure ?_)
  refine wpAny_bind (collect_list (vs := []) (isList_le hl H.le) ?_ (by rw [sizeLine_eq]; simp))
  have H1 := H.push (P := objP (seqObj "list" #[] 0)) (seqObj "list" #[] 0) rfl rfl s.toks
  obtain ⟨c1, H1⟩ := H1.updS (· ++ ([] : List Value).toArray)
  have H := H1.drop
  refine wpAny_bind (newLst H (fun D s1 H => ?_) (by rw [sizeLine_eq]; simp))
  have H : St w os₀ G ((D, objP (seqObj "list" #[] 0)) :: ow) s1 := H
  obtain ⟨o, ho, e⟩ := id (H.own _ (.head _))
  cases e
  refine wpAny_bind (wpAny_holding (wpAny_call_entry_kw slot_list_sort ⟨_, ho, rfl⟩ entry_list_sort ?body (ksk_l1 _ _)))
  show wpAny (model prg w) A.in1.in1 (ksk_tree D (.ref C) false) _ _ _
  unfold ksk_tree
  refine wpAny_bind (liS H ?_)
  refine wpAny_bind (luS H (fun c2 s2 H => ?_) (by simp) (by simp))
  refine wpAny_bind (seS H ?_)
  refine wpAny_bind (newTup H (fun T s3 H => ?_) (by rw [sizeLine_eq]; simp))
  refine wpAny_bind (newLst H (fun K s4 H => ?_) (by rw [sizeLine_eq]; simp))
  have H : St w os₀ G ((K, objP (seqObj "list" #[] 0)) :: _) s4 := H
  refine wpAny_holding ?_
  unfold ksk_rest
  refine wpAny_bind (wpAny_rule ?_)
  refine wpAny_bind ?_
  rw [← Array.forIn_toList]
  simp only [List.forIn_nil]
  refine wpAny_pure ?_
  refine wpAny_bind (liS H ?_)
  unfold ksk_end
  dsimp only
  refine sx_ifn Bool.false_ne_true (sx_ifp (show (#[] : Array Value).size < 2 by simp) ?_)
  refine wpAny_bind (wpAny_pure ?_)
  rw [if_pos (show (#[] : Array Value).size < 2 by simp)]
  refine wpAny_bind (wpAny_pure ?_)
  have hz : ∀ r : Unit × SortSt, r = ((), SortSt.mk' general' ((#[] : Array Value).zip #[]) #[] 7 none) → wpAny (model prg w) A.in1.in1 (ksk_tail D false c2 (Value.ref K) r.2) (fun fin s' => ∃ v, fin = Fin.done (Flow.ret v) ∧ wpAny (model prg w) A.in1 (ret (Value.ref D)) (fun fin s' => ∃ v, fin = Fin.done (Flow.ret v) ∧ Q v s') E s') E s4 := by
    rintro r rfl
    unfold ksk_tail
    dsimp only
    refine wpAny_bind (luS H (fun c4 s7 H => ?_) (by simp) (by simp))
    refine wpAny_bind (wpAny_letGo ?_)
    have H := H.perm rot3
    refine wpAny_bind (seS H ?_)
    refine wpAny_bind (luS H (fun c5 s8 H => ?_) (by simp) (by simp [arrOf, SortSt.mk']))
    simp only [bne_self_eq_false, Bool.false_eq_true, if_false]
    refine wpAny_pure ⟨_, rfl, wpAny_pure ⟨_, rfl, ?_⟩⟩
    have e9 : (if false = true then (Array.map (fun x => x.snd) (arrOf (SortSt.mk' general' ((#[] : Array Value).zip #[]) #[] 7 none))).reverse else Array.map (fun x => x.snd) (arrOf (SortSt.mk' general' ((#[] : Array Value).zip #[]) #[] 7 none))) = #[] := by
      rw [if_neg Bool.false_ne_true]
      show Array.map (fun x : Value × Value => x.snd) ((#[] : Array Value).zip #[]) = #[]
      simp
    rw [e9] at H
    exact hQ D c5 _ (H.swap.drop.swap.drop)
  exact hz _ rfl
theorem St.frzO {D : Addr} {o : Obj} (H : St w os₀ G ((D, objP o) :: ow) s) : ∃ G', Le G G' ∧ G'.get? D = some o ∧ St w os₀ G' ow s := by
  obtain ⟨o', G', e, hle, hg, H⟩ := H.freeze
  cases e
  exact ⟨G', hle, hg, H⟩
/-- sorted(within, key=K): the children in order -/
theorem sortCh {l mc C : Addr} {vs : List Value} {ws : List (List Str)} {Q : Value → Shared → Prop} (hk : KG' G mc C) (hm : MC G mc) (hA : AOk (n + 5) A) (H : St w os₀ G ((L, nsP m) :: ow) s) (hl : G.IsList l vs.toArray) (hr : RowsL G vs ws) (h5 : ws.length ≤ 60)
    (hw : ∀ c ∈ ws, 0 < c.length ∧ c.length ≤ 10 ∧ GR c) (hQ : ∀ D G' s', Le G G' → G'.IsList D ((chP ws).map fun i => vs.getD i Value.none).toArray → St w os₀ G' ((L, nsP m) :: ow) s' → Q (.ref D) s') :
    wpAny (model prg w) A (call (.builtin "sorted") [.ref l] [(Str.ofString "key", .ref C)]) Q E s := by
  have hlen := hr.length
  rcases vs with _ | ⟨v1, _ | ⟨v2, vr⟩⟩
  · cases hr
    refine sort0' (n := n) (hA.mono (by omega)) H hl fun D c s' H => ?_
    obtain ⟨G', hle, hg, H⟩ := H.frzO
    exact hQ D G' s' hle ⟨_, hg, rfl, c, rfl⟩ H
  · cases hr with
    | cons ha hr =>
    cases hr
    refine sort1 (n := n + 2) (Out := fun _ _ => True) (hA.mono (by omega)) H hl (fun G1 hle1 A ow s Q E hA H hQ => ?_) fun D c G1 s' hle1 H => ?_
    · obtain ⟨_, _, _, _, _, _, _, _, _, _, _, _, _, _, _, _, _, _, _, _, _, _, _, _, _, _, _, _, _, _, _, _, _, _, _, _, _, _, _, _, _, _, _, _, hk2⟩ := hk.le hle1
      exact mkK hk2 hA H fun x dx G2 s2 hle2 hx H2 => hQ _ G2 s2 hle2 H2 trivial
    · obtain ⟨G', hle, hg, H⟩ := H.frzO
      exact hQ D G' s' (hle1.trans hle) ⟨_, hg, rfl, c, rfl⟩ H
  · have h2 : ¬ ws.length < 2 := by simp at hlen; omega
    generalize v1 :: v2 :: vr = vs at *
    refine sortK (n := n + 1) (cmp := fun i j => cmpF (ws.getD i []) (ws.getD j [])) hk hm hA H hl (by omega) (by omega) (kIn_sort (by omega)) (fun i v e => ?_) (fun i j a b e1 e2 G' hle => ?_) fun D c G' s' hle H => ?_
    · obtain ⟨a, r, e1, _, _⟩ := hr.get i v e
      exact ⟨a, e1⟩
    · obtain ⟨a', r1, q1, q2, q3⟩ := hr.get i _ e1
      obtain ⟨b', r2, q4, q5, q6⟩ := hr.get j _ e2
      cases q1; cases q4
      obtain ⟨w1, w2, w3⟩ := hw r1 (List.mem_of_getElem? q2)
      obtain ⟨w4, w5, w6⟩ := hw r2 (List.mem_of_getElem? q5)
      have g1 : ws.getD i [] = r1 := by rw [List.getD_eq_getElem?_getD, q2]; rfl
      have g2 : ws.getD j [] = r2 := by rw [List.getD_eq_getElem?_getD, q5]; rfl
      rw [g1, g2]
      intro A ow s Q E hA H hQ
      exact compared_spec (q3.le hle) (q6.le hle) w1 w4 (by omega) (by omega) (Nat.le_trans (last_len w3) (by omega)) (Nat.le_trans (last_len w6) (by omega)) A ow s Q E (hA.mono (by omega)) H hQ
    · obtain ⟨G2, hle2, hg, H⟩ := H.frzO
      refine hQ D G2 s' (hle.trans hle2) ⟨_, hg, rfl, c, ?_⟩ H
      unfold chP
      rw [if_neg h2, ← hlen]
/-- the call of cmp_to_key, told apart from whether it is the first -/
noncomputable def CK (w : World) (os₀ : OsState) (G₀ : Heap) (tbc : Ow) : Prop := ∀ {n : Nat} {A : Around} {G : Heap} {ow : Ow} {s : Shared} {Q E : Value → Shared → Prop}, Le G₀ G → AOk (n + 11) A → St w os₀ G (tbc ++ ow) s →
  (∀ C mc G' s', Le G G' → Ready G' → KG' G' mc C → MC G' mc → St w os₀ G' ow s' → Q (.ref C) s') → wpAny (model prg w) A (call (.ref 28) [.ref 183]) Q E s
theorem ck0 : CK w os₀ G [(23, objP (tabO #[]))] := fun _ hA H hQ => ckA hA H hQ
theorem ck1 (hR : Ready G) : CK w os₀ G [] := fun hle hA H hQ => ckB (hR.le hle) hA H fun C mc G' s' h1 h2 h3 h4 => hQ C mc G' s' h1 ((hR.le hle).le h1) h2 h3 h4
end
end Mine
end

section -- S8
open PySem PySem.W PyProof.Rows PySem.W.X PySem.Calls
set_option linter.unusedVariables false
set_option maxRecDepth 100000
set_option maxHeartbeats 8000000
namespace Mine
noncomputable def PC : List Str := [Str.ofString "a", Str.ofString "B&&\"\"", Str.ofString "b&&\"\"", Str.ofString "c<\"<", Str.ofString "..", Str.ofString ".", Str.ofString "", Str.ofString "A>>\r\r\n\n\t\t"]
noncomputable def pcI (x : Int) (k : Nat) : Nat := ((x.fdiv (8 ^ k)).fmod 8).toNat
noncomputable def pcOf (x : Int) (k : Nat) : Str := PC.getD (pcI x k) Str.empty
noncomputable def rowOf (x : Int) : List Str := (List.range 3).map (pcOf x)
noncomputable def xsOf (ns : List Int) : List Int := ns.take 6 ++ [58, 129, 11, 88, 465, 7]
theorem pcI_lt (x : Int) (k : Nat) : pcI x k < 8 := by
  unfold pcI
  have h1 := Int.fmod_nonneg_of_pos (x.fdiv (8 ^ k)) (show (0 : Int) < 8 by decide)
  have h2 := Int.fmod_lt_of_pos (x.fdiv (8 ^ k)) (show (0 : Int) < 8 by decide)
  omega
theorem PC_get (x : Int) (k : Nat) : PC[pcI x k]? = some (pcOf x k) := by
  have h := pcI_lt x k
  have h8 : PC.length = 8 := rfl
  unfold pcOf
  rw [List.getD_eq_getElem?_getD, List.getElem?_eq_getElem (by rw [h8]; exact h)]; rfl
theorem intsTake : ∀ {vs : List Value} {ns : List Int}, IntsAre vs ns → ∀ k, IntsAre (vs.take k) (ns.take k)
  | _, _, .nil, k => by simpa using IntsAre.nil
  | _, _, .cons n t h, 0 => .nil
  | _, _, .cons n t h, k + 1 => .cons n t (intsTake h k)
theorem intsApp : ∀ {vs : List Value} {ns : List Int}, IntsAre vs ns → ∀ {vs' ns'}, IntsAre vs' ns' → IntsAre (vs ++ vs') (ns ++ ns')
  | _, _, .nil, _, _, h => h
  | _, _, .cons n t h, _, _, h' => .cons n t (intsApp h h')
theorem intsGet : ∀ {vs : List Value} {ns : List Int}, IntsAre vs ns → ∀ (i : Nat) v, vs[i]? = some v → ∃ n t, v = Value.int n t ∧ ns[i]? = some n
  | _, _, .nil, i, v, e => by simp at e
  | _, _, .cons n t h, 0, v, e => by cases e; exact ⟨n, t, rfl, rfl⟩
  | _, _, .cons n t h, i + 1, v, e => intsGet h i v (by simpa using e)
theorem pw8 : ∀ i < 3, ((8 : Int) ^ i).natAbs < 1073741824 := by decide
noncomputable def psM (f : Addr) : Str → Option Value := fun y => if y = Str.ofString "script" then some (.ref f) else none
noncomputable def RowP (w : World) (os₀ : OsState) (G : Heap) (base : Ow) (r : List Str) (v : Value) (s : Shared) : Prop := ∃ a, v = .ref a ∧ ∃ lo : List (Str × Tok), lo.map (·.1) = r ∧ St w os₀ G ((a, listP (strValues lo).toArray) :: base) s
section
variable {w : World} {os₀ : OsState} {G : Heap} {ow : Ow} {s : Shared} {A : Around} {E : Value → Shared → Prop}
theorem St.frzP {D : Addr} {xs : Array Value} (H : St w os₀ G ((D, listP xs) :: ow) s) : ∃ G', Le G G' ∧ G'.IsList D xs ∧ St w os₀ G' ow s := by
  obtain ⟨o, G', ⟨h1, k, h2⟩, hle, hg, H⟩ := H.freeze
  exact ⟨G', hle, ⟨_, hg, h1, k, h2⟩, H⟩
theorem pieces_spec {f : Addr} {vs : List Value} {ns : List Int} (hf : G.IsList f vs.toArray) (hi : IntsAre vs ns) (hz : vs.length ≤ 100) :
    Spec w os₀ 6 (.ref 171) [.ref f] G (fun G' v => ∃ a, v = .ref a ∧ RowsAt G' a ((xsOf ns).map rowOf)) := by
  intro A ow s Q E hA H hQ
  refine enter [(Str.ofString "script", .ref f)] (psM f) (fun y => none) (fun k => [(Str.ofString "pieces", k)]) hA H rfl rfl (fun h X => ⟨_, _, _, _, rfl, X 170 _ rfl, rfl, rfl⟩) rfl rfl rfl rfl rfl rfl (fun _ => rfl) ?_ rfl rfl (fun env L A' s₁ V hA H => ?_) (by decide +kernel) (fun _ => rfl)
  · simp only [List.mem_cons, List.not_mem_nil, or_false, forall_eq_or_imp, forall_eq]; exact .inl rfl
  · dsimp only at V
    have H : St w os₀ G ((L, nsP (psM f)) :: (L + 1, cellP none) :: ow) s₁ := H
    with_reducible refine wpAny_execs_cons (wpAny_Assign_Name ?_ ?_)
    rotate_left
    · rfl
    refine List_ (spliced_cons (cStr (k := 0) (pos := ⟨196, 14, 196, 17⟩) H fun t0 s H => spliced_cons (cStr (k := 0) (pos := ⟨196, 19, 196, 26⟩) H fun t1 s H => spliced_cons (cStr (k := 0) (pos := ⟨196, 28, 196, 35⟩) H fun t2 s H => spliced_cons (cStr (k := 0) (pos := ⟨196, 37, 196, 43⟩) H fun t3 s H => spliced_cons (cStr (k := 0) (pos := ⟨196, 45, 196, 49⟩) H fun t4 s H => spliced_cons (cStr (k := 0) (pos := ⟨196, 51, 196, 54⟩) H fun t5 s H => spliced_cons (cStr (k := 0) (pos := ⟨196, 56, 196, 58⟩) H fun t6 s H => spliced_cons (cStr (k := 0) (pos := ⟨196, 60, 196, 77⟩) H fun t7 s H => spliced_nil (newLst H (fun pl s H => ?_) (by rw [sizeLine_eq]; exact Nat.le_of_ble_eq_true rfl)))))))))))
    obtain ⟨G1, hle1, hpl, H⟩ := H.asL.frzL
    have hrow : RowAt G1 pl PC := ⟨[(_, t0), (_, t1), (_, t2), (_, t3), (_, t4), (_, t5), (_, t6), (_, t7)], rfl, hpl⟩
    refine stC V H fun s H => ?_
    refine wpAny_execs_cons (wpAny_Return_some (compE V (cl := [(Str.ofString "pieces", L + 1)]) rfl rfl (by decide +kernel) ?_))
    -- script[:6] + [..]
    refine wpAny_BinOp (slL (nmL V H rfl (partN (partS (cInt H fun _ s H => ⟨f, _, _, _, _, _, rfl, H, isList_le hf (hle1.trans H.le), by simpa using (by omega : vs.length ≤ 1000), .none, .int _ _, fun D s H => ?_⟩)))))
    obtain ⟨G2, hle2, hD, H⟩ := H.frzL
    rw [show (6 : Int) = ((6 : Nat) : Int) from rfl, slicePick_upto'] at hD
    refine List_ (spliced_cons (cInt (k := 0) (pos := ⟨197, 79, 197, 81⟩) H fun t0 s H => spliced_cons (cInt (k := 0) (pos := ⟨197, 83, 197, 86⟩) H fun t1 s H => spliced_cons (cInt (k := 0) (pos := ⟨197, 88, 197, 90⟩) H fun t2 s H => spliced_cons (cInt (k := 0) (pos := ⟨197, 92, 197, 94⟩) H fun t3 s H => spliced_cons (cInt (k := 0) (pos := ⟨197, 96, 197, 99⟩) H fun t4 s H => spliced_cons (cInt (k := 0) (pos := ⟨197, 101, 197, 102⟩) H fun t5 s H => spliced_nil (newLst H (fun D2 s H => ?_) (by rw [sizeLine_eq]; exact Nat.le_of_ble_eq_true rfl)))))))))
    obtain ⟨G3, hle3, hD2, H⟩ := H.asL.frzL
    refine addL H (isList_le hD (hle3.trans H.le)) (isList_le hD2 H.le) (fun D3 s H => ?_) (by simp; omega)
    obtain ⟨G4, hle4, hD3, H⟩ := H.frzL
    have hx := intsApp (intsTake hi 6) (.cons 58 t0 (.cons 129 t1 (.cons 11 t2 (.cons 88 t3 (.cons 465 t4 (.cons 7 t5 .nil))))))
    have hD3 : G4.IsList D3 (List.take 6 vs ++ [Value.int 58 t0, Value.int 129 t1, Value.int 11 t2, Value.int 88 t3, Value.int 465 t4, Value.int 7 t5]).toArray := hD3
    generalize (List.take 6 vs ++ [Value.int 58 t0, Value.int 129 t1, Value.int 11 t2, Value.int 88 t3, Value.int 465 t4, Value.int 7 t5]) = xv at hx hD3
    have hxl : xv.length = (xsOf ns).length := hx.length
    have hxz : (xsOf ns).length ≤ 12 := by
      unfold xsOf; simp; omega
    refine iterList H (isList_le hD3 H.le) fun it s H => ?_
    refine compIn (ht := ?ht) (srcList hD3) hA V H ?hn (fun k => [(Str.ofString "x", k)]) ?h1 ?h2 (fun C i out G' m' ow' => RowsL G' out (((xsOf ns).take i).map rowOf) ∧ ∃ vx, ow' = (C + 1, cellP vx) :: (L, nsP (psM f)) :: (L + 1, cellP (some (.ref pl))) :: ow) (fun C => ⟨.nil, _, rfl⟩) ?_ ?_
    case ht => intro _ _; rfl
    case hn => simp; omega
    case h1 => intro _; rfl
    case h2 => rfl
    · rintro cenv C acc Vc i v out G' m' ow' s' hi' hv ho ⟨hout, vx, rfl⟩ hle' H
      obtain ⟨x, tx, rfl, hxi⟩ := intsGet hx i v (by simpa using hv)
      have p1 : ∀ {a b c d : Addr × (Obj → Prop)} {r : Ow}, (a :: b :: c :: d :: r).Perm (a :: d :: b :: c :: r) := fun {a b c d r} => List.Perm.cons _ (((List.Perm.swap _ _ _).cons _).trans (List.Perm.swap _ _ _))
      have H := H.perm p1
      refine wpAny_assign_Name (stC Vc H fun s H => ?_)
      refine wpAny_pure (iteT rfl ?_)
      refine wpAny_mono (Q := RowP w os₀ G' ((C, nsP m') :: (C + 1, cellP (some (.int x tx))) :: (acc, listP out.toArray) :: (it, iterP D3 (i + 1)) :: (L, nsP (psM f)) :: (L + 1, cellP (some (.ref pl))) :: ow) (rowOf x)) (compE Vc (cl := [(Str.ofString "x", C + 1), (Str.ofString "pieces", L + 1)]) rfl rfl (by decide +kernel) ?_) ?_ fun _ _ e => e
      rotate_left
      · rintro v s ⟨a, rfl, lo, hlo, H⟩
        obtain ⟨G5, hle5, ha, H⟩ := H.frzP
        refine ⟨G5, m', _, ⟨?_, _, rfl⟩, hle5, H.perm p1.symm⟩
        rw [List.take_add_one, show (xsOf ns)[i]? = some x from hxi]
        simp only [Option.toList_some, List.map_append, List.map_cons, List.map_nil]
        exact (hout.le hle5).append (.cons ⟨lo, hlo, ha⟩ .nil)
      refine callT1 Vc H rfl rfl rfl (cInt H fun _ s H => ?_)
      rw [show (3 : Int) = ((3 : Nat) : Int) from rfl]
      refine rangeIter H (by omega) fun it2 s H => ?_
      refine compIn (Q := RowP w os₀ G' ((C, nsP m') :: (C + 1, cellP (some (.int x tx))) :: (acc, listP out.toArray) :: (it, iterP D3 (i + 1)) :: (L, nsP (psM f)) :: (L + 1, cellP (some (.ref pl))) :: ow) (rowOf x)) (ht := ?ht2) srcRange hA Vc H (by omega) (fun k => []) ?i1 ?i2 (fun C2 i2 out2 G2' m2 ow2 => G2' = G' ∧ (∃ lo : List (Str × Tok), out2 = strValues lo ∧ lo.map (·.1) = (List.range i2).map (pcOf x)) ∧ ow2 = _) (fun C2 => ⟨rfl, ⟨[], rfl, rfl⟩, rfl⟩) ?_ ?_
      case ht2 => intro _ _; rfl
      case i1 => intro _; rfl
      case i2 => rfl
      · rintro cenv2 C2 acc2 V2 i2 v2 out2 G2' m2 ow2 s2 hi2 ⟨t2, rfl⟩ ho2 ⟨rfl, ⟨lo, rfl, hlo⟩, rfl⟩ hle2' H
        refine wpAny_assign_Name (stL V2 H fun s H => ?_)
        refine wpAny_pure (iteT rfl ?_)
        refine Subscript_BinOp (nmC V2 H (c := L + 1) (v := .ref pl) (by simp) ?_)
        refine wpAny_BinOp (wpAny_BinOp (nmC V2 H (c := C + 1) (v := .int x tx) (by simp) (wpAny_BinOp (cInt (k := 0) (pos := ⟨197, 25, 197, 26⟩) H fun _ s H => nmL V2 H rfl (pow_int_small (by omega) (by omega) (by decide) ?_)))))
        have H := H.tok (s.toks + 1)
        rw [Int.toNat_natCast]
        have h8 : ((8 : Int) ^ i2) ≠ 0 := by
          have : (8 : Int) ^ i2 > 0 := Int.pow_pos (by decide)
          omega
        with_reducible refine floordiv_int h8 ?_ (.inl (PyProof.noPylong_small (pw8 i2 hi2)))
        have H := H.tok (s.toks + 1 + 1)
        refine cInt (k := 0) (pos := ⟨197, 34, 197, 35⟩) H fun _ s H => ?_
        refine mod_int' (by decide) ?_
        have H := H.tok (s.toks + 1)
        obtain ⟨lp, hlp, hpl'⟩ := hrow
        have hLs : s.heap.IsList pl (strValues lp).toArray := isList_le hpl' ((hle2.trans (hle3.trans hle4)).trans (hle'.trans H.le))
        obtain ⟨pt, hpt⟩ : ∃ pt, lp[pcI x i2]? = some (pcOf x i2, pt) := by
          have := PC_get x i2
          rw [← hlp, List.getElem?_map, Option.map_eq_some_iff] at this
          obtain ⟨⟨q1, q2⟩, h1, h2⟩ := this
          cases h2
          exact ⟨q2, h1⟩
        refine ⟨"list", _, slot_list_getitem.lookup, hLs.typeIs, wpAny_getItem_list hLs (Int.fmod_nonneg_of_pos _ (by decide)) (by have := Int.fmod_lt_of_pos (x.fdiv (8 ^ i2)) (show (0 : Int) < 8 by decide); omega) (x := .str (pcOf x i2) pt) ?_ ?_⟩
        · show (strValues lp).toArray[pcI x i2]? = _
          simp [strValues, hpt]
        · exact ⟨_, _, _, ⟨rfl, ⟨lo ++ [(pcOf x i2, pt)], by simp [strValues], by rw [List.map_append, hlo, List.range_succ, List.map_append]; rfl⟩, rfl⟩, Le.refl _, H⟩
      · rintro C2 acc2 out2 G2' m2 ow2 s2 ho2 ⟨rfl, ⟨lo, rfl, hlo⟩, rfl⟩ hle2' H
        exact ⟨acc2, rfl, lo, hlo, H⟩
    · rintro C acc out G' m' ow' s' ho ⟨hout, vx, rfl⟩ hle' H
      obtain ⟨G5, hle5, ha, H⟩ := H.frzP
      rw [List.take_of_length_le (by simp; omega)] at hout
      exact hQ _ G5 _ (hle1.trans (hle2.trans (hle3.trans (hle4.trans (hle'.trans hle5))))) H.drop.drop.drop ⟨acc, rfl, out, ha, hout.le hle5⟩
end
end Mine
end

section -- S11
open PySem PySem.W PyProof.Rows PySem.W.X PySem.Calls
set_option linter.unusedVariables false
set_option maxRecDepth 100000
set_option maxHeartbeats 4000000
namespace Mine
noncomputable def WithP (w : World) (os₀ : OsState) (L : Addr) (f a : Addr) (rs : List (List Str)) (row : List Str) (ow : Ow) (G2 : Heap) (fl : Flow) (s' : Shared) : Prop :=
  fl = .next ∧ ∃ G' acc out, Le G2 G' ∧ RowsL G' out (withinF rs row) ∧ St w os₀ G' ((L, nsP (upd (fun _ => none) (Str.ofString "within") (.ref acc))) :: (acc, listP out.toArray) :: (L + 1 + 1, cellP (some (.ref a))) :: (L + 1, cellP (some (.ref f))) :: ow) s'
section
variable {w : World} {os₀ : OsState} {G : Heap} {ow : Ow} {s : Shared} {A : Around} {E : Value → Shared → Prop}
theorem lay_row {r : List Str} (h : GR r) (hz : r.length ≤ 10) : PyData.layable0 (rowD r) = true := by
  have hw : ∀ l : List Str, GR l → PyData.weightAll (l.map PyData.str) ≤ 11 * l.length := by
    intro l
    induction l with
    | nil => intro _; simp [PyData.weightAll]
    | cons x l ih =>
      intro h
      have h1 := ih fun y hy => h y (.tail _ hy)
      have h2 := (NM_ok x (h x (.head _))).2
      simp only [List.map_cons, PyData.weightAll, PyData.weight, List.length_cons]
      have : x.length = x.cps.size := rfl
      omega
  have h1 := hw r h
  have h2 := depth_row r
  unfold PyData.layable0
  rw [canLay_row r h]
  have h3 : (rowD r).weight ≤ 11 * r.length := h1
  simp only [Bool.true_and, Bool.and_eq_true, decide_eq_true_eq]
  omega
noncomputable def bdF : Nat → Nat
  | 0 => 0
  | d + 1 => 100 + 5 * bdF d
theorem bd3 (d : Nat) (h : d ≤ 3) : bdF d ≤ 3100 := by
  match d, h with
  | 0, _ => decide
  | 1, _ => decide
  | 2, _ => decide
  | 3, _ => decide
theorem sum_le {b : Nat} : ∀ {l : List Str}, (∀ c ∈ l, c.length ≤ b) → (l.map (·.length)).sum ≤ l.length * b
  | [], _ => by simp
  | x :: r, h => by
    have h1 := sum_le fun c hc => h c (.tail _ hc)
    have h2 := h x (.head _)
    simp only [List.map_cons, List.sum_cons, List.length_cons, Nat.succ_mul]
    omega
theorem opF_len {rs : List (List Str)} (hE : GE rs) (hz : rs.length ≤ 100) {r : List Str} (hr : r ∈ rs) : (opF rs r).length ≤ 60 := by
  have h1 := esc_last (hE.gr r hr)
  have hi : rs.idxOf r < rs.length := List.idxOf_lt_length_of_mem hr
  have h2 := decS_len (rs.idxOf r) (by omega)
  obtain ⟨e1, e2, e3, e4⟩ := fix_len
  unfold opF
  simp only [Str.length_append, e1, e2, e3]
  omega
theorem wrF_len {rs : List (List Str)} (hE : GE rs) (hz : rs.length ≤ 100) : ∀ (d : Nat) (r : List Str), r ∈ rs → (wrF rs (chF rs) d r).length ≤ bdF d
  | 0, r, _ => Nat.le_refl _
  | d + 1, r, hr => by
    have hc : (chF rs r).length ≤ 5 := by
      unfold chF
      rw [List.length_map, (chP_perm _).length_eq, List.length_range]
      exact within_len hE r
    have hall : ∀ x ∈ (chF rs r).map (wrF rs (chF rs) d), x.length ≤ bdF d := fun x hx => by
      obtain ⟨c, hc, rfl⟩ := List.mem_map.mp hx
      exact wrF_len hE hz d c (((goodC hE).mem r c).mp hc).1
    have h1 : (Txt.join emS ((chF rs r).map (wrF rs (chF rs) d))).length ≤ ((chF rs r).map (wrF rs (chF rs) d)).length * bdF d := by
      have h4 := StrLaws.join_length_le emS ((chF rs r).map (wrF rs (chF rs) d))
      rw [fix_len.2.2.2] at h4
      show (PySem.Builtin.Str.glued emS _).length ≤ _
      rw [StrLaws.glued_eq_join]
      have hs := sum_le hall
      omega
    rw [List.length_map] at h1
    have h2 := Nat.mul_le_mul_right (bdF d) hc
    show (opF rs r ++ Txt.join emS ((chF rs r).map (wrF rs (chF rs) d)) ++ clS).length ≤ 100 + 5 * bdF d
    have h3 := opF_len hE hz hr
    rw [Str.length_append, Str.length_append, clS_len]
    omega
noncomputable def JoinP (w : World) (os₀ : OsState) (G : Heap) (base : Ow) (texts : List Str) (v : Value) (s : Shared) : Prop := ∃ G' D, v = .ref D ∧ ∃ lo : List (Str × Tok), lo.map (·.1) = texts ∧ Le G G' ∧ Ready G' ∧ St w os₀ G' ((D, listP (strValues lo).toArray) :: base) s
theorem written_step {f a : Addr} {rs : List (List Str)} {row : List Str} {Q : Value → Shared → Prop} {n d : Nat} {tbc : Ow} (hf : RowsAt G f rs) (hfp : Pl G f) (ha : RowAt G a row) (hE : GE rs) (hm : row ∈ rs) (hd : d ≤ 3) (hz : rs.length ≤ 100) (hA : AOk (n + 12) A) (H : St w os₀ G (tbc ++ ow) s)
    (hck : CK w os₀ G tbc) (ih : ∀ r b G', Le G G' → Ready G' → r ∈ rs → r.length = row.length + 1 → RowAt G' b r → Spec w os₀ (n + 11) (.ref 188) [.ref f, .ref b] G' (fun _ v => ∃ t, v = .str (wrF rs (chF rs) d r) t))
    (hQ : ∀ t G' s', Le G G' → Ready G' → St w os₀ G' ow s' → Q (.str (wrF rs (chF rs) (d + 1) row) t) s') :
    wpAny (model prg w) A (call (.ref 188) [.ref f, .ref a]) Q E s := by
  have hrs := hE.gr
  have hrl : ∀ r ∈ rs, r.length ≤ 10 := fun r hr => Nat.le_trans (hE.len r hr) (by omega)
  have hrow : GR row := hrs row hm
  have hz2 : row.length ≤ 10 := hrl row hm
  refine enter [(Str.ofString "found", .ref f), (Str.ofString "row", .ref a)] (fun y => none) (fun y => if y = Str.ofString "row" then some (.ref a) else if y = Str.ofString "found" then some (.ref f) else none) (fun k => [(Str.ofString "row", k + 1), (Str.ofString "found", k)]) hA H rfl rfl (fun h X => ⟨_, _, _, _, rfl, X 187 _ rfl, rfl, rfl⟩) rfl rfl rfl rfl rfl rfl (fun _ => rfl) ?_ rfl rfl (fun env L A' s₁ V hA H => ?_) (by decide +kernel) (fun _ => rfl)
  · simp only [List.mem_cons, List.not_mem_nil, or_false, forall_eq_or_imp, forall_eq]; exact ⟨.inr ⟨rfl, rfl⟩, .inr ⟨rfl, rfl⟩⟩
  · dsimp only at V
    have H : St w os₀ G ((L, nsP fun y => none) :: (L + 1 + 1, cellP (some (.ref a))) :: (L + 1, cellP (some (.ref f))) :: (tbc ++ ow)) s₁ := H
    obtain ⟨vs, hvs, hrows⟩ := id hf
    obtain ⟨la, hla, hal⟩ := id ha
    have hlen := hrows.length
    refine wpAny_execs_cons (wpAny_mono (Q := WithP w os₀ L f a rs row (tbc ++ ow) G) (compU V (cl := [(Str.ofString "row", L + 1 + 1)]) rfl rfl (by decide +kernel) rfl rfl (by decide +kernel) ?_) ?_ fun _ _ e => e)
    rotate_left
    · rintro fl s' ⟨rfl, G1, acc, out, hle1, hout, H⟩
      dsimp only
      obtain ⟨G2, hle2, hacc, H⟩ := H.swap.frzP
      refine wpAny_execs_cons (wpAny_Assign_Name (Call_method1 rfl rfl rfl (cStr H fun t0 s H => SB.join (wpAny_mono (Q := JoinP w os₀ G2 ((L, nsP (upd (fun _ => none) (Str.ofString "within") (.ref acc))) :: (L + 1 + 1, cellP (some (.ref a))) :: (L + 1, cellP (some (.ref f))) :: ow) ((chF rs row).map (wrF rs (chF rs) d))) (compE V (cl := [(Str.ofString "found", L + 1)]) rfl rfl (by decide +kernel) ?_) ?_ fun _ _ e => e))))
      rotate_left
      · rintro v s ⟨G3, D, rfl, lo, hlo, hle3, hR3, H⟩
        obtain ⟨G4, hle4, hD, H⟩ := H.frzP
        have hwl : (withinF rs row).length ≤ 5 := within_len hE row
        have hcl : (chF rs row).length ≤ 5 := by
          unfold chF
          rw [List.length_map, (chP_perm _).length_eq, List.length_range]; exact hwl
        have hall : ∀ x ∈ (chF rs row).map (wrF rs (chF rs) d), x.length ≤ bdF d := fun x hx => by
          obtain ⟨c, hc, rfl⟩ := List.mem_map.mp hx
          exact wrF_len hE hz d c (((goodC hE).mem row c).mp hc).1
        have hbd : bdF d ≤ 3100 := bd3 d hd
        have hprod : ((chF rs row).map (wrF rs (chF rs) d)).length * bdF d ≤ 5 * 3100 := Nat.mul_le_mul (by rw [List.length_map]; exact hcl) hbd
        obtain ⟨hjo, hjl⟩ := joinOkE hall (by omega)
        refine ⟨D, lo, rfl, isList_le hD H.le, _, hlo, hjo, fun t' k => ?_⟩
        have hin : (Txt.join (Str.ofString "") ((chF rs row).map (wrF rs (chF rs) d))).length ≤ 15500 := by
          show (Txt.join emS _).length ≤ _
          omega
        have h1 := esc_last hrow
        have hi : rs.idxOf row < rs.length := List.idxOf_lt_length_of_mem hm
        have h2 := decS_len (rs.idxOf row) (by omega)
        have q1 : (Str.ofString "<d n=\"").length = 6 := fix_len.1
        have q2 : (Str.ofString "\" k=\"").length = 5 := fix_len.2.1
        have q3 : (Str.ofString "\">").length = 2 := fix_len.2.2.1
        have q4 : (Str.ofString "</d>").length = 4 := clS_len
        have x4 := hle1.trans (hle2.trans (hle3.trans hle4))
        refine stL V (H.tok k) fun s H => ?_
        dsimp only
        refine wpAny_execs_cons (wpAny_Return_some (wpAny_BinOp (wpAny_BinOp (wpAny_BinOp (wpAny_BinOp (wpAny_BinOp (wpAny_BinOp (cStr H fun ta s H => callGf V H rfl rfl rfl rfl (spliced_cons (joinLast (ha.le x4) hz2 hrow rfl (fun s' Q' H hq => nmC V H (.tail _ (.head _)) hq) H fun tb G5 s hle5 H => spliced_nil ⟨⟨_, _, H⟩, ?_⟩))))))))))
        refine esc_spec hrow A' _ _ _ _ (hA.mono (by omega)) H ?_
        rintro v G6 s hle6 H ⟨tc, rfl⟩
        have x6 := x4.trans (hle5.trans hle6)
        refine addS H (fun td s H => cStr H fun te s H => addS H (fun tf s H => callT1 V H rfl rfl rfl (Call_method1 rfl rfl rfl (nmC V H (.tail _ (.tail _ (.head _))) (idxM (hf.le x6) (hfp.le x6) hrs hm (by omega) hA (nmC V H (.tail _ (.head _)) ⟨G6, _, rfl, Le.refl _, ha.le x6, H, fun tg s H => strI (by omega) H fun th s H => addS H (fun ti s H => cStr H fun tj s H => addS H (fun tk s H => nmL V H rfl (addS H (fun tl s H => cStr H fun tm s H => addS H (fun tn s H => ?_) ?z1) ?z2)) ?z3) ?z4⟩) H)))) ?z5) ?z6
        case z1 => rw [sizeLine_eq]; simp only [Str.length_append, q1, q2, q3, q4]; omega
        case z2 => rw [sizeLine_eq]; simp only [Str.length_append, q1, q2, q3, q4]; omega
        case z3 => rw [sizeLine_eq]; simp only [Str.length_append, q1, q2, q3, q4]; omega
        case z4 => rw [sizeLine_eq]; simp only [Str.length_append, q1, q2, q3, q4]; omega
        case z5 => rw [sizeLine_eq]; simp only [Str.length_append, q1, q2, q3, q4]; omega
        case z6 => rw [sizeLine_eq]; simp only [Str.length_append, q1, q2, q3, q4]; omega
        exact hQ tn G6 _ x6 (hR3.le (hle4.trans (hle5.trans hle6))) H.drop.drop.drop
      refine callBk V H rfl rfl rfl rfl (nmL V H rfl ?_)
      refine wpAny_bind (callGf V H rfl rfl rfl rfl (spliced_cons (nmG V H rfl (spliced_nil ⟨⟨_, _, H⟩, ?_⟩))))
      have H := H.perm (List.perm_append_comm_assoc [(L, nsP (upd (fun _ => none) (Str.ofString "within") (.ref acc))), (L + 1 + 1, cellP (some (Value.ref a))), (L + 1, cellP (some (Value.ref f)))] tbc ow)
      refine hck (n := n) (hle1.trans hle2) hA H fun C mc G3 s hle3 hR3 hK hM H => wpAny_bind (wpAny_standAt (wpAny_pure ?_))
      have H : St w os₀ G3 ((L, nsP (upd (fun _ => none) (Str.ofString "within") (.ref acc))) :: (L + 1 + 1, cellP (some (Value.ref a))) :: (L + 1, cellP (some (Value.ref f))) :: ow) s := H
      have hwl : (withinF rs row).length ≤ 5 := within_len hE row
      refine sortCh (n := n) (ws := withinF rs row) hK hM (hA.mono (by omega)) H (isList_le hacc hle3) (hout.le (hle2.trans hle3)) (by omega) (fun c hc => ?_) fun D G4 s hle4 hD H => ?_
      · obtain ⟨h1, x, rfl⟩ := mem_within.mp hc
        exact ⟨by simp, hrl _ h1, hrs _ h1⟩
      have hch : RowsL G4 ((chP (withinF rs row)).map fun i => out.getD i Value.none) (chF rs row) := rowsL_perm (hout.le (hle2.trans (hle3.trans hle4))) _ fun i hi => List.mem_range.mp ((chP_perm _).mem_iff.mp hi)
      have hcl : (chF rs row).length ≤ 5 := by
        unfold chF
        rw [List.length_map, (chP_perm _).length_eq, List.length_range]; exact hwl
      have hchl := hch.length
      generalize ((chP (withinF rs row)).map fun i => out.getD i Value.none) = vc at hD hch hchl
      refine iterList H (isList_le hD H.le) fun it s H => ?_
      refine compIn (Q := JoinP w os₀ G2 ((L, nsP (upd (fun _ => none) (Str.ofString "within") (.ref acc))) :: (L + 1 + 1, cellP (some (.ref a))) :: (L + 1, cellP (some (.ref f))) :: ow) ((chF rs row).map (wrF rs (chF rs) d))) (ht := ?jt) (srcList hD) hA V H ?jn (fun _ => []) ?j1 ?j2 (fun C i out G' m' ow' => (∃ lo : List (Str × Tok), out = strValues lo ∧ lo.map (·.1) = ((chF rs row).take i).map (wrF rs (chF rs) d)) ∧ ow' = (L, nsP (upd (fun _ => none) (Str.ofString "within") (.ref acc))) :: (L + 1 + 1, cellP (some (.ref a))) :: (L + 1, cellP (some (.ref f))) :: ow) (fun C => ⟨⟨[], rfl, rfl⟩, rfl⟩) ?_ ?_
      case jt => intro _ _; rfl
      case jn => simp; omega
      case j1 => intro _; rfl
      case j2 => rfl
      · rintro cenv C2 acc2 Vc i v out2 G5 m' ow' s' hi hv ho ⟨⟨lo, rfl, hlo⟩, rfl⟩ hle5 H
        obtain ⟨b, r, rfl, hri, hrb⟩ := hch.get i v (by simpa using hv)
        refine wpAny_assign_Name (stL Vc H fun s H => ?_)
        refine wpAny_pure (iteT rfl ?_)
        refine callGf Vc H rfl rfl rfl rfl (spliced_cons (nmC Vc H (.tail _ (.tail _ (.tail _ (.tail _ (.tail _ (.head _)))))) (spliced_cons (nmL Vc H rfl (spliced_nil ⟨⟨_, _, H⟩, ?_⟩)))))
        obtain ⟨hrm, hrx⟩ := ((goodC hE).mem row r).mp (List.mem_of_getElem? hri)
        have hrlen : r.length = row.length + 1 := by obtain ⟨x, rfl⟩ := hrx; simp
        refine ih r b G5 (((hle1.trans hle2).trans (hle3.trans hle4)).trans hle5) (hR3.le (hle4.trans hle5)) hrm hrlen (hrb.le hle5) A' _ _ _ _ hA H ?_
        rintro v G6 s6 hle6 H ⟨t, rfl⟩
        refine ⟨G6, _, _, ⟨⟨lo ++ [(wrF rs (chF rs) d r, t)], by simp [strValues], ?_⟩, rfl⟩, hle6, H⟩
        rw [List.map_append, hlo, List.take_add_one, hri]; simp
      · rintro C2 acc2 out2 G5 m' ow' s' ho ⟨⟨lo, rfl, hlo⟩, rfl⟩ hle5 H
        rw [List.take_of_length_le (by simp; omega)] at hlo
        exact ⟨G5, acc2, rfl, lo, hlo, hle3.trans (hle4.trans hle5), hR3.le (hle4.trans hle5), H⟩
    refine nmC V H (.tail _ (.tail _ (.head _))) (iterList H (isList_le hvs H.le) fun it s H => ?_)
    refine compInU (Q := WithP w os₀ L f a rs row (tbc ++ ow) G) (y := Str.ofString "within") (ht := ?ht) (srcList hvs) hA V H ?hn (fun _ => []) ?h1 ?h2 rfl (fun C i out G' m' ow' => RowsL G' out (withinF (rs.take i) row) ∧ ow' = (L, nsP fun _ => none) :: (L + 1 + 1, cellP (some (.ref a))) :: (L + 1, cellP (some (.ref f))) :: (tbc ++ ow)) (fun C => ⟨.nil, rfl⟩) ?_ ?_
    case ht => intro _ _; rfl
    case hn => simp; omega
    case h1 => intro _; rfl
    case h2 => rfl
    · rintro cenv C acc Vc i v out G' m' ow' s' hi hv ho ⟨hout, rfl⟩ hle' H
      obtain ⟨b, r, rfl, hri, hrb⟩ := hrows.get i v (by simpa using hv)
      obtain ⟨lb, hlb, hbl⟩ := id hrb
      refine wpAny_assign_Name (stL Vc H fun s H => ?_)
      refine forIn1 (sx_ifp rfl (wpAny_bind ?_))
      have hr10 := hrl r (List.mem_of_getElem? hri)
      refine isTrue_and (wpAny_isTrue_Compare1 (callB Vc H rfl rfl rfl rfl (spliced_cons (nmL Vc H rfl (spliced_nil (lenL H (isList_le hbl (hle'.trans H.le)) (by simp [strValues, ← hlb] at hr10 ⊢; omega) fun _ s H => ?_))))))
      have hsb : (strValues lb).toArray.size = r.length := by simp [strValues, ← hlb]
      have hsa : (strValues la).toArray.size = row.length := by simp [strValues, ← hla]
      rw [hsb]
      have rowHere : ∀ {P1 P2 P3 P4 : Addr × (Obj → Prop)} {r : Ow}, ((L + 1 + 1, cellP (some (Value.ref a))) : Addr × (Obj → Prop)) ∈ (P1 :: P2 :: P3 :: P4 :: (L + 1 + 1, cellP (some (Value.ref a))) :: r) := fun {_ _ _ _ _} => .tail _ (.tail _ (.tail _ (.tail _ (.head _))))
      refine wpAny_BinOp (callB Vc H rfl rfl rfl rfl (spliced_cons (nmC Vc H rowHere (spliced_nil (lenL H (isList_le hal (hle'.trans H.le)) (by omega) fun _ s H => cInt (k := 0) (pos := ⟨209, 61, 209, 62⟩) H fun _ s H => addI H fun _ s H => PySem.P.eq_int (wpAny_truthy_bool ?_))))))
      rw [hsa]
      have hws := within_succ (rs := rs) (row := row) hri
      cases hc1 : ((r.length : Int) == (row.length : Int) + 1) with
      | false =>
        rw [if_neg (by simp [inF, hc1]), List.append_nil] at hws
        refine iteF rfl (wpAny_pure (iteF rfl ?_))
        exact ⟨G', _, _, ⟨by rw [hws]; exact hout, rfl⟩, Le.refl _, H⟩
      | true =>
        refine iteT rfl (isTrue_and (wpAny_isTrue_Compare1 (slL (nmL Vc H rfl (partN (partS (callB Vc H rfl rfl rfl rfl (spliced_cons (nmC Vc H rowHere (spliced_nil (lenL H (isList_le hal (hle'.trans H.le)) (by omega) fun _ s H => ⟨b, _, _, _, _, _, rfl, H, isList_le hbl (hle'.trans H.le), by omega, .none, .int _ _, fun D s H => ?_⟩)))))))))))
        obtain ⟨G6, hle6, hD, H⟩ := H.frzL
        rw [hsa, slicePick_upto'] at hD
        have hcut : RowAt G6 D (r.take row.length) := ⟨lb.take row.length, by rw [List.map_take, hlb], by simpa [strValues, List.map_take] using hD⟩
        have hgt : GR (r.take row.length) := fun x hx => hrs r (List.mem_of_getElem? hri) x (List.mem_of_mem_take hx)
        refine nmC Vc H rowHere (PySem.SeqAt.compareEq_layable (hcut.le H.le).reads ((ha.le (hle'.trans (hle6.trans H.le))).reads) (lay_row hgt (by simp; omega)) (lay_row hrow hz2) hA.cl64 (wpAny_truthy_bool ?_))
        rw [eqv_row]
        cases hc2 : (r.take row.length == row) with
        | false =>
          rw [if_neg (by simp [inF, hc2]), List.append_nil] at hws
          refine iteF rfl (wpAny_pure (iteF rfl ?_))
          exact ⟨G6, _, _, ⟨by rw [hws]; exact hout.le hle6, rfl⟩, hle6, H⟩
        | true =>
          rw [if_pos (by simp [inF, hc1, hc2])] at hws
          refine iteT rfl (isTrue_and_nil (wpAny_pure (iteT rfl (nmL Vc H rfl ?_))))
          exact ⟨G6, _, _, ⟨by rw [hws]; exact (hout.le hle6).append (.cons (hrb.le (hle'.trans hle6)) .nil), rfl⟩, hle6, H⟩
    · rintro C acc out G' m' ow' ho ⟨hout, rfl⟩ hle'
      rw [List.take_of_length_le (by simp; omega)] at hout
      exact ⟨_, _, .refl _, fun s' H => ⟨rfl, G', acc, out, hle', hout, H⟩⟩
theorem written_sub {f : Addr} {rs : List (List Str)} (hE : GE rs) (hz : rs.length ≤ 100) : ∀ (d : Nat) (row : List Str) (a : Addr) (G : Heap), row.length + d = 4 → RowsAt G f rs → Pl G f → RowAt G a row → Ready G → row ∈ rs → Spec w os₀ (d + 12) (.ref 188) [.ref f, .ref a] G (fun _ v => ∃ t, v = .str (wrF rs (chF rs) d row) t)
  | 0, row, a, G, hl, _, _, _, _, hm => by
    have := hE.len row hm
    omega
  | d + 1, row, a, G, hl, hf, hfp, ha, hR, hm => by
    intro A ow s Q E hA H hQ
    refine written_step (n := d + 1) (tbc := []) hf hfp ha hE hm (by omega) hz hA H (ck1 hR) (fun r b G' hle hR' hr hrl hb => ?_) fun t G' s' hle hR' H => hQ _ G' s' hle H ⟨t, rfl⟩
    exact written_sub hE hz d r b G' (by omega) (hf.le hle) (hfp.le hle) hb hR' hr
theorem written_root {f a : Addr} {rs : List (List Str)} {Q : Value → Shared → Prop} (hE : GE rs) (hz : rs.length ≤ 100) (hf : RowsAt G f rs) (hfp : Pl G f) (ha : RowAt G a []) (hA : AOk 16 A) (H : St w os₀ G ((23, objP (tabO #[])) :: ow) s)
    (hQ : ∀ t G' s', Le G G' → (∃ ps, G'.get? 23 = some (tabO ps)) → St w os₀ G' ow s' → Q (.str (wrF rs (chF rs) 4 []) t) s') : wpAny (model prg w) A (call (.ref 188) [.ref f, .ref a]) Q E s := by
  refine written_step (n := 4) (d := 3) (tbc := [(23, objP (tabO #[]))]) hf hfp ha hE hE.nil (Nat.le_refl _) hz hA H ck0 (fun r b G' hle hR' hr hrl hb => ?_) fun t G' s' hle hR' H => hQ t G' s' hle (let ⟨_, _, ps, h, _⟩ := hR'; ⟨ps, h⟩) H
  exact written_sub hE hz 3 r b G' (by simpa using by omega) (hf.le hle) (hfp.le hle) hb hR' hr
end
end Mine
end

section -- Lt
open PySem PySem.W PyProof.Rows PySem.W.X PySem.Calls
set_option linter.unusedVariables false
set_option maxRecDepth 100000
set_option maxHeartbeats 4000000
namespace Mine
open PySem.SeqAt PySem.MeetsSeq
noncomputable def LtAt (A : Around) (s : Shared) (x y : Value) (b : Bool) : Prop :=
  ∀ (prog : Program) (w : World) (E : Value → Shared → Prop) (Q : Value → Shared → Prop), Q (.bool b) s → wpAny (model prog w) A (richCompare .Lt x y) Q E s
noncomputable def ltFrom (e l : Nat → Bool) (fin : Bool) : Nat → Nat → Bool
  | 0, _ => fin
  | k + 1, i => if e i = true then ltFrom e l fin k (i + 1) else l i
theorem tuple_ltAt (l b : Addr) (items items2 : Array Value) (n n2 : Nat) (dd dd2 : Option Addr) (sl sl2 : Array (Option Value)) (e lt : Nat → Bool) :
    Meets (Builtin.«tuple.__lt__» ⟨[.ref l, .ref b], []⟩)
      (fun A R s => s.heap.get? l = some { cls := .type "tuple", dict := dd, data := .seq items n, slots := sl } ∧ s.heap.get? b = some { cls := .type "tuple", dict := dd2, data := .seq items2 n2, slots := sl2 } ∧
        (∀ j (h1 : j < items.size) (h2 : j < items2.size), EqAt A.in1 s items[j] items2[j] (e j) ∧ (e j = false → LtAt A.in1 s items[j] items2[j] (lt j))) ∧
        R (.ok (.ret (.bool (ltFrom e lt (decide (items.size < items2.size)) (min items.size items2.size) 0)))) s) :=
  .of_wp fun prog w A R s h => by
    obtain ⟨hp, g, d, tk, os⟩ := s; obtain ⟨hl, hb, he, h⟩ := h
    have f2 := AutoSeq1.sub_tuple_tuple
    have hZ : (items.toList.zip items2.toList).length = min items.size items2.size := by simp
    wp_walk using wpAny_loadPart' hl, wpAny_loadPart' hb, wpAny_forIn_list _ (fun rest b s' => b.1 = none ∧ s' = ⟨hp, g, d, tk, os⟩ ∧ ∃ i, i ≤ min items.size items2.size ∧ rest = (items.toList.zip items2.toList).drop i ∧
      R (.ok (.ret (.bool (ltFrom e lt (decide (items.size < items2.size)) (min items.size items2.size - i) i)))) ⟨hp, g, d, tk, os⟩) _
    case turn =>
      rintro ⟨y, x⟩ rest b s' ⟨hb', rfl, i, hi, hz, hR⟩
      have hlt : i < (items.toList.zip items2.toList).length := by
        rcases Nat.lt_or_ge i (items.toList.zip items2.toList).length with h' | h'
        · exact h'
        · rw [List.drop_of_length_le h'] at hz; cases hz
      have hm : i < min items.size items2.size := hZ ▸ hlt
      have h1 : i < items.size := Nat.lt_of_lt_of_le hm (Nat.min_le_left _ _)
      have h2 : i < items2.size := Nat.lt_of_lt_of_le hm (Nat.min_le_right _ _)
      rw [List.drop_eq_getElem_cons hlt] at hz
      injection hz with hyx hrest
      have hy : y = items[i] := by have := congrArg Prod.fst hyx; simpa using this
      have hx : x = items2[i] := by have := congrArg Prod.snd hyx; simpa using this
      subst hy hx
      rw [show min items.size items2.size - i = (min items.size items2.size - (i + 1)) + 1 by omega] at hR
      unfold ltFrom at hR
      refine wpAny_bind ((he i h1 h2).1 prog w _ _ ?_)
      cases hy : e i with
      | true =>
        rw [hy, if_pos rfl] at hR
        wp_walk
        exact ⟨rfl, rfl, i + 1, hm, hrest, hR⟩
      | false =>
        rw [hy, if_neg (by simp)] at hR
        rw [if_pos (show (!false) = true from rfl)]
        refine wpAny_bind (wpAny_rule (wpAny_bind ((he i h1 h2).2 hy prog w _ _ ?_)))
        refine wpAny_bind (wpAny_pure (wpAny_pure ?_))
        exact wpAny_pure ⟨_, rfl, hR⟩
    case fin =>
      rintro ⟨b1, b2⟩ s' ⟨hb', rfl, i, hi, hz, hR⟩
      simp only at hb'
      subst hb'
      have hge : min items.size items2.size ≤ i := by
        rcases Nat.lt_or_ge i (items.toList.zip items2.toList).length with h' | h'
        · rw [List.drop_eq_getElem_cons h'] at hz; cases hz
        · exact hZ ▸ h'
      rw [show min items.size items2.size - i = 0 by omega] at hR
      wp_walk
      exact ⟨_, rfl, by simpa [Builtin.Tuple.tupleCompareSizes, ltFrom] using hR⟩
    case h =>
      exact ⟨rfl, rfl, 0, Nat.zero_le _, rfl, by simpa using h⟩
theorem lt_loopAt (l b : Addr) (items items2 : Array Value) (n n2 : Nat) (dd dd2 : Option Addr) (sl sl2 : Array (Option Value)) (e lt : Nat → Bool) (k : Nat) :
    ∀ i : Nat, min items.size items2.size - i = k → i ≤ min items.size items2.size → Meets (Builtin.«list.__eq__.loop» ⟨[.ref l, .ref b, rawInt i, rawInt 0], []⟩)
      (fun A R s => s.heap.get? l = some { cls := .type "list", dict := dd, data := .seq items n, slots := sl } ∧ s.heap.get? b = some { cls := .type "list", dict := dd2, data := .seq items2 n2, slots := sl2 } ∧
        (∀ j (h1 : j < items.size) (h2 : j < items2.size), EqAt A.in1 s items[j] items2[j] (e j) ∧ (e j = false → LtAt A.in1 s items[j] items2[j] (lt j))) ∧
        R (.ok (.ret (.bool (ltFrom e lt (decide (items.size < items2.size)) k i)))) s) := by
  induction k with
  | zero =>
    intro i hk hi prog w A R s h
    obtain ⟨hp, g, d, tk, os⟩ := s; obtain ⟨hl, hb, he, h⟩ := h
    wp_walk using wpAny_loadPart' hl, wpAny_loadPart' hb
    have hfin : R (Except.ok (Flow.ret (Value.bool (decide (items.size < items2.size))))) ⟨hp, g, d, tk, os⟩ := h
    cases h1 : items[(i : Int).toNat]? with
    | none =>
      refine wpAny_bind (listItems_at hl rfl (wpAny_bind (listItems_at hb rfl ?_)))
      exact wpAny_pure hfin
    | some x =>
      cases h2 : items2[(i : Int).toNat]? with
      | none =>
        refine wpAny_bind (listItems_at hl rfl (wpAny_bind (listItems_at hb rfl ?_)))
        exact wpAny_pure hfin
      | some y =>
        exfalso
        have q1 := (Array.getElem?_eq_some_iff.mp h1).1
        have q2 := (Array.getElem?_eq_some_iff.mp h2).1
        simp only [Int.toNat_natCast] at q1 q2
        omega
  | succ k ih =>
    intro i hk hi prog w A R s h
    obtain ⟨hp, g, d, tk, os⟩ := s; obtain ⟨hl, hb, he, h⟩ := h
    wp_walk using wpAny_loadPart' hl, wpAny_loadPart' hb
    have hlt : i < items.size := by omega
    have hlt2 : i < items2.size := by omega
    have hi1 : items[((i : Nat) : Int).toNat]? = some items[i] := by simp [hlt]
    have hi2 : items2[((i : Nat) : Int).toNat]? = some items2[i] := by simp [hlt2]
    have hc : ((i : Int) + 1) = ((i + 1 : Nat) : Int) := by push_cast; rfl
    unfold ltFrom at h
    rw [hi1, hi2]
    refine wpAny_bind ((he i hlt hlt2).1 prog w _ _ ?_)
    cases hb' : e i with
    | true =>
      rw [hb', if_pos rfl] at h
      wp_walk
      rw [hc]
      exact ⟨plainId_quiet PySem.MeetsSeq3.plain_eq_loop _, codeAny_builtin PySem.MeetsSeq3.entry_eq_loop (by
        rw [Around.under_plainId PySem.MeetsSeq3.plain_eq_loop _]
        exact ih (i + 1) (by omega) (by omega) prog w A R _ ⟨hl, hb, he, h⟩)⟩
    | false =>
      rw [hb', if_neg (by simp)] at h
      rw [if_neg (by simp)]
      refine wpAny_bind (listItems_at hl rfl (wpAny_bind (listItems_at hb rfl ?_)))
      rw [hi1, hi2]
      exact wpAny_bind ((he i hlt hlt2).2 hb' prog w _ _ (wpAny_pure h))
theorem list_ltAt (l b : Addr) (items items2 : Array Value) (n n2 : Nat) (dd dd2 : Option Addr) (sl sl2 : Array (Option Value)) (e lt : Nat → Bool) :
    Meets (Builtin.«list.__lt__» ⟨[.ref l, .ref b], []⟩)
      (fun A R s => s.heap.get? l = some { cls := .type "list", dict := dd, data := .seq items n, slots := sl } ∧ s.heap.get? b = some { cls := .type "list", dict := dd2, data := .seq items2 n2, slots := sl2 } ∧
        (∀ j (h1 : j < items.size) (h2 : j < items2.size), EqAt A.in1 s items[j] items2[j] (e j) ∧ (e j = false → LtAt A.in1 s items[j] items2[j] (lt j))) ∧
        R (.ok (.ret (.bool (ltFrom e lt (decide (items.size < items2.size)) (min items.size items2.size) 0)))) s) := by
  intro prog w A R s h
  obtain ⟨hp, g, d, tk, os⟩ := s; obtain ⟨hl, hb, he, h⟩ := h
  have f3 := AutoSeq1.sub_list_list
  wp_walk using wpAny_loadPart' hl, wpAny_loadPart' hb
  exact ⟨plainId_quiet PySem.MeetsSeq3.plain_eq_loop _, codeAny_builtin PySem.MeetsSeq3.entry_eq_loop (by
    rw [Around.under_plainId PySem.MeetsSeq3.plain_eq_loop _]
    exact lt_loopAt l b items items2 n n2 dd dd2 sl sl2 e lt _ 0 rfl (Nat.zero_le _) prog w A R _ ⟨hl, hb, he, h⟩)⟩
end Mine
end

section -- Key
open PySem PySem.W PyProof.Rows PySem.W.X PySem.Calls
set_option linter.unusedVariables false
set_option maxRecDepth 100000
set_option maxHeartbeats 2000000
namespace Mine
open PySem.SeqAt PySem.MeetsSeq
noncomputable def encI (p : Str × Nat) : List (List Nat) := [p.1.cps.toList, [p.2]]
noncomputable def eqI (p q : Str × Nat) : Bool := (p.1.cps.toList == q.1.cps.toList) && ((p.2 : Int) == (q.2 : Int))
theorem encI_lt (p q : Str × Nat) : encI p < encI q ↔ p.1.cps.toList < q.1.cps.toList ∨ (p.1.cps.toList = q.1.cps.toList ∧ p.2 < q.2) := by
  unfold encI
  rw [List.cons_lt_cons_iff, List.cons_lt_cons_iff, List.cons_lt_cons_iff]
  simp
theorem eqI_iff (p q : Str × Nat) : eqI p q = true ↔ encI p = encI q := by
  unfold eqI encI
  rw [Bool.and_eq_true, beq_iff_eq, beq_iff_eq]
  simp only [List.cons.injEq, and_true]
  constructor
  · rintro ⟨h1, h2⟩; exact ⟨h1, by omega⟩
  · rintro ⟨h1, h2⟩; exact ⟨h1, by omega⟩
theorem ltFrom_shift (e l : Nat → Bool) (fin : Bool) : ∀ k i, ltFrom e l fin k (i + 1) = ltFrom (fun j => e (j + 1)) (fun j => l (j + 1)) fin k i
  | 0, _ => rfl
  | k + 1, i => by
    unfold ltFrom
    rw [ltFrom_shift e l fin k (i + 1)]
noncomputable def d0 : Str × Nat := (Str.empty, 0)
theorem ltFrom_lex : ∀ a b : List (Str × Nat), ltFrom (fun j => eqI (a.getD j d0) (b.getD j d0)) (fun j => decide (encI (a.getD j d0) < encI (b.getD j d0))) (decide (a.length < b.length)) (min a.length b.length) 0 = decide (a.map encI < b.map encI)
  | [], [] => by simp [ltFrom]
  | [], q :: b => by simp [ltFrom]
  | p :: a, [] => by simp [ltFrom]
  | p :: a, q :: b => by
    have ih := ltFrom_lex a b
    have e1 : min (p :: a).length (q :: b).length = min a.length b.length + 1 := by simp
    rw [e1]
    unfold ltFrom
    rw [ltFrom_shift]
    have e2 : decide ((p :: a).length < (q :: b).length) = decide (a.length < b.length) := by simp
    rw [e2]
    simp only [List.getD_cons_succ, List.getD_cons_zero, List.map_cons]
    rw [ih]
    cases h : eqI p q with
    | true =>
      rw [if_pos rfl]
      have := (eqI_iff p q).mp h
      congr 1
      rw [List.cons_lt_cons_iff, this]
      simp [List.lt_irrefl]
    | false =>
      rw [if_neg (by simp)]
      have hne : encI p ≠ encI q := fun q' => by rw [(eqI_iff p q).mpr q'] at h; cases h
      congr 1
      rw [List.cons_lt_cons_iff]
      simp [hne]
inductive TupsL (G : Heap) : List Value → List (Str × Nat) → Prop
  | nil : TupsL G [] []
  | cons {a x t i u vs its} : G.IsTuple a #[.str x t, .int (i : Nat) u] → TupsL G vs its → TupsL G (.ref a :: vs) ((x, i) :: its)
noncomputable def KeyAt (G : Heap) (a : Addr) (its : List (Str × Nat)) : Prop := ∃ vs, G.IsList a vs.toArray ∧ TupsL G vs its
theorem TupsL.le {G G' : Heap} (x : Le G G') : ∀ {vs its}, TupsL G vs its → TupsL G' vs its
  | _, _, .nil => .nil
  | _, _, .cons h r => .cons (isTuple_le h x) (r.le x)
theorem KeyAt.le {G G' : Heap} {a : Addr} {its} (h : KeyAt G a its) (x : Le G G') : KeyAt G' a its := let ⟨vs, h1, h2⟩ := h; ⟨vs, isList_le h1 x, h2.le x⟩
theorem TupsL.length {G : Heap} : ∀ {vs its}, TupsL G vs its → vs.length = its.length
  | _, _, .nil => rfl
  | _, _, .cons _ r => by simp [r.length]
theorem TupsL.append {G : Heap} : ∀ {vs its}, TupsL G vs its → ∀ {vs' its'}, TupsL G vs' its' → TupsL G (vs ++ vs') (its ++ its')
  | _, _, .nil, _, _, h => h
  | _, _, .cons h t, _, _, h' => .cons h (t.append h')
theorem TupsL.at {G : Heap} : ∀ {vs its}, TupsL G vs its → ∀ (i : Nat) (h : i < vs.length), ∃ a t u, vs[i] = Value.ref a ∧ G.IsTuple a #[.str (its.getD i d0).1 t, .int ((its.getD i d0).2 : Nat) u]
  | _, _, .nil, i, h => absurd h (Nat.not_lt_zero _)
  | _, _, .cons h t, 0, _ => ⟨_, _, _, rfl, h⟩
  | _, _, .cons h t, i + 1, hi => by
    obtain ⟨a, t, u, h1, h2⟩ := t.at i (by simpa using hi)
    exact ⟨a, t, u, h1, by simpa using h2⟩
theorem eqAt_str (A : Around) (s : Shared) (x y : Str) (t u : Tok) : EqAt A s (.str x t) (.str y u) (x.cps.toList == y.cps.toList) := (PySem.MeetsSeq.EqGives.at (PySem.SeqRoads2.EqGives.str x y t u) A s)
theorem eqAt_int (A : Around) (s : Shared) (x y : Int) (t u : Tok) : EqAt A s (.int x t) (.int y u) (x == y) := (EqGives.int x y t u).at A s
theorem ltAt_str (A : Around) (s : Shared) (x y : Str) (t u : Tok) : LtAt A s (.str x t) (.str y u) (decide (x.cps.toList < y.cps.toList)) := fun prog w E Q hq => PyProof.Rows.lt_str hq
theorem ltAt_int (A : Around) (s : Shared) (x y : Int) (t u : Tok) : LtAt A s (.int x t) (.int y u) (decide (x < y)) := fun prog w E Q hq => PyProof.Rows.lt_int hq
theorem pairE {P : Nat → Prop} (h0 : P 0) (h1 : P 1) : ∀ j, j < 2 → P j
  | 0, _ => h0
  | 1, _ => h1
theorem tupEq {A : Around} {s : Shared} {a b : Addr} {p q : Str × Nat} {t u t' u' : Tok} (ha : s.heap.IsTuple a #[.str p.1 t, .int (p.2 : Nat) u]) (hb : s.heap.IsTuple b #[.str q.1 t', .int (q.2 : Nat) u']) (hu : A.units < cLine) : EqAt A s (.ref a) (.ref b) (eqI p q) := by
  by_cases hne : a = b
  · subst hne
    obtain ⟨o, h1, h2, k, h3⟩ := ha
    obtain ⟨o', h1', h2', k', h3'⟩ := hb
    rw [h1] at h1'; cases h1'
    rw [h3] at h3'
    injection h3' with h4 h5
    simp only [Array.mk.injEq, List.cons.injEq, Value.str.injEq, Value.int.injEq, and_true] at h4
    have e : eqI p q = true := by
      unfold eqI
      rw [h4.1.1, show (p.2 : Int) = (q.2 : Int) from h4.2.1]
      simp
    rw [e]
    exact EqAt.same _
  · refine EqAt.of_refs hne ?_
    have := RcAt.tuples (e := fun j => if j = 0 then (p.1.cps.toList == q.1.cps.toList) else ((p.2 : Int) == (q.2 : Int))) ha hb hu fun j h1 h2 => by
      have h1 : j < 2 := h1
      match j, h1 with
      | 0, _ => exact eqAt_str _ _ _ _ _ _
      | 1, _ => exact eqAt_int _ _ _ _ _ _
    have e : ((List.range (min (#[Value.str p.1 t, .int (p.2 : Nat) u] : Array Value).size (#[Value.str q.1 t', .int (q.2 : Nat) u'] : Array Value).size)).all (fun j => if j = 0 then (p.1.cps.toList == q.1.cps.toList) else ((p.2 : Int) == (q.2 : Int))) && (#[Value.str p.1 t, .int (p.2 : Nat) u] : Array Value).size == (#[Value.str q.1 t', .int (q.2 : Nat) u'] : Array Value).size) = eqI p q := by
      show ((List.range 2).all _ && _) = _
      unfold eqI
      simp [List.range_succ]
    rw [e] at this
    exact this
theorem tupLt {A : Around} {s : Shared} {a b : Addr} {p q : Str × Nat} {t u t' u' : Tok} (ha : s.heap.IsTuple a #[.str p.1 t, .int (p.2 : Nat) u]) (hb : s.heap.IsTuple b #[.str q.1 t', .int (q.2 : Nat) u']) (hu : A.units < cLine) (hne : eqI p q = false) : LtAt A s (.ref a) (.ref b) (decide (encI p < encI q)) := fun prog w E Q hq => by
  obtain ⟨⟨cls, dd, data, sl⟩, ho, hc, n, hd⟩ := id ha
  obtain ⟨⟨cls2, dd2, data2, sl2⟩, ho2, hc2, n2, hd2⟩ := id hb
  simp only at hc hd hc2 hd2
  subst hc hd hc2 hd2
  have key : ltFrom (fun j => if j = 0 then (p.1.cps.toList == q.1.cps.toList) else ((p.2 : Int) == (q.2 : Int))) (fun j => if j = 0 then decide (p.1.cps.toList < q.1.cps.toList) else decide ((p.2 : Int) < (q.2 : Int))) (decide ((#[Value.str p.1 t, .int (p.2 : Nat) u] : Array Value).size < (#[Value.str q.1 t', .int (q.2 : Nat) u'] : Array Value).size)) (min (#[Value.str p.1 t, .int (p.2 : Nat) u] : Array Value).size (#[Value.str q.1 t', .int (q.2 : Nat) u'] : Array Value).size) 0 = decide (encI p < encI q) := by
    show ltFrom _ _ _ 2 0 = _
    unfold ltFrom ltFrom ltFrom
    unfold eqI at hne
    simp only [if_true, Nat.zero_add, Nat.one_ne_zero, if_false]
    cases h1 : (p.1.cps.toList == q.1.cps.toList) with
    | false =>
      rw [if_neg (by simp)]
      have h1' : p.1.cps.toList ≠ q.1.cps.toList := by simpa using h1
      simp only [encI_lt, h1', false_and, or_false]
    | true =>
      rw [h1, Bool.true_and] at hne
      rw [if_pos rfl, if_neg (by simp [hne])]
      have h1' : p.1.cps.toList = q.1.cps.toList := by simpa using h1
      simp only [encI_lt, h1', true_and, List.lt_irrefl, false_or]
      congr 1
      exact propext (by omega)
  exact richCompare_meets_room (op := .Lt) ⟨_, ho, rfl⟩ ⟨_, ho2, rfl⟩ F.slot_tuple_lt F.entry_tuple_lt (F.args_tuple_lt_2 _ _) (tuple_ltAt a b _ _ n n2 dd dd2 sl sl2 (fun j => if j = 0 then (p.1.cps.toList == q.1.cps.toList) else ((p.2 : Int) == (q.2 : Int))) (fun j => if j = 0 then decide (p.1.cps.toList < q.1.cps.toList) else decide ((p.2 : Int) < (q.2 : Int))))
    ⟨ho, ho2, fun j h1 h2 => by
      have h1 : j < 2 := h1
      match j, h1 with
      | 0, _ => exact ⟨eqAt_str _ _ _ _ _ _, fun _ => ltAt_str _ _ _ _ _ _⟩
      | 1, _ => exact ⟨eqAt_int _ _ _ _ _ _, fun _ => ltAt_int _ _ _ _ _ _⟩, by
      rw [key]
      exact show Value.bool (decide (encI p < encI q)) ≠ Value.notImplemented ∧ Q (.bool (decide (encI p < encI q))) s from ⟨(fun x => nomatch x), hq⟩⟩ hu
section
variable {w : World} {os₀ : OsState} {G : Heap} {ow : Ow} {s : Shared} {A : Around} {n : Nat} {E : Value → Shared → Prop}
/-- one question of the sort: two keys, each a list of pairs -/
theorem keyLtT {k1 k2 : Addr} {i1 i2 : List (Str × Nat)} {Q : Bool → Shared → Prop} (h1 : KeyAt G k1 i1) (h2 : KeyAt G k2 i2) (hA : AOk n A) (H : St w os₀ G ow s) (hQ : Q (decide (i1.map encI < i2.map encI)) s) : wpAny (model prg w) A (keyLt' oneType' (.ref k1) (.ref k2)) Q E s := by
  obtain ⟨vs, hl, ht⟩ := h1.le H.le
  obtain ⟨vs2, hl2, ht2⟩ := h2.le H.le
  obtain ⟨⟨cls, dd, data, sl⟩, ho, hc, n, hd⟩ := id hl
  obtain ⟨⟨cls2, dd2, data2, sl2⟩, ho2, hc2, n2, hd2⟩ := id hl2
  simp only at hc hd hc2 hd2
  subst hc hd hc2 hd2
  rw [keyLt'_oneType, oneLt'_eq]
  simp only [if_true]
  refine wpAny_bind (wpAny_cRoomFor hA.cl ?_)
  have hu : ∀ k : Nat, k ≤ 64 → A.units + k < cLine := fun k hk => by have := hA.units; show _ < 9900; omega
  have e1 : vs.toArray.size = i1.length := by simp [ht.length]
  have e2 : vs2.toArray.size = i2.length := by simp [ht2.length]
  refine wpAny_bind (wpAny_callSpecialIfBound?_slot ⟨_, ho, rfl⟩ F.slot_list_lt (call_meets F.slot_list_lt ⟨_, ho, rfl⟩ F.entry_list_lt (F.args_list_lt_2 _ _) (list_ltAt k1 k2 _ _ n n2 dd dd2 sl sl2 (fun j => eqI (i1.getD j d0) (i2.getD j d0)) (fun j => decide (encI (i1.getD j d0) < encI (i2.getD j d0))))
    ⟨ho, ho2, fun j h1 h2 => ?_, ?_⟩))
  · obtain ⟨a, t, u, q1, q2⟩ := ht.at j (by simpa using h1)
    obtain ⟨b, t', u', q3, q4⟩ := ht2.at j (by simpa using h2)
    rw [List.getElem_toArray, List.getElem_toArray, q1, q3]
    exact ⟨tupEq q2 q4 (hu 1 (by omega)), tupLt q2 q4 (hu 1 (by omega))⟩
  · rw [e1, e2, ltFrom_lex]
    exact wpAny_truthy_bool hQ
end
end Mine
end

section -- Lam
open PySem PySem.W PyProof.Rows PySem.W.X PySem.Calls
set_option linter.unusedVariables false
set_option maxRecDepth 100000
set_option maxHeartbeats 4000000
namespace Mine
section
variable {w : World} {os₀ : OsState} {G : Heap} {ow : Ow} {s : Shared} {A : Around} {n : Nat} {E : Value → Shared → Prop} {names : List (Str × NameKind)} {code : Value} {qual : Str}
theorem lamMk {args : Arguments} {body : Expr} {scope : Scope} {pos : Pos} {env : Env} {c P : Addr} {q : Str} {ps : Array Value} {clo : List (Str × Addr)} {Q : Value → Shared → Prop} (hde : defaultsOf args env = ([], [])) (hko : args.kwonlyargs = []) (hclo : cloOf env.cells scope.names [] = some clo) (hce : clo.isEmpty = false) (hgl : env.globals = 3) (hbi : env.builtins = 0) (hc : env.code = .ref c) (H : St w os₀ G ((P, objP (tabO ps)) :: ow) s) (hF : CodeF G c P q) (htr : TriplesOk ps.toList) (hnf : codeAmong pos ps.toList = none)
    (hQ : ∀ f fd G' s', Le G G' → G'.get? f = some (fnO fd) → fd.params = args → fd.body = .expr body → fd.scope = scope → fd.globals = 3 → fd.builtins = 0 → fd.closure = clo → fd.defaults = .none → fd.kwdefaults = .none → G'.CodeRec fd.code fd.qualname → (∃ ps', G'.get? P = some (tabO ps')) → St w os₀ G' ow s' → Q (.ref f) s') :
    wpAny (model prg w) A (eval (.Lambda args body scope pos) env) Q E s := by
  obtain ⟨po, pa, va, ko, kd, kwa, de⟩ := args
  dsimp only at hko
  subst hko
  rw [arm_eval_Lambda, hde]
  dsimp only
  refine bindE (v := []) rfl ?_
  refine wpAny_bind (wpAny_holding ?_)
  refine wpAny_pure ?_
  unfold makeFunction
  refine sx_ifp (by simp) (bindE rfl ?_)
  refine sx_ifp (by simp) (bindE rfl ?_)
  refine sx_ifp (by simp) (bindE rfl ?_)
  refine wpAny_bind (wpAny_of_eq (closureFor_of hclo) ?_)
  rw [hgl, hbi, hce]
  refine sx_ifn (by simp) ?_
  unfold newTextTuple newObjAsIs
  refine wpAny_bind (wpAny_bind (sx_alloc H (fun ct s H => sx_pure (sx_pure ?_))))
  have H := H.drop
  refine wpAny_bind (fcMiss hc H hF htr hnf fun c' P' G' s' hle hF' H' => ?_)
  obtain ⟨Gt, hlet, hgt, H'⟩ := H'.frzO
  refine wpAny_bind (bltFor H' (wpAny_bind (nsGetT H' rfl ?_)))
  refine bindE (v := .none) rfl ?_
  refine newO H' (fun f s H => ?_)
  obtain ⟨o, G'', ho, hle2, hg, H⟩ := H.freeze
  cases ho
  exact hQ f _ G'' s (hle.trans (hlet.trans hle2)) hg rfl rfl rfl rfl rfl rfl rfl rfl ((hF'.le (hlet.trans hle2)).rec) ⟨_, hle2 _ _ hgt⟩ H
/-- entry of a def whose body is one expression (a lambda) -/
theorem enterE {R : Result → Shared → Prop} {a : Addr} {o : Obj} {fd : FuncData} {body : Expr} {args : Args}
    (cl : List (Str × Addr)) (cs : Nat → List (Str × Addr))
    (hA : AOk (n + 1) A) (ho : s.heap.get? a = some o) (hdata : o.data = .func fd) (hcd : s.heap.CodeRec fd.code fd.qualname)
    (hbody : fd.body = .expr body) (hnames : fd.scope.names = names) (hcode : fd.code = code) (hqual : (fd.qualname ++ ".<locals>.") = qual) (hclo : fd.closure = cl)
    (hcs : ∀ k, cellsFrom k names [] = cs k)
    (h : wpAny (model prg w) A.in1 (bindArgs fd args) (fun binds s₁ => ∃ G₁ ow₁, St w os₀ G₁ ow₁ s₁ ∧ ∀ env L A₁ A' s₂, EV env L names (cs (L + 1) ++ cl) code qual → AOk n A' → St w os₀ G₁ ((L, nsP fun _ => none) :: (cellOw (fun _ => none) (cs (L + 1)) ++ ow₁)) s₂ →
      wpAny (model prg w) A₁ (bindAll env binds) (fun _ s₃ => (∃ G₃ ow₃, St w os₀ G₃ ow₃ s₃) ∧ wpAny (model prg w) A' (eval body env) (fun v s' => R (.ok (.ret v)) s') (fun _ _ => False) s₃) (fun _ _ => False) s₂) (fun _ _ => False) s)
    (hglob : fd.globals = 3) (hbi : fd.builtins = 0)
    (hco : fd.scope.isCoroutine = false) (hgen : fd.scope.isGenerator = false) (hk : fd.scope.kind = .function) :
    codeAny (model prg w) A (.call (.ref a) args) R s := by
  subst hnames hcode hqual hclo
  refine kla_callFunE hA.room ho hdata hco hgen hbody hcd (wpAny_mono h (fun binds s₁ h₁ => ?_) fun _ _ e => e.elim)
  obtain ⟨G₁, ow₁, H₁, h₁⟩ := h₁
  refine newFnEnv H₁ fun env L s₂ he H₂ => ?_
  rw [hcs] at H₂
  refine wpAny_mono (h₁ env L _ (A.deeper env) s₂ ?_ (hA.deeper _) H₂) (fun _ s₃ h₃ => ⟨noLimit h₃.1.choose_spec.choose_spec, kla_codeExpr ?_⟩) fun _ _ e => e.elim
  · rw [he, hcs]; exact ⟨rfl, hglob, hbi, hk, rfl, rfl, rfl, rfl⟩
  · exact wpAny_mono h₃.2 (fun v s' hq => hq) fun _ _ e => e.elim
theorem nmCG {env : Env} {L c : Addr} {cs : List (Str × Addr)} {x : Str} {v : Value} {pos : Pos} {o : Obj} {Q : Value → Shared → Prop} (V : EV env L names cs code qual) (H : St w os₀ G ow s) (hm : G.get? c = some o) (ho : o.data = .cell (some v)) (h : Q v s)
    (hc : cs.lookup x = some c := by rfl) (hl : names.lookup x = some .cell := by rfl) (hd : (x == ("__debug__" : Str)) = false := by rfl) :
    wpAny (model prg w) A (eval (.Name x pos) env) Q E s :=
  wpAny_Name (wpAny_loadName_cell V.kind (V.kd hl) (V.cells ▸ hc) ⟨_, H.le _ _ hm, ho⟩ h) hd
end
noncomputable def keyI (E : List (List Str)) (r : List Str) (i : Nat) : List (Str × Nat) := (List.range i).map fun k => (Txt.lower (r.getD k Str.empty), E.idxOf (r.take (k + 1)))
theorem keyI_enc (E : List (List Str)) (r : List Str) : (keyI E r r.length).map encI = keyF E r := by
  have key : ∀ (t p : List Str), r = p ++ t → ((List.range t.length).map fun k => (Txt.lower (r.getD (p.length + k) Str.empty), E.idxOf (r.take (p.length + k + 1)))).map encI = keyA E p t := by
    intro t
    induction t with
    | nil => intro p _; rfl
    | cons x t ih =>
      intro p hp
      have h := ih (p ++ [x]) (by simp [hp])
      unfold keyA
      rw [← h, List.length_cons, List.range_succ_eq_map, List.map_cons, List.map_cons, List.map_map, List.map_map, List.map_map]
      congr 1
      · unfold encI lk
        subst hp
        have e9 : List.take (p.length + 1) (p ++ x :: t) = p ++ [x] := by
          rw [show p ++ x :: t = (p ++ [x]) ++ t by simp]
          exact List.take_left' (by simp)
        simp [List.getD_eq_getElem?_getD, e9]
      · refine List.map_congr_left fun k _ => ?_
        simp only [Function.comp, List.length_append, List.length_singleton]
        rw [show p.length + 1 + k = p.length + (k + 1) by omega]
  have := key r [] rfl
  simpa [keyI, keyF] using this
end Mine
end

section -- Pf
open PySem PySem.W PyProof.Rows PySem.W.X PySem.Calls
set_option maxRecDepth 100000
namespace Mine
/-- the names that a row of pieces comes to -/
noncomputable def stS (st : List Str) (x : Str) : List Str := if x == Str.ofString ".." then st.dropLast else if x == Str.ofString "" || x == Str.ofString "." then st else st ++ [x]
noncomputable def stF (r : List Str) : List Str := r.foldl stS []
noncomputable def pthF (a b c : Str) : Str := npF (joinF a b c)
noncomputable def okB (a b c : Str) : Bool := pathOk 4 (pthF a b c) && (nmsF 4 (pthF a b c) [] == stF [a, b, c])
noncomputable def okN (a b c : Str) : Bool := let p := joinF a b c; decide (p.length ≤ 1000) && !((Txt.slice p none (some 1)).cps.toList != sl.cps.toList) && ((Txt.slice p (some 1) (some 2)).cps.toList != sl.cps.toList) && decide ((Txt.split (Txt.slice p (some 1) none) sl).length ≤ 1000) && (Txt.split (Txt.slice p (some 1) none) sl).all (fun c => decide (c.length ≤ 100)) &&
  decide ((Builtin.Str.partsBetween (Txt.slice p (some 1) none) (Builtin.Str.occurrences (Txt.slice p (some 1) none) sl 0 (Txt.slice p (some 1) none).length ((Txt.slice p (some 1) none).length + 1)) sl.length).length ≤ 1000)
theorem PC_len : (PC.all fun a => decide (a.length ≤ 20)) = true := by decide +kernel
/-- no slash stands in it -/
noncomputable def Fe (x : Str) : Prop := 47 ∉ x.cps.toList
/-- its last sign is no slash -/
noncomputable def Le47 (x : Str) : Prop := ∃ l c, x.cps.toList = l ++ [c] ∧ c ≠ 47
theorem sl_is : sl = ⟨#[47]⟩ := by decide +kernel
theorem sl_cps : sl.cps.toList = [47] := by decide +kernel
theorem sl_len : sl.length = 1 := by decide +kernel
theorem PC_fe : ∀ x ∈ PC, 47 ∉ x.cps.toList := by decide +kernel
theorem NM_fe : ∀ x ∈ NM, 47 ∉ x.cps.toList ∧ x.cps.toList ≠ [] := by decide +kernel
theorem PC_nm : ∀ x ∈ PC, x = Str.ofString ".." ∨ (x = Str.ofString "" ∨ x = Str.ofString ".") ∨ x ∈ NM := by decide +kernel
theorem NM_in : ∀ x ∈ NM, NM.contains x = true := by decide +kernel
theorem NM_dd : ∀ x ∈ NM, (x.cps.toList == dd.cps.toList) = false := by decide +kernel
theorem cpsA (x y : Str) : (x ++ y).cps.toList = x.cps.toList ++ y.cps.toList := by rw [Str.cps_append, Array.toList_append]
theorem strE {x y : Str} (h : x.cps.toList = y.cps.toList) : x = y := Str.ext' (Array.toList_inj.mp h)
theorem lenE (x : Str) : x.cps.toList.length = x.length := by simp [Str.length]
theorem cpsB (l : List Nat) : (⟨l.toArray⟩ : Str).cps.toList = l := by simp
theorem last47 (u x : Str) (hx : Fe x) (hn : x.cps.toList ≠ []) : Le47 (u ++ x) := by
  refine ⟨u.cps.toList ++ x.cps.toList.dropLast, x.cps.toList.getLast hn, ?_, fun e => hx (e ▸ List.getLast_mem hn)⟩
  rw [cpsA, List.append_assoc, List.dropLast_concat_getLast]
theorem rf (u x : Str) (hx : Fe x) : Txt.rfind (u ++ sl ++ x) sl = (u.length : Int) := by
  have hp : (u ++ sl ++ x).cps.toList = u.cps.toList ++ 47 :: x.cps.toList := by rw [cpsA, cpsA, sl_cps, List.append_assoc]; rfl
  have hi : ∀ i, StrLaws.At (u ++ sl ++ x) sl (u ++ sl ++ x).length i ↔ (u.cps.toList ++ 47 :: x.cps.toList)[i]? = some 47 := fun i => by
    rw [← hp, sl_is]; exact StrLaws.subAt_one _ 47 i
  have h0 : (u.cps.toList ++ 47 :: x.cps.toList)[u.length]? = some 47 := by
    rw [List.getElem?_append_right (by rw [lenE]; exact Nat.le_refl _), lenE, Nat.sub_self]; rfl
  rcases StrLaws.last_spec (u ++ sl ++ x) sl with ⟨_, h⟩ | ⟨i, e, ha, hb⟩
  · exact absurd ((hi _).mpr h0) (h _)
  · have h1 : ¬ i < u.length := fun hl => hb _ hl ((hi _).mpr h0)
    have h2 : ¬ u.length < i := fun hl => by
      have := (hi i).mp ha
      rw [List.getElem?_append_right (by rw [lenE]; omega), lenE, show i - u.length = (i - u.length - 1) + 1 by omega, List.getElem?_cons_succ] at this
      exact hx (List.mem_of_getElem? this)
    have h3 : i = u.length := by omega
    unfold Txt.rfind
    rw [e, h3]
theorem spT (u x : Str) (hx : Fe x) : splitT (u ++ sl ++ x) = x := by
  unfold splitT
  rw [rf u x hx]
  have hp : (u ++ sl ++ x).cps.toList = (u.cps.toList ++ [47]) ++ x.cps.toList := by rw [cpsA, cpsA, sl_cps]
  have hl : (u.cps.toList ++ [47]).length = u.length + 1 := by rw [List.length_append, lenE]; rfl
  refine (StrLaws.sliceText_from (x := u ++ sl ++ x) (i := (u.length : Int) + 1) ⟨by omega, ?_⟩).trans ?_
  · rw [hp, List.length_append, hl]; omega
  · rw [hp, show ((u.length : Int) + 1).toNat = u.length + 1 by omega, ← hl, List.drop_left]
    apply strE
    rw [cpsB]
    exact List.take_of_length_le (by rw [List.length_append, hl]; omega)
theorem spH (u x : Str) (hx : Fe x) : splitH (u ++ sl ++ x) = u ++ sl := by
  unfold splitH
  rw [rf u x hx]
  have hp : (u ++ sl ++ x).cps.toList = (u ++ sl).cps.toList ++ x.cps.toList := cpsA _ _
  have hl : (u ++ sl).cps.toList.length = u.length + 1 := by rw [lenE, Str.length_append, sl_len]
  refine (StrLaws.sliceText_to (x := u ++ sl ++ x) (j := (u.length : Int) + 1) ⟨by omega, ?_⟩).trans ?_
  · rw [hp, List.length_append, hl]; omega
  · rw [hp, List.drop_zero, show ((u.length : Int) + 1 - 0).toNat = u.length + 1 by omega, ← hl, List.take_left]
theorem spF0 (x : Str) (hx : Fe x) : splitF (sl ++ x) = sl := by
  have h := spH Str.empty x hx
  rw [Str.empty_append] at h
  unfold splitF
  rw [h]
  decide +kernel
theorem mem_fold (c : Nat) (x : Array Nat) : ∀ (n : Nat) (acc : Array Nat), c ∈ ((List.replicate n x).foldl (· ++ ·) acc).toList → c ∈ acc.toList ∨ c ∈ x.toList
  | 0, _, h => .inl h
  | n + 1, acc, h => by
    rw [List.replicate_succ, List.foldl_cons] at h
    rcases mem_fold c x n _ h with h | h
    · rw [Array.toList_append] at h
      exact List.mem_append.mp h
    · exact .inr h
theorem mem_mul {c : Nat} {x : Str} {n : Int} (h : c ∈ (Txt.mul x n).cps.toList) : c ∈ x.cps.toList := by
  unfold Txt.mul at h
  split at h
  · exact absurd h (by simp [Str.empty])
  · split at h
    · exact h
    · exact (mem_fold c x.cps _ _ h).resolve_left (by simp)
theorem spF1 (u x : Str) (hu : Le47 u) (hx : Fe x) : splitF (u ++ sl ++ x) = u := by
  obtain ⟨l, c, e, hc⟩ := hu
  unfold splitF
  rw [spH u x hx]
  have h1 : (((u ++ sl).length : Int) != 0 && (u ++ sl).cps.toList != (Txt.mul sl (u ++ sl).length).cps.toList) = true := by
    rw [Bool.and_eq_true, bne_iff_ne, bne_iff_ne]
    refine ⟨by rw [Str.length_append, sl_len]; omega, fun q => ?_⟩
    have : c ∈ (u ++ sl).cps.toList := by rw [cpsA, e]; simp
    rw [q] at this
    have := mem_mul this
    rw [sl_cps] at this
    exact hc (by simpa using this)
  rw [if_pos h1]
  unfold Txt.rstripChars
  rw [PyProof.Rows.stripBy_eq]
  apply strE
  rw [StrLaws.strSub_toList, show stripLo sl.cps.contains false (u ++ sl) = 0 from rfl]
  have h2 : stripHi sl.cps.contains true (u ++ sl) 0 = u.length := by
    show (u ++ sl).length - (((u ++ sl).cps.toList.drop 0).reverse.takeWhile sl.cps.contains).length = _
    have h3 : (((u ++ sl).cps.toList.drop 0).reverse.takeWhile sl.cps.contains).length = 1 := by
      have q1 : sl.cps.contains 47 = true := by decide +kernel
      have q2 : sl.cps.contains c = false := by
        rw [sl_is]; simpa using hc
      rw [List.drop_zero, cpsA, sl_cps, e]
      rw [List.reverse_append, List.reverse_append]
      show (List.takeWhile sl.cps.contains (47 :: c :: l.reverse)).length = 1
      rw [List.takeWhile_cons_of_pos q1, List.takeWhile_cons_of_neg (by rw [q2]; exact Bool.false_ne_true)]; rfl
    rw [h3, Str.length_append, sl_len]; omega
  rw [h2, cpsA, List.drop_zero, Nat.sub_zero, ← lenE, List.take_left]
/-- /x1/x2/.. -/
noncomputable def cat : List Str → Str
  | [] => Str.empty
  | x :: r => sl ++ x ++ cat r
theorem cat_snoc : ∀ (l : List Str) (x : Str), cat (l ++ [x]) = cat l ++ sl ++ x
  | [], x => by show sl ++ x ++ Str.empty = Str.empty ++ sl ++ x; rw [Str.append_empty, Str.empty_append]
  | y :: r, x => by
    show sl ++ y ++ cat (r ++ [x]) = sl ++ y ++ cat r ++ sl ++ x
    rw [cat_snoc r x]; simp only [Str.append_assoc]
theorem cat_join : ∀ (l : List Str) (x : Str), cat (x :: l) = sl ++ Str.join sl (x :: l)
  | [], x => by show sl ++ x ++ Str.empty = sl ++ x; rw [Str.append_empty]
  | y :: r, x => by
    show sl ++ x ++ cat (y :: r) = sl ++ (x ++ sl ++ Str.join sl (y :: r))
    rw [cat_join r y]; simp only [Str.append_assoc]
theorem cat_len (k : Nat) : ∀ l : List Str, (∀ x ∈ l, x.length ≤ k) → (cat l).length ≤ (k + 1) * l.length
  | [], _ => Nat.zero_le _
  | x :: r, h => by
    show (sl ++ x ++ cat r).length ≤ (k + 1) * (r.length + 1)
    have h1 := cat_len k r fun y hy => h y (.tail _ hy)
    have h2 := h x (.head _)
    rw [Str.length_append, Str.length_append, sl_len, Nat.mul_add]
    omega
theorem npF_cat (p : Str) : (Txt.split (Txt.slice p (some 1) none) sl).foldl npS [] = [] ∧ npF p = sl ∨ (Txt.split (Txt.slice p (some 1) none) sl).foldl npS [] ≠ [] ∧ npF p = cat ((Txt.split (Txt.slice p (some 1) none) sl).foldl npS []) := by
  unfold npF Txt.join
  rw [StrLaws.glued_eq_join]
  cases (Txt.split (Txt.slice p (some 1) none) sl).foldl npS [] with
  | nil => exact .inl ⟨rfl, Str.append_empty _⟩
  | cons x r => exact .inr ⟨List.cons_ne_nil _ _, (cat_join r x).symm⟩
/-- cutting at the slashes gives the parts back -/
theorem cut_uniq : ∀ {a b m n : List Nat}, 47 ∉ a → 47 ∉ b → a ++ 47 :: m = b ++ 47 :: n → a = b ∧ m = n
  | [], [], _, _, _, _, h => ⟨rfl, (List.cons.inj h).2⟩
  | [], y :: b, _, _, _, hb, h => absurd ((List.cons.inj h).1 ▸ List.Mem.head _ : 47 ∈ y :: b) hb
  | x :: a, [], _, _, ha, _, h => absurd ((List.cons.inj h).1.symm ▸ List.Mem.head _ : 47 ∈ x :: a) ha
  | x :: a, y :: b, _, _, ha, hb, h => by
    obtain ⟨h1, h2⟩ := List.cons.inj h
    obtain ⟨h3, h4⟩ := cut_uniq (fun q => ha (.tail _ q)) (fun q => hb (.tail _ q)) h2
    exact ⟨by rw [h1, h3], h4⟩
theorem join_cps (x y : Str) (r : List Str) : (Str.join sl (x :: y :: r)).cps.toList = x.cps.toList ++ 47 :: (Str.join sl (y :: r)).cps.toList := by
  show (x ++ sl ++ Str.join sl (y :: r)).cps.toList = _
  rw [cpsA, cpsA, sl_cps, List.append_assoc]; rfl
theorem join_uniq : ∀ {x y : Str} {l m : List Str}, (∀ z ∈ x :: l, Fe z) → (∀ z ∈ y :: m, Fe z) → Str.join sl (x :: l) = Str.join sl (y :: m) → x :: l = y :: m
  | x, y, [], [], _, _, h => by have : x = y := h; rw [this]
  | x, y, [], z :: m, hx, _, h => by
    have e : x.cps.toList = (Str.join sl (y :: z :: m)).cps.toList := congrArg (fun s : Str => s.cps.toList) (h : x = _)
    rw [join_cps] at e
    exact absurd (by rw [e]; simp) (hx x (.head _))
  | x, y, z :: l, [], _, hy, h => by
    have e : (Str.join sl (x :: z :: l)).cps.toList = y.cps.toList := congrArg (fun s : Str => s.cps.toList) (h : _ = y)
    rw [join_cps] at e
    exact absurd (by rw [← e]; simp) (hy y (.head _))
  | x, y, z :: l, w :: m, hx, hy, h => by
    have e := congrArg (fun s : Str => s.cps.toList) h
    simp only [join_cps] at e
    obtain ⟨e1, e2⟩ := cut_uniq (hx x (.head _)) (hy y (.head _)) e
    rw [strE e1, join_uniq (fun q hq => hx q (.tail _ hq)) (fun q hq => hy q (.tail _ hq)) (strE e2)]
theorem split_join (x : Str) (l : List Str) (h : ∀ z ∈ x :: l, Fe z) : Txt.split (Str.join sl (x :: l)) sl = x :: l := by
  have h1 := StrLaws.join_split (Str.join sl (x :: l)) sl
  have h2 : ∀ z ∈ Txt.split (Str.join sl (x :: l)) sl, Fe z := fun z hz => by
    rw [sl_is] at hz; exact StrLaws.split_free _ 47 z hz
  have h3 := split_pos (Str.join sl (x :: l)) sl
  cases q : Txt.split (Str.join sl (x :: l)) sl with
  | nil => rw [q] at h3; exact absurd h3 (by decide)
  | cons y m =>
    rw [q] at h1 h2
    exact join_uniq h2 h h1
theorem slice1 (x : Str) : Txt.slice (sl ++ x) (some 1) none = x := by
  have hp : (sl ++ x).cps.toList = 47 :: x.cps.toList := by rw [cpsA, sl_cps]; rfl
  refine (StrLaws.sliceText_from (x := sl ++ x) (i := 1) ⟨by omega, ?_⟩).trans ?_
  · rw [hp, List.length_cons]; omega
  · rw [hp]
    apply strE
    rw [cpsB]
    exact List.take_of_length_le (by simp)
theorem split_cat (x : Str) (l : List Str) (h : ∀ z ∈ x :: l, Fe z) : Txt.split (Txt.slice (cat (x :: l)) (some 1) none) sl = x :: l := by
  rw [cat_join, slice1, split_join x l h]
/-- normpath's turn is the plain one, on the names -/
theorem NM_c : ∀ x ∈ NM, ((x.length : Int) != 0) = true ∧ (x.cps.toList == dt.cps.toList) = false ∧ (x.cps.toList != dd.cps.toList) = true ∧ (x == Str.ofString "..") = false ∧ (x == Str.ofString "" || x == Str.ofString ".") = false := by decide +kernel
theorem npS_stS {nc : List Str} {c : Str} (h : ∀ z ∈ nc, z ∈ NM) (hc : c ∈ PC) : npS nc c = stS nc c := by
  unfold npS stS
  rcases PC_nm c hc with rfl | (rfl | rfl) | hn
  · rw [if_neg (by decide +kernel), if_neg (by decide +kernel), if_neg (by decide +kernel), if_pos (by decide +kernel)]
    cases q : nc.getLast? with
    | none => rw [List.getLast?_eq_none_iff.mp q]; rfl
    | some z => exact if_neg (by rw [NM_dd z (h z (List.mem_of_getLast? q))]; exact Bool.false_ne_true)
  · rw [if_pos (by decide +kernel), if_neg (by decide +kernel), if_pos (by decide +kernel)]
  · rw [if_neg (by decide +kernel), if_pos (by decide +kernel), if_neg (by decide +kernel), if_pos (by decide +kernel)]
  · obtain ⟨h1, h2, h3, h4, h5⟩ := NM_c c hn
    rw [h1, h2, h3, h4, h5]; rfl
theorem stS_NM {nc : List Str} {c : Str} (h : ∀ z ∈ nc, z ∈ NM) (hc : c ∈ PC) : (∀ z ∈ stS nc c, z ∈ NM) ∧ (stS nc c).length ≤ nc.length + 1 := by
  unfold stS
  rcases PC_nm c hc with rfl | h1 | hn
  · rw [if_pos (by decide +kernel)]
    exact ⟨fun z hz => h z (List.dropLast_subset _ hz), by rw [List.length_dropLast]; omega⟩
  · have e : (c == Str.ofString "" || c == Str.ofString ".") = true := by rcases h1 with rfl | rfl <;> decide +kernel
    have e' : (c == Str.ofString "..") = false := by rcases h1 with rfl | rfl <;> decide +kernel
    rw [e, e']
    exact ⟨h, Nat.le_succ _⟩
  · obtain ⟨_, _, _, h4, h5⟩ := NM_c c hn
    rw [h4, h5]
    refine ⟨fun z hz => ?_, by simp⟩
    rcases List.mem_append.mp hz with hz | hz
    · exact h z hz
    · rw [List.mem_singleton.mp hz]; exact hn
theorem fold_np : ∀ (l nc : List Str), (∀ z ∈ nc, z ∈ NM) → (∀ z ∈ l, z ∈ PC) → l.foldl npS nc = l.foldl stS nc ∧ (∀ z ∈ l.foldl stS nc, z ∈ NM) ∧ (l.foldl stS nc).length ≤ nc.length + l.length
  | [], nc, h, _ => ⟨rfl, h, Nat.le_refl _⟩
  | c :: l, nc, h, hl => by
    have hc := hl c (.head _)
    obtain ⟨h1, h2⟩ := stS_NM h hc
    obtain ⟨h3, h4, h5⟩ := fold_np l (stS nc c) h1 fun z hz => hl z (.tail _ hz)
    rw [List.foldl_cons, List.foldl_cons, npS_stS h hc]
    exact ⟨h3, h4, by rw [List.length_cons]; omega⟩
theorem stS_nil (nc : List Str) {x : Str} (h : x.length = 0) : stS nc x = nc := by
  rw [empty_of_len h]
  unfold stS
  rw [if_neg (by decide +kernel), if_pos (by decide +kernel)]
/-- join -/
theorem noSt {b : Str} (h : Fe b) : Txt.startswith b sl = false := by
  rw [Bool.eq_false_iff]
  intro q
  unfold Txt.startswith at q
  rw [Bool.and_eq_true, decide_eq_true_eq, sl_is] at q
  exact h (List.mem_of_getElem? ((StrLaws.subAt_one b 47 0).mp q))
theorem end_iff (x : Str) (hn : 0 < x.length) : Txt.endswith x sl = true ↔ x.cps.toList[x.length - 1]? = some 47 := by
  rw [← StrLaws.subAt_one x 47 (x.length - 1)]
  unfold Txt.endswith
  rw [Bool.and_eq_true, decide_eq_true_eq, sl_is]
  show 0 + 1 ≤ x.length ∧ _ ↔ x.length - 1 + 1 ≤ x.length ∧ _
  constructor
  · exact fun h => ⟨by omega, h.2⟩
  · exact fun h => ⟨by omega, h.2⟩
theorem joinS_cat (l : List Str) (x b : Str) (hx : Fe x) (hb : Fe b) : joinS (cat l ++ sl ++ x) b = cat (if x.length = 0 then l else l ++ [x]) ++ sl ++ b := by
  have hl : (cat l ++ sl ++ x).length = (cat l).length + 1 + x.length := by rw [Str.length_append, Str.length_append, sl_len]
  unfold joinS
  rw [noSt hb, if_neg Bool.false_ne_true, if_neg (by rw [hl, Bool.not_eq_false, bne_iff_ne]; omega)]
  by_cases hz : x.length = 0
  · have e : x = Str.empty := empty_of_len hz
    rw [if_pos hz, if_pos]
    · rw [e, Str.append_empty]
    · rw [end_iff _ (by omega), e, Str.append_empty, Str.length_append, sl_len, cpsA, sl_cps, List.getElem?_append_right (by rw [lenE]; omega), lenE]
      rw [show (cat l).length + 1 - 1 - (cat l).length = 0 by omega]; rfl
  · rw [if_neg hz, if_neg, cat_snoc]
    · simp only [Str.append_assoc]
    · rw [end_iff _ (by omega)]
      have hn : x.cps.toList ≠ [] := fun q => hz (by rw [← lenE, q]; rfl)
      obtain ⟨m, c, e, hc⟩ := last47 (cat l ++ sl) x hx hn
      intro q
      have hm : (cat l ++ sl ++ x).length = m.length + 1 := by rw [← lenE, e]; simp
      rw [e, hm, Nat.add_sub_cancel, List.getElem?_append_right (Nat.le_refl _), Nat.sub_self] at q
      exact hc (by simpa using q)
noncomputable def keepL (l : List Str) (x : Str) : List Str := if x.length = 0 then l else l ++ [x]
theorem joinF_cat {a b c : Str} (ha : Fe a) (hb : Fe b) (hc : Fe c) : joinF a b c = cat (keepL (keepL [] a) b ++ [c]) := by
  have h0 : joinS sl a = cat [] ++ sl ++ a := by
    have h := joinS_cat [] Str.empty a (by simp [Fe, Str.empty]) ha
    rw [if_pos (show Str.empty.length = 0 from rfl), Str.append_empty] at h
    rw [← h]; exact congrArg (fun p => joinS p a) (Str.empty_append sl).symm
  unfold joinF
  rw [h0, joinS_cat _ _ _ ha hb, joinS_cat _ _ _ hb hc, cat_snoc]; rfl
theorem keep_fold (l : List Str) (x : Str) (nc : List Str) : (keepL l x).foldl stS nc = (l ++ [x]).foldl stS nc := by
  unfold keepL
  split
  · rename_i h; rw [List.foldl_append, List.foldl_cons, stS_nil _ h]; rfl
  · rfl
theorem keep_all {l : List Str} {x : Str} {P : Str → Prop} (h : ∀ z ∈ l, P z) (hx : x.length ≠ 0 → P x) : ∀ z ∈ keepL l x, P z := by
  unfold keepL
  split
  · exact h
  · rename_i q
    exact List.forall_mem_append.mpr ⟨h, fun z hz => List.mem_singleton.mp hz ▸ hx q⟩
theorem keep_len (l : List Str) (x : Str) : (keepL l x).length ≤ l.length + 1 := by
  unfold keepL
  split
  · omega
  · simp
/-- the path of a row of names -/
noncomputable def pth (ns : List Str) : Str := match ns with | [] => sl | x :: r => cat (x :: r)
theorem pth_snoc (l : List Str) (x : Str) : pth (l ++ [x]) = cat l ++ sl ++ x := by
  rw [← cat_snoc]
  cases l <;> rfl
theorem pth_step {l : List Str} {x : Str} (h : ∀ z ∈ l ++ [x], z ∈ NM) : splitT (pth (l ++ [x])) = x ∧ splitF (pth (l ++ [x])) = pth l ∧ ((pth (l ++ [x])).cps.toList == sl.cps.toList) = false := by
  have hx := NM_fe x (h x (by simp))
  rw [pth_snoc]
  refine ⟨spT _ _ hx.1, ?_, ?_⟩
  · rcases List.eq_nil_or_concat l with rfl | ⟨m, y, rfl⟩
    · show splitF (Str.empty ++ sl ++ x) = sl
      rw [Str.empty_append]; exact spF0 x hx.1
    · have hy := NM_fe y (h y (by simp))
      rw [List.concat_eq_append, pth_snoc]
      refine (spF1 _ _ ?_ hx.1).trans (cat_snoc m y)
      rw [cat_snoc]
      exact last47 _ y hy.1 hy.2
  · rw [Bool.eq_false_iff]
    intro q
    have := congrArg List.length (eq_of_beq q)
    rw [lenE, lenE, Str.length_append, Str.length_append, sl_len, ← lenE x] at this
    have := List.length_pos_iff.mpr hx.2
    omega
theorem pth_len {ns : List Str} (h : ∀ z ∈ ns, z ∈ NM) (hl : ns.length ≤ 4) : (pth ns).length ≤ 1000 := by
  have h1 := cat_len 10 ns fun z hz => (NM_ok z (h z hz)).2
  cases ns with
  | nil => show sl.length ≤ 1000; rw [sl_len]; omega
  | cons x r => show (cat (x :: r)).length ≤ 1000; omega
theorem pth_names : ∀ (k : Nat) (ns acc : List Str), (∀ z ∈ ns, z ∈ NM) → ns.length ≤ k → k ≤ 4 → pathOk k (pth ns) = true ∧ nmsF k (pth ns) acc = ns ++ acc
  | 0, ns, acc, h, hl, _ => by
    have : ns = [] := List.length_eq_zero_iff.mp (by omega)
    subst this
    exact ⟨by decide +kernel, rfl⟩
  | k + 1, ns, acc, h, hl, hk => by
    rcases List.eq_nil_or_concat ns with rfl | ⟨m, x, rfl⟩
    · refine ⟨?_, ?_⟩
      · show (sl.cps.toList == sl.cps.toList || _) = true
        rw [beq_self_eq_true]; rfl
      · show (if (sl.cps.toList != sl.cps.toList) = true then _ else acc) = acc
        rw [bne_self_eq_false]; rfl
    · rw [List.concat_eq_append] at *
      obtain ⟨h1, h2, h3⟩ := pth_step h
      have hm : ∀ z ∈ m, z ∈ NM := fun z hz => h z (List.mem_append_left _ hz)
      rw [List.length_append] at hl
      have hl' : m.length ≤ k := by simpa using hl
      obtain ⟨i1, _⟩ := pth_names k m acc hm hl' (by omega)
      obtain ⟨_, i2⟩ := pth_names k m (x :: acc) hm hl' (by omega)
      refine ⟨?_, ?_⟩
      · show ((pth (m ++ [x])).cps.toList == sl.cps.toList || (decide ((pth (m ++ [x])).length ≤ 1000) && NM.contains (splitT (pth (m ++ [x]))) && pathOk k (splitF (pth (m ++ [x]))))) = true
        rw [h1, h2, i1, NM_in x (h x (by simp)), decide_eq_true (pth_len h (by rw [List.length_append]; simp; omega))]
        exact Bool.or_true _
      · show (if ((pth (m ++ [x])).cps.toList != sl.cps.toList) = true then nmsF k (splitF (pth (m ++ [x]))) (splitT (pth (m ++ [x])) :: acc) else acc) = _
        rw [if_pos (by rw [bne, h3]; rfl), h1, h2, i2, List.append_assoc]; rfl
theorem slice01 (x : Str) : Txt.slice (sl ++ x) none (some 1) = sl := by
  have hp : (sl ++ x).cps.toList = 47 :: x.cps.toList := by rw [cpsA, sl_cps]; rfl
  refine (StrLaws.sliceText_to (x := sl ++ x) (j := 1) ⟨by omega, ?_⟩).trans ?_
  · rw [hp, List.length_cons]; omega
  · rw [hp]
    apply strE
    rw [cpsB, sl_cps]; rfl
theorem slice12 (x : Str) (h : x.cps.toList[0]? ≠ some 47) : ((Txt.slice (sl ++ x) (some 1) (some 2)).cps.toList != sl.cps.toList) = true := by
  have hp : (sl ++ x).cps.toList = 47 :: x.cps.toList := by rw [cpsA, sl_cps]; rfl
  cases q : x.cps.toList with
  | nil =>
    have : x = Str.empty := strE q
    rw [this, Str.append_empty]; decide +kernel
  | cons k r =>
    rw [q] at h hp
    have e : Txt.slice (sl ++ x) (some 1) (some 2) = ⟨#[k]⟩ := by
      refine (StrLaws.sliceText_plain (x := sl ++ x) (i := 1) (j := 2) ⟨by omega, by omega, ?_⟩).trans ?_
      · rw [hp]; simp only [List.length_cons]; omega
      · rw [hp]; rfl
    rw [e, sl_cps, bne_iff_ne]
    intro q'
    exact h (by simpa using q')
theorem path_ok {a b c : Str} (ha : a ∈ PC) (hb : b ∈ PC) (hc : c ∈ PC) : okB a b c = true ∧ okN a b c = true := by
  have hj := joinF_cat (PC_fe a ha) (PC_fe b hb) (PC_fe c hc)
  have hL : ∀ z ∈ keepL (keepL [] a) b ++ [c], z ∈ PC :=
    List.forall_mem_append.mpr ⟨keep_all (keep_all (fun _ h => absurd h List.not_mem_nil) fun _ => ha) fun _ => hb, fun z hz => List.mem_singleton.mp hz ▸ hc⟩
  have hN : ∀ z ∈ keepL (keepL [] a) b, z.length ≠ 0 := keep_all (keep_all (fun _ h => absurd h List.not_mem_nil) fun q => q) fun q => q
  have hn : (keepL (keepL [] a) b ++ [c]).length ≤ 3 := by
    have h1 := keep_len [] a
    have h2 := keep_len (keepL [] a) b
    rw [List.length_append]; simp at h1 ⊢; omega
  have hf : (keepL (keepL [] a) b ++ [c]).foldl stS [] = stF [a, b, c] := by
    rw [List.foldl_append, keep_fold, List.foldl_append, keep_fold]; rfl
  have hlen := fun z hz => of_decide_eq_true (List.all_eq_true.mp PC_len z (hL z hz))
  have hcat := cat_len 20 _ hlen
  obtain ⟨x, l, e⟩ : ∃ x l, keepL (keepL [] a) b ++ [c] = x :: l := List.exists_cons_of_ne_nil (by simp)
  have hs : Txt.split (Txt.slice (joinF a b c) (some 1) none) sl = keepL (keepL [] a) b ++ [c] := by
    rw [hj, e]; exact split_cat x l fun z hz => PC_fe z (hL z (e ▸ hz))
  obtain ⟨f1, f2, f3⟩ := fold_np (keepL (keepL [] a) b ++ [c]) [] (fun _ h => absurd h List.not_mem_nil) hL
  rw [hf] at f1 f2 f3
  have hp : pthF a b c = pth (stF [a, b, c]) := by
    unfold pthF
    have := npF_cat (joinF a b c)
    rw [hs, f1] at this
    rcases this with ⟨h1, h2⟩ | ⟨h1, h2⟩
    · rw [h2, h1]; rfl
    · rw [h2]
      cases q : stF [a, b, c] with
      | nil => exact absurd q h1
      | cons y r => rfl
  refine ⟨?_, ?_⟩
  · unfold okB
    obtain ⟨g1, g2⟩ := pth_names 4 (stF [a, b, c]) [] f2 (by rw [List.length_nil] at f3; omega) (Nat.le_refl _)
    rw [hp, g1, g2, List.append_nil, beq_self_eq_true]; rfl
  · unfold okN
    have hq : joinF a b c = sl ++ Str.join sl (x :: l) := by rw [hj, e, cat_join]
    have hlj : (joinF a b c).length ≤ 63 := by rw [hj]; omega
    have hls := Nat.le_trans (Txt.slice_le (joinF a b c) (some 1) none) hlj
    have h12 : (Str.join sl (x :: l)).cps.toList[0]? ≠ some 47 := by
      intro q
      cases l with
      | nil => exact PC_fe x (hL x (by rw [e]; exact .head _)) (List.mem_of_getElem? q)
      | cons y r =>
        have hx : x.length ≠ 0 := by
          cases k : keepL (keepL [] a) b with
          | nil => rw [k] at e; simp at e
          | cons z w => rw [k] at e; exact (List.cons.inj e).1 ▸ hN z (by rw [k]; exact .head _)
        rw [join_cps, List.getElem?_append_left (by rw [lenE]; omega)] at q
        exact PC_fe x (hL x (by rw [e]; exact .head _)) (List.mem_of_getElem? q)
    simp only [hs]
    rw [decide_eq_true (show (joinF a b c).length ≤ 1000 by omega), decide_eq_true (show (keepL (keepL [] a) b ++ [c]).length ≤ 1000 by omega), decide_eq_true (show _ ≤ 1000 from ?_), hq, slice01, slice12 _ h12, bne_self_eq_false]
    · rw [List.all_eq_true.mpr fun z hz => decide_eq_true (Nat.le_trans (hlen z hz) (by omega))]; rfl
    · rw [len_partsBetween]
      have := StrLaws.occ_length_le (Txt.slice (joinF a b c) (some 1) none) sl 0 (Txt.slice (joinF a b c) (some 1) none).length ((Txt.slice (joinF a b c) (some 1) none).length + 1)
      omega
end Mine
end

section -- Pu5
open PySem PySem.W PyProof.Rows PySem.W.X PySem.Calls
set_option linter.unusedVariables false
set_option linter.unusedSimpArgs false
set_option maxRecDepth 100000
set_option maxHeartbeats 4000000
namespace Mine
theorem strBeq (x y : Str) : (x == y) = (x.cps.toList == y.cps.toList) := by
  obtain ⟨⟨a⟩⟩ := x
  obtain ⟨⟨b⟩⟩ := y
  show decide ((⟨⟨a⟩⟩ : Str) = ⟨⟨b⟩⟩) = (a == b)
  by_cases h : a = b
  · subst h; simp
  · have : ¬ ((⟨⟨a⟩⟩ : Str) = ⟨⟨b⟩⟩) := fun q => h (by injection q with q; injection q)
    rw [decide_eq_false this]
    exact (beq_eq_false_iff_ne.mpr h).symm
noncomputable def everyF (rows : List (List Str)) : List (List Str) := (rows.map stF).foldl laidF [[]]
theorem everyF_snoc (rows : List (List Str)) (r : List Str) : everyF (rows ++ [r]) = laidF (everyF rows) (stF r) := by
  unfold everyF; rw [List.map_append, List.foldl_append]; rfl
theorem stS_len (st : List Str) (x : Str) : (stS st x).length ≤ st.length + 1 := by
  unfold stS
  split
  · simp; omega
  · split
    · omega
    · simp
theorem stF_len' : ∀ (r st : List Str), (r.foldl stS st).length ≤ st.length + r.length
  | [], st => by simp
  | x :: r, st => by
    have h1 := stF_len' r (stS st x)
    have h2 := stS_len st x
    simp only [List.foldl_cons, List.length_cons]
    omega
theorem stF_len (r : List Str) : (stF r).length ≤ r.length := by
  have := stF_len' r []
  simpa [stF] using this
theorem PC_NM : ∀ x ∈ PC, x = Str.ofString ".." ∨ x = Str.ofString "" ∨ x = Str.ofString "." ∨ x ∈ NM := by decide +kernel
theorem stS_good {st : List Str} {x : Str} (h : GR st) (hx : x ∈ PC) : GR (stS st x) := by
  unfold stS
  split
  · exact fun y hy => h y ((List.dropLast_sublist _).subset hy)
  · rename_i h1
    split
    · exact h
    · rename_i h2
      intro y hy
      rcases List.mem_append.mp hy with hy | hy
      · exact h y hy
      · rw [List.mem_singleton] at hy
        subst hy
        rcases PC_NM y hx with rfl | rfl | rfl | h
        · simp at h1
        · simp at h2
        · simp at h2
        · exact h
theorem stF_good' : ∀ (r st : List Str), GR st → (∀ x ∈ r, x ∈ PC) → GR (r.foldl stS st)
  | [], st, h, _ => h
  | x :: r, st, h, hp => stF_good' r _ (stS_good h (hp x (.head _))) fun y hy => hp y (.tail _ hy)
theorem stF_good {r : List Str} (hp : ∀ x ∈ r, x ∈ PC) : GR (stF r) := stF_good' r [] nofun hp
theorem everyF_GE {rows : List (List Str)} (hp : ∀ r ∈ rows, r.length ≤ 3 ∧ ∀ x ∈ r, x ∈ PC) : GE (everyF rows) := by
  refine fold_GE _ _ GE0 fun N hN => ?_
  obtain ⟨r, hr, rfl⟩ := List.mem_map.mp hN
  exact ⟨stF_good (hp r hr).2, Nat.le_trans (stF_len r) (hp r hr).1⟩
theorem fold_len : ∀ (ns : List (List Str)) (E : List (List Str)), (∀ N ∈ ns, N.length ≤ 3) → (ns.foldl laidF E).length ≤ E.length + 3 * ns.length
  | [], E, _ => by simp
  | N :: ns, E, h => by
    have h1 := fold_len ns (laidF E N) fun M hM => h M (.tail _ hM)
    have h2 := laidF_len E N
    have h3 := h N (.head _)
    simp only [List.foldl_cons, List.length_cons]
    omega
theorem everyF_len {rows : List (List Str)} (hp : ∀ r ∈ rows, r.length ≤ 3 ∧ ∀ x ∈ r, x ∈ PC) : (everyF rows).length ≤ 1 + 3 * rows.length := by
  have := fold_len (rows.map stF) [[]] fun N hN => by
    obtain ⟨r, hr, rfl⟩ := List.mem_map.mp hN
    exact Nat.le_trans (stF_len r) (hp r hr).1
  simpa [everyF] using this
theorem any_fresh {E : List (List Str)} {N : List Str} {i : Nat} (hi : i < N.length) : ((E ++ freshF E N i).any fun y => y == N.take (i + 1)) = (E.any fun y => y == N.take (i + 1)) := by
  rw [List.any_append]
  have : ((freshF E N i).any fun y => y == N.take (i + 1)) = false := by
    rw [List.any_eq_false]
    intro y hy e
    obtain ⟨_, k, hk, rfl⟩ := mem_fresh.mp hy
    rw [beq_iff_eq] at e
    have := congrArg List.length e
    rw [List.length_take, List.length_take] at this
    omega
  rw [this, Bool.or_false]
end Mine
end

section -- S10
open PySem PySem.W PyProof.Rows PySem.W.X PySem.Calls
set_option linter.unusedVariables false
set_option maxRecDepth 100000
set_option maxHeartbeats 2000000
namespace Mine
noncomputable def sgT : List (Str × Str) := [(Str.ofString "&", Str.ofString "amp"), (Str.ofString "<", Str.ofString "lt"), (Str.ofString ">", Str.ofString "gt"), (Str.ofString "\"", Str.ofString "quot"), (Str.ofString "\r", Str.ofString "#13"), (Str.ofString "\n", Str.ofString "#10"), (Str.ofString "\t", Str.ofString "#09")]
noncomputable def sgF (c : Str) : Str := match sgT.lookup c with
  | some y => Str.ofString "&" ++ y ++ Str.ofString ";"
  | none => c
noncomputable def oneS (c : Nat) : Str := ⟨#[c]⟩
noncomputable def splF (x : Str) : Str := Txt.join (Str.ofString "") (x.cps.toList.map fun c => sgF (oneS c))
theorem spl_ok : ∀ x ∈ Str.empty :: NM, splF x = escF x ∧ x.cps.all (· < 128) = true ∧ Nat.ble x.cps.size 10 = true ∧ JoinOk (Str.ofString "") (x.cps.toList.map fun c => sgF (oneS c)) = true := by decide +kernel
/-- what the dict of the signs holds at a text -/
theorem sg_at {kvs : List (Str × Value)} (t : List Tok) (h : kvs = (sgT.zip t).map fun p => (p.1.1, .str p.1.2 p.2)) (ht : t.length = 7) (c : Str) : match sgT.lookup c with
    | some y => ∃ u, valueAt kvs c = some (.str y u)
    | none => valueAt kvs c = none := by
  subst h
  match t, ht with
  | [t1, t2, t3, t4, t5, t6, t7], _ =>
    show match List.lookup c sgT with
      | some y => ∃ u, (List.find? (fun kv : Str × Value => decide (kv.1 = c)) _).map (·.2) = some (.str y u)
      | none => (List.find? (fun kv : Str × Value => decide (kv.1 = c)) _).map (·.2) = none
    simp only [sgT, List.zip_cons_cons, List.zip_nil_right, List.map_cons, List.map_nil, List.lookup_cons, List.lookup_nil, List.find?_cons, List.find?_nil]
    have e : ∀ a : Str, decide (a = c) = (c == a) := fun a => by
      rw [Bool.eq_iff_iff, decide_eq_true_eq, beq_iff_eq]; exact eq_comm
    simp only [e]
    repeat' split
    all_goals first | exact ⟨_, rfl⟩ | rfl | simp_all
noncomputable def strIt (x : Str) (t : Tok) (i : Nat) (o : Obj) : Prop := o.cls = .type "str_ascii_iterator" ∧ o.data = .fields #[.str x t, .int i 0]
section
variable {w : World} {os₀ : OsState} {G : Heap} {ow : Ow} {s : Shared} {A : Around} {n : Nat} {E : Value → Shared → Prop}
theorem srcStr {G₀ : Heap} {it : Addr} {x : Str} {t : Tok} : Src w os₀ G₀ it x.cps.size (fun i v => ∃ u c, v = .str (oneS c) u ∧ x.cps[i]? = some c) (strIt x t) where
  next := fun {A n G ow s i Q E} hA hle hi H h => by
    obtain ⟨o, ho, h1, h2⟩ := H.own _ (.head _)
    exact wpAny_pyNext_ascii_item ⟨o, ho, h1, h2⟩ (Array.getElem?_eq_getElem hi) fun h' hit hs => h _ _ ⟨_, _, rfl, Array.getElem?_eq_getElem hi⟩ (H.upd (t := s.toks + 1) hs hit)
  over := fun {A n G ow s Q E} hA hle H h => by
    obtain ⟨o, ho, h1, h2⟩ := H.own _ (.head _)
    exact wpAny_pyNext_ascii_end hA.handled ⟨o, ho, h1, h2⟩ (Array.getElem?_eq_none (Nat.le_refl _)) fun h' he => h _ (H.ext (t := s.toks) he)
  again := fun {A n G ow s Q E} hA hle H h => by
    obtain ⟨o, ho, h1, h2⟩ := H.own _ (.head _)
    exact wpAny_pyIter_striter_ascii ⟨o, ho, h1, h2⟩ h
noncomputable def dicP (w : World) (kvs : List (Str × Value)) (o : Obj) : Prop := o.IsDictOf (strKind prg w) kvs
theorem swapsDict {keys : List (Option Expr)} {values : List Expr} {pos : Pos} {t : Option Expr} {l : Nat} {env : Env} : swapsWith (.Dict keys values pos) t l env = pure false := rfl
theorem sg_len : ∀ p ∈ sgT, p.2.length ≤ 10 := by decide +kernel
theorem St.isListP {D : Addr} {xs : Array Value} (H : St w os₀ G ((D, listP xs) :: ow) s) : s.heap.IsList D xs := let ⟨o, h1, h2, k, h3⟩ := H.own _ (.head _); ⟨o, h1, h2, k, h3⟩
noncomputable def SplP (w : World) (os₀ : OsState) (G : Heap) (base : Ow) (r : List Str) (v : Value) (s : Shared) : Prop := ∃ a, v = .ref a ∧ ∃ lo : List (Str × Tok), lo.map (·.1) = r ∧ St w os₀ G ((a, listP (strValues lo).toArray) :: base) s
theorem spl_spec' {x : Str} {t : Tok} (hx : x ∈ Str.empty :: NM) : Spec w os₀ 1 (.ref 193) [.str x t] G (fun _ v => ∃ u, v = .str (escF x) u) := by
  intro A ow s Q E hA H hQ
  obtain ⟨he, ha, hl, hj⟩ := spl_ok x hx
  have hl : x.cps.size ≤ 10 := Nat.le_of_ble_eq_true hl
  refine enter [(Str.ofString "name", .str x t)] (fun y => if y = Str.ofString "name" then some (.str x t) else none) (fun _ => none) (fun k => [(Str.ofString "names", k)]) hA H rfl rfl (fun h X => ⟨_, _, _, _, rfl, X 192 _ rfl, rfl, rfl⟩) rfl rfl rfl rfl rfl rfl (fun _ => rfl) ?_ rfl rfl (fun env L A' s₁ V hA H => ?_) (by decide +kernel) (fun _ => rfl)
  · simp only [List.mem_singleton, forall_eq]; exact .inl rfl
  · dsimp only at V
    have H : St w os₀ G ((L, nsP fun y => if y = Str.ofString "name" then some (.str x t) else none) :: (L + 1, cellP none) :: ow) s₁ := H
    have H1 := H.push (P := objP { cls := .type "dict", data := .dict #[] }) { cls := .type "dict", data := .dict #[] } rfl rfl s₁.toks
    with_reducible refine wpAny_execs_cons (wpAny_Assign_Name ?_ swapsDict)
    with_reducible refine wpAny_Dict_walk (prog := prg) (w := w) (K := Str) (knd := strKind prg w) ?_ ?_ ?_ ?_ ?_
    · rfl
    · rfl
    · exact List.cons_ne_nil _ _
    · exact Nat.le_of_ble_eq_true rfl
    with_reducible refine pairTrees_cons_walk (cStr H1 fun k1 s H1 => cStr H1 fun t1 s H1 => ?_)
    with_reducible refine pairTrees_cons_walk (cStr H1 fun k2 s H1 => cStr H1 fun t2 s H1 => ?_)
    with_reducible refine pairTrees_cons_walk (cStr H1 fun k3 s H1 => cStr H1 fun t3 s H1 => ?_)
    with_reducible refine pairTrees_cons_walk (cStr H1 fun k4 s H1 => cStr H1 fun t4 s H1 => ?_)
    with_reducible refine pairTrees_cons_walk (cStr H1 fun k5 s H1 => cStr H1 fun t5 s H1 => ?_)
    with_reducible refine pairTrees_cons_walk (cStr H1 fun k6 s H1 => cStr H1 fun t6 s H1 => ?_)
    with_reducible refine pairTrees_cons_walk (cStr H1 fun k7 s H1 => cStr H1 fun t7 s H1 => ?_)
    with_reducible refine pairTrees_nil_walk ?_
    obtain ⟨o, ho, e⟩ := id (H1.own _ (.head _))
    cases e
    refine display_done_str rfl (show (sgT.map (·.1)).Nodup from by decide +kernel) ⟨_, _, _, ho, ?_, rfl, ?_, ?_, ?_⟩ fun h' hd' hs' => ?_
    · exact ⟨rfl, rfl, rfl⟩
    · intro e he; simp at he
    · exact .nil
    · exact List.nodup_nil
    obtain ⟨o', ho', hd'⟩ := Heap.dictOf_iff.mp hd'
    have H2 := H1.upd (P' := dicP w ((sgT.zip [t1, t2, t3, t4, t5, t6, t7]).map fun (p : (Str × Str) × Tok) => (p.1.1, Value.str p.1.2 p.2))) (t := s.toks + 7) hs' ⟨o', ho', hd'⟩
    generalize s₁.heap.objs.size = d at H2
    generalize hkv : ((sgT.zip [t1, t2, t3, t4, t5, t6, t7]).map fun (p : (Str × Str) × Tok) => (p.1.1, Value.str p.1.2 p.2)) = kvs at H2
    have hat := fun c => sg_at [t1, t2, t3, t4, t5, t6, t7] hkv.symm rfl c
    have hds : (d == sysModules) = false := by simpa using H2.ne1 (.head _)
    obtain ⟨oD, G1, hoD, hle1, hgD, H⟩ := H2.freeze
    refine stC V H fun s H => ?_
    dsimp only
    with_reducible refine wpAny_execs_cons (wpAny_Return_some (Call_method1 ?_ ?_ ?_ (cStr H fun tq s H => SB.join (wpAny_mono (Q := SplP w os₀ G1 ((L, nsP fun y => if y = Str.ofString "name" then some (.str x t) else none) :: (L + 1, cellP (some (.ref d))) :: ow) (x.cps.toList.map fun c => sgF (oneS c))) ?_ ?_ fun _ _ e => e))))
    · rfl
    · rfl
    · rfl
    rotate_left
    · rintro v s ⟨a, rfl, lo, hlo, H⟩
      refine ⟨a, lo, rfl, H.isListP, _, hlo, hj, fun t' k => ?_⟩
      exact hQ _ G1 _ hle1 (H.tok k).drop.drop.drop ⟨t', by rw [← he]; rfl⟩
    refine compE V (cl := [(Str.ofString "names", L + 1)]) rfl rfl (by decide +kernel) (nmL V H rfl (wpAny_pyIter_ascii ha ?_))
    have H := H.push (P := strIt x t 0) { cls := .type "str_ascii_iterator", data := .fields #[.str x t, .int 0 0] } rfl ⟨rfl, rfl⟩ s.toks
    refine compIn (Q := SplP w os₀ G1 ((L, nsP fun y => if y = Str.ofString "name" then some (.str x t) else none) :: (L + 1, cellP (some (.ref d))) :: ow) (x.cps.toList.map fun c => sgF (oneS c))) (ht := ?ht) srcStr hA V H (by omega) (fun k => []) ?h1 ?h2 (fun C i out G' m' ow' => G' = G1 ∧ (∃ lo : List (Str × Tok), out = strValues lo ∧ lo.map (·.1) = ((x.cps.toList.take i).map fun c => sgF (oneS c))) ∧ ow' = (L, nsP fun y => if y = Str.ofString "name" then some (.str x t) else none) :: (L + 1, cellP (some (.ref d))) :: ow) (fun C => ⟨rfl, ⟨[], rfl, rfl⟩, rfl⟩) ?_ ?_
    case ht => intro _ _; rfl
    case h1 => intro _; rfl
    case h2 => rfl
    · rintro cenv C acc Vc i v out G' m' ow' s' hi' ⟨u, c, rfl, hc⟩ ho2 ⟨rfl, ⟨lo, rfl, hlo⟩, rfl⟩ hle' H
      refine wpAny_assign_Name (stL Vc H fun s H => ?_)
      refine wpAny_pure (iteT rfl ?_)
      have hnext : ∀ (y : Str) (u' : Tok), y = sgF (oneS c) → (lo ++ [(y, u')]).map (·.1) = ((x.cps.toList.take (i + 1)).map fun c => sgF (oneS c)) := fun y u' hy => by
        rw [List.map_append, hlo, List.take_add_one, Array.getElem?_toList, hc]; simp [hy]
      have hdo : ∀ {s' : Shared}, Le G' s'.heap → s'.heap.DictOf (strKind prg w) d kvs := fun hle => Heap.dictOf_iff.mpr ⟨oD, hle _ _ hgD, hoD⟩
      have hac := hat (oneS c)
      refine wpAny_IfExp (wpAny_isTrue_Compare1 (nmL Vc H rfl (nmC Vc H (.tail _ (.tail _ (.tail _ (.tail _ (.head _))))) (wpAny_in_of (knd := strKind prg w) (strKind_is _ _ _ _) hds (hdo H.le).mapOf (wpAny_truthy_bool ?_)))))
      have H := H.tok (s.toks + 1)
      cases hlk : sgT.lookup (oneS c) with
      | none =>
        rw [hlk] at hac
        rw [hac]
        refine iteF rfl (nmL Vc H rfl ⟨G', _, _, ⟨rfl, ⟨lo ++ [(oneS c, u)], by simp [strValues], hnext _ _ ?_⟩, rfl⟩, Le.refl _, H⟩)
        unfold sgF; rw [hlk]
      | some y =>
        rw [hlk] at hac
        obtain ⟨uy, hac⟩ := hac
        rw [hac]
        have hyl : y.length ≤ 10 := sg_len _ (mem_of_lookup hlk)
        have c1 : (Str.ofString "&").length = 1 := by decide +kernel
        refine iteT rfl (wpAny_BinOp (wpAny_BinOp (cStr H fun t8 s H => Subscript_Name (nmC Vc H (.tail _ (.tail _ (.tail _ (.tail _ (.head _))))) (nmL Vc H rfl ⟨"dict", _, slot_dict_getitem.lookup, (hdo H.le).typeIs, wpAny_getItem_of (knd := strKind prg w) (strKind_is _ _ _ _) (hdo H.le).mapOf hac (addS (H.tok _) (fun t9 s H => cStr H fun ta s H => addS H (fun tb s H => ?_) ?z1) ?z2)⟩)))))
        case z1 => rw [sizeLine_eq, Str.length_append, c1, show (Str.ofString ";").length = 1 by decide +kernel]; omega
        case z2 => rw [sizeLine_eq, c1]; omega
        refine ⟨G', _, _, ⟨rfl, ⟨lo ++ [(Str.ofString "&" ++ y ++ Str.ofString ";", tb)], by simp [strValues], hnext _ _ ?_⟩, rfl⟩, Le.refl _, H⟩
        unfold sgF; rw [hlk]
    · rintro C acc out G' m' ow' s' ho2 ⟨rfl, ⟨lo, rfl, hlo⟩, rfl⟩ hle' H
      rw [List.take_of_length_le (by simp)] at hlo
      exact ⟨acc, rfl, lo, hlo, H⟩
end
end Mine
end

section -- Pu6
open PySem PySem.W PyProof.Rows PySem.W.X PySem.Calls
set_option linter.unusedVariables false
set_option maxRecDepth 100000
set_option maxHeartbeats 2000000
namespace Mine
noncomputable def sortT (f : List Str → KK) (E : List (List Str)) : List (List Str) := (kRun (fun i j => decide (f (E.getD i []) < f (E.getD j []))) (kas_sort E.length)).toList.map fun i => E.getD i []
theorem sortT_perm (f : List Str → KK) {E : List (List Str)} (h : 0 < E.length) : (sortT f E).Perm E := by
  have h1 := kRun_perm (n := E.length) h (fun i j => decide (f (E.getD i []) < f (E.getD j [])))
  have h2 := (Array.perm_iff_toList_perm.mp h1).map fun i => E.getD i []
  refine h2.trans ?_
  have e : (rngA E.length).toList.map (fun i => E.getD i []) = E := by
    unfold rngA
    apply List.ext_getElem
    · simp
    · intro i h1 h2
      simp [List.getD_eq_getElem?_getD, h2]
  rw [e]
theorem sortT_srt (f : List Str → KK) {E : List (List Str)} (h : 0 < E.length) : (sortT f E).Pairwise fun a b => ¬ f b < f a := by
  have h1 := kRun_perm (n := E.length) h (fun i j => decide (f (E.getD i []) < f (E.getD j [])))
  have hs : (kRun (fun i j => decide (f (E.getD i []) < f (E.getD j []))) (kas_sort E.length)).size = E.length := by rw [h1.size_eq]; simp [rngA]
  have hsrt := sort_run (lt := fun i j => decide (f (E.getD i []) < f (E.getD j []))) (fun a b q => decide_eq_false (kk_as _ _ (of_decide_eq_true q))) (fun a b c q1 q2 => decide_eq_false (kk_tr _ _ _ (of_decide_eq_false q1) (of_decide_eq_false q2))) (N := E.length) h
  unfold sortT
  rw [List.pairwise_map, List.pairwise_iff_getElem]
  intro i j hi hj hij
  have hj' : j < E.length := by rw [← hs]; simpa using hj
  have := hsrt i j (Nat.le_of_lt hij) hj'
  rw [getD_q, getD_q, Array.getElem?_eq_getElem (by omega), Array.getElem?_eq_getElem (by omega)] at this
  simp only [Option.getD_some] at this
  rw [Array.getElem_toList, Array.getElem_toList]
  exact of_decide_eq_false this
theorem opF_len' {rs : List (List Str)} (hE : GE rs) (hz : rs.length ≤ 100) {r : List Str} (hr : r ∈ rs) : (opF rs r).length ≤ 60 := by
  have h1 := esc_last (hE.gr r hr)
  have hi : rs.idxOf r < rs.length := List.idxOf_lt_length_of_mem hr
  have h2 := decS_len (rs.idxOf r) (by omega)
  obtain ⟨e1, e2, e3, e4⟩ := fix_len
  unfold opF
  simp only [Str.length_append, e1, e2, e3]
  omega
theorem endsF_len : ∀ n, (endsF n).length = 4 * n
  | 0 => rfl
  | n + 1 => by
    show (endsF n ++ clS).length = _
    rw [Str.length_append, endsF_len n, clS_len]; omega
theorem mul_len {n : Int} (h : n ≤ 10) : (Txt.mul clS n).length ≤ 40 := by
  rcases Int.lt_or_le n 0 with hn | hn
  · unfold Txt.mul
    rw [if_pos (by omega)]
    show Str.empty.length ≤ 40
    decide
  · obtain ⟨k, rfl⟩ := Int.eq_ofNat_of_zero_le hn
    rw [show Txt.mul clS ((k : Nat) : Int) = endsF k from mul_ends k, endsF_len]
    omega
theorem mulOkC {n : Int} (h1 : -1000 ≤ n) (h2 : n ≤ 1000) : MulOk clS n := by
  refine ⟨?_, fun h1 h2 => ?_, fun h1 h2 => ?_⟩
  · rw [Bool.or_eq_false_iff, decide_eq_false_iff_not, decide_eq_false_iff_not]; omega
  · rw [clS_len]
    have : (4 : Int) ≤ (2 ^ 63 - 1) / n := by
      apply Int.le_ediv_of_mul_le (by omega)
      omega
    omega
  · rw [clS_len]; unfold Builtin.Str.tooLong; rw [sizeLine_eq]; rw [decide_eq_false_iff_not]; omega
theorem td_bound {E : List (List Str)} (hE : GE E) (hz : E.length ≤ 100) : ∀ l : List (List Str), (∀ r ∈ l, r ∈ E) → ∀ acc : Str × Nat, acc.2 ≤ 4 → ((l.foldl (tdS E) acc).1.length ≤ acc.1.length + 100 * l.length) ∧ (l.foldl (tdS E) acc).2 ≤ 4
  | [], _, acc, h => ⟨by simp, h⟩
  | r :: l, hm, acc, h => by
    have hr := hm r (.head _)
    have h3 := hE.len r hr
    have h1 := opF_len' hE hz hr
    have h2 := mul_len (n := (acc.2 : Int) - (r.length : Int)) (by omega)
    have h4 := td_bound hE hz l (fun x hx => hm x (.tail _ hx)) (tdS E acc r) (by show r.length + 1 ≤ 4; omega)
    have h5 : (tdS E acc r).1.length ≤ acc.1.length + 100 := by
      show (acc.1 ++ opG E _ r).length ≤ _
      rw [Str.length_append, opG_eq, Str.length_append]
      omega
    simp only [List.foldl_cons, List.length_cons]
    exact ⟨by omega, h4.2⟩
theorem spl_spec {w : World} {os₀ : OsState} {G : Heap} {r : List Str} {t : Tok} (h : GR r) : Spec w os₀ 1 (.ref 193) [.str (lastS r) t] G (fun _ v => ∃ u, v = .str (escF (lastS r)) u) := spl_spec' (last_mem h)
end Mine
end

section -- S12
open PySem PySem.W PyProof.Rows PySem.W.X PySem.Calls
set_option linter.unusedVariables false
set_option linter.unusedSimpArgs false
set_option maxRecDepth 100000
set_option maxHeartbeats 4000000
namespace Mine
theorem PC_lay : ∀ p ∈ PC, PyData.canLay0 (.str p) = true := by decide +kernel
noncomputable def toldOw (L ev : Addr) (mm : Str → Option Value) (vs : List Value) (ow : Ow) : Ow := (L, nsP mm) :: (L + 1, cellP (some (.ref ev))) :: (ev, lsP vs.toArray) :: (195, objP (tabO #[])) :: ow
noncomputable def EveryP (w : World) (os₀ : OsState) (G : Heap) (L ev : Addr) (E : List (List Str)) (ow : Ow) (fl : Flow) (s' : Shared) : Prop :=
  fl = .next ∧ ∃ G' mm vs, Le G G' ∧ RowsL G' vs E ∧ St w os₀ G' ((L, nsP mm) :: (L + 1, cellP (some (.ref ev))) :: (ev, lsP vs.toArray) :: (195, objP (tabO #[])) :: ow) s'
noncomputable def KeyP (w : World) (os₀ : OsState) (G : Heap) (base : Ow) (its : List (Str × Nat)) (v : Value) (s' : Shared) : Prop :=
  ∃ G' a out, v = .ref a ∧ Le G G' ∧ TupsL G' out its ∧ St w os₀ G' ((a, listP out.toArray) :: base) s'
noncomputable def TextP (w : World) (os₀ : OsState) (G : Heap) (L : Addr) (E T : List (List Str)) (ow : Ow) (fl : Flow) (s' : Shared) : Prop :=
  fl = .next ∧ ∃ G' mm tx tu, Le G G' ∧ mm (Str.ofString "text") = some (.str (T.foldl (tdS E) (emS, 0)).1 tx) ∧ mm (Str.ofString "depth") = some (.int ((T.foldl (tdS E) (emS, 0)).2 : Nat) tu) ∧ (∃ ps, G'.get? 195 = some (tabO ps)) ∧ St w os₀ G' ((L, nsP mm) :: ow) s'
section
variable {w : World} {os₀ : OsState} {G : Heap} {ow : Ow} {s : Shared} {A : Around} {E : Value → Shared → Prop}
theorem told_call {rl : Addr} {rows : List (List Str)} {Q : Value → Shared → Prop} {n : Nat} (hr : RowsAt G rl rows) (hp : ∀ r ∈ rows, r.length ≤ 3 ∧ ∀ x ∈ r, x ∈ PC) (hz : rows.length ≤ 12) (h2 : 2 ≤ (everyF rows).length) (hA : AOk (n + 8) A) (H : St w os₀ G ((195, objP (tabO #[])) :: ow) s)
    (hQ : ∀ t G' s' T, Le G G' → (∃ ps, G'.get? 195 = some (tabO ps)) → St w os₀ G' ow s' → T.Perm (everyF rows) → (T.Pairwise fun a b => ¬ keyF (everyF rows) b < keyF (everyF rows) a) → Q (.str (tdF (everyF rows) T) t) s') :
    wpAny (model prg w) A (call (.ref 200) [.ref rl]) Q E s := by
  refine enter [(Str.ofString "rows", .ref rl)] (fun y => if y = Str.ofString "rows" then some (.ref rl) else none) (fun y => none) (fun k => [(Str.ofString "every", k)]) hA H rfl rfl (fun h X => ⟨_, _, _, _, rfl, X 199 _ rfl, rfl, rfl⟩) rfl rfl rfl rfl rfl rfl (fun _ => rfl) ?_ rfl rfl (fun env L A' s₁ V hA H => ?_) (by decide +kernel) (fun _ => rfl)
  · simp only [List.mem_cons, List.not_mem_nil, or_false, forall_eq_or_imp, forall_eq]; exact .inl rfl
  · dsimp only at V
    have H : St w os₀ G ((L, nsP fun y => if y = Str.ofString "rows" then some (.ref rl) else none) :: (L + 1, cellP none) :: (195, objP (tabO #[])) :: ow) s₁ := H
    obtain ⟨vr, hvr, hrows⟩ := id hr
    -- every = [[]]
    refine wpAny_execs_cons (wpAny_Assign_Name (List_ (spliced_cons (List_ (spliced_nil (newLst H fun e0 s H => ?_))))))
    obtain ⟨G1, hle1, he0, H⟩ := H.asL.frzL
    refine spliced_nil (newLst H fun ev s H => ?_)
    have H := (H.asL.perm (rot3.trans rot3))
    refine stC V H fun s H => ?_
    refine wpAny_execs_cons (wpAny_mono (Q := EveryP w os₀ G1 L ev (everyF rows) ow) (wpAny_For (nmL V H rfl (iterList H (isList_le hvr (hle1.trans H.le)) fun it s H => ?_))) ?_ fun _ _ e => e)
    · refine forS (srcList (isList_le hvr hle1)) hA (fun i G' ow' => ∃ mm vs, ow' = (L, nsP mm) :: (L + 1, cellP (some (.ref ev))) :: (ev, lsP vs.toArray) :: (195, objP (tabO #[])) :: ow ∧ RowsL G' vs (everyF (rows.take i))) ⟨_, [.ref e0], rfl, .cons ⟨[], rfl, he0⟩ .nil⟩ H ?_ ?_
      · rintro i v G2 ow' s' hi hv ⟨mm, vs, rfl, hev⟩ hle2 H
        obtain ⟨b, r, rfl, hri, hrb⟩ := hrows.get i v (by simpa using hv)
        obtain ⟨hr3, hrp⟩ := hp r (List.mem_of_getElem? hri)
        have hrb := hrb.le (hle1.trans hle2)
        obtain ⟨lb, hlb, hbl⟩ := id hrb
        refine wpAny_assign_Name (stL V H.swap fun s H => ?_)
        -- steps = []
        refine wpAny_execs_cons (wpAny_Assign_Name (List_ (spliced_nil (newLst H fun st s H => ?_))))
        obtain ⟨G3, hle3, hst, H⟩ := H.asL.frzL
        refine stL V H fun s H => ?_
        dsimp only
        -- for piece in row
        refine wpAny_execs_cons (wpAny_For (nmL V H rfl (iterList H (isList_le hbl (hle3.trans H.le)) fun it2 s H => ?_)))
        refine forS (srcList (isList_le hbl hle3)) hA (fun j G' ow' => ∃ mm st, ow' = (L, nsP mm) :: (it, iterP rl (i + 1)) :: (L + 1, cellP (some (.ref ev))) :: (ev, lsP vs.toArray) :: (195, objP (tabO #[])) :: ow ∧ mm (Str.ofString "steps") = some (.ref st) ∧ RowAt G' st ((r.take j).foldl stS [])) ⟨_, st, rfl, rfl, ⟨[], rfl, hst⟩⟩ H ?_ ?_
        · rintro j v G4 ow' s' hj hv ⟨mm, st, rfl, hm, hst⟩ hle4 H
          obtain ⟨p, tp, hpj, rfl⟩ : ∃ p tp, lb[j]? = some (p, tp) ∧ v = .str p tp := by
            simp only [strValues, List.getElem?_toArray, List.getElem?_map, Option.map_eq_some_iff] at hv
            obtain ⟨⟨c, tc⟩, hc, rfl⟩ := hv
            exact ⟨c, tc, hc, rfl⟩
          have hrj : r[j]? = some p := by rw [← hlb, List.getElem?_map, hpj]; rfl
          have hpm : p ∈ PC := hrp p (List.mem_of_getElem? hrj)
          have hstep : (r.take (j + 1)).foldl stS [] = stS ((r.take j).foldl stS []) p := by
            rw [List.take_add_one, hrj, List.foldl_append]; rfl
          have hsl : ((r.take j).foldl stS []).length ≤ 3 := by
            have h1 := stF_len' (r.take j) []
            rw [List.length_take] at h1
            simp only [List.length_nil] at h1
            omega
          refine wpAny_assign_Name (stL V H.swap fun s H => ?_)
          rw [hstep]
          generalize (r.take j).foldl stS [] = S at hst hsl
          obtain ⟨ls, hls, hsal⟩ := id hst
          refine wpAny_execs_cons (wpAny_If (wpAny_isTrue_Compare1 (nmL V H rfl (cStr H fun _ s H => eqS (wpAny_truthy_bool ?_)))))
          have hslen : (strValues ls).toArray.size = S.length := by simp [strValues, ← hls]
          cases hc1 : (p.cps.toList == (Str.ofString "..").cps.toList) with
          | true =>
            have e1 : stS S p = S.dropLast := by unfold stS; rw [strBeq, hc1, if_pos rfl]
            refine iteT rfl (wpAny_execs_cons (wpAny_Assign_Name (slL (nmL V H hm (partN (partS (wpAny_UnaryOp (cInt H fun t s₂ H2 => PySem.P.neg_int ⟨st, _, _, _, _, _, rfl, H2.tok _, isList_le hsal H2.le, by omega, .none, .int _ _, fun D s H => ?_⟩))))))))
            rw [show (-1 : Int) = -((1 : Nat) : Int) from rfl, slicePick_butLast _ 1 (Nat.le_refl _), hslen] at H
            obtain ⟨G5, hle5, hD, H⟩ := H.frzL
            refine stL V H fun s H => wpAny_execs_nil (wpAny_execs_nil ⟨.inl rfl, G5, _, ⟨_, D, rfl, rfl, ?_⟩, hle5, H.swap⟩)
            rw [e1, List.dropLast_eq_take]
            exact ⟨ls.take (S.length - 1), by rw [List.map_take, hls], by simpa [strValues, List.map_take] using hD⟩
          | false =>
            refine iteF rfl (wpAny_execs_cons (wpAny_If (wpAny_isTrue_Compare1 (nmL V H rfl (Tuple_ (spliced_cons (cStr (k := 0) (pos := ⟨222, 31, 222, 33⟩) H fun ta s H => spliced_cons (cStr (k := 0) (pos := ⟨222, 35, 222, 38⟩) H fun tb s H => spliced_nil (newTup H (fun T s H => ?_) (by rw [sizeLine_eq]; simp))))))))))
            obtain ⟨G5, hle5, hT, H⟩ := H.frzO
            obtain ⟨as, hTr⟩ : ∃ as, Reads s.heap (.ref T) (.tuple [.str (Str.ofString ""), .str (Str.ofString ".")]) as := ⟨_, Reads.tuple (H.le _ _ hT) rfl rfl (.cons (.str _ _) (.cons (.str _ _) .nil))⟩
            refine SeqAt.notIn_tuple_reads hTr (.str p tp) (by decide +kernel) (PC_lay p hpm) ?_ (wpAny_truthy_bool ?_)
            · have h1 := hA.units
              have h3 : min (PyData.depthAll [.str (Str.ofString ""), .str (Str.ofString ".")]) (PyData.str p).depth ≤ 1 := Nat.le_trans (Nat.min_le_right _ _) (by simp [PyData.depth])
              show _ < 9900
              omega
            have e0 : ([PyData.str (Str.ofString ""), PyData.str (Str.ofString ".")].any fun y => PyData.eqv y (.str p)) = (p == Str.ofString "" || p == Str.ofString ".") := by
              show ((Str.ofString "" == p) || ((Str.ofString "." == p) || false)) = _
              rw [Bool.or_false, BEq.comm (a := Str.ofString ""), BEq.comm (a := Str.ofString ".")]
            rw [e0]
            cases hc2 : (p == Str.ofString "" || p == Str.ofString ".") with
            | true =>
              have e1 : stS S p = S := by unfold stS; rw [strBeq, hc1, if_neg (by simp), hc2, if_pos rfl]
              refine iteF rfl (wpAny_execs_nil (wpAny_execs_nil (wpAny_execs_nil ⟨.inl rfl, G5, _, ⟨upd mm (Str.ofString "piece") (.str p tp), st, rfl, hm, ?_⟩, hle5, H.swap⟩)))
              rw [e1]; exact hst.le hle5
            | false =>
              have e1 : stS S p = S ++ [p] := by unfold stS; rw [strBeq, hc1, if_neg (by simp), hc2, if_neg (by simp)]
              refine iteT rfl (wpAny_execs_cons (wpAny_Assign_Name (wpAny_BinOp (nmL V H hm (List_ (spliced_cons (nmL V H rfl (spliced_nil (newLst H fun D s H => ?_)))))))))
              obtain ⟨G6, hle6, hD, H⟩ := H.asL.frzL
              refine addL (vs := strValues ls) (ws := [.str p tp]) H (isList_le hsal (hle5.trans (hle6.trans H.le))) (isList_le hD H.le) (fun D2 s H => ?_) (by simp [strValues, ← hls] at hsl ⊢; omega)
              obtain ⟨G7, hle7, hD2, H⟩ := H.frzL
              refine stL V H fun s H => wpAny_execs_nil (wpAny_execs_nil (wpAny_execs_nil ⟨.inl rfl, G7, _, ⟨_, D2, rfl, rfl, ?_⟩, hle5.trans (hle6.trans hle7), H.swap⟩))
              rw [e1]
              exact ⟨ls ++ [(p, tp)], by simp [hls], by simpa [strValues] using hD2⟩
        · rintro G4 ow' s' ⟨mm, st, rfl, hm, hst⟩ hle4 H
          have hlbl : (strValues lb).toArray.size = r.length := by simp [strValues, ← hlb]
          rw [hlbl, List.take_of_length_le (Nat.le_refl _)] at hst
          dsimp only
          change RowAt G4 st (stF r) at hst
          obtain ⟨ls, hls, hsal⟩ := id hst
          have hN3 := Nat.le_trans (stF_len r) hr3
          have hslen : (strValues ls).toArray.size = (stF r).length := by simp [strValues, ← hls]
          have hE := everyF_GE (rows := rows.take i) fun r hr => hp r (List.mem_of_mem_take hr)
          have hElen := everyF_len (rows := rows.take i) fun r hr => hp r (List.mem_of_mem_take hr)
          rw [List.length_take] at hElen
          have hgN := stF_good hrp
          have hEsucc : everyF (rows.take (i + 1)) = laidF (everyF (rows.take i)) (stF r) := by
            rw [List.take_add_one, hri]; exact everyF_snoc _ _
          rw [hEsucc]
          generalize everyF (rows.take i) = EE at hev hE hElen
          generalize stF r = N at hst hls hN3 hslen hgN
          -- for k in range(len(steps))
          refine wpAny_execs_cons (wpAny_For (callT1 V H rfl rfl rfl (callB V H rfl rfl rfl rfl (spliced_cons (nmL V H hm (spliced_nil (lenL H (isList_le hsal H.le) (by omega) fun _ s H => ?_)))))))
          rw [hslen]
          refine rangeIter H (by omega) fun it3 s H => ?_
          refine forS srcRange hA (fun k G' ow' => ∃ mm vs, ow' = (L, nsP mm) :: (it, iterP rl (i + 1)) :: (L + 1, cellP (some (.ref ev))) :: (ev, lsP vs.toArray) :: (195, objP (tabO #[])) :: ow ∧ mm (Str.ofString "steps") = some (.ref st) ∧ RowsL G' vs (EE ++ freshF EE N k)) ⟨mm, vs, rfl, hm, by simpa [freshF] using hev.le (hle3.trans hle4)⟩ H ?_ ?_
          · rintro k v G5 ow' s' hk ⟨tv, rfl⟩ ⟨mm, vs, rfl, hm, hev⟩ hle5 H
            refine wpAny_assign_Name (stL V H.swap fun s H => ?_)
            have hcut : ∀ (G6 : Heap) D, G6.IsList D (slicePick (strValues ls).toArray none (some (((k : Nat) : Int) + 1)) none) → RowAt G6 D (N.take (k + 1)) := fun G6 D h => by
              rw [show (((k : Nat) : Int) + 1) = ((k + 1 : Nat) : Int) from rfl, slicePick_upto'] at h
              exact ⟨ls.take (k + 1), by rw [List.map_take, hls], by simpa [strValues, List.map_take] using h⟩
            have hgt : GR (N.take (k + 1)) := fun x hx => hgN x (List.mem_of_mem_take hx)
            have hfl := freshF_len EE N k
            have hvl := hev.length
            rw [List.length_append] at hvl
            refine wpAny_execs_cons (wpAny_If (wpAny_isTrue_Compare1 (slL (nmL V H hm (partN (partS (wpAny_BinOp (nmL V H rfl (cInt H fun _ s H => addI H fun _ s H => ⟨st, _, _, _, _, _, rfl, H, isList_le hsal (hle5.trans H.le), by omega, .none, .int _ _, fun D s H => ?_⟩)))))))))
            obtain ⟨G6, hle6, hD, H⟩ := H.frzL
            have hrow6 := hcut G6 D hD
            have hgood : ∀ y ∈ EE ++ freshF EE N k, GR y := fun y hy => by
              rcases List.mem_append.mp hy with hy | hy
              · exact hE.gr y hy
              · obtain ⟨_, k', _, rfl⟩ := mem_fresh.mp hy
                exact fun x hx => hgN x (List.mem_of_mem_take hx)
            obtain ⟨as, hrd⟩ := RowsAt.reads (G := s.heap) (a := ev) (rs := EE ++ freshF EE N k) ⟨vs, H.isL (.tail _ (.tail _ (.tail _ (.tail _ (.head _))))), hev.le (hle6.trans H.le)⟩
            have hrx := (hrow6.le H.le).reads
            refine nmC V H (.tail _ (.tail _ (.tail _ (.head _)))) (PySem.SeqAt.notIn_list_reads hrd hrx (canLay_rows _ hgood) (canLay_row _ hgt) ?_ (wpAny_truthy_bool ?_))
            · have h1 := hA.units
              have h2 := depth_row (N.take (k + 1))
              have h3 : min (PyData.depthAll ((EE ++ freshF EE N k).map rowD)) (rowD (N.take (k + 1))).depth ≤ 3 := Nat.le_trans (Nat.min_le_right _ _) h2
              show _ < 9900
              omega
            have hany : (((EE ++ freshF EE N k).map rowD).any fun y => y.eqv (rowD (N.take (k + 1)))) = (EE.any fun y => y == N.take (k + 1)) := by
              rw [← any_fresh hk, List.any_map]
              congr 1
              funext y
              exact eqv_row y _
            rw [hany]
            have hfs := freshF_succ EE N k
            cases hc4 : (EE.any fun y => y == N.take (k + 1)) with
            | true =>
              rw [hc4, if_pos rfl, List.append_nil] at hfs
              refine iteF rfl (wpAny_execs_nil (wpAny_execs_nil ⟨.inl rfl, G6, _, ⟨upd mm (Str.ofString "k") (.int k tv), vs, rfl, hm, by rw [hfs]; exact hev.le hle6⟩, hle6, H.swap⟩))
            | false =>
              rw [hc4, if_neg (by simp)] at hfs
              have p1 : ∀ {a b c d e : Addr × (Obj → Prop)} {r : Ow}, (a :: b :: c :: d :: e :: r).Perm (e :: a :: b :: c :: d :: r) := fun {a b c d e r} => (((((List.Perm.swap _ _ _).cons _).cons _).cons _).trans (((List.Perm.swap _ _ _).cons _).cons _)).trans (((List.Perm.swap _ _ _).cons _).trans (List.Perm.swap _ _ _))
              refine iteT rfl (wpAny_execs_cons (wpAny_Expr_any (Call_method1 rfl rfl rfl (nmC V H (.tail _ (.tail _ (.tail _ (.head _)))) (appM H (.tail _ (.tail _ (.tail _ (.tail _ (.head _))))) (slL (nmL V H hm (partN (partS (wpAny_BinOp (nmL V H rfl (cInt H fun _ s H => addI H fun _ s H => ⟨st, _, _, _, _, _, rfl, H, isList_le hsal (hle5.trans (hle6.trans H.le)), by omega, .none, .int _ _, fun D7 s H => ?_⟩)))))))))) V.inter))
              obtain ⟨G7, hle7, hD7, H⟩ := H.frzL
              refine ⟨G7, _, _, H.perm p1, by simp; omega, fun s H => wpAny_execs_nil (wpAny_execs_nil ?_)⟩
              refine ⟨.inl rfl, G7, _, ⟨upd mm (Str.ofString "k") (.int k tv), vs ++ [.ref D7], rfl, hm, ?_⟩, hle6.trans hle7, ?_⟩
              · rw [hfs, ← List.append_assoc]
                exact (hev.le (hle6.trans hle7)).append (.cons (hcut G7 D7 hD7) .nil)
              · have H := (H.perm p1.symm).swap
                rw [List.push_toArray] at H
                exact H
          · rintro G5 ow' s' ⟨mm, vs, rfl, hm, hev⟩ hle5 H
            dsimp only
            exact wpAny_execs_nil ⟨.inl rfl, G5, _, ⟨mm, vs, rfl, hev⟩, hle3.trans (hle4.trans hle5), H.swap⟩
      · rintro G2 ow' s' ⟨mm, vs, rfl, hev⟩ hle2 H
        have hlen := hrows.length
        rw [List.take_of_length_le (by simp; omega)] at hev
        exact ⟨rfl, G2, mm, vs, hle2, hev, H⟩
    · rintro fl s' ⟨rfl, G2, mm, vs, hle2, hev, H⟩
      dsimp only
      refine wpAny_execs_cons (wpAny_Assign_Name (cStr H fun tt s H => stL V H fun s H => ?_))
      refine wpAny_execs_cons (wpAny_Assign_Name (cInt H fun td s H => stL V H fun s H => ?_))
      obtain ⟨oc, G3, hoc, hle3, hgc, H⟩ := H.swap.freeze
      obtain ⟨G4, hle4, hlev, hpl, H⟩ := H.swap.frzLp
      have hcell : G4.get? (L + 1) = some oc := hle4 _ _ hgc
      have hE := everyF_GE hp
      have hElen := everyF_len hp
      have hevr : RowsAt G4 ev (everyF rows) := ⟨vs, hlev, hev.le (hle3.trans hle4)⟩
      have hev := hev.le (hle3.trans hle4)
      have hle04 := hle1.trans (hle2.trans (hle3.trans hle4))
      generalize hEE : everyF rows = EE at *
      have hvl := hev.length
      obtain ⟨q, hF⟩ : ∃ q, CodeF G4 199 195 q := ⟨_, _, _, _, _, _, _, _, _, _, _, H.top.k 199 _ rfl, rfl, rfl, rfl, rfl, rfl, rfl, rfl, rfl, rfl, by decide⟩
      refine wpAny_execs_cons (wpAny_mono (Q := TextP w os₀ G4 L EE (sortT (keyF EE) EE) ow) (wpAny_For (callBk V H rfl rfl rfl rfl (nmCG V H hcell hoc ?_))) ?_ fun _ _ e => e)
      · refine wpAny_bind (lamMk rfl rfl (clo := [(Str.ofString "every", L + 1)]) (by rw [V.cells]; rfl) rfl V.globals V.builtins V.code H.swap hF trivial rfl fun f fd G5 s hle5 hg e1 e2 e3 e4 e5 e6 e7 e8 hrec ⟨pst, htab⟩ H => wpAny_bind (wpAny_standAt (wpAny_pure ?_)))
        have hspec : ∀ b r G', Le G5 G' → RowAt G' b r → r ∈ EE → Spec w os₀ (n + 3) (.ref f) [.ref b] G' (fun G'' v => ∃ a, v = .ref a ∧ KeyAt G'' a (keyI EE r r.length)) := by
          intro b r G' hle hb hr A ow s Q E hA H hQ
          have hr3 : r.length ≤ 3 := hE.len r hr
          refine wpAny_call (enterE (os₀ := os₀) (names := [(Str.ofString "one", .cell), (Str.ofString "every", .free), (Str.ofString "range", .globalImplicit), (Str.ofString "len", .globalImplicit)]) [(Str.ofString "every", L + 1)] (fun k => [(Str.ofString "one", k)]) hA (H.le _ _ (hle _ _ hg)) rfl (hrec.keeps (hle.trans H.le)) e2 (by rw [e3]) rfl rfl e6 (fun _ => rfl) ?_ e4 e5 (by rw [e3]) (by rw [e3]) (by rw [e3]))
          have hb' : bindArgs fd ⟨[.ref b], []⟩ = pure [(Str.ofString "one", .ref b)] := by
            obtain ⟨⟩ := fd
            dsimp only at e1 e7 e8
            subst e1 e7 e8
            rfl
          rw [hb']
          refine wpAny_pure ⟨_, _, H, fun env2 L2 A₁ A2 s₂ V2 hA2 H => ?_⟩
          have H : St w os₀ G' ((L2, nsP fun _ => none) :: (L2 + 1, cellP none) :: ow) s₂ := H
          refine bindAll_cons (stC V2 H fun s H => bindAll_nil ⟨⟨_, _, H⟩, ?_⟩)
          obtain ⟨lb, hlb, hbl⟩ := id hb
          have hsb : (strValues lb).toArray.size = r.length := by simp [strValues, ← hlb]
          refine wpAny_mono (Q := KeyP w os₀ G' ((L2, nsP fun _ => none) :: (L2 + 1, cellP (some (.ref b))) :: ow) (keyI EE r r.length)) (compE V2 (cl := [(Str.ofString "one", L2 + 1), (Str.ofString "every", L + 1)]) rfl rfl (by decide +kernel) ?_) ?_ fun _ _ e => e
          rotate_left
          · rintro v s ⟨G6, a, out, rfl, hle6, hout, H⟩
            obtain ⟨G7, hle7, ha, H⟩ := H.frzP
            exact hQ _ G7 s (hle6.trans hle7) H.drop.drop ⟨a, rfl, out, ha, hout.le hle7⟩
          refine callT1 V2 H rfl rfl rfl (callB V2 H rfl rfl rfl rfl (spliced_cons (nmC V2 H (.tail _ (.head _)) (spliced_nil (lenL H (isList_le hbl H.le) (by omega) fun _ s H => ?_)))))
          rw [hsb]
          refine rangeIter H (by omega) fun it2 s H => ?_
          refine compIn (Q := KeyP w os₀ G' ((L2, nsP fun _ => none) :: (L2 + 1, cellP (some (.ref b))) :: ow) (keyI EE r r.length)) (ht := ?ht2) srcRange hA2 V2 H (by omega) (fun k => []) ?i1 ?i2 (fun C2 i2 out2 G2' m2 ow2 => TupsL G2' out2 (keyI EE r i2) ∧ ow2 = (L2, nsP fun _ => none) :: (L2 + 1, cellP (some (.ref b))) :: ow) (fun C2 => ⟨.nil, rfl⟩) ?_ ?_
          case ht2 => intro _ _; rfl
          case i1 => intro _; rfl
          case i2 => rfl
          · rintro cenv2 C2 acc2 V3 i2 v2 out2 G6 m2 ow2 s2 hi2 ⟨t2, rfl⟩ ho2 ⟨hout, rfl⟩ hle6 H
            refine wpAny_assign_Name (stL V3 H fun s H => ?_)
            refine wpAny_pure (iteT rfl ?_)
            obtain ⟨xt, hxt⟩ : ∃ xt, lb[i2]? = some (r.getD i2 Str.empty, xt) := by
              have : r[i2]? = some (r.getD i2 Str.empty) := by rw [List.getD_eq_getElem?_getD, List.getElem?_eq_getElem hi2]; rfl
              rw [← hlb, List.getElem?_map, Option.map_eq_some_iff] at this
              obtain ⟨⟨q1, q2⟩, g1, g2⟩ := this
              rw [hlb] at g2
              cases g2
              exact ⟨q2, g1⟩
            have hxl : (r.getD i2 Str.empty).length ≤ 10 := by
              rw [List.getD_eq_getElem?_getD, List.getElem?_eq_getElem hi2]
              exact (NM_ok _ (hE.gr r hr _ (List.getElem_mem hi2))).2
            have hLs : s.heap.IsList b (strValues lb).toArray := isList_le hbl (hle6.trans H.le)
            refine Tuple_ (spliced_cons (Call_method0 rfl rfl (Subscript_Name (nmC V3 H (.tail _ (.tail _ (.tail _ (.tail _ (.head _))))) (nmL V3 H rfl ⟨"list", _, slot_list_getitem.lookup, hLs.typeIs, wpAny_getItem_list hLs (by omega) (by omega) (x := .str (r.getD i2 Str.empty) xt) (by simp [strValues, hxt]) (SBL.lower (by omega) fun q1 => spliced_cons ?_)⟩)))))
            have hx5 := hle5.trans (hle.trans hle6)
            refine Call_method1 rfl rfl rfl (nmFG V3 (H.tok _) (hx5 _ _ hcell) hoc (idxD (r := r.take (i2 + 1)) (hevr.le hx5) (hpl.le hx5) hE.gr (hE.pre r hr _) (by omega) hA2 (slL (nmC V3 (H.tok _) (.tail _ (.tail _ (.tail _ (.tail _ (.head _))))) (partN (partS (wpAny_BinOp (nmL V3 (H.tok _) rfl (cInt (k := 0) (pos := ⟨229, 84, 229, 85⟩) (H.tok _) fun _ s H => addI H fun _ s H => ⟨b, _, _, _, _, _, rfl, H, isList_le hbl (hle6.trans H.le), by omega, .none, .int _ _, fun D s H => ?_⟩))))))) (H.tok _)))
            obtain ⟨G7, hle7, hD, H⟩ := H.frzL
            rw [show (((i2 : Nat) : Int) + 1) = ((i2 + 1 : Nat) : Int) from rfl, slicePick_upto'] at hD
            refine ⟨D, G7, _, rfl, hle7, ⟨lb.take (i2 + 1), by rw [List.map_take, hlb], by simpa [strValues, List.map_take] using hD⟩, H, fun ti s H => spliced_nil (newTup H (fun T s H => ?_) (by rw [sizeLine_eq]; simp))⟩
            obtain ⟨G8, hle8, hT, H⟩ := H.frzO
            refine ⟨G8, _, _, ⟨?_, rfl⟩, hle7.trans hle8, H⟩
            have ek : keyI EE r (i2 + 1) = keyI EE r i2 ++ [(Txt.lower (r.getD i2 Str.empty), EE.idxOf (r.take (i2 + 1)))] := by
              unfold keyI
              rw [List.range_succ, List.map_append]; rfl
            rw [ek]
            exact (hout.le (hle7.trans hle8)).append (.cons ⟨_, hT, rfl, _, rfl⟩ .nil)
          · rintro C2 acc2 out2 G6 m2 ow2 s2 ho2 ⟨hout, rfl⟩ hle6 H
            exact ⟨G6, acc2, out2, rfl, hle6, hout, H⟩
        refine sortS (n := n + 3) (κ := oneType') (lt := fun i j => decide (keyF EE (EE.getD i []) < keyF EE (EE.getD j []))) (fun G' ks => Le G5 G' ∧ ∀ (i : Nat) k, ks[i]? = some k → ∃ a r, k = Value.ref a ∧ EE[i]? = some r ∧ KeyAt G' a (keyI EE r r.length)) (hA.mono (by omega)) H (isList_le hlev hle5) (by omega) (by omega) (ksk_s1 _ _) (fun _ => ksk_l1 _ _) (fun _ => ksk_t1 _ _) (kIn_sort (by omega)) ⟨Le.refl _, fun i k e => by simp at e⟩ ?m1 ?m2 ?m3 ?m4 ?m5
        case m1 =>
          rintro Ga Gb ks hab ⟨x1, x2⟩
          refine ⟨x1.trans hab, fun i k e => ?_⟩
          obtain ⟨a, r, y1, y2, y3⟩ := x2 i k e
          exact ⟨a, r, y1, y2, y3.le hab⟩
        case m2 =>
          intro ks v hkv G' hle ⟨_, hI⟩ A ow s Q E hA H hQ
          obtain ⟨b, r, rfl, hri, hrb⟩ := hev.get _ _ hkv
          refine hspec b r G' hle (hrb.le (hle5.trans hle)) (List.mem_of_getElem? hri) A _ _ _ _ hA H ?_
          rintro v G'' s' hle' H ⟨a, rfl, ha⟩
          refine hQ _ G'' s' hle' H ⟨hle.trans hle', fun i k e => ?_⟩
          by_cases hi : i < ks.length
          · rw [List.getElem?_append_left hi] at e
            obtain ⟨a', r', y1, y2, y3⟩ := hI i k e
            exact ⟨a', r', y1, y2, y3.le hle'⟩
          · have hi' : i = ks.length := by
              have := (List.getElem?_eq_some_iff.mp e).1
              simp at this; omega
            subst hi'
            rw [List.getElem?_append_right (Nat.le_refl _)] at e
            simp at e
            exact ⟨a, r, e.symm, hri, ha⟩
        case m3 =>
          intro ks G' s' A Q ⟨_, hI⟩ hlen hle hQ
          refine kas_kind (T := .type "list") (by rw [hlen]; omega) (fun v hv => ?_) (by decide) (by decide) hQ
          obtain ⟨i, hi, e⟩ := List.getElem_of_mem hv
          obtain ⟨a, r, y1, y2, ⟨vk, ⟨o, z1, z2, _⟩, _⟩⟩ := hI i v (by rw [List.getElem?_eq_some_iff]; exact ⟨hi, e⟩)
          subst y1
          rw [← z2]
          exact (Looks.ld (hle _ _ z1)).andThen .now
        case m4 =>
          intro ks i j G' A ow s' Q hA hlen hi hj ⟨_, hI⟩ H hQ
          obtain ⟨a, r, y1, y2, y3⟩ := hI i (ks.getD i Value.none) (by simp [List.getD, hlen, hi])
          obtain ⟨b, r', y4, y5, y6⟩ := hI j (ks.getD j Value.none) (by simp [List.getD, hlen, hj])
          rw [y1, y4]
          refine keyLtT y3 y6 hA H ?_
          rw [keyI_enc, keyI_enc]
          have e1 : EE.getD i [] = r := by rw [List.getD_eq_getElem?_getD, y2]; rfl
          have e2 : EE.getD j [] = r' := by rw [List.getD_eq_getElem?_getD, y5]; rfl
          rw [← e1, ← e2]
          exact hQ _ _ (Le.refl _) H
        case m5 =>
          intro D c G6 s hle6 H
          obtain ⟨G7, hle7, hD, H⟩ := H.frzO
          have hpm : ∀ i ∈ (kRun (fun i j => decide (keyF EE (EE.getD i []) < keyF EE (EE.getD j []))) (kas_sort vs.length)).toList, i < EE.length := fun i hi => by
            have h1 := kRun_perm (n := vs.length) (by omega) (fun i j => decide (keyF EE (EE.getD i []) < keyF EE (EE.getD j [])))
            have h2 := (Array.perm_iff_toList_perm.mp h1).mem_iff.mp hi
            simp only [rngA, List.mem_range] at h2
            omega
          have hT := rowsL_perm (hev.le (hle5.trans (hle6.trans hle7))) _ hpm
          rw [show ((kRun (fun i j => decide (keyF EE (EE.getD i []) < keyF EE (EE.getD j []))) (kas_sort vs.length)).toList.map fun i => EE.getD i []) = sortT (keyF EE) EE by unfold sortT; rw [hvl]] at hT
          have hTm : ∀ r ∈ sortT (keyF EE) EE, r ∈ EE := fun r hr => (sortT_perm (keyF EE) (by omega)).mem_iff.mp hr
          have hTe := (sortT_perm (keyF EE) (E := EE) (by omega)).length_eq
          generalize sortT (keyF EE) EE = T at hT hTm hTe
          generalize ((kRun (fun i j => decide (keyF EE (EE.getD i []) < keyF EE (EE.getD j []))) (kas_sort vs.length)).toList.map fun i => vs.getD i Value.none) = vt at hD hT
          have hDl : G7.IsList D vt.toArray := ⟨_, hD, rfl, c, rfl⟩
          have hx7 := hle5.trans (hle6.trans hle7)
          have hTl := hT.length
          refine iterList H (isList_le hDl H.le) fun it s H => ?_
          refine forS (srcList hDl) hA (fun i G' ow' => ∃ mm tx tu, ow' = (L, nsP mm) :: ow ∧ mm (Str.ofString "text") = some (.str ((T.take i).foldl (tdS EE) (emS, 0)).1 tx) ∧ mm (Str.ofString "depth") = some (.int (((T.take i).foldl (tdS EE) (emS, 0)).2 : Nat) tu)) ⟨_, _, _, rfl, rfl, rfl⟩ H ?_ ?_
          · rintro i v G8 ow' s' hi hv ⟨mm, tx, tu, rfl, hm1, hm2⟩ hle8 H
            obtain ⟨b, r, rfl, hri, hrb⟩ := hT.get i v (by simpa using hv)
            have hrm := hTm r (List.mem_of_getElem? hri)
            have hr3 := hE.len r hrm
            have hgr := hE.gr r hrm
            have hrb := hrb.le hle8
            obtain ⟨lb, hlb, hbl⟩ := id hrb
            have hsb : (strValues lb).toArray.size = r.length := by simp [strValues, ← hlb]
            have hbd := td_bound hE (by omega) (T.take i) (fun x hx => hTm x (List.mem_of_mem_take hx)) (emS, 0) (by simp)
            have hstep : (T.take (i + 1)).foldl (tdS EE) (emS, 0) = tdS EE ((T.take i).foldl (tdS EE) (emS, 0)) r := by
              rw [List.take_add_one, hri, List.foldl_append]; rfl
            rw [hstep]
            have hTl37 : (T.take i).length ≤ 40 := by
              rw [List.length_take]
              omega
            generalize (T.take i).foldl (tdS EE) (emS, 0) = acc at hm1 hm2 hbd
            obtain ⟨tx0, k0⟩ := acc
            dsimp only at hm1 hm2 hbd
            have he0 : emS.length = 0 := fix_len.2.2.2
            have hbl0 : tx0.length ≤ 4000 := by omega
            have hk4 : k0 ≤ 4 := hbd.2
            have h1 := esc_last hgr
            have hii : EE.idxOf r < EE.length := List.idxOf_lt_length_of_mem hrm
            have h2' := decS_len (EE.idxOf r) (by omega)
            have q1 : (Str.ofString "<d n=\"").length = 6 := fix_len.1
            have q2 : (Str.ofString "\" k=\"").length = 5 := fix_len.2.1
            have q3 : (Str.ofString "\">").length = 2 := fix_len.2.2.1
            have hml : (Txt.mul (Str.ofString "</d>") ((k0 : Int) - (r.length : Int))).length ≤ 40 := mul_len (by omega)
            have hx8 := hx7.trans hle8
            refine wpAny_assign_Name (stL V H.swap fun s H => ?_)
            refine wpAny_execs_cons (wpAny_AugAssign_Name (ldL V H hm1 (wpAny_BinOp (wpAny_BinOp (wpAny_BinOp (wpAny_BinOp (wpAny_BinOp (wpAny_BinOp (cStr H fun ta s H => wpAny_BinOp (nmL V H hm2 (callB V H rfl rfl rfl rfl (spliced_cons (nmL V H rfl (spliced_nil (lenL H (isList_le hbl H.le) (by omega) fun tb s H => PySem.P.sub_int ?_)))))))))))))))
            rw [hsb]
            have H := H.tok (s.toks + 1)
            refine SB.mul (mulOkC (by omega) (by omega)) fun tc k => cStr (H.tok k) fun td s H => addS H (fun te s H => callGf V H rfl rfl rfl rfl (spliced_cons (joinLast hrb (by omega) hgr rfl (fun s' Q' H hq => nmL V H rfl hq) H fun tf G9 s hle9 H => spliced_nil ⟨⟨_, _, H⟩, ?_⟩))) ?z1
            case z1 => rw [sizeLine_eq]; simp only [q1, q2, q3]; omega
            refine spl_spec hgr A' _ _ _ _ (hA.mono (by omega)) H ?_
            rintro v G10 s hle10 H ⟨tg, rfl⟩
            have hx10 := hx8.trans (hle9.trans hle10)
            have hrb10 := hrb.le (hle9.trans hle10)
            refine addS H (fun th s H => cStr H fun ti s H => addS H (fun tj s H => callT1 V H rfl rfl rfl (Call_method1 rfl rfl rfl (nmCG V H (hx10 _ _ hcell) hoc (idxM (hevr.le hx10) (hpl.le hx10) hE.gr hrm (by omega) hA (nmL V H rfl ⟨G10, _, rfl, Le.refl _, hrb10, H, fun tk s H => strI (by omega) H fun tl s H => addS H (fun tm s H => cStr H fun tn s H => addS H (fun to s H => iaddS H (fun tp s H => stL V H fun s H => ?_) ?z2) ?z3) ?z4⟩) H)))) ?z5) ?z6
            case z2 => rw [sizeLine_eq]; simp only [Str.length_append, q1, q2, q3]; omega
            case z3 => rw [sizeLine_eq]; simp only [Str.length_append, q1, q2, q3]; omega
            case z4 => rw [sizeLine_eq]; simp only [Str.length_append, q1, q2, q3]; omega
            case z5 => rw [sizeLine_eq]; simp only [Str.length_append, q1, q2, q3]; omega
            case z6 => rw [sizeLine_eq]; simp only [Str.length_append, q1, q2, q3]; omega
            refine wpAny_execs_cons (wpAny_Assign_Name (wpAny_BinOp (callB V H rfl rfl rfl rfl (spliced_cons (nmL V H rfl (spliced_nil (lenL H (isList_le hbl ((hle9.trans hle10).trans H.le)) (by omega) fun tq s H => cInt H fun tr s H => addI H fun ts s H => stL V H fun s H => ?_)))))))
            rw [hsb] at H
            exact wpAny_execs_nil ⟨.inl rfl, G10, _, ⟨_, tp, ts, rfl, rfl, rfl⟩, hle9.trans hle10, H.swap⟩
          · rintro G8 ow' s' ⟨mm, tx, tu, rfl, hm1, hm2⟩ hle8 H
            rw [List.take_of_length_le (by simp; omega)] at hm1 hm2
            exact ⟨rfl, G8, mm, tx, tu, hx7.trans hle8, hm1, hm2, ⟨pst, ((hle6.trans hle7).trans hle8) _ _ htab⟩, H⟩
      · rintro fl s' ⟨rfl, G', mm, tx, tu, hle, hm1, hm2, htab, H⟩
        have hbd := td_bound hE (by omega) (sortT (keyF EE) EE) (fun x hx => (sortT_perm (keyF EE) (by omega)).mem_iff.mp hx) (emS, 0) (by simp)
        rw [(sortT_perm (keyF EE) (E := EE) (by omega)).length_eq] at hbd
        have he0 : emS.length = 0 := fix_len.2.2.2
        dsimp only at hbd ⊢
        have hml : (Txt.mul (Str.ofString "</d>") (((sortT (keyF EE) EE).foldl (tdS EE) (emS, 0)).2 : Int)).length ≤ 40 := mul_len (by omega)
        refine wpAny_execs_cons (wpAny_Return_some (wpAny_BinOp (nmL V H hm1 (wpAny_BinOp (cStr H fun ta s H => nmL V H hm2 (SB.mul (mulOkC (by omega) (by omega)) fun tb k => addS (H.tok k) (fun tc s H => ?_) ?z1))))))
        case z1 => rw [sizeLine_eq]; omega
        exact hQ tc G' s _ (hle04.trans hle) htab H.drop (sortT_perm _ (by omega)) (sortT_srt _ (by omega))
end
end Mine
end

section -- S13
open PySem PySem.W PyProof.Rows PySem.W.X PySem.Calls
set_option linter.unusedVariables false
set_option linter.unusedSimpArgs false
set_option maxRecDepth 100000
set_option maxHeartbeats 4000000
namespace Mine
noncomputable def pthR : List Str → Str
  | [a, b, c] => pthF a b c
  | _ => Str.empty
theorem rowOf_eq (x : Int) : rowOf x = [pcOf x 0, pcOf x 1, pcOf x 2] := rfl
theorem pcOf_mem (x : Int) (k : Nat) : pcOf x k ∈ PC := List.mem_of_getElem? (PC_get x k)
theorem PC_len' {a : Str} (h : a ∈ PC) : a.length ≤ 20 := of_decide_eq_true (List.all_eq_true.mp PC_len a h)
noncomputable def lawRows (ns : List Int) : List (List Str) := (xsOf ns).map rowOf
theorem lawRows_len (ns : List Int) : (lawRows ns).length ≤ 12 := by
  unfold lawRows xsOf
  simp; omega
theorem lawRows_ok (ns : List Int) : ∀ r ∈ lawRows ns, r.length ≤ 3 ∧ ∀ x ∈ r, x ∈ PC := by
  intro r hr
  obtain ⟨x, _, rfl⟩ := List.mem_map.mp hr
  rw [rowOf_eq]
  refine ⟨by simp, fun y hy => ?_⟩
  simp only [List.mem_cons, List.not_mem_nil, or_false] at hy
  rcases hy with rfl | rfl | rfl <;> exact pcOf_mem _ _
theorem pth_ok {r : List Str} {ns : List Int} (hr : r ∈ lawRows ns) : pathOk 4 (pthR r) = true ∧ nmsF 4 (pthR r) [] = stF r := by
  obtain ⟨x, _, rfl⟩ := List.mem_map.mp hr
  rw [rowOf_eq]
  have h := (path_ok (pcOf_mem x 0) (pcOf_mem x 1) (pcOf_mem x 2)).1
  unfold okB at h
  rw [Bool.and_eq_true, beq_iff_eq] at h
  exact h
theorem fold_sub : ∀ (ns : List (List Str)) (E : List (List Str)) (x : List Str), x ∈ E → x ∈ ns.foldl laidF E
  | [], E, x, h => h
  | N :: ns, E, x, h => fold_sub ns _ x (mem_laid.mpr (.inl h))
theorem fold_mem : ∀ (ns : List (List Str)) (E : List (List Str)) (N x : List Str), N ∈ ns → (∃ k, k < N.length ∧ x = N.take (k + 1)) → x ∈ ns.foldl laidF E
  | [], E, N, x, h, _ => nomatch h
  | M :: ns, E, N, x, h, hx => by
    rcases List.mem_cons.mp h with rfl | h
    · exact fold_sub ns _ x (mem_laid.mpr (.inr hx))
    · exact fold_mem ns _ N x h hx
theorem st58 : stF (rowOf 58) = [Str.ofString "b&&\"\"", Str.ofString "A>>\r\r\n\n\t\t", Str.ofString "a"] := by decide +kernel
theorem lawRows_two (ns : List Int) : 2 ≤ (everyF (lawRows ns)).length := by
  have h1 : ([] : List Str) ∈ everyF (lawRows ns) := fold_sub _ _ _ (by simp)
  have h2 : [Str.ofString "b&&\"\""] ∈ everyF (lawRows ns) := by
    refine fold_mem _ _ (stF (rowOf 58)) _ (List.mem_map.mpr ⟨rowOf 58, List.mem_map.mpr ⟨58, by simp [xsOf], rfl⟩, rfl⟩) ⟨0, by rw [st58]; simp, by rw [st58]; rfl⟩
  generalize everyF (lawRows ns) = E at h1 h2
  match E, h1, h2 with
  | [x], h1, h2 =>
    rw [List.mem_singleton] at h1 h2
    rw [← h1] at h2
    cases h2
  | _ :: _ :: _, _, _ => simp
section
variable {w : World} {os₀ : OsState} {G : Heap} {ow : Ow} {s : Shared} {A : Around} {E : Value → Shared → Prop}
theorem starL {a : Addr} {vs : List Value} {Q : List Value → Shared → Prop} (H : St w os₀ G ow s) (hl : G.IsList a vs.toArray) (hz : vs.length ≤ 1000) (h : ∀ s', St w os₀ G ow s' → Q vs s') : StarOf (model prg w) A E (.ref a) Q s := by
  have hl' := isList_le hl H.le
  have hT : s.TypeIs (.ref a) "list" := hl'.typeIs
  have H1 := H.push (P := objP (seqObj "list" #[] 0)) (seqObj "list" #[] 0) rfl rfl s.toks
  obtain ⟨c1, H1⟩ := H1.updS (· ++ vs.toArray)
  unfold StarOf notIterableAtAll
  exact wpAny_bind (wpAny_specialOf hT PySem.F.slot_list_iter.lookup (wpAny_pure ⟨rfl, collect_list hl' (h _ H1.drop) (by rw [sizeLine_eq]; omega)⟩))
noncomputable def PathsP (w : World) (os₀ : OsState) (L : Addr) (mm : Str → Option Value) (G : Heap) (texts : List Str) (ow : Ow) (fl : Flow) (s' : Shared) : Prop :=
  fl = .next ∧ ∃ G' acc, ∃ lo : List (Str × Tok), lo.map (·.1) = texts ∧ Le G G' ∧ St w os₀ G' ((L, nsP (upd mm (Str.ofString "paths") (.ref acc))) :: (acc, listP (strValues lo).toArray) :: ow) s'
theorem law_call {f : Addr} {vs : List Value} {ns : List Int} {Q : Value → Shared → Prop} (hf : G.IsList f vs.toArray) (hi : IntsAre vs ns) (hz : vs.length ≤ 100) (hA : AOk 30 A) (H : St w os₀ G ((23, objP (tabO #[])) :: (195, objP (tabO #[])) :: ow) s)
    (hQ : ∀ G' s', Le G G' → (∃ ps, G'.get? 23 = some (tabO ps)) → (∃ ps, G'.get? 195 = some (tabO ps)) → St w os₀ G' ow s' → Q (.bool true) s') : wpAny (model prg w) A (call (.ref 205) [.ref f]) Q E s := by
  refine enter (n := 29) [(Str.ofString "script", .ref f)] (fun y => if y = Str.ofString "script" then some (.ref f) else none) (fun y => none) (fun k => []) hA H rfl rfl (fun h X => ⟨_, _, _, _, rfl, X 204 _ rfl, rfl, rfl⟩) rfl rfl rfl rfl rfl rfl (fun _ => rfl) ?_ rfl rfl (fun env L A' s₁ V hA H => ?_) .nil (fun _ => rfl)
  · simp only [List.mem_cons, List.not_mem_nil, or_false, forall_eq_or_imp, forall_eq]; exact .inl rfl
  · dsimp only at V
    have H : St w os₀ G ((L, nsP fun y => if y = Str.ofString "script" then some (.ref f) else none) :: (23, objP (tabO #[])) :: (195, objP (tabO #[])) :: ow) s₁ := H
    -- rows = _law_pieces(script)
    refine wpAny_execs_cons (wpAny_Assign_Name (callGf V H rfl rfl rfl rfl (spliced_cons (nmL V H rfl (spliced_nil ⟨⟨_, _, H⟩, ?_⟩)))))
    refine pieces_spec hf hi hz A' _ _ _ _ (hA.mono (by omega)) H ?_
    rintro v G1 s hle1 H ⟨rl, rfl, hrl⟩
    change RowsAt G1 rl (lawRows ns) at hrl
    have hrok := lawRows_ok ns
    have hrlen := lawRows_len ns
    have hpth : ∀ r ∈ lawRows ns, pathOk 4 (pthR r) = true ∧ nmsF 4 (pthR r) [] = stF r := fun r hr => pth_ok hr
    have h2 := lawRows_two ns
    have hrow3 : ∀ r ∈ lawRows ns, ∃ a b c, r = [a, b, c] := fun r hr => by
      obtain ⟨x, _, rfl⟩ := List.mem_map.mp hr
      exact ⟨_, _, _, rowOf_eq x⟩
    generalize lawRows ns = rows at hrl hrok hrlen hpth h2 hrow3
    refine stL V H fun s H => ?_
    dsimp only
    obtain ⟨vr, hvr, hrows⟩ := id hrl
    have hvl := hrows.length
    obtain ⟨mm, hmm, H⟩ : ∃ mm, mm (Str.ofString "rows") = some (Value.ref rl) ∧ St w os₀ G1 ((L, nsP mm) :: (23, objP (tabO #[])) :: (195, objP (tabO #[])) :: ow) s := ⟨_, rfl, H⟩
    -- paths = [normpath(join('/', *row)) for row in rows]
    refine wpAny_execs_cons (wpAny_mono (Q := PathsP w os₀ L mm G1 (rows.map pthR) ((23, objP (tabO #[])) :: (195, objP (tabO #[])) :: ow)) (compU V (cl := []) rfl rfl (by decide +kernel) rfl rfl (by decide +kernel) ?_) ?_ fun _ _ e => e)
    rotate_left
    · rintro fl s ⟨rfl, G2, acc, lo, hlo, hle2, H⟩
      dsimp only
      obtain ⟨G3, hle3, hacc, H⟩ := H.swap.frzP
      have hlol : lo.length = rows.length := by rw [← List.length_map (f := fun x : Str × Tok => x.1), hlo, List.length_map]
      refine wpAny_execs_cons (wpAny_Return_some (wpAny_Compare1 (callGf V H rfl rfl rfl rfl (spliced_cons (callGf V H rfl rfl rfl rfl (spliced_cons (nmG V H rfl (spliced_cons (nmL V H rfl (spliced_cons (List_ (spliced_cons (List_ (spliced_nil (newLst H fun e0 s H => ?_)))))))))))))))
      obtain ⟨G4, hle4, he0, H⟩ := H.asL.frzL
      refine spliced_nil (newLst H fun e1 s H => ?_)
      obtain ⟨G5, hle5, he1, hpl1, H⟩ := H.asL.frzLp
      refine spliced_nil ⟨⟨_, _, H⟩, ?_⟩
      have h0 : RowsAt G5 e1 [[]] := ⟨_, he1, .cons (RowAt.le ⟨[], rfl, he0⟩ hle5) .nil⟩
      refine reduce_spec (isList_le hacc (hle4.trans hle5)) h0 hpl1 (by simp [GR]) (fun p hp => ?_) (by simp; omega) A' _ _ _ _ (hA.mono (by omega)) H ?_
      · have : p.1 ∈ rows.map pthR := by rw [← hlo]; exact List.mem_map.mpr ⟨p, hp, rfl⟩
        obtain ⟨r, hr, e⟩ := List.mem_map.mp this
        rw [← e]; exact (hpth r hr).1
      have hfold : (lo.map fun p => nmsF 4 p.1 []).foldl laidF [[]] = everyF rows := by
        unfold everyF
        congr 1
        rw [show (lo.map fun p => nmsF 4 p.1 []) = (lo.map (·.1)).map fun p => nmsF 4 p [] by rw [List.map_map]; rfl, hlo, List.map_map]
        exact List.map_congr_left fun r hr => (hpth r hr).2
      rw [hfold]
      rintro v G6 s hle6 H ⟨ra, rfl, hra, hrap⟩
      refine spliced_cons (List_ (spliced_nil (newLst H fun e2 s H => ?_)))
      obtain ⟨G7, hle7, he2, H⟩ := H.asL.frzL
      refine spliced_nil ⟨⟨_, _, H⟩, ?_⟩
      have hE := everyF_GE hrok
      have hEl := everyF_len hrok
      refine written_root hE (by omega) (hra.le hle7) (hrap.le hle7) ⟨[], rfl, he2⟩ (hA.mono (by omega)) H.swap fun tw G8 s hle8 ht23 H => ?_
      have hx : Le G1 G8 := hle2.trans (hle3.trans (hle4.trans (hle5.trans (hle6.trans (hle7.trans hle8)))))
      refine callGf V H rfl rfl rfl rfl (spliced_cons (nmL V H hmm (spliced_nil ⟨⟨_, _, H⟩, ?_⟩)))
      refine told_call (n := 20) (hrl.le hx) hrok hrlen h2 (hA.mono (by omega)) H.swap fun tt G9 s T hle9 ht195 H hTp hTs => ?_
      refine eqS ?_
      rw [told_eq_written hE (goodC hE) hTp hTs]
      simp only [beq_self_eq_true]
      obtain ⟨ps, hps⟩ := ht23
      exact hQ G9 _ (hle1.trans (hx.trans hle9)) ⟨ps, hle9 _ _ hps⟩ ht195 H.drop
    refine nmL V H hmm (iterList H (isList_le hvr H.le) fun it s H => ?_)
    refine compInU (Q := PathsP w os₀ L mm G1 (rows.map pthR) ((23, objP (tabO #[])) :: (195, objP (tabO #[])) :: ow)) (y := Str.ofString "paths") (ht := ?ht) (srcList hvr) hA V H ?hn (fun _ => []) ?h1 ?h2 rfl (fun C i out G' m' ow' => (∃ lo : List (Str × Tok), out = strValues lo ∧ lo.map (·.1) = (rows.take i).map pthR) ∧ ow' = (L, nsP mm) :: (23, objP (tabO #[])) :: (195, objP (tabO #[])) :: ow) (fun C => ⟨⟨[], rfl, rfl⟩, rfl⟩) ?_ ?_
    case ht => intro _ _; rfl
    case hn => simp; omega
    case h1 => intro _; rfl
    case h2 => rfl
    · rintro cenv C acc Vc i v out G2 m' ow' s' hi' hv ho ⟨⟨lo, rfl, hlo⟩, rfl⟩ hle2 H
      obtain ⟨b, r, rfl, hri, hrb⟩ := hrows.get i v (by simpa using hv)
      have hrm := List.mem_of_getElem? hri
      obtain ⟨pa, pb, pc, rfl⟩ := hrow3 r hrm
      have hrb := hrb.le hle2
      obtain ⟨lb, hlb, hbl⟩ := id hrb
      obtain ⟨⟨xa, ta⟩, ⟨xb, tb⟩, ⟨xc, tc⟩, rfl⟩ : ∃ x1 x2 x3, lb = [x1, x2, x3] := by
        match lb, hlb with
        | [x1, x2, x3], _ => exact ⟨_, _, _, rfl⟩
      simp only [List.map_cons, List.map_nil, List.cons.injEq, and_true] at hlb
      obtain ⟨rfl, rfl, rfl⟩ := hlb
      have hpc := (hrok _ hrm).2
      have ha := hpc xa (by simp)
      have hb := hpc xb (by simp)
      have hc := hpc xc (by simp)
      have hN := (path_ok ha hb hc).2
      simp only [okN, Bool.and_eq_true, decide_eq_true_eq, Bool.not_eq_true', List.all_eq_true] at hN
      obtain ⟨⟨⟨⟨⟨n0, n1⟩, n2⟩, n3⟩, n4⟩, n5⟩ := hN
      refine wpAny_assign_Name (stL Vc H fun s H => ?_)
      refine wpAny_pure (iteT rfl ?_)
      refine callGf Vc H rfl rfl rfl rfl (spliced_cons (wpAny_Call_NameR (nmG Vc H rfl (callWith_S2 (K := K0 w.params) H.topH rfl (spliced_more (cStr H fun t0 s H => items_star (nmL Vc H rfl (starL H hbl (by simp [strValues]) fun s H => spliced_none ⟨H.topH, ?_⟩))))))))
      refine join_spec (PC_len' ha) (PC_len' hb) (PC_len' hc) A' _ _ _ _ (hA.mono (by omega)) H ?_
      rintro v G3 s hle3 H ⟨tj, rfl⟩
      refine spliced_nil ⟨⟨_, _, H⟩, ?_⟩
      refine normpath_spec n0 n1 n2 n3 n4 n5 A' _ _ _ _ (hA.mono (by omega)) H ?_
      rintro v G4 s hle4 H ⟨tn, rfl⟩
      refine ⟨G4, _, _, ⟨⟨lo ++ [(pthR [xa, xb, xc], tn)], by simp [strValues]; rfl, ?_⟩, rfl⟩, hle3.trans hle4, H⟩
      rw [List.map_append, hlo, List.take_add_one, hri]; simp
    · rintro C acc out G2 m' ow' ho ⟨⟨lo, rfl, hlo⟩, rfl⟩ hle2
      rw [List.take_of_length_le (by simp; omega)] at hlo
      exact ⟨_, _, .refl _, fun s' H => ⟨rfl, G2, acc, lo, hlo, hle2, H⟩⟩
end
end Mine
end

section -- S14
open PySem PySem.W PyProof.Rows PySem.W.X PySem.Calls
set_option Elab.async true
set_option linter.unusedVariables false
set_option maxRecDepth 100000
set_option maxHeartbeats 4000000
namespace Mine
noncomputable def hid (h : Heap) (P : Addr) : Heap := h.update P fun _ => { cls := .none, data := .freed }
theorem hid_ne (h : Heap) {P b : Addr} (hb : b ≠ P) : (hid h P).get? b = h.get? b := Heap.get?_update_ne _ _ _ _ hb
theorem hid_none (h : Heap) (P : Addr) : (hid h P).get? P = none := by
  cases hq : (hid h P).get? P with
  | none => rfl
  | some o =>
    have := Heap.get?_some_iff.mp hq
    simp only [hid, Heap.update, Array.getElem?_modify] at this
    obtain ⟨h1, h2⟩ := this
    simp only [if_true, Option.map_eq_some_iff] at h1
    obtain ⟨_, _, rfl⟩ := h1
    cases h2
theorem K_no (P : Params) : ((kX.heap_1 P).lookup 23).isNone = true ∧ ((kX.heap_1 P).lookup 195).isNone = true := ⟨by kernel_rfl, by kernel_rfl⟩
theorem hid_get {h : Heap} {b : Addr} {o : Obj} (n1 : b ≠ 23) (n2 : b ≠ 195) (e : h.get? b = some o) : (hid (hid h 23) 195).get? b = some o := by rw [hid_ne _ n2, hid_ne _ n1]; exact e
theorem K0_in {P : Params} {h : Heap} (X : (kX.heap_1 P).In h) : (K0 P).In (hid (hid h 23) 195) := fun a o e => by
  have e' : (kX.heap_1 P).lookup a = some o := e
  refine hid_get (fun q => ?_) (fun q => ?_) (X a o e)
  · subst q; have := (K_no P).1; rw [e'] at this; cases this
  · subst q; have := (K_no P).2; rw [e'] at this; cases this
/- `k_head` makes for each constant a twin `tw..` and an equation `te..`; where a name `tw..` stands already it goes on with the constant itself. The equations of these constants are far too large for one file. -/
theorem law_holds.tw5389484754426515990 : True := trivial
theorem law_holds.tw17337603262699381481 : True := trivial
theorem law_holds.tw15759456685926392790 : True := trivial
theorem law_holds.tw723934997213226590 : True := trivial
theorem law_holds.tw1287794668844245411 : True := trivial
theorem law_holds.tw14479214429240233694 : True := trivial
theorem law_holds.tw1372012742513953645 : True := trivial
theorem law_holds.tw11310715605152030493 : True := trivial
theorem law_holds.tw5248350085051808127 : True := trivial
theorem law_holds.tw1832781179975386347 : True := trivial
theorem law_holds.tw3769339739266743318 : True := trivial
theorem law_holds.tw8909828626151137519 : True := trivial
theorem law_holds.tw4593294709026258786 : True := trivial
theorem law_holds.tw16893121556090616931 : True := trivial
theorem law_holds.tw15274831704391544125 : True := trivial
theorem law_holds.tw2442502879453312968 : True := trivial
theorem law_holds.tw14160533322030094474 : True := trivial
theorem law_holds.tw8191475993861738794 : True := trivial
theorem law_holds.tw6765152471904792315 : True := trivial
theorem law_holds.tw11100686419730198450 : True := trivial
theorem law_holds.tw14545874151571354728 : True := trivial
theorem law_holds.tw653560878884961445 : True := trivial
theorem law_holds.tw4889031023730116350 : True := trivial
theorem law_holds.tw12342728606916771844 : True := trivial
theorem law_holds.tw7910590604623066228 : True := trivial
theorem law_holds.tw6159533029260741167 : True := trivial
theorem law_holds.tw16805829885119392726 : True := trivial
theorem law_holds.tw4614512636035447770 : True := trivial
theorem law_holds.tw8249079356659094474 : True := trivial
theorem law_holds.tw15191720212996534143 : True := trivial
theorem law_holds.tw10028117763298573888 : True := trivial
theorem law_holds.tw3186734533307500241 : True := trivial
theorem law_holds.tw15448297888555860652 : True := trivial
theorem law_holds.tw16098122237329998606 : True := trivial
theorem law_holds.tw17255088995462705879 : True := trivial
theorem law_holds.tw5731563423909890137 : True := trivial
theorem law_holds.tw8634839017697508684 : True := trivial
theorem law_holds.tw4323815956820902445 : True := trivial
theorem law_holds.tw9779807473162285230 : True := trivial
theorem law_holds.tw3943428198234077543 : True := trivial
theorem law_holds.tw13397297893571687751 : True := trivial
theorem law_holds.tw602461330855297101 : True := trivial
theorem law_holds.tw9529696498207198238 : True := trivial
theorem law_holds.tw13780023080261437657 : True := trivial
theorem law_holds.tw1670043908289496885 : True := trivial
theorem law_holds.tw16470317323979864763 : True := trivial
theorem law_holds.tw2907507879108658156 : True := trivial
theorem law_holds.tw15352839923633478061 : True := trivial
theorem law_holds.tw10007947361888340627 : True := trivial
theorem law_holds.tw11404014056486942332 : True := trivial
theorem law_holds.tw13280740594461564331 : True := trivial
theorem law_holds.tw575232530192455986 : True := trivial
theorem law_holds.tw7221428835167493151 : True := trivial
theorem law_holds.tw8652346329174877282 : True := trivial
theorem law_holds.tw9849722394096787677 : True := trivial
theorem law_holds.tw9552830710289189752 : True := trivial
theorem law_holds.tw12134408205421670959 : True := trivial
theorem law_holds.tw14925382992726071281 : True := trivial
theorem law_holds.tw3776956092104397036 : True := trivial
theorem law_holds.tw11846676642670509255 : True := trivial
theorem law_holds.tw14497384708736915567 : True := trivial
theorem law_holds.tw10368410895845634921 : True := trivial
theorem law_holds.tw14983226153234331074 : True := trivial
theorem law_holds.tw15544829507116839252 : True := trivial
theorem law_holds.tw4581845663705801772 : True := trivial
theorem law_holds.tw179590077315354965 : True := trivial
theorem law_holds.tw14822640431511872941 : True := trivial
theorem law_holds.tw8970147916757833333 : True := trivial
theorem law_holds.tw4273555757443719353 : True := trivial
theorem law_holds.tw3912811242725288453 : True := trivial
theorem law_holds.tw2043166853727251185 : True := trivial
theorem law_holds.tw9168033884955339765 : True := trivial
theorem law_holds.tw13766487248619392586 : True := trivial
theorem law_holds.tw6499956759230125245 : True := trivial
theorem law_holds.tw12116493165278983582 : True := trivial
theorem law_holds.tw123295346585929383 : True := trivial
theorem law_holds.tw15607887362523206001 : True := trivial
theorem law_holds.tw14774650325386425613 : True := trivial
theorem law_holds.tw9207643191828677137 : True := trivial
theorem law_holds.tw5640673133297012132 : True := trivial
theorem law_holds.tw2269544990204364226 : True := trivial
theorem law_holds.tw1385162719727133579 : True := trivial
theorem law_holds.tw13154458805202713791 : True := trivial
theorem law_holds.tw3438298445031660282 : True := trivial
theorem law_holds.tw447027507633508388 : True := trivial
theorem law_holds.tw17180001009569633970 : True := trivial
theorem law_holds.tw10566571302883470556 : True := trivial
theorem law_holds.tw7185456241796803578 : True := trivial
theorem law_holds.tw12889056044993165476 : True := trivial
theorem law_holds.tw9992725586745946429 : True := trivial
theorem law_holds.tw8957123355933967898 : True := trivial
theorem law_holds.tw4818577856007422655 : True := trivial
theorem law_holds.tw13431030151845061361 : True := trivial
theorem law_holds.tw4781243967656130014 : True := trivial
theorem law_holds.tw14289194402921355359 : True := trivial
theorem law_holds.tw6896717019858035522 : True := trivial
theorem law_holds.tw9184033795430018204 : True := trivial
theorem law_holds.tw11781800970755023335 : True := trivial
theorem law_holds.tw13182730311906835528 : True := trivial
theorem law_holds.tw10666784280354678857 : True := trivial
theorem law_holds.tw11625900857008200698 : True := trivial
theorem law_holds.tw14988988175077273356 : True := trivial
theorem law_holds.tw5112083995522966620 : True := trivial
theorem law_holds.tw3910120701321347557 : True := trivial
theorem law_holds.tw14883556706271630602 : True := trivial
theorem law_holds.tw10242277825702978295 : True := trivial
theorem law_holds.tw17911580528928914924 : True := trivial
theorem law_holds.tw3882201998751590657 : True := trivial
theorem law_holds.tw1689763614830377041 : True := trivial
theorem law_holds.tw1377309892636839040 : True := trivial
theorem law_holds.tw15802469936163623734 : True := trivial
theorem law_holds.tw4464252984393422682 : True := trivial
theorem law_holds.tw13392613628428298086 : True := trivial
theorem law_holds.tw13301187468288870568 : True := trivial
theorem law_holds.tw10024239376800412576 : True := trivial
theorem law_holds.tw17852531216342647452 : True := trivial
theorem law_holds.tw17713402740875732926 : True := trivial
theorem law_holds.tw3756308257209627903 : True := trivial
theorem law_holds.tw11764581739189218997 : True := trivial
theorem law_holds.tw14498155544194170393 : True := trivial
theorem law_holds.tw5062152199769849712 : True := trivial
theorem law_holds.tw17499823404086765753 : True := trivial
theorem law_holds.tw9423440377400516374 : True := trivial
theorem law_holds.tw784011647948385275 : True := trivial
theorem law_holds.tw5506821171919863439 : True := trivial
theorem law_holds.tw10188763426450519768 : True := trivial
theorem law_holds.tw18234560199702728603 : True := trivial
theorem law_holds.tw12223724995276690173 : True := trivial
theorem law_holds.tw3158129796062787159 : True := trivial
theorem law_holds.tw3850375180904979519 : True := trivial
theorem law_holds.tw16461882675039125421 : True := trivial
theorem law_holds.tw302768837105346163 : True := trivial
theorem law_holds.tw2143268655074302082 : True := trivial
theorem law_holds.tw12780804625047726367 : True := trivial
theorem law_holds.tw3035144380315620824 : True := trivial
theorem law_holds.tw12303009252429188658 : True := trivial
theorem law_holds.tw1285599515219305098 : True := trivial
theorem law_holds.tw12831907817818079685 : True := trivial
theorem law_holds.tw10841264019214440115 : True := trivial
theorem law_holds.tw498061464947678834 : True := trivial
theorem law_holds.tw11097350217990362986 : True := trivial
theorem law_holds.tw12459966957829302596 : True := trivial
theorem law_holds.tw3253568177066640346 : True := trivial
theorem law_holds.tw2503670479209048990 : True := trivial
theorem law_holds.tw11633083819707477107 : True := trivial
theorem law_holds.tw2618386414584295968 : True := trivial
theorem law_holds.tw10486713781251687710 : True := trivial
theorem law_holds.tw8266603773606604290 : True := trivial
theorem law_holds.tw7408322871517469003 : True := trivial
theorem law_holds.tw2136269947727277649 : True := trivial
theorem law_holds.tw3366817510852727610 : True := trivial
theorem law_holds.tw545109181885906688 : True := trivial
theorem law_holds.tw16883458599210261866 : True := trivial
theorem law_holds.tw676263390381983339 : True := trivial
theorem law_holds.tw8984712037535005518 : True := trivial
theorem law_holds.tw4441770287765753910 : True := trivial
theorem law_holds.tw6776455111828631412 : True := trivial
theorem law_holds.tw5212653520564569363 : True := trivial
theorem law_holds.tw8441880690091102137 : True := trivial
theorem law_holds.tw12889673554181485818 : True := trivial
theorem law_holds.tw2644310842459337959 : True := trivial
theorem law_holds.tw4037582482628031876 : True := trivial
theorem law_holds.tw14997073306097389879 : True := trivial
theorem law_holds.tw14571795756577361901 : True := trivial
theorem law_holds.tw9606376775287448836 : True := trivial
theorem law_holds.tw13800757232730249582 : True := trivial
theorem law_holds.tw11609493526922420660 : True := trivial
theorem law_holds.tw16836969012518115619 : True := trivial
theorem law_holds.tw12476058986133298565 : True := trivial
theorem law_holds.tw16099233806120587224 : True := trivial
theorem law_holds.tw9682718004065560343 : True := trivial
theorem law_holds.tw15661869461025623997 : True := trivial
theorem law_holds.tw3426384778480675251 : True := trivial
theorem law_holds.tw4916342969005030805 : True := trivial
theorem law_holds.tw11484002064277903863 : True := trivial
theorem law_holds.tw724200737284857819 : True := trivial
theorem law_holds.tw17027635718292003107 : True := trivial
theorem law_holds.tw3956099054510807996 : True := trivial
theorem law_holds.tw18269650602155537469 : True := trivial
theorem law_holds.tw7497986649931050792 : True := trivial
theorem law_holds.tw631266038723830076 : True := trivial
theorem law_holds.tw9255152265573255198 : True := trivial
theorem law_holds.tw18090433342136740992 : True := trivial
theorem law_holds.tw15014403891855920072 : True := trivial
theorem law_holds.tw2075624079617657780 : True := trivial
theorem law_holds.tw14390095281932903014 : True := trivial
theorem law_holds.tw3850404396616230974 : True := trivial
theorem law_holds.tw8285764192309689115 : True := trivial
theorem law_holds : PySem.Challenge.rw_qw0047_01.Holds := by
  w_on
  o_law
  k_head
  case hw => w_witness2
  intro w s₀ s₁ mg mb hG hY a o pm cd doc dV kV ha hdata hcode hdfl hmg hgens args vals as hpre hlay hreads hwell hsys
  clear hdata hcode hdfl
  have ea : a = 205 := by
    have KX : (kX.heap_1 w.params).In s₁.heap := km_in_of hY
    have h1 := mg_of KX hG.T.g (n := Str.ofString "law") (v := .ref 205) rfl
    have h2 : mg (Str.ofString "law") = some (.ref a) := hmg
    rw [h1] at h2
    cases h2; rfl
  subst ea
  clear hmg
  have KX : (kX.heap_1 w.params).In s₁.heap := km_in_of hY
  have KT := km_tabs_of hY
  clear hY
  wrow_args hpre hlay hreads hwell hsys
  rename_i ns _ _ _ _ _ _ _ f vs _ hL _ _ _ hI _ hlen _
  have hz : vs.length ≤ 100 := by
    have h1 := hI.length
    have h2 : ¬ ((63 : Int) < (ns.length : Int)) := by assumption
    omega
  have g23 : s₁.heap.get? 23 = some (tabO #[]) := KT 23 (by decide)
  have g195 : s₁.heap.get? 195 = some (tabO #[]) := KT 195 (by decide)
  have hb0 : BI s₁.heap := by
    refine ⟨⟨mb, hG.T.b, hG.T.builtins⟩, ?_, ?_⟩
    · obtain ⟨bm, ob, b1, b2, b3, b4⟩ := hG.T.bmain
      have b5 := mg_of KX hG.T.g (n := Str.ofString "__builtins__") (v := .ref 4) rfl
      have b1 : mg (Str.ofString "__builtins__") = some (.ref bm) := b1
      rw [b5] at b1
      cases b1
      exact ⟨ob, b3, b4⟩
    · obtain ⟨mm, ⟨o, es, ep, h1, _⟩, _⟩ := (hG.T.seer (by decide +kernel)).mods
      exact ⟨o, h1⟩
  have H : St w s₁.os (hid (hid s₁.heap 23) 195) [(23, objP (tabO #[])), (195, objP (tabO #[]))] s₁ := by
    refine ⟨⟨K0_in KX, ?_⟩, fun b o e => ?_, fun p hp => ?_, fun p hp => ?_, by decide, hgens, rfl⟩
    · obtain ⟨⟨mb, ⟨o, es, ep, h1, h2⟩, h3⟩, ⟨ob, h4, h5⟩, o', h6⟩ := hb0
      exact ⟨⟨mb, ⟨o, es, ep, hid_get (by decide) (by decide) h1, h2⟩, h3⟩, ⟨ob, hid_get (by decide) (by decide) h4, h5⟩, o', hid_get (by decide) (by decide) h6⟩
    · by_cases n2 : b = 195
      · subst n2; rw [hid_none] at e; cases e
      · rw [hid_ne _ n2] at e
        by_cases n1 : b = 23
        · subst n1; rw [hid_none] at e; cases e
        · rw [hid_ne _ n1] at e; exact e
    · simp only [List.mem_cons, List.not_mem_nil, or_false] at hp
      rcases hp with rfl | rfl
      · exact ⟨_, g23, rfl⟩
      · exact ⟨_, g195, rfl⟩
    · simp only [List.mem_cons, List.not_mem_nil, or_false] at hp
      rcases hp with rfl | rfl
      · rw [hid_ne _ (by decide)]; exact hid_none _ _
      · exact hid_none _ _
  have hLG : (hid (hid s₁.heap 23) 195).IsList f vs.toArray := by
    obtain ⟨o, h1, h2, r⟩ := hL
    have n1 : f ≠ 23 := fun q => by
      subst q; rw [g23] at h1; cases h1; cases h2
    have n2 : f ≠ 195 := fun q => by
      subst q; rw [g195] at h1; cases h1; cases h2
    exact ⟨o, by rw [hid_ne _ n2, hid_ne _ n1]; exact h1, h2, r⟩
  have hA0 : AOk 30 callerA := ⟨rfl, by decide, by decide⟩
  refine law_call hLG hI hz hA0 H fun G' s' hle h23 h195 H' => ?_
  have old : ∀ b o, b ≠ 23 → b ≠ 195 → s₁.heap.get? b = some o → s'.heap.get? b = some o := fun b o n1 n2 e => H'.le _ _ (hle _ _ (by rw [hid_ne _ n2, hid_ne _ n1]; exact e))
  have t23 : isCodeTable s₁.heap 23 := ⟨27, _, _, KX 27 _ rfl, rfl, rfl, rfl⟩
  have t195 : isCodeTable s₁.heap 195 := ⟨199, _, _, KX 199 _ rfl, rfl, rfl, rfl⟩
  obtain ⟨p23, h23⟩ := h23
  obtain ⟨p195, h195⟩ := h195
  refine ⟨.inl ⟨.bool true, .bool true, [], rfl, fun cls => rfl, ReadsW.bool true, ?_, fun _ => ⟨.nil, nofun⟩⟩, ⟨fun b o e => ?_, fun b o e => ?_⟩, H'.os, .of_eq H'.gens⟩
  · show (WShape.has [] (.bool true) .bool && WTm.holds [] (.eq .res (.lit (.bool true))) _) = true
    have h1 : ∀ c : WCtx, c.res = some (.bool true) → WTm.holds [] (.eq .res (.lit (.bool true))) c = true := fun c hc => by
      simp only [WTm.holds, WTm.value, hc]
      simp [PySem.W.same]
    rw [h1 _ rfl, Bool.and_true]
    rfl
  · by_cases n1 : b = 23
    · subst n1
      rw [g23] at e; cases e
      exact .inr (.inl ⟨t23, rfl, #[], p23, rfl, by rw [Array.empty_append]; exact H'.le _ _ h23⟩)
    · by_cases n2 : b = 195
      · subst n2
        rw [g195] at e; cases e
        exact .inr (.inl ⟨t195, rfl, #[], p195, rfl, by rw [Array.empty_append]; exact H'.le _ _ h195⟩)
      · exact .inl (old b o n1 n2 e)
  · by_cases n1 : b = 23
    · subst n1; exact ⟨_, H'.le _ _ h23⟩
    · by_cases n2 : b = 195
      · subst n2; exact ⟨_, H'.le _ _ h195⟩
      · exact ⟨_, old b o n1 n2 e⟩
end Mine
end

open PySem PySem.W PyProof.Rows
theorem PySem.Challenge.cw_qw0047_01_holds : PySem.Challenge.rw_qw0047_01.Holds :=
  Mine.law_holds
