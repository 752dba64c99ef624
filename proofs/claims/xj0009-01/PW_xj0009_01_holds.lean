import PyProof.Rows.All
import Wide.All
import OpenK.AllK
import Wide.FinOn
import OpenK.XHead
import PySem.Challenge.RW_xj0009_01
set_option Elab.async false
set_option linter.all false
set_option linter.unusedVariables false
set_option linter.unusedSimpArgs false
section
namespace Mine
open PySem PySem.Calls PyProof.Rows PySem.W

noncomputable abbrev Cel := Addr × (Obj → Prop)

structure St (B : Shared) (cs : List Cel) (s : Shared) : Prop where
  keep : ∀ b o, B.heap.get? b = some o → s.heap.get? b = some o
  nodup : (cs.map Prod.fst).Nodup
  own : ∀ c ∈ cs, B.heap.get? c.1 = none ∧ ∃ o, s.heap.get? c.1 = some o ∧ c.2 o
  os : s.os = B.os
  gens : AllBare s.gens
  gkeep : ∀ (i : Nat) (g : GenState), B.gens[i]? = some g → s.gens[i]? = some g

inductive Upd (a : Addr) (P P' : Obj → Prop) : List Cel → List Cel → Prop
  | head {r} : Upd a P P' ((a, P) :: r) ((a, P') :: r)
  | tail {c r r'} : Upd a P P' r r' → Upd a P P' (c :: r) (c :: r')

inductive Del (a : Addr) : List Cel → List Cel → Prop
  | head {P r} : Del a ((a, P) :: r) r
  | tail {c r r'} : Del a r r' → Del a (c :: r) (c :: r')

theorem Upd.fst {a P P'} {cs cs' : List Cel} (U : Upd a P P' cs cs') : cs'.map Prod.fst = cs.map Prod.fst := by
  induction U with
  | head => rfl
  | tail _ ih => simp [ih]
theorem Upd.mem {a P P'} {cs cs' : List Cel} (U : Upd a P P' cs cs') : (a, P) ∈ cs := by
  induction U with
  | head => exact .head _
  | tail _ ih => exact .tail _ ih
theorem Upd.of {a P P'} {cs cs' : List Cel} (U : Upd a P P' cs cs') (hn : (cs.map Prod.fst).Nodup) : ∀ c ∈ cs', c = (a, P') ∨ (c.1 ≠ a ∧ c ∈ cs) := by
  induction U with
  | head =>
    intro c hc
    rw [List.map_cons, List.nodup_cons] at hn
    rcases List.mem_cons.mp hc with rfl | hc
    · exact .inl rfl
    · exact .inr ⟨fun e => hn.1 (by have q := List.mem_map_of_mem (f := Prod.fst) hc; rw [e] at q; exact q), .tail _ hc⟩
  | tail U ih =>
    rename_i c0 r r'
    intro c hc
    rw [List.map_cons, List.nodup_cons] at hn
    rcases List.mem_cons.mp hc with rfl | hc
    · exact .inr ⟨fun e => hn.1 (e ▸ List.mem_map_of_mem U.mem), .head _⟩
    · rcases ih hn.2 c hc with h | h
      · exact .inl h
      · exact .inr ⟨h.1, .tail _ h.2⟩
theorem Del.sub {a} {cs cs' : List Cel} (U : Del a cs cs') : cs'.Sublist cs := by
  induction U with
  | head => exact List.sublist_cons_self _ _
  | tail _ ih => exact ih.cons_cons _
theorem Del.ne {a} {cs cs' : List Cel} (U : Del a cs cs') (hn : (cs.map Prod.fst).Nodup) : ∀ c ∈ cs', c.1 ≠ a := by
  induction U with
  | head =>
    intro c hc
    rw [List.map_cons, List.nodup_cons] at hn
    exact fun e => hn.1 (by have q := List.mem_map_of_mem (f := Prod.fst) hc; rw [e] at q; exact q)
  | tail U ih =>
    rename_i c0 r r'
    intro c hc
    rw [List.map_cons, List.nodup_cons] at hn
    rcases List.mem_cons.mp hc with rfl | hc
    · intro e
      have : a ∈ r.map Prod.fst := by
        clear ih hn hc
        induction U with
        | head => exact List.mem_map_of_mem (.head _)
        | tail _ ih => rw [List.map_cons]; exact .tail _ (ih)
      exact hn.1 (e ▸ this)
    · exact ih hn.2 c hc

section
variable {B s : Shared} {cs cs' : List Cel} {h' : Heap} {t : Nat}

theorem St.mk' (h : St B cs s) (k : ∀ b o, B.heap.get? b = some o → h'.get? b = some o) (n : (cs'.map Prod.fst).Nodup)
    (o : ∀ c ∈ cs', B.heap.get? c.1 = none ∧ ∃ o, h'.get? c.1 = some o ∧ c.2 o) : St B cs' { s with heap := h', toks := t } := ⟨k, n, o, h.os, h.gens, h.gkeep⟩
theorem St.tok (H : St B cs s) (t : Nat) : St B cs { s with toks := t } := ⟨H.keep, H.nodup, H.own, H.os, H.gens, H.gkeep⟩
theorem St.ext (H : St B cs s) (k : ∀ b o, s.heap.get? b = some o → h'.get? b = some o) : St B cs { s with heap := h', toks := t } :=
  H.mk' (fun b o e => k b o (H.keep b o e)) H.nodup fun c hc => ⟨(H.own c hc).1, let ⟨o, a, b⟩ := (H.own c hc).2; ⟨o, k _ _ a, b⟩⟩
theorem St.free (H : St B cs s) : B.heap.get? s.heap.objs.size = none ∧ s.heap.objs.size ∉ cs.map Prod.fst := by
  refine ⟨?_, fun hm => ?_⟩
  · cases e : B.heap.get? s.heap.objs.size with
    | none => rfl
    | some o => exact absurd (Heap.lt_size (H.keep _ _ e)) (Nat.lt_irrefl _)
  · obtain ⟨c, hc, e⟩ := List.mem_map.mp hm
    obtain ⟨o, ho, _⟩ := (H.own c hc).2
    exact absurd (Heap.lt_size ho) (by rw [e]; exact Nat.lt_irrefl _)
theorem St.new (H : St B cs s) {P : Obj → Prop} (k : ∀ b o, s.heap.get? b = some o → h'.get? b = some o) (p : ∃ o, h'.get? s.heap.objs.size = some o ∧ P o) :
    St B ((s.heap.objs.size, P) :: cs) { s with heap := h', toks := t } := by
  refine H.mk' (fun b o e => k b o (H.keep b o e)) (by rw [List.map_cons, List.nodup_cons]; exact ⟨H.free.2, H.nodup⟩) fun c hc => ?_
  rcases List.mem_cons.mp hc with rfl | hc
  · exact ⟨H.free.1, p⟩
  · exact ⟨(H.own c hc).1, let ⟨o, a, b⟩ := (H.own c hc).2; ⟨o, k _ _ a, b⟩⟩
theorem St.push (H : St B cs s) {P : Obj → Prop} {o : Obj} (p : P o) (hf : o.isFreed = false := by rfl) :
    St B ((s.heap.objs.size, P) :: cs) { s with heap := s.heap.push o, toks := t } :=
  H.new (fun _ _ e => Heap.get?_push_of_some _ e) ⟨o, Heap.get?_push_size _ hf, p⟩
theorem St.get (H : St B cs s) {a : Addr} {P : Obj → Prop} (m : (a, P) ∈ cs) : ∃ o, s.heap.get? a = some o ∧ P o := (H.own _ m).2
theorem St.ne (H : St B cs s) {a b : Addr} {P : Obj → Prop} {o : Obj} (m : (a, P) ∈ cs) (e : B.heap.get? b = some o) : b ≠ a := by
  rintro rfl; have := (H.own _ m).1; rw [e] at this; cases this
theorem St.upd (H : St B cs s) {a : Addr} {P P' : Obj → Prop} (U : Upd a P P' cs cs') (hs : Heap.SameBut a s.heap h') (p : ∃ o, h'.get? a = some o ∧ P' o) :
    St B cs' { s with heap := h', toks := t } := by
  refine H.mk' (fun b o e => (hs.2 b (H.ne U.mem e)).trans (H.keep b o e)) (U.fst ▸ H.nodup) fun c hc => ?_
  rcases U.of H.nodup c hc with rfl | ⟨ne, hm⟩
  · exact ⟨(H.own _ U.mem).1, p⟩
  · exact ⟨(H.own c hm).1, let ⟨o, x, y⟩ := (H.own c hm).2; ⟨o, (hs.2 _ ne).trans x, y⟩⟩
theorem St.del (H : St B cs s) {a : Addr} (U : Del a cs cs') (ha : ∃ P, (a, P) ∈ cs) (hs : Heap.ExtBut a s.heap h') : St B cs' { s with heap := h', toks := t } := by
  obtain ⟨P, ha⟩ := ha
  refine H.mk' (fun b o e => hs b o (H.ne ha e) (H.keep b o e)) (H.nodup.sublist (U.sub.map _)) fun c hc => ?_
  have hm := U.sub.subset hc
  exact ⟨(H.own c hm).1, let ⟨o, x, y⟩ := (H.own c hm).2; ⟨o, hs _ _ (U.ne H.nodup c hc) x, y⟩⟩
theorem St.sub (H : St B cs s) (h : cs'.Sublist cs) : St B cs' s :=
  ⟨H.keep, H.nodup.sublist (h.map _), fun c hc => H.own c (h.subset hc), H.os, H.gens, H.gkeep⟩
theorem St.perm (H : St B cs s) (h : cs.Perm cs') : St B cs' s :=
  ⟨H.keep, (h.map _).nodup_iff.mp H.nodup, fun c hc => H.own c (h.mem_iff.mpr hc), H.os, H.gens, H.gkeep⟩
theorem St.weak (H : St B cs s) {a : Addr} {P P' : Obj → Prop} (U : Upd a P P' cs cs') (hp : ∀ o, P o → P' o) : St B cs' s := by
  refine ⟨H.keep, U.fst ▸ H.nodup, fun c hc => ?_, H.os, H.gens, H.gkeep⟩
  rcases U.of H.nodup c hc with rfl | ⟨_, hm⟩
  · exact ⟨(H.own _ U.mem).1, let ⟨o, x, y⟩ := (H.own _ U.mem).2; ⟨o, x, hp o y⟩⟩
  · exact H.own c hm
end

noncomputable def NsO (m : Str → Option Value) (o : Obj) : Prop := ∃ es ep, o.data = .dict es ep ∧ StrKeys es ∧ ∀ name, nsFind es name = m name
noncomputable def CellO (v : Option Value) (o : Obj) : Prop := o.data = .cell v
noncomputable def LstO (vs : List Value) (o : Obj) : Prop := ∃ n, o = { cls := .type "list", data := .seq vs.toArray n }
noncomputable def TupO (vs : List Value) (o : Obj) : Prop := ∃ n, o = { cls := .type "tuple", data := .seq vs.toArray n }
noncomputable def LitO (l : Addr) (i : Nat) (o : Obj) : Prop := o.cls = .type "list_iterator" ∧ o.data = .fields #[.ref l, .int i 0]
noncomputable def IsO (o' o : Obj) : Prop := o = o'

section
variable {B s : Shared} {cs : List Cel} {a : Addr}
theorem St.ns (H : St B cs s) {m} (h : (a, NsO m) ∈ cs) : s.heap.Ns a m := let ⟨o, x, es, ep, r⟩ := H.get h; ⟨o, es, ep, x, r⟩
theorem St.cell (H : St B cs s) {v} (h : (a, CellO v) ∈ cs) : s.heap.IsCell a v := H.get h
theorem St.plst (H : St B cs s) {vs} (h : (a, LstO vs) ∈ cs) : s.heap.PlainList a vs.toArray := by obtain ⟨o, x, n, rfl⟩ := H.get h; exact ⟨n, x⟩
theorem St.lst (H : St B cs s) {vs} (h : (a, LstO vs) ∈ cs) : s.heap.IsList a vs.toArray := (H.plst h).isList
theorem St.tup (H : St B cs s) {vs} (h : (a, TupO vs) ∈ cs) : s.heap.IsTuple a vs.toArray := by obtain ⟨o, x, n, rfl⟩ := H.get h; exact ⟨_, x, rfl, n, rfl⟩
theorem St.lit (H : St B cs s) {l i} (h : (a, LitO l i) ∈ cs) : s.heap.IsListIter a l i := H.get h
theorem St.is (H : St B cs s) {o} (h : (a, IsO o) ∈ cs) : s.heap.get? a = some o := by obtain ⟨o', x, y⟩ := H.get h; cases y; exact x
end
theorem nsO {h : Heap} {a : Addr} {m} (x : h.Ns a m) : ∃ o, h.get? a = some o ∧ NsO m o := let ⟨o, es, ep, e, r⟩ := x; ⟨o, e, es, ep, r⟩

structure Ok (A : Around) (k : Nat) : Prop where
  depth : A.depth + k < recursionLimit
  units : A.units + 8 * k + 8 < cLine
  handled : A.handled = none
  frames : ∃ fr, A.frames = some fr
theorem Ok.deeper {A : Around} {k : Nat} (h : Ok A (k + 1)) (env : Env) : Ok (A.deeper env) k :=
  ⟨by have := h.depth; show A.depth + 1 + k < _; lia, by have := h.units; show A.units + 3 + 8 * k + 8 < _; lia, h.handled, let ⟨fr, e⟩ := h.frames; ⟨env :: fr, by show A.frames.map _ = _; rw [e]; rfl⟩⟩
theorem Ok.le {A : Around} {k j : Nat} (h : Ok A k) (hj : j ≤ k) : Ok A j := ⟨by have := h.depth; lia, by have := h.units; lia, h.handled, h.frames⟩
theorem Ok.room {A : Around} {k : Nat} (h : Ok A k) : A.depth < recursionLimit := by have := h.depth; lia
theorem Ok.unit {A : Around} {k : Nat} (h : Ok A k) : A.units < cLine := by have := h.units; lia
end Mine
end
section
namespace Mine
open PySem PySem.Calls PyProof.Rows PySem.W

section
variable {prog : Program} {w : World} {A : Around} {E : Value → Shared → Prop} {B s : Shared} {cs cs' : List Cel} {env : Env} {Q : Value → Shared → Prop}

theorem n_local {x : Str} {pos : Pos} {m v} (H : St B cs s) (hm : (env.locals, NsO m) ∈ cs) (hv : m x = some v) (h : Q v s)
    (hk : env.scope.kind = .function := by rfl) (hl : env.kindOf x = some .local := by rfl) (hd : (x == ("__debug__" : Str)) = false := by decide) :
    wpAny (model prog w) A (eval (.Name x pos) env) Q E s := wpAny_Name (wpAny_loadName_local hk hl (H.ns hm) hv h) hd
theorem n_localL {x : Str} {m v} (H : St B cs s) (hm : (env.locals, NsO m) ∈ cs) (hv : m x = some v) (h : Q v s)
    (hk : env.scope.kind = .function := by rfl) (hl : env.kindOf x = some .local := by rfl) :
    wpAny (model prog w) A (loadName env x) Q E s := wpAny_loadName_local hk hl (H.ns hm) hv h
theorem n_cell {x : Str} {pos : Pos} {c : Addr} {v} (H : St B cs s) (hc : env.cells.lookup x = some c) (hm : (c, CellO (some v)) ∈ cs) (h : Q v s)
    (hk : env.scope.kind = .function := by rfl) (hl : env.kindOf x = some .cell := by rfl) (hd : (x == ("__debug__" : Str)) = false := by decide) :
    wpAny (model prog w) A (eval (.Name x pos) env) Q E s := wpAny_Name (wpAny_loadName_cell hk hl hc (H.cell hm) h) hd
theorem n_cellL {x : Str} {c : Addr} {v} (H : St B cs s) (hc : env.cells.lookup x = some c) (hm : (c, CellO (some v)) ∈ cs) (h : Q v s)
    (hk : env.scope.kind = .function := by rfl) (hl : env.kindOf x = some .cell := by rfl) :
    wpAny (model prog w) A (loadName env x) Q E s := wpAny_loadName_cell hk hl hc (H.cell hm) h
theorem n_free {x : Str} {pos : Pos} {c : Addr} {v} (H : St B cs s) (hc : env.cells.lookup x = some c) (hm : (c, CellO (some v)) ∈ cs) (h : Q v s)
    (hk : env.scope.kind = .function := by rfl) (hl : env.kindOf x = some .free := by rfl) (hd : (x == ("__debug__" : Str)) = false := by decide) (hn : (x == ("__classdict__" : Str)) = false := by decide) :
    wpAny (model prog w) A (eval (.Name x pos) env) Q E s := wpAny_Name (wpAny_loadName_free hk hl hc (H.cell hm) h hn) hd

structure Names (B : Shared) : Prop where
  gl : ∃ mg, B.heap.Ns mainGlobals mg ∧ mg "_strcoll" = some (.ref 129) ∧ mg "_grouping_intervals" = some (.ref 136) ∧ mg "_strip_padding" = some (.ref 143) ∧ mg "quotedata" = some (.ref 160) ∧
    mg "_law_numbers" = some (.ref 165) ∧ mg "_law_order" = some (.ref 170) ∧ mg "_law_page" = some (.ref 175) ∧ mg "_law_words" = some (.ref 182) ∧ mg "_law_exchange" = some (.ref 189) ∧ mg "_law_slide" = some (.ref 194) ∧
    mg "_law_mail" = some (.ref 199) ∧ mg "_law_cut" = some (.ref 206) ∧ mg "_law_grown" = some (.ref 211) ∧ mg "_Accumulator" = some (.ref 118) ∧ mg "_twin_re_1" = some (.ref 148) ∧ mg "_twin_re_2" = some (.ref 153) ∧
    (∃ t, mg "CRLF" = some (.str (Str.ofString "\r\n") t)) ∧ (∃ t, mg "CHAR_MAX" = some (.int 127 t)) ∧
    ∀ x ∈ (["sum", "range", "len", "chr", "ord", "min", "isinstance", "bool", "list", "super"] : List Str), mg x = none
  bi : ∃ mb, B.heap.Ns builtinsNs mb ∧ ∀ x ∈ (["sum", "range", "len", "chr", "ord", "min", "isinstance", "bool", "list", "super"] : List Str), mb x = bootBuiltins x
  lim : B.heap.NoLimit

theorem n_glob {x : Str} {pos : Pos} {v : Value} (H : St B cs s) (hg : ∃ mg, B.heap.Ns env.globals mg ∧ mg x = some v) (h : Q v s)
    (hk : env.scope.kind = .function := by rfl) (hl : env.kindOf x = some .globalImplicit := by rfl) (hd : (x == ("__debug__" : Str)) = false := by decide) :
    wpAny (model prog w) A (eval (.Name x pos) env) Q E s := by
  obtain ⟨mg, g, e⟩ := hg
  exact Name_function_global hk hl (loadGlobal_global (g.keeps H.keep) e h) hd
theorem n_blt {x : Str} {pos : Pos} {v : Value} (H : St B cs s) (N : Names B) (hx : x ∈ (["sum", "range", "len", "chr", "ord", "min", "isinstance", "bool", "list", "super"] : List Str)) (hv : bootBuiltins x = some v) (h : Q v s)
    (hg : env.globals = mainGlobals := by rfl) (hb : env.builtins = builtinsNs := by rfl)
    (hk : env.scope.kind = .function := by rfl) (hl : env.kindOf x = some .globalImplicit := by rfl) (hd : (x == ("__debug__" : Str)) = false := by decide) :
    wpAny (model prog w) A (eval (.Name x pos) env) Q E s := by
  obtain ⟨mg, g, e⟩ := N.gl
  obtain ⟨mb, b, e2⟩ := N.bi
  have e1 := e.2.2.2.2.2.2.2.2.2.2.2.2.2.2.2.2.2.2 x hx
  exact Name_function_global hk hl (loadGlobal_builtin (hg ▸ g.keeps H.keep) e1 (hb ▸ b.keeps H.keep) ((e2 x hx).trans hv) h) hd

theorem s_local {x : Str} {m v} {Q : Unit → Shared → Prop} (H : St B cs s) {m' : Str → Option Value} (U : Upd env.locals (NsO m) (NsO fun y => if y = x then some v else m y) cs cs')
    (h : ∀ s', St B cs' s' → Q () s')
    (hk : env.scope.kind = .function := by rfl) (hl : env.kindOf x = some .local := by rfl) :
    wpAny (model prog w) A (storeName env x v) Q E s :=
  wpAny_storeName_local hl (H.ns U.mem) (fun h' hn hs => h _ (H.upd U hs (nsO hn))) (by rw [hk]; rfl)
theorem s_cell {x : Str} {c : Addr} {v₀ v} {Q : Unit → Shared → Prop} (H : St B cs s) (hc : env.cells.lookup x = some c) (U : Upd c (CellO v₀) (CellO (some v)) cs cs')
    (h : ∀ s', St B cs' s' → Q () s')
    (hk : env.scope.kind = .function := by rfl) (hl : env.kindOf x = some .cell := by rfl) :
    wpAny (model prog w) A (storeName env x v) Q E s :=
  wpAny_storeName_cell hk hl hc (H.cell U.mem) fun h' hv hs => h _ (H.upd (t := s.toks) U hs hv)

theorem c_int {i k pos} (H : St B cs s) (h : ∀ t s', St B cs s' → Q (.int i t) s') : wpAny (model prog w) A (eval (.Constant (.int i) k pos) env) Q E s := wpAny_Constant_int (h _ _ (H.tok _))
theorem c_str {x : Str} {k pos} (H : St B cs s) (h : ∀ t s', St B cs s' → Q (.str x t) s') : wpAny (model prog w) A (eval (.Constant (.str x) k pos) env) Q E s := wpAny_Constant_str (h _ _ (H.tok _))

variable {a b : Int} {t u : Tok}
theorem i_add (H : St B cs s) (h : ∀ t s', St B cs s' → Q (.int (a + b) t) s') : wpAny (model prog w) A (binaryOp .Add (.int a t) (.int b u)) Q E s := PyProof.Rows.add_int (h _ _ (H.tok _))
theorem i_iadd (H : St B cs s) (h : ∀ t s', St B cs s' → Q (.int (a + b) t) s') : wpAny (model prog w) A (inplaceOp .Add (.int a t) (.int b u)) Q E s := PyProof.Rows.iadd_int (h _ _ (H.tok _))
theorem i_sub (H : St B cs s) (h : ∀ t s', St B cs s' → Q (.int (a - b) t) s') : wpAny (model prog w) A (binaryOp .Sub (.int a t) (.int b u)) Q E s := PyProof.Rows.sub_int (h _ _ (H.tok _))
theorem i_isub (H : St B cs s) (h : ∀ t s', St B cs s' → Q (.int (a - b) t) s') : wpAny (model prog w) A (inplaceOp .Sub (.int a t) (.int b u)) Q E s := PyProof.Rows.isub_int (h _ _ (H.tok _))
theorem i_mul (H : St B cs s) (hm : IntMulOk a b) (h : ∀ t s', St B cs s' → Q (.int (a * b) t) s') : wpAny (model prog w) A (binaryOp .Mult (.int a t) (.int b u)) Q E s := PyProof.Rows.mul_int (h _ _ (H.tok _)) hm
theorem i_mod (H : St B cs s) (hb : b ≠ 0) (h : ∀ t s', St B cs s' → Q (.int (a.fmod b) t) s') : wpAny (model prog w) A (binaryOp .Mod (.int a t) (.int b u)) Q E s := PyProof.Rows.mod_int hb (h _ _ (H.tok _))
theorem i_div (H : St B cs s) (hb : b ≠ 0) (hp : Builtin.divisionGoesByPylong a b = false ∨ PySem.PylongRoom (model prog w) A s) (h : ∀ t s', St B cs s' → Q (.int (a.fdiv b) t) s') :
    wpAny (model prog w) A (binaryOp .FloorDiv (.int a t) (.int b u)) Q E s := PyProof.Rows.floordiv_int hb (h _ _ (H.tok _)) hp
theorem b_sub {p q : Bool} (H : St B cs s) (h : ∀ t s', St B cs s' → Q (.int (b2i p - b2i q) t) s') : wpAny (model prog w) A (binaryOp .Sub (.bool p) (.bool q)) Q E s := PyProof.Rows.sub_bool (h _ _ (H.tok _))

variable {x y : Str}
theorem t_add (H : St B cs s) (hsz : x.length + y.length ≤ sizeLine) (h : ∀ t s', St B cs s' → Q (.str (x ++ y) t) s') : wpAny (model prog w) A (binaryOp .Add (.str x t) (.str y u)) Q E s :=
  PyProof.Rows.add_str (fun _ _ => h _ _ (H.tok _)) hsz
theorem t_iadd (H : St B cs s) (hsz : x.length + y.length ≤ sizeLine) (h : ∀ t s', St B cs s' → Q (.str (x ++ y) t) s') : wpAny (model prog w) A (inplaceOp .Add (.str x t) (.str y u)) Q E s :=
  PyProof.Rows.iadd_str (fun _ _ => h _ _ (H.tok _)) hsz
end
end Mine
end
section
namespace Mine
open PySem PySem.Calls PyProof.Rows PySem.W

noncomputable def stOf (i : Nat) : Stmt := PySem.Challenge.pw_xj0009_01.main.body.getD i (.Pass default)
noncomputable def stIn (i : Nat) : Stmt := match stOf 4 with
  | .ClassDef _ _ _ body _ _ _ _ _ _ _ => body.getD i (.Pass default)
  | _ => .Pass default
noncomputable def fdOf (st : Stmt) (qual : Str) (cl : List (Str × Addr)) (dV pm cd ct : Value) : FuncData := match st with
  | .FunctionDef name args body _ _ _ scope _ _ _ => { name := name, qualname := qual, params := args, body := .stmts body, scope := scope, globals := mainGlobals, closure := cl, defaults := dV, kwdefaults := .none, doc := .none, pyModule := pm, annotations := none, code := cd, closureTuple := ct, builtins := builtinsNs }
  | _ => default

noncomputable def FnAt (h : Heap) (a : Addr) (F : Value → Value → Value → FuncData) : Prop := ∃ o pm cd ct, h.get? a = some o ∧ o.data = .func (F pm cd ct) ∧ h.CodeRec cd (F pm cd ct).qualname

section
variable {prog : Program} {w : World} {A : Around} {E : Value → Shared → Prop} {B s : Shared} {cs cs' : List Cel} {env : Env} {Q : Value → Shared → Prop}

theorem call_fn {a : Addr} {F : Value → Value → Value → FuncData} {name qual : Str} {params : Arguments} {body : List Stmt} {scope : Scope} {cl : List (Str × Addr)} {dV : Value} {args : List Value} {binds : List (Str × Value)} {k : Nat}
    (hF : FnAt B.heap a F) (hfd : ∀ pm cd ct, F pm cd ct = fnX name qual params body scope cl dV .none .none pm none cd ct) (ok : Ok A (k + 1)) (N : Names B) (H : St B cs s)
    (hbind : ∀ pm cd ct, BindsTo s (fnX name qual params body scope cl dV .none .none pm none cd ct) ⟨args, []⟩ binds)
    (h : ∀ L cd s1 E', Ok (A.deeper (envX qual scope L a cd cl)) k → St B ((L, NsO fun x => binds.reverse.lookup x) :: cs) s1 →
      wpAny (model prog w) (A.deeper (envX qual scope L a cd cl)) (execs body (envX qual scope L a cd cl)) (fun f s' => Q (match f with | .ret v => v | _ => .none) s') E' s1)
    (hloc : ∀ x ∈ binds, scope.names.lookup x.1 = some .local := by exact locs rfl)
    (hcell : ∀ x ∈ scope.names, x.2 ≠ .cell := by decide)
    (hco : scope.isCoroutine = false := by rfl) (hgen : scope.isGenerator = false := by rfl) (hk : scope.kind = .function := by rfl) :
    wpAny (model prog w) A (call (.ref a) args) Q E s := by
  obtain ⟨o, pm, cd, ct, ho, hd, hc⟩ := hF
  rw [hfd] at hd hc
  refine wpAny_call (codeAny_call_def ok.room (H.keep _ _ ho) hd (N.lim.keeps H.keep) (hc.keeps H.keep) rfl (hbind pm cd ct) hcell hloc (fun h₀ hn hk' => ?_) hco hgen hk)
  exact h _ cd _ _ (ok.deeper _) (H.new (t := s.toks + binds.length) hk' (nsO hn))

theorem e_call {id : Str} {p pos : Pos} {args : List Expr} {Q : Value → Shared → Prop} (h : wpAny (model prog w) A (eval (.Name id p) env) (fun f s₁ => wpAny (model prog w) A (callWith pos f [] (backTo pos (starEach args env)) []) Q E s₁) E s) :
    wpAny (model prog w) A (eval (.Call (.Name id p) args [] pos) env) Q E s := wpAny_Call_Name_kw h
theorem cw_fn {a : Addr} {F : Value → Value → Value → FuncData} {pos : Pos} {e : Expr} {rest : List Expr} (hF : FnAt B.heap a F)
    (h : wpAny (model prog w) A (spliced (backTo pos (starEach (e :: rest) env))) (fun vs s₁ => (∃ cs₁, St B cs₁ s₁) ∧ wpAny (model prog w) A (call (.ref a) vs) Q E s₁) E s)
    (he : starEach (e :: rest) env = (false, eval e env) :: starEach rest env := by rfl) (hp : (backTo pos (starEach (e :: rest) env)).any (·.1) = false := by rfl) :
    wpAny (model prog w) A (callWith pos (.ref a) [] (backTo pos (starEach (e :: rest) env)) []) Q E s := by
  obtain ⟨o, pm, cd, ct, ho, hd, hc⟩ := hF
  refine callWith_function (o := o) (fd := F pm cd ct) ?_
  rw [he] at h ⊢
  refine evalArgs_plain (wpAny_mono h (fun vs s₁ h₁ => ?_) fun _ _ x => x)
  obtain ⟨⟨cs₁, H₁⟩, h₁⟩ := h₁
  exact ⟨⟨H₁.keep _ _ ho, hd⟩, h₁⟩
theorem cw_blt {id : String} {pos : Pos} {e : Expr} {rest : List Expr}
    (h : wpAny (model prog w) A (spliced (backTo pos (starEach (e :: rest) env))) (fun vs s₁ => wpAny (model prog w) A (call (.builtin id) vs) Q E s₁) E s)
    (he : starEach (e :: rest) env = (false, eval e env) :: starEach rest env := by rfl) (hp : (backTo pos (starEach (e :: rest) env)).any (·.1) = false := by rfl) :
    wpAny (model prog w) A (callWith pos (.builtin id) [] (backTo pos (starEach (e :: rest) env)) []) Q E s := by
  refine callWith_builtin hp ?_
  rw [he] at h ⊢
  exact evalArgs_plain h
end

end Mine
end
section
namespace Mine
open PySem PySem.Calls PyProof.Rows PySem.W

section
variable {prog : Program} {w : World} {A : Around} {E : Value → Shared → Prop} {B s : Shared} {cs cs' : List Cel} {env : Env} {Q : Value → Shared → Prop}

theorem sub_list {value slice : Expr} {l : Addr} {vs : List Value} {k : Int} {t : Tok} {x : Value} (H : St B cs s) (hm : (l, LstO vs) ∈ cs) (h0 : 0 ≤ k) (hk : k < 2 ^ 63) (hx : vs[k.toNat]? = some x) (h : Q x s)
    (hs : subscripted slice false (.ref l) (.int k t) = operate [.ref l, .int k t] (getItem (.ref l) (.int k t)) := by with_unfolding_all rfl) :
    wpAny (model prog w) A (subscriptTail value slice (.ref l) (.int k t)) Q E s :=
  tail_any (H.lst hm).typeIs slot_list_getitem.lookup (wpAny_getItem_list (H.lst hm) h0 hk (by simpa using hx) h) hs
theorem get_list {l : Addr} {vs : List Value} {k : Int} {t : Tok} {x : Value} (H : St B cs s) (hm : (l, LstO vs) ∈ cs) (h0 : 0 ≤ k) (hk : k < 2 ^ 63) (hx : vs[k.toNat]? = some x) (h : Q x s) :
    wpAny (model prog w) A (getItem (.ref l) (.int k t)) Q E s := wpAny_getItem_list (H.lst hm) h0 hk (by simpa using hx) h
theorem sub_tup {value slice : Expr} {l : Addr} {vs : List Value} {k : Int} {t : Tok} {x : Value} (H : St B cs s) (hm : (l, TupO vs) ∈ cs) (h0 : 0 ≤ k) (hk : k < vs.length) (hz : vs.length < 2 ^ 63) (hx : vs[k.toNat]? = some x) (h : Q x s)
    (hs : subscripted slice false (.ref l) (.int k t) = operate [.ref l, .int k t] (getItem (.ref l) (.int k t)) := by with_unfolding_all rfl) :
    wpAny (model prog w) A (subscriptTail value slice (.ref l) (.int k t)) Q E s :=
  item_tupleT (H.tup hm) (by lia) (by (clear h0; lia)) (seqIndex_of h0 hk) hx h hs
theorem sub_str {value slice : Expr} {x : Str} {k : Int} {t u : Tok} {c : Nat} (H : St B cs s) (h0 : 0 ≤ k) (hk : k < x.length) (hz : x.length ≤ sizeLine) (hx : x.cps[k.toNat]? = some c) (h : ∀ t s', St B cs s' → Q (.str ⟨#[c]⟩ t) s')
    (hs : subscripted slice false (.str x t) (.int k u) = operate [.str x t, .int k u] (getItem (.str x t) (.int k u)) := by with_unfolding_all rfl) :
    wpAny (model prog w) A (subscriptTail value slice (.str x t) (.int k u)) Q E s := by
  refine tail_any (typeIs_str s x t) slot_str_getitem.lookup (PyProof.Rows.getItem_str (c := c) ?_ ?_ (h _ _ (H.tok _))) hs
  · rw [sizeLine_eq] at hz
    rw [decide_eq_false (by lia), decide_eq_false (by (clear h0; lia))]; rfl
  · rw [seqIndex_of h0 hk]; exact hx

noncomputable abbrev slObj (l u st : Value) : Obj := { cls := .type "slice", data := .fields #[l, u, st] }
theorem e_slice {lower upper step : Option Expr} {p : Pos}
    (h : wpAny (model prog w) A (evalPart lower env) (fun l s₁ => wpAny (model prog w) A (evalPart upper env) (fun u s₂ => wpAny (model prog w) A (evalPart step env) (fun st s₃ =>
      Q (.ref s₃.heap.objs.size) { s₃ with heap := s₃.heap.push (slObj l u st) }) E s₂) E s₁) E s) :
    wpAny (model prog w) A (eval (.Slice lower upper step p) env) Q E s := wpAny_Slice h
theorem St.slice (H : St B cs s) (l u st : Value) : St B cs { s with heap := s.heap.push (slObj l u st) } := H.ext (t := s.toks) fun _ _ e => Heap.get?_push_of_some _ e
theorem slice_list' {l : Addr} {vs : List Value} {vl vu vk : Value} {lo hi st : Option Int} (H : St B cs s) (hm : (l, LstO vs) ∈ cs) (pl : IsPart vl lo) (pu : IsPart vu hi) (ps : IsPart vk st) (h0 : st ≠ some 0) (hz : vs.length ≤ sizeLine)
    (h : ∀ D s', St B ((D, LstO (slicePick vs.toArray lo hi st).toList) :: cs) s' → Q (.ref D) s') :
    wpAny (model prog w) A (getItem (.ref l) (.ref s.heap.objs.size)) Q E { s with heap := s.heap.push (slObj vl vu vk) } := by
  have H1 := H.slice vl vu vk
  refine wpAny_getItem_list_slice (H1.lst hm) (Heap.IsSliceOf.new ..) pl pu ps h0 ?_ (by simpa using hz)
  exact h _ _ (H1.push (P := LstO (slicePick vs.toArray lo hi st).toList) (t := s.toks) ⟨0, rfl⟩)
theorem slice_list {value slice : Expr} {l : Addr} {vs : List Value} {vl vu vk : Value} {lo hi st : Option Int} {ops : List Value} (H : St B cs s) (hm : (l, LstO vs) ∈ cs) (pl : IsPart vl lo) (pu : IsPart vu hi) (ps : IsPart vk st) (h0 : st ≠ some 0) (hz : vs.length ≤ sizeLine)
    (h : ∀ D s', St B ((D, LstO (slicePick vs.toArray lo hi st).toList) :: cs) s' → Q (.ref D) s')
    (hs : subscripted slice false (.ref l) (.ref s.heap.objs.size) = operate ops (getItem (.ref l) (.ref s.heap.objs.size))) :
    wpAny (model prog w) A (subscriptTail value slice (.ref l) (.ref s.heap.objs.size)) Q E { s with heap := s.heap.push (slObj vl vu vk) } :=
  tail_any ((H.slice vl vu vk).lst hm).typeIs slot_list_getitem.lookup (slice_list' H hm pl pu ps h0 hz h) hs

theorem slice_str {value slice : Expr} {x : Str} {t : Tok} {l u : Option (Int × Tok)} {ops : List Value} (H : St B cs s) (hz : x.length ≤ sizeLine)
    (h : ∀ t s', St B cs s' → Q (.str (Txt.slice x (l.map (·.1)) (u.map (·.1))) t) s')
    (hs : subscripted slice false (.str x t) (.ref s.heap.objs.size) = operate ops (getItem (.str x t) (.ref s.heap.objs.size))) :
    wpAny (model prog w) A (subscriptTail value slice (.str x t) (.ref s.heap.objs.size)) Q E { s with heap := s.heap.push (slObj (partValue l) (partValue u) .none) } := by
  have H1 := H.slice (partValue l) (partValue u) .none
  refine tail_any (typeIs_str _ x t) F.slot_str_getitem.lookup (wpAny_getItem_str_slice (l := l) (u := u) (st := none) ⟨_, Heap.get?_push_size _ rfl, rfl, rfl⟩ rfl ?_) hs
  exact post_val_or_str ⟨Nat.le_trans (Txt.slice_le x _ _) hz, fun t' k => h _ _ (H1.tok k)⟩
theorem txt_slice {x : Str} {i j : Int} (h0 : 0 ≤ i) (h1 : i ≤ j) (h2 : j ≤ x.length) : Txt.slice x (some i) (some j) = ⟨((x.cps.toList.drop i.toNat).take (j - i).toNat).toArray⟩ := eq_of_beq (slice_closesL h0 h1 h2)
theorem txt_slice_to {x : Str} {j : Int} (h0 : 0 ≤ j) (h2 : j ≤ x.length) : Txt.slice x none (some j) = ⟨(x.cps.toList.take j.toNat).toArray⟩ := by
  have := eq_of_beq (slice_closes_toL h0 h2); simpa using this

theorem d_list {elts : List Expr} {pos : Pos}
    (h : wpAny (model prog w) A (spliced (backTo pos (starEach elts env))) (fun vs s₁ => ∃ cs₁, St B cs₁ s₁ ∧ vs.length ≤ sizeLine ∧ ∀ D s', St B ((D, LstO vs) :: cs₁) s' → Q (.ref D) s') E s) :
    wpAny (model prog w) A (eval (.List elts pos) env) Q E s :=
  wpAny_List_spliced (wpAny_mono h (fun vs s₁ ⟨cs₁, H₁, hz, h₁⟩ => ⟨hz, h₁ _ _ (H₁.push (t := s₁.toks) ⟨0, rfl⟩)⟩) fun _ _ x => x)
theorem d_tup {elts : List Expr} {x1} {pos : Pos}
    (h : wpAny (model prog w) A (spliced (backTo pos (starEach elts env))) (fun vs s₁ => ∃ cs₁, St B cs₁ s₁ ∧ vs.length ≤ sizeLine ∧ ∀ D s', St B ((D, TupO vs) :: cs₁) s' → Q (.ref D) s') E s) :
    wpAny (model prog w) A (eval (.Tuple elts x1 pos) env) Q E s :=
  wpAny_Tuple_spliced (wpAny_mono h (fun vs s₁ ⟨cs₁, H₁, hz, h₁⟩ => ⟨hz, h₁ _ _ (H₁.push (t := s₁.toks) ⟨0, rfl⟩)⟩) fun _ _ x => x)

theorem f_len_str {x : Str} {t : Tok} (H : St B cs s) (hz : x.length ≤ sizeLine) (h : ∀ t s', St B cs s' → Q (.int x.length t) s') : wpAny (model prog w) A (call (.builtin "len") [.str x t]) Q E s :=
  PyProof.Rows.len_str (by rw [sizeLine_eq] at hz; lia) (h _ _ (H.tok _))
theorem f_len_list {l : Addr} {vs : List Value} (H : St B cs s) (hm : (l, LstO vs) ∈ cs) (hz : vs.length < 2 ^ 63) (h : ∀ t s', St B cs s' → Q (.int vs.length t) s') : wpAny (model prog w) A (call (.builtin "len") [.ref l]) Q E s :=
  PyProof.Rows.len_list (H.lst hm) (by rw [List.size_toArray]; lia) (by rw [List.size_toArray]; exact h _ _ (H.tok _))
theorem f_chr {i : Int} {t : Tok} (H : St B cs s) (h0 : 0 ≤ i) (h1 : i ≤ 1114111) (h : ∀ t s', St B cs s' → Q (.str ⟨#[i.toNat]⟩ t) s') : wpAny (model prog w) A (call (.builtin "chr") [.int i t]) Q E s :=
  chr_of_range h0 h1 (h _ _ (H.tok _))
theorem f_ord {c : Nat} {t : Tok} (H : St B cs s) (h : ∀ t s', St B cs s' → Q (.int c t) s') : wpAny (model prog w) A (call (.builtin "ord") [.str ⟨#[c]⟩ t]) Q E s := P.ord_of_char (h _ _ (H.tok _))

theorem mapSeq_plain (f : Array Value → Array Value) (c : Value) (its : Array Value) (n : Nat) : ∃ n', Obj.mapSeq f { cls := c, data := .seq its n } = { cls := c, data := .seq (f its) n' } := by
  simp only [Obj.mapSeq]; split <;> exact ⟨_, rfl⟩
theorem f_append {l : Addr} {vs : List Value} {x : Value} (H : St B cs s) (U : Upd l (LstO vs) (LstO (vs ++ [x])) cs cs') (hz : vs.length ≤ sizeLine) (h : ∀ s', St B cs' s' → Q .none s') :
    wpAny (model prog w) A (call (.builtin "list.append") [.ref l, x]) Q E s :=
  wpAny_list_append_plain (H.plst U.mem) (fun h' ⟨n, e⟩ hs => h _ (H.upd (t := s.toks) U hs ⟨_, e, n, by simp⟩)) (by simpa using hz)
theorem set_list {l : Addr} {vs : List Value} {k : Int} {t : Tok} {v : Value} {Q : Unit → Shared → Prop} (H : St B cs s) (U : Upd l (LstO vs) (LstO (vs.set k.toNat v)) cs cs') (h0 : 0 ≤ k) (hf : k < 2 ^ 63) (hn : k < vs.length)
    (h : ∀ s', St B cs' s' → Q () s') : wpAny (model prog w) A (setItem (.ref l) (.int k t) v) Q E s := by
  obtain ⟨n, ho⟩ := H.plst U.mem
  have hl := H.lst U.mem
  unfold setItem
  refine wpAny_holding ?_
  refine wpAny_bind (wpAny_sequenceKey hl.typeIs (by decide) ?_)
  refine wpAny_bind (wpAny_callSpecial?_slot (name := Str.ofString "__setitem__") hl.typeIs slot_list_setitem
    (wpAny_call_entry slot_list_setitem hl.typeIs entry_list_setitem ?_ (args_list_setitem _ _ _)))
  show wpAny _ _ (Builtin.List.listSubscript? (.int k t) >>= _) _ _ s
  refine wpAny_bind (wpAny_listSubscript_int (fitsIndex_of h0 hf) ?_)
  obtain ⟨j, rfl⟩ := Int.eq_ofNat_of_zero_le h0
  have hj : j < vs.length := by lia
  have hx : vs.toArray[j]? = some vs[j] := by simp [hj]
  show wpAny _ _ ((seqItemAt l j >>= fun r => pure (r.map (j, ·))) >>= _) _ _ s
  refine wpAny_bind (wpAny_bind (wpAny_seqItemAt ho rfl (wpAny_pure ?_)))
  rw [hx]
  show wpAny _ _ (setSeqItemAt l j v >>= _) _ _ s
  refine wpAny_bind (wpAny_setSeqItemAt ho rfl (wpAny_pure ⟨.none, rfl, wpAny_pure (h _ ?_)⟩))
  obtain ⟨n', e⟩ := mapSeq_plain (·.setIfInBounds j v) (.type "list") vs.toArray n
  exact H.upd (t := s.toks) U (Heap.SameBut.update ..) ⟨_, Heap.get?_update_self _ ho (by rw [e]; rfl), n', by rw [e]; simp⟩
end
end Mine
end
section
namespace Mine
open PySem PySem.Calls PyProof.Rows PySem.W

structure Iter (prog : Program) (w : World) (A : Around) (B : Shared) (it : Value) {α : Type} (P : α → Value → Prop) (I : List α → List Cel) (J : List Cel) : Prop where
  next : ∀ {a as R s} {Q : Option Value → Shared → Prop} {E}, St B (I (a :: as) ++ R) s → (∀ v s', P a v → St B (I as ++ R) s' → Q (some v) s') → wpAny (model prog w) A (pyNext it) Q E s
  stop : ∀ {R s} {Q : Option Value → Shared → Prop} {E}, St B (I [] ++ R) s → (∀ s', St B (J ++ R) s' → Q none s') → wpAny (model prog w) A (pyNext it) Q E s
  self : ∀ {as R s Q E}, St B (I as ++ R) s → Q it s → wpAny (model prog w) A (pyIter it) Q E s
  own : ∀ {as R s target v} {Q : Unit → Shared → Prop} {E}, St B (I as ++ R) s → Q () s → wpAny (model prog w) A (letOwnedTupleGo target it v) Q E s

section
variable {prog : Program} {w : World} {A : Around} {E : Value → Shared → Prop} {B s : Shared} {cs cs' : List Cel} {env : Env} {Q : Value → Shared → Prop}

theorem own_of {it : Addr} {o : Obj} {n : String} {vs : Array Value} {target : Expr} {v : Value} {Q : Unit → Shared → Prop} (ho : s.heap.get? it = some o) (hc : o.cls = .type n) (hd : o.data = .fields vs)
    (hn : (["enumerate", "zip", "dict_itemiterator", "dict_reverseitemiterator", "odict_iterator", "itertools.zip_longest", "itertools.pairwise"] : List String).contains n = false) (hQ : Q () s) :
    wpAny (model prog w) A (letOwnedTupleGo target (.ref it) v) Q E s := by
  unfold letOwnedTupleGo
  have key : wpAny (model prog w) A (do
      let (.ref r, .ref a) := ((Value.ref it), v) | return
      let o ← load r
      match o.cls, o.data with
      | .type n, .fields vs =>
        if ["enumerate", "zip", "dict_itemiterator", "dict_reverseitemiterator", "odict_iterator", "itertools.zip_longest", "itertools.pairwise"].contains n && vs[0]? == some (rawInt a) then
          rule "for.unpacks-the-owned-tuple"
          updateField r 0 .none
      | _, _ => pure ()) Q E s := by
    cases v <;> first | exact wpAny_pure hQ | skip
    refine wpAny_bind (wpAny_load ho ?_)
    rw [hc, hd]
    dsimp only
    rw [hn, Bool.false_and]
    exact wpAny_pure hQ
  split
  · exact key
  · exact key
  · exact wpAny_pure hQ

theorem iter_list {it l : Addr} {vs : List Value} (hh : A.handled = none) : Iter prog w A B (.ref it) (fun (a v : Value) => a = v)
    (fun as => [(it, fun o => as.length ≤ vs.length ∧ as = vs.drop (vs.length - as.length) ∧ LitO l (vs.length - as.length) o), (l, LstO vs)]) [(l, LstO vs)] where
  next := fun {a as R s Q E} H h => by
    obtain ⟨o, ho, hle, has, hit⟩ := H.get (.head _)
    have hi : s.heap.IsListIter it l (vs.length - (a :: as).length) := ⟨o, ho, hit⟩
    rw [List.length_cons] at hle has hi
    have hx : vs[vs.length - (as.length + 1)]? = some a := by
      have : (vs.drop (vs.length - (as.length + 1)))[0]? = some a := by rw [← has]; rfl
      simpa using this
    refine wpAny_pyNext_list_item hi (H.lst (.tail _ (.head _))) (x := a) (by simpa using hx) fun h' hit' hs => ?_
    refine h a _ rfl (H.upd (t := s.toks) .head hs ?_)
    obtain ⟨o', e, r⟩ := hit'
    have e1 : vs.length - as.length = vs.length - (as.length + 1) + 1 := by lia
    refine ⟨o', e, by (exact Nat.le_of_lt (by assumption)), ?_, e1 ▸ r⟩
    rw [e1]
    have h2 : vs.drop (vs.length - (as.length + 1)) = a :: as := has.symm
    have h3 := congrArg List.tail h2
    rw [List.tail_drop] at h3
    exact h3.symm
  stop := fun {R s Q E} H h => by
    obtain ⟨o, ho, _, _, hit⟩ := H.get (.head _)
    have hi : s.heap.IsListIter it l vs.length := ⟨o, ho, hit⟩
    refine wpAny_pyNext_list_end hh hi (H.lst (.tail _ (.head _))) (by simp) fun h' hs => ?_
    exact h _ (H.del (t := s.toks) .head ⟨_, .head _⟩ hs)
  self := fun {as R s Q E} H h => by
    obtain ⟨o, ho, _, _, hit⟩ := H.get (.head _)
    exact wpAny_pyIter_listiter (l := l) (i := vs.length - as.length) ⟨o, ho, hit⟩ h
  own := fun {as R s target v Q E} H h => by
    obtain ⟨o, ho, _, _, hc, hd⟩ := H.get (.head _)
    exact own_of ho hc hd (by decide) h

theorem pyIter_list {l : Addr} {vs : List Value} (H : St B ((l, LstO vs) :: cs) s)
    (h : ∀ it s', St B ([(it, fun o => vs.length ≤ vs.length ∧ vs = vs.drop (vs.length - vs.length) ∧ LitO l (vs.length - vs.length) o), (l, LstO vs)] ++ cs) s' → Q (.ref it) s') :
    wpAny (model prog w) A (pyIter (.ref l)) Q E s := by
  refine wpAny_pyIter_list (H.lst (.head _)) (h _ _ (H.push (t := s.toks) ⟨Nat.le_refl _, ?_, ?_⟩))
  · simp
  · exact ⟨rfl, by simp⟩

noncomputable def upR (a : Int) : Nat → List Int
  | 0 => []
  | n + 1 => a :: upR (a + 1) n
theorem iter_range {it : Addr} {b : Int} (hh : A.handled = none) : Iter prog w A B (.ref it) (fun (a : Int) v => ∃ t, v = .int a t)
    (fun as => [(it, fun o => as = upR (b - as.length) as.length ∧ o = { cls := .type "range_iterator", dict := none, data := .fields #[rawInt (b - as.length), rawInt as.length, rawInt 1], slots := #[] })]) [] where
  next := fun {a as R s Q E} H h => by
    obtain ⟨o, ho, has, rfl⟩ := H.get (.head _)
    rw [List.length_cons] at ho has
    have has' : a = b - ((as.length + 1 : Nat) : Int) ∧ as = upR (b - ((as.length + 1 : Nat) : Int) + 1) as.length := List.cons.inj has
    obtain ⟨ha, has2⟩ := has'
    refine wpAny_pyNext_range_item (it := it) ho (by (clear has ho; lia)) fun h' hit' hs => ?_
    rw [← ha]
    refine h _ _ ⟨_, rfl⟩ (H.upd .head hs ⟨_, hit', ?_, ?_⟩)
    · have e1 : b - ((as.length + 1 : Nat) : Int) + 1 = b - as.length := by push_cast; lia
      rw [e1] at has2; exact has2
    · have e1 : b - ((as.length + 1 : Nat) : Int) + 1 = b - as.length := by push_cast; lia
      have e2 : ((as.length + 1 : Nat) : Int) - 1 = as.length := by push_cast; lia
      rw [e1, e2]
  stop := fun {R s Q E} H h => by
    obtain ⟨o, ho, _, rfl⟩ := H.get (.head _)
    refine wpAny_pyNext_range_end hh (it := it) ho (by simp) fun h' hs => ?_
    exact h _ (H.del (t := s.toks) .head ⟨_, .head _⟩ hs)
  self := fun {as R s Q E} H h => by
    obtain ⟨o, ho, _, rfl⟩ := H.get (.head _)
    exact wpAny_pyIter_rangeiter ho h
  own := fun {as R s target v Q E} H h => by
    obtain ⟨o, ho, _, rfl⟩ := H.get (.head _)
    exact own_of ho rfl rfl (by decide) h
end
end Mine
end
section
namespace Mine
open PySem PySem.Calls PyProof.Rows PySem.W

section
variable {prog : Program} {w : World} {A : Around} {E : Value → Shared → Prop} {B s : Shared} {cs cs' : List Cel} {env : Env}

theorem r_while {σ : Type} (R : σ → List Cel) (K : σ → Prop) (μ : σ → Nat) {test : Expr} {body orelse : List Stmt} {pos : Pos} {Q : Flow → Shared → Prop} (x0 : σ)
    (H : St B (R x0) s) (k0 : K x0)
    (turn : ∀ x s E', K x → St B (R x) s → wpAny (model prog w) A (isTrue test env (eval test env)) (fun b s2 => if b = true then
        wpAny (model prog w) A (execs body env) (fun f s3 => f = .next ∧ ∃ x', K x' ∧ μ x' < μ x ∧ St B (R x') s3) E' s2
      else wpAny (model prog w) A (execs orelse env) Q E' s2) E' s) :
    wpAny (model prog w) A (exec (.While test body orelse pos) env) Q E s := by
  refine wpAny_While (codeAny_whileLoop (fun n s' => ∃ x, n = μ x ∧ K x ∧ St B (R x) s') ?_ (μ x0) ⟨x0, rfl, k0, H⟩)
  rintro n s' ⟨x, rfl, kx, Hx⟩
  refine wpAny_mono (turn x s' _ kx Hx) (fun b s2 h2 => ?_) fun _ _ e => e
  cases b with
  | false => exact h2
  | true => exact wpAny_mono h2 (fun f s3 ⟨e, x', k', l', H'⟩ => by subst e; exact ⟨μ x', l', x', rfl, k', H'⟩) fun _ _ e => e

theorem r_whileE {σ : Type} (R : σ → List Cel) (K Kf : σ → Prop) (μ : σ → Nat) {test : Expr} {body : List Stmt} {pos : Pos} {Q : Flow → Shared → Prop} (x0 : σ)
    (H : St B (R x0) s) (k0 : K x0)
    (turn : ∀ x s E', K x → St B (R x) s → wpAny (model prog w) A (isTrue test env (eval test env)) (fun b s2 => if b = true then
        wpAny (model prog w) A (execs body env) (fun f s3 => f = .next ∧ ∃ x', K x' ∧ μ x' < μ x ∧ St B (R x') s3) E' s2
      else ∃ x', Kf x' ∧ St B (R x') s2) E' s)
    (fin : ∀ x s', Kf x → St B (R x) s' → Q .next s') :
    wpAny (model prog w) A (exec (.While test body [] pos) env) Q E s := by
  refine r_while R K μ x0 H k0 fun x s E' kx Hx => wpAny_mono (turn x s E' kx Hx) (fun b s2 h2 => ?_) fun _ _ e => e
  cases b with
  | true => exact h2
  | false => obtain ⟨x', k', H'⟩ := h2; exact wpAny_execs_nil (fin x' s2 k' H')

theorem r_for {α : Type} {P : α → Value → Prop} {I : List α → List Cel} {J : List Cel} {it : Value} (hI : Iter prog w A B it P I J) {σ : Type} (R : σ → List Cel) (K : List α → σ → Prop)
    {target : Expr} {body : List Stmt} {Q : Flow → Shared → Prop} {as0 : List α} {x0 : σ} (H : St B (I as0 ++ R x0) s) (k0 : K as0 x0)
    (turn : ∀ a as v x s E', P a v → K (a :: as) x → St B (I as ++ R x) s → wpAny (model prog w) A (assign target env v) (fun _ s2 =>
        wpAny (model prog w) A (execs body env) (fun f s3 => f = .next ∧ ∃ x', K as x' ∧ St B (I as ++ R x') s3) E' s2) E' s)
    (fin : ∀ x s', K [] x → St B (J ++ R x) s' → Q .next s') :
    codeAny (model prog w) A (.forLoop target it body [] env) (fun r s' => match r with | .ok f => Q f s' | .error e => cameBackBy (model prog w) A env E e s') s := by
  refine codeAny_forLoop_any (fun n s' => ∃ as x, n = as.length ∧ K as x ∧ St B (I as ++ R x) s') ?_ as0.length ⟨as0, x0, rfl, k0, H⟩
  rintro n s' ⟨as, x, rfl, kx, Hx⟩
  cases as with
  | nil => exact hI.stop Hx fun s1 H1 => wpAny_execs_nil (fin x s1 kx H1)
  | cons a as =>
    refine hI.next Hx fun v s1 hp H1 => ?_
    refine hI.own H1 ?_
    refine wpAny_mono (turn a as v x s1 _ hp kx H1) (fun _ s2 h2 => ?_) fun _ _ e => e
    exact wpAny_mono h2 (fun f s3 ⟨e, x', k', H'⟩ => by subst e; exact ⟨as.length, Nat.lt_succ_self _, as, x', rfl, k', H'⟩) fun _ _ e => e

noncomputable abbrev tests (ifs : List Expr) (env : Env) : Sem Bool := forIn ifs true fun c r => if r = true then do let ok ← isTrue c env (eval c env); pure (ForInStep.yield ok) else pure (ForInStep.yield r)

theorem c_start {elt : Expr} {gens : List Comprehension} {g : Comprehension} {scope : Scope} {pos : Pos} {it acc : Value} {d : Nat} {R : Result → Shared → Prop} (hg : gens[d]? = some g) (ha : g.is_async = 0)
    (h0 : codeAny (model prog w) A (.compLoop (.ListComp elt gens scope pos) d it acc env) R s)
    (h : wpAny (model prog w) A (pyIter it) (fun it' s' => codeAny (model prog w) A (.compLoop (.ListComp elt gens scope pos) d it' acc env) R s')
      (notedBy (model prog w) A env fun x s' => R (.error x) s') s) :
    codeAny (model prog w) A (.compStart (.ListComp elt gens scope pos) d it acc env) R s := by
  refine codeAny_of_tree ?_
  show wpAny _ _ ((compStart (.ListComp elt gens scope pos) d it acc env).onRaise (fun x => do noteFrame x env; standAt theWindowsPlace)) _ _ s
  refine wpAny_notedAt ?_
  unfold compStart
  have e1 : (clausesOf (.ListComp elt gens scope pos))[d]? = some g := hg
  rw [e1]
  simp only [Option.elim, ha, bne_self_eq_false, Bool.false_eq_true, if_false]
  refine wpAny_bind (wpAny_askSetting (wpAny_ite ?_))
  split
  · exact wpAny_bind (wpAny_pure (wpAny_pure (And.intro rfl h0)))
  · refine wpAny_bind (wpAny_rule (wpAny_bind (wpAny_standAt (wpAny_bind (wpAny_mono h (fun it' s' h' => wpAny_pure (And.intro rfl h')) fun _ _ x => x)))))

theorem c_loop1 {α : Type} {P : α → Value → Prop} {I : List α → List Cel} {J : List Cel} {it : Value} (hI : Iter prog w A B it P I J) {σ ζ : Type} (R : σ → List Cel) (Z : ζ → List Cel) (K : List α → List Value → σ → Prop)
    {elt target iter : Expr} {ifs : List Expr} {scope : Scope} {pos : Pos} {D : Addr} {Q : Result → Shared → Prop}
    {as0 : List α} {ys0 : List Value} {x0 : σ} {z0 : ζ} (H : St B (Z z0 ++ ((D, LstO ys0) :: (I as0 ++ R x0))) s) (k0 : K as0 ys0 x0)
    (turn : ∀ a as v x ys z s E', P a v → K (a :: as) ys x → St B (Z z ++ ((D, LstO ys) :: (I as ++ R x))) s → wpAny (model prog w) A (assign target env v) (fun _ s2 =>
        wpAny (model prog w) A (tests ifs env) (fun ok s3 => if ok = true then
            wpAny (model prog w) A (eval elt env) (fun y s4 => ∃ x' z', ys.length ≤ sizeLine ∧ K as (ys ++ [y]) x' ∧ St B (Z z' ++ ((D, LstO ys) :: (I as ++ R x'))) s4) E' s3
          else ∃ x' z', K as ys x' ∧ St B (Z z' ++ ((D, LstO ys) :: (I as ++ R x'))) s3) E' s2) E' s)
    (fin : ∀ x ys z s', K [] ys x → St B (Z z ++ ((D, LstO ys) :: (J ++ R x))) s' → Q (.ok .next) s') :
    codeAny (model prog w) A (.compLoop (.ListComp elt [⟨target, iter, ifs, 0⟩] scope pos) 0 it (.ref D) env) Q s := by
  have up : ∀ (z : ζ) (ys ys' : List Value) (X : List Cel), Upd D (LstO ys) (LstO ys') (Z z ++ ((D, LstO ys) :: X)) (Z z ++ ((D, LstO ys') :: X)) := fun z ys ys' X => by
    induction Z z with
    | nil => exact .head
    | cons c r ih => exact .tail ih
  refine codeAny_loop rfl (fun n s' => ∃ as ys x z, n = as.length ∧ K as ys x ∧ St B (Z z ++ ((D, LstO ys) :: (I as ++ R x))) s') ?_ as0.length ⟨as0, ys0, x0, z0, rfl, k0, H⟩
  rintro n s' ⟨as, ys, x, z, rfl, kx, Hx⟩
  show wpAny _ A ((compTurn (.ListComp elt [⟨target, iter, ifs, 0⟩] scope pos) 0 it (.ref D) env).onRaise (fun x => do noteFrame x env; theTreesLotGoes x)) _ _ s'
  refine wpAny_noted ?_
  rw [compTurn_list]
  refine wpAny_bind (wpAny_standAt (wpAny_bind ?_))
  have pm : ∀ (as : List α) (X : List Cel), (Z z ++ ((D, LstO ys) :: (I as ++ X))).Perm (I as ++ (Z z ++ ((D, LstO ys) :: X))) := fun as X => by
    have := List.perm_append_comm_assoc (Z z ++ [(D, LstO ys)]) (I as) X
    simpa using this
  cases as with
  | nil =>
    refine hI.stop (Hx.perm (pm [] (R x))) fun s1 H1 => wpAny_pure (fin x ys z s1 kx (H1.perm ?_))
    have := List.perm_append_comm_assoc J (Z z ++ [(D, LstO ys)]) (R x)
    simpa using this
  | cons a as =>
    refine hI.next (Hx.perm (pm (a :: as) (R x))) fun v s1 hp H1 => ?_
    refine wpAny_bind (hI.own H1 ?_)
    refine wpAny_bind (wpAny_mono (turn a as v x ys z s1 _ hp kx (H1.perm (pm as (R x)).symm)) (fun _ s2 h2 => ?_) fun _ _ e => e)
    refine wpAny_bind (wpAny_mono h2 (fun ok s3 h3 => ?_) fun _ _ e => e)
    cases ok with
    | false =>
      obtain ⟨x', z', k', H'⟩ := h3
      exact wpAny_pure ⟨rfl, as.length, Nat.lt_succ_self _, as, ys, x', z', rfl, k', H'⟩
    | true =>
      refine wpAny_bind (wpAny_bind (wpAny_mono h3 (fun y s4 h4 => ?_) fun _ _ e => e))
      obtain ⟨x', z', hz, k', H'⟩ := h4
      refine wpAny_bind (f_append H' (up z' ys _ _) hz fun s5 H5 => wpAny_pure (wpAny_pure ⟨rfl, as.length, Nat.lt_succ_self _, as, ys ++ [y], x', z', rfl, k', H5⟩))

theorem newEnv0 {scope : Scope} {globals : Addr} {cl : List (Str × Addr)} {qual : Str} {o : Env} {Q : Env → Shared → Prop} (H : St B cs s) (hcell : ∀ x ∈ scope.names, x.2 ≠ .cell) (hk : scope.kind = .function)
    (h : ∀ C s', St B ((C, NsO fun _ => none) :: cs) s' → Q { scope, locals := C, globals, cells := cl, qual, func := none, code := o.code, frame := o.frame, builtins := o.builtins } s') :
    wpAny (model prog w) A (newFunctionEnv scope globals cl [] qual none .none (some o)) Q E s := by
  refine wpAny_newFunctionEnv hcell (by intro y hy; simp at hy) (fun h₁ hns hsb => ?_) hk
  exact h _ _ (H.new (t := s.toks) (fun b o e => hsb.extBut b o (Nat.ne_of_lt (Heap.lt_size e)) (Heap.get?_push_of_some _ e)) (nsO hns))

theorem newEnv1 {scope : Scope} {globals : Addr} {cl : List (Str × Addr)} {qual : Str} {o : Env} {x : Str} {Q : Env → Shared → Prop} (H : St B cs s)
    (h1 : ∀ n, cellsFrom n scope.names cl = (x, n) :: cl) (h2 : ∀ h : Heap, pushCells h scope.names = h.push { cls := .type "cell", data := .cell none })
    (h : ∀ C c s', St B ((C, NsO fun _ => none) :: (c, CellO none) :: cs) s' → Q { scope, locals := C, globals, cells := (x, c) :: cl, qual, func := none, code := o.code, frame := o.frame, builtins := o.builtins } s') :
    wpAny (model prog w) A (newFunctionEnv scope globals cl [] qual none .none (some o)) Q E s := by
  simp only [newFunctionEnv, Option.isSome_some, if_true]
  refine wpAny_bind (wpAny_alloc ?_)
  refine wpAny_bind (wpAny_layCells _ (fun name kind cells => by cases hkc : kind == NameKind.cell <;> simp [hkc]) _ _ _ _ ?_)
  rw [h1, h2]
  simp only [List.forIn_nil]
  refine wpAny_bind (wpAny_pure (wpAny_pure ?_))
  have H1 := H.push (P := NsO fun _ => none) (o := { cls := .type "dict", data := .dict #[] }) (t := s.toks) ⟨#[], 0, rfl, fun _ he => by simp at he, fun _ => rfl⟩
  have H2 := H1.push (P := CellO none) (o := { cls := .type "cell", data := .cell none }) (t := s.toks) rfl
  exact h _ _ _ (H2.perm (.swap ..))
end
end Mine
end
section
namespace Mine
open PySem PySem.Calls PyProof.Rows PySem.W

theorem Upd.app {a : Addr} {P P' : Obj → Prop} {X X' : List Cel} (U : Upd a P P' X X') : ∀ Z : List Cel, Upd a P P' (Z ++ X) (Z ++ X')
  | [] => U
  | _ :: r => .tail (U.app r)

section
variable {prog : Program} {w : World} {A : Around} {E : Value → Shared → Prop} {B s : Shared} {cs cs' : List Cel} {env : Env}

noncomputable def Turn (prog : Program) (w : World) (A : Around) (B : Shared) (cenv : Env) (elt target : Expr) (ifs : List Expr) (D : Addr) {α σ ζ : Type} (P : α → Value → Prop) (I : List α → List Cel) (R : σ → List Cel) (Z : ζ → List Cel) (K : List α → List Value → σ → Prop) : Prop :=
  ∀ a as v x ys z s E', P a v → K (a :: as) ys x → St B (Z z ++ ((D, LstO ys) :: (I as ++ R x))) s → wpAny (model prog w) A (assign target cenv v) (fun _ s2 =>
        wpAny (model prog w) A (tests ifs cenv) (fun ok s3 => if ok = true then
            wpAny (model prog w) A (eval elt cenv) (fun y s4 => ∃ x' z', ys.length ≤ sizeLine ∧ K as (ys ++ [y]) x' ∧ St B (Z z' ++ ((D, LstO ys) :: (I as ++ R x'))) s4) E' s3
          else ∃ x' z', K as ys x' ∧ St B (Z z' ++ ((D, LstO ys) :: (I as ++ R x'))) s3) E' s2) E' s

noncomputable abbrev Z0 (C : Addr) (m : Str → Option Value) : List Cel := [(C, NsO m)]
noncomputable abbrev Z1 (C c : Addr) (z : (Str → Option Value) × Option Value) : List Cel := [(C, NsO z.1), (c, CellO z.2)]

theorem comp_core {elt target iter : Expr} {ifs : List Expr} {scope : Scope} {pos : Pos} {cl : List (Str × Addr)} {use : Option (Value → Sem Unit)} {Q : Value → Shared → Prop}
    (hs : ∀ x, foldedSetIterable iter env x = pure x) (hclos : closureFor scope env = pure cl) (hkind : scope.kind = .function) (hnames : ∀ x ∈ scope.names, x.2 = .local → scope.names.lookup x.1 = some .local)
    (hcell : ∀ x ∈ scope.names, x.2 ≠ .cell)
    (h : wpAny (model prog w) A (eval iter env) (fun xv s₁ => wpAny (model prog w) A (pyIter xv) (fun it s₂ =>
      ∃ (α : Type) (P : α → Value → Prop) (I : List α → List Cel) (J : List Cel) (σ : Type) (R : σ → List Cel) (K : List α → List Value → σ → Prop) (as0 : List α) (x0 : σ),
        Iter prog w A B it P I J ∧ St B (I as0 ++ R x0) s₂ ∧ K as0 [] x0 ∧
        (∀ C D, Turn prog w A B (compEnvC scope cl C env) elt target ifs D P I R (Z0 C) K) ∧
        ∀ C D x ys m s', K [] ys x → St B (Z0 C m ++ ((D, LstO ys) :: (J ++ R x))) s' → compPost (model prog w) A E use Q (.ref D) C (.ok .next) s') E s₁) E s) :
    wpAny (model prog w) A (comprehension (.ListComp elt [⟨target, iter, ifs, 0⟩] scope pos) scope env iter.pos (newList []) false (eval iter env) use) Q E s := by
  refine wpAny_comprehension_free rfl hs hclos hkind hnames (wpAny_mono h (fun xv s₁ h₁ => wpAny_mono h₁ (fun it s₂ h₂ => ?_) fun _ _ e => e) fun _ _ e => e)
  obtain ⟨α, P, I, J, σ, R, K, as0, x0, hI, H, k0, turn, fin⟩ := h₂
  refine wpAny_newList ?_ (by simp)
  have H3 := H.push (P := LstO []) (o := { cls := .type "list", data := .seq ([] : List Value).toArray }) (t := s₂.toks) ⟨0, rfl⟩
  refine newEnv0 H3 hcell hkind fun C s4 H4 => ?_
  have go : ∀ s5, St B ((C, NsO fun _ => none) :: (s₂.heap.objs.size, LstO []) :: (I as0 ++ R x0)) s5 → codeAny (model prog w) A (.compLoop (.ListComp elt [⟨target, iter, ifs, 0⟩] scope pos) 0 it (.ref s₂.heap.objs.size) (compEnvC scope cl C env)) (compPost (model prog w) A E use Q (.ref s₂.heap.objs.size) C) s5 := fun s5 H5 =>
    c_loop1 hI R (Z0 C) K (z0 := fun _ => none) H5 k0 (turn C _) fun x ys z s' kx H' => fin C _ x ys z s' kx H'
  exact c_start (g := ⟨target, iter, ifs, 0⟩) rfl rfl (go _ H4) (hI.self (as := as0) (R := (C, NsO fun _ => none) :: (s₂.heap.objs.size, LstO []) :: R x0) (H4.perm (by
    have := List.perm_append_comm_assoc [(C, NsO fun _ => none), (s₂.heap.objs.size, LstO [])] (I as0) (R x0)
    simpa using this)) (go _ H4))

theorem comp_core1 {elt target iter : Expr} {ifs : List Expr} {scope : Scope} {pos : Pos} {cl : List (Str × Addr)} {x : Str} {use : Option (Value → Sem Unit)} {Q : Value → Shared → Prop}
    (hs : ∀ x, foldedSetIterable iter env x = pure x) (hclos : closureFor scope env = pure cl) (hkind : scope.kind = .function) (hnames : ∀ x ∈ scope.names, x.2 = .local → scope.names.lookup x.1 = some .local)
    (h1 : ∀ n, cellsFrom n scope.names cl = (x, n) :: cl) (h2 : ∀ h : Heap, pushCells h scope.names = h.push { cls := .type "cell", data := .cell none })
    (h : wpAny (model prog w) A (eval iter env) (fun xv s₁ => wpAny (model prog w) A (pyIter xv) (fun it s₂ =>
      ∃ (α : Type) (P : α → Value → Prop) (I : List α → List Cel) (J : List Cel) (σ : Type) (R : σ → List Cel) (K : List α → List Value → σ → Prop) (as0 : List α) (x0 : σ),
        Iter prog w A B it P I J ∧ St B (I as0 ++ R x0) s₂ ∧ K as0 [] x0 ∧
        (∀ C c D, Turn prog w A B (compEnvC scope ((x, c) :: cl) C env) elt target ifs D P I R (Z1 C c) K) ∧
        ∀ C c D x ys z s', K [] ys x → St B (Z1 C c z ++ ((D, LstO ys) :: (J ++ R x))) s' → compPost (model prog w) A E use Q (.ref D) C (.ok .next) s') E s₁) E s) :
    wpAny (model prog w) A (comprehension (.ListComp elt [⟨target, iter, ifs, 0⟩] scope pos) scope env iter.pos (newList []) false (eval iter env) use) Q E s := by
  refine wpAny_comprehension_free rfl hs hclos hkind hnames (wpAny_mono h (fun xv s₁ h₁ => wpAny_mono h₁ (fun it s₂ h₂ => ?_) fun _ _ e => e) fun _ _ e => e)
  obtain ⟨α, P, I, J, σ, R, K, as0, x0, hI, H, k0, turn, fin⟩ := h₂
  refine wpAny_newList ?_ (by simp)
  have H3 := H.push (P := LstO []) (o := { cls := .type "list", data := .seq ([] : List Value).toArray }) (t := s₂.toks) ⟨0, rfl⟩
  refine newEnv1 H3 h1 h2 fun C c s4 H4 => ?_
  have go : ∀ s5, St B ((C, NsO fun _ => none) :: (c, CellO none) :: (s₂.heap.objs.size, LstO []) :: (I as0 ++ R x0)) s5 → codeAny (model prog w) A (.compLoop (.ListComp elt [⟨target, iter, ifs, 0⟩] scope pos) 0 it (.ref s₂.heap.objs.size) (compEnvC scope ((x, c) :: cl) C env)) (compPost (model prog w) A E use Q (.ref s₂.heap.objs.size) C) s5 := fun s5 H5 =>
    c_loop1 hI R (Z1 C c) K (z0 := (fun _ => none, none)) H5 k0 (turn C c _) fun x ys z s' kx H' => fin C c _ x ys z s' kx H'
  exact c_start (g := ⟨target, iter, ifs, 0⟩) rfl rfl (go _ H4) (hI.self (as := as0) (R := (C, NsO fun _ => none) :: (c, CellO none) :: (s₂.heap.objs.size, LstO []) :: R x0) (H4.perm (by
    have := List.perm_append_comm_assoc [(C, NsO fun _ => none), (c, CellO none), (s₂.heap.objs.size, LstO [])] (I as0) (R x0)
    simpa using this)) (go _ H4))

noncomputable abbrev CompEnd (prog : Program) (w : World) (A : Around) (B : Shared) (env : Env) (elt target : Expr) (ifs : List Expr) (scope : Scope) (cl : List (Str × Addr)) (Q : Value → Shared → Prop) (it : Value) (s₂ : Shared) : Prop :=
  ∃ (α : Type) (P : α → Value → Prop) (I : List α → List Cel) (J : List Cel) (σ : Type) (R : σ → List Cel) (K : List α → List Value → σ → Prop) (as0 : List α) (x0 : σ),
        Iter prog w A B it P I J ∧ St B (I as0 ++ R x0) s₂ ∧ K as0 [] x0 ∧
        (∀ C D, Turn prog w A B (compEnvC scope cl C env) elt target ifs D P I R (Z0 C) K) ∧
        ∀ D x ys s', K [] ys x → St B ((D, LstO ys) :: (J ++ R x)) s' → Q (.ref D) s'
noncomputable abbrev CompEnd1 (prog : Program) (w : World) (A : Around) (B : Shared) (env : Env) (elt target : Expr) (ifs : List Expr) (scope : Scope) (x : Str) (cl : List (Str × Addr)) (Q : Value → Shared → Prop) (it : Value) (s₂ : Shared) : Prop :=
  ∃ (α : Type) (P : α → Value → Prop) (I : List α → List Cel) (J : List Cel) (σ : Type) (R : σ → List Cel) (K : List α → List Value → σ → Prop) (as0 : List α) (x0 : σ),
        Iter prog w A B it P I J ∧ St B (I as0 ++ R x0) s₂ ∧ K as0 [] x0 ∧
        (∀ C c D, Turn prog w A B (compEnvC scope ((x, c) :: cl) C env) elt target ifs D P I R (Z1 C c) K) ∧
        ∀ D x ys s', K [] ys x → St B ((D, LstO ys) :: (J ++ R x)) s' → Q (.ref D) s'

theorem St.dropZ0 {C : Addr} {m} {X : List Cel} {h' : Heap} {t : Nat} (H : St B (Z0 C m ++ X) s) (hs : Heap.SameBut C s.heap h') : St B X { s with heap := h', toks := t } :=
  H.del .head ⟨_, .head _⟩ hs.extBut
theorem St.dropZ1 {C c : Addr} {z} {X : List Cel} {h' : Heap} {t : Nat} (H : St B (Z1 C c z ++ X) s) (hs : Heap.SameBut C s.heap h') : St B X { s with heap := h', toks := t } :=
  (H.del (t := t) .head ⟨_, .head _⟩ hs.extBut).sub (List.sublist_cons_self _ _)

theorem e_comp {elt target iter : Expr} {ifs : List Expr} {scope : Scope} {pos : Pos} {cl : List (Str × Addr)} {Q : Value → Shared → Prop}
    (h : wpAny (model prog w) A (eval iter env) (fun xv s₁ => wpAny (model prog w) A (pyIter xv) (fun it s₂ => CompEnd prog w A B env elt target ifs scope cl Q it s₂) E s₁) E s)
    (hclos : closureFor scope env = pure cl) (hcell : ∀ x ∈ scope.names, x.2 ≠ .cell := by decide) (hnames : ∀ x ∈ scope.names, x.2 = .local → scope.names.lookup x.1 = some .local := by decide)
    (hkind : scope.kind = .function := by rfl) (hs : ∀ x, foldedSetIterable iter env x = pure x := by intro _; rfl) :
    wpAny (model prog w) A (eval (.ListComp elt [⟨target, iter, ifs, 0⟩] scope pos) env) Q E s := by
  rw [eval_ListComp]
  refine comp_core (B := B) (use := none) hs hclos hkind hnames hcell (wpAny_mono h (fun xv s₁ h₁ => wpAny_mono h₁ (fun it s₂ h₂ => ?_) fun _ _ e => e) fun _ _ e => e)
  obtain ⟨α, P, I, J, σ, R, K, as0, x0, hI, H, k0, turn, fin⟩ := h₂
  exact ⟨α, P, I, J, σ, R, K, as0, x0, hI, H, k0, turn, fun C D x ys m s' kx H' => ⟨m, H'.ns (.head _), fun h' hs' => fin D x ys _ kx (H'.dropZ0 (t := s'.toks) hs')⟩⟩
theorem e_comp1 {elt target iter : Expr} {ifs : List Expr} {scope : Scope} {pos : Pos} {cl : List (Str × Addr)} {x : Str} {Q : Value → Shared → Prop}
    (h : wpAny (model prog w) A (eval iter env) (fun xv s₁ => wpAny (model prog w) A (pyIter xv) (fun it s₂ => CompEnd1 prog w A B env elt target ifs scope x cl Q it s₂) E s₁) E s)
    (hclos : closureFor scope env = pure cl) (h1 : ∀ n, cellsFrom n scope.names cl = (x, n) :: cl) (h2 : ∀ h : Heap, pushCells h scope.names = h.push { cls := .type "cell", data := .cell none })
    (hnames : ∀ x ∈ scope.names, x.2 = .local → scope.names.lookup x.1 = some .local := by decide)
    (hkind : scope.kind = .function := by rfl) (hs : ∀ x, foldedSetIterable iter env x = pure x := by intro _; rfl) :
    wpAny (model prog w) A (eval (.ListComp elt [⟨target, iter, ifs, 0⟩] scope pos) env) Q E s := by
  rw [eval_ListComp]
  refine comp_core1 (B := B) (use := none) hs hclos hkind hnames h1 h2 (wpAny_mono h (fun xv s₁ h₁ => wpAny_mono h₁ (fun it s₂ h₂ => ?_) fun _ _ e => e) fun _ _ e => e)
  obtain ⟨α, P, I, J, σ, R, K, as0, x0, hI, H, k0, turn, fin⟩ := h₂
  exact ⟨α, P, I, J, σ, R, K, as0, x0, hI, H, k0, turn, fun C c D x ys z s' kx H' => ⟨_, H'.ns (.head _), fun h' hs' => fin D x ys _ kx (H'.dropZ1 (t := s'.toks) hs')⟩⟩

noncomputable abbrev CompUse (prog : Program) (w : World) (A : Around) (B : Shared) (env : Env) (elt target : Expr) (ifs : List Expr) (scope : Scope) (cl : List (Str × Addr)) (y : Str) (Q : Flow → Shared → Prop) (it : Value) (s₂ : Shared) : Prop :=
  ∃ (α : Type) (P : α → Value → Prop) (I : List α → List Cel) (J : List Cel) (σ : Type) (R : σ → List Cel) (K : List α → List Value → σ → Prop) (as0 : List α) (x0 : σ),
        Iter prog w A B it P I J ∧ St B (I as0 ++ R x0) s₂ ∧ K as0 [] x0 ∧
        (∀ C D, Turn prog w A B (compEnvC scope cl C env) elt target ifs D P I R (Z0 C) K) ∧
        ∀ D x ys, K [] ys x → ∃ m cs'', Upd env.locals (NsO m) (NsO fun z => if z = y then some (.ref D) else m z) ((D, LstO ys) :: (J ++ R x)) cs'' ∧ ∀ s', St B cs'' s' → Q .next s'
noncomputable abbrev CompUse1 (prog : Program) (w : World) (A : Around) (B : Shared) (env : Env) (elt target : Expr) (ifs : List Expr) (scope : Scope) (v : Str) (cl : List (Str × Addr)) (y : Str) (Q : Flow → Shared → Prop) (it : Value) (s₂ : Shared) : Prop :=
  ∃ (α : Type) (P : α → Value → Prop) (I : List α → List Cel) (J : List Cel) (σ : Type) (R : σ → List Cel) (K : List α → List Value → σ → Prop) (as0 : List α) (x0 : σ),
        Iter prog w A B it P I J ∧ St B (I as0 ++ R x0) s₂ ∧ K as0 [] x0 ∧
        (∀ C c D, Turn prog w A B (compEnvC scope ((v, c) :: cl) C env) elt target ifs D P I R (Z1 C c) K) ∧
        ∀ D x ys, K [] ys x → ∃ m cs'', Upd env.locals (NsO m) (NsO fun z => if z = y then some (.ref D) else m z) ((D, LstO ys) :: (J ++ R x)) cs'' ∧ ∀ s', St B cs'' s' → Q .next s'

theorem x_comp {elt target iter : Expr} {ifs : List Expr} {scope : Scope} {pos spos ypos : Pos} {cl : List (Str × Addr)} {y : Str} {Q : Flow → Shared → Prop}
    (h : wpAny (model prog w) A (eval iter env) (fun xv s₁ => wpAny (model prog w) A (pyIter xv) (fun it s₂ => CompUse prog w A B env elt target ifs scope cl y Q it s₂) E s₁) E s)
    (hclos : closureFor scope env = pure cl) (hsw : swapsWith (.ListComp elt [⟨target, iter, ifs, 0⟩] scope pos) (some (.Name y ypos)) spos.line env = pure true) (hcell : ∀ x ∈ scope.names, x.2 ≠ .cell := by decide)
    (hnames : ∀ x ∈ scope.names, x.2 = .local → scope.names.lookup x.1 = some .local := by decide)
    (hkind : scope.kind = .function := by rfl) (hs : ∀ x, foldedSetIterable iter env x = pure x := by intro _; rfl) (hk : env.scope.kind = .function := by rfl) (hl : env.kindOf y = some .local := by rfl) :
    wpAny (model prog w) A (exec (.Assign [.Name y ypos] (.ListComp elt [⟨target, iter, ifs, 0⟩] scope pos) spos) env) Q E s := by
  rw [exec_Assign_Name_used _ _ _ _ hsw]
  refine wpAny_bind (wpAny_standAt (wpAny_bind ?_))
  show wpAny _ A (do let _ ← comprehension (.ListComp elt [⟨target, iter, ifs, 0⟩] scope pos) scope env _ (newList []) false (eval iter env) (some (assign (.Name y ypos) env))) _ _ s
  refine wpAny_bind (wpAny_mono (comp_core (B := B) (use := some (assign (.Name y ypos) env)) (Q := fun _ s' => Q .next s') hs hclos hkind hnames hcell (wpAny_mono h (fun xv s₁ h₁ => wpAny_mono h₁ (fun it s₂ h₂ => ?_) fun _ _ e => e) fun _ _ e => e)) (fun _ s' hq => wpAny_pure (wpAny_pure hq)) fun _ _ e => e)
  obtain ⟨α, P, I, J, σ, R, K, as0, x0, hI, H, k0, turn, fin⟩ := h₂
  refine ⟨α, P, I, J, σ, R, K, as0, x0, hI, H, k0, turn, fun C D x ys m s' kx H' => ?_⟩
  obtain ⟨mL, cs'', U, q⟩ := fin D x ys kx
  exact wpAny_assign_Name (s_local (m' := mL) H' (U.app _) (fun s3 H3 => ⟨m, H3.ns (.head _), fun h' hs' => q _ (H3.dropZ0 (t := s3.toks) hs')⟩) hk hl)
theorem x_comp1 {elt target iter : Expr} {ifs : List Expr} {scope : Scope} {pos spos ypos : Pos} {cl : List (Str × Addr)} {v y : Str} {Q : Flow → Shared → Prop}
    (h : wpAny (model prog w) A (eval iter env) (fun xv s₁ => wpAny (model prog w) A (pyIter xv) (fun it s₂ => CompUse1 prog w A B env elt target ifs scope v cl y Q it s₂) E s₁) E s)
    (hclos : closureFor scope env = pure cl) (hsw : swapsWith (.ListComp elt [⟨target, iter, ifs, 0⟩] scope pos) (some (.Name y ypos)) spos.line env = pure true)
    (h1 : ∀ n, cellsFrom n scope.names cl = (v, n) :: cl) (h2 : ∀ h : Heap, pushCells h scope.names = h.push { cls := .type "cell", data := .cell none })
    (hnames : ∀ x ∈ scope.names, x.2 = .local → scope.names.lookup x.1 = some .local := by decide)
    (hkind : scope.kind = .function := by rfl) (hs : ∀ x, foldedSetIterable iter env x = pure x := by intro _; rfl) (hk : env.scope.kind = .function := by rfl) (hl : env.kindOf y = some .local := by rfl) :
    wpAny (model prog w) A (exec (.Assign [.Name y ypos] (.ListComp elt [⟨target, iter, ifs, 0⟩] scope pos) spos) env) Q E s := by
  rw [exec_Assign_Name_used _ _ _ _ hsw]
  refine wpAny_bind (wpAny_standAt (wpAny_bind ?_))
  show wpAny _ A (do let _ ← comprehension (.ListComp elt [⟨target, iter, ifs, 0⟩] scope pos) scope env _ (newList []) false (eval iter env) (some (assign (.Name y ypos) env))) _ _ s
  refine wpAny_bind (wpAny_mono (comp_core1 (B := B) (use := some (assign (.Name y ypos) env)) (Q := fun _ s' => Q .next s') hs hclos hkind hnames h1 h2 (wpAny_mono h (fun xv s₁ h₁ => wpAny_mono h₁ (fun it s₂ h₂ => ?_) fun _ _ e => e) fun _ _ e => e)) (fun _ s' hq => wpAny_pure (wpAny_pure hq)) fun _ _ e => e)
  obtain ⟨α, P, I, J, σ, R, K, as0, x0, hI, H, k0, turn, fin⟩ := h₂
  refine ⟨α, P, I, J, σ, R, K, as0, x0, hI, H, k0, turn, fun C c D x ys z s' kx H' => ?_⟩
  obtain ⟨mL, cs'', U, q⟩ := fin D x ys kx
  exact wpAny_assign_Name (s_local (m' := mL) H' (U.app _) (fun s3 H3 => ⟨_, H3.ns (.head _), fun h' hs' => q _ (H3.dropZ1 (t := s3.toks) hs')⟩) hk hl)
end
end Mine
end
section
namespace Mine
open PySem PySem.Calls PyProof.Rows PySem.W

section
variable {prog : Program} {w : World} {A : Around} {E : Value → Shared → Prop} {B s : Shared} {cs cs' : List Cel} {env : Env} {Q : Value → Shared → Prop}

theorem St.fresh (H : St B cs s) {a : Addr} (ha : s.heap.objs.size ≤ a) : B.heap.get? a = none ∧ a ∉ cs.map Prod.fst := by
  refine ⟨?_, fun hm => ?_⟩
  · cases e : B.heap.get? a with
    | none => rfl
    | some o => exact absurd (Heap.lt_size (H.keep _ _ e)) (Nat.not_lt.mpr ha)
  · obtain ⟨c, hc, e⟩ := List.mem_map.mp hm
    obtain ⟨o, ho, _⟩ := (H.own c hc).2
    exact absurd (Heap.lt_size ho) (by rw [e]; exact Nat.not_lt.mpr ha)

theorem St.call (H : St B cs s) {L : Addr} {m cm : Str → Option Value} {cl : List (Str × Addr)} {s1 : Shared} (x : InCallC s L m cl cm s1) (hnd : (cl.map (·.1)).Nodup) :
    St B ((L, NsO m) :: (cl.map (fun p => (p.2, CellO (cm p.1))) ++ cs)) s1 := by
  have hap : (cl.map (·.2)).Nodup := by
    rw [List.nodup_iff_pairwise_ne, List.pairwise_map]; exact x.apart
  obtain ⟨h', tk, rfl⟩ := x.toInCall.same
  have hL := x.toInCall.fresh
  refine H.mk' (fun b o e => x.toInCall.keep b o (H.keep b o e)) ?_ fun c hc => ?_
  · rw [List.map_cons, List.nodup_cons, List.map_append, List.map_map]
    have e1 : (Prod.fst ∘ fun p : Str × Addr => ((p.2, CellO (cm p.1)) : Cel)) = (·.2) := rfl
    rw [e1]
    refine ⟨fun hm => ?_, List.nodup_append.mpr ⟨hap, H.nodup, fun a ha b hb e => ?_⟩⟩
    · rcases List.mem_append.mp hm with hm | hm
      · obtain ⟨p, hp, e⟩ := List.mem_map.mp hm
        have := x.above p.1 p.2 hp
        exact absurd (e ▸ this) (Nat.lt_irrefl _)
      · exact (H.fresh hL).2 hm
    · obtain ⟨p, hp, e2⟩ := List.mem_map.mp ha
      have := x.above p.1 p.2 hp
      exact (H.fresh (a := a) (by rw [← e2]; exact Nat.le_of_lt (Nat.lt_of_le_of_lt hL this))).2 (e ▸ hb)
  · rcases List.mem_cons.mp hc with rfl | hc
    · exact ⟨(H.fresh hL).1, nsO x.toInCall.ns⟩
    · rcases List.mem_append.mp hc with hc | hc
      · obtain ⟨p, hp, rfl⟩ := List.mem_map.mp hc
        have := x.above p.1 p.2 hp
        exact ⟨(H.fresh (Nat.le_of_lt (Nat.lt_of_le_of_lt hL this))).1, x.cell p.1 p.2 (lookup_of_mem_nodup hnd hp)⟩
      · exact ⟨(H.own c hc).1, let ⟨o, a, b⟩ := (H.own c hc).2; ⟨o, x.toInCall.keep _ _ a, b⟩⟩

theorem call_fnC {a : Addr} {F : Value → Value → Value → FuncData} {name qual : Str} {params : Arguments} {body : List Stmt} {scope : Scope} {dV : Value} {args : List Value} {binds : List (Str × Value)} {k : Nat}
    {m : Str → Option Value} {cl : Addr → List (Str × Addr)} {cels : Addr → List Cel}
    (hF : FnAt B.heap a F) (hfd : ∀ pm cd ct, F pm cd ct = fnX name qual params body scope [] dV .none .none pm none cd ct) (ok : Ok A (k + 1)) (N : Names B) (H : St B cs s)
    (hbind : ∀ pm cd ct, bindArgs (fnX name qual params body scope [] dV .none .none pm none cd ct) ⟨args, []⟩ = pure binds)
    (hcl : ∀ L, cellsFrom (L + 1) scope.names [] = cl L)
    (hm : ∀ L a cd, bindL (envX qual scope L a cd (cl L)).kindOf binds (fun _ => none) = m)
    (hce : ∀ L a cd, (cl L).map (fun p => (p.2, CellO (bindC (envX qual scope L a cd (cl L)).kindOf binds (fun _ => none) p.1))) = cels L)
    (h : ∀ L cd s1 E', Ok (A.deeper (envX qual scope L a cd (cl L))) k → St B ((L, NsO m) :: (cels L ++ cs)) s1 →
      wpAny (model prog w) (A.deeper (envX qual scope L a cd (cl L))) (execs body (envX qual scope L a cd (cl L))) (fun f s' => Q (match f with | .ret v => v | _ => .none) s') E' s1)
    (hkind : (binds.all fun y => scope.names.lookup y.1 == some .local || scope.names.lookup y.1 == some .cell) = true := by rfl)
    (hnd : ((cellsFrom 0 scope.names []).map (·.1)).Nodup := by decide +kernel)
    (hco : scope.isCoroutine = false := by rfl) (hgen : scope.isGenerator = false := by rfl) (hk : scope.kind = .function := by rfl) :
    wpAny (model prog w) A (call (.ref a) args) Q E s := by
  obtain ⟨o, pm, cd, ct, ho, hd, hc⟩ := hF
  rw [hfd] at hd hc
  refine wpAny_call (codeAny_call_cells ok.room (H.keep _ _ ho) hd (N.lim.keeps H.keep) (hc.keeps H.keep) rfl (hbind pm cd ct) rfl (kindsX hkind _) (fun s₁ x => ?_) hco hgen hk)
  have e : callEnvC (fnX name qual params body scope [] dV .none .none pm none cd ct) s.heap.objs.size a = envX qual scope s.heap.objs.size a cd (cl s.heap.objs.size) := by
    show envX qual scope s.heap.objs.size a cd (cellsFrom (s.heap.objs.size + 1) scope.names []) = _
    rw [hcl]
  rw [e] at x ⊢
  have nd : ((cl s.heap.objs.size).map (·.1)).Nodup := by
    rw [← hcl, ← cellsFrom_names scope.names 0 (s.heap.objs.size + 1) [] [] rfl]; exact hnd
  have H1 := H.call x nd
  rw [hm, hce] at H1
  exact h _ cd _ _ (ok.deeper _) H1
end
end Mine
end
section
namespace Mine
open PySem PySem.Calls PyProof.Rows PySem.W
noncomputable def bdOf (st : Stmt) : List Stmt := match st with | .FunctionDef _ _ body _ _ _ _ _ _ _ => body | _ => []
noncomputable def scOf (st : Stmt) : Scope := match st with | .FunctionDef _ _ _ _ _ _ scope _ _ _ => scope | _ => default
noncomputable def dumS : Shared := {}
noncomputable def dumP : PySem.Params := { strHash := fun _ => 0, shareClass := fun _ => 0, mergeTok := fun t => t, idOf := fun _ => 0, idOfShared := fun _ _ => 0, followText := fun _ => false, idOfImm := fun _ => 0 }
noncomputable def dumW : World := ⟨fun _ _ => 0, dumP⟩
end Mine
end
section
namespace Mine
open PySem PySem.Calls PyProof.Rows PySem.W

theorem paired_split {α β : Type} {F : α → β → Prop} {as0 pre as : List α} {a : α} {ys : List β} {y : β} (h : as0 = pre ++ (a :: as)) (p : Paired F pre ys) (f : F a y) : as0 = (pre ++ [a]) ++ as ∧ Paired F (pre ++ [a]) (ys ++ [y]) :=
  ⟨by rw [h]; simp, p.snoc f⟩

section
variable {prog : Program} {w : World} {A : Around} {E : Value → Shared → Prop} {B s : Shared} {cs cs' : List Cel} {env : Env}

theorem turn_map {α : Type} {P : α → Value → Prop} {I : List α → List Cel} {cenv : Env} {elt : Expr} {x : Str} {px : Pos} {C D : Addr} {X : List Cel} {as0 : List α} (F : α → Value → Prop) (hz : as0.length ≤ sizeLine)
    (hC : cenv.locals = C) (hk : cenv.scope.kind = .function) (hl : cenv.kindOf x = some .local)
    (body : ∀ a as ys v m s E', a ∈ as0 → P a v → m x = some v → St B ((C, NsO m) :: (D, LstO ys) :: (I as ++ X)) s →
      wpAny (model prog w) A (eval elt cenv) (fun y s4 => F a y ∧ ∃ m', St B ((C, NsO m') :: (D, LstO ys) :: (I as ++ X)) s4) E' s) :
    Turn prog w A B cenv elt (.Name x px) [] D P I (fun _ : Unit => X) (Z0 C) (fun as ys _ => ∃ pre, as0 = pre ++ as ∧ Paired F pre ys) := by
  subst hC
  intro a as v _ ys m s E' hp ⟨pre, e, pr⟩ H
  refine wpAny_assign_Name (s_local (m' := m) H .head (fun s2 H2 => ?_) hk hl)
  refine wpAny_tests_nil ?_
  rw [if_pos rfl]
  refine wpAny_mono (body a as ys v (fun y => if y = x then some v else m y) s2 E' (by rw [e]; simp) hp (if_pos rfl) H2) (fun y s4 ⟨f, m', H4⟩ => ?_) fun _ _ e => e
  refine ⟨(), m', ?_, ⟨pre ++ [a], paired_split e pr f⟩, H4⟩
  rw [← pr.length]
  have : as0.length = pre.length + (as.length + 1) := by rw [e]; simp
  lia
theorem turn_map1 {α : Type} {P : α → Value → Prop} {I : List α → List Cel} {cenv : Env} {elt : Expr} {x : Str} {px : Pos} {C c D : Addr} {X : List Cel} {as0 : List α} (F : α → Value → Prop) (hz : as0.length ≤ sizeLine)
    (hc : cenv.cells.lookup x = some c) (hk : cenv.scope.kind = .function) (hl : cenv.kindOf x = some .cell)
    (body : ∀ a as ys v m s E', a ∈ as0 → P a v → St B ((C, NsO m) :: (c, CellO (some v)) :: (D, LstO ys) :: (I as ++ X)) s →
      wpAny (model prog w) A (eval elt cenv) (fun y s4 => F a y ∧ ∃ z, St B (Z1 C c z ++ ((D, LstO ys) :: (I as ++ X))) s4) E' s) :
    Turn prog w A B cenv elt (.Name x px) [] D P I (fun _ : Unit => X) (Z1 C c) (fun as ys _ => ∃ pre, as0 = pre ++ as ∧ Paired F pre ys) := by
  intro a as v _ ys m s E' hp ⟨pre, e, pr⟩ H
  refine wpAny_assign_Name (s_cell H hc (.tail .head) (fun s2 H2 => ?_) hk hl)
  refine wpAny_tests_nil ?_
  rw [if_pos rfl]
  refine wpAny_mono (body a as ys v _ s2 E' (by rw [e]; simp) hp H2) (fun y s4 ⟨f, z, H4⟩ => ?_) fun _ _ e => e
  refine ⟨(), z, ?_, ⟨pre ++ [a], paired_split e pr f⟩, H4⟩
  rw [← pr.length]
  have : as0.length = pre.length + (as.length + 1) := by rw [e]; simp
  lia

section
variable {α : Type} {P : α → Value → Prop} {I : List α → List Cel} {J X : List Cel} {it : Value} {s₂ : Shared} {as0 : List α} {elt : Expr} {x : Str} {px : Pos} {scope : Scope} {cl : List (Str × Addr)}

theorem map_end {Q : Value → Shared → Prop} (F : α → Value → Prop) (hI : Iter prog w A B it P I J) (H : St B (I as0 ++ X) s₂) (hz : as0.length ≤ sizeLine)
    (body : ∀ C D a as ys v m s E', a ∈ as0 → P a v → m x = some v → St B ((C, NsO m) :: (D, LstO ys) :: (I as ++ X)) s →
      wpAny (model prog w) A (eval elt (compEnvC scope cl C env)) (fun y s4 => F a y ∧ ∃ m', St B ((C, NsO m') :: (D, LstO ys) :: (I as ++ X)) s4) E' s)
    (fin : ∀ D ys s', Paired F as0 ys → St B ((D, LstO ys) :: (J ++ X)) s' → Q (.ref D) s')
    (hk : ∀ C, (compEnvC scope cl C env).scope.kind = .function := by intro _; rfl) (hl : ∀ C, (compEnvC scope cl C env).kindOf x = some .local := by intro _; rfl) :
    CompEnd prog w A B env elt (.Name x px) [] scope cl Q it s₂ :=
  ⟨α, P, I, J, Unit, fun _ => X, _, as0, (), hI, H, ⟨[], rfl, .nil⟩, fun C D => turn_map F hz rfl (hk C) (hl C) (body C D), fun D _ ys s' ⟨pre, e, pr⟩ H' => fin D ys s' (by rw [List.append_nil] at e; rw [e]; exact pr) H'⟩
theorem map_end1 {Q : Value → Shared → Prop} (F : α → Value → Prop) (hI : Iter prog w A B it P I J) (H : St B (I as0 ++ X) s₂) (hz : as0.length ≤ sizeLine)
    (body : ∀ C c D a as ys v m s E', a ∈ as0 → P a v → St B ((C, NsO m) :: (c, CellO (some v)) :: (D, LstO ys) :: (I as ++ X)) s →
      wpAny (model prog w) A (eval elt (compEnvC scope ((x, c) :: cl) C env)) (fun y s4 => F a y ∧ ∃ z, St B (Z1 C c z ++ ((D, LstO ys) :: (I as ++ X))) s4) E' s)
    (fin : ∀ D ys s', Paired F as0 ys → St B ((D, LstO ys) :: (J ++ X)) s' → Q (.ref D) s')
    (hc : ∀ C c, (compEnvC scope ((x, c) :: cl) C env).cells.lookup x = some c := by intro _ _; rfl)
    (hk : ∀ C c, (compEnvC scope ((x, c) :: cl) C env).scope.kind = .function := by intro _ _; rfl) (hl : ∀ C c, (compEnvC scope ((x, c) :: cl) C env).kindOf x = some .cell := by intro _ _; rfl) :
    CompEnd1 prog w A B env elt (.Name x px) [] scope x cl Q it s₂ :=
  ⟨α, P, I, J, Unit, fun _ => X, _, as0, (), hI, H, ⟨[], rfl, .nil⟩, fun C c D => turn_map1 F hz (hc C c) (hk C c) (hl C c) (body C c D), fun D _ ys s' ⟨pre, e, pr⟩ H' => fin D ys s' (by rw [List.append_nil] at e; rw [e]; exact pr) H'⟩
theorem map_use {Q : Flow → Shared → Prop} {y : Str} (F : α → Value → Prop) (hI : Iter prog w A B it P I J) (H : St B (I as0 ++ X) s₂) (hz : as0.length ≤ sizeLine)
    (body : ∀ C D a as ys v m s E', a ∈ as0 → P a v → m x = some v → St B ((C, NsO m) :: (D, LstO ys) :: (I as ++ X)) s →
      wpAny (model prog w) A (eval elt (compEnvC scope cl C env)) (fun y s4 => F a y ∧ ∃ m', St B ((C, NsO m') :: (D, LstO ys) :: (I as ++ X)) s4) E' s)
    (fin : ∀ D ys, Paired F as0 ys → ∃ m cs'', Upd env.locals (NsO m) (NsO fun z => if z = y then some (.ref D) else m z) ((D, LstO ys) :: (J ++ X)) cs'' ∧ ∀ s', St B cs'' s' → Q .next s')
    (hk : ∀ C, (compEnvC scope cl C env).scope.kind = .function := by intro _; rfl) (hl : ∀ C, (compEnvC scope cl C env).kindOf x = some .local := by intro _; rfl) :
    CompUse prog w A B env elt (.Name x px) [] scope cl y Q it s₂ :=
  ⟨α, P, I, J, Unit, fun _ => X, _, as0, (), hI, H, ⟨[], rfl, .nil⟩, fun C D => turn_map F hz rfl (hk C) (hl C) (body C D), fun D _ ys ⟨pre, e, pr⟩ => fin D ys (by rw [List.append_nil] at e; rw [e]; exact pr)⟩
end
end

noncomputable def sv : Value → Option Str
  | .str x _ => some x
  | _ => none
noncomputable def iv : Value → Option Int
  | .int i _ => some i
  | _ => none
theorem sv_str {v : Value} {x : Str} (h : sv v = some x) : ∃ t, v = .str x t := by
  cases v <;> simp [sv] at h; subst h; exact ⟨_, rfl⟩
theorem iv_int {v : Value} {x : Int} (h : iv v = some x) : ∃ t, v = .int x t := by
  cases v <;> simp [iv] at h; subst h; exact ⟨_, rfl⟩
noncomputable def StrsO (ss : List Str) (o : Obj) : Prop := ∃ vs, LstO vs o ∧ vs.map sv = ss.map some
noncomputable def IntsO (ss : List Int) (o : Obj) : Prop := ∃ vs, LstO vs o ∧ vs.map iv = ss.map some
theorem map_len {α β : Type} {f : α → Option β} {vs : List α} {ss : List β} (h : vs.map f = ss.map some) : vs.length = ss.length := by
  have := congrArg List.length h; simpa using this
theorem map_at {α β : Type} {f : α → Option β} {vs : List α} {ss : List β} (h : vs.map f = ss.map some) {i : Nat} {x : β} (hx : ss[i]? = some x) : ∃ v, vs[i]? = some v ∧ f v = some x := by
  have := congrArg (·[i]?) h
  simp only [List.getElem?_map, hx, Option.map_some] at this
  cases hv : vs[i]? with
  | none => rw [hv] at this; cases this
  | some v => rw [hv] at this; exact ⟨v, rfl, Option.some.inj this⟩
theorem paired_map {α β : Type} {f : Value → Option β} {g : α → β} {as : List α} {vs : List Value} (h : Paired (fun a v => f v = some (g a)) as vs) : vs.map f = (as.map g).map some := by
  induction h with
  | nil => rfl
  | cons a _ ih => simp [a, ih]

section
variable {prog : Program} {w : World} {A : Around} {E : Value → Shared → Prop} {B s : Shared} {cs cs' : List Cel} {Q : Value → Shared → Prop}
theorem St.open_strs (H : St B cs s) {l : Addr} {ss : List Str} (hm : (l, StrsO ss) ∈ cs) : ∃ vs : List Value, s.heap.PlainList l vs.toArray ∧ vs.map sv = ss.map some := by
  obtain ⟨o, ho, vs, ⟨n, rfl⟩, e⟩ := H.get hm; exact ⟨vs, ⟨n, ho⟩, e⟩
theorem St.open_ints (H : St B cs s) {l : Addr} {ss : List Int} (hm : (l, IntsO ss) ∈ cs) : ∃ vs : List Value, s.heap.PlainList l vs.toArray ∧ vs.map iv = ss.map some := by
  obtain ⟨o, ho, vs, ⟨n, rfl⟩, e⟩ := H.get hm; exact ⟨vs, ⟨n, ho⟩, e⟩
theorem Upd.re {a : Addr} {P P' : Obj → Prop} (U : Upd a P P' cs cs') (R : Obj → Prop) : ∃ c1, Upd a P R cs c1 ∧ Upd a R P' c1 cs' := by
  induction U with
  | head => exact ⟨_, .head, .head⟩
  | tail _ ih => obtain ⟨c1, x, y⟩ := ih; exact ⟨_, .tail x, .tail y⟩
theorem St.redo (H : St B cs s) {a : Addr} {P P' : Obj → Prop} (U : Upd a P P' cs cs') (p : ∃ o, s.heap.get? a = some o ∧ P' o) : St B cs' s := by
  refine ⟨H.keep, U.fst ▸ H.nodup, fun c hc => ?_, H.os, H.gens, H.gkeep⟩
  rcases U.of H.nodup c hc with rfl | ⟨_, hm⟩
  · exact ⟨(H.own _ U.mem).1, p⟩
  · exact H.own c hm
theorem set_strs {l : Addr} {ss : List Str} {k : Int} {t u : Tok} {x : Str} {Q : Unit → Shared → Prop} (H : St B cs s) (U : Upd l (StrsO ss) (StrsO (ss.set k.toNat x)) cs cs') (h0 : 0 ≤ k) (hf : k < 2 ^ 63) (hn : k < ss.length)
    (h : ∀ s', St B cs' s' → Q () s') : wpAny (model prog w) A (setItem (.ref l) (.int k t) (.str x u)) Q E s := by
  obtain ⟨vs, ⟨n, hp⟩, e⟩ := H.open_strs U.mem
  obtain ⟨c1, U1, U2⟩ := U.re (LstO vs)
  have H1 := H.redo U1 ⟨_, hp, n, rfl⟩
  obtain ⟨c2, U3, U4⟩ := U2.re (LstO (vs.set k.toNat (.str x u)))
  refine set_list H1 U3 h0 hf (by rw [map_len e]; exact hn) fun s' H' => h s' (H'.weak U4 fun o ho => ⟨_, ho, ?_⟩)
  rw [List.map_set, e, List.map_set]; rfl
theorem set_ints {l : Addr} {ss : List Int} {k : Int} {t u : Tok} {x : Int} {Q : Unit → Shared → Prop} (H : St B cs s) (U : Upd l (IntsO ss) (IntsO (ss.set k.toNat x)) cs cs') (h0 : 0 ≤ k) (hf : k < 2 ^ 63) (hn : k < ss.length)
    (h : ∀ s', St B cs' s' → Q () s') : wpAny (model prog w) A (setItem (.ref l) (.int k t) (.int x u)) Q E s := by
  obtain ⟨vs, ⟨n, hp⟩, e⟩ := H.open_ints U.mem
  obtain ⟨c1, U1, U2⟩ := U.re (LstO vs)
  have H1 := H.redo U1 ⟨_, hp, n, rfl⟩
  obtain ⟨c2, U3, U4⟩ := U2.re (LstO (vs.set k.toNat (.int x u)))
  refine set_list H1 U3 h0 hf (by rw [map_len e]; exact hn) fun s' H' => h s' (H'.weak U4 fun o ho => ⟨_, ho, ?_⟩)
  rw [List.map_set, e, List.map_set]; rfl
theorem append_ints {l : Addr} {ss : List Int} {x : Int} {u : Tok} (H : St B cs s) (U : Upd l (IntsO ss) (IntsO (ss ++ [x])) cs cs') (hz : ss.length ≤ sizeLine) (h : ∀ s', St B cs' s' → Q .none s') :
    wpAny (model prog w) A (call (.builtin "list.append") [.ref l, .int x u]) Q E s := by
  obtain ⟨vs, ⟨n, hp⟩, e⟩ := H.open_ints U.mem
  obtain ⟨c1, U1, U2⟩ := U.re (LstO vs)
  have H1 := H.redo U1 ⟨_, hp, n, rfl⟩
  obtain ⟨c2, U3, U4⟩ := U2.re (LstO (vs ++ [.int x u]))
  refine f_append H1 U3 (by rw [map_len e]; exact hz) fun s' H' => h s' (H'.weak U4 fun o ho => ⟨_, ho, ?_⟩)
  rw [List.map_append, e]; simp [iv]
theorem sub_strs {value slice : Expr} {l : Addr} {ss : List Str} {k : Int} {t : Tok} {x : Str} (H : St B cs s) (hm : (l, StrsO ss) ∈ cs) (h0 : 0 ≤ k) (hk : k < 2 ^ 63) (hx : ss[k.toNat]? = some x) (h : ∀ t, Q (.str x t) s)
    (hs : subscripted slice false (.ref l) (.int k t) = operate [.ref l, .int k t] (getItem (.ref l) (.int k t)) := by with_unfolding_all rfl) :
    wpAny (model prog w) A (subscriptTail value slice (.ref l) (.int k t)) Q E s := by
  obtain ⟨vs, hp, e⟩ := H.open_strs hm
  obtain ⟨v, hv, he⟩ := map_at e hx
  obtain ⟨t', rfl⟩ := sv_str he
  exact tail_any hp.isList.typeIs slot_list_getitem.lookup (wpAny_getItem_list hp.isList h0 hk (by simpa using hv) (h t')) hs
theorem sub_ints {value slice : Expr} {l : Addr} {ss : List Int} {k : Int} {t : Tok} {x : Int} (H : St B cs s) (hm : (l, IntsO ss) ∈ cs) (h0 : 0 ≤ k) (hk : k < 2 ^ 63) (hx : ss[k.toNat]? = some x) (h : ∀ t, Q (.int x t) s)
    (hs : subscripted slice false (.ref l) (.int k t) = operate [.ref l, .int k t] (getItem (.ref l) (.int k t)) := by with_unfolding_all rfl) :
    wpAny (model prog w) A (subscriptTail value slice (.ref l) (.int k t)) Q E s := by
  obtain ⟨vs, hp, e⟩ := H.open_ints hm
  obtain ⟨v, hv, he⟩ := map_at e hx
  obtain ⟨t', rfl⟩ := iv_int he
  exact tail_any hp.isList.typeIs slot_list_getitem.lookup (wpAny_getItem_list hp.isList h0 hk (by simpa using hv) (h t')) hs
end
end Mine
end
section
namespace Mine
open PySem PySem.Calls PyProof.Rows PySem.W

theorem Ok.in1 {A : Around} {k : Nat} (h : Ok A (k + 1)) : Ok A.in1 k := ⟨by have := h.depth; show A.depth + k < _; (exact Nat.le_of_lt (by assumption)), by have := h.units; show A.units + 1 + 8 * k + 8 < _; lia, h.handled, h.frames⟩

theorem one_le : 1 ≤ sizeLine := by decide

section
variable {prog : Program} {w : World} {A : Around} {E : Value → Shared → Prop} {B s : Shared} {cs cs' : List Cel} {env : Env} {Q : Value → Shared → Prop}

theorem up_seq {S : Addr} {vs vs' : List Value} {f : Array Value → Array Value} {Q : Unit → Shared → Prop} (H : St B cs s) (U : Upd S (LstO vs) (LstO vs') cs cs') (hf : f vs.toArray = vs'.toArray) (hz : vs.length ≤ sizeLine) (hz' : vs'.length ≤ sizeLine + 1)
    (h : ∀ s', St B cs' s' → Q () s') : wpAny (model prog w) A (updateSeq S f) Q E s := by
  obtain ⟨n, ho⟩ := H.plst U.mem
  refine wpAny_updateSeq ho rfl ?_ (by simpa using hz) (by rw [hf]; simpa using hz')
  obtain ⟨n', e⟩ := mapSeq_plain f (.type "list") vs.toArray n
  exact h _ (H.upd (t := s.toks) U (Heap.SameBut.update ..) ⟨_, Heap.get?_update_self _ ho (by rw [e]; rfl), n', by rw [e, hf]⟩)

theorem sum_loop {α : Type} {P : α → Value → Prop} {I : List α → List Cel} {J : List Cel} {it : Value} (hI : Iter prog w A.in1 B it P I J) (val : α → Int) (hval : ∀ a v, P a v → ∃ t, v = .int (val a) t) {R : Result → Shared → Prop} {S : Addr} {X : List Cel} :
    ∀ (as : List α) (s : Shared) (tot : Int) (tA : Tok) (st : Int), (st = 0 ∨ st = 2) → St B ((S, LstO [.int tot tA]) :: (I as ++ X)) s →
      (∀ s' t', St B (J ++ X) s' → R (.ok (.ret (.int (tot + (as.map val).sum) t'))) s') →
      codeAny (model prog w) A (.builtin "sum.loop" ⟨[it, .ref S, rawInt st, rawInt 0], []⟩) R s := by
  have pm : ∀ (v : Value) (as : List α), ((S, LstO [v]) :: (I as ++ X)).Perm (I as ++ ((S, LstO [v]) :: X)) := fun v as => List.perm_middle.symm
  intro as
  induction as with
  | nil =>
    intro s tot tA st hst H hR
    refine codeAny_builtin F.entry_sum_loop ?_
    rw [Around.under_plainId F.plain_sum_loop _]
    show wpAny _ A.in1 (seqItems? (.ref S) >>= _) _ _ s
    obtain ⟨n, ho⟩ := H.plst (.head _)
    refine wpAny_bind (wpAny_seqItems ho rfl ?_)
    show wpAny _ A.in1 (tryCatch (pyNext it) _ >>= _) _ _ s
    refine wpAny_bind (wpAny_tryCatch (hI.stop (H.perm (pm _ _)) fun s' H' => ?_))
    refine wpAny_pure ?_
    have := hR s' tA (H'.sub (List.Sublist.append (List.Sublist.refl J) (List.sublist_cons_self _ _)))
    simpa using this
  | cons a as ih =>
    intro s tot tA st hst H hR
    refine codeAny_builtin F.entry_sum_loop ?_
    rw [Around.under_plainId F.plain_sum_loop _]
    show wpAny _ A.in1 (seqItems? (.ref S) >>= _) _ _ s
    obtain ⟨n, ho⟩ := H.plst (.head _)
    refine wpAny_bind (wpAny_seqItems ho rfl ?_)
    show wpAny _ A.in1 (tryCatch (pyNext it) _ >>= _) _ _ s
    refine wpAny_bind (wpAny_tryCatch (hI.next (H.perm (pm _ _)) fun v s' hP H' => ?_))
    obtain ⟨t, rfl⟩ := hval a v hP
    have H1 := H'.perm (pm _ _).symm
    have go : ∀ (t1 : Tok) (st' : Int) (s2 : Shared), (st' = 0 ∨ st' = 2) → St B ((S, LstO [.int (tot + val a) t1]) :: (I as ++ X)) s2 →
        (Code.builtin "sum.loop" ⟨[it, .ref S, rawInt st', rawInt 0], []⟩).quiet = true ∧ codeAny (model prog w) A (.builtin "sum.loop" ⟨[it, .ref S, rawInt st', rawInt 0], []⟩) R s2 := fun t1 st' s2 hs2 H2 =>
      ⟨plainId_quiet F.plain_sum_loop _, ih s2 _ t1 st' hs2 H2 fun s3 t3 H3 => by
        have := hR s3 t3 H3
        rw [List.map_cons, List.sum_cons, ← Int.add_assoc] at this; exact this⟩
    have plain : ∀ (s1 : Shared), St B ((S, LstO [.int tot tA]) :: (I as ++ X)) s1 →
        wpAny (model prog w) A.in1 ((holding [Value.int (val a) t] (binaryOp .Add (.int tot tA) (.int (val a) t))).attempt >>= fun r => match r with
          | .ok r => (do updateSeq S fun _ => #[r]; letGo [.int tot tA, .int (val a) t]; updateSeq S (fun _ => #[r]); again (.builtin "sum.loop" ⟨[it, .ref S, rawInt 2, rawInt 0], []⟩))
          | .error e => (do updateSeq S fun _ => #[]; letGo [.int tot tA, .int (val a) t] [e]; throw e))
        (fun fin s' => match fin with | .done f => R (.ok f) s' | .again c' => c'.quiet = true ∧ codeAny (model prog w) A c' R s') (fun e s' => R (.error e) s') s1 := fun s1 H1 => by
      refine wpAny_bind (wpAny_attempt (wpAny_holding (wpAny_add_int ?_)))
      refine wpAny_bind (up_seq (H1.tok _) .head (vs' := [.int (tot + val a) s1.toks]) rfl one_le (by simp) fun s2 H2 => ?_)
      refine wpAny_bind (wpAny_letGo (wpAny_bind (up_seq H2 .head (vs' := [.int (tot + val a) s1.toks]) rfl one_le (by simp) fun s3 H3 => wpAny_pure (go _ 2 _ (.inr rfl) H3))))
    rcases hst with rfl | rfl
    · show wpAny _ A.in1 (if (_ : Bool) = true then (mkInt (tot + val a) >>= _) else _) _ _ _
      split
      · refine wpAny_bind (wpAny_mkInt ?_)
        show wpAny _ A.in1 (updateSeq S (fun _ => #[.int (tot + val a) s'.toks]) >>= _) _ _ _
        refine wpAny_bind (up_seq (H1.tok _) .head (vs' := [.int (tot + val a) s'.toks]) rfl one_le (by simp) fun s2 H2 => wpAny_pure (go _ 0 _ (.inl rfl) H2))
      · exact wpAny_bind (wpAny_rule (plain _ H1))
    · exact plain _ H1

theorem f_sum {α : Type} {x : Value} {val : α → Int} 
    (h : wpAny (model prog w) A.in1 (pyIter x) (fun it s₂ => ∃ (P : α → Value → Prop) (I : List α → List Cel) (J X : List Cel) (as : List α), Iter prog w A.in1 B it P I J ∧ (∀ a v, P a v → ∃ t, v = .int (val a) t) ∧ St B (I as ++ X) s₂ ∧
      ∀ s' t', St B (J ++ X) s' → Q (.int (as.map val).sum t') s') E s) :
    wpAny (model prog w) A (call (.builtin "sum") [x]) Q E s := by
  refine call_function_tree F.kind_sum F.plain_sum F.entry_sum (F.args_sum1 _) ?_
  unfold Builtin.«sum»
  simp only [List.length_cons, List.length_nil]
  rw [if_neg (by decide)]
  refine wpAny_bind (wpAny_of_eq (show Builtin.Builtins.bindParams "sum" ["start"] 0 { } = pure [none] from rfl) ?_)
  refine wpAny_bind (wpAny_mono h (fun it s₂ h₂ => ?_) fun _ _ e => e)
  obtain ⟨P, I, J, X, as, hI, hval, H, hQ⟩ := h₂
  refine wpAny_bind (wpAny_mkInt (wpAny_bind (wpAny_pure ?_)))
  simp only [List.forIn_cons, List.forIn_nil]
  refine wpAny_bind (wpAny_bind (wpAny_bind (wpAny_isInstance (T := "int") (b := false) (typeIs_int _ _ _) PyProof.Rows.sub_int_str ?_)))
  simp only [Bool.false_eq_true, if_false]
  refine wpAny_pure (wpAny_bind (wpAny_bind (wpAny_isInstance (T := "int") (b := false) (typeIs_int _ _ _) sub_int_bytes ?_)))
  simp only [Bool.false_eq_true, if_false]
  refine wpAny_pure (wpAny_bind (wpAny_bind (wpAny_isInstance (T := "int") (b := false) (typeIs_int _ _ _) sub_int_bytearray ?_)))
  simp only [Bool.false_eq_true, if_false]
  refine wpAny_pure (wpAny_pure ?_)
  refine wpAny_bind (wpAny_newList ?_ one_le)
  refine wpAny_pure ⟨plainId_quiet F.plain_sum_loop _, ?_⟩
  have H1 := (H.tok (s₂.toks + 1)).push (P := LstO [.int 0 s₂.toks]) (o := { cls := .type "list", data := .seq ([.int 0 s₂.toks] : List Value).toArray }) (t := s₂.toks + 1) ⟨0, rfl⟩
  refine sum_loop hI val hval as _ 0 s₂.toks 0 (.inl rfl) H1 fun s' t' H' => ?_
  rw [Int.zero_add]
  exact hQ s' t' H'
end
end Mine
end
section
namespace Mine
open PySem PySem.Calls PyProof.Rows PySem.W

noncomputable def SeqO {β : Type} (f : Value → Option β) (ss : List β) (o : Obj) : Prop := ∃ vs, LstO vs o ∧ vs.map f = ss.map some
theorem strs_seq (ss : List Str) : StrsO ss = SeqO sv ss := rfl
theorem ints_seq (ss : List Int) : IntsO ss = SeqO iv ss := rfl

theorem upR_len (a : Int) : ∀ n, (upR a n).length = n
  | 0 => rfl
  | n + 1 => by rw [upR, List.length_cons, upR_len (a + 1) n]
theorem upR_get (a : Int) : ∀ (n i : Nat), i < n → (upR a n)[i]? = some (a + i)
  | 0, i, h => absurd h (Nat.not_lt_zero _)
  | n + 1, 0, _ => by simp [upR]
  | n + 1, i + 1, h => by
    show (upR (a + 1) n)[i]? = _
    rw [upR_get (a + 1) n i (by (exact Nat.le_of_lt_succ (by assumption)))]; push_cast; congr 1; lia
theorem upR_mem {a x : Int} : ∀ {n : Nat}, x ∈ upR a n → a ≤ x ∧ x < a + n
  | 0, h => absurd h (List.not_mem_nil)
  | n + 1, h => by
    rcases List.mem_cons.mp h with rfl | h
    · (clear h; lia)
    · have := upR_mem (a := a + 1) h; (clear h; lia)

theorem St.drop {B s : Shared} {cs : List Cel} (H : St B cs s) (n : Nat) : St B (cs.drop n) s := H.sub (List.drop_sublist n cs)
theorem St.cut {B s : Shared} {cs : List Cel} (H : St B cs s) (i n : Nat) : St B (cs.take i ++ cs.drop (i + n)) s := by
  refine H.sub ?_
  have h1 : (cs.drop (i + n)).Sublist (cs.drop i) := by rw [← List.drop_drop]; exact List.drop_sublist _ _
  have h2 := List.Sublist.append (List.Sublist.refl (cs.take i)) h1
  rwa [List.take_append_drop] at h2

theorem front_perm {α : Type} : ∀ {l : List α} {i : Nat} {x : α}, l[i]? = some x → l.Perm (x :: l.eraseIdx i)
  | a :: l, 0, x, h => by simp at h; subst h; exact .refl _
  | a :: l, i + 1, x, h => by
    have h' : l[i]? = some x := by simpa using h
    exact ((front_perm h').cons a).trans (.swap ..)
theorem St.front {B s : Shared} {cs : List Cel} (H : St B cs s) (i : Nat) {x : Cel} (hx : cs[i]? = some x := by rfl) : St B (x :: cs.eraseIdx i) s := H.perm (front_perm hx)

theorem list_vals {α : Type} {P : α → Value → Prop} {β : Type} {f : Value → Option β} (hP : ∀ a v, P a v → ∃ b, f v = some b) : ∀ {as : List α} {vs : List Value}, Paired P as vs → ∃ ks : List β, vs.map f = ks.map some ∧ ks.length = as.length
  | _, _, .nil => ⟨[], rfl, rfl⟩
  | _, _, .cons a r => by
    obtain ⟨b, e⟩ := hP _ _ a
    obtain ⟨ks, e2, l⟩ := list_vals hP r
    exact ⟨b :: ks, by simp [e, e2], by simp [l]⟩

section
variable {prog : Program} {w : World} {A : Around} {E : Value → Shared → Prop} {B s : Shared} {cs cs' : List Cel} {env : Env} {Q : Value → Shared → Prop}

theorem iter_seq {β : Type} {f : Value → Option β} {it l : Addr} {ss : List β} (hh : A.handled = none) : Iter prog w A B (.ref it) (fun (a : β) v => f v = some a)
    (fun as => [(it, fun o => as.length ≤ ss.length ∧ as = ss.drop (ss.length - as.length) ∧ LitO l (ss.length - as.length) o), (l, SeqO f ss)]) [(l, SeqO f ss)] where
  next := fun {a as R s Q E} H h => by
    obtain ⟨o, ho, hle, has, hit⟩ := H.get (.head _)
    obtain ⟨o2, ho2, vs, ⟨n, rfl⟩, hvs⟩ := H.get (.tail _ (.head _))
    have hl : s.heap.IsList l vs.toArray := Heap.PlainList.isList ⟨n, ho2⟩
    have hi : s.heap.IsListIter it l (ss.length - (a :: as).length) := ⟨o, ho, hit⟩
    rw [List.length_cons] at hle has hi
    have hx : ss[ss.length - (as.length + 1)]? = some a := by
      have : (ss.drop (ss.length - (as.length + 1)))[0]? = some a := by rw [← has]; rfl
      simpa using this
    obtain ⟨v, hv, hf⟩ := map_at hvs hx
    refine wpAny_pyNext_list_item hi hl (x := v) (by simpa using hv) fun h' hit' hs => ?_
    refine h v _ hf (H.upd (t := s.toks) .head hs ?_)
    obtain ⟨o', e, r⟩ := hit'
    have e1 : ss.length - as.length = ss.length - (as.length + 1) + 1 := by lia
    refine ⟨o', e, by (exact Nat.le_of_lt (by assumption)), ?_, e1 ▸ r⟩
    rw [e1]
    have h2 : ss.drop (ss.length - (as.length + 1)) = a :: as := has.symm
    have h3 := congrArg List.tail h2
    rw [List.tail_drop] at h3
    exact h3.symm
  stop := fun {R s Q E} H h => by
    obtain ⟨o, ho, _, _, hit⟩ := H.get (.head _)
    obtain ⟨o2, ho2, vs, ⟨n, rfl⟩, hvs⟩ := H.get (.tail _ (.head _))
    have hl : s.heap.IsList l vs.toArray := Heap.PlainList.isList ⟨n, ho2⟩
    have hi : s.heap.IsListIter it l ss.length := ⟨o, ho, hit⟩
    refine wpAny_pyNext_list_end hh hi hl (by simp [← map_len hvs]) fun h' hs => ?_
    exact h _ (H.del (t := s.toks) .head ⟨_, .head _⟩ hs)
  self := fun {as R s Q E} H h => by
    obtain ⟨o, ho, _, _, hit⟩ := H.get (.head _)
    exact wpAny_pyIter_listiter (l := l) (i := ss.length - as.length) ⟨o, ho, hit⟩ h
  own := fun {as R s target v Q E} H h => by
    obtain ⟨o, ho, _, _, hc, hd⟩ := H.get (.head _)
    exact own_of ho hc hd (by decide) h

theorem pyIter_seq {β : Type} {f : Value → Option β} {l : Addr} {ss : List β} (H : St B ((l, SeqO f ss) :: cs) s)
    (h : ∀ it s', St B ([(it, fun o => ss.length ≤ ss.length ∧ ss = ss.drop (ss.length - ss.length) ∧ LitO l (ss.length - ss.length) o), (l, SeqO f ss)] ++ cs) s' → Q (.ref it) s') :
    wpAny (model prog w) A (pyIter (.ref l)) Q E s := by
  obtain ⟨o2, ho2, vs, ⟨n, rfl⟩, hvs⟩ := H.get (.head _)
  refine wpAny_pyIter_list (Heap.PlainList.isList ⟨n, ho2⟩) (h _ _ (H.push (t := s.toks) ⟨Nat.le_refl _, ?_, ?_⟩))
  · simp
  · exact ⟨rfl, by simp⟩

theorem Names.g (N : Names B) {x : Str} {v : Value} (h : ∀ mg : Str → Option Value, (mg "_strcoll" = some (.ref 129) ∧ mg "_grouping_intervals" = some (.ref 136) ∧ mg "_strip_padding" = some (.ref 143) ∧ mg "quotedata" = some (.ref 160) ∧
    mg "_law_numbers" = some (.ref 165) ∧ mg "_law_order" = some (.ref 170) ∧ mg "_law_page" = some (.ref 175) ∧ mg "_law_words" = some (.ref 182) ∧ mg "_law_exchange" = some (.ref 189) ∧ mg "_law_slide" = some (.ref 194) ∧
    mg "_law_mail" = some (.ref 199) ∧ mg "_law_cut" = some (.ref 206) ∧ mg "_law_grown" = some (.ref 211) ∧ mg "_Accumulator" = some (.ref 118) ∧ mg "_twin_re_1" = some (.ref 148) ∧ mg "_twin_re_2" = some (.ref 153)) → mg x = some v) :
    ∃ mg, B.heap.Ns mainGlobals mg ∧ mg x = some v := by
  obtain ⟨mg, g, a1, a2, a3, a4, a5, a6, a7, a8, a9, b1, b2, b3, b4, b5, b6, b7, _⟩ := N.gl
  exact ⟨mg, g, h mg ⟨a1, a2, a3, a4, a5, a6, a7, a8, a9, b1, b2, b3, b4, b5, b6, b7⟩⟩

noncomputable def RngO (a b : Int) (o : Obj) : Prop := ∃ t u v, o = { cls := .type "range", dict := none, data := .fields #[.int a t, .int b u, .int 1 v], slots := #[] }
noncomputable abbrev RitO (b : Int) (as : List Int) (o : Obj) : Prop := as = upR (b - as.length) as.length ∧ o = { cls := .type "range_iterator", dict := none, data := .fields #[rawInt (b - as.length), rawInt as.length, rawInt 1], slots := #[] }

theorem range1 {n : Int} {t : Tok} (H : St B cs s) (h : ∀ r s', St B ((r, RngO 0 n) :: cs) s' → Q (.ref r) s') : wpAny (model prog w) A (call (.type "range") [.int n t]) Q E s :=
  call_range_1 (h _ _ (H.push (t := s.toks + 1 + 1) ⟨_, _, _, rfl⟩))
theorem range2 {a n : Int} {t u : Tok} (H : St B cs s) (h : ∀ r s', St B ((r, RngO a n) :: cs) s' → Q (.ref r) s') : wpAny (model prog w) A (call (.type "range") [.int a t, .int n u]) Q E s :=
  call_range_2 (h _ _ (H.push (t := s.toks + 1) ⟨_, _, _, rfl⟩))

theorem pyIter_range {r : Addr} {a : Int} {n : Nat} (H : St B ((r, RngO a (a + n)) :: cs) s) (ha : 0 ≤ a) (hn : a + n < 2 ^ 32)
    (h : ∀ it s', St B ([(it, RitO (a + n) (upR a n))] ++ cs) s' → Q (.ref it) s') :
    wpAny (model prog w) A (pyIter (.ref r)) Q E s := by
  obtain ⟨o, ho, t, u, v, rfl⟩ := H.get (.head _)
  have e : Builtin.Range.rangeSize a (a + n) 1 = n := by rw [rangeSize_one]; split <;> lia
  refine wpAny_pyIter_range ho ?_ ?_
  · unfold Builtin.Range.small Builtin.Range.rangeFitsLong
    rw [e]
    simp only [show (1 : Int) > 0 by decide, if_true]
    have e1 : decide (-(2 ^ 63 : Int) ≤ a) = true := decide_eq_true (by lia)
    have e2 : decide (a < (2 ^ 63 : Int)) = true := decide_eq_true (by lia)
    have e3 : decide (-(2 ^ 63 : Int) ≤ a + n) = true := decide_eq_true (by lia)
    have e4 : decide (a + n < (2 ^ 63 : Int)) = true := decide_eq_true (by lia)
    have e5 : decide (-(2 ^ 63 : Int) ≤ (n : Int)) = true := decide_eq_true (by (exact Int.natCast_nonneg _))
    have e6 : decide ((n : Int) < (2 ^ 63 : Int)) = true := decide_eq_true (by lia)
    have e7 : decide (-(2 ^ 63 : Int) ≤ a + n + (1 - 1)) = true := decide_eq_true (by lia)
    have e8 : decide (a + n + (1 - 1) < (2 ^ 63 : Int)) = true := decide_eq_true (by lia)
    rw [e1, e2, e3, e4, e5, e6, e7, e8]; simp
  · rw [e]
    have H1 := H.push (P := RitO (a + n) (upR a n)) (o := { cls := .type "range_iterator", data := .fields #[rawInt a, rawInt n, rawInt 1] }) (t := s.toks) ⟨?_, ?_⟩
    · exact h _ _ (H1.sub (by simp))
    · rw [upR_len, show a + n - n = a by lia]
    · rw [upR_len, show a + n - n = a by lia]

theorem cw_ty {pos : Pos} {T : String} {e : Expr} {rest : List Expr}
    (h : wpAny (model prog w) A (spliced (backTo pos (starEach (e :: rest) env))) (fun vs s₁ => wpAny (model prog w) A (call (.type T) vs) Q E s₁) E s)
    (he : starEach (e :: rest) env = (false, eval e env) :: starEach rest env := by rfl) (hplain : (backTo pos (starEach rest env)).any (·.1) = false := by rfl) :
    wpAny (model prog w) A (callWith pos (.type T) [] (backTo pos (starEach (e :: rest) env)) []) Q E s := PySem.Pv.callWith_type1 h he hplain

theorem a_tup {elts : List Expr} {x1} {pos : Pos} {t : Addr} {vs : List Value} {Q : Unit → Shared → Prop} (hh : A.handled = none) (H : St B cs s) (ht : (t, TupO vs) ∈ cs)
    (hn : (assignEach elts env).length = vs.length) (hstar : (assignEach elts env).findIdx? (·.1) = none)
    (h : ∀ s', St B cs s' → wpAny (model prog w) A (assignInOrder ((assignEach elts env).map (·.2)) vs) Q E s') :
    wpAny (model prog w) A (assign (.Tuple elts x1 pos) env (.ref t)) Q E s := by
  refine wpAny_assign_Tuple hh (H.tup ht) (by simpa using hn) hstar fun h' he => ?_
  have := h _ (H.ext (t := s.toks) (h' := h') fun b o e => he b o (Nat.ne_of_lt (Heap.lt_size e)) e)
  simpa using this

theorem cw_m {id : String} {pos : Pos} {first : List Value} {e : Expr} {rest : List Expr}
    (h : wpAny (model prog w) A (spliced (backTo pos (starEach (e :: rest) env))) (fun vs s₁ => wpAny (model prog w) A (call (.builtin id) (first ++ vs)) Q E s₁) E s)
    (he : starEach (e :: rest) env = (false, eval e env) :: starEach rest env := by rfl) (hp : (backTo pos (starEach (e :: rest) env)).any (·.1) = false := by rfl) :
    wpAny (model prog w) A (callWith pos (.builtin id) first (backTo pos (starEach (e :: rest) env)) []) Q E s := by
  refine callWith_builtin hp ?_
  rw [he] at h ⊢
  exact evalArgs_plain h
theorem m_append {o e : Expr} {apos pos : Pos}
    (h : wpAny (model prog w) A (eval o env) (fun ov s₁ => ∃ l c1 vs, ov = .ref l ∧ St B c1 s₁ ∧ (l, LstO vs) ∈ c1 ∧
      wpAny (model prog w) A (eval e env) (fun v s₂ => ∃ c2 c3 us, St B c2 s₂ ∧ us.length ≤ sizeLine ∧ Upd l (LstO us) (LstO (us ++ [v])) c2 c3 ∧ ∀ s', St B c3 s' → Q .none s') E s₁) E s)
    (hbase : attributeBase o "append" env (eval o env) = eval o env)
    (hfew : ((backTo pos (starEach [e] env)).all (fun x => !x.1) && (backToKw pos (keywordEach [] env)).all (fun x => x.1.isSome)
      && decide (([e] : List Expr).length + ([] : List Keyword).length + (if ([] : List Keyword).isEmpty then 0 else 1) < 30)) = true := by rfl)
    (hline : (apos.endLine == pos.line) = true := by rfl)
    (he : starEach [e] env = [(false, eval e env)] := by rfl) (hp : (backTo pos (starEach [e] env)).any (·.1) = false := by rfl) :
    wpAny (model prog w) A (eval (.Call (.Attribute o "append" apos) [e] [] pos) env) Q E s := by
  refine wpAny_Call_method (T := "list") (id := "list.append") hbase hfew hline F.plainAttrs_list slot_list_append F.type_list_append (wpAny_mono h (fun ov s₁ h₁ => ?_) fun _ _ x => x)
  obtain ⟨l, c1, vs, rfl, H1, hm, h1⟩ := h₁
  obtain ⟨n, hl⟩ := H1.plst hm
  refine ⟨⟨_, hl, rfl⟩, fun a ea => by cases ea; exact ⟨_, hl, rfl⟩, ?_⟩
  refine cw_m ?_ he hp
  refine wpAny_items_cons (he := he) (wpAny_mono h1 (fun v s2 h2 => wpAny_items_nil ?_) fun _ _ x => x)
  obtain ⟨c2, c3, us, H2, hz, U, q⟩ := h2
  exact f_append H2 U hz q
end
end Mine
end
section
namespace Mine
open PySem PySem.Calls PyProof.Rows PySem.W

section
variable {prog : Program} {w : World} {A : Around} {E : Value → Shared → Prop} {B s : Shared} {cs cs' : List Cel} {env : Env} {Q : Value → Shared → Prop}

theorem part_some {e : Expr} (h : wpAny (model prog w) A (eval e env) Q E s) : wpAny (model prog w) A (evalPart (some e) env) Q E s := h
theorem part_none (h : Q .none s) : wpAny (model prog w) A (evalPart none env) Q E s := evalPart_none_step h

theorem l_add {l b : Addr} {vs us : List Value} (H : St B cs s) (hm : (l, LstO vs) ∈ cs) (hm2 : (b, LstO us) ∈ cs) (hz : vs.length + us.length ≤ sizeLine) (h : ∀ D s', St B ((D, LstO (vs ++ us)) :: cs) s' → Q (.ref D) s') :
    wpAny (model prog w) A (binaryOp .Add (.ref l) (.ref b)) Q E s := by
  obtain ⟨n, ho⟩ := H.plst hm
  obtain ⟨n2, ho2⟩ := H.plst hm2
  have e : vs.toArray ++ us.toArray = (vs ++ us).toArray := by simp
  refine concat_meets ⟨_, ho, rfl⟩ ⟨_, ho2, rfl⟩ noFill_list_add seq_list_add PySem.F.slot_list_add PySem.F.entry_list_add (PySem.F.args_list_add_2 _ _) (list_addW l b vs.toArray us.toArray n n2 none none #[] #[] (by simpa using hz)) ⟨ho, ho2, ?_⟩
  rw [e]
  exact h _ _ (H.push (P := LstO (vs ++ us)) (t := s.toks) ⟨0, rfl⟩)

theorem l_mul {l : Addr} {vs : List Value} {x : Int} {u : Tok} (H : St B cs s) (hm : (l, LstO vs) ∈ cs) (hlo : -(2 ^ 63 : Int) ≤ x) (hhi : x < 2 ^ 63) (hsz : vs.length * x.toNat ≤ 2 ^ 24)
    (h : ∀ D s', St B ((D, LstO (List.replicate x.toNat vs).flatten) :: cs) s' → Q (.ref D) s') :
    wpAny (model prog w) A (binaryOp .Mult (.ref l) (.int x u)) Q E s := by
  obtain ⟨n, hl⟩ := H.plst hm
  have hsz' : vs.toArray.size * x.toNat ≤ 2 ^ 24 := by simpa using hsz
  refine wpAny_binaryOp_repeat_ref (T := "list") (U := "int") (by decide) ⟨_, hl, rfl⟩ (fun s' => typeIs_int s' x u) noFill_list_mul F.fills_int_mul F.slot_int_rmul repeat_list F.slot_int_index.lookup
    (call_meets F.slot_int_rmul (typeIs_int s x u) F.entry_int_rmul (F.args_int_rmul_2 _ _) (int___rmul___int_list x u l vs.toArray n)
      ⟨hl, rfl, ⟨_, hl, rfl⟩, call_meets F.slot_list_mul ⟨_, hl, rfl⟩ F.entry_list_mul (F.args_list_mul_2 _ _)
        (AutoListH.list___mul___list_int_3 l vs.toArray n x u (by simp [Builtin.List.listFitsIndex]; lia) (by (clear hsz; lia)) (by simp [Builtin.List.listTooLong, sizeLine] at hsz' ⊢; assumption))
        ⟨hl, h _ _ (H.push (t := s.toks) ⟨0, ?_⟩)⟩⟩)
  by_cases he : vs = []
  · subst he; simp
  · have : vs.toArray.isEmpty = false := by simpa using he
    rw [this]
    simp only [Bool.false_eq_true, if_false, listMul_foldl]
    simp

theorem slice_k {value slice : Expr} {l : Addr} {vs : List Value} {vl vu : Value} {lo hi : Option Int} {ops : List Value} (H : St B cs s) (hm : (l, LstO vs) ∈ cs) (pl : IsPart vl lo) (pu : IsPart vu hi) (hz : vs.length ≤ sizeLine)
    (h : ∀ D s', St B ((D, LstO (kms_pick vs lo hi)) :: cs) s' → Q (.ref D) s')
    (hs : subscripted slice false (.ref l) (.ref s.heap.objs.size) = operate ops (getItem (.ref l) (.ref s.heap.objs.size))) :
    wpAny (model prog w) A (subscriptTail value slice (.ref l) (.ref s.heap.objs.size)) Q E { s with heap := s.heap.push (slObj vl vu .none) } := by
  refine slice_list H hm pl pu .none (by simp) hz (fun D s' H' => h D s' ?_) hs
  rw [kms_pick_eq] at H'
  exact H'

theorem pick_map {β : Type} {f : Value → Option β} {vs : List Value} {ss : List β} (h : vs.map f = ss.map some) (a b : Nat) : ((vs.drop a).take b).map f = ((ss.drop a).take b).map some := by
  rw [List.map_take, List.map_drop, h, ← List.map_drop, ← List.map_take]

theorem slice_seq {β : Type} {f : Value → Option β} {value slice : Expr} {l : Addr} {ss : List β} {vl vu : Value} {lo hi : Option Int} {ops : List Value} (H : St B cs s) (hm : (l, SeqO f ss) ∈ cs) (pl : IsPart vl lo) (pu : IsPart vu hi) (hz : ss.length ≤ sizeLine)
    (h : ∀ D s', St B ((D, SeqO f ((ss.drop (kms_lo lo ss.length)).take (kms_hi hi ss.length - kms_lo lo ss.length))) :: cs) s' → Q (.ref D) s')
    (hs : subscripted slice false (.ref l) (.ref s.heap.objs.size) = operate ops (getItem (.ref l) (.ref s.heap.objs.size))) :
    wpAny (model prog w) A (subscriptTail value slice (.ref l) (.ref s.heap.objs.size)) Q E { s with heap := s.heap.push (slObj vl vu .none) } := by
  obtain ⟨o, ho, vs, ⟨n, rfl⟩, hvs⟩ := H.get hm
  have hl : s.heap.IsList l vs.toArray := Heap.PlainList.isList ⟨n, ho⟩
  have hlen := map_len hvs
  have H1 := H.slice vl vu .none
  have hl1 : ({ s with heap := s.heap.push (slObj vl vu .none) } : Shared).heap.IsList l vs.toArray := let ⟨o, e, r⟩ := hl; ⟨o, Heap.get?_push_of_some _ e, r⟩
  refine tail_any hl1.typeIs slot_list_getitem.lookup (wpAny_getItem_list_slice hl1 (Heap.IsSliceOf.new ..) pl pu .none (by simp) ?_ (by simpa [hlen] using hz)) hs
  refine h _ _ (H1.push (t := s.toks) ⟨kms_pick vs lo hi, ⟨0, ?_⟩, ?_⟩)
  · rw [kms_pick_eq]
  · unfold kms_pick; rw [hlen]; exact pick_map hvs _ _

theorem f_len_seq {β : Type} {f : Value → Option β} {l : Addr} {ss : List β} (H : St B cs s) (hm : (l, SeqO f ss) ∈ cs) (hz : ss.length < 2 ^ 63) (h : ∀ t s', St B cs s' → Q (.int ss.length t) s') : wpAny (model prog w) A (call (.builtin "len") [.ref l]) Q E s := by
  obtain ⟨o, ho, vs, ⟨n, rfl⟩, hvs⟩ := H.get hm
  have hl : s.heap.IsList l vs.toArray := Heap.PlainList.isList ⟨n, ho⟩
  have hlen := map_len hvs
  exact PyProof.Rows.len_list hl (by rw [List.size_toArray]; lia) (by rw [List.size_toArray, hlen]; exact h _ _ (H.tok _))
theorem St.sink {x : Cel} {pre T : List Cel} (H : St B (x :: (pre ++ (T ++ cs))) s) : St B (pre ++ ((T ++ [x]) ++ cs)) s := by
  refine H.perm ?_
  have h1 : (x :: (pre ++ (T ++ cs))).Perm ((pre ++ T) ++ (x :: cs)) := by
    rw [← List.append_assoc]; exact List.perm_middle.symm
  have e : (pre ++ T) ++ (x :: cs) = pre ++ ((T ++ [x]) ++ cs) := by simp
  rw [← e]; exact h1

theorem tr_int {whole : Sem Value} {op l r pos} {Q : Bool → Shared → Prop}
    (h : wpAny (model prog w) A (eval l env) (fun a s₁ => wpAny (model prog w) A (eval r env) (fun b s₂ => wpAny (model prog w) A (compareOp op a b) (fun c s₃ => wpAny (model prog w) A (truthy c) Q E s₃) E s₂) E s₁) E s)
    (hm : behindInMarks op r = false := by with_unfolding_all rfl) : wpAny (model prog w) A (isTrue (.Compare l [op] [r] pos) env whole) Q E s := wpAny_isTrue_Compare1 h hm

theorem turn_filter {α : Type} {P : α → Value → Prop} {I : List α → List Cel} {cenv : Env} {elt test : Expr} {x : Str} {px : Pos} {C D : Addr} {X : List Cel} {as0 : List α} (p : α → Bool) (F : α → Value → Prop) (hz : as0.length ≤ sizeLine)
    (hC : cenv.locals = C) (hk : cenv.scope.kind = .function) (hl : cenv.kindOf x = some .local)
    (btest : ∀ a as ys v m s E', a ∈ as0 → P a v → m x = some v → St B ((C, NsO m) :: (D, LstO ys) :: (I as ++ X)) s →
      wpAny (model prog w) A (isTrue test cenv (eval test cenv)) (fun b s3 => b = p a ∧ St B ((C, NsO m) :: (D, LstO ys) :: (I as ++ X)) s3) E' s)
    (belt : ∀ a as ys v m s E', a ∈ as0 → p a = true → P a v → m x = some v → St B ((C, NsO m) :: (D, LstO ys) :: (I as ++ X)) s →
      wpAny (model prog w) A (eval elt cenv) (fun y s4 => F a y ∧ ∃ m', St B ((C, NsO m') :: (D, LstO ys) :: (I as ++ X)) s4) E' s) :
    Turn prog w A B cenv elt (.Name x px) [test] D P I (fun _ : Unit => X) (Z0 C) (fun as ys _ => ∃ pre, as0 = pre ++ as ∧ Paired F (pre.filter p) ys) := by
  subst hC
  intro a as v _ ys m s E' hp ⟨pre, e, pr⟩ H
  refine wpAny_assign_Name (s_local (m' := m) H .head (fun s2 H2 => ?_) hk hl)
  refine wpAny_tests_one ?_
  have hlen : ys.length ≤ sizeLine := by
    rw [← pr.length]
    have h1 := List.length_filter_le p pre
    have : as0.length = pre.length + (as.length + 1) := by rw [e]; simp
    lia
  refine wpAny_mono (btest a as ys v (fun y => if y = x then some v else m y) s2 E' (by rw [e]; simp) hp (if_pos rfl) H2) (fun b s3 h3 => ?_) fun _ _ e => e
  obtain ⟨hb, h3⟩ := h3
  cases b with
  | true =>
    rw [if_pos rfl]
    refine wpAny_mono (belt a as ys v _ s3 E' (by rw [e]; simp) hb.symm hp (if_pos rfl) h3) (fun y s4 ⟨f, m', H4⟩ => ?_) fun _ _ e => e
    refine ⟨(), m', hlen, ⟨pre ++ [a], by rw [e]; simp, ?_⟩, H4⟩
    rw [List.filter_append, List.filter_cons_of_pos (by rw [← hb])]
    exact pr.snoc f
  | false =>
    rw [if_neg (by decide)]
    refine ⟨(), _, ⟨pre ++ [a], by rw [e]; simp, ?_⟩, h3⟩
    rw [List.filter_append, List.filter_cons_of_neg (by rw [← hb]; decide)]
    simpa using pr

section
variable {α : Type} {P : α → Value → Prop} {I : List α → List Cel} {J X : List Cel} {it : Value} {s₂ : Shared} {as0 : List α} {elt test : Expr} {x : Str} {px : Pos} {scope : Scope} {cl : List (Str × Addr)}
theorem filter_end {Q : Value → Shared → Prop} (p : α → Bool) (F : α → Value → Prop) (hI : Iter prog w A B it P I J) (H : St B (I as0 ++ X) s₂) (hz : as0.length ≤ sizeLine)
    (btest : ∀ C D a as ys v m s E', a ∈ as0 → P a v → m x = some v → St B ((C, NsO m) :: (D, LstO ys) :: (I as ++ X)) s →
      wpAny (model prog w) A (isTrue test (compEnvC scope cl C env) (eval test (compEnvC scope cl C env))) (fun b s3 => b = p a ∧ St B ((C, NsO m) :: (D, LstO ys) :: (I as ++ X)) s3) E' s)
    (belt : ∀ C D a as ys v m s E', a ∈ as0 → p a = true → P a v → m x = some v → St B ((C, NsO m) :: (D, LstO ys) :: (I as ++ X)) s →
      wpAny (model prog w) A (eval elt (compEnvC scope cl C env)) (fun y s4 => F a y ∧ ∃ m', St B ((C, NsO m') :: (D, LstO ys) :: (I as ++ X)) s4) E' s)
    (fin : ∀ D ys s', Paired F (as0.filter p) ys → St B ((D, LstO ys) :: (J ++ X)) s' → Q (.ref D) s')
    (hk : ∀ C, (compEnvC scope cl C env).scope.kind = .function := by intro _; rfl) (hl : ∀ C, (compEnvC scope cl C env).kindOf x = some .local := by intro _; rfl) :
    CompEnd prog w A B env elt (.Name x px) [test] scope cl Q it s₂ :=
  ⟨α, P, I, J, Unit, fun _ => X, _, as0, (), hI, H, ⟨[], rfl, .nil⟩, fun C D => turn_filter p F hz rfl (hk C) (hl C) (btest C D) (belt C D), fun D _ ys s' ⟨pre, e, pr⟩ H' => fin D ys s' (by rw [List.append_nil] at e; rw [e]; exact pr) H'⟩
theorem filter_use {Q : Flow → Shared → Prop} {y : Str} (p : α → Bool) (F : α → Value → Prop) (hI : Iter prog w A B it P I J) (H : St B (I as0 ++ X) s₂) (hz : as0.length ≤ sizeLine)
    (btest : ∀ C D a as ys v m s E', a ∈ as0 → P a v → m x = some v → St B ((C, NsO m) :: (D, LstO ys) :: (I as ++ X)) s →
      wpAny (model prog w) A (isTrue test (compEnvC scope cl C env) (eval test (compEnvC scope cl C env))) (fun b s3 => b = p a ∧ St B ((C, NsO m) :: (D, LstO ys) :: (I as ++ X)) s3) E' s)
    (belt : ∀ C D a as ys v m s E', a ∈ as0 → p a = true → P a v → m x = some v → St B ((C, NsO m) :: (D, LstO ys) :: (I as ++ X)) s →
      wpAny (model prog w) A (eval elt (compEnvC scope cl C env)) (fun y s4 => F a y ∧ ∃ m', St B ((C, NsO m') :: (D, LstO ys) :: (I as ++ X)) s4) E' s)
    (fin : ∀ D ys, Paired F (as0.filter p) ys → ∃ m cs'', Upd env.locals (NsO m) (NsO fun z => if z = y then some (.ref D) else m z) ((D, LstO ys) :: (J ++ X)) cs'' ∧ ∀ s', St B cs'' s' → Q .next s')
    (hk : ∀ C, (compEnvC scope cl C env).scope.kind = .function := by intro _; rfl) (hl : ∀ C, (compEnvC scope cl C env).kindOf x = some .local := by intro _; rfl) :
    CompUse prog w A B env elt (.Name x px) [test] scope cl y Q it s₂ :=
  ⟨α, P, I, J, Unit, fun _ => X, _, as0, (), hI, H, ⟨[], rfl, .nil⟩, fun C D => turn_filter p F hz rfl (hk C) (hl C) (btest C D) (belt C D), fun D _ ys ⟨pre, e, pr⟩ => fin D ys (by rw [List.append_nil] at e; rw [e]; exact pr)⟩
end

noncomputable def PairO (p : Int × Int) (o : Obj) : Prop := ∃ t u, TupO [.int p.1 t, .int p.2 u] o
noncomputable def tupC (as : List Addr) (ps : List (Int × Int)) : List Cel := List.zipWith (fun a p => (a, PairO p)) as ps
theorem tupC_snoc {as : List Addr} {ps : List (Int × Int)} (h : as.length = ps.length) (a : Addr) (p : Int × Int) : tupC (as ++ [a]) (ps ++ [p]) = tupC as ps ++ [(a, PairO p)] := by
  unfold tupC
  rw [List.zipWith_append h]; rfl
theorem zip_mem {α β : Type} {as : List Addr} {ps : List β} (g : Addr → β → α) (h : as.length = ps.length) {i : Nat} {p : β} (hi : ps[i]? = some p) : ∃ a, as[i]? = some a ∧ g a p ∈ List.zipWith g as ps := by
  have hl := (List.getElem?_eq_some_iff.mp hi).1
  refine ⟨as[i], List.getElem?_eq_getElem (by lia), ?_⟩
  have : (List.zipWith g as ps)[i]? = some (g as[i] p) := by
    rw [List.getElem?_zipWith, hi, List.getElem?_eq_getElem (by lia : i < as.length)]
  exact List.mem_of_getElem? this
end
end Mine
end
section
namespace Mine
open PySem PySem.Calls PyProof.Rows PySem.W PySem.SeqAt

theorem fold_one (c : Nat) : ∀ (k : Nat) (acc : Array Nat), (List.replicate k #[c]).foldl (· ++ ·) acc = acc ++ (List.replicate k c).toArray
  | 0, acc => by simp
  | k + 1, acc => by
    rw [List.replicate_succ, List.foldl_cons, fold_one c k, List.replicate_succ]
    apply Array.ext'; simp

section
variable {prog : Program} {w : World} {A : Around} {E : Value → Shared → Prop} {B s : Shared} {cs cs' : List Cel} {env : Env} {Q : Value → Shared → Prop}

theorem t_mul1 {c : Nat} {n : Int} {t u : Tok} (H : St B cs s) (hn : n ≤ 2 ^ 20) (h0 : 0 ≤ n) (h : ∀ t s', St B cs s' → Q (.str ⟨(List.replicate n.toNat c).toArray⟩ t) s') :
    wpAny (model prog w) A (binaryOp .Mult (.str ⟨#[c]⟩ t) (.int n u)) Q E s := by
  have hz : ∀ k : Nat, k ≤ 2 ^ 20 → k ≤ sizeLine := fun k hk => Nat.le_trans hk (by decide)
  refine P.mul_str ?_ (fun h1 _ => ?_) (fun h1 _ => ?_) ?_
  · rw [decide_eq_false (by lia), decide_eq_false (by lia)]; rfl
  · have e1 : ((Str.length ⟨#[c]⟩ : Nat) : Int) = 1 := rfl
    rw [e1]
    have : 1 ≤ (2 ^ 63 - 1) / n := by
      rw [Int.le_ediv_iff_mul_le (by (clear e1 hn; omega))]; lia
    lia
  · show decide (_ > sizeLine) = false
    have e1 : Str.length ⟨#[c]⟩ = 1 := rfl
    rw [e1]
    have := hz n.toNat (by (clear h1; lia))
    exact decide_eq_false (by lia)
  · by_cases h1 : n < 1
    · rw [if_pos h1]
      have e : n.toNat = 0 := by lia
      rw [e] at h
      exact ⟨by decide, h _ _ (H.tok _)⟩
    · rw [if_neg h1]
      by_cases h2 : (n == 1 || Str.length ⟨#[c]⟩ == 0) = true
      · rw [if_pos h2]
        have e1 : (Str.length ⟨#[c]⟩ == 0) = false := rfl
        rw [e1, Bool.or_false, beq_iff_eq] at h2
        subst h2
        exact h _ _ H
      · rw [if_neg h2, fold_one]
        refine ⟨?_, ?_⟩
        · show Array.size _ ≤ _
          have := hz n.toNat (by (clear h1; lia))
          simpa using this
        · have := h s.toks _ (H.tok (s.toks + 1))
          simpa using this

theorem m_call {o e : Expr} {rest : List Expr} {name : Str} {apos pos : Pos} {T id : String} (pa : PlainAttrs T) (slot : Slot T name id) (hty : typeOf (.builtin id) = pure (.type "method_descriptor"))
    (h : wpAny (model prog w) A (eval o env) (fun ov s₁ => s₁.TypeIs ov T ∧ (∀ a, ov = .ref a → ∃ ob, s₁.heap.get? a = some ob ∧ ob.dict = none) ∧
      wpAny (model prog w) A (spliced (backTo pos (starEach (e :: rest) env))) (fun vs s₂ => wpAny (model prog w) A (call (.builtin id) (ov :: vs)) Q E s₂) E s₁) E s)
    (hbase : attributeBase o name env (eval o env) = eval o env)
    (hfew : ((backTo pos (starEach (e :: rest) env)).all (fun x => !x.1) && (backToKw pos (keywordEach [] env)).all (fun x => x.1.isSome)
      && decide ((e :: rest).length + ([] : List Keyword).length + (if ([] : List Keyword).isEmpty then 0 else 1) < 30)) = true := by rfl)
    (hline : (apos.endLine == pos.line) = true := by rfl)
    (he : starEach (e :: rest) env = (false, eval e env) :: starEach rest env := by rfl) (hp : (backTo pos (starEach (e :: rest) env)).any (·.1) = false := by rfl) :
    wpAny (model prog w) A (eval (.Call (.Attribute o name apos) (e :: rest) [] pos) env) Q E s := by
  refine wpAny_Call_method (T := T) (id := id) hbase hfew hline pa slot hty (wpAny_mono h (fun ov s₁ h₁ => ?_) fun _ _ x => x)
  exact ⟨h₁.1, h₁.2.1, cw_m (first := [ov]) h₁.2.2 he hp⟩

theorem St.isL (H : St B cs s) {l : Addr} {vs : List Value} (hm : (l, LstO vs) ∈ cs) : s.TypeIs (.ref l) "list" ∧ (∀ a, Value.ref l = .ref a → ∃ ob, s.heap.get? a = some ob ∧ ob.dict = none) := by
  obtain ⟨n, hl⟩ := H.plst hm
  exact ⟨⟨_, hl, rfl⟩, fun a ea => by cases ea; exact ⟨_, hl, rfl⟩⟩
theorem St.isSeq (H : St B cs s) {β : Type} {f : Value → Option β} {l : Addr} {ss : List β} (hm : (l, SeqO f ss) ∈ cs) : s.TypeIs (.ref l) "list" ∧ (∀ a, Value.ref l = .ref a → ∃ ob, s.heap.get? a = some ob ∧ ob.dict = none) := by
  obtain ⟨o, ho, vs, ⟨n, rfl⟩, hvs⟩ := H.get hm
  exact ⟨⟨_, ho, rfl⟩, fun a ea => by cases ea; exact ⟨_, ho, rfl⟩⟩

theorem f_index {l : Addr} {vs : List Value} {x : Value} {j : Nat} (e : Value → Bool) (H : St B cs s) (hm : s.heap.PlainList l vs.toArray) (he : ∀ y ∈ vs, EqAt A.in1 s y x (e y)) (hz : vs.length < 2 ^ 60)
    (hj : ∃ y, vs[j]? = some y ∧ e y = true) (hno : ∀ i y, i < j → vs[i]? = some y → e y = false) (h : ∀ t s', St B cs s' → Q (.int j t) s') :
    wpAny (model prog w) A (call (.builtin "list.index") [.ref l, x]) Q E s := by
  obtain ⟨n, hl⟩ := hm
  obtain ⟨y, hy, hyt⟩ := hj
  obtain ⟨hlt, hge⟩ := List.getElem?_eq_some_iff.mp hy
  refine call_meets F.slot_list_index ⟨_, hl, rfl⟩ F.entry_list_index (F.args_list_index_2 _ _) (list_indexAt l vs.toArray n none #[] x e j (by simpa using hlt) (by lia) ?_ ?_) ⟨hl, ?_, h _ _ (H.tok _)⟩
  · simp only [List.getElem_toArray]; rw [hge]; exact hyt
  · intro m hm h1
    simp only [List.getElem_toArray]
    exact hno m _ h1 (List.getElem?_eq_getElem _)
  · intro y hy
    exact he y (by simpa using hy)

noncomputable def IsPair (h : Heap) (v : Value) (p : Int × Int) : Prop := ∃ a t u n, v = .ref a ∧ h.get? a = some { cls := .type "tuple", data := .seq [.int p.1 t, .int p.2 u].toArray n }
theorem pair_of (H : St B cs s) {a : Addr} {p : Int × Int} (hm : (a, PairO p) ∈ cs) : IsPair s.heap (.ref a) p := by
  obtain ⟨o, ho, t, u, n, rfl⟩ := H.get hm
  exact ⟨a, t, u, n, rfl, ho⟩
theorem IsPair.uniq {h : Heap} {v : Value} {p q : Int × Int} (x : IsPair h v p) (y : IsPair h v q) : p = q := by
  obtain ⟨a, t, u, n, rfl, e⟩ := x
  obtain ⟨b, t2, u2, n2, e2, e3⟩ := y
  cases e2
  rw [e] at e3
  injection e3 with e3
  injection e3 with _ _ e4
  simp at e4
  exact Prod.ext e4.1.1.1 e4.1.2.1
theorem eq_pair {v u : Value} {p q : Int × Int} (x : IsPair s.heap v p) (y : IsPair s.heap u q) (hu : A.units + 8 < cLine) : EqAt A s v u (decide (p = q)) := by
  by_cases e : v = u
  · subst e
    rw [x.uniq y]; simpa using EqAt.same v
  · obtain ⟨a, t, t2, n, rfl, ha⟩ := x
    obtain ⟨b, t3, t4, n2, rfl, hb⟩ := y
    refine EqAt.of_refs (fun e2 => e (by rw [e2])) ?_
    have := RcAt.tuples (e := fun j => if j = 0 then p.1 == q.1 else p.2 == q.2) ⟨_, ha, rfl, n, rfl⟩ ⟨_, hb, rfl, n2, rfl⟩ (by lia : A.units < cLine) (fun j h1 h2 => by
      have hj : j = 0 ∨ j = 1 := by simp at h1; lia
      rcases hj with rfl | rfl
      · exact EqAt.int_int _ _ _ _
      · exact EqAt.int_int _ _ _ _)
    have e3 : ((List.range (min [Value.int p.1 t, .int p.2 t2].toArray.size [Value.int q.1 t3, .int q.2 t4].toArray.size)).all (fun j => if j = 0 then p.1 == q.1 else p.2 == q.2) && [Value.int p.1 t, .int p.2 t2].toArray.size == [Value.int q.1 t3, .int q.2 t4].toArray.size) = decide (p = q) := by
      have : List.range (min [Value.int p.1 t, .int p.2 t2].toArray.size [Value.int q.1 t3, .int q.2 t4].toArray.size) = [0, 1] := rfl
      rw [this]
      obtain ⟨p1, p2⟩ := p
      obtain ⟨q1, q2⟩ := q
      simp [Prod.ext_iff]
      by_cases h1 : p1 = q1 <;> by_cases h2 : p2 = q2 <;> simp [h1, h2]
    rw [e3] at this
    exact this

open Classical in
theorem f_index_pair {l : Addr} {as : List Addr} {ps : List (Int × Int)} {x : Value} {p : Int × Int} (hu : A.units + 16 < cLine) (H : St B cs s) (hm : (l, LstO (as.map .ref)) ∈ cs) (hsub : ∀ c ∈ tupC as ps, c ∈ cs) (hlen : as.length = ps.length)
    (hx : IsPair s.heap x p) (hp : p ∈ ps) (hz : ps.length < 2 ^ 60) (h : ∀ t s', St B cs s' → Q (.int (ps.idxOf p : Nat) t) s') :
    wpAny (model prog w) A (call (.builtin "list.index") [.ref l, x]) Q E s := by
  have key : ∀ i (hi : i < ps.length), IsPair s.heap (.ref (as[i]'(by (clear hz; lia)))) ps[i] := fun i hi => by
    obtain ⟨a, ha, hc⟩ := zip_mem (g := fun a p => ((a, PairO p) : Cel)) hlen (List.getElem?_eq_getElem hi)
    have := pair_of H (hsub _ hc)
    rw [List.getElem?_eq_getElem (by lia : i < as.length)] at ha
    rw [← Option.some.inj ha] at this
    exact this
  have hi := List.idxOf_lt_length_of_mem hp
  refine f_index (fun v => decide (IsPair s.heap v p)) H (H.plst hm) (fun y hy => ?_) (by simp; lia) ⟨.ref (as[ps.idxOf p]'(by (clear hz; lia))), by simp, ?_⟩ (fun i y h1 h2 => ?_) h
  · obtain ⟨i, hi, e⟩ := List.getElem_of_mem hy
    simp at hi e
    subst e
    have k1 := key i (by lia)
    have := eq_pair (A := A.in1) k1 hx (by show A.units + 1 + 8 < _; lia)
    have e : decide (ps[i]'(by lia) = p) = decide (IsPair s.heap (.ref (as[i]'(by assumption))) p) := by
      by_cases c : ps[i]'(by lia) = p
      · rw [decide_eq_true c, decide_eq_true (c ▸ k1)]
      · rw [decide_eq_false c, decide_eq_false fun k2 => c (k1.uniq k2)]
    rw [e] at this; exact this
  · have := key _ hi
    rw [List.getElem_idxOf hi] at this
    exact decide_eq_true this
  · have hil : i < ps.length := by (exact Nat.lt_trans (by assumption) (by assumption))
    simp only [List.getElem?_map, List.getElem?_eq_getElem (by (clear hz; lia) : i < as.length), Option.map_some, Option.some.injEq] at h2
    subst h2
    refine decide_eq_false fun k2 => ?_
    have := (key i hil).uniq k2
    have := List.not_of_lt_findIdx (p := (· == p)) (xs := ps) (i := i) h1
    simp at this; exact this ‹_›
end
end Mine
end
section
namespace Mine
open PySem PySem.Calls PyProof.Rows PySem.W PySem.SeqAt PySem.Spec

theorem intsAre_of : ∀ {vs : List Value} {ks : List Int}, vs.map iv = ks.map some → IntsAre vs ks
  | [], [], _ => .nil
  | v :: vs, k :: ks, h => by
    simp only [List.map_cons, List.cons.injEq] at h
    obtain ⟨t, rfl⟩ := iv_int h.1
    exact .cons k t (intsAre_of h.2)
  | [], _ :: _, h => by simp at h
  | _ :: _, [], h => by simp at h

theorem intsAre_mem' : ∀ {vs : List Value} {ns : List Int} {v : Value}, IntsAre vs ns → v ∈ vs → ∃ i t, v = .int i t
  | _, _, _, .cons n t r, h => by
    rcases List.mem_cons.mp h with rfl | h
    · exact ⟨_, _, rfl⟩
    · exact intsAre_mem' r h

theorem zip_snoc {α β γ : Type} (f : α → β → γ) : ∀ {as : List α} {bs : List β} {b : β} (a : α), bs[as.length]? = some b → List.zipWith f (as ++ [a]) bs = List.zipWith f as bs ++ [f a b]
  | [], b :: bs, c, a, h => by simp at h; subst h; simp
  | x :: as, y :: bs, c, a, h => by
    simp only [List.cons_append, List.zipWith_cons_cons]
    rw [zip_snoc f (as := as) a (by simpa using h)]
  | [], [], _, _, h => by simp at h
  | _ :: _, [], _, _, h => by simp at h

theorem out_perm {α : Type} {x : α} {cs : List α} (h : x ∈ cs) : ∃ cs', cs.Perm (x :: cs') := by
  obtain ⟨a, b, rfl⟩ := List.append_of_mem h
  exact ⟨a ++ b, List.perm_middle⟩

section
variable {prog : Program} {w : World} {A : Around} {E : Value → Shared → Prop} {B s : Shared} {cs cs' : List Cel} {env : Env} {Q : Value → Shared → Prop}

theorem St.rise {x : Cel} {pre T : List Cel} (H : St B (pre ++ (T ++ (x :: cs))) s) : St B (x :: (pre ++ (T ++ cs))) s := by
  refine H.perm ?_
  have h1 : ((pre ++ T) ++ (x :: cs)).Perm (x :: ((pre ++ T) ++ cs)) := List.perm_middle
  rwa [List.append_assoc, List.append_assoc] at h1

theorem f_min {l : Addr} {ks : List Int} (hh : A.handled = none) (H : St B cs s) (hm : (l, IntsO ks) ∈ cs) (hne : 0 < ks.length)
    (h : ∀ M t s', M ∈ ks → (∀ a ∈ ks, M ≤ a) → St B cs s' → Q (.int M t) s') : wpAny (model prog w) A (call (.builtin "min") [.ref l]) Q E s := by
  obtain ⟨o, ho, vs, ⟨n, rfl⟩, hvs⟩ := H.get hm
  have hl : s.heap.IsList l vs.toArray := Heap.PlainList.isList ⟨n, ho⟩
  have hi := intsAre_of hvs
  obtain ⟨xs, e⟩ := hi.allInts.items
  have hns : ks = xs.toList.map (·.1) := by
    rw [← hi.numsOf, ← nums_intItems, ← e]
  have hsz : 0 < xs.size := by
    have h3 := hne; rw [hns, List.length_map, Array.length_toList] at h3; exact h3
  rw [e] at hl
  refine min_intList hh hl hsz fun v h' tk hv hk => ?_
  obtain ⟨t, rfl⟩ := intItems_at hv
  obtain ⟨h1, h2⟩ := argBest_lt (numAt xs) (xs.size - 1)
  refine h _ t _ ?_ (fun a ha => ?_) (H.ext (t := tk) hk)
  · rw [hns, numAt_eq]; exact getD_mem (by rw [List.length_map, Array.length_toList]; (clear hne; omega))
  · rw [hns] at ha
    obtain ⟨j, hj, rfl⟩ := mem_getD ha
    rw [List.length_map, Array.length_toList] at hj
    rw [← numAt_eq]; exact h2 j (by (clear hv h1 h2; lia))

theorem f_index_ints {l : Addr} {ks : List Int} {x : Int} {t : Tok} (H : St B cs s) (hm : (l, IntsO ks) ∈ cs) (hx : x ∈ ks) (hz : ks.length < 2 ^ 60) (h : ∀ t s', St B cs s' → Q (.int (ks.idxOf x : Nat) t) s') :
    wpAny (model prog w) A (call (.builtin "list.index") [.ref l, .int x t]) Q E s := by
  obtain ⟨o, ho, vs, ⟨n, rfl⟩, hvs⟩ := H.get hm
  have hlen := map_len hvs
  have hi := List.idxOf_lt_length_of_mem hx
  have key : ∀ i y, vs[i]? = some y → ∃ k t', ks[i]? = some k ∧ y = Value.int k t' := fun i y hy => by
    have hil : i < ks.length := by have := (List.getElem?_eq_some_iff.mp hy).1; lia
    obtain ⟨v, hv, hf⟩ := map_at hvs (List.getElem?_eq_getElem hil)
    rw [hy] at hv
    cases hv
    obtain ⟨t', e⟩ := iv_int hf
    exact ⟨_, t', List.getElem?_eq_getElem hil, e⟩
  refine f_index (fun v => iv v == some x) H ⟨n, ho⟩ (fun y hy => ?_) (by lia) ⟨vs[ks.idxOf x]'(by (clear hz; lia)), List.getElem?_eq_getElem _, ?_⟩ (fun i y h1 h2 => ?_) h
  · obtain ⟨i, hi, e⟩ := List.getElem_of_mem hy
    obtain ⟨k, t', _, rfl⟩ := key i y (by rw [List.getElem?_eq_getElem hi, e])
    have := EqAt.int_int (A := A.in1) (s := s) k t' x t
    have e2 : (k == x) = (iv (.int k t') == some x) := by simp [iv]
    rwa [e2] at this
  · obtain ⟨k, t', hk, e⟩ := key _ _ (List.getElem?_eq_getElem (by lia : ks.idxOf x < vs.length))
    rw [e]
    rw [List.getElem?_eq_getElem hi, List.getElem_idxOf hi] at hk
    cases hk; simp [iv]
  · obtain ⟨k, t', hk, rfl⟩ := key _ _ h2
    have hil : i < ks.length := by (exact Nat.lt_trans (by assumption) (by assumption))
    rw [List.getElem?_eq_getElem hil] at hk
    cases hk
    have := List.not_of_lt_findIdx (p := (· == x)) (xs := ks) (i := i) h1
    simp at this
    simp [iv]; exact this

theorem o_ne_nil {a b : Addr} {vs : List Value} (hu : A.units < cLine) (H : St B cs s) (ha : (a, LstO vs) ∈ cs) (hb : (b, LstO []) ∈ cs) (h : Q (.bool (!vs.isEmpty)) s) :
    wpAny (model prog w) A (compareOp .NotEq (.ref a) (.ref b)) Q E s := by
  show wpAny _ _ (richCompare .NotEq (.ref a) (.ref b)) Q E s
  cases vs with
  | nil => exact RcNeAt.lists (e := fun _ => true) (H.lst ha) (H.lst hb) rfl hu (fun j h1 => absurd h1 (by simp)) prog w E Q h
  | cons v vs => exact RcNeAt.lists_lengths (H.lst ha) (H.lst hb) (by simp) hu prog w E Q h

theorem o_notin {l : Addr} {ks : List Int} {x : Int} {t : Tok} (H : St B cs s) (hm : (l, IntsO ks) ∈ cs) (h : Q (.bool (!ks.contains x)) s) :
    wpAny (model prog w) A (compareOp .NotIn (.int x t) (.ref l)) Q E s := by
  obtain ⟨o, ho, vs, ⟨n, rfl⟩, hvs⟩ := H.get hm
  have hl : s.heap.IsList l vs.toArray := Heap.PlainList.isList ⟨n, ho⟩
  refine notIn_listAt (fun v => iv v == some x) hl (fun y hy => ?_) ?_
  · have hy' : y ∈ vs := by simpa using hy
    obtain ⟨i, t', rfl⟩ := intsAre_mem' (intsAre_of hvs) hy'
    have := EqAt.int_int (A := A.in1) (s := s) i t' x t
    have e2 : (i == x) = (iv (.int i t') == some x) := by simp [iv]
    rwa [e2] at this
  · have e : vs.toArray.any (fun v => iv v == some x) = ks.contains x := by
      rw [List.any_toArray]
      have : vs.any (fun v => iv v == some x) = (vs.map iv).any (fun o => o == some x) := by rw [List.any_map]; rfl
      rw [this, hvs, List.any_map, List.contains_eq_any_beq]
      congr 1
      funext a
      show (some a == some x) = (x == a)
      by_cases c : a = x
      · subst c; simp
      · have c2 : ¬ x = a := fun e => c e.symm
        rw [beq_eq_false_iff_ne.mpr c2, beq_eq_false_iff_ne.mpr (fun e => c (Option.some.inj e))]
    rw [e]; exact h

theorem slice_rev {β : Type} {f : Value → Option β} {value slice : Expr} {l : Addr} {ss : List β} {vk : Value} {ops : List Value} (H : St B cs s) (hm : (l, SeqO f ss) ∈ cs) (ps : IsPart vk (some (-1))) (hz : ss.length ≤ sizeLine)
    (h : ∀ D s', St B ((D, SeqO f ss.reverse) :: cs) s' → Q (.ref D) s')
    (hs : subscripted slice false (.ref l) (.ref s.heap.objs.size) = operate ops (getItem (.ref l) (.ref s.heap.objs.size))) :
    wpAny (model prog w) A (subscriptTail value slice (.ref l) (.ref s.heap.objs.size)) Q E { s with heap := s.heap.push (slObj .none .none vk) } := by
  obtain ⟨o, ho, vs, ⟨n, rfl⟩, hvs⟩ := H.get hm
  have hl : s.heap.IsList l vs.toArray := Heap.PlainList.isList ⟨n, ho⟩
  have hlen := map_len hvs
  have H1 := H.slice .none .none vk
  have hl1 : ({ s with heap := s.heap.push (slObj .none .none vk) } : Shared).heap.IsList l vs.toArray := let ⟨o, e, r⟩ := hl; ⟨o, Heap.get?_push_of_some _ e, r⟩
  refine tail_any hl1.typeIs slot_list_getitem.lookup (wpAny_getItem_list_slice hl1 (Heap.IsSliceOf.new ..) .none .none ps (by simp) ?_ (by simpa [hlen] using hz)) hs
  refine h _ _ (H1.push (t := s.toks) ⟨vs.reverse, ⟨0, ?_⟩, ?_⟩)
  · rw [krv_pick]
  · rw [List.map_reverse, hvs, List.map_reverse]
end
end Mine
end
section
set_option maxHeartbeats 1000000
namespace Mine
open PySem PySem.Calls PyProof.Rows PySem.W

noncomputable abbrev two (elt t0 i0 t1 i1 : Expr) (ifs : List Expr) (scope : Scope) (pos : Pos) : Expr := .ListComp elt [⟨t0, i0, [], 0⟩, ⟨t1, i1, ifs, 0⟩] scope pos

theorem compTurn_in (elt t0 i0 t1 i1 : Expr) (ifs : List Expr) (scope : Scope) (pos : Pos) (it acc : Value) (env : Env) :
    compTurn (two elt t0 i0 t1 i1 ifs scope pos) 1 it acc env = (do
      standAt i1.pos
      match ← pyNext it with
      | none => pure (.done .next)
      | some v =>
        letOwnedTupleGo t1 it v
        assign t1 env v
        let mut ok := true
        for c in ifs do
          if ok then ok ← isTrue c env (eval c env)
        if ok then
          (do let _ ← call (.builtin "list.append") [acc, ← eval elt env])
        again (.compLoop (two elt t0 i0 t1 i1 ifs scope pos) 1 it acc env)) := by rfl
theorem compTurn_out (elt t0 i0 t1 i1 : Expr) (ifs : List Expr) (scope : Scope) (pos : Pos) (it acc : Value) (env : Env) :
    compTurn (two elt t0 i0 t1 i1 ifs scope pos) 0 it acc env = (do
      standAt i0.pos
      match ← pyNext it with
      | none => pure (.done .next)
      | some v =>
        letOwnedTupleGo t0 it v
        assign t0 env v
        let x ← eval i1 env
        standAt i1.pos
        let x ← foldedSetIterable i1 env x
        let _ ← runOwn (.compStart (two elt t0 i0 t1 i1 ifs scope pos) 1 (← holding [x] (pyIter x)) acc env) env
        again (.compLoop (two elt t0 i0 t1 i1 ifs scope pos) 0 it acc env)) := by rfl

section
variable {prog : Program} {w : World} {A : Around} {E : Value → Shared → Prop} {B s : Shared} {cs cs' : List Cel} {env : Env} {elt t0 i0 t1 i1 : Expr} {ifs : List Expr} {scope : Scope} {pos : Pos}

theorem c_in {α : Type} {P : α → Value → Prop} {I : List α → List Cel} {J : List Cel} {it : Value} (hI : Iter prog w A B it P I J) {σ ζ : Type} (R : σ → List Cel) (Z : ζ → List Cel) (K : List α → List Value → σ → Prop)
    {D : Addr} {Q : Result → Shared → Prop}
    {as0 : List α} {ys0 : List Value} {x0 : σ} {z0 : ζ} (H : St B (Z z0 ++ ((D, LstO ys0) :: (I as0 ++ R x0))) s) (k0 : K as0 ys0 x0)
    (turn : ∀ a as v x ys z s E', P a v → K (a :: as) ys x → St B (Z z ++ ((D, LstO ys) :: (I as ++ R x))) s → wpAny (model prog w) A (assign t1 env v) (fun _ s2 =>
        wpAny (model prog w) A (tests ifs env) (fun ok s3 => if ok = true then
            wpAny (model prog w) A (eval elt env) (fun y s4 => ∃ x' z', ys.length ≤ sizeLine ∧ K as (ys ++ [y]) x' ∧ St B (Z z' ++ ((D, LstO ys) :: (I as ++ R x'))) s4) E' s3
          else ∃ x' z', K as ys x' ∧ St B (Z z' ++ ((D, LstO ys) :: (I as ++ R x'))) s3) E' s2) E' s)
    (fin : ∀ x ys z s', K [] ys x → St B (Z z ++ ((D, LstO ys) :: (J ++ R x))) s' → Q (.ok .next) s') :
    codeAny (model prog w) A (.compLoop (two elt t0 i0 t1 i1 ifs scope pos) 1 it (.ref D) env) Q s := by
  have up : ∀ (z : ζ) (ys ys' : List Value) (X : List Cel), Upd D (LstO ys) (LstO ys') (Z z ++ ((D, LstO ys) :: X)) (Z z ++ ((D, LstO ys') :: X)) := fun z ys ys' X => Upd.app .head _
  refine codeAny_loop rfl (fun n s' => ∃ as ys x z, n = as.length ∧ K as ys x ∧ St B (Z z ++ ((D, LstO ys) :: (I as ++ R x))) s') ?_ as0.length ⟨as0, ys0, x0, z0, rfl, k0, H⟩
  rintro n s' ⟨as, ys, x, z, rfl, kx, Hx⟩
  show wpAny _ A ((compTurn (two elt t0 i0 t1 i1 ifs scope pos) 1 it (.ref D) env).onRaise (fun x => do noteFrame x env; theTreesLotGoes x)) _ _ s'
  refine wpAny_noted ?_
  rw [compTurn_in]
  refine wpAny_bind (wpAny_standAt (wpAny_bind ?_))
  have pm : ∀ (as : List α) (X : List Cel), (Z z ++ ((D, LstO ys) :: (I as ++ X))).Perm (I as ++ (Z z ++ ((D, LstO ys) :: X))) := fun as X => by
    have := List.perm_append_comm_assoc (Z z ++ [(D, LstO ys)]) (I as) X
    simpa using this
  cases as with
  | nil =>
    refine hI.stop (Hx.perm (pm [] (R x))) fun s1 H1 => wpAny_pure (fin x ys z s1 kx (H1.perm ?_))
    have := List.perm_append_comm_assoc J (Z z ++ [(D, LstO ys)]) (R x)
    simpa using this
  | cons a as =>
    refine hI.next (Hx.perm (pm (a :: as) (R x))) fun v s1 hp H1 => ?_
    refine wpAny_bind (hI.own H1 ?_)
    refine wpAny_bind (wpAny_mono (turn a as v x ys z s1 _ hp kx (H1.perm (pm as (R x)).symm)) (fun _ s2 h2 => ?_) fun _ _ e => e)
    refine wpAny_bind (wpAny_mono h2 (fun ok s3 h3 => ?_) fun _ _ e => e)
    cases ok with
    | false =>
      obtain ⟨x', z', k', H'⟩ := h3
      exact wpAny_pure ⟨rfl, as.length, Nat.lt_succ_self _, as, ys, x', z', rfl, k', H'⟩
    | true =>
      refine wpAny_bind (wpAny_bind (wpAny_mono h3 (fun y s4 h4 => ?_) fun _ _ e => e))
      obtain ⟨x', z', hz, k', H'⟩ := h4
      refine wpAny_bind (f_append H' (up z' ys _ _) hz fun s5 H5 => wpAny_pure (wpAny_pure ⟨rfl, as.length, Nat.lt_succ_self _, as, ys ++ [y], x', z', rfl, k', H5⟩))

theorem c_out {α : Type} {P : α → Value → Prop} {I : List α → List Cel} {J : List Cel} {it : Value} (hI : Iter prog w A B it P I J) {σ ζ : Type} (R : σ → List Cel) (Z : ζ → List Cel) (K : List α → List Value → σ → Prop)
    {D : Addr} {Q : Result → Shared → Prop} (hs : ∀ x, foldedSetIterable i1 env x = pure x)
    {as0 : List α} {ys0 : List Value} {x0 : σ} {z0 : ζ} (H : St B (Z z0 ++ ((D, LstO ys0) :: (I as0 ++ R x0))) s) (k0 : K as0 ys0 x0)
    (turn : ∀ a as v x ys z s E', P a v → K (a :: as) ys x → St B (Z z ++ ((D, LstO ys) :: (I as ++ R x))) s → wpAny (model prog w) A (assign t0 env v) (fun _ s2 =>
        wpAny (model prog w) A (eval i1 env) (fun xv s3 => wpAny (model prog w) A (pyIter xv) (fun it' s4 =>
          codeAny (model prog w) A (.compStart (two elt t0 i0 t1 i1 ifs scope pos) 1 it' (.ref D) env) (fun r s5 => match r with
            | .ok f => ∃ x' z' ys', K as ys' x' ∧ St B (Z z' ++ ((D, LstO ys') :: (I as ++ R x'))) s5
            | .error e => cameBackBy (model prog w) A env E' e s5) s4) E' s3) E' s2) E' s)
    (fin : ∀ x ys z s', K [] ys x → St B (Z z ++ ((D, LstO ys) :: (J ++ R x))) s' → Q (.ok .next) s') :
    codeAny (model prog w) A (.compLoop (two elt t0 i0 t1 i1 ifs scope pos) 0 it (.ref D) env) Q s := by
  refine codeAny_loop rfl (fun n s' => ∃ as ys x z, n = as.length ∧ K as ys x ∧ St B (Z z ++ ((D, LstO ys) :: (I as ++ R x))) s') ?_ as0.length ⟨as0, ys0, x0, z0, rfl, k0, H⟩
  rintro n s' ⟨as, ys, x, z, rfl, kx, Hx⟩
  show wpAny _ A ((compTurn (two elt t0 i0 t1 i1 ifs scope pos) 0 it (.ref D) env).onRaise (fun x => do noteFrame x env; theTreesLotGoes x)) _ _ s'
  refine wpAny_noted ?_
  rw [compTurn_out]
  refine wpAny_bind (wpAny_standAt (wpAny_bind ?_))
  have pm : ∀ (as : List α) (X : List Cel), (Z z ++ ((D, LstO ys) :: (I as ++ X))).Perm (I as ++ (Z z ++ ((D, LstO ys) :: X))) := fun as X => by
    have := List.perm_append_comm_assoc (Z z ++ [(D, LstO ys)]) (I as) X
    simpa using this
  cases as with
  | nil =>
    refine hI.stop (Hx.perm (pm [] (R x))) fun s1 H1 => wpAny_pure (fin x ys z s1 kx (H1.perm ?_))
    have := List.perm_append_comm_assoc J (Z z ++ [(D, LstO ys)]) (R x)
    simpa using this
  | cons a as =>
    refine hI.next (Hx.perm (pm (a :: as) (R x))) fun v s1 hp H1 => ?_
    refine wpAny_bind (hI.own H1 ?_)
    refine wpAny_bind (wpAny_mono (turn a as v x ys z s1 _ hp kx (H1.perm (pm as (R x)).symm)) (fun _ s2 h2 => ?_) fun _ _ e => e)
    refine wpAny_bind (wpAny_mono h2 (fun xv s3 h3 => ?_) fun _ _ e => e)
    refine wpAny_bind (wpAny_standAt (wpAny_bind (wpAny_of_eq (hs xv) (wpAny_bind (wpAny_holding (wpAny_mono h3 (fun it' s4 h4 => ?_) fun _ _ e => e))))))
    refine wpAny_bind (wpAny_runOwn (codeAny_mono h4 fun r s5 h5 => ?_))
    cases r with
    | error e => exact h5
    | ok f =>
      obtain ⟨x', z', ys', k', H'⟩ := h5
      exact wpAny_pure ⟨rfl, as.length, Nat.lt_succ_self _, as, ys', x', z', rfl, k', H'⟩

theorem comp2_core {cl : List (Str × Addr)} {use : Option (Value → Sem Unit)} {Q : Value → Shared → Prop}
    (hs : ∀ x, foldedSetIterable i0 env x = pure x) (hclos : closureFor scope env = pure cl) (hkind : scope.kind = .function) (hnames : ∀ x ∈ scope.names, x.2 = .local → scope.names.lookup x.1 = some .local)
    (hcell : ∀ x ∈ scope.names, x.2 ≠ .cell)
    (h : wpAny (model prog w) A (eval i0 env) (fun xv s₁ => wpAny (model prog w) A (pyIter xv) (fun it s₂ =>
      ∃ (α : Type) (P : α → Value → Prop) (I : List α → List Cel) (J : List Cel) (as0 : List α) (X : List Cel),
        Iter prog w A B it P I J ∧ St B (I as0 ++ X) s₂ ∧
        ∀ C D s4, St B ((C, NsO fun _ => none) :: (D, LstO []) :: (I as0 ++ X)) s4 →
          codeAny (model prog w) A (.compLoop (two elt t0 i0 t1 i1 ifs scope pos) 0 it (.ref D) (compEnvC scope cl C env)) (fun r s' => ∃ m cs', r = .ok .next ∧ St B ((C, NsO m) :: cs') s' ∧ ∀ s'' , St B ((C, NsO m) :: cs') s'' → compPost (model prog w) A E use Q (.ref D) C (.ok .next) s'') s4) E s₁) E s) :
    wpAny (model prog w) A (comprehension (two elt t0 i0 t1 i1 ifs scope pos) scope env i0.pos (newList []) false (eval i0 env) use) Q E s := by
  refine wpAny_comprehension_free rfl hs hclos hkind hnames (wpAny_mono h (fun xv s₁ h₁ => wpAny_mono h₁ (fun it s₂ h₂ => ?_) fun _ _ e => e) fun _ _ e => e)
  obtain ⟨α, P, I, J, as0, X, hI, H, fin⟩ := h₂
  refine wpAny_newList ?_ (by simp)
  have H3 := H.push (P := LstO []) (o := { cls := .type "list", data := .seq ([] : List Value).toArray }) (t := s₂.toks) ⟨0, rfl⟩
  refine newEnv0 H3 hcell hkind fun C s4 H4 => ?_
  have go : ∀ s5, St B ((C, NsO fun _ => none) :: (s₂.heap.objs.size, LstO []) :: (I as0 ++ X)) s5 → codeAny (model prog w) A (.compLoop (two elt t0 i0 t1 i1 ifs scope pos) 0 it (.ref s₂.heap.objs.size) (compEnvC scope cl C env)) (compPost (model prog w) A E use Q (.ref s₂.heap.objs.size) C) s5 := fun s5 H5 =>
    codeAny_mono (fin C _ s5 H5) fun r s' ⟨m, cs', e, H', q⟩ => by subst e; exact q s' H'
  exact c_start (g := ⟨t0, i0, [], 0⟩) rfl rfl (go _ H4) (hI.self (as := as0) (R := (C, NsO fun _ => none) :: (s₂.heap.objs.size, LstO []) :: X) (H4.perm (by
    have := List.perm_append_comm_assoc [(C, NsO fun _ => none), (s₂.heap.objs.size, LstO [])] (I as0) X
    simpa using this)) (go _ H4))

noncomputable def seqC {β : Type} (f : Value → Option β) (as : List Addr) (rs : List (List β)) : List Cel := List.zipWith (fun a r => (a, SeqO f r)) as rs
theorem seq_mem {β : Type} {f : Value → Option β} {as : List Addr} {rs : List (List β)} (hl : as.length = rs.length) {i : Nat} {r : List β} (hr : rs[i]? = some r) : ∃ a, as[i]? = some a ∧ (a, SeqO f r) ∈ seqC f as rs :=
  zip_mem (g := fun (a : Addr) (r : List β) => ((a, SeqO f r) : Cel)) hl hr

theorem paired_app {α β : Type} {F : α → β → Prop} : ∀ {a b : List α} {ys zs : List β}, Paired F a ys → Paired F b zs → Paired F (a ++ b) (ys ++ zs)
  | _, _, _, _, .nil, h => h
  | _, _, _, _, .cons x r, h => .cons x (paired_app r h)

theorem flat_loop {β : Type} {f : Value → Option β} {cenv : Env} {C D Dl it : Addr} {as : List Addr} {rs : List (List β)} {X : List Cel} {m0 : Str → Option Value} {x0 x1 : Str} {q0 q1 q2 : Pos} {Q : Result → Shared → Prop} (p : β → Bool) (F : β → Value → Prop)
    (hlen : as.length = rs.length) (hz : rs.flatten.length ≤ sizeLine) (hh : A.handled = none)
    (hC : cenv.locals = C) (hk : cenv.scope.kind = .function) (hl0 : cenv.kindOf x0 = some .local) (hl1 : cenv.kindOf x1 = some .local) (hd : (x0 == ("__debug__" : Str)) = false) (hs : ∀ x, foldedSetIterable (.Name x0 q2) cenv x = pure x)
    (btest : ∀ b v m ys Y s E', f v = some b → m x1 = some v → St B ((C, NsO m) :: (D, LstO ys) :: Y) s → wpAny (model prog w) A (tests ifs cenv) (fun b' s3 => b' = p b ∧ St B ((C, NsO m) :: (D, LstO ys) :: Y) s3) E' s)
    (belt : ∀ b v m ys Y s E', p b = true → f v = some b → m x1 = some v → St B ((C, NsO m) :: (D, LstO ys) :: Y) s → wpAny (model prog w) A (eval elt cenv) (fun y s3 => F b y ∧ St B ((C, NsO m) :: (D, LstO ys) :: Y) s3) E' s)
    (H : St B ((C, NsO m0) :: (D, LstO []) :: ([(it, fun o => (as.map Value.ref).length ≤ (as.map Value.ref).length ∧ as.map Value.ref = (as.map Value.ref).drop ((as.map Value.ref).length - (as.map Value.ref).length) ∧ LitO Dl ((as.map Value.ref).length - (as.map Value.ref).length) o), (Dl, LstO (as.map .ref))] ++ (seqC f as rs ++ X))) s)
    (fin : ∀ m ys s', Paired F (rs.flatten.filter p) ys → St B ((C, NsO m) :: (D, LstO ys) :: (Dl, LstO (as.map .ref)) :: (seqC f as rs ++ X)) s' → Q (.ok .next) s') :
    codeAny (model prog w) A (.compLoop (two elt (.Name x0 q0) i0 (.Name x1 q1) (.Name x0 q2) ifs scope pos) 0 (.ref it) (.ref D) cenv) Q s := by
  subst hC
  refine c_out (iter_list (vs := as.map Value.ref) hh) (fun _ : Unit => seqC f as rs ++ X) (fun m => [(cenv.locals, NsO m)]) (fun rem ys _ => ∃ i, rem = (as.drop i).map .ref ∧ i ≤ as.length ∧ Paired F ((rs.take i).flatten.filter p) ys) hs (as0 := as.map .ref) (z0 := m0) (x0 := ()) H ⟨0, rfl, Nat.zero_le _, .nil⟩ ?_ ?_
  · intro a rem v _ ys m s1 E1 hav ⟨i, e, hi, pr⟩ H1
    have hav : a = v := hav
    subst hav
    have hil : i < as.length := by
      rcases Nat.lt_or_ge i as.length with q | q
      · exact q
      · rw [List.drop_of_length_le q] at e; cases e
    rw [List.drop_eq_getElem_cons hil, List.map_cons] at e
    injection e with e1 e2
    subst e1
    obtain ⟨ri, hri⟩ : ∃ ri, rs[i]? = some ri := ⟨_, List.getElem?_eq_getElem (by (clear hi; lia))⟩
    obtain ⟨ai, hai, hmem⟩ := seq_mem (f := f) hlen hri
    rw [List.getElem?_eq_getElem hil] at hai
    have hai := Option.some.inj hai
    rw [hai]
    refine wpAny_assign_Name (s_local (m' := m) H1 .head (fun s2 H2 => ?_) hk hl0)
    refine n_local H2 (.head _) (if_pos rfl) ?_ hk hl0 hd
    obtain ⟨c1, hp⟩ := out_perm (List.mem_append_right [(it, fun o => rem.length ≤ (as.map Value.ref).length ∧ rem = (as.map Value.ref).drop ((as.map Value.ref).length - rem.length) ∧ LitO Dl ((as.map Value.ref).length - rem.length) o), (Dl, LstO (as.map .ref))] (List.mem_append_left X hmem))
    have H3 : St B ((cenv.locals, NsO fun y => if y = x0 then some (.ref ai) else m y) :: (D, LstO ys) :: (ai, SeqO f ri) :: c1) s2 := H2.perm ((hp.cons _).cons _)
    refine pyIter_seq (H3.front 2) fun it2 s4 H4 => ?_
    have H5 : St B ((cenv.locals, NsO fun y => if y = x0 then some (.ref ai) else m y) :: (D, LstO ys) :: _) s4 := (H4.front 3).front 3
    have hbound : ys.length + ri.length ≤ sizeLine := by
      have h1 := pr.length
      have h2 := List.length_filter_le p (rs.take i).flatten
      have h3 : (rs.take (i + 1)).flatten.length ≤ rs.flatten.length := by
        have : rs.flatten = (rs.take (i + 1)).flatten ++ (rs.drop (i + 1)).flatten := by rw [← List.flatten_append, List.take_append_drop]
        rw [this, List.length_append]; (exact Nat.le_add_right _ _)
      have h4 : (rs.take (i + 1)).flatten.length = (rs.take i).flatten.length + ri.length := by
        rw [List.take_add_one, hri]; simp
      lia
    have go : ∀ s5, St B ([(cenv.locals, NsO fun y => if y = x0 then some (.ref ai) else m y)] ++ ((D, LstO ys) :: ([(it2, fun o => ri.length ≤ ri.length ∧ ri = ri.drop (ri.length - ri.length) ∧ LitO ai (ri.length - ri.length) o), (ai, SeqO f ri)] ++ c1))) s5 →
        codeAny (model prog w) A (.compLoop (two elt (.Name x0 q0) i0 (.Name x1 q1) (.Name x0 q2) ifs scope pos) 1 (.ref it2) (.ref D) cenv) (fun r s5 => match r with
            | .ok f_1 => ∃ (x' : Unit) (z' : Str → Option Value) (ys' : List Value), (∃ i, rem = (as.drop i).map .ref ∧ i ≤ as.length ∧ Paired F ((rs.take i).flatten.filter p) ys') ∧ St B ([(cenv.locals, NsO z')] ++ ((D, LstO ys') :: ([(it, fun o => rem.length ≤ (as.map Value.ref).length ∧ rem = (as.map Value.ref).drop ((as.map Value.ref).length - rem.length) ∧ LitO Dl ((as.map Value.ref).length - rem.length) o), (Dl, LstO (as.map .ref))] ++ (seqC f as rs ++ X)))) s5
            | .error e => cameBackBy (model prog w) A cenv E1 e s5) s5 := fun s5 H6 => by
      refine c_in (iter_seq (f := f) (ss := ri) hh) (fun _ : Unit => c1) (fun m => [(cenv.locals, NsO m)]) (fun rem' ys' _ => ∃ pre ys1, ri = pre ++ rem' ∧ ys' = ys ++ ys1 ∧ Paired F (pre.filter p) ys1) (x0 := ()) (z0 := fun y => if y = x0 then some (.ref ai) else m y) H6 ⟨[], [], rfl, by simp, .nil⟩ ?_ ?_
      · intro b rem' v _ ys' m' s7 E7 hv ⟨pre, ys1, e3, e4, pr1⟩ H7
        refine wpAny_assign_Name (s_local (m' := m') H7 .head (fun s8 H8 => ?_) hk hl1)
        refine wpAny_mono (btest b v (fun y => if y = x1 then some v else m' y) ys' _ s8 E7 hv (if_pos rfl) H8) (fun ok s9 h9 => ?_) fun _ _ e => e
        obtain ⟨hb, H9⟩ := h9
        have hl3 := List.length_filter_le p pre
        have hl4 := pr1.length
        have hl5 : ri.length = pre.length + (rem'.length + 1) := by rw [e3]; simp
        cases ok with
        | true =>
          rw [if_pos rfl]
          refine wpAny_mono (belt b v _ ys' _ s9 E7 hb.symm hv (if_pos rfl) H9) (fun y s10 ⟨hF, H10⟩ => ?_) fun _ _ e => e
          refine ⟨(), _, ?_, ⟨pre ++ [b], ys1 ++ [y], by rw [e3]; simp, by rw [e4]; simp, ?_⟩, H10⟩
          · rw [e4, List.length_append]; lia
          · rw [List.filter_append, List.filter_cons_of_pos (by rw [← hb])]
            exact pr1.snoc hF
        | false =>
          rw [if_neg (by decide)]
          refine ⟨(), _, ⟨pre ++ [b], ys1, by rw [e3]; simp, e4, ?_⟩, H9⟩
          rw [List.filter_append, List.filter_cons_of_neg (by rw [← hb]; decide)]
          simpa using pr1
      · intro _ ys' m' s7 ⟨pre, ys1, e3, e4, pr1⟩ H7
        rw [List.append_nil] at e3
        subst e3 e4
        refine ⟨(), m', ys ++ ys1, ⟨i + 1, e2, hil, ?_⟩, ?_⟩
        · rw [List.take_add_one, hri]
          simp only [Option.toList_some, List.flatten_append, List.flatten_cons, List.flatten_nil, List.append_nil, List.filter_append]
          exact paired_app pr pr1
        · exact H7.perm ((hp.symm.cons _).cons _)
    exact c_start (g := ⟨.Name x1 q1, .Name x0 q2, ifs, 0⟩) rfl rfl (go _ H5) ((iter_seq (prog := prog) (w := w) (B := B) (f := f) (ss := ri) hh).self (as := ri) (R := (cenv.locals, NsO fun y => if y = x0 then some (.ref ai) else m y) :: (D, LstO ys) :: c1) H4 (go _ H5))
  · intro _ ys m s1 ⟨i, e, hi, pr⟩ H1
    have : i = as.length := by
      rcases Nat.lt_or_ge i as.length with q | q
      · rw [List.drop_eq_getElem_cons q] at e; cases e
      · (exact Nat.le_antisymm (by assumption) (by assumption))
    subst this
    rw [hlen, List.take_length] at pr
    exact fin m ys s1 pr H1

noncomputable abbrev FlatEnd (B : Shared) {β : Type} (f : Value → Option β) (p : β → Bool) (F : β → Value → Prop) (G : Addr → List Value → List Cel → Prop) (xv : Value) (s₁ : Shared) : Prop :=
  ∃ (Dl : Addr) (as : List Addr) (rs : List (List β)) (X : List Cel), xv = .ref Dl ∧ St B ((Dl, LstO (as.map .ref)) :: (seqC f as rs ++ X)) s₁ ∧ as.length = rs.length ∧ rs.flatten.length ≤ sizeLine ∧
    ∀ D ys, Paired F (rs.flatten.filter p) ys → G D ys ((Dl, LstO (as.map .ref)) :: (seqC f as rs ++ X))

theorem flat_go {β : Type} {f : Value → Option β} {cl : List (Str × Addr)} {x0 x1 : Str} {q0 q1 q2 : Pos} {use : Option (Value → Sem Unit)} {Q : Value → Shared → Prop} (p : β → Bool) (F : β → Value → Prop) (hh : A.handled = none)
    (h : wpAny (model prog w) A (eval i0 env) (fun xv s₁ => FlatEnd B f p F (fun D ys X => ∀ C m s'', St B ((C, NsO m) :: (D, LstO ys) :: X) s'' → compPost (model prog w) A E use Q (.ref D) C (.ok .next) s'') xv s₁) E s)
    (hs0 : ∀ x, foldedSetIterable i0 env x = pure x) (hclos : closureFor scope env = pure cl) (hkind : scope.kind = .function) (hnames : ∀ x ∈ scope.names, x.2 = .local → scope.names.lookup x.1 = some .local)
    (hcell : ∀ x ∈ scope.names, x.2 ≠ .cell)
    (hk : ∀ C, (compEnvC scope cl C env).scope.kind = .function) (hl0 : ∀ C, (compEnvC scope cl C env).kindOf x0 = some .local) (hl1 : ∀ C, (compEnvC scope cl C env).kindOf x1 = some .local) (hd : (x0 == ("__debug__" : Str)) = false) (hs : ∀ C x, foldedSetIterable (.Name x0 q2) (compEnvC scope cl C env) x = pure x)
    (btest : ∀ C D b v m ys Y s E', f v = some b → m x1 = some v → St B ((C, NsO m) :: (D, LstO ys) :: Y) s → wpAny (model prog w) A (tests ifs (compEnvC scope cl C env)) (fun b' s3 => b' = p b ∧ St B ((C, NsO m) :: (D, LstO ys) :: Y) s3) E' s)
    (belt : ∀ C D b v m ys Y s E', p b = true → f v = some b → m x1 = some v → St B ((C, NsO m) :: (D, LstO ys) :: Y) s → wpAny (model prog w) A (eval elt (compEnvC scope cl C env)) (fun y s3 => F b y ∧ St B ((C, NsO m) :: (D, LstO ys) :: Y) s3) E' s) :
    wpAny (model prog w) A (comprehension (two elt (.Name x0 q0) i0 (.Name x1 q1) (.Name x0 q2) ifs scope pos) scope env i0.pos (newList []) false (eval i0 env) use) Q E s := by
  refine comp2_core (B := B) hs0 hclos hkind hnames hcell (wpAny_mono h (fun xv s₁ h₁ => ?_) fun _ _ e => e)
  obtain ⟨Dl, as, rs, X, rfl, H, hlen, hz, fin⟩ := h₁
  refine pyIter_list H fun it s2 H2 => ?_
  refine ⟨_, _, _, _, _, _, iter_list (vs := as.map Value.ref) hh, H2, fun C D s4 H4 => ?_⟩
  refine flat_loop p F hlen hz hh rfl (hk C) (hl0 C) (hl1 C) hd (hs C) (btest C D) (belt C D) H4 fun m ys s5 pr H5 => ⟨m, _, rfl, H5, fun s'' H'' => fin D ys pr C m s'' H''⟩

theorem e_flat {β : Type} {f : Value → Option β} {cl : List (Str × Addr)} {x0 x1 : Str} {q0 q1 q2 : Pos} {Q : Value → Shared → Prop} (p : β → Bool) (F : β → Value → Prop) (hh : A.handled = none)
    (h : wpAny (model prog w) A (eval i0 env) (fun xv s₁ => FlatEnd B f p F (fun D ys X => ∀ s', St B ((D, LstO ys) :: X) s' → Q (.ref D) s') xv s₁) E s)
    (hclos : closureFor scope env = pure cl)
    (btest : ∀ C D b v m ys Y s E', f v = some b → m x1 = some v → St B ((C, NsO m) :: (D, LstO ys) :: Y) s → wpAny (model prog w) A (tests ifs (compEnvC scope cl C env)) (fun b' s3 => b' = p b ∧ St B ((C, NsO m) :: (D, LstO ys) :: Y) s3) E' s)
    (belt : ∀ C D b v m ys Y s E', p b = true → f v = some b → m x1 = some v → St B ((C, NsO m) :: (D, LstO ys) :: Y) s → wpAny (model prog w) A (eval elt (compEnvC scope cl C env)) (fun y s3 => F b y ∧ St B ((C, NsO m) :: (D, LstO ys) :: Y) s3) E' s)
    (hs0 : ∀ x, foldedSetIterable i0 env x = pure x := by intro _; rfl) (hkind : scope.kind = .function := by rfl) (hnames : ∀ x ∈ scope.names, x.2 = .local → scope.names.lookup x.1 = some .local := by decide)
    (hcell : ∀ x ∈ scope.names, x.2 ≠ .cell := by decide)
    (hk : ∀ C, (compEnvC scope cl C env).scope.kind = .function := by intro _; rfl) (hl0 : ∀ C, (compEnvC scope cl C env).kindOf x0 = some .local := by intro _; rfl) (hl1 : ∀ C, (compEnvC scope cl C env).kindOf x1 = some .local := by intro _; rfl) (hd : (x0 == ("__debug__" : Str)) = false := by decide) (hs : ∀ C x, foldedSetIterable (.Name x0 q2) (compEnvC scope cl C env) x = pure x := by intro _ _; rfl) :
    wpAny (model prog w) A (eval (two elt (.Name x0 q0) i0 (.Name x1 q1) (.Name x0 q2) ifs scope pos) env) Q E s := by
  rw [eval_ListComp]
  refine flat_go (use := none) p F hh (wpAny_mono h (fun xv s₁ ⟨Dl, as, rs, X, e, H, hlen, hz, fin⟩ => ⟨Dl, as, rs, X, e, H, hlen, hz, fun D ys pr C m s'' H'' => ?_⟩) fun _ _ e => e) hs0 hclos hkind hnames hcell hk hl0 hl1 hd hs btest belt
  exact ⟨m, H''.ns (.head _), fun h' hs' => fin D ys pr _ (St.dropZ0 (t := s''.toks) H'' hs')⟩

theorem x_flat {β : Type} {f : Value → Option β} {cl : List (Str × Addr)} {x0 x1 y : Str} {q0 q1 q2 spos ypos : Pos} {Q : Flow → Shared → Prop} (p : β → Bool) (F : β → Value → Prop) (hh : A.handled = none)
    (h : wpAny (model prog w) A (eval i0 env) (fun xv s₁ => FlatEnd B f p F (fun D ys X => ∃ m cs'', Upd env.locals (NsO m) (NsO fun z => if z = y then some (.ref D) else m z) ((D, LstO ys) :: X) cs'' ∧ ∀ s', St B cs'' s' → Q .next s') xv s₁) E s)
    (hclos : closureFor scope env = pure cl)
    (btest : ∀ C D b v m ys Y s E', f v = some b → m x1 = some v → St B ((C, NsO m) :: (D, LstO ys) :: Y) s → wpAny (model prog w) A (tests ifs (compEnvC scope cl C env)) (fun b' s3 => b' = p b ∧ St B ((C, NsO m) :: (D, LstO ys) :: Y) s3) E' s)
    (belt : ∀ C D b v m ys Y s E', p b = true → f v = some b → m x1 = some v → St B ((C, NsO m) :: (D, LstO ys) :: Y) s → wpAny (model prog w) A (eval elt (compEnvC scope cl C env)) (fun y s3 => F b y ∧ St B ((C, NsO m) :: (D, LstO ys) :: Y) s3) E' s)
    (hsw : swapsWith (two elt (.Name x0 q0) i0 (.Name x1 q1) (.Name x0 q2) ifs scope pos) (some (.Name y ypos)) spos.line env = pure true)
    (hs0 : ∀ x, foldedSetIterable i0 env x = pure x := by intro _; rfl) (hkind : scope.kind = .function := by rfl) (hnames : ∀ x ∈ scope.names, x.2 = .local → scope.names.lookup x.1 = some .local := by decide)
    (hcell : ∀ x ∈ scope.names, x.2 ≠ .cell := by decide)
    (hk : ∀ C, (compEnvC scope cl C env).scope.kind = .function := by intro _; rfl) (hl0 : ∀ C, (compEnvC scope cl C env).kindOf x0 = some .local := by intro _; rfl) (hl1 : ∀ C, (compEnvC scope cl C env).kindOf x1 = some .local := by intro _; rfl) (hd : (x0 == ("__debug__" : Str)) = false := by decide) (hs : ∀ C x, foldedSetIterable (.Name x0 q2) (compEnvC scope cl C env) x = pure x := by intro _ _; rfl)
    (hek : env.scope.kind = .function := by rfl) (hel : env.kindOf y = some .local := by rfl) :
    wpAny (model prog w) A (exec (.Assign [.Name y ypos] (two elt (.Name x0 q0) i0 (.Name x1 q1) (.Name x0 q2) ifs scope pos) spos) env) Q E s := by
  rw [exec_Assign_Name_used _ _ _ _ hsw]
  refine wpAny_bind (wpAny_standAt (wpAny_bind ?_))
  show wpAny _ A (do let _ ← comprehension (two elt (.Name x0 q0) i0 (.Name x1 q1) (.Name x0 q2) ifs scope pos) scope env _ (newList []) false (eval i0 env) (some (assign (.Name y ypos) env))) _ _ s
  refine wpAny_bind (wpAny_mono (flat_go (use := some (assign (.Name y ypos) env)) (Q := fun _ s' => Q .next s') p F hh (wpAny_mono h (fun xv s₁ ⟨Dl, as, rs, X, e, H, hlen, hz, fin⟩ => ⟨Dl, as, rs, X, e, H, hlen, hz, fun D ys pr C m s'' H'' => ?_⟩) fun _ _ e => e) hs0 hclos hkind hnames hcell hk hl0 hl1 hd hs btest belt) (fun _ s' hq => wpAny_pure (wpAny_pure hq)) fun _ _ e => e)
  obtain ⟨mL, cs'', U, q⟩ := fin D ys pr
  exact wpAny_assign_Name (s_local (m' := mL) H'' (.tail U) (fun s3 H3 => ⟨m, H3.ns (.head _), fun h' hs' => q _ (H3.del (t := s3.toks) .head ⟨_, .head _⟩ hs'.extBut)⟩) hek hel)
end
end Mine
end
section
set_option maxHeartbeats 1000000
namespace Mine
open PySem PySem.Calls PyProof.Rows PySem.W

noncomputable def hid (s : Shared) (l : List Addr) : Shared := { s with heap := hideAll s.heap l }
theorem hid_get {s : Shared} {l : List Addr} {b : Addr} {o : Obj} (h : s.heap.get? b = some o) (hb : b ∉ l) : (hid s l).heap.get? b = some o := hideAll_get l h hb
theorem of_hid {s : Shared} {l : List Addr} {b : Addr} {o : Obj} (h : (hid s l).heap.get? b = some o) : s.heap.get? b = some o := of_hideAll l h
theorem hid_none {s : Shared} {l : List Addr} {b : Addr} (hb : b ∈ l) : (hid s l).heap.get? b = none := hideAll_none l hb

section
variable {B s s₀ s₁ : Shared} {cs G G' R : List Cel} {ads : List Addr}

theorem St.self (H : St B cs s) (had : ∀ c ∈ cs, c.1 ∈ ads) : St (hid s ads) cs s :=
  ⟨fun b o e => of_hid e, H.nodup, fun c hc => ⟨hid_none (had c hc), (H.own c hc).2⟩, rfl, H.gens, fun _ _ e => e⟩
theorem St.frame (H : St B (G ++ R) s₀) (H' : St (hid s₀ ads) G' s₁) (h1 : ∀ b ∈ ads, b ∈ G.map Prod.fst ∨ s₀.heap.get? b = none) : St B (G' ++ R) s₁ := by
  have hB : ∀ b o, B.heap.get? b = some o → b ∉ ads := fun b o e hb => by
    rcases h1 b hb with h | h
    · obtain ⟨c, hc, rfl⟩ := List.mem_map.mp h
      have := (H.own c (List.mem_append_left _ hc)).1
      rw [this] at e; cases e
    · rw [H.keep b o e] at h; cases h
  have hR : ∀ c ∈ R, c.1 ∉ ads := fun c hc hb => by
    rcases h1 c.1 hb with h | h
    · obtain ⟨c', hc', e⟩ := List.mem_map.mp h
      have nd := H.nodup
      rw [List.map_append, List.nodup_append] at nd
      exact nd.2.2 c.1 (List.mem_map.mpr ⟨c', hc', e⟩) c.1 (List.mem_map_of_mem hc) rfl
    · obtain ⟨o, ho, _⟩ := (H.own c (List.mem_append_right _ hc)).2
      rw [ho] at h; cases h
  have nd := H.nodup
  rw [List.map_append, List.nodup_append] at nd
  refine ⟨fun b o e => H'.keep b o (hid_get (H.keep b o e) (hB b o e)), ?_, fun c hc => ?_, H'.os.trans H.os, H'.gens, fun i g e => H'.gkeep i g (H.gkeep i g e)⟩
  · rw [List.map_append, List.nodup_append]
    refine ⟨H'.nodup, nd.2.1, fun a ha b hb e => ?_⟩
    subst e
    obtain ⟨c, hc, rfl⟩ := List.mem_map.mp ha
    obtain ⟨c', hc', e'⟩ := List.mem_map.mp hb
    obtain ⟨o, ho, _⟩ := (H.own c' (List.mem_append_right _ hc')).2
    have h2 := (H'.own c hc).1
    rw [← e'] at h2
    rw [hid_get ho (hR c' hc')] at h2
    cases h2
  · rcases List.mem_append.mp hc with hc | hc
    · refine ⟨?_, (H'.own c hc).2⟩
      cases e : B.heap.get? c.1 with
      | none => rfl
      | some o =>
        have h2 := (H'.own c hc).1
        rw [hid_get (H.keep _ _ e) (hB _ _ e)] at h2
        cases h2
    · obtain ⟨hn, o, ho, hp⟩ := H.own c (List.mem_append_right _ hc)
      exact ⟨hn, o, H'.keep _ _ (hid_get ho (hR c hc)), hp⟩

theorem setGen_other {s : Shared} {g i : Nat} {x : GenState} (h : i ≠ g) : (s.setGen g x).gens[i]? = s.gens[i]? := by
  unfold Shared.setGen
  simp only [Array.getElem?_setIfInBounds]
  rw [if_neg (fun e => h e.symm)]
theorem St.setGen (H : St B cs s) {g : Nat} {x : GenState} (hx : x.bare = true) (hg : B.gens[g]? = none) : St B cs (s.setGen g x) := by
  refine ⟨H.keep, H.nodup, H.own, H.os, fun y hy => ?_, fun i gs e => ?_⟩
  · obtain ⟨i, hi, rfl⟩ := Array.mem_iff_getElem.mp hy
    by_cases e : i = g
    · subst e
      have h2 : (s.setGen i x).gens[i]? = some ((s.setGen i x).gens[i]) := Array.getElem?_eq_getElem hi
      unfold Shared.setGen at h2
      simp only [Array.getElem?_setIfInBounds, if_true] at h2
      split at h2
      · have : x = (s.setGen i x).gens[i] := Option.some.inj h2
        rw [← this]; exact hx
      · cases h2
    · have h2 := setGen_other (s := s) (x := x) e
      rw [Array.getElem?_eq_getElem hi] at h2
      exact H.gens _ (Array.mem_of_getElem? h2.symm)
  · have : i ≠ g := fun q => by rw [q, hg] at e; cases e
    rw [setGen_other this]; exact H.gkeep i gs e
theorem St.pushGen (H : St B cs s) (x : GenState) (hx : x.bare = true) : St B cs { s with gens := s.gens.push x } := by
  refine ⟨H.keep, H.nodup, H.own, H.os, H.gens.push hx, fun i gs e => ?_⟩
  have h2 := H.gkeep i gs e
  have hi := (Array.getElem?_eq_some_iff.mp h2).1
  rw [Array.getElem?_push_lt hi] at *
  rw [Array.getElem?_eq_getElem hi] at h2; exact h2

theorem Names.hid (N : Names B) (H : St B cs s) (had : ∀ b ∈ ads, B.heap.get? b = none) : Names (hid s ads) := by
  have k : ∀ b o, B.heap.get? b = some o → (Mine.hid s ads).heap.get? b = some o := fun b o e => hid_get (H.keep b o e) fun hb => by rw [had b hb] at e; cases e
  obtain ⟨mg, g, r⟩ := N.gl
  obtain ⟨mb, b, r2⟩ := N.bi
  exact ⟨⟨mg, g.keeps k, r⟩, ⟨mb, b.keeps k, r2⟩, N.lim.keeps k⟩
end

noncomputable def GenO (g : Nat) (o : Obj) : Prop := o.cls = .type "generator" ∧ (∃ nm qn, o.data = .fields #[.int g 0, nm, qn]) ∧ o.slots = #[]
theorem St.gen {B s : Shared} {cs : List Cel} {a : Addr} {g : Nat} (H : St B cs s) (h : (a, GenO g) ∈ cs) : s.heap.IsGen a g := by
  obtain ⟨o, ho, hc, ⟨nm, qn, hd⟩, hs⟩ := H.get h
  exact ⟨o, nm, qn, ho, hc, hd, hs⟩

section
variable {prog : Program} {w : World} {A : Around} {E : Value → Shared → Prop} {B s : Shared} {cs cs' : List Cel} {Q : Option Value → Shared → Prop}

theorem next_fn {a : Addr} {g n : Nat} {gs : GenState} {P : Nat → Shared → Shared → Prop} {Y : Protocol} (hh : A.handled = none) (hl : s.heap.NoLimit) (hroom : A.depth < recursionLimit) (hg : s.heap.IsGen a g) (hgs : s.gens[g]? = some gs)
    (hgo : gs.Goes (model prog w) A.in1 (fun n s₀ r s₁ => r = .ok (.ret .none) ∧ P n s₀ s₁) Y n (.send .none) (s.setGen g .running))
    (hY : ∀ v s₁ gs', gs'.bare = true → Y (n - 1) (s.setGen g .running) v s₁ (fun r' s'' => match n with
        | 0 => False
        | m + 1 => gs'.Goes (model prog w) A.in1 (fun n s₀ r s₁ => r = .ok (.ret .none) ∧ P n s₀ s₁) Y m r' s'') → Q (some v) (s₁.setGen g gs'))
    (hP : ∀ s₁, P n (s.setGen g .running) s₁ → ∀ h', (∀ b o, s₁.heap.get? b = some o → h'.get? b = some o) → Q none { s₁.setGen g .finished with heap := h' }) :
    wpAny (model prog w) A (pyNext (.ref a)) Q E s := by
  unfold pyNext
  refine wpAny_bind (wpAny_attempt (wpAny_callSpecial?_slot (name := Str.ofString "__next__") hg.typeIs slot_gen_next (wpAny_call_entry slot_gen_next hg.typeIs entry_gen_next ?_ (args_gen_next _))))
  show wpAny _ A.in1 (Builtin.Generator.genWake (.ref a) (.send .none)) _ _ s
  unfold Builtin.Generator.genWake
  refine wpAny_bind (wpAny_holding (wpAny_genNumber hg (wpAny_bind (wpAny_genState hgs ?_))))
  cases gs with
  | running => exact hgo.elim
  | finished => exact hgo.elim
  | _ =>
    refine wpAny_bind (wpAny_roomToWake hl hroom ?_)
    show wpAny _ A.in1 (.resume g (.send .none) [] _) _ _ s
    refine wpAny_resumeQ hgs hgo (fun x s₁ hx => ?_) (fun v s₁ gs' hb hv => wpAny_pure ⟨v, rfl, wpAny_pure (hY v s₁ gs' hb hv)⟩)
    obtain ⟨rfl, hp⟩ := hx
    show wpAny _ A.in1 (newExc (.type "StopIteration") [] >>= _) _ _ _
    refine wpAny_bind ?_
    simp only [newExc, newTuple]
    refine wpAny_bind (wpAny_newObj_type ?_ (by size_fits))
    refine wpAny_bind (m := firstArgMember _ _) (wpAny_of_eq (a := Value.none) (by first | rfl | (simp only [firstArgMember]; rfl)) ?_)
    refine wpAny_newObj_type ?_ (by size_fits)
    simp only [raiseNew]
    refine wpAny_bind (wpAny_bind (wpAny_handled ?_))
    first | rw [show A.in1.handled = none from hh] | rw [hh]
    refine wpAny_throw ?_
    refine wpAny_bind (wpAny_isInstance (T := "StopIteration") (b := true) ⟨_, Heap.get?_push_size _ rfl, rfl⟩ isSubtype_stop ?_)
    exact wpAny_pure (hP s₁ hp _ fun b o hb => Heap.get?_push_of_some _ (Heap.get?_push_of_some _ hb))
end
end Mine
end
section
set_option maxHeartbeats 1000000
namespace Mine
open PySem PySem.Calls PyProof.Rows PySem.W

section
variable {prog : Program} {w : World} {A : Around} {R : GenEnd} {Y : Protocol} {n : Nat} {s₀ : Shared} {c : Code} {fs : List PySem.Frame} {s : Shared} {env : Env}
  {K : Flow → Sem PySem.Fin} {H : Value → Sem PySem.Fin} {gd : Bool → Bool} {lv : List Value → List Value}

theorem seg_st {st : Stmt} (h : wpAny (model prog w) (A.over c fs) (exec st env) (fun f s' => Seg (model prog w) A R Y n s₀ c (K f) fs s') (fun x s' => Seg (model prog w) A R Y n s₀ c (H x) fs s') s) :
    Seg (model prog w) A R Y n s₀ c ((exec st env).wrap K H gd lv) fs s := seg_wrap h

noncomputable abbrev backF (env : Env) (K : Flow → Sem PySem.Fin) (H : Value → Sem PySem.Fin) (gd : Bool → Bool) (lv : List Value → List Value) (c : Code) (p : Pos) : PySem.Frame :=
  .ret (fun r => ((match r with | .ok f => (.pure f : Sem Flow) | .error e => .raise e).onRaise fun (x : Value) => do
        if (← field x 1) == Value.none then unsupported "frame.own-activation:exception-without-traceback"
        setFlight x env.frame).wrap K H gd lv) none (gd false) (lv []) c p []

theorem seg_For {target iter : Expr} {body orelse : List Stmt} {pos : Pos} 
    (h : wpAny (model prog w) (A.over c fs) (eval iter env) (fun xv s1 => wpAny (model prog w) (A.over c fs) (pyIter xv) (fun it s2 => ∀ p,
      Seg (model prog w) A R Y n s₀ (.forLoop target it body orelse env) ((model prog w).den (.forLoop target it body orelse env)) (backF env K H gd lv c p :: fs) s2)
      (fun x s' => Seg (model prog w) A R Y n s₀ c (H x) fs s') s1) (fun x s' => Seg (model prog w) A R Y n s₀ c (H x) fs s') s)
    (hs : ∀ x, foldedSetIterable iter env x = pure x := by intro _; rfl) :
    Seg (model prog w) A R Y n s₀ c ((exec (.For target iter body orelse pos) env).wrap K H gd lv) fs s := by
  rw [exec_For]
  refine seg_bind_wrap (wpAny_standAt ?_)
  refine seg_bind_wrap (wpAny_mono h (fun xv s1 h1 => ?_) fun _ _ e => e)
  refine seg_bind_wrap (wpAny_of_eq (hs xv) ?_)
  refine seg_bind_wrap (wpAny_standAt ?_)
  refine seg_bind_wrap (wpAny_holding (wpAny_mono h1 (fun it s2 h2 => ?_) fun _ _ e => e))
  exact seg_call h2

theorem seg_congr {α : Type} {m : Sem α} {K1 K2 : α → Sem PySem.Fin} {H1 H2 : Value → Sem PySem.Fin} (hK : ∀ f, K1 f = K2 f) (hH : ∀ e, H1 e = H2 e) (h : Seg (model prog w) A R Y n s₀ c (m.wrap K2 H2 gd lv) fs s) :
    Seg (model prog w) A R Y n s₀ c (m.wrap K1 H1 gd lv) fs s := by rw [funext hK, funext hH]; exact h

theorem seg_forLoop {target : Expr} {it : Value} {body : List Stmt}
    (h : wpAny (model prog w) (A.over (.forLoop target it body [] env) fs) (pyNext it) (fun o s1 => match o with
        | none => Seg (model prog w) A R Y n s₀ (.block [] env) ((model prog w).den (.block [] env)) fs s1
        | some v => wpAny (model prog w) (A.over (.forLoop target it body [] env) fs) (letOwnedTupleGo target it v) (fun _ s2 => wpAny (model prog w) (A.over (.forLoop target it body [] env) fs) (assign target env v) (fun _ s3 =>
            Seg (model prog w) A R Y n s₀ (.forLoop target it body [] env) ((execs body env).wrap (fun f => match f with
              | .next | .cont => .pure (.again (.forLoop target it body [] env))
              | .brk => .pure (.done .next)
              | .ret v => .pure (.done (.ret v))) (fun e => ((do noteFrame e env; theTreesLotGoes e : Sem Unit).bind fun _ => .raise e)) id id) fs s3)
            (fun x s' => Seg (model prog w) A R Y n s₀ (.forLoop target it body [] env) ((do noteFrame x env; theTreesLotGoes x : Sem Unit).bind fun _ => .raise x) fs s') s2)
            (fun x s' => Seg (model prog w) A R Y n s₀ (.forLoop target it body [] env) ((do noteFrame x env; theTreesLotGoes x : Sem Unit).bind fun _ => .raise x) fs s') s1)
      (fun x s' => wpAny (model prog w) (A.over (.forLoop target it body [] env) fs) (standAt { target.pos with line := 0 }) (fun _ s'' => Seg (model prog w) A R Y n s₀ (.forLoop target it body [] env) ((do noteFrame x env; theTreesLotGoes x : Sem Unit).bind fun _ => .raise x) fs s'')
        (fun x s' => Seg (model prog w) A R Y n s₀ (.forLoop target it body [] env) ((do noteFrame x env; theTreesLotGoes x : Sem Unit).bind fun _ => .raise x) fs s') s') s) :
    Seg (model prog w) A R Y n s₀ (.forLoop target it body [] env) ((model prog w).den (.forLoop target it body [] env)) fs s := by
  show Seg _ A R Y n s₀ _ ((forTurn target it body [] env).onRaise (fun x => do noteFrame x env; theTreesLotGoes x)) fs s
  unfold forTurn
  rw [Sem.onRaise_eq_wrap]
  refine seg_bind_wrap (wpAny_standAt ?_)
  refine seg_bind_wrap (wpAny_onRaise (wpAny_mono h (fun o s1 h1 => ?_) fun _ _ e => e))
  cases o with
  | none => exact seg_again rfl h1
  | some v =>
    refine seg_bind_wrap (wpAny_mono h1 (fun _ s2 h2 => ?_) fun _ _ e => e)
    refine seg_bind_wrap (wpAny_mono h2 (fun _ s3 h3 => ?_) fun _ _ e => e)
    rw [Sem.bind_eq_wrap', Sem.wrap_wrap]
    exact seg_congr (fun f => by cases f <;> rfl) (fun e => rfl) h3

theorem seg_block {R : GenEnd} (h : Seg (model prog w) A R Y n s₀ (.block [] env) (leafOf (.ok .next)) fs s) : Seg (model prog w) A R Y n s₀ (.block [] env) ((model prog w).den (.block [] env)) fs s := by
  show Seg _ A R Y n s₀ _ (((execs [] env).onRaise _) >>= fun f => pure (.done f)) fs s
  exact h
end
end Mine
end
section
set_option maxHeartbeats 1000000
namespace Mine
open PySem PySem.Calls PyProof.Rows PySem.W

section
variable {prog : Program} {w : World} {A : Around} {E : Value → Shared → Prop} {B s : Shared} {cs cs' : List Cel} {α : Type}

noncomputable abbrev gY (B : Shared) (ads : List Addr) (all : List α) (P : α → Value → Prop) (G : List α → List Cel) : Protocol := fun m s₀ v s kap =>
  (∃ a, all[all.length - 1 - m]? = some a ∧ P a v) ∧ St (hid s₀ ads) (G (all.drop (all.length - m))) s ∧ ∀ s'', St B (G (all.drop (all.length - m))) s'' → kap (.send .none) s''
noncomputable abbrev gP (ads : List Addr) : Nat → Shared → Shared → Prop := fun n s₀ s₁ => n = 0 ∧ St (hid s₀ ads) [] s₁
noncomputable abbrev gR (fl : Flow) (ads : List Addr) : GenEnd := fun n s₀ r s₁ => r = .ok fl ∧ gP ads n s₀ s₁
noncomputable def Going (prog : Program) (w : World) (A : Around) (B : Shared) (fl : Flow) (ads : List Addr) (all : List α) (P : α → Value → Prop) (G : List α → List Cel) (as : List α) (gs : GenState) : Prop :=
  ∀ s, St B (G as) s → gs.Goes (model prog w) A.in1 (gR fl ads) (gY B ads all P G) as.length (.send .none) s

theorem drop_here {all as : List α} {x : α} (h : x :: as = all.drop (all.length - (as.length + 1))) : all[all.length - 1 - as.length]? = some x ∧ all.drop (all.length - as.length) = as ∧ as.length + 1 ≤ all.length := by
  have hl : as.length + 1 ≤ all.length := by
    have := congrArg List.length h
    rw [List.length_cons, List.length_drop] at this
    rw [this]; exact Nat.sub_le _ _
  refine ⟨?_, ?_, hl⟩
  · have : (all.drop (all.length - (as.length + 1)))[0]? = some x := by rw [← h]; rfl
    rw [List.getElem?_drop] at this
    rw [← this]; congr 1; rw [Nat.sub_sub, Nat.add_comm 1]; rfl
  · have := congrArg List.tail h
    rw [List.tail_drop] at this
    rw [show all.length - (as.length + 1) + 1 = all.length - as.length by rw [← Nat.sub_sub, Nat.sub_add_cancel (Nat.le_sub_of_add_le' hl)]] at this
    exact this.symm

section
variable {ads : List Addr} {all : List α} {P : α → Value → Prop} {G : List α → List Cel} {a : Addr} {g : Nat} {G0 R : List Cel} {gs : GenState} {Q : Option Value → Shared → Prop}

theorem gen_next (hh : A.handled = none) (hl : B.heap.NoLimit) (hroom : A.depth < recursionLimit) (hB : B.gens[g]? = none) {as0 : List α} (H : St B ((a, GenO g) :: (G0 ++ R)) s) (hgs : s.gens[g]? = some gs)
    (hads : ∀ b ∈ ads, b ∈ G0.map Prod.fst ∨ s.heap.get? b = none) (hgo : gs.Goes (model prog w) A.in1 (gR (.ret .none) ads) (gY B ads all P G) as0.length (.send .none) (s.setGen g .running)) (hall : as0 = all.drop (all.length - as0.length))
    (hsome : ∀ x as v s' gs', as0 = x :: as → P x v → St B ((a, GenO g) :: (G as ++ R)) s' → s'.gens[g]? = some gs' → Going prog w A B (.ret .none) ads all P G as gs' → Q (some v) s')
    (hnone : ∀ s', as0 = [] → St B R s' → Q none s') : wpAny (model prog w) A (pyNext (.ref a)) Q E s := by
  have pm : ∀ X : List Cel, ((a, GenO g) :: (X ++ R)).Perm (X ++ ((a, GenO g) :: R)) := fun X => List.perm_middle.symm
  have Hr : St B (G0 ++ ((a, GenO g) :: R)) (s.setGen g .running) := (H.perm (pm G0)).setGen rfl hB
  refine next_fn (P := gP ads) hh (hl.keeps H.keep) hroom (H.gen (.head _)) hgs hgo (fun v s₁ gs' hb hy => ?_) (fun s₁ hp h' hk => ?_)
  · obtain ⟨⟨x, hx, hv⟩, H1, hkap⟩ := hy
    cases as0 with
    | nil => exact (hkap s₁ (by
        have e : all.drop (all.length - (([] : List α).length - 1)) = [] := by simp
        rw [e] at H1 ⊢
        exact (Hr.frame H1 hads).sub (List.sublist_append_left _ _))).elim
    | cons y as =>
      obtain ⟨e1, e2, e3⟩ := drop_here hall
      rw [List.length_cons, Nat.add_sub_cancel] at hx H1 hkap
      rw [e1] at hx
      cases hx
      rw [e2] at H1 hkap
      have H2 := (Hr.frame H1 hads).perm (pm (G as)).symm
      have hgr : s₁.gens[g]? = some .running := H1.gkeep g _ (setGen_self hgs)
      refine hsome _ as v _ gs' rfl hv (H2.setGen hb hB) (setGen_self hgr) fun s'' H'' => ?_
      have := hkap s'' H''
      exact this
  · obtain ⟨hn, H1⟩ := hp
    have h0 : as0 = [] := List.length_eq_zero_iff.mp hn
    have H2 := (Hr.frame (G' := []) H1 hads).drop 1
    have H3 : St B R (s₁.setGen g .finished) := St.setGen (by simpa using H2) rfl hB
    exact hnone _ h0 (H3.ext (t := s₁.toks) (h' := h') hk)

theorem r_forG {σ : Type} (Rf : σ → List Cel) (K : List α → σ → Prop) {env : Env} {target : Expr} {body : List Stmt} {Q : Flow → Shared → Prop} {as0 : List α} {x0 : σ} (hh : A.handled = none) (hl : B.heap.NoLimit) (hroom : A.depth < recursionLimit) (hB : B.gens[g]? = none)
    (hG : ∀ as, ∀ b ∈ ads, b ∈ (G as).map Prod.fst)
    (H : St B ((a, GenO g) :: (G0 ++ Rf x0)) s) (hgs : s.gens[g]? = some gs)
    (hads : ∀ b ∈ ads, b ∈ G0.map Prod.fst ∨ s.heap.get? b = none) (hgo : gs.Goes (model prog w) A.in1 (gR (.ret .none) ads) (gY B ads all P G) as0.length (.send .none) (s.setGen g .running)) (hall : as0 = all.drop (all.length - as0.length))
    (k0 : K as0 x0)
    (turn : ∀ B' a' as v x s E', B'.heap = B.heap → P a' v → K (a' :: as) x → St B' ((a, GenO g) :: (G as ++ Rf x)) s → wpAny (model prog w) A (assign target env v) (fun _ s2 =>
        wpAny (model prog w) A (execs body env) (fun f s3 => f = .next ∧ ∃ x', K as x' ∧ St B' ((a, GenO g) :: (G as ++ Rf x')) s3) E' s2) E' s)
    (fin : ∀ x s', K [] x → St B (Rf x) s' → Q .next s') :
    codeAny (model prog w) A (.forLoop target (.ref a) body [] env) (fun r s' => match r with | .ok f => Q f s' | .error e => cameBackBy (model prog w) A env E e s') s := by
  refine codeAny_forLoop_any (fun n s' => ∃ as x G1 gs1, n = as.length ∧ K as x ∧ St B ((a, GenO g) :: (G1 ++ Rf x)) s' ∧ s'.gens[g]? = some gs1 ∧ (∀ b ∈ ads, b ∈ G1.map Prod.fst ∨ s'.heap.get? b = none) ∧
    gs1.Goes (model prog w) A.in1 (gR (.ret .none) ads) (gY B ads all P G) as.length (.send .none) (s'.setGen g .running) ∧ as = all.drop (all.length - as.length)) ?_ as0.length ⟨as0, x0, G0, gs, rfl, k0, H, hgs, hads, hgo, hall⟩
  rintro n s' ⟨as, x, G1, gs1, rfl, kx, Hx, hg1, had1, hgo1, hal1⟩
  refine gen_next hh hl hroom hB Hx hg1 had1 hgo1 hal1 (fun y as' v s1 gs' e hp H1 hg2 hgoing => ?_) (fun s1 e H1 => ?_)
  · subst e
    obtain ⟨o, ho, hc, ⟨nm, qn, hd⟩, hs⟩ := H1.get (.head _)
    refine own_of ho hc hd (by decide) ?_
    have HB : St { B with gens := s1.gens } ((a, GenO g) :: (G as' ++ Rf x)) s1 := ⟨H1.keep, H1.nodup, H1.own, H1.os, H1.gens, fun _ _ e => e⟩
    refine wpAny_mono (turn { B with gens := s1.gens } y as' v x s1 _ rfl hp kx HB) (fun _ s2 h2 => ?_) fun _ _ e => e
    refine wpAny_mono h2 (fun f s3 ⟨e, x', k', H3⟩ => ?_) fun _ _ e => e
    subst e
    have H4 : St B ((a, GenO g) :: (G as' ++ Rf x')) s3 := ⟨H3.keep, H3.nodup, H3.own, H3.os, H3.gens, fun i z e => H3.gkeep i z (H1.gkeep i z e)⟩
    have hg3 : s3.gens[g]? = some gs' := H3.gkeep g gs' hg2
    refine ⟨as'.length, Nat.lt_succ_self _, as', x', G as', gs', rfl, k', H4, hg3, fun b hb => .inl (hG as' b hb), ?_, (drop_here hal1).2.1.symm⟩
    refine hgoing _ (St.setGen ?_ rfl hB)
    exact H4.sub ((List.sublist_append_left (G as') (Rf x')).cons _)
  · subst e
    exact wpAny_execs_nil (fin x s1 kx H1)
end
end
end Mine
end
section
set_option maxRecDepth 100000
namespace Mine
open PySem PySem.Calls PyProof.Rows PySem.W PySem.SeqAt Builtin

noncomputable abbrev pileObj (dx : Addr) (vs : List Value) (n : Nat) : Obj := { cls := .ref 118, dict := some dx, data := .seq vs.toArray n }
noncomputable def PileO (dx : Addr) (vs : List Value) (o : Obj) : Prop := ∃ n, o = pileObj dx vs n

structure Acc (B : Shared) (K : Frag) : Prop where
  inn : K.In B.heap
  ga : findIn K (.ref 118) "__getattribute__" = some (some (.builtin "list.__getattribute__"))
  gt : findIn K (.ref 118) "__getattr__" = some none
  lst : mroIn K 118 (.type "list") = some true
  push : findIn K (.ref 118) "push" = some (some (.ref 62))
  popF : findIn K (.ref 118) "pop_from" = some (some (.ref 70))
  pop : findIn K (.ref 118) "pop" = some (some (.ref 78))
  pc : findIn K (.ref 118) "part_count" = some (some (.ref 115))
  len : findIn K (.ref 118) "__len__" = some (some (.ref 85))
  app : findIn K (.ref 118) "append" = some (some (.builtin "list.append"))
  iter : findIn K (.ref 118) "__iter__" = some (some (.builtin "list.__iter__"))
  getI : findIn K (.ref 118) "__getitem__" = some (some (.builtin "list.__getitem__"))
  setI : findIn K (.ref 118) "__setitem__" = some (some (.builtin "list.__setitem__"))
  deq : mroIn K 118 (.type "collections.deque") = some false
  size : findIn K (.ref 118) "_initial_size" = some none
  notMod : mroIn K 118 (.type "module") = some false
  self : mroIn K 118 (.ref 118) = some true
  cls : ∃ cd, clsIn K 118 = some cd ∧ (cd.mro.dropWhile (· != .ref 118)).drop 1 = [.type "list", .type "object"] ∧ cd.mro.isEmpty = false ∧ cd.qualname = "_Accumulator" ∧ cd.mro = [.ref 118, .type "list", .type "object"] ∧ cd.hasDict = true
  noThird : nsIn K cStatics "thirdparty.any" = some none
  supLen : alongIn K "__len__" [.type "list", .type "object"] = some (some (.builtin "list.__len__"))
  supPop : alongIn K "pop" [.type "list", .type "object"] = some (some (.builtin "list.pop"))
  supInit : alongIn K "__init__" [.type "list", .type "object"] = some (some (.builtin "list.__init__"))
  ctyp : typeIn K (.ref 118) = some (.type "type")
  newd : ∃ oc od cd sl, K.lookup 118 = some ⟨oc, od, .cls cd, sl⟩ ∧ cd.abstract = false ∧ cd.hasDel = false ∧ (sl.toList[4]?).join = some (.builtin "list.__new__") ∧ cd.mro.isEmpty = false
  init : findIn K (.ref 118) "__init__" = some (some (.ref 55))
  ccall : specialIn K (.ref 118) "__call__" = some (some (.builtin "type.__call__"))
  cinst : instIn K (.ref 118) (.type "type") = some true
  obj : mroIn K 118 (.type "object") = some true
  setA : findIn K (.ref 118) "__setattr__" = some (some (.builtin "object.__setattr__"))
  fns : ∀ f ∈ [55, 62, 70, 78, 85, 115], typeIn K (.ref f) = some (.type "function")

section
variable {prog : Program} {w : World} {M : Model} {A : Around} {E : Value → Shared → Prop} {B s : Shared} {cs cs' : List Cel} {env : Env} {Q : Value → Shared → Prop} {K : Frag}

theorem St.pile (H : St B cs s) {x dx : Addr} {vs} (h : (x, PileO dx vs) ∈ cs) : ∃ n, s.heap.get? x = some (pileObj dx vs n) := by obtain ⟨o, e, n, rfl⟩ := H.get h; exact ⟨n, e⟩
theorem St.k (H : St B cs s) (C : Acc B K) : K.In s.heap := C.inn.keeps H.keep
theorem St.pty (H : St B cs s) {x dx : Addr} {vs} (h : (x, PileO dx vs) ∈ cs) : Looks M s.heap (typeOf (.ref x)) (.ref 118) := by
  obtain ⟨n, e⟩ := H.pile h
  exact (Looks.ld e).andThen .now
theorem St.pin (H : St B cs s) (C : Acc B K) {x dx : Addr} {vs} (h : (x, PileO dx vs) ∈ cs) : Looks M s.heap (isInstance (.ref x) (.type "list")) true :=
  (H.pty h).andThen (looks_mroIn (H.k C) C.lst)
theorem St.psp (H : St B cs s) (C : Acc B K) {x dx : Addr} {vs} (h : (x, PileO dx vs) ∈ cs) {name : Str} {r : Option Value} (e : findIn K (.ref 118) name = some r) : Looks M s.heap (specialOf (.ref x) name) r :=
  (H.pty h).andThen (looks_findIn (H.k C) e)

theorem nsLook_of_ns {o : Obj} {m : Str → Option Value} (h : NsO m o) (name : Str) : nsLook name o = pure (m name) := by
  obtain ⟨es, ep, hd, hs, hf⟩ := h
  rw [← hf name]
  simp only [nsLook_eq, nsLookByArray, hd, nsFind, findBy]
  cases hx : es.find? (·.key.isStr name) with
  | some e => rfl
  | none =>
    have : es.any (·.refKey) = false := by
      rw [Array.any_eq_false']; intro e he; obtain ⟨n, t, h⟩ := hs e he; simp [DictEntry.refKey, h]
    simp only [this, Bool.false_eq_true, if_false, Option.map_none]

theorem check_meth {i owner n : String} {self : Value} {rest : List Value} {kw : List (Str × Value)} {Q : Unit → Shared → Prop}
    (hk : builtinKind i = some .method) (hs : splitId i = some (owner, n)) (hi : Looks M s.heap (isInstance self (.type owner)) true) (ha : argsOk i ⟨self :: rest, kw⟩) (q : Q () s) :
    wpAny M A (checkBuiltinCall i ⟨self :: rest, kw⟩) Q E s := by
  simp only [checkBuiltinCall, hk, hs]
  refine wpAny_bind (hi.here ?_)
  simp only [Bool.not_true, Bool.false_eq_true, if_false]
  cases hsig : Manifest.signature? i with
  | none => exact wpAny_pure q
  | some sig =>
    simp only [argsOk, hsig] at ha
    have h2 : Bind.checkArgs i sig ⟨self :: rest, kw⟩ = pure () := ha
    show wpAny M A (Bind.checkArgs i sig ⟨self :: rest, kw⟩) Q E s
    rw [h2]; exact wpAny_pure q

theorem getm_own {x dx : Addr} {vs : List Value} {m : Str → Option Value} {name : Str} {f t : Value} {pl : Sem Bool} {Q : Value × List Value → Shared → Prop}
    (C : Acc B K) (H : St B cs s) (hx : (x, PileO dx vs) ∈ cs) (hd : (dx, NsO m) ∈ cs) (hm : m name = none) (hf : findIn K (.ref 118) name = some (some f)) (ht : typeIn K f = some t) (htt : t = .type "function" ∨ t = .type "method_descriptor")
    (h : Q (f, [.ref x]) s) : wpAny (model prog w) A (getMethod (.ref x) name pl) Q E s := by
  obtain ⟨n, hob⟩ := H.pile hx
  obtain ⟨od, hod, hon⟩ := H.get hd
  have g1 := (H.psp (M := model prog w) C hx C.ga)
  have g2 := (H.psp (M := model prog w) C hx C.gt)
  have g3 := (H.psp (M := model prog w) C hx hf)
  have g4 := looks_typeIn (M := model prog w) (H.k C) ht
  unfold getMethod
  refine wpAny_bind (g1.here ?_)
  show wpAny _ _ (if (Manifest.canonical "list.__getattribute__" != "object.__getattribute__") = true then _ else _) _ _ _
  rw [if_neg (by decide +kernel)]
  refine wpAny_bind (g2.here ?_)
  show wpAny _ _ (specialOf (.ref x) name >>= _) _ _ _
  refine wpAny_bind (g3.here ?_)
  refine wpAny_bind (g4.here ?_)
  have e : (t != Value.type "function" && t != Value.type "method_descriptor" && t != Value.type "wrapper_descriptor") = false := by rcases htt with rfl | rfl <;> decide
  rw [if_neg (by rw [e]; decide)]
  refine wpAny_bind (wpAny_loadPart hob ?_)
  refine wpAny_bind (wpAny_nsGet (H.ns hd) ?_)
  rw [hm]
  repeat wp_step
  exact h

theorem mapSeq_pile (f : Array Value → Array Value) (dx : Addr) (vs : List Value) (n : Nat) : ∃ n', Obj.mapSeq f (pileObj dx vs n) = { cls := .ref 118, dict := some dx, data := .seq (f vs.toArray) n' } := by
  simp only [Obj.mapSeq]; split <;> exact ⟨_, rfl⟩
theorem p_append {x dx : Addr} {vs : List Value} {v : Value} (C : Acc B K) (H : St B cs s) (U : Upd x (PileO dx vs) (PileO dx (vs ++ [v])) cs cs') (hz : vs.length ≤ sizeLine) (h : ∀ s', St B cs' s' → Q .none s') :
    wpAny (model prog w) A (call (.builtin "list.append") [.ref x, v]) Q E s := by
  refine wpAny_call (codeAny_call_builtin (by decide +kernel) F.entry_list_append (check_meth (owner := "list") (n := "append") (by rw [builtinKind]; decide +kernel) (by decide +kernel) (H.pin C U.mem) (F.args_list_append_2 _ _) ?_))
  obtain ⟨n, hl⟩ := H.pile U.mem
  have hz' : (vs.toArray.push v).size ≤ sizeLine + 1 := by simp; assumption
  obtain ⟨n', e⟩ := mapSeq_pile (fun x => x.push v) dx vs n
  have H' := H.upd (t := s.toks) U (Heap.SameBut.update s.heap x (Obj.mapSeq fun x => x.push v)) ⟨_, Heap.get?_update_self _ hl (by rw [e]; rfl), ⟨n', by rw [e]; simp [pileObj]⟩⟩
  have q := h _ H'
  have hzz : vs.toArray.size ≤ sizeLine := by simpa using hz
  obtain ⟨hp, g, d, tk, os⟩ := s
  unfold Builtin.«list.append»
  wp_walk using (wpAny_updateSeq hl rfl (hz := hzz) (_hz' := hz'))
  exact q
end
end Mine
end
section
set_option maxHeartbeats 4000000
namespace Mine
open PySem PySem.Calls PyProof.Rows PySem.W

structure Fns (B : Shared) : Prop where
  strcoll : FnAt B.heap 129 (fdOf (stOf 6) "_strcoll" [] .none)
  grouping : FnAt B.heap 136 (fdOf (stOf 8) "_grouping_intervals" [] .none)
  strip : FnAt B.heap 143 (fdOf (stOf 9) "_strip_padding" [] .none)
  quote : FnAt B.heap 160 (fdOf (stOf 14) "quotedata" [] .none)
  numbers : FnAt B.heap 165 (fdOf (stOf 16) "_law_numbers" [] .none)
  order : FnAt B.heap 170 (fdOf (stOf 17) "_law_order" [] .none)
  page : FnAt B.heap 175 (fdOf (stOf 18) "_law_page" [] .none)
  words : FnAt B.heap 182 (fdOf (stOf 19) "_law_words" [] .none)
  exchange : FnAt B.heap 189 (fdOf (stOf 20) "_law_exchange" [] .none)
  slide : FnAt B.heap 194 (fdOf (stOf 21) "_law_slide" [] .none)
  mail : FnAt B.heap 199 (fdOf (stOf 22) "_law_mail" [] .none)
  cut : FnAt B.heap 206 (fdOf (stOf 23) "_law_cut" [] .none)
  grown : FnAt B.heap 211 (fdOf (stOf 24) "_law_grown" [] .none)

section
variable {prog : Program} {w : World} {A : Around} {E : Value → Shared → Prop} {B s : Shared} {cs : List Cel} {Q : Value → Shared → Prop}

noncomputable def cmpM (x y : Str) : Int := b2i (decide (y.cps.toList < x.cps.toList)) - b2i (decide (x.cps.toList < y.cps.toList))

theorem spec_strcoll {x y : Str} {t u : Tok} {k : Nat} (F : Fns B) (N : Names B) (ok : Ok A (k + 1)) (H : St B cs s) (h : ∀ t s', St B cs s' → Q (.int (cmpM x y) t) s') :
    wpAny (model prog w) A (call (.ref 129) [.str x t, .str y u]) Q E s := by
  refine call_fn (binds := [(Str.ofString "a", .str x t), (Str.ofString "b", .str y u)]) F.strcoll (fun _ _ _ => rfl) ok N H (fun _ _ _ => BindsTo.of_eq rfl) ?_
  intro L cd s1 E' ok1 H1
  refine wpAny_execs_cons (wpAny_Return_some (wpAny_BinOp (wpAny_Compare1 (n_local H1 (by k_mem) rfl (n_local H1 (by k_mem) rfl (P.gt_str ?_))))))
  refine wpAny_Compare1 (n_local H1 (by k_mem) rfl (n_local H1 (by k_mem) rfl (PyProof.Rows.lt_str ?_)))
  exact b_sub H1 fun t s' H' => h _ _ (H'.sub (List.sublist_cons_self _ _))

noncomputable def lead (l : List Nat) : Nat := (l.takeWhile (· == 32)).length
noncomputable def stripM (l : List Nat) (k : Nat) : List Nat :=
  let a := min k (lead l)
  let b := min (k - a) (lead l.reverse)
  (l.drop a).take (l.length - b - a)

theorem lead_at : ∀ {l : List Nat} {i : Nat}, i < lead l → l[i]? = some 32
  | [], i, h => absurd h (Nat.not_lt_zero _)
  | a :: r, i, h => by
    by_cases ha : a = 32
    · subst ha
      cases i with
      | zero => rfl
      | succ i =>
        have : lead (32 :: r) = lead r + 1 := by simp [lead]
        rw [this] at h
        exact lead_at (l := r) (by (exact Nat.le_of_lt_succ (by assumption)))
    · simp [lead, ha] at h
theorem lead_end {l : List Nat} (h : ∃ c ∈ l, c ≠ 32) : ∃ c, l[lead l]? = some c ∧ c ≠ 32 := by
  induction l with
  | nil => obtain ⟨c, hc, _⟩ := h; cases hc
  | cons a r ih =>
    by_cases ha : a = 32
    · subst ha
      obtain ⟨c, hc, hn⟩ := h
      rcases List.mem_cons.mp hc with rfl | hc
      · exact absurd rfl hn
      · obtain ⟨d, e, n⟩ := ih ⟨c, hc, hn⟩
        exact ⟨d, by simpa [lead] using e, n⟩
    · exact ⟨a, by simp [lead, ha], ha⟩
theorem lead_lt {l : List Nat} (h : ∃ c ∈ l, c ≠ 32) : lead l < l.length := by
  obtain ⟨c, e, _⟩ := lead_end h
  exact (List.getElem?_eq_some_iff.mp e).1

theorem lead_rev_end {l : List Nat} (h : ∃ c ∈ l, c ≠ 32) : ∃ c, l[l.length - 1 - lead l.reverse]? = some c ∧ c ≠ 32 := by
  obtain ⟨c, e, n⟩ := lead_end (l := l.reverse) (by simpa using h)
  have hl := lead_lt (l := l.reverse) (by simpa using h)
  rw [List.length_reverse] at hl
  rw [List.getElem?_reverse hl] at e
  exact ⟨c, e, n⟩
theorem lead_rev_at {l : List Nat} {i : Nat} (hl : i < l.length) (hi : l.length - 1 - i < lead l.reverse) : l[i]? = some 32 := by
  have e := lead_at hi
  rw [List.getElem?_reverse (Nat.lt_of_le_of_lt (Nat.sub_le _ _) (Nat.sub_lt (Nat.lt_of_le_of_lt (Nat.zero_le _) hl) Nat.one_pos))] at e
  rw [Nat.sub_sub_self (Nat.le_sub_one_of_lt hl)] at e
  exact e
theorem lead_sum {l : List Nat} (h : ∃ c ∈ l, c ≠ 32) : lead l + lead l.reverse < l.length := by
  obtain ⟨c, e, n⟩ := lead_end h
  have h1 := lead_lt h
  have h2 := lead_lt (l := l.reverse) (by simpa using h)
  rw [List.length_reverse] at h2
  by_cases hh : lead l + lead l.reverse < l.length
  · exact hh
  · have := lead_rev_at (l := l) (i := lead l) h1 (by omega +splitNatSub)
    rw [this] at e; cases e; exact absurd rfl n

theorem one_blank (c : Nat) : ((⟨#[c]⟩ : Str) == (Str.ofString " ")) = decide (c = 32) := by
  have : (Str.ofString " ") = ⟨#[32]⟩ := by decide +kernel
  rw [this]
  by_cases h : c = 32
  · subst h; rfl
  · rw [decide_eq_false h, beq_eq_false_iff_ne]
    intro e; injection e with e; simp at e; exact h e

end
namespace StD
noncomputable abbrev X := (Program) × (World) × (Around) × (Value → Shared → Prop) × (Shared) × (List Cel) × (Value → Shared → Prop) × (Str) × (Tok) × (Tok) × (Nat) × (Nat) × (Addr) × (Value) × (Shared) × (Value → Shared → Prop)
noncomputable def S (prog : Program) (w : World) (A : Around) (E : Value → Shared → Prop) (B : Shared) (cs : List Cel) (Q : Value → Shared → Prop) (x : Str) (t : Tok) (u : Tok) (a : Nat) (k : Nat) (L : Addr) (cd : Value) (s1 : Shared) (E' : Value → Shared → Prop) : Prop :=
  ∀ (F : Fns B) (N : Names B) (ok : Ok A (k + 1)) (hx : ∃ c ∈ x.cps.toList, c ≠ 32) (hz : x.length ≤ sizeLine) (ha : a ≤ sizeLine) (h : ∀ t s', St B cs s' → Q (.str ⟨(stripM x.cps.toList a).toArray⟩ t) s'),
    Ok (A.deeper (envX "_strip_padding" (scOf (stOf 9)) L 143 cd [])) k → St B ((L, NsO fun zq => ([(Str.ofString "s", .str x t), (Str.ofString "amount", .int a u)] : List (Str × Value)).reverse.lookup zq) :: cs) s1 →
    wpAny (model prog w) (A.deeper (envX "_strip_padding" (scOf (stOf 9)) L 143 cd [])) (execs (bdOf (stOf 9)) (envX "_strip_padding" (scOf (stOf 9)) L 143 cd [])) (fun f s' => Q (match f with | .ret v => v | _ => .none) s') E' s1
noncomputable def T (x : X) : Prop := S x.1 x.2.1 x.2.2.1 x.2.2.2.1 x.2.2.2.2.1 x.2.2.2.2.2.1 x.2.2.2.2.2.2.1 x.2.2.2.2.2.2.2.1 x.2.2.2.2.2.2.2.2.1 x.2.2.2.2.2.2.2.2.2.1 x.2.2.2.2.2.2.2.2.2.2.1 x.2.2.2.2.2.2.2.2.2.2.2.1 x.2.2.2.2.2.2.2.2.2.2.2.2.1 x.2.2.2.2.2.2.2.2.2.2.2.2.2.1 x.2.2.2.2.2.2.2.2.2.2.2.2.2.2.1 x.2.2.2.2.2.2.2.2.2.2.2.2.2.2.2
noncomputable def x0 : X := @Classical.epsilon X ⟨⟨default, dumW, {}, fun _ _ => True, dumS, [], fun _ _ => True, default, default, default, 0, 0, 0, default, dumS, fun _ _ => True⟩⟩ fun x => ¬ T x
noncomputable def prog : Program := x0.1
noncomputable def w : World := x0.2.1
noncomputable def A : Around := x0.2.2.1
noncomputable def E : Value → Shared → Prop := x0.2.2.2.1
noncomputable def B : Shared := x0.2.2.2.2.1
noncomputable def cs : List Cel := x0.2.2.2.2.2.1
noncomputable def Q : Value → Shared → Prop := x0.2.2.2.2.2.2.1
noncomputable def x : Str := x0.2.2.2.2.2.2.2.1
noncomputable def t : Tok := x0.2.2.2.2.2.2.2.2.1
noncomputable def u : Tok := x0.2.2.2.2.2.2.2.2.2.1
noncomputable def a : Nat := x0.2.2.2.2.2.2.2.2.2.2.1
noncomputable def k : Nat := x0.2.2.2.2.2.2.2.2.2.2.2.1
noncomputable def L : Addr := x0.2.2.2.2.2.2.2.2.2.2.2.2.1
noncomputable def cd : Value := x0.2.2.2.2.2.2.2.2.2.2.2.2.2.1
noncomputable def s1 : Shared := x0.2.2.2.2.2.2.2.2.2.2.2.2.2.2.1
noncomputable def E' : Value → Shared → Prop := x0.2.2.2.2.2.2.2.2.2.2.2.2.2.2.2
theorem at_ : S prog w A E B cs Q x t u a k L cd s1 E' := by
  intro F N ok hx hz ha h ok1 H1
  have hlen : x.length = x.cps.toList.length := by simp [Str.length]
  have hsum := lead_sum hx
  refine wpAny_execs_cons (wpAny_Assign_Name (c_int H1 fun t1 s2 H2 => s_local (m' := fun _ => none) H2 .head fun s3 H3 => ?_))
  refine wpAny_execs_cons (r_whileE (σ := (Str → Option Value) × Nat × Nat) (fun y => (L, NsO y.1) :: cs)
    (fun y => y.1 (Str.ofString "s") = some (.str x t) ∧ (∃ t, y.1 (Str.ofString "lpos") = some (.int y.2.1 t)) ∧ (∃ t, y.1 (Str.ofString "amount") = some (.int y.2.2 t)) ∧ y.2.1 ≤ lead x.cps.toList ∧ y.2.1 + y.2.2 = a)
    (fun y => y.1 (Str.ofString "s") = some (.str x t) ∧ (∃ t, y.1 (Str.ofString "lpos") = some (.int y.2.1 t)) ∧ (∃ t, y.1 (Str.ofString "amount") = some (.int y.2.2 t)) ∧ y.2.1 = min a (lead x.cps.toList) ∧ y.2.2 = a - y.2.1)
    (fun y => y.2.2) (_, 0, a) H3 ⟨rfl, ⟨_, rfl⟩, ⟨_, rfl⟩, Nat.zero_le _, by simp⟩ ?_ ?_)
  · rintro ⟨m, lp, am⟩ s4 E4 ⟨hs, ⟨t2, hl⟩, ⟨t3, hm⟩, hle, hsm⟩ H4
    dsimp only at hs hl hm hle hsm H4 ⊢
    refine wpAny_isTrue_BoolOp (wpAny_allTrue_And_cons (wpAny_isTrue_value (n_local H4 (.head _) hm (PyProof.Rows.truthy_int ?_))))
    by_cases h0 : am = 0
    · rw [if_neg (by simpa using h0), if_neg (by decide)]
      exact ⟨(m, lp, am), ⟨hs, ⟨_, hl⟩, ⟨_, hm⟩, by dsimp only; (clear ha hx; lia), by dsimp only; (clear ha hx h0; lia)⟩, H4⟩
    · rw [if_pos (by simpa using h0)]
      obtain ⟨c, hc⟩ : ∃ c, x.cps.toList[lp]? = some c := ⟨_, List.getElem?_eq_getElem (by (first | lia | omega +splitNatSub))⟩
      refine wpAny_allTrue_And_cons (wpAny_isTrue_Compare1 (Subscript_ (n_local H4 (.head _) hs (n_local H4 (.head _) hl (sub_str H4 (by (exact Int.natCast_nonneg _)) (by lia) hz (by simpa using hc) fun t4 s5 H5 => ?_)))))
      refine c_str H5 fun t5 s6 H6 => PyProof.Rows.eq_str (wpAny_truthy_bool ?_)
      rw [one_blank]
      by_cases hb : c = 32
      · rw [if_pos (by simpa using hb)]
        refine wpAny_allTrue_And_nil ?_
        rw [if_pos rfl]
        have hlt : lp < lead x.cps.toList := by
          rcases Nat.lt_or_ge lp (lead x.cps.toList) with q | q
          · exact q
          · obtain ⟨d, e, n⟩ := lead_end hx
            rw [show lp = lead x.cps.toList from by (exact Nat.le_antisymm (by assumption) (by assumption)), e] at hc
            exact absurd (Option.some.inj hc ▸ hb) n
        refine wpAny_execs_cons (wpAny_AugAssign_Name (n_localL H6 (.head _) hl (c_int H6 fun t6 s7 H7 => i_iadd H7 fun t7 s8 H8 => s_local (m' := fun _ => none) H8 .head fun s9 H9 => ?_)))
        refine wpAny_execs_cons (wpAny_AugAssign_Name (n_localL H9 (.head _) hm (c_int H9 fun t10 s10 H10 => i_isub H10 fun t11 s11 H11 => s_local (m' := fun _ => none) H11 .head fun s12 H12 => ?_)))
        refine wpAny_execs_nil ⟨rfl, (_, lp + 1, am - 1), ?_, ?_, H12⟩
        · exact ⟨hs, ⟨t7, congrArg (fun i => some (Value.int i t7)) (by dsimp only; rfl)⟩, ⟨t11, congrArg (fun i => some (Value.int i t11)) (by dsimp only; (clear hsm hx; lia))⟩, hlt, by dsimp only; (clear ha hx; lia)⟩
        · dsimp only; (first | lia | omega +splitNatSub)
      · rw [if_neg (by simpa using hb), if_neg (by decide)]
        have hge : lp = lead x.cps.toList := by
          rcases Nat.lt_or_ge lp (lead x.cps.toList) with q | q
          · have := lead_at q; rw [this] at hc; exact absurd (Option.some.inj hc).symm hb
          · (exact Nat.le_antisymm (by assumption) (by assumption))
        exact ⟨(m, lp, am), ⟨hs, ⟨_, hl⟩, ⟨_, hm⟩, by dsimp only; (clear hsum hle hx h0; lia), by dsimp only; (clear hge hx h0; lia)⟩, H6⟩
  rintro ⟨m, lp, am⟩ s4 ⟨hs, ⟨t2, hl⟩, ⟨t3, hm⟩, hlp, ham⟩ H4
  dsimp only at hs hl hm hlp ham H4 ⊢
  refine wpAny_execs_cons (wpAny_Assign_Name (wpAny_BinOp (e_call (n_blt H4 N (by k_mem) (by rfl) (cw_blt (wpAny_items_cons (n_local H4 (.head _) hs (wpAny_items_nil (f_len_str H4 hz fun t5 s5 H5 => ?_)))))))))
  refine c_int H5 fun t6 s6 H6 => i_sub H6 fun t7 s7 H7 => s_local (m' := fun _ => none) H7 .head fun s8 H8 => ?_
  have hln : x.length = x.cps.toList.length := hlen
  refine wpAny_execs_cons (r_whileE (σ := (Str → Option Value) × Nat × Nat) (fun y => (L, NsO y.1) :: cs)
    (fun y => y.1 (Str.ofString "s") = some (.str x t) ∧ (∃ t, y.1 (Str.ofString "lpos") = some (.int lp t)) ∧ (∃ t, y.1 (Str.ofString "rpos") = some (.int ((x.length - 1 - y.2.1 : Nat) : Int) t)) ∧ (∃ t, y.1 (Str.ofString "amount") = some (.int y.2.2 t)) ∧
      y.2.1 ≤ lead x.cps.toList.reverse ∧ y.2.1 + y.2.2 = am)
    (fun y => y.1 (Str.ofString "s") = some (.str x t) ∧ (∃ t, y.1 (Str.ofString "lpos") = some (.int lp t)) ∧ (∃ t, y.1 (Str.ofString "rpos") = some (.int ((x.length - 1 - y.2.1 : Nat) : Int) t)) ∧ y.2.1 = min am (lead x.cps.toList.reverse))
    (fun y => y.2.2) (_, 0, am) H8 ?_ ?_ ?_)
  · exact ⟨hs, ⟨_, hl⟩, ⟨t7, congrArg (fun i => some (Value.int i t7)) (by dsimp only; (clear hx; lia))⟩, ⟨_, hm⟩, Nat.zero_le _, by simp⟩
  · clear hs hm hl H8 H7 H6 H5 H4
    rintro ⟨m, b, bm⟩ s4 E4 ⟨hs, ⟨t2, hl⟩, ⟨t3, hr⟩, ⟨t4, hm⟩, hle, hsm⟩ H4
    dsimp only at hs hl hm hr hle hsm H4 ⊢
    refine wpAny_isTrue_BoolOp (wpAny_allTrue_And_cons (wpAny_isTrue_value (n_local H4 (.head _) hm (PyProof.Rows.truthy_int ?_))))
    by_cases h0 : bm = 0
    · rw [if_neg (by simpa using h0), if_neg (by decide)]
      exact ⟨(m, b, bm), ⟨hs, ⟨_, hl⟩, ⟨_, hr⟩, by dsimp only; (clear hx ham; lia)⟩, H4⟩
    · rw [if_pos (by simpa using h0)]
      obtain ⟨c, hc⟩ : ∃ c, x.cps.toList[x.length - 1 - b]? = some c := ⟨_, List.getElem?_eq_getElem (by (first | lia | omega +splitNatSub))⟩
      refine wpAny_allTrue_And_cons (wpAny_isTrue_Compare1 (Subscript_ (n_local H4 (.head _) hs (n_local H4 (.head _) hr (sub_str H4 (by (exact Int.natCast_nonneg _)) (by (clear hz ha hlp ham hsm hle; omega)) hz (by simpa using hc) fun t4 s5 H5 => ?_)))))
      refine c_str H5 fun t5 s6 H6 => PyProof.Rows.eq_str (wpAny_truthy_bool ?_)
      rw [one_blank]
      by_cases hb : c = 32
      · rw [if_pos (by simpa using hb)]
        refine wpAny_allTrue_And_nil ?_
        rw [if_pos rfl]
        have hlt : b < lead x.cps.toList.reverse := by
          rcases Nat.lt_or_ge b (lead x.cps.toList.reverse) with q | q
          · exact q
          · obtain ⟨d, e, n⟩ := lead_rev_end hx
            rw [show x.length - 1 - b = x.cps.toList.length - 1 - lead x.cps.toList.reverse from by (clear hr hsm hc; lia), e] at hc
            exact absurd (Option.some.inj hc ▸ hb) n
        refine wpAny_execs_cons (wpAny_AugAssign_Name (n_localL H6 (.head _) hr (c_int H6 fun t6 s7 H7 => i_isub H7 fun t7 s8 H8 => s_local (m' := fun _ => none) H8 .head fun s9 H9 => ?_)))
        refine wpAny_execs_cons (wpAny_AugAssign_Name (n_localL H9 (.head _) hm (c_int H9 fun t10 s10 H10 => i_isub H10 fun t11 s11 H11 => s_local (m' := fun _ => none) H11 .head fun s12 H12 => ?_)))
        refine wpAny_execs_nil ⟨rfl, (_, b + 1, bm - 1), ?_, ?_, H12⟩
        · exact ⟨hs, ⟨_, hl⟩, ⟨t7, congrArg (fun i => some (Value.int i t7)) (by dsimp only; lia)⟩, ⟨t11, congrArg (fun i => some (Value.int i t11)) (by dsimp only; (clear hx hsm; lia))⟩, hlt, by dsimp only; (clear hx ham; lia)⟩
        · dsimp only; (first | lia | omega +splitNatSub)
      · rw [if_neg (by simpa using hb), if_neg (by decide)]
        have hge : b = lead x.cps.toList.reverse := by
          rcases Nat.lt_or_ge b (lead x.cps.toList.reverse) with q | q
          · have := lead_rev_at (l := x.cps.toList) (i := x.length - 1 - b) (by (first | lia | omega +splitNatSub)) (by (first | lia | omega +splitNatSub)); rw [this] at hc; exact absurd (Option.some.inj hc).symm hb
          · (exact Nat.le_antisymm (by assumption) (by assumption))
        exact ⟨(m, b, bm), ⟨hs, ⟨_, hl⟩, ⟨_, hr⟩, by dsimp only; (clear hsum hle hx ham h0; lia)⟩, H6⟩
  clear hs hm hl H8 H7 H6 H5 H4
  rintro ⟨m, b, bm⟩ s4 ⟨hs, ⟨t2, hl⟩, ⟨t3, hr⟩, hb⟩ H4
  dsimp only at hs hl hr hb H4 ⊢
  refine wpAny_execs_cons (wpAny_Return_some (Subscript_ (n_local H4 (.head _) hs (e_slice (n_local H4 (.head _) hl (wpAny_BinOp (n_local H4 (.head _) hr (c_int H4 fun t5 s5 H5 => i_add H5 fun t6 s6 H6 => ?_))))))))
  refine evalPart_none_step (slice_str (l := some (_, _)) (u := some (_, _)) H6 hz (fun t7 s7 H7 => ?_) rfl)
  have e : Txt.slice x (some (lp : Int)) (some (((x.length - 1 - b : Nat) : Int) + 1)) = ⟨(stripM x.cps.toList a).toArray⟩ := by
    have hl1 : lp ≤ lead x.cps.toList := hlp ▸ Nat.min_le_right _ _
    have hb1 : b ≤ lead x.cps.toList.reverse := hb ▸ Nat.min_le_right _ _
    have e0 : stripM x.cps.toList a = (x.cps.toList.drop lp).take (x.cps.toList.length - b - lp) := by
      unfold stripM
      dsimp only
      rw [← hlp, ← ham, ← hb]
    rw [e0]
    clear e0 hlp ham hb ha
    rw [txt_slice (by (exact Int.natCast_nonneg _)) (by (clear hx; lia)) (by (clear hz hl1 hb1; omega))]
    have e1 : ((lp : Int)).toNat = lp := Int.toNat_natCast lp
    have e2 : (((x.length - 1 - b : Nat) : Int) + 1 - (lp : Int)).toNat = x.cps.toList.length - b - lp := by
      rw [show (((x.length - 1 - b : Nat) : Int) + 1 - (lp : Int)) = ((x.length - 1 - b + 1 : Nat) : Int) - (lp : Int) from rfl, Int.toNat_sub, ← hlen]
      have h1 : b + 1 ≤ x.length := by rw [hlen]; (first | lia | omega +splitNatSub)
      rw [Nat.sub_right_comm x.length 1 b, Nat.sub_add_cancel (Nat.le_sub_of_add_le' h1)]
    rw [e1, e2]
  dsimp only [Option.map]
  rw [e]
  exact h _ _ (H7.sub (List.sublist_cons_self _ _))
theorem all_ (x : X) : T x := Classical.byContradiction fun hn => Classical.epsilon_spec (p := fun x => ¬ T x) ⟨x, hn⟩ at_
end StD
section
variable {prog : Program} {w : World} {A : Around} {E : Value → Shared → Prop} {B s : Shared} {cs : List Cel} {Q : Value → Shared → Prop}
theorem spec_strip {x : Str} {t u : Tok} {a : Nat} {k : Nat} (F : Fns B) (N : Names B) (ok : Ok A (k + 1)) (H : St B cs s) (hx : ∃ c ∈ x.cps.toList, c ≠ 32) (hz : x.length ≤ sizeLine) (ha : a ≤ sizeLine) (h : ∀ t s', St B cs s' → Q (.str ⟨(stripM x.cps.toList a).toArray⟩ t) s') :
    wpAny (model prog w) A (call (.ref 143) [.str x t, .int a u]) Q E s := by
  refine call_fn (binds := [(Str.ofString "s", .str x t), (Str.ofString "amount", .int a u)]) F.strip (fun _ _ _ => rfl) ok N H (fun _ _ _ => BindsTo.of_eq rfl) ?_
  intro L cd s1 E' ok1 H1
  exact StD.all_ ⟨prog, w, A, E, B, cs, Q, x, t, u, a, k, L, cd, s1, E'⟩ F N ok hx hz ha h ok1 H1

end
end Mine
end
section
set_option maxRecDepth 100000
namespace Mine
open PySem PySem.Calls PyProof.Rows PySem.W PySem.SeqAt Builtin

structure AccF (B : Shared) : Prop where
  init : FnAt B.heap 55 (fdOf (stIn 0) "_Accumulator.__init__" [("__class__", 42)] (.ref 47))
  push : FnAt B.heap 62 (fdOf (stIn 1) "_Accumulator.push" [] .none)
  popF : FnAt B.heap 70 (fdOf (stIn 2) "_Accumulator.pop_from" [] (.ref 63))
  pop : FnAt B.heap 78 (fdOf (stIn 3) "_Accumulator.pop" [("__class__", 42)] .none)
  len : FnAt B.heap 85 (fdOf (stIn 4) "_Accumulator.__len__" [] .none)
  pc : FnAt B.heap 115 (fdOf (stIn 8) "_Accumulator.part_count" [("__class__", 42)] .none)
  cell : B.heap.IsCell 42 (some (.ref 118))
  d47 : ∃ o t n, B.heap.get? 47 = some o ∧ o.data = .seq #[.int 0 t] n
  d63 : ∃ o t n, B.heap.get? 63 = some o ∧ o.data = .seq #[.int 0 t] n

noncomputable def TxtO (p : Str × Str) (o : Obj) : Prop := ∃ t u n, o = { cls := .type "tuple", data := .seq [.str p.1 t, .str p.2 u].toArray n }
noncomputable def txtC (as : List Addr) (ps : List (Str × Str)) : List Cel := List.zipWith (fun a p => (a, TxtO p)) as ps

section
variable {prog : Program} {w : World} {M : Model} {A : Around} {E : Value → Shared → Prop} {B s : Shared} {cs cs' : List Cel} {env : Env} {Q : Value → Shared → Prop} {K : Frag}

theorem St.txt (H : St B cs s) {a : Addr} {p : Str × Str} (h : (a, TxtO p) ∈ cs) : ∃ t u, s.heap.IsTuple a #[.str p.1 t, .str p.2 u] := by
  obtain ⟨o, x, t, u, n, rfl⟩ := H.get h; exact ⟨t, u, _, x, rfl, n, rfl⟩

theorem p_call {o e : Expr} {rest : List Expr} {name : Str} {apos pos : Pos} {f t : Value} (C : Acc B K) (hf : findIn K (.ref 118) name = some (some f)) (ht : typeIn K f = some t) (htt : t = .type "function" ∨ t = .type "method_descriptor")
    (h : wpAny (model prog w) A (eval o env) (fun ov s₁ => ∃ c1 x dx vs m, ov = .ref x ∧ St B c1 s₁ ∧ (x, PileO dx vs) ∈ c1 ∧ (dx, NsO m) ∈ c1 ∧ m name = none ∧
      wpAny (model prog w) A (callWith pos f [.ref x] (backTo pos (starEach (e :: rest) env)) []) Q E s₁) E s)
    (hbase : attributeBase o name env (eval o env) = eval o env)
    (hfew : ((backTo pos (starEach (e :: rest) env)).all (fun x => !x.1) && (backToKw pos (keywordEach [] env)).all (fun x => x.1.isSome)
      && decide ((e :: rest).length + ([] : List Keyword).length + (if ([] : List Keyword).isEmpty then 0 else 1) < 30)) = true := by rfl)
    (hline : (apos.endLine == pos.line) = true := by rfl) :
    wpAny (model prog w) A (eval (.Call (.Attribute o name apos) (e :: rest) [] pos) env) Q E s := by
  rw [arm_eval_Call, hbase]
  refine wpAny_bind (wpAny_mono h (fun ov s₁ h₁ => ?_) fun _ _ e => e)
  obtain ⟨c1, x, dx, vs, m, rfl, H1, hx, hd, hm, hc⟩ := h₁
  refine wpAny_bind (wpAny_standAt ?_)
  have hform : methodCallForm ((e :: rest).length + ([] : List Keyword).length) (backTo pos (starEach (e :: rest) env)) (backToKw pos (keywordEach [] env)) = true := hfew
  have hpos : methodCallPos true o env apos pos = pure pos := by unfold methodCallPos; simp [hline]
  unfold methodCall
  rw [hform]
  refine wpAny_bind (wpAny_holding (getm_own C H1 hx hd hm hf ht htt ?_))
  exact wpAny_bind (wpAny_of_eq hpos hc)
theorem p_call0 {o : Expr} {name : Str} {apos pos : Pos} {f t : Value} (C : Acc B K) (hf : findIn K (.ref 118) name = some (some f)) (ht : typeIn K f = some t) (htt : t = .type "function" ∨ t = .type "method_descriptor")
    (h : wpAny (model prog w) A (eval o env) (fun ov s₁ => ∃ c1 x dx vs m, ov = .ref x ∧ St B c1 s₁ ∧ (x, PileO dx vs) ∈ c1 ∧ (dx, NsO m) ∈ c1 ∧ m name = none ∧
      wpAny (model prog w) A (callWith pos f [.ref x] [] []) Q E s₁) E s)
    (hbase : attributeBase o name env (eval o env) = eval o env)
    (hline : (apos.endLine == pos.line) = true := by rfl) :
    wpAny (model prog w) A (eval (.Call (.Attribute o name apos) [] [] pos) env) Q E s := by
  rw [arm_eval_Call, hbase]
  refine wpAny_bind (wpAny_mono h (fun ov s₁ h₁ => ?_) fun _ _ e => e)
  obtain ⟨c1, x, dx, vs, m, rfl, H1, hx, hd, hm, hc⟩ := h₁
  refine wpAny_bind (wpAny_standAt ?_)
  have hform : methodCallForm (([] : List Expr).length + ([] : List Keyword).length) (backTo pos (starEach [] env)) (backToKw pos (keywordEach [] env)) = true := rfl
  have hpos : methodCallPos true o env apos pos = pure pos := by unfold methodCallPos; simp [hline]
  unfold methodCall
  rw [hform]
  refine wpAny_bind (wpAny_holding (getm_own C H1 hx hd hm hf ht htt ?_))
  exact wpAny_bind (wpAny_of_eq hpos hc)

theorem cw_fnM {a : Addr} {F : Value → Value → Value → FuncData} {pos : Pos} {first : List Value} {e : Expr} {rest : List Expr} (hF : FnAt B.heap a F)
    (h : wpAny (model prog w) A (spliced (backTo pos (starEach (e :: rest) env))) (fun vs s₁ => (∃ cs₁, St B cs₁ s₁) ∧ wpAny (model prog w) A (call (.ref a) (first ++ vs)) Q E s₁) E s)
    (he : starEach (e :: rest) env = (false, eval e env) :: starEach rest env := by rfl) :
    wpAny (model prog w) A (callWith pos (.ref a) first (backTo pos (starEach (e :: rest) env)) []) Q E s := by
  obtain ⟨o, pm, cd, ct, ho, hd, hc⟩ := hF
  refine callWith_function (o := o) (fd := F pm cd ct) ?_
  rw [he] at h ⊢
  refine evalArgs_plain (wpAny_mono h (fun vs s₁ h₁ => ?_) fun _ _ x => x)
  obtain ⟨⟨cs₁, H₁⟩, h₁⟩ := h₁
  exact ⟨⟨H₁.keep _ _ ho, hd⟩, h₁⟩
theorem cw_fnM0 {a : Addr} {F : Value → Value → Value → FuncData} {pos : Pos} {first : List Value} (hF : FnAt B.heap a F) (H : St B cs s)
    (h : wpAny (model prog w) A (call (.ref a) first) Q E s) : wpAny (model prog w) A (callWith pos (.ref a) first [] []) Q E s := by
  obtain ⟨o, pm, cd, ct, ho, hd, hc⟩ := hF
  refine callWith_function (o := o) (fd := F pm cd ct) (PySem.evalArgs_none ⟨⟨H.keep _ _ ho, hd⟩, ?_⟩)
  simpa using h

set_option maxHeartbeats 4000000 in
theorem spec_push {x dx : Addr} {vs : List Value} {m : Str → Option Value} {f g : Str} {t u : Tok} {k : Nat} {ds : Addr → List Cel} (C : Acc B K) (F : AccF B) (N : Names B) (ok : Ok A (k + 1)) (H : St B cs s)
    (U : ∀ a, Upd x (PileO dx vs) (PileO dx (vs ++ [.ref a])) cs (ds a)) (hd : (dx, NsO m) ∈ cs) (hm : m "append" = none) (hz : vs.length ≤ sizeLine)
    (h : ∀ a s', St B ((a, TxtO (f, g)) :: ds a) s' → Q .none s') :
    wpAny (model prog w) A (call (.ref 62) [.ref x, .str f t, .str g u]) Q E s := by
  refine call_fn (binds := [(Str.ofString "self", .ref x), (Str.ofString "fws", .str f t), (Str.ofString "string", .str g u)]) F.push (fun _ _ _ => rfl) ok N H (fun _ _ _ => BindsTo.of_eq rfl) ?_
  intro L cd s1 E' ok1 H1
  have hx := (U 0).mem
  refine wpAny_execs_cons ?_
  refine wpAny_Expr ?_
  refine p_call C C.app (by rfl) (.inr rfl) (n_local H1 (.head _) rfl ⟨_, x, dx, vs, m, rfl, H1, .tail _ hx, .tail _ hd, hm, ?_⟩) rfl
  refine cw_m (id := "list.append") (wpAny_items_cons ?_)
  refine d_tup (B := B) ?_
  refine wpAny_items_cons (n_local H1 (.head _) rfl ?_)
  refine wpAny_items_cons (n_local H1 (.head _) rfl (wpAny_items_nil ?_))
  refine ⟨_, H1, by exact Nat.le_trans (show 2 ≤ 100 by (exact Nat.le_add_left _ _)) (show 100 ≤ sizeLine by decide), fun D s2 H2 => wpAny_items_nil ?_⟩
  refine p_append C H2 (.tail (.tail (U D))) hz fun s3 H3 => ?_
  refine wpAny_execs_nil ?_
  have H4 := (H3.weak (P' := TxtO (f, g)) .head (fun o ho => by obtain ⟨n, rfl⟩ := ho; exact ⟨t, u, n, rfl⟩)).cut 1 1
  exact h D s3 H4
end
end Mine
end
section
set_option maxRecDepth 100000
namespace Mine
open PySem PySem.Calls PyProof.Rows PySem.W PySem.SeqAt Builtin

section
variable {prog : Program} {w : World} {M : Model} {A : Around} {E : Value → Shared → Prop} {B s : Shared} {cs cs' : List Cel} {env : Env} {Q : Value → Shared → Prop} {K : Frag}

theorem p_seqKey {x dx : Addr} {vs : List Value} {k : Value} {name : Str} {Q : Value → Shared → Prop} (C : Acc B K) (H : St B cs s) (hx : (x, PileO dx vs) ∈ cs) (h : Q k s) : wpAny M A (sequenceKey (.ref x) k name) Q E s := by
  unfold sequenceKey
  refine wpAny_bind ((H.pty hx).here ?_)
  have L : Looks M s.heap (List.anyM (fun n => isSubtype (.ref 118) (.type n)) seqItemTypes) false := (looks_mroIn (H.k C) C.deq).andThen .now
  refine wpAny_bind (L.here ?_)
  exact wpAny_pure h

theorem p_special {x dx : Addr} {vs : List Value} {name : Str} {id : String} {args : List Value} {Q : Option Value → Shared → Prop} (C : Acc B K) (H : St B cs s) (hx : (x, PileO dx vs) ∈ cs)
    (hf : findIn K (.ref 118) name = some (some (.builtin id))) (hb : ∀ self, bindSpecial (.builtin id) self = pure (.builtin id, [self]))
    (h : wpAny (model prog w) A (call (.builtin id) (.ref x :: args)) (fun v s' => Q (some v) s') E s) : wpAny (model prog w) A (callSpecial? (.ref x) name args) Q E s := by
  unfold callSpecial?
  refine wpAny_bind ((H.psp C hx hf).here ?_)
  refine wpAny_holding ?_
  refine wpAny_bind (wpAny_of_eq (hb _) ?_)
  exact wpAny_bind (wpAny_mono h (fun v s' h' => wpAny_pure h') fun _ _ x => x)

theorem kind_gi : builtinKind "list.__getitem__" = some .method := by rw [builtinKind]; decide +kernel
theorem split_gi : splitId "list.__getitem__" = some ("list", "__getitem__") := by decide +kernel
theorem plain_gi : plainId "list.__getitem__" = true := by decide +kernel
theorem kind_si : builtinKind "list.__setitem__" = some .slot := by rw [builtinKind]; decide +kernel
theorem split_si : splitId "list.__setitem__" = some ("list", "__setitem__") := by decide +kernel
theorem plain_si : plainId "list.__setitem__" = true := by decide +kernel

theorem p_entry {id n : String} {Bi : Builtin} {x dx : Addr} {vs rest : List Value} (C : Acc B K) (H : St B cs s) (hx : (x, PileO dx vs) ∈ cs) (hk : builtinKind id = some .method ∨ builtinKind id = some .slot) (hs : splitId id = some ("list", n))
    (hp : plainId id = true) (hb : entryFor table id = some Bi) (ha : argsOk id ⟨.ref x :: rest, []⟩)
    (h : wpAny (model prog w) A.in1 (Bi ⟨.ref x :: rest, []⟩) (fun fin s' => ∃ v, fin = .done (.ret v) ∧ Q v s') E s) :
    wpAny (model prog w) A (call (.builtin id) (.ref x :: rest)) Q E s := by
  have g : wpAny (model prog w) A.in1 (Bi ⟨.ref x :: rest, []⟩) (fun fin s' => match fin with | .done f => wants Q E (.ok f) s' | .again c' => c'.quiet = true ∧ codeAny (model prog w) A c' (wants Q E) s') (fun e s' => wants Q E (.error e) s') s :=
    wpAny_mono h (fun fin s' h' => by obtain ⟨v, rfl, q⟩ := h'; exact q) fun _ _ q => q
  rcases hk with hk | hk
  · exact wpAny_call (codeAny_call_builtin hp hb (check_meth hk hs (H.pin C hx) ha g))
  · exact wpAny_call (codeAny_call_builtin hp hb (check_slot hk hs (H.pin C hx) ha g))

set_option maxHeartbeats 4000000 in
theorem p_getslice_at {x dx sl : Addr} {vs : List Value} {vl vu vk : Value} {lo hi st : Option Int} (C : Acc B K) (H : St B cs s) (hm : (x, PileO dx vs) ∈ cs) (hs : s.heap.IsSliceOf sl vl vu vk) (pl : IsPart vl lo) (pu : IsPart vu hi) (ps : IsPart vk st) (h0 : st ≠ some 0) (hz : vs.length ≤ sizeLine)
    (h : Q (.ref s.heap.objs.size) { s with heap := s.heap.push { cls := .type "list", data := .seq (slicePick vs.toArray lo hi st) } }) :
    wpAny (model prog w) A (getItem (.ref x) (.ref sl)) Q E s := by
  obtain ⟨n, ho⟩ := H.pile hm
  obtain ⟨os, hos, hcs, hds⟩ := id hs
  have hTs : s.TypeIs (.ref sl) "slice" := ⟨os, hos, hcs⟩
  unfold getItem
  refine wpAny_holding ?_
  refine wpAny_bind (p_seqKey C H hm ?_)
  refine wpAny_bind (p_special C H hm C.getI slot_list_getitem.bind ?_)
  refine p_entry C H hm (.inl kind_gi) split_gi plain_gi entry_list_getitem (args_list_getitem _ _) ?_
  show wpAny _ _ (Builtin.List.listSubscript? (.ref sl) >>= _) _ _ s
  refine wpAny_bind ?_
  unfold Builtin.List.listSubscript?
  refine wpAny_bind (wpAny_specialOf hTs slice_no_index ?_)
  simp only [Option.isNone_none, if_true]
  refine wpAny_pure ?_
  show wpAny _ _ (typeOf (.ref sl) >>= _) _ _ s
  refine wpAny_bind (wpAny_typeOf hTs ?_)
  rw [if_neg (by decide)]
  rw [listSliceParts_eq]
  have hstep : ¬ ((rawPart st == rawInt 0) = true) := by
    cases st with
    | none => exact Bool.false_ne_true
    | some c =>
      intro hh
      have : c = 0 := by simpa [rawPart, rawInt] using hh
      exact h0 (by rw [this])
  refine wpAny_bind (wpAny_bind (wpAny_field hos hds (x := vk) rfl (wpAny_bind (wpAny_listPart ps ?_))))
  rw [if_neg hstep]
  refine wpAny_bind (wpAny_field hos hds (x := vl) rfl (wpAny_bind (wpAny_listPart pl ?_)))
  refine wpAny_bind (wpAny_field hos hds (x := vu) rfl (wpAny_bind (wpAny_listPart pu (wpAny_pure ?_))))
  refine wpAny_bind (m := Builtin.List.listItems (.ref x)) ?_
  unfold Builtin.List.listItems
  refine wpAny_bind (wpAny_seqItems ho rfl (wpAny_pure ?_))
  refine wpAny_bind (wpAny_of_eq (sliceIndices_raw lo hi st vs.toArray.size h0) ?_)
  have hsz : vs.toArray.size ≤ sizeLine := by simpa using hz
  exact wpAny_bind (wpAny_newObj_type (wpAny_pure ⟨_, rfl, wpAny_pure h⟩) (Nat.le_trans (slicePick_size_le vs.toArray lo hi st) hsz))

theorem p_getslice {x dx : Addr} {vs : List Value} {vl vu vk : Value} {lo hi st : Option Int} {value slice : Expr} {ops : List Value} (C : Acc B K) (H : St B cs s) (hm : (x, PileO dx vs) ∈ cs) (pl : IsPart vl lo) (pu : IsPart vu hi) (ps : IsPart vk st) (h0 : st ≠ some 0) (hz : vs.length ≤ sizeLine)
    (h : ∀ D s', St B ((D, LstO (slicePick vs.toArray lo hi st).toList) :: cs) s' → Q (.ref D) s')
    (hs : subscripted slice false (.ref x) (.ref s.heap.objs.size) = operate ops (getItem (.ref x) (.ref s.heap.objs.size))) (ht : ∀ o r, letTemporaryGo value o r = pure ()) :
    wpAny (model prog w) A (subscriptTail value slice (.ref x) (.ref s.heap.objs.size)) Q E { s with heap := s.heap.push (slObj vl vu vk) } := by
  have H1 := H.slice vl vu vk
  unfold subscriptTail
  refine wpAny_bind (wpAny_bind ((H1.psp C hm C.getI).here ?_))
  refine wpAny_pure (wpAny_bind ?_)
  rw [hs]
  refine wpAny_operating (p_getslice_at C H1 hm (Heap.IsSliceOf.new ..) pl pu ps h0 hz ?_)
  rw [ht]
  exact wpAny_bind (wpAny_pure (wpAny_pure (h _ _ (H1.push (P := LstO (slicePick vs.toArray lo hi st).toList) (t := s.toks) ⟨0, rfl⟩))))

set_option maxHeartbeats 4000000 in
theorem p_setslice {x dx l : Addr} {vs us : List Value} {vl vu : Value} {lo hi : Option Int} {Q : Unit → Shared → Prop} (C : Acc B K) (H : St B cs s) (U : Upd x (PileO dx vs) (PileO dx ((vs.toArray.extract 0 (sliceBounds lo hi none vs.length).1.toNat ++ us.toArray ++ vs.toArray.extract (max (sliceBounds lo hi none vs.length).1 (sliceBounds lo hi none vs.length).2.1).toNat vs.length).toList)) cs cs') (hl : (l, LstO us) ∈ cs)
    (pl : IsPart vl lo) (pu : IsPart vu hi) (hz : vs.length + us.length ≤ 1000)
    (h : ∀ s', St B cs' s' → Q () s') :
    wpAny (model prog w) A (setItem (.ref x) (.ref s.heap.objs.size) (.ref l)) Q E { s with heap := s.heap.push (slObj vl vu .none) } := by
  have H1 := H.slice vl vu .none
  obtain ⟨n, ho⟩ := H1.pile U.mem
  obtain ⟨o₁, hl1, n₁, rfl⟩ := H1.get hl
  have hne : x ≠ l := by
    intro e
    subst e
    rw [ho] at hl1; cases hl1
  have hs : (s.heap.push (slObj vl vu .none)).IsSliceOf s.heap.objs.size vl vu .none := Heap.IsSliceOf.new ..
  obtain ⟨os, hos, hcs, hds⟩ := id hs
  have hTs : ({ s with heap := s.heap.push (slObj vl vu .none) } : Shared).TypeIs (.ref s.heap.objs.size) "slice" := ⟨os, hos, hcs⟩
  have hTl : ({ s with heap := s.heap.push (slObj vl vu .none) } : Shared).TypeIs (.ref l) "list" := ⟨_, hl1, rfl⟩
  have big : 1000 ≤ sizeLine := by decide
  generalize hw : ({ s with heap := s.heap.push (slObj vl vu .none) } : Shared) = s1 at H1 ho hl1 hTs hTl ⊢
  have hw' : s1.heap = s.heap.push (slObj vl vu .none) := by rw [← hw]
  rw [← hw'] at hos
  unfold setItem
  refine wpAny_holding ?_
  refine wpAny_bind (p_seqKey C H1 U.mem ?_)
  refine wpAny_bind (p_special C H1 U.mem C.setI slot_list_setitem.bind ?_)
  refine p_entry C H1 U.mem (.inr kind_si) split_si plain_si entry_list_setitem (args_list_setitem _ _ _) ?_
  show wpAny _ _ (Builtin.List.listSubscript? (.ref s.heap.objs.size) >>= _) _ _ s1
  refine wpAny_bind ?_
  unfold Builtin.List.listSubscript?
  refine wpAny_bind (wpAny_specialOf hTs slice_no_index ?_)
  simp only [Option.isNone_none, if_true]
  refine wpAny_pure ?_
  show wpAny _ _ (typeOf (.ref s.heap.objs.size) >>= _) _ _ s1
  refine wpAny_bind (wpAny_typeOf hTs ?_)
  rw [if_neg (by decide)]
  rw [listSliceParts_eq]
  refine wpAny_bind (wpAny_bind (wpAny_field hos hds (x := .none) rfl (wpAny_bind (wpAny_listPart .none ?_))))
  rw [if_neg (by decide)]
  refine wpAny_bind (wpAny_field hos hds (x := vl) rfl (wpAny_bind (wpAny_listPart pl ?_)))
  refine wpAny_bind (wpAny_field hos hds (x := vu) rfl (wpAny_bind (wpAny_listPart pu (wpAny_pure ?_))))
  have hsr : Builtin.List.listSameRef (.ref x) (.ref l) = false := by
    show (x == l) = false
    simpa using hne
  rw [hsr]
  show wpAny _ _ (Builtin.List.listAllItems (.ref l) _ >>= _) _ _ s1
  refine wpAny_bind ?_
  unfold Builtin.List.listAllItems
  refine wpAny_bind (wpAny_typeOf hTl ?_)
  rw [if_pos (by decide)]
  unfold Builtin.List.listItems
  refine wpAny_bind (wpAny_seqItems hl1 rfl (wpAny_pure ?_))
  refine wpAny_bind (wpAny_bind (wpAny_seqItems ho rfl (wpAny_pure ?_)))
  refine wpAny_bind (wpAny_of_eq (sliceIndices_raw lo hi none vs.toArray.size (by simp)) ?_)
  show wpAny _ _ (if (1 : Int) == 1 then _ else _) _ _ s1
  rw [if_pos (by decide)]
  refine wpAny_bind (wpAny_rule ?_)
  have ht : Builtin.List.listTooLong (vs.toArray.size + us.toArray.size) = false := by
    unfold Builtin.List.listTooLong
    have e1 : vs.toArray.size = vs.length := by simp
    have e2 : us.toArray.size = us.length := by simp
    rw [e1, e2]
    exact decide_eq_false (by lia)
  rw [ht]
  obtain ⟨n', e⟩ := mapSeq_pile (fun xs => xs.extract 0 (sliceBounds lo hi none vs.length).1.toNat ++ us.toArray ++ xs.extract (max (sliceBounds lo hi none vs.length).1 (sliceBounds lo hi none vs.length).2.1).toNat xs.size) dx vs n
  have H2 := H1.upd (t := s1.toks) U (Heap.SameBut.update s1.heap x (Obj.mapSeq fun xs => xs.extract 0 (sliceBounds lo hi none vs.length).1.toNat ++ us.toArray ++ xs.extract (max (sliceBounds lo hi none vs.length).1 (sliceBounds lo hi none vs.length).2.1).toNat xs.size)) ⟨_, Heap.get?_update_self _ ho (by rw [e]; rfl), ⟨n', by rw [e]; simp [pileObj]⟩⟩
  have q := h _ H2
  have z1 : vs.toArray.size ≤ sizeLine := by simp; lia
  have z2 : (vs.toArray.extract 0 (sliceBounds lo hi none vs.length).1.toNat ++ us.toArray ++ vs.toArray.extract (max (sliceBounds lo hi none vs.length).1 (sliceBounds lo hi none vs.length).2.1).toNat vs.toArray.size).size ≤ sizeLine + 1 := by
    simp
    refine Nat.le_trans (Nat.add_le_add (Nat.min_le_right _ _) (Nat.add_le_add_left (Nat.sub_le _ _) _)) ?_
    have hb : 2001 ≤ sizeLine := by decide
    clear z1 pl pu hl1
    lia
  simp only [Bool.false_eq_true, if_false]
  refine wpAny_bind (wpAny_updateSeq ho rfl (f := fun xs => xs.extract 0 (sliceBounds lo hi none vs.length).1.toNat ++ us.toArray ++ xs.extract (max (sliceBounds lo hi none vs.length).1 (sliceBounds lo hi none vs.length).2.1).toNat xs.size) ?_ (hz := z1) (_hz' := z2))
  refine wpAny_bind (wpAny_letGo ?_)
  exact wpAny_pure ⟨_, rfl, wpAny_pure q⟩
end
end Mine
end
section
set_option maxRecDepth 100000
namespace Mine
open PySem PySem.Calls PyProof.Rows PySem.W PySem.SeqAt Builtin

theorem bounds_from (c n : Nat) (h : c ≤ n) : sliceBounds (some (c : Int)) none none n = ((c : Int), (n : Int), 1) := by
  unfold sliceBounds
  simp only [Option.getD_none, show (1 : Int) > 0 by decide, if_true]
  rw [if_neg (by lia)]
  simp; lia

section
variable {prog : Program} {w : World} {M : Model} {A : Around} {E : Value → Shared → Prop} {B s : Shared} {cs cs' : List Cel} {env : Env} {Q : Value → Shared → Prop} {K : Frag}

theorem noTemp {id : Str} {p : Pos} (o r : Value) : letTemporaryGo (.Name id p) o r = pure () := rfl

set_option maxHeartbeats 4000000 in
theorem spec_popF {x dx : Addr} {vs : List Value} {c : Nat} {t : Tok} {k : Nat} (C : Acc B K) (F : AccF B) (N : Names B) (ok : Ok A (k + 1)) (H : St B cs s)
    (U : Upd x (PileO dx vs) (PileO dx (vs.take c)) cs cs') (hz : vs.length ≤ 100) (hc : c ≤ vs.length)
    (h : ∀ D s', St B ((D, LstO (vs.drop c)) :: cs') s' → Q (.ref D) s') :
    wpAny (model prog w) A (call (.ref 70) [.ref x, .int c t]) Q E s := by
  obtain ⟨o63, t63, n63, hd1, hd2⟩ := F.d63
  refine call_fn (binds := [(Str.ofString "self", .ref x), (Str.ofString "i", .int c t)]) F.popF (fun _ _ _ => rfl) ok N H (fun _ _ _ => BindsTo.of_defaults rfl (H.keep _ _ hd1) hd2 rfl rfl) ?_
  intro L cd s1 E' ok1 H1
  have hsz : 1000 ≤ sizeLine := by decide
  refine wpAny_execs_cons ?_
  refine wpAny_Assign_Name ?_
  refine Subscript_ (n_local H1 (.head _) rfl ?_)
  refine e_slice (part_some (n_local H1 (.head _) rfl (part_none (part_none ?_))))
  refine p_getslice C H1 (.tail _ U.mem) (.int c t) .none .none (by simp) (by (exact Nat.le_trans (by assumption) (by decide))) (fun D s2 H2 => ?_) rfl noTemp
  rw [slicePick_from _ _ (by simpa using hc)] at H2
  refine s_local (m' := fun _ => none) H2 (.tail .head) fun s3 H3 => ?_
  refine wpAny_execs_cons ?_
  refine wpAny_Assign_Subscript ?_
  refine d_list (B := B) (wpAny_items_nil ⟨_, H3, by simp, fun D2 s4 H4 => ?_⟩)
  refine n_local H4 (by k_mem) rfl ?_
  refine e_slice (part_some (n_local H4 (by k_mem) rfl (part_none (part_none ?_))))
  have U2 : Upd x (PileO dx vs) (PileO dx ((vs.toArray.extract 0 (sliceBounds (some (c : Int)) none none vs.length).1.toNat ++ ([] : List Value).toArray ++ vs.toArray.extract (max (sliceBounds (some (c : Int)) none none vs.length).1 (sliceBounds (some (c : Int)) none none vs.length).2.1).toNat vs.length).toList)) cs cs' := by
    rw [bounds_from _ _ hc]
    have e : (vs.toArray.extract 0 (c : Int).toNat ++ ([] : List Value).toArray ++ vs.toArray.extract (max (c : Int) (vs.length : Int)).toNat vs.length).toList = vs.take c := by
      have e1 : (max (c : Int) (vs.length : Int)).toNat = vs.length := by lia
      rw [e1]; simp
    dsimp only
    rw [e]; exact U
  refine p_setslice (us := []) (lo := some (c : Int)) (hi := none) C H4 (.tail (.tail (.tail U2))) (.head _) (.int c t) .none (by simp; (exact Nat.le_trans (by assumption) (by decide))) fun s5 H5 => ?_
  refine wpAny_execs_cons ?_
  refine wpAny_Return_some (n_local H5 (by k_mem) rfl ?_)
  have h6 := (H5.drop 1).cut 1 1
  have e7 : (vs.toArray.toList.drop c).toArray.toList = vs.drop c := by simp
  have h7 : St B ((D, LstO (vs.toArray.toList.drop c).toArray.toList) :: cs') s5 := h6
  rw [e7] at h7
  exact h D s5 h7
end
end Mine
end
section
set_option maxRecDepth 100000
namespace Mine
open PySem PySem.Calls PyProof.Rows PySem.W PySem.SeqAt Builtin

noncomputable abbrev boundObj (BT id : String) (x : Addr) : Obj := { cls := .type BT, data := .fields #[.builtin id, .ref x] }

section
variable {prog : Program} {w : World} {M : Model} {A : Around} {E : Value → Shared → Prop} {B s : Shared} {cs cs' : List Cel} {env : Env} {Q : Value → Shared → Prop} {K : Frag}

theorem slot_md_get : Slot "method_descriptor" "__get__" "method_descriptor.__get__" := .of (owner := "method_descriptor") (n := "__get__") (by rw [typeLookup_type, builtinLookup_eq_fast]; kernel_rfl) (by decide +kernel) (by decide +kernel) (by decide +kernel)
  (by first | exact .inl (by decide +kernel) | exact .inr (by decide +kernel)) (by rw [isSubtype_type]; kernel_rfl)
theorem slot_wd_get : Slot "wrapper_descriptor" "__get__" "wrapper_descriptor.__get__" := .of (owner := "wrapper_descriptor") (n := "__get__") (by rw [typeLookup_type, builtinLookup_eq_fast]; kernel_rfl) (by decide +kernel) (by decide +kernel) (by decide +kernel)
  (by first | exact .inl (by decide +kernel) | exact .inr (by decide +kernel)) (by rw [isSubtype_type]; kernel_rfl)
theorem entry_md_get : entryFor table "method_descriptor.__get__" = some Builtin.«method_descriptor.__get__» := entryFor_of_tree (by kernel_rfl)
theorem entry_wd_get : entryFor table "wrapper_descriptor.__get__" = some Builtin.«wrapper_descriptor.__get__» := entryFor_of_tree (by kernel_rfl)
theorem args_md_get (a b c : Value) : argsOk "method_descriptor.__get__" ⟨[a, b, c], []⟩ := by unfold argsOk; kernel_rfl
theorem args_wd_get (a b c : Value) : argsOk "wrapper_descriptor.__get__" ⟨[a, b, c], []⟩ := by unfold argsOk; kernel_rfl

theorem get_pop {x : Addr} (hin : Looks (model prog w) s.heap (isInstance (.ref x) (.type "list")) true) (h : Q (.ref s.heap.objs.size) { s with heap := s.heap.push (boundObj "builtin_function_or_method" "list.pop" x) }) :
    wpAny (model prog w) A (call (.builtin "method_descriptor.__get__") [.builtin "list.pop", .ref x, .ref 118]) Q E s := by
  refine wpAny_call_entry slot_md_get (show typeOf (.builtin "list.pop") = pure (.type "method_descriptor") by show builtinType _ = _; rw [builtinType_eq_fast]; kernel_rfl) entry_md_get ?_ (args_md_get _ _ _)
  unfold Builtin.«method_descriptor.__get__»
  refine wpAny_bind (wpAny_of_eq (show _ = pure (Value.builtin "list.pop", some (Value.ref x), some (Value.ref 118)) from rfl) ?_)
  dsimp only
  rw [if_neg (by decide +kernel)]
  refine wpAny_bind (wpAny_bind (wpAny_of_eq (show _ = pure ((Str.ofString "pop" : Str), Value.type "list") from by kernel_rfl) ?_))
  refine wpAny_bind (hin.here ?_)
  rw [if_neg (by decide)]
  refine wpAny_pure (wpAny_bind ?_)
  unfold newFields
  exact wpAny_newObj_type (wpAny_pure ⟨_, rfl, h⟩) (by size_fits)
theorem get_len {x : Addr} (hin : Looks (model prog w) s.heap (isInstance (.ref x) (.type "list")) true) (h : Q (.ref s.heap.objs.size) { s with heap := s.heap.push (boundObj "method-wrapper" "list.__len__" x) }) :
    wpAny (model prog w) A (call (.builtin "wrapper_descriptor.__get__") [.builtin "list.__len__", .ref x, .ref 118]) Q E s := by
  refine wpAny_call_entry slot_wd_get (show typeOf (.builtin "list.__len__") = pure (.type "wrapper_descriptor") by show builtinType _ = _; rw [builtinType_eq_fast]; kernel_rfl) entry_wd_get ?_ (args_wd_get _ _ _)
  unfold Builtin.«wrapper_descriptor.__get__»
  refine wpAny_bind (wpAny_of_eq (show _ = pure (Value.builtin "list.__len__", some (Value.ref x), some (Value.ref 118)) from rfl) ?_)
  dsimp only
  refine wpAny_bind (wpAny_bind (wpAny_of_eq (show _ = pure ((Str.ofString "__len__" : Str), Value.type "list") from by kernel_rfl) ?_))
  refine wpAny_bind (hin.here ?_)
  rw [if_neg (by decide)]
  refine wpAny_pure (wpAny_bind ?_)
  unfold newFields
  exact wpAny_newObj_type (wpAny_pure ⟨_, rfl, h⟩) (by size_fits)
theorem get_init {x : Addr} (hin : Looks (model prog w) s.heap (isInstance (.ref x) (.type "list")) true) (h : Q (.ref s.heap.objs.size) { s with heap := s.heap.push (boundObj "method-wrapper" "list.__init__" x) }) :
    wpAny (model prog w) A (call (.builtin "wrapper_descriptor.__get__") [.builtin "list.__init__", .ref x, .ref 118]) Q E s := by
  refine wpAny_call_entry slot_wd_get (show typeOf (.builtin "list.__init__") = pure (.type "wrapper_descriptor") by show builtinType _ = _; rw [builtinType_eq_fast]; kernel_rfl) entry_wd_get ?_ (args_wd_get _ _ _)
  unfold Builtin.«wrapper_descriptor.__get__»
  refine wpAny_bind (wpAny_of_eq (show _ = pure (Value.builtin "list.__init__", some (Value.ref x), some (Value.ref 118)) from rfl) ?_)
  dsimp only
  refine wpAny_bind (wpAny_bind (wpAny_of_eq (show _ = pure ((Str.ofString "__init__" : Str), Value.type "list") from by kernel_rfl) ?_))
  refine wpAny_bind (hin.here ?_)
  rw [if_neg (by decide)]
  refine wpAny_pure (wpAny_bind ?_)
  unfold newFields
  exact wpAny_newObj_type (wpAny_pure ⟨_, rfl, h⟩) (by size_fits)

end
namespace SgD
noncomputable abbrev Xq := (Program) × (World) × (Around) × (Value → Shared → Prop) × (Frag) × (Addr) × (Addr) × (List Value) × (Str) × (Sem Bool) × (String) × (String) × (String) × (String) × (Array GenState) × (Drawn) × (Nat) × (OsState) × (Heap) × (Value × List Value → Shared → Prop) × (List Value)
noncomputable def Sq (prog : Program) (w : World) (A : Around) (E : Value → Shared → Prop) (K : Frag) (so : Addr) (x : Addr) (l : List Value) (name : Str) (pl : Sem Bool) (id : String) (T : String) (gid : String) (BT : String) (g : Array GenState) (d : Drawn) (t : Nat) (os : OsState) (h : Heap) (Q : Value × List Value → Shared → Prop) (l₀ : List Value) : Prop :=
  ∀ (hso : h.get? so = some (ks_superObj 118 x 118)) (hno : Looks (model prog w) h (opaqueClassAbove (.ref 118)) none) (hC : Looks (model prog w) h (mroOf (.ref 118)) l₀) (hl : (l₀.dropWhile (· != .ref 118)).drop 1 = l) (X : K.In h) (hf : alongIn K name l = some (some (.builtin id))) (hty : typeOf (.builtin id) = pure (.type T)) (hlk : typeLookup (.type T) "__get__" = pure (some (.builtin gid))) (hxC : x ≠ 118) (hn : (name == ("__class__" : Str)) = false) (hget : ∀ (A : Around) (t : Nat) (Q : Value → Shared → Prop) (E : Value → Shared → Prop), Q (.ref h.objs.size) ⟨h.push (boundObj BT id x), g, d, t, os⟩ → wpAny (model prog w) A (call (.builtin gid) [.builtin id, .ref x, .ref 118]) Q E ⟨h, g, d, t, os⟩) (hq : Q (.ref h.objs.size, []) ⟨h.push (boundObj BT id x), g, d, t + 1, os⟩),
    wpAny (model prog w) A (getMethod (.ref so) name pl) Q E ⟨h, g, d, t, os⟩
noncomputable def Tq (x : Xq) : Prop := Sq x.1 x.2.1 x.2.2.1 x.2.2.2.1 x.2.2.2.2.1 x.2.2.2.2.2.1 x.2.2.2.2.2.2.1 x.2.2.2.2.2.2.2.1 x.2.2.2.2.2.2.2.2.1 x.2.2.2.2.2.2.2.2.2.1 x.2.2.2.2.2.2.2.2.2.2.1 x.2.2.2.2.2.2.2.2.2.2.2.1 x.2.2.2.2.2.2.2.2.2.2.2.2.1 x.2.2.2.2.2.2.2.2.2.2.2.2.2.1 x.2.2.2.2.2.2.2.2.2.2.2.2.2.2.1 x.2.2.2.2.2.2.2.2.2.2.2.2.2.2.2.1 x.2.2.2.2.2.2.2.2.2.2.2.2.2.2.2.2.1 x.2.2.2.2.2.2.2.2.2.2.2.2.2.2.2.2.2.1 x.2.2.2.2.2.2.2.2.2.2.2.2.2.2.2.2.2.2.1 x.2.2.2.2.2.2.2.2.2.2.2.2.2.2.2.2.2.2.2.1 x.2.2.2.2.2.2.2.2.2.2.2.2.2.2.2.2.2.2.2.2
noncomputable def xq : Xq := @Classical.epsilon Xq ⟨⟨default, dumW, {}, fun _ _ => True, [], 0, 0, [], default, default, default, default, default, default, #[], {}, 0, {}, {}, fun _ _ => True, []⟩⟩ fun x => ¬ Tq x
noncomputable def prog : Program := xq.1
noncomputable def w : World := xq.2.1
noncomputable def A : Around := xq.2.2.1
noncomputable def E : Value → Shared → Prop := xq.2.2.2.1
noncomputable def K : Frag := xq.2.2.2.2.1
noncomputable def so : Addr := xq.2.2.2.2.2.1
noncomputable def x : Addr := xq.2.2.2.2.2.2.1
noncomputable def l : List Value := xq.2.2.2.2.2.2.2.1
noncomputable def name : Str := xq.2.2.2.2.2.2.2.2.1
noncomputable def pl : Sem Bool := xq.2.2.2.2.2.2.2.2.2.1
noncomputable def id : String := xq.2.2.2.2.2.2.2.2.2.2.1
noncomputable def T : String := xq.2.2.2.2.2.2.2.2.2.2.2.1
noncomputable def gid : String := xq.2.2.2.2.2.2.2.2.2.2.2.2.1
noncomputable def BT : String := xq.2.2.2.2.2.2.2.2.2.2.2.2.2.1
noncomputable def g : Array GenState := xq.2.2.2.2.2.2.2.2.2.2.2.2.2.2.1
noncomputable def d : Drawn := xq.2.2.2.2.2.2.2.2.2.2.2.2.2.2.2.1
noncomputable def t : Nat := xq.2.2.2.2.2.2.2.2.2.2.2.2.2.2.2.2.1
noncomputable def os : OsState := xq.2.2.2.2.2.2.2.2.2.2.2.2.2.2.2.2.2.1
noncomputable def h : Heap := xq.2.2.2.2.2.2.2.2.2.2.2.2.2.2.2.2.2.2.1
noncomputable def Q : Value × List Value → Shared → Prop := xq.2.2.2.2.2.2.2.2.2.2.2.2.2.2.2.2.2.2.2.1
noncomputable def l₀ : List Value := xq.2.2.2.2.2.2.2.2.2.2.2.2.2.2.2.2.2.2.2.2
set_option maxHeartbeats 4000000 in
theorem at_ : Sq prog w A E K so x l name pl id T gid BT g d t os h Q l₀ := by
  intro hso hno hC hl X hf hty hlk hxC hn hget hq
  have ga : ∀ (A : Around) (t tk : Nat) (Q : Fin → Shared → Prop) (E : Value → Shared → Prop), Q (.done (.ret (.ref h.objs.size))) ⟨h.push (boundObj BT id x), g, d, t, os⟩ →
      wpAny (model prog w) A (Builtin.«super.__getattribute__» ⟨[.ref so, .str name tk], []⟩) Q E ⟨h, g, d, t, os⟩ := by
    intro A t tk Q E hq
    have hne : (Value.ref x == Value.ref 118) = false := by simp [hxC]
    have hdt : (ks_superObj 118 x 118).data = .fields #[.ref 118, .ref x, .ref 118] := rfl
    have f0 : (#[.ref 118, .ref x, .ref 118] : Array Value)[0]? = some (.ref 118) := rfl
    have f1 : (#[.ref 118, .ref x, .ref 118] : Array Value)[1]? = some (.ref x) := rfl
    have f2 : (#[.ref 118, .ref x, .ref 118] : Array Value)[2]? = some (.ref 118) := rfl
    unfold Builtin.«super.__getattribute__»
    repeat (first
      | (with_reducible refine wpAny_field hso hdt f0 ?_) | (with_reducible refine wpAny_field hso hdt f1 ?_) | (with_reducible refine wpAny_field hso hdt f2 ?_)
      | (with_reducible refine ks_wpAny_notOpaque hno ?_)
      | (with_reducible refine Looks.at hC ?_; rw [hl])
      | (refine ks_forIn_along X (fun _ _ => rfl) rfl ?_ hf)
      | (with_reducible refine wpAny_of_eq hty ?_)
      | (with_reducible refine wpAny_of_eq hlk ?_)
      | (with_reducible refine hget _ _ _ _ ?_)
      | (simp only [hn, hne, Bool.or_false, Bool.false_eq_true, if_false])
      | wp_step
      | dsimp only)
    all_goals exact hq
  have hlk2 := F.ks_slot_super_ga.lookup
  have hcan := F.ks_canon_super_ga
  have hT : ∀ t', (⟨h, g, d, t', os⟩ : Shared).TypeIs (.ref so) "super" := fun _ => ⟨_, hso, rfl⟩
  unfold getMethod
  refine wpAny_bind (wpAny_specialOf (hT _) hlk2 ?_)
  show wpAny _ _ (if (Manifest.canonical "super.__getattribute__" != "object.__getattribute__") = true then _ else _) _ _ _
  rw [if_pos hcan]
  unfold getAttr getAttrBy
  refine wpAny_bind (wpAny_bind (wpAny_mkText (wpAny_holding (wpAny_bind (wpAny_typeOf (hT _) (wpAny_bind (wpAny_of_eq hlk2 ?_)))))))
  show wpAny _ _ (getAttrByItsOwn (.ref so) (.str name t) (.type "super") (.builtin "super.__getattribute__") true false) _ _ _
  unfold getAttrByItsOwn hookBefore callGetattribute boundAndCalled
  refine wpAny_bind (wpAny_of_eq (show (if onTheHeap (.type "super") then typeLookup (.type "super") "__getattr__" else pure none) = pure none from rfl) ?_)
  refine wpAny_bind (wpAny_attempt (wpAny_holding ?_))
  show wpAny _ _ (bindSpecial (.builtin "super.__getattribute__") (.ref so) >>= _) _ _ _
  refine wpAny_bind (wpAny_of_eq (F.ks_slot_super_ga.bind _) ?_)
  refine wpAny_mono (Q := fun v s' => v = .ref h.objs.size ∧ s' = ⟨h.push (boundObj BT id x), g, d, t + 1, os⟩) (E := fun _ _ => False)
    (wpAny_call_entry F.ks_slot_super_ga (hT _) F.ks_entry_super_ga (ga _ _ _ _ _ ⟨_, rfl, rfl, rfl⟩) (F.ks_gaArgs_super _ _)) (fun v s' hv => ?_) fun _ _ z => z.elim
  obtain ⟨rfl, rfl⟩ := hv
  exact wpAny_pure (wpAny_pure hq)
theorem all_ (x : Xq) : Tq x := Classical.byContradiction fun hn => Classical.epsilon_spec (p := fun x => ¬ Tq x) ⟨x, hn⟩ at_
end SgD
section
variable {prog : Program} {w : World} {M : Model} {A : Around} {E : Value → Shared → Prop} {B s : Shared} {cs cs' : List Cel} {env : Env} {Q : Value → Shared → Prop} {K : Frag}
theorem sup_getm {so x : Addr} {l : List Value} {name : Str} {pl : Sem Bool} {id T gid BT : String} {g : Array GenState} {d : Drawn} {t : Nat} {os : OsState} {h : Heap} {Q : Value × List Value → Shared → Prop} (hso : h.get? so = some (ks_superObj 118 x 118)) (hno : Looks (model prog w) h (opaqueClassAbove (.ref 118)) none) {l₀ : List Value} (hC : Looks (model prog w) h (mroOf (.ref 118)) l₀) (hl : (l₀.dropWhile (· != .ref 118)).drop 1 = l) (X : K.In h) (hf : alongIn K name l = some (some (.builtin id))) (hty : typeOf (.builtin id) = pure (.type T)) (hlk : typeLookup (.type T) "__get__" = pure (some (.builtin gid))) (hxC : x ≠ 118) (hn : (name == ("__class__" : Str)) = false) (hget : ∀ (A : Around) (t : Nat) (Q : Value → Shared → Prop) (E : Value → Shared → Prop), Q (.ref h.objs.size) ⟨h.push (boundObj BT id x), g, d, t, os⟩ → wpAny (model prog w) A (call (.builtin gid) [.builtin id, .ref x, .ref 118]) Q E ⟨h, g, d, t, os⟩) (hq : Q (.ref h.objs.size, []) ⟨h.push (boundObj BT id x), g, d, t + 1, os⟩) :
    wpAny (model prog w) A (getMethod (.ref so) name pl) Q E ⟨h, g, d, t, os⟩ :=
  SgD.all_ ⟨prog, w, A, E, K, so, x, l, name, pl, id, T, gid, BT, g, d, t, os, h, Q, l₀⟩ hso hno hC hl X hf hty hlk hxC hn hget hq

end
end Mine
end
section
set_option maxRecDepth 100000
namespace Mine
open PySem PySem.Calls PyProof.Rows PySem.W PySem.SeqAt Builtin

noncomputable def SupAt (prog : Program) (h : Heap) (a : Addr) (F : Value → Value → Value → FuncData) : Prop := ∃ o pm cda ct oc vs file tf, h.get? a = some o ∧ o.data = .func (F pm (.ref cda) ct) ∧ h.CodeRec (.ref cda) (F pm (.ref cda) ct).qualname ∧
  h.get? cda = some oc ∧ oc.data = .fields vs ∧ vs[2]? = some (.str file tf) ∧ ((prog.main.file : Str) == file) = true

noncomputable def SupC (prog : Program) (h : Heap) (f cda : Addr) (F : Value → Value → Value → FuncData) : Prop := ∃ o pm ct oc vs file tf, h.get? f = some o ∧ o.data = .func (F pm (.ref cda) ct) ∧ h.get? cda = some oc ∧ oc.data = .fields vs ∧ vs[2]? = some (.str file tf) ∧ ((prog.main.file : Str) == file) = true

structure AccS (prog : Program) (B : Shared) : Prop where
  init : SupAt prog B.heap 55 (fdOf (stIn 0) "_Accumulator.__init__" [("__class__", 42)] (.ref 47))
  pop : SupAt prog B.heap 78 (fdOf (stIn 3) "_Accumulator.pop" [("__class__", 42)] .none)
  pc : SupAt prog B.heap 115 (fdOf (stIn 8) "_Accumulator.part_count" [("__class__", 42)] .none)
  top : (prog.main.scope.names.lookup ("super" : Str)).isSome = false

section
variable {prog : Program} {w : World} {M : Model} {A : Around} {E : Value → Shared → Prop} {B s : Shared} {cs cs' : List Cel} {env : Env} {Q : Value → Shared → Prop} {K : Frag}

noncomputable abbrev envS (qual : Str) (scope : Scope) (L a cda : Addr) : Env := envX qual scope L a (.ref cda) [("__class__", 42)]

theorem call_fnS {a : Addr} {F : Value → Value → Value → FuncData} {name qual : Str} {params : Arguments} {body : List Stmt} {scope : Scope} {dV : Value} {args : List Value} {binds : List (Str × Value)} {k : Nat}
    (hF : SupAt prog B.heap a F) (hfd : ∀ pm cd ct, F pm cd ct = fnX name qual params body scope [("__class__", 42)] dV .none .none pm none cd ct) (ok : Ok A (k + 1)) (N : Names B) (H : St B cs s)
    (hbind : ∀ pm cd ct, BindsTo s (fnX name qual params body scope [("__class__", 42)] dV .none .none pm none cd ct) ⟨args, []⟩ binds)
    (h : ∀ L cda s1 E', SupC prog B.heap a cda (fun pm cd ct => fnX name qual params body scope [("__class__", 42)] dV .none .none pm none cd ct) → Ok (A.deeper (envS qual scope L a cda)) k → St B ((L, NsO fun x => binds.reverse.lookup x) :: cs) s1 →
      _root_.PySem.wpAt (model prog w) (A.deeper (envS qual scope L a cda)) (.func body (envS qual scope L a cda)) (execs body (envS qual scope L a cda)) (fun f s' => Q (match f with | .ret v => v | _ => .none) s') E' s1)
    (hloc : ∀ x ∈ binds, scope.names.lookup x.1 = some .local := by exact locs rfl)
    (hcell : ∀ x ∈ scope.names, x.2 ≠ .cell := by decide)
    (hco : scope.isCoroutine = false := by rfl) (hgen : scope.isGenerator = false := by rfl) (hk : scope.kind = .function := by rfl) :
    wpAny (model prog w) A (call (.ref a) args) Q E s := by
  obtain ⟨o, pm, cda, ct, oc, vs, file, tf, ho, hd, hc, hr⟩ := hF
  rw [hfd] at hd hc
  refine wpAny_call (ks_codeAny_call_defAt ok.room (H.keep _ _ ho) hd (N.lim.keeps H.keep) (hc.keeps H.keep) rfl (hbind pm _ ct) hcell hloc (fun h₀ hn hk' => ?_) hco hgen hk)
  exact h _ cda _ _ ⟨o, pm, ct, oc, vs, file, tf, ho, hd, hr⟩ (ok.deeper _) (H.new (t := s.toks + binds.length) hk' (nsO hn))

theorem sup_base {f L cda x dx : Addr} {qual : Str} {scope : Scope} {body : List Stmt} {p0 p1 : Pos} {attr : Str} {whole : Sem Value} {m : Str → Option Value} {vs : List Value}
    {name : Str} {params : Arguments} {dV : Value} {ar : Arg}
    (C : Acc B K) (AF : AccF B) (N : Names B) (ht : (prog.main.scope.names.lookup ("super" : Str)).isSome = false) (H : St B cs s) (hx : (x, PileO dx vs) ∈ cs) (hm : (L, NsO m) ∈ cs) (hv : m ar.arg = some (.ref x))
    (hF : SupC prog B.heap f cda (fun pm cd ct => fnX name qual params body scope [("__class__", 42)] dV .none .none pm none cd ct))
    (har : (params.posonlyargs ++ params.args).head? = some ar)
    (hat : (attr == ("__class__" : Str)) = false) (hks : scope.names.lookup ("super" : Str) = some .globalImplicit) (hkc : scope.names.lookup ("__class__" : Str) = some .free) (hka : scope.names.lookup ar.arg = some .local) (hk : scope.kind = .function)
    (h : ∀ so s', St B ((so, IsO (ks_superObj 118 x 118)) :: cs) s' → Q (.ref so) s') :
    _root_.PySem.wpAt (model prog w) A (.func body (envS qual scope L f cda)) (attributeBase (.Call (.Name "super" p0) [] [] p1) attr (envS qual scope L f cda) whole) Q E s := by
  obtain ⟨o, pm, ct, oc, vsc, file, tf, ho, hd, hoc, hocd, hvs, hfile⟩ := hF
  obtain ⟨cd, hcd, hmro, hne, _⟩ := C.cls
  obtain ⟨oD, hD1, hD2⟩ : ∃ oD, s.heap.get? 118 = some oD ∧ oD.data = .cls cd := by
    unfold clsIn at hcd
    split at hcd
    · rename_i c d cd' sl ho
      cases hcd
      exact ⟨_, (H.k C) _ _ ho, rfl⟩
    · cases hcd
  obtain ⟨mg, g, e⟩ := N.gl
  obtain ⟨mb, b, e2⟩ := N.bi
  have e1 := e.2.2.2.2.2.2.2.2.2.2.2.2.2.2.2.2.2.2 "super" (by decide)
  obtain ⟨n, hob⟩ := H.pile hx
  refine ks_wpAt_super_base (env := envS qual scope L f cda) hks hkc hat rfl (H.keep _ _ ho) hd har rfl (H.keep _ _ hoc) hocd hvs hfile ht ?_
  refine ks_loadName_global hk hks (loadGlobal_builtin (env := envS qual scope L f cda) (g.keeps H.keep) e1 (b.keeps H.keep) (e2 "super" (by decide)) ⟨rfl, ?_⟩)
  refine wpAny_loadName_free hk hkc rfl (AF.cell.keeps H.keep) ?_
  refine wpAny_loadName_local hk hka (H.ns hm) hv ?_
  obtain ⟨hp, gg, d, t, os⟩ := s
  refine ks_wpAny_isType_cls hD1 hD2 ⟨rfl, ?_⟩
  refine ks_wpAny_call_super hD1 hD2 hob rfl (fun c e => by cases e) (looks_mroIn (H.k C) C.self) (fun h' e k => ?_)
  exact h _ _ (H.new (t := t) (h' := h') k ⟨_, e, rfl⟩)

theorem st_super (C : Acc B K) (H : St B cs s) {so x dx : Addr} {vs : List Value} {name : Str} {pl : Sem Bool} {id T gid BT : String} {Q : Value × List Value → Shared → Prop}
    (hso : (so, IsO (ks_superObj 118 x 118)) ∈ cs) (hx : (x, PileO dx vs) ∈ cs)
    (hf : alongIn K name [.type "list", .type "object"] = some (some (.builtin id))) (hty : typeOf (.builtin id) = pure (.type T)) (hlk : typeLookup (.type T) "__get__" = pure (some (.builtin gid))) (hn : (name == ("__class__" : Str)) = false)
    (hget : ∀ (s : Shared) (A : Around) (Q : Value → Shared → Prop) (E : Value → Shared → Prop), Looks (model prog w) s.heap (isInstance (.ref x) (.type "list")) true → Q (.ref s.heap.objs.size) { s with heap := s.heap.push (boundObj BT id x) } → wpAny (model prog w) A (call (.builtin gid) [.builtin id, .ref x, .ref 118]) Q E s)
    (h : ∀ q s', St B ((q, IsO (boundObj BT id x)) :: cs) s' → Q (.ref q, []) s') : wpAny (model prog w) A (getMethod (.ref so) name pl) Q E s := by
  obtain ⟨cd, hcd, hmro, hne, _⟩ := C.cls
  have hxC : x ≠ 118 := by
    rintro rfl
    obtain ⟨n, e⟩ := H.pile hx
    unfold clsIn at hcd
    split at hcd
    · rename_i c d cd' sl ho
      rw [(H.k C) _ _ ho] at e; cases e
    · cases hcd
  have hno := looks_opaque (M := model prog w) (C := 118) (H.k C) C.noThird
  have hC : Looks (model prog w) s.heap (mroOf (.ref 118)) cd.mro := (looks_clsIn (H.k C) hcd).andThen .now
  have hin := H.pin (M := model prog w) C hx
  have hk := H.k C
  have h1 := H.is hso
  have q := h _ _ (H.push (P := IsO (boundObj BT id x)) (o := boundObj BT id x) (t := s.toks + 1) rfl)
  obtain ⟨hp, g, d, t, os⟩ := s
  exact sup_getm (BT := BT) (l₀ := cd.mro) h1 hno hC hmro hk hf hty hlk hxC hn (fun A t Q E hq => hget ⟨hp, g, d, t, os⟩ A Q E hin hq) q

theorem cb_slot {id : String} {x : Addr} {rest : List Value} {Q : Unit → Shared → Prop} (hk : builtinKind id = some .slot) (ha : argsOk id ⟨.ref x :: rest, []⟩) (h : Q () s) : wpAny M A (checkBoundCall id ⟨.ref x :: rest, []⟩) Q E s := by
  unfold checkBoundCall
  cases hsig : Manifest.signature? id with
  | none => exact wpAny_pure h
  | some sig =>
    simp only [hk]
    simp only [argsOk, hsig] at ha
    have h2 : Bind.checkArgs id sig ⟨.ref x :: rest, []⟩ = pure () := ha
    show wpAny M A (if (Manifest.AttrKind.slot != .method && Manifest.AttrKind.slot != .classMethod) = true then _ else _) Q E s
    rw [if_pos (by decide), h2]; exact wpAny_pure h

theorem call_bound {q x : Addr} {BT id : String} {Bi : Builtin} {pos : Pos} (hq : s.heap.get? q = some (boundObj BT id x)) (hBT : BT = "builtin_function_or_method" ∨ BT = "method-wrapper")
    (hck : ∀ (Q : Unit → Shared → Prop) (E : Value → Shared → Prop) (A : Around), Q () s → wpAny (model prog w) A (checkBoundCall id ⟨[.ref x], []⟩) Q E s) (hp : plainId id = true) (hb : entryFor table id = some Bi)
    (h : wpAny (model prog w) A.in1 (Bi ⟨[.ref x], []⟩) (fun fin s' => ∃ v, fin = .done (.ret v) ∧ Q v s') E s) :
    wpAny (model prog w) A (callWith pos (.ref q) [] [] []) Q E s := by
  have g : wpAny (model prog w) A.in1 (Bi ⟨[.ref x], []⟩) (fun fin s' => match fin with | .done f => wants Q E (.ok f) s' | .again c' => c'.quiet = true ∧ codeAny (model prog w) A c' (wants Q E) s') (fun e s' => wants Q E (.error e) s') s :=
    wpAny_mono h (fun fin s' h' => by obtain ⟨v, rfl, q⟩ := h'; exact q) fun _ _ q => q
  unfold callWith
  refine wpAny_bind (wpAny_holding (PySem.evalArgs_none (wpAny_bind (wpAny_standAt ?_))))
  refine wpAny_bind (m := keeperOf (.ref q)) ?_
  unfold keeperOf
  refine wpAny_bind (wpAny_load hq ?_)
  have hk : (match (boundObj BT id x).data with
    | .func _ => pure Keeper.frame
    | .cls _ => do return if (← specialOf (.ref q) "__call__") == some (.builtin "type.__call__") then .machine else .caller
    | .fields vs => do
      if (boundObj BT id x).cls != .type "method" then
        return if (boundObj BT id x).cls == .type "builtin_function_or_method" || (boundObj BT id x).cls == .type "method-wrapper" then .machine else .caller
      let .ref g := vs.getD 0 .none | return .machine
      return match (← load g).data with | .func _ => .boundFrame | _ => .caller
    | _ => pure .caller : Sem Keeper) = pure .machine := by
    rcases hBT with rfl | rfl <;> rfl
  refine wpAny_of_eq hk ?_
  refine wpAny_bind (wpAny_mono (wpAny_call (codeAny_of_tree ?_)) (fun r s₂ hr => wpAny_bind (wpAny_holding (wpAny_point (wpAny_pure hr)))) fun _ _ x => x)
  show wpAny _ A.in1 (callAny (.ref q) _) _ _ _
  unfold callAny
  refine wpAny_bind (wpAny_load hq ?_)
  have fin : wpAny (model prog w) A.in1 (do checkBoundCall id ⟨[.ref x], []⟩; again (.builtin id ⟨[.ref x], []⟩)) (fun fin s' => match fin with | .done f => wants Q E (.ok f) s' | .again c' => c'.quiet = true ∧ codeAny (model prog w) A c' (wants Q E) s') (fun e s' => wants Q E (.error e) s') s := by
    refine wpAny_bind (hck _ _ _ (wpAny_pure ⟨plainId_quiet hp _, codeAny_builtin hb ?_⟩))
    rw [Around.under_plainId hp _]
    exact g
  rcases hBT with rfl | rfl <;> exact fin
end
end Mine
end
section
set_option maxRecDepth 100000
namespace Mine
open PySem PySem.Calls PyProof.Rows PySem.W PySem.SeqAt Builtin

section
variable {prog : Program} {w : World} {M : Model} {A : Around} {E : Value → Shared → Prop} {B s : Shared} {cs cs' : List Cel} {env : Env} {Q : Value → Shared → Prop} {K : Frag}

theorem kind_ln : builtinKind "list.__len__" = some .slot := by rw [builtinKind]; decide +kernel
theorem kind_pop : builtinKind "list.pop" = some .method := by rw [builtinKind]; decide +kernel
theorem plain_ln : plainId "list.__len__" = true := by decide +kernel
theorem plain_pop : plainId "list.pop" = true := by decide +kernel
theorem ty_ln : typeOf (.builtin "list.__len__") = pure (.type "wrapper_descriptor") := by show builtinType _ = _; rw [builtinType_eq_fast]; kernel_rfl
theorem ty_pop : typeOf (.builtin "list.pop") = pure (.type "method_descriptor") := by show builtinType _ = _; rw [builtinType_eq_fast]; kernel_rfl

theorem body_len {x dx : Addr} {vs : List Value} (H : St B cs s) (hx : (x, PileO dx vs) ∈ cs) (h : ∀ t s', St B cs s' → Q (.int vs.length t) s') :
    wpAny (model prog w) A (Builtin.«list.__len__» ⟨[.ref x], []⟩) (fun fin s' => ∃ v, fin = .done (.ret v) ∧ Q v s') E s := by
  obtain ⟨n, hl⟩ := H.pile hx
  have q := h s.toks _ (H.tok (s.toks + 1))
  have e : (vs.length : Int) = ((vs.toArray.size : Nat) : Int) := by simp
  rw [e] at q
  obtain ⟨hp, g, d, tk, os⟩ := s
  unfold Builtin.«list.__len__»
  wp_walk using wpAny_loadPart' hl
  exact ⟨_, rfl, q⟩

theorem body_pop {x dx : Addr} {vs : List Value} {v : Value} (H : St B cs s) (U : Upd x (PileO dx (vs ++ [v])) (PileO dx vs) cs cs') (hz : vs.length ≤ 100) (h : ∀ s', St B cs' s' → Q v s') :
    wpAny (model prog w) A (Builtin.«list.pop» ⟨[.ref x], []⟩) (fun fin s' => ∃ v, fin = .done (.ret v) ∧ Q v s') E s := by
  obtain ⟨n, hl⟩ := H.pile U.mem
  have big : 1000 ≤ sizeLine := by decide
  have hsz : (vs ++ [v]).toArray.size = vs.length + 1 := by simp
  have hne : ¬ (vs ++ [v]).toArray.isEmpty = true := by simp
  have hk : seqIndex? (-1) (vs ++ [v]).toArray.size = some vs.length := by
    rw [MeetsSeq.seqIndex_neg (by (exact Int.natCast_nonneg _)) (by rw [hsz]; (clear hsz; lia))]; congr 1; rw [hsz]; lia
  have hy : (vs ++ [v]).toArray[vs.length]? = some v := by simp
  obtain ⟨n', e⟩ := mapSeq_pile (fun xs => xs.eraseIdxIfInBounds vs.length) dx (vs ++ [v]) n
  have er : (vs ++ [v]).toArray.eraseIdxIfInBounds vs.length = vs.toArray := by
    apply Array.ext'; simp [List.eraseIdx_append_of_length_le]
  rw [er] at e
  have q := h _ (H.upd (t := s.toks) U (Heap.SameBut.update s.heap x (Obj.mapSeq fun xs => xs.eraseIdxIfInBounds vs.length)) ⟨_, Heap.get?_update_self _ hl (by rw [e]; rfl), ⟨n', by rw [e]⟩⟩)
  have z1 : (vs ++ [v]).toArray.size ≤ sizeLine := by rw [hsz]; (exact Nat.lt_of_le_of_lt (by assumption) (by decide))
  have z2 : ((vs ++ [v]).toArray.eraseIdxIfInBounds vs.length).size ≤ sizeLine + 1 := by rw [er]; simp; (exact Nat.le_trans (by assumption) (by decide))
  obtain ⟨hp, g, d, tk, os⟩ := s
  unfold Builtin.«list.pop»
  wp_walk using wpAny_loadPart' hl
  simp only [hk, hy, Option.bind_some, Option.map_some]
  wp_walk using (wpAny_updateSeq hl rfl (hz := z1) (_hz' := z2)), wpAny_loadPart' hl
  exact ⟨_, rfl, q⟩

set_option maxHeartbeats 4000000 in
theorem spec_pc {x dx : Addr} {vs : List Value} {k : Nat} (C : Acc B K) (AF : AccF B) (AS : AccS prog B) (N : Names B) (ok : Ok A (k + 1)) (H : St B cs s) (hx : (x, PileO dx vs) ∈ cs)
    (h : ∀ t s', St B cs s' → Q (.int vs.length t) s') : wpAny (model prog w) A (call (.ref 115) [.ref x]) Q E s := by
  refine call_fnS (binds := [(Str.ofString "self", .ref x)]) AS.pc (fun _ _ _ => rfl) ok N H (fun _ _ _ => BindsTo.of_eq rfl) ?_
  intro L cda s1 E' hc ok1 H1
  refine ks_wpAt_execs_cons (ks_wpAt_Return_some (ks_wpAt_MethodCall ?_))
  refine sup_base C AF N AS.top H1 (.tail _ hx) (.head _) rfl hc rfl rfl rfl rfl rfl rfl fun so s2 H2 => ?_
  refine st_super C H2 (.head _) (.tail _ (.tail _ hx)) C.supLen ty_ln slot_wd_get.lookup rfl (fun s A Q E hin hq => get_len hin hq) fun q s3 H3 => ?_
  refine call_bound (H3.is (.head _)) (.inr rfl) (fun Q E A hq => cb_slot kind_ln (args_list_len _) hq) plain_ln entry_list_len ?_
  exact body_len H3 (.tail _ (.tail _ (.tail _ hx))) fun t s4 H4 => h t s4 (H4.drop 3)
end
end Mine
end
section
set_option maxRecDepth 100000
namespace Mine
open PySem PySem.Calls PyProof.Rows PySem.W PySem.SeqAt Builtin

section
variable {prog : Program} {w : World} {M : Model} {A : Around} {E : Value → Shared → Prop} {B s : Shared} {cs cs' : List Cel} {env : Env} {Q : Value → Shared → Prop} {K : Frag}

theorem ca_pop (a : Value) : (match Manifest.signature? "list.pop" with | some sig => Bind.checkArgs "list.pop" { sig with full := toString (Str.ofString "_Accumulator").toString ++ toString "." ++ toString (Bind.lastOf "list.pop") } ⟨[a], []⟩ | none => pure ()) = pure () := by
  rw [_root_.PySem.signature?_of (id := "list.pop") (n := ['p', 'o', 'p']) (o := ['t', 's', 'i', 'l']) (by kernel_rfl) PySem.F.owner_list]; kernel_rfl

theorem cb_pop {x dx : Addr} {vs : List Value} {Q : Unit → Shared → Prop} (C : Acc B K) (H : St B cs s) (hx : (x, PileO dx vs) ∈ cs) (h : Q () s) : wpAny M A (checkBoundCall "list.pop" ⟨[.ref x], []⟩) Q E s := by
  have hc := ca_pop (.ref x)
  obtain ⟨cd, hcd, _, _, hqn, _⟩ := C.cls
  obtain ⟨n, hob⟩ := H.pile hx
  have g1 : Looks M s.heap (isInstance (.ref x) (.type "module")) false := (H.pty hx).andThen (looks_mroIn (H.k C) C.notMod)
  have g2 := looks_clsIn (M := M) (H.k C) hcd
  have g3 := looks_typeIn (M := M) (H.k C) C.ctyp
  have g4 := H.pty (M := M) hx
  unfold checkBoundCall
  cases hsig : Manifest.signature? "list.pop" with
  | none => exact wpAny_pure h
  | some sig =>
    rw [hsig] at hc
    simp only [kind_pop]
    show wpAny M A (if (Manifest.AttrKind.method != .method && Manifest.AttrKind.method != .classMethod) = true then _ else _) Q E s
    rw [if_neg (by decide)]
    refine wpAny_bind (g1.here ?_)
    rw [if_neg (by decide +kernel)]
    obtain ⟨hp, g, d, t, os⟩ := s
    refine wpAny_bind (ks_wpAny_isType_inst hob (fun c e => by cases e) ?_)
    rw [if_neg (by decide)]
    refine wpAny_bind (g4.here ?_)
    refine wpAny_bind (g2.here ?_)
    refine wpAny_bind (g3.here ?_)
    rw [if_pos (by decide), hqn]
    exact wpAny_of_eq hc h
end
end Mine
end
section
set_option maxRecDepth 100000
namespace Mine
open PySem PySem.Calls PyProof.Rows PySem.W PySem.SeqAt Builtin

section
variable {prog : Program} {w : World} {M : Model} {A : Around} {E : Value → Shared → Prop} {B s : Shared} {cs cs' : List Cel} {env : Env} {Q : Value → Shared → Prop} {K : Frag}

theorem fn_ty (C : Acc B K) {f : Addr} (h : f ∈ [55, 62, 70, 78, 85, 115]) : typeIn K (.ref f) = some (.type "function") := C.fns f h
theorem pc_fn {prog : Program} {h : Heap} {a : Addr} {F} (x : SupAt prog h a F) : FnAt h a F := by
  obtain ⟨o, pm, cda, ct, oc, vs, file, tf, ho, hd, hc, hr⟩ := x
  exact ⟨o, pm, _, ct, ho, hd, hc⟩

set_option maxHeartbeats 4000000 in
theorem spec_pop {x dx : Addr} {vs : List Value} {v : Value} {m : Str → Option Value} {k : Nat} (C : Acc B K) (AF : AccF B) (AS : AccS prog B) (N : Names B) (ok : Ok A (k + 2)) (H : St B cs s)
    (U : Upd x (PileO dx (vs ++ [v])) (PileO dx vs) cs cs') (hd : (dx, NsO m) ∈ cs) (hm : m "part_count" = none) (hz : vs.length ≤ 100)
    (h : ∀ s', St B cs' s' → Q v s') : wpAny (model prog w) A (call (.ref 78) [.ref x]) Q E s := by
  refine call_fnS (binds := [(Str.ofString "self", .ref x)]) AS.pop (fun _ _ _ => rfl) ok N H (fun _ _ _ => BindsTo.of_eq rfl) ?_
  intro L cda s1 E' hc ok1 H1
  refine ks_wpAt_execs_cons (ks_wpAt_If (_root_.PySem.wpAt_of_wpAny ?_))
  refine tr_int ?_
  refine p_call0 C C.pc (fn_ty C (by decide)) (.inl rfl) (n_local H1 (.head _) rfl ⟨_, x, dx, _, m, rfl, H1, .tail _ U.mem, .tail _ hd, hm, ?_⟩) rfl
  refine cw_fnM0 (pc_fn AS.pc) H1 ?_
  refine spec_pc (k := k) C AF AS N ok1 H1 (.tail _ U.mem) fun t s2 H2 => ?_
  refine c_int H2 fun t2 s3 H3 => PyProof.Rows.eq_int (wpAny_truthy_bool ?_)
  have e0 : (((vs ++ [v]).length : Int) == 0) = false := by simp; lia
  rw [e0, if_neg (by decide)]
  refine _root_.PySem.wpAt_of_wpAny (wpAny_execs_nil ?_)
  refine ks_wpAt_execs_cons (ks_wpAt_Return_some (ks_wpAt_MethodCall ?_))
  refine sup_base C AF N AS.top H3 (.tail _ U.mem) (.head _) rfl hc rfl rfl rfl rfl rfl rfl fun so s4 H4 => ?_
  refine st_super C H4 (.head _) (.tail _ (.tail _ U.mem)) C.supPop ty_pop slot_md_get.lookup rfl (fun s A Q E hin hq => get_pop hin hq) fun q s5 H5 => ?_
  refine call_bound (H5.is (.head _)) (.inl rfl) (fun Q E A hq => ?_) plain_pop PySem.F.entry_list_pop ?_
  · exact cb_pop C H5 (.tail _ (.tail _ (.tail _ U.mem))) hq
  · exact body_pop H5 (.tail (.tail (.tail U))) hz fun s6 H6 => h s6 (H6.drop 3)

set_option maxHeartbeats 4000000 in
theorem spec_pop0 {x dx : Addr} {m : Str → Option Value} {k : Nat} (C : Acc B K) (AF : AccF B) (AS : AccS prog B) (N : Names B) (ok : Ok A (k + 2)) (H : St B cs s)
    (hx : (x, PileO dx []) ∈ cs) (hd : (dx, NsO m) ∈ cs) (hm : m "part_count" = none)
    (h : ∀ a s', St B ((a, TxtO (Str.ofString "", Str.ofString "")) :: cs) s' → Q (.ref a) s') : wpAny (model prog w) A (call (.ref 78) [.ref x]) Q E s := by
  refine call_fnS (binds := [(Str.ofString "self", .ref x)]) AS.pop (fun _ _ _ => rfl) ok N H (fun _ _ _ => BindsTo.of_eq rfl) ?_
  intro L cda s1 E' hc ok1 H1
  refine ks_wpAt_execs_cons (ks_wpAt_If (_root_.PySem.wpAt_of_wpAny ?_))
  refine tr_int ?_
  refine p_call0 C C.pc (fn_ty C (by decide)) (.inl rfl) (n_local H1 (.head _) rfl ⟨_, x, dx, _, m, rfl, H1, .tail _ hx, .tail _ hd, hm, ?_⟩) rfl
  refine cw_fnM0 (pc_fn AS.pc) H1 ?_
  refine spec_pc (k := k) C AF AS N ok1 H1 (.tail _ hx) fun t s2 H2 => ?_
  refine c_int H2 fun t2 s3 H3 => PyProof.Rows.eq_int (wpAny_truthy_bool ?_)
  rw [show (((([] : List Value).length : Nat) : Int) == 0) = true from rfl, if_pos rfl]
  refine _root_.PySem.wpAt_of_wpAny (wpAny_execs_cons (wpAny_Return_some ?_))
  refine d_tup (B := B) ?_
  refine wpAny_items_cons (c_str H3 fun t4 s4 H4 => wpAny_items_cons (c_str H4 fun t5 s5 H5 => wpAny_items_nil ?_))
  refine ⟨_, H5, by exact Nat.le_trans (show 2 ≤ 100 by (exact Nat.le_add_left _ _)) (show 100 ≤ sizeLine by decide), fun D s6 H6 => ?_⟩
  have H7 := (H6.weak (P' := TxtO (Str.ofString "", Str.ofString "")) .head (fun o ho => by obtain ⟨n, rfl⟩ := ho; exact ⟨t4, t5, n, rfl⟩)).cut 1 1
  exact h D s6 H7
end
end Mine
end
section
set_option maxRecDepth 100000
namespace Mine
open PySem PySem.Calls PyProof.Rows PySem.W PySem.SeqAt Builtin

structure MakesL (M : Model) (h : Heap) : Prop where
  obj : ∃ oc od cd sl, h.get? 118 = some ⟨oc, od, .cls cd, sl⟩ ∧ cd.abstract = false ∧ cd.hasDel = false ∧ cd.mro.isEmpty = false
  made : Looks M h (Bind.madeBy (.ref 118)) (some "list.__new__")
  base : Looks M h (Bind.staticBase (.ref 118)) (.ref 118)
  self : Looks M h (isSubtype (.ref 118) (.ref 118)) true
  top : Looks M h (isSubtype (.ref 118) (.type "list")) true
  call : Looks M h (specialOf (.ref 118) "__call__") (some (.builtin "type.__call__"))
  typ : Looks M h (isInstance (.ref 118) (.type "type")) true

theorem makesL_of {B : Shared} {K : Frag} (C : Acc B K) {M : Model} {h : Heap} (X : K.In h) : MakesL M h := by
  obtain ⟨oc, od, cd, sl, ho, e1, e2, e3, e4⟩ := C.newd
  have hc : clsIn K 118 = some cd := by unfold clsIn; rw [ho]
  have hm : Looks M h (mroOf (.ref 118)) cd.mro := (looks_clsIn X hc).andThen .now
  obtain ⟨c, l, hl⟩ : ∃ c l, cd.mro = c :: l := by cases q : cd.mro with | nil => rw [q] at e4; cases e4 | cons c l => exact ⟨c, l, rfl⟩
  have hself : mroIn K 118 (.ref 118) = some true := C.self
  have made : Looks M h (Bind.madeBy (.ref 118)) (some "list.__new__") := by
    intro A Q E s k q
    unfold Bind.madeBy
    refine wpAny_bind (hm A _ E s k ?_)
    rw [hl, List.forIn_cons]
    refine wpAny_bind (wpAny_bind (wpAny_bind (wpAny_bind (wpAny_loadPart (k _ _ (X _ _ ho)) (wpAny_pure ?_)))))
    dsimp only
    rw [← Array.getElem?_toList, e3]
    exact wpAny_pure (wpAny_pure (wpAny_pure q))
  refine ⟨⟨oc, od, cd, sl, X _ _ ho, e1, e2, e4⟩, made, ?_, looks_mroIn X hself, looks_mroIn X C.lst, looks_specialIn X C.ccall, looks_instIn X C.cinst⟩
  intro A Q E s k q
  unfold Bind.staticBase
  refine wpAny_bind (hm A _ E s k ?_)
  rw [hl, List.forIn_cons]
  exact wpAny_bind (wpAny_bind (wpAny_bind (made A _ E s k (wpAny_pure (wpAny_pure (wpAny_pure q))))))

section
variable {prog : Program} {w : World} {A : Around} {R : Result → Shared → Prop} {h : Heap} {g : Array GenState} {d : Drawn} {t : Nat} {os : OsState}

theorem kind_new : builtinKind "list.__new__" = some .builtinFn := by rw [builtinKind]; decide +kernel
theorem split_new : splitId "list.__new__" = some ("list", "__new__") := by decide +kernel

theorem args_new (v : Value) : argsOk "list.__new__" ⟨[.ref 118, v], []⟩ := by unfold argsOk; kernel_rfl
noncomputable abbrev pile0 (dx : Addr) : Obj := { cls := .ref 118, dict := some dx, data := .seq #[] }

end
namespace NlD
noncomputable abbrev Xq := (Program) × (World) × (Around) × (Result → Shared → Prop) × (Heap) × (Array GenState) × (Drawn) × (Nat) × (OsState) × (Value)
noncomputable def Sq (prog : Program) (w : World) (A : Around) (R : Result → Shared → Prop) (h : Heap) (g : Array GenState) (d : Drawn) (t : Nat) (os : OsState) (v : Value) : Prop :=
  ∀ (Y : MakesL (model prog w) h) (hq : R (.ok (.ret (.ref (h.objs.size + 1)))) ⟨(h.push emptyDict).push (pile0 h.objs.size), g, d, t, os⟩),
    codeAny (model prog w) A (.call (.builtin "list.__new__") ⟨[.ref 118, v], []⟩) R ⟨h, g, d, t, os⟩
noncomputable def Tq (x : Xq) : Prop := Sq x.1 x.2.1 x.2.2.1 x.2.2.2.1 x.2.2.2.2.1 x.2.2.2.2.2.1 x.2.2.2.2.2.2.1 x.2.2.2.2.2.2.2.1 x.2.2.2.2.2.2.2.2.1 x.2.2.2.2.2.2.2.2.2
noncomputable def xq : Xq := @Classical.epsilon Xq ⟨⟨default, dumW, {}, fun _ _ => True, {}, #[], {}, 0, {}, default⟩⟩ fun x => ¬ Tq x
noncomputable def prog : Program := xq.1
noncomputable def w : World := xq.2.1
noncomputable def A : Around := xq.2.2.1
noncomputable def R : Result → Shared → Prop := xq.2.2.2.1
noncomputable def h : Heap := xq.2.2.2.2.1
noncomputable def g : Array GenState := xq.2.2.2.2.2.1
noncomputable def d : Drawn := xq.2.2.2.2.2.2.1
noncomputable def t : Nat := xq.2.2.2.2.2.2.2.1
noncomputable def os : OsState := xq.2.2.2.2.2.2.2.2.1
noncomputable def v : Value := xq.2.2.2.2.2.2.2.2.2
set_option maxHeartbeats 4000000 in
theorem at_ : Sq prog w A R h g d t os v := by
  intro Y hq
  obtain ⟨⟨oc, od, cd, sl, hC, e1, e2, e4⟩, made, base, self, top, call, typ⟩ := Y
  refine codeAny_call_builtin_code (plainId_quiet PySem.F.plain_list_new _) ?_
  simp only [checkBuiltinCall, kind_new, split_new]
  have ha := args_new v
  have fin : codeAny (model prog w) A (Code.builtin "list.__new__" ⟨[.ref 118, v], []⟩) R ⟨h, g, d, t, os⟩ := by
    refine codeAny_builtin_stack PySem.F.entry_list_new rfl fun p st => ?_
    rw [Around.under_plainId PySem.F.plain_list_new _]
    have hown := owner_list_new
    simp only [hown]
    refine wpAny_bind (m := (isType (.ref 118) : Sem Bool)) (ks_wpAny_isType_cls hC rfl ?_)
    rw [if_neg (by decide)]
    refine wpAny_bind (top.at ?_)
    rw [if_neg (by decide)]
    refine wpAny_bind (wpAny_pure ?_)
    show wpAny _ _ ((newDict >>= _)) _ _ _
    unfold newDict newObj
    refine wpAny_bind (wpAny_bind (wpAny_alloc (wpAny_pure ?_)))
    show wpAny _ _ ((newObjAsIs (.ref 118) (.seq #[]) (some h.objs.size)) >>= fun v => ret v) _ _ _
    unfold newObjAsIs classHasDel
    refine wpAny_bind (wpAny_bind (wpAny_alloc (wpAny_bind (wpAny_bind (wpAny_load (Heap.get?_push_of_some _ (Heap.get?_push_of_some _ hC)) (wpAny_pure ?_))))))
    rw [e2]
    refine wpAny_pure (wpAny_pure ?_)
    show R _ _
    rw [Heap.size_push]
    exact hq
  refine wpAny_bind (m := (isType (.ref 118) : Sem Bool)) ?_
  refine ks_wpAny_isType_cls hC rfl ?_
  rw [if_neg (by decide)]
  refine wpAny_bind (top.at ?_)
  rw [if_neg (by decide)]
  refine wpAny_bind (base.at ?_)
  refine wpAny_bind (made.at ?_)
  dsimp only
  rw [if_neg (by simp)]
  cases hsig : Manifest.signature? "list.__new__" with
  | none => exact wpAny_pure fin
  | some sig =>
    simp only [argsOk, hsig] at ha
    have h2 : Bind.checkArgs "list.__new__" sig ⟨[.ref 118, v], []⟩ = pure () := ha
    show wpAny _ _ (Bind.checkArgs "list.__new__" sig ⟨[.ref 118, v], []⟩) _ _ _
    rw [h2]
    exact wpAny_pure fin
theorem all_ (x : Xq) : Tq x := Classical.byContradiction fun hn => Classical.epsilon_spec (p := fun x => ¬ Tq x) ⟨x, hn⟩ at_
end NlD
section
variable {prog : Program} {w : World} {A : Around} {R : Result → Shared → Prop} {h : Heap} {g : Array GenState} {d : Drawn} {t : Nat} {os : OsState}
theorem new_L {v : Value} (Y : MakesL (model prog w) h) (hq : R (.ok (.ret (.ref (h.objs.size + 1)))) ⟨(h.push emptyDict).push (pile0 h.objs.size), g, d, t, os⟩) :
    codeAny (model prog w) A (.call (.builtin "list.__new__") ⟨[.ref 118, v], []⟩) R ⟨h, g, d, t, os⟩ :=
  NlD.all_ ⟨prog, w, A, R, h, g, d, t, os, v⟩ Y hq


end
namespace MkD
noncomputable abbrev Xq := (Program) × (World) × (Around) × (Result → Shared → Prop) × (Heap) × (Array GenState) × (Drawn) × (Nat) × (OsState) × (Value) × (Shared) × (Frag)
noncomputable def Sq (prog : Program) (w : World) (A : Around) (R : Result → Shared → Prop) (h : Heap) (g : Array GenState) (d : Drawn) (t : Nat) (os : OsState) (v : Value) (B : Shared) (K : Frag) : Prop :=
  ∀ (C : Acc B K) (X : K.In h) (hq : codeAny (model prog w) (A.under (.builtin "type.__call__" ⟨[.ref 118, v], []⟩)) (.call (.ref 55) ⟨[.ref (h.objs.size + 1), v], []⟩) (InitBack (h.objs.size + 1) R) ⟨(h.push emptyDict).push (pile0 h.objs.size), g, d, t, os⟩),
    codeAny (model prog w) A (.call (.ref 118) ⟨[v], []⟩) R ⟨h, g, d, t, os⟩
noncomputable def Tq (x : Xq) : Prop := Sq x.1 x.2.1 x.2.2.1 x.2.2.2.1 x.2.2.2.2.1 x.2.2.2.2.2.1 x.2.2.2.2.2.2.1 x.2.2.2.2.2.2.2.1 x.2.2.2.2.2.2.2.2.1 x.2.2.2.2.2.2.2.2.2.1 x.2.2.2.2.2.2.2.2.2.2.1 x.2.2.2.2.2.2.2.2.2.2.2
noncomputable def xq : Xq := @Classical.epsilon Xq ⟨⟨default, dumW, {}, fun _ _ => True, {}, #[], {}, 0, {}, default, dumS, []⟩⟩ fun x => ¬ Tq x
noncomputable def prog : Program := xq.1
noncomputable def w : World := xq.2.1
noncomputable def A : Around := xq.2.2.1
noncomputable def R : Result → Shared → Prop := xq.2.2.2.1
noncomputable def h : Heap := xq.2.2.2.2.1
noncomputable def g : Array GenState := xq.2.2.2.2.2.1
noncomputable def d : Drawn := xq.2.2.2.2.2.2.1
noncomputable def t : Nat := xq.2.2.2.2.2.2.2.1
noncomputable def os : OsState := xq.2.2.2.2.2.2.2.2.1
noncomputable def v : Value := xq.2.2.2.2.2.2.2.2.2.1
noncomputable def B : Shared := xq.2.2.2.2.2.2.2.2.2.2.1
noncomputable def K : Frag := xq.2.2.2.2.2.2.2.2.2.2.2
set_option maxHeartbeats 4000000 in
theorem at_ : Sq prog w A R h g d t os v B K := by
  intro C X hq
  have Y := makesL_of (M := model prog w) C X
  have Y' := Y
  have hi : Looks (model prog w) h (typeLookup (.ref 118) "__init__") (some (.ref 55)) := looks_findIn X C.init
  have hb : ∀ self, Looks (model prog w) h (bindSpecial (.ref 55) self) (.ref 55, [self]) := fun self => bind_fn X self (C.fns 55 (by decide))
  obtain ⟨⟨oc, od, cd, sl, hC, e1, e2, e4⟩, made, base, self, top, call, typ⟩ := Y
  refine codeAny_of_tree ?_
  show wpAny _ _ (callAny (.ref 118) _) _ _ _
  refine nd_load hC ?_
  show wpAny _ _ (callAny.viaDunder (.ref 118) _) _ _ _
  unfold callAny.viaDunder
  refine wpAny_bind (call.at ?_)
  dsimp only
  rw [tc_bind]
  refine wpAny_bind (wpAny_pure (wpAny_bind (wpAny_pure ?_)))
  refine wpAny_pure (a := Fin.again (.call (.builtin "type.__call__") ⟨[.ref 118, v], []⟩)) (And.intro rfl ?_)
  refine codeAny_call_builtin_at (Code.quiet_builtin _ (by decide +kernel)) entry_typeCall (check_slot tc_kind tc_split typ (tc_args _ _ _) ?_)
  unfold Builtin.«type.__call__»
  have hm : Looks (model prog w) h (mroOf (.ref 118)) cd.mro := ((Looks.ld (part := none) hC).andThen .now).andThen .now
  repeat (first | simp only [e4, Bool.false_eq_true, if_false] | with_reducible refine wpAny_call ?_ | lk)
  refine new_L Y' ?_
  have k : ∀ b o, h.get? b = some o → ((h.push emptyDict).push (pile0 h.objs.size)).get? b = some o := fun b o e => Heap.get?_push_of_some _ (Heap.get?_push_of_some _ e)
  have hx : ((h.push emptyDict).push (pile0 h.objs.size)).get? (h.objs.size + 1) = some (pile0 h.objs.size) := by heap_get
  have t1 : Looks (model prog w) ((h.push emptyDict).push (pile0 h.objs.size)) (typeOf (.ref (h.objs.size + 1))) (.ref 118) := (Looks.ld hx).andThen .now
  have s1 := self.keeps k
  have i1 := hi.keeps k
  have b1 := (hb (.ref (h.objs.size + 1))).keeps k
  unfold isInstance callSpecial? specialOf
  repeat (first | with_reducible refine wpAny_call ?_ | lk)
  refine codeAny_mono hq fun r s' z => ?_
  rcases r with e | (v | _ | _ | _) <;> first | exact z | exact z.elim | skip
  obtain ⟨rfl, z⟩ := z
  exact wpAny_pure (wpAny_pure z)
theorem all_ (x : Xq) : Tq x := Classical.byContradiction fun hn => Classical.epsilon_spec (p := fun x => ¬ Tq x) ⟨x, hn⟩ at_
end MkD
section
variable {prog : Program} {w : World} {A : Around} {R : Result → Shared → Prop} {h : Heap} {g : Array GenState} {d : Drawn} {t : Nat} {os : OsState}
theorem make_L {v : Value} {B : Shared} {K : Frag} (C : Acc B K) (X : K.In h) (hq : codeAny (model prog w) (A.under (.builtin "type.__call__" ⟨[.ref 118, v], []⟩)) (.call (.ref 55) ⟨[.ref (h.objs.size + 1), v], []⟩) (InitBack (h.objs.size + 1) R) ⟨(h.push emptyDict).push (pile0 h.objs.size), g, d, t, os⟩) :
    codeAny (model prog w) A (.call (.ref 118) ⟨[v], []⟩) R ⟨h, g, d, t, os⟩ :=
  MkD.all_ ⟨prog, w, A, R, h, g, d, t, os, v, B, K⟩ C X hq

end
end Mine
end
section
set_option maxRecDepth 100000
namespace Mine
open PySem PySem.Calls PyProof.Rows PySem.W PySem.SeqAt Builtin Builtin.ObjectAttr

section
variable {prog : Program} {w : World} {M : Model} {A : Around} {E : Value → Shared → Prop} {B s : Shared} {cs cs' : List Cel} {env : Env} {Q : Value → Shared → Prop} {K : Frag}

theorem ns_set {a : Addr} {m : Str → Option Value} {name : Str} {v : Value} {Q : Unit → Shared → Prop} (H : St B cs s) (U : Upd a (NsO m) (NsO fun y => if y = name then some v else m y) cs cs') (h : ∀ s', St B cs' s' → Q () s') :
    wpAny M A (nsSet a name v) Q E s := fun Γ p _ =>
  Sem.wp_nsSet M Γ _ p s (H.ns U.mem) name v _ fun h' hn hs => h _ (H.upd U hs (nsO hn))

theorem refuse_mine (self : Value) : refuseLoop self "__setattr__" [.ref 118, .type "list", .type "object"] = pure () := by
  rw [refuseLoop_ref]; kernel_rfl

end
namespace SzD
noncomputable abbrev Xq := (Program) × (World) × (Around) × (Value → Shared → Prop) × (Shared) × (Shared) × (List Cel) × (List Cel) × (Frag) × (Addr) × (Addr) × (List Value) × (Value) × (Unit → Shared → Prop)
noncomputable def Sq (prog : Program) (w : World) (A : Around) (E : Value → Shared → Prop) (B : Shared) (s : Shared) (cs : List Cel) (cs' : List Cel) (K : Frag) (x : Addr) (dx : Addr) (vs : List Value) (v : Value) (Q : Unit → Shared → Prop) : Prop :=
  ∀ (C : Acc B K) (H : St B cs s) (hx : (x, PileO dx vs) ∈ cs) (U : Upd dx (IsO emptyDict) (NsO fun y => if y = Str.ofString "_initial_size" then some v else none) cs cs') (h : ∀ s', St B cs' s' → Q () s'),
    wpAny (model prog w) A (setAttr (.ref x) (Str.ofString "_initial_size") v) Q E s
noncomputable def Tq (x : Xq) : Prop := Sq x.1 x.2.1 x.2.2.1 x.2.2.2.1 x.2.2.2.2.1 x.2.2.2.2.2.1 x.2.2.2.2.2.2.1 x.2.2.2.2.2.2.2.1 x.2.2.2.2.2.2.2.2.1 x.2.2.2.2.2.2.2.2.2.1 x.2.2.2.2.2.2.2.2.2.2.1 x.2.2.2.2.2.2.2.2.2.2.2.1 x.2.2.2.2.2.2.2.2.2.2.2.2.1 x.2.2.2.2.2.2.2.2.2.2.2.2.2
noncomputable def xq : Xq := @Classical.epsilon Xq ⟨⟨default, dumW, {}, fun _ _ => True, dumS, dumS, [], [], [], 0, 0, [], default, fun _ _ => True⟩⟩ fun x => ¬ Tq x
noncomputable def prog : Program := xq.1
noncomputable def w : World := xq.2.1
noncomputable def A : Around := xq.2.2.1
noncomputable def E : Value → Shared → Prop := xq.2.2.2.1
noncomputable def B : Shared := xq.2.2.2.2.1
noncomputable def s : Shared := xq.2.2.2.2.2.1
noncomputable def cs : List Cel := xq.2.2.2.2.2.2.1
noncomputable def cs' : List Cel := xq.2.2.2.2.2.2.2.1
noncomputable def K : Frag := xq.2.2.2.2.2.2.2.2.1
noncomputable def x : Addr := xq.2.2.2.2.2.2.2.2.2.1
noncomputable def dx : Addr := xq.2.2.2.2.2.2.2.2.2.2.1
noncomputable def vs : List Value := xq.2.2.2.2.2.2.2.2.2.2.2.1
noncomputable def v : Value := xq.2.2.2.2.2.2.2.2.2.2.2.2.1
noncomputable def Q : Unit → Shared → Prop := xq.2.2.2.2.2.2.2.2.2.2.2.2.2
set_option maxHeartbeats 4000000 in
theorem at_ : Sq prog w A E B s cs cs' K x dx vs v Q := by
  intro C H hx U h
  have SF := PySem.F.store_object
  obtain ⟨cd, hcd, _, _, _, hmro, hhd⟩ := C.cls
  unfold setAttr
  refine wpAny_bind (wpAny_mkText ?_)
  have H1 := H.tok (s.toks + 1)
  generalize ({ s with toks := s.toks + 1 } : Shared) = s1 at H1 ⊢
  obtain ⟨n, hob⟩ := H1.pile hx
  have hm : Looks (model prog w) s1.heap (mroOf (.ref 118)) cd.mro := (looks_clsIn (H1.k C) hcd).andThen .now
  rw [hmro] at hm
  have hty := H1.pty (M := model prog w) hx
  refine wpAny_bind (p_special C H1 hx C.setA SF.slot.bind ?_)
  refine wpAny_call (codeAny_call_builtin SF.slot.plain SF.entry (@check_slot (model prog w) _ _ s1 "object.__setattr__" "object" "__setattr__" (.ref x) [.str _ _, v] [] _ SF.kind SF.split (hty.andThen (looks_mroIn (H1.k C) C.obj)) (SF.args (.ref x) (.str _ _) v) ?_))
  rw [osa_eq, refuse_eq]
  refine wpAny_bind (wpAny_bind (hty.here (wpAny_bind (hm.here ?_))))
  rw [refuse_mine]
  refine wpAny_pure (wpAny_bind (hty.here (wpAny_bind ((looks_findIn (H1.k C) C.size).here (wpAny_bind (wpAny_pure ?_))))))
  refine wpAny_bind (wpAny_pure (wpAny_bind (wpAny_bind (wpAny_loadPart hob (wpAny_bind ((looks_clsIn (H1.k C) hcd).here ?_))))))
  rw [hhd]
  refine wpAny_pure (a := some dx) (wpAny_bind (wpAny_pure (wpAny_bind ?_)))
  unfold nsSet
  have D := H1.is U.mem
  refine wpAny_bind (wpAny_bind (wpAny_askSetting (wpAny_pure (wpAny_bind (wpAny_mkText (wpAny_bind (wpAny_loadPart D ?_)))))))
  show wpAny _ _ (if aRefKeyMayBeTheName (Str.ofString "_initial_size") #[] = true then _ else _) _ _ _
  rw [if_neg (by decide)]
  refine wpAny_updatePart D ?_
  have e : ∀ hh k, Obj.putName (Str.ofString "_initial_size") hh k v emptyDict = { cls := .type "dict", data := .dict #[⟨hh, k, v⟩] 1 } := fun _ _ => rfl
  have D' := fun hh k => Heap.get?_update_self (h := s1.heap) (a := dx) (Obj.putName (Str.ofString "_initial_size") hh k v) D (by rw [e]; rfl)
  simp only [e] at D'
  refine wpAny_bind (wpAny_lookBehind (D' _ _) (by rfl) ?_)
  have H2 := fun hh k (hk : k = .str (Str.ofString "_initial_size") s1.toks) => H1.upd (t := s1.toks + 1) (h' := s1.heap.update dx (Obj.putName (Str.ofString "_initial_size") hh k v)) U (Heap.SameBut.update ..) ⟨_, D' _ _, by
    subst hk
    refine ⟨_, _, rfl, ?_, fun name => ?_⟩
    · intro e he
      simp at he
      subst he
      exact ⟨_, _, rfl⟩
    · unfold nsFind findBy
      dsimp only
      by_cases hn : name = Str.ofString "_initial_size"
      · subst hn; rw [if_pos rfl]; rfl
      · rw [if_neg hn]
        have : (Value.str (Str.ofString "_initial_size") s1.toks).isStr name = false := by
          show (_ == _) = false
          simpa using fun e => hn e.symm
        simp [this]⟩
  exact wpAny_pure (wpAny_pure (h _ (H2 _ _ rfl)))
theorem all_ (x : Xq) : Tq x := Classical.byContradiction fun hn => Classical.epsilon_spec (p := fun x => ¬ Tq x) ⟨x, hn⟩ at_
end SzD
section
variable {prog : Program} {w : World} {M : Model} {A : Around} {E : Value → Shared → Prop} {B s : Shared} {cs cs' : List Cel} {env : Env} {Q : Value → Shared → Prop} {K : Frag}
theorem p_setSize {x dx : Addr} {vs : List Value} {v : Value} {Q : Unit → Shared → Prop} (C : Acc B K) (H : St B cs s) (hx : (x, PileO dx vs) ∈ cs) (U : Upd dx (IsO emptyDict) (NsO fun y => if y = Str.ofString "_initial_size" then some v else none) cs cs') (h : ∀ s', St B cs' s' → Q () s') :
    wpAny (model prog w) A (setAttr (.ref x) (Str.ofString "_initial_size") v) Q E s :=
  SzD.all_ ⟨prog, w, A, E, B, s, cs, cs', K, x, dx, vs, v, Q⟩ C H hx U h

end
end Mine
end
section
set_option maxRecDepth 100000
namespace Mine
open PySem PySem.Calls PyProof.Rows PySem.W PySem.SeqAt Builtin

section
variable {prog : Program} {w : World} {M : Model} {A : Around} {E : Value → Shared → Prop} {B s : Shared} {cs cs' : List Cel} {env : Env} {Q : Value → Shared → Prop} {K : Frag}

theorem kind_in : builtinKind "list.__init__" = some .slot := by rw [builtinKind]; decide +kernel
theorem plain_in : plainId "list.__init__" = true := by decide +kernel
theorem ty_in : typeOf (.builtin "list.__init__") = pure (.type "wrapper_descriptor") := by show builtinType _ = _; rw [builtinType_eq_fast]; kernel_rfl
theorem entry_in : entryFor table "list.__init__" = some Builtin.«list.__init__» := entryFor_of_tree (by kernel_rfl)
theorem args_in (a : Value) : argsOk "list.__init__" ⟨[a], []⟩ := by unfold argsOk; kernel_rfl

theorem upd_id {a : Addr} {P : Obj → Prop} : ∀ {cs : List Cel}, (a, P) ∈ cs → ∃ c1, Upd a P P cs c1
  | _ :: _, .head _ => ⟨_, .head⟩
  | _ :: _, .tail _ h => let ⟨_, U⟩ := upd_id h; ⟨_, .tail U⟩
theorem upd_same {a : Addr} {P : Obj → Prop} {cs c1 : List Cel} (U : Upd a P P cs c1) : c1 = cs := by
  generalize hq : P = P' at U
  have : ∀ {P P' : Obj → Prop} {cs c1 : List Cel}, Upd a P P' cs c1 → P = P' → c1 = cs := by
    intro P P' cs c1 U
    induction U with
    | head => intro e; rw [e]
    | tail _ ih => intro e; rw [ih e]
  exact this U (by first | rfl | exact hq)
theorem ok_made {k : Nat} {v : Value} (ok : Ok A (k + 1)) : Ok (A.under (.builtin "type.__call__" ⟨[.ref 118, v], []⟩)) k := by
  refine ⟨?_, ?_, ok.handled, ?_⟩
  · have := ok.depth; show A.depth + 1 + k < _; lia
  · have := ok.units
    show A.units + 1 + 8 * k + 8 < _; lia
  · obtain ⟨fr, e⟩ := ok.frames
    refine ⟨fr, ?_⟩
    show pushEnvs (Code.envs (.builtin "type.__call__" ⟨[.ref 118, v], []⟩)) A.frames = _
    rw [e, show Code.envs (.builtin "type.__call__" ⟨[.ref 118, v], []⟩) = [] from rfl]
    simp [pushEnvs]
theorem body_init {x dx : Addr} (H : St B cs s) (hx : (x, PileO dx []) ∈ cs) (h : ∀ s', St B cs s' → Q .none s') :
    wpAny (model prog w) A (Builtin.«list.__init__» ⟨[.ref x], []⟩) (fun fin s' => ∃ v, fin = .done (.ret v) ∧ Q v s') E s := by
  obtain ⟨n, hl⟩ := H.pile hx
  obtain ⟨n', e⟩ := mapSeq_pile (fun _ => #[]) dx [] n
  obtain ⟨c1, U⟩ := upd_id hx
  have q : Q .none { s with heap := s.heap.update x (Obj.mapSeq fun _ => #[]) } := by
    have := H.upd (t := s.toks) U (Heap.SameBut.update s.heap x (Obj.mapSeq fun _ => #[])) ⟨_, Heap.get?_update_self _ hl (by rw [e]; rfl), ⟨n', by rw [e]⟩⟩
    rw [upd_same U] at this
    exact h _ this
  have z1 : ([] : List Value).toArray.size ≤ sizeLine := by simp
  have z2 : (#[] : Array Value).size ≤ sizeLine + 1 := by simp
  obtain ⟨hp, g, d, tk, os⟩ := s
  unfold Builtin.«list.__init__»
  wp_walk using (wpAny_updateSeq hl rfl (hz := z1) (_hz' := z2)), wpAny_loadPart' hl
  exact ⟨_, rfl, q⟩

theorem code_fnS {a : Addr} {F : Value → Value → Value → FuncData} {name qual : Str} {params : Arguments} {body : List Stmt} {scope : Scope} {dV : Value} {args : List Value} {binds : List (Str × Value)} {k : Nat} {R : Result → Shared → Prop}
    (hF : SupAt prog B.heap a F) (hfd : ∀ pm cd ct, F pm cd ct = fnX name qual params body scope [("__class__", 42)] dV .none .none pm none cd ct) (ok : Ok A (k + 1)) (N : Names B) (H : St B cs s)
    (hbind : ∀ pm cd ct, BindsTo s (fnX name qual params body scope [("__class__", 42)] dV .none .none pm none cd ct) ⟨args, []⟩ binds)
    (h : ∀ L cda s1 E', SupC prog B.heap a cda (fun pm cd ct => fnX name qual params body scope [("__class__", 42)] dV .none .none pm none cd ct) → Ok (A.deeper (envS qual scope L a cda)) k → St B ((L, NsO fun x => binds.reverse.lookup x) :: cs) s1 →
      _root_.PySem.wpAt (model prog w) (A.deeper (envS qual scope L a cda)) (.func body (envS qual scope L a cda)) (execs body (envS qual scope L a cda)) (fun f s' => R (.ok (.ret (match f with | .ret v => v | _ => .none))) s') E' s1)
    (hloc : ∀ x ∈ binds, scope.names.lookup x.1 = some .local := by exact locs rfl)
    (hcell : ∀ x ∈ scope.names, x.2 ≠ .cell := by decide)
    (hco : scope.isCoroutine = false := by rfl) (hgen : scope.isGenerator = false := by rfl) (hk : scope.kind = .function := by rfl) :
    codeAny (model prog w) A (.call (.ref a) ⟨args, []⟩) R s := by
  obtain ⟨o, pm, cda, ct, oc, vs, file, tf, ho, hd, hc, hr⟩ := hF
  rw [hfd] at hd hc
  refine ks_codeAny_call_defAt ok.room (H.keep _ _ ho) hd (N.lim.keeps H.keep) (hc.keeps H.keep) rfl (hbind pm _ ct) hcell hloc (fun h₀ hn hk' => ?_) hco hgen hk
  exact h _ cda _ _ ⟨o, pm, ct, oc, vs, file, tf, ho, hd, hr⟩ (ok.deeper _) (H.new (t := s.toks + binds.length) hk' (nsO hn))
end
end Mine
end
section
set_option maxRecDepth 100000
namespace Mine
open PySem PySem.Calls PyProof.Rows PySem.W PySem.SeqAt Builtin

noncomputable def sizeM (n : Int) (t : Tok) : Str → Option Value := fun y => if y = Str.ofString "_initial_size" then some (.int n t) else none

section
variable {prog : Program} {w : World} {M : Model} {A : Around} {E : Value → Shared → Prop} {B s : Shared} {cs cs' : List Cel} {env : Env} {Q : Value → Shared → Prop} {K : Frag}

set_option maxHeartbeats 4000000 in
theorem spec_new {n : Int} {t : Tok} {k : Nat} (C : Acc B K) (AF : AccF B) (AS : AccS prog B) (N : Names B) (ok : Ok A (k + 3)) (H : St B cs s)
    (h : ∀ x dx s', St B ((x, PileO dx []) :: (dx, NsO (sizeM n t)) :: cs) s' → Q (.ref x) s') : wpAny (model prog w) A (call (.ref 118) [.int n t]) Q E s := by
  have H1 := (H.push (P := IsO emptyDict) (o := emptyDict) (t := s.toks) rfl)
  have H2 := (H1.push (P := PileO s.heap.objs.size []) (o := pile0 s.heap.objs.size) (t := s.toks) ⟨0, rfl⟩)
  have hk := H.k C
  have hs : ({ s with heap := s.heap.push emptyDict, toks := s.toks } : Shared).heap.objs.size = s.heap.objs.size + 1 := Heap.size_push _ _
  rw [hs] at H2
  obtain ⟨hp, g, d, tk, os⟩ := s
  refine wpAny_call (make_L C hk ?_)
  have ok2 := ok_made (v := .int n t) ok
  obtain ⟨o47, t47, n47, hd1, hd2⟩ := AF.d47
  refine code_fnS (s := ⟨(hp.push emptyDict).push (pile0 hp.objs.size), g, d, tk, os⟩) (binds := [(Str.ofString "self", .ref (hp.objs.size + 1)), (Str.ofString "initial_size", .int n t)]) AS.init (fun _ _ _ => rfl) ok2 N H2 (fun _ _ _ => BindsTo.of_defaults rfl (H2.keep _ _ hd1) hd2 rfl rfl) ?_
  intro L cda s1 E' hc ok1 H3
  refine ks_wpAt_execs_cons ?_
  refine ks_wpAt_Assign_Attr (_root_.PySem.wpAt_of_wpAny (n_local H3 (.head _) rfl (n_local H3 (.head _) rfl ?_)))
  refine p_setSize C H3 (.tail _ (.head _)) (.tail (.tail .head)) fun s4 H4 => ?_
  refine ks_wpAt_execs_cons (ks_wpAt_Expr_any (ks_wpAt_MethodCall ?_))
  refine sup_base C AF N AS.top H4 (.tail _ (.head _)) (.head _) rfl hc rfl rfl rfl rfl rfl rfl fun so s5 H5 => ?_
  refine st_super C H5 (.head _) (.tail _ (.tail _ (.head _))) C.supInit ty_in slot_wd_get.lookup rfl (fun s A Q E hin hq => get_init hin hq) fun q s6 H6 => ?_
  refine call_bound (H6.is (.head _)) (.inr rfl) (fun Q E A hq => cb_slot kind_in (args_in _) hq) plain_in entry_in ?_
  refine body_init H6 (.tail _ (.tail _ (.tail _ (.head _)))) fun s7 H7 => ?_
  refine _root_.PySem.wpAt_of_wpAny (wpAny_execs_nil ?_)
  exact ⟨rfl, h _ _ s7 (H7.drop 3)⟩
end
end Mine
end
section
set_option maxRecDepth 100000
namespace Mine
open PySem PySem.Calls PyProof.Rows PySem.W PySem.SeqAt Builtin

theorem lookIn_ns {o : Obj} {m : Str → Option Value} (h : NsO m o) (name : Str) : lookIn name o = some (m name) := by
  obtain ⟨es, ep, hd, hs, hf⟩ := h
  rw [← hf name]
  simp only [lookIn, hd, nsFind, findBy]
  rw [← Array.find?_toList]
  cases hx : es.toList.find? (·.key.isStr name) with
  | some e => rfl
  | none =>
    have : es.toList.any (·.refKey) = false := by
      rw [List.any_eq_false]; intro e he
      obtain ⟨n, t, h⟩ := hs e (by simpa using he); simp [DictEntry.refKey, h]
    simp [this]

section
variable {prog : Program} {w : World} {M : Model} {A : Around} {E : Value → Shared → Prop} {B s : Shared} {cs cs' : List Cel} {env : Env} {Q : Value → Shared → Prop} {K : Frag}

theorem kind_ga : builtinKind "list.__getattribute__" = some .slot := by rw [builtinKind]; decide +kernel
theorem split_ga : splitId "list.__getattribute__" = some ("list", "__getattribute__") := by decide +kernel
theorem i_entry {id n : String} {Bi : Builtin} {x : Addr} {rest : List Value} (hin : Looks (model prog w) s.heap (isInstance (.ref x) (.type "list")) true) (hk : builtinKind id = some .slot) (hs : splitId id = some ("list", n))
    (hp : plainId id = true) (hb : entryFor table id = some Bi) (ha : argsOk id ⟨.ref x :: rest, []⟩)
    (h : wpAny (model prog w) A.in1 (Bi ⟨.ref x :: rest, []⟩) (fun fin s' => ∃ v, fin = .done (.ret v) ∧ Q v s') E s) :
    wpAny (model prog w) A (call (.builtin id) (.ref x :: rest)) Q E s := by
  have g : wpAny (model prog w) A.in1 (Bi ⟨.ref x :: rest, []⟩) (fun fin s' => match fin with | .done f => wants Q E (.ok f) s' | .again c' => c'.quiet = true ∧ codeAny (model prog w) A c' (wants Q E) s') (fun e s' => wants Q E (.error e) s') s :=
    wpAny_mono h (fun fin s' h' => by obtain ⟨v, rfl, q⟩ := h'; exact q) fun _ _ q => q
  exact wpAny_call (codeAny_call_builtin hp hb (check_slot hk hs hin ha g))
theorem get_valueL {x D : Addr} {ox : Obj} {od : Option Obj} {name : Str} {expr : Bool} {v : Value} (X : K.In s.heap) (I : InstAt s.heap x ox D od) (hga : findIn K (.ref D) "__getattribute__" = some (some (.builtin "list.__getattribute__")))
    (hgt : findIn K (.ref D) "__getattr__" = some none) (hl : mroIn K D (.type "list") = some true)
    (hf : findObj K D od name = some (.value v)) (hh : handedIn v = true) (h : Q v { s with toks := s.toks + 1 }) : wpAny (model prog w) A (getAttr (.ref x) name expr) Q E s := by
  obtain ⟨hh', g, d, t, os⟩ := s
  have L0 := I.type (M := model prog w)
  have L1 := looks_findIn (M := model prog w) X hga
  have L2 := looks_find (M := model prog w) X I hf
  have L3 := looks_findIn (M := model prog w) X hgt
  have L4 : Looks (model prog w) hh' (isInstance (.ref x) (.type "list")) true := L0.andThen (looks_mroIn X hl)
  unfold getAttr getAttrBy
  refine wpAny_bind (wpAny_mkText (wpAny_holding (wpAny_bind (L0.at (wpAny_bind (L1.at ?_))))))
  show wpAny _ _ (getAttrByItsOwn (.ref x) (.str name t) (.ref D) (.builtin "list.__getattribute__") true expr) _ _ _
  unfold getAttrByItsOwn hookBefore callGetattribute boundAndCalled
  refine wpAny_bind (L3.at ?_)
  rw [if_neg (by rw [show onTheHeap (Value.builtin "list.__getattribute__") = false from rfl]; simp)]
  refine wpAny_bind (wpAny_attempt (wpAny_holding ?_))
  refine wpAny_bind (wpAny_of_eq (F.slot_list_getattribute.bind (.ref x)) ?_)
  have run : wpAny (model prog w) A.in1 (Builtin.«object.__getattribute__» ⟨[.ref x, .str name t], []⟩) (fun fin s' => ∃ a, fin = .done (.ret a) ∧ a = v ∧ s' = ⟨hh', g, d, t + 1, os⟩) (fun _ _ => False) ⟨hh', g, d, t + 1, os⟩ := by
    unfold Builtin.«object.__getattribute__»
    refine wpAny_bind (wpAny_pure ?_)
    refine wpAny_bind (wpAny_pure ?_)
    refine wpAny_bind (L0.at (wpAny_bind (L2.at ?_)))
    exact wpAny_pure ⟨_, rfl, rfl, rfl⟩
  refine wpAny_mono (Q := fun a s' => a = v ∧ s' = ⟨hh', g, d, t + 1, os⟩) (E := fun _ _ => False) ?_ (fun a s' hv => ?_) fun _ _ z => z.elim
  · exact i_entry L4 kind_ga split_ga F.slot_list_getattribute.plain am_entry_list_getattribute (F.args_list_getattribute_2 _ _) run
  · obtain ⟨rfl, rfl⟩ := hv
    show wpAny _ _ (handedOut a) _ _ _
    rw [handedOut_of hh]; exact wpAny_pure h

theorem p_getSize {x dx : Addr} {vs : List Value} {v : Value} {m : Str → Option Value} {b : Bool} (C : Acc B K) (H : St B cs s) (hx : (x, PileO dx vs) ∈ cs) (hd : (dx, NsO m) ∈ cs) (hm : m (Str.ofString "_initial_size") = some v) (hv : handedIn v = true)
    (h : ∀ s', St B cs s' → Q v s') : wpAny (model prog w) A (getAttr (.ref x) (Str.ofString "_initial_size") b) Q E s := by
  obtain ⟨n, hob⟩ := H.pile hx
  obtain ⟨od, hod, hon⟩ := H.get hd
  obtain ⟨cd, hcd, _, _, _, hmro, hhd⟩ := C.cls
  have hI : InstAt s.heap x (pileObj dx vs n) 118 (some od) := ⟨hob, rfl, rfl, hod⟩
  have hl := lookIn_ns hon (Str.ofString "_initial_size")
  rw [hm] at hl
  refine get_valueL (H.k C) hI C.ga C.gt C.lst (findObj_own (by unfold hasDictIn; rw [hcd]; exact hhd) C.size rfl hl) hv (h _ (H.tok _))

theorem kind_it : builtinKind "list.__iter__" = some .slot := by rw [builtinKind]; decide +kernel
theorem split_it : splitId "list.__iter__" = some ("list", "__iter__") := by decide +kernel
theorem plain_it : plainId "list.__iter__" = true := by decide +kernel

theorem pyIter_pile {x dx : Addr} {vs : List Value} (C : Acc B K) (H : St B cs s) (hx : (x, PileO dx vs) ∈ cs)
    (h : Q (.ref s.heap.objs.size) { s with heap := s.heap.push { cls := .type "list_iterator", data := .fields #[.ref x, .int 0 0] } }) :
    wpAny (model prog w) A (pyIter (.ref x)) Q E s := by
  unfold pyIter
  refine wpAny_bind ((H.psp C hx C.iter).here ?_)
  show wpAny _ A (callSpecialIfBoundUnlessNone? (.ref x) "__iter__" _ >>= _) Q E s
  refine wpAny_bind ?_
  simp only [callSpecialIfBoundUnlessNone?, bindSpecialIfBound?]
  refine wpAny_holding (wpAny_bind (wpAny_bind ((H.psp C hx C.iter).here ?_)))
  simp only [slot_list_iter.bind]
  refine wpAny_bind (wpAny_askSetting (wpAny_ite ?_))
  have run : wpAny (model prog w) A (call (.builtin "list.__iter__") [.ref x]) (fun it s' => wpAny (model prog w) A (specialOf it "__next__" >>= fun o => match o with
      | none => (do rule "iter.non-iterator"; raiseError "TypeError" s!"iter() returned non-iterator of type '{← typeNameOf it}'")
      | some _ => pure it) Q E s') E s := by
    refine p_entry C H hx (.inr kind_it) split_it plain_it PySem.entry_list_iter (PySem.args_list_iter _) ?_
    show wpAny _ _ (do ret (← newFields "list_iterator" [.ref x, rawInt 0])) _ _ s
    refine wpAny_bind (wpAny_newObj_type (wpAny_pure ⟨_, rfl, ?_⟩))
    exact wpAny_bind (wpAny_specialOf (T := "list_iterator") ⟨_, Heap.get?_push_size _ rfl, rfl⟩ slot_listiter_next.lookup (wpAny_pure h))
  have fin : wpAny (model prog w) A (if (Value.builtin "list.__iter__" == Value.none) = true then ((do rule "iter.none"; raiseError "TypeError" s!"'{← typeNameOf (.ref x)}' object is not iterable") >>= fun v => pure (some v)) else (call (.builtin "list.__iter__") [.ref x] >>= fun v => pure (some v))) (fun o s' => wpAny (model prog w) A (match o with
      | some it => (specialOf it "__next__" >>= fun o => match o with
        | none => (do rule "iter.non-iterator"; raiseError "TypeError" s!"iter() returned non-iterator of type '{← typeNameOf it}'")
        | some _ => pure it)
      | none => (do
        match ← bindSpecialIfBound? (.ref x) "__getitem__" with
        | none => rule "iter.not-iterable"; raiseError "TypeError" s!"'{← typeNameOf (.ref x)}' object is not iterable"
        | some _ => rule "iter.getitem-fallback"; newFields "iterator" [.ref x, ← mkInt 0])) Q E s') E s := by
    rw [if_neg (by decide)]
    exact wpAny_bind (wpAny_mono run (fun v s' h' => wpAny_pure h') fun _ _ h' => h')
  split
  · exact wpAny_bind (wpAny_pure (wpAny_pure fin))
  · exact wpAny_tryCatch (wpAny_bind (wpAny_pure (wpAny_pure fin)))

theorem next_pile {it l : Addr} {i : Nat} {ol : Obj} {nl : Nat} {items : Array Value} {x : Value} {Q : Option Value → Shared → Prop} (hit : s.heap.IsListIter it l i)
    (hol : s.heap.get? l = some ol) (hdl : ol.data = .seq items nl) (hx : items[i]? = some x)
    (hQ : ∀ h', h'.IsListIter it l (i + 1) → Heap.SameBut it s.heap h' → Q (some x) { s with heap := h' }) :
    wpAny (model prog w) A (pyNext (.ref it)) Q E s := by
  obtain ⟨o, ho, hc, hd⟩ := id hit
  unfold pyNext
  refine wpAny_bind (wpAny_attempt (wpAny_callSpecial?_slot (name := Str.ofString "__next__") hit.typeIs slot_listiter_next (wpAny_call_entry slot_listiter_next hit.typeIs entry_listiter_next ?_ (args_listiter_next _))))
  show wpAny _ _ (field (.ref it) 0 >>= _) _ _ s
  refine wpAny_bind (wpAny_field ho hd (x := .ref l) rfl ?_)
  show wpAny _ _ (if (Value.ref l == Value.none) = true then _ else _) _ _ s
  rw [if_neg (show ¬ ((Value.ref l == Value.none) = true) from Bool.false_ne_true)]
  show wpAny _ _ (field (.ref it) 1 >>= _) _ _ s
  refine wpAny_bind (wpAny_field ho hd (x := .int i 0) rfl ?_)
  show wpAny _ _ (seqItems? (.ref l) >>= _) _ _ s
  refine wpAny_bind (wpAny_seqItems hol hdl ?_)
  simp only [Int.toNat_natCast, hx]
  refine wpAny_bind (wpAny_setField ho hd (by simp) (wpAny_pure ⟨x, rfl, wpAny_pure (hQ _ ?_ (Heap.SameBut.update ..))⟩))
  exact ⟨_, Heap.get?_update_self _ ho (Obj.isFreed_of_fields (Obj.data_mapFields hd _)), (Obj.cls_mapFields ..).trans hc, by
    rw [Obj.data_mapFields hd]; simp [rawInt]⟩

theorem stop_pile {it l : Addr} {i : Nat} {ol : Obj} {nl : Nat} {items : Array Value} {Q : Option Value → Shared → Prop} (hh : A.handled = none) (hit : s.heap.IsListIter it l i)
    (hol : s.heap.get? l = some ol) (hdl : ol.data = .seq items nl) (hx : items[i]? = none)
    (hQ : ∀ h', Heap.ExtBut it s.heap h' → Q none { s with heap := h' }) : wpAny (model prog w) A (pyNext (.ref it)) Q E s := by
  obtain ⟨o, ho, hc, hd⟩ := id hit
  unfold pyNext
  refine wpAny_bind (wpAny_attempt (wpAny_callSpecial?_slot (name := Str.ofString "__next__") hit.typeIs slot_listiter_next (wpAny_call_entry slot_listiter_next hit.typeIs entry_listiter_next ?_ (args_listiter_next _))))
  show wpAny _ _ (field (.ref it) 0 >>= _) _ _ s
  refine wpAny_bind (wpAny_field ho hd (x := .ref l) rfl ?_)
  show wpAny _ _ (if (Value.ref l == Value.none) = true then _ else _) _ _ s
  rw [if_neg (show ¬ ((Value.ref l == Value.none) = true) from Bool.false_ne_true)]
  show wpAny _ _ (field (.ref it) 1 >>= _) _ _ s
  refine wpAny_bind (wpAny_field ho hd (x := .int i 0) rfl ?_)
  show wpAny _ _ (seqItems? (.ref l) >>= _) _ _ s
  refine wpAny_bind (wpAny_seqItems hol hdl ?_)
  simp only [Int.toNat_natCast, hx]
  refine wpAny_bind (wpAny_rule (wpAny_bind (wpAny_setField ho hd (by simp) ?_)))
  show wpAny _ _ (newExc (.type "StopIteration") [] >>= _) _ _ _
  refine wpAny_bind ?_
  simp only [newExc, newTuple]
  refine wpAny_bind (wpAny_newObj_type ?_ (by size_fits))
  refine wpAny_bind (m := firstArgMember _ _) (wpAny_of_eq (a := Value.none) (by first | rfl | (simp only [firstArgMember]; rfl)) ?_)
  refine wpAny_newObj_type ?_ (by size_fits)
  simp only [raiseNew]
  refine wpAny_bind (wpAny_handled ?_)
  rw [show A.in1.handled = none from hh]
  refine wpAny_bind (wpAny_pure (wpAny_throw ?_))
  refine wpAny_bind (wpAny_isInstance (T := "StopIteration") (b := true) ⟨_, Heap.get?_push_size _ rfl, rfl⟩ isSubtype_stop ?_)
  exact wpAny_pure (hQ _ (((Heap.SameBut.update ..).extBut.push _).push _))
end
end Mine
end
section
set_option maxRecDepth 100000
namespace Mine
open PySem PySem.Calls PyProof.Rows PySem.W PySem.SeqAt Builtin

theorem St.updX {B s : Shared} {cs cs' : List Cel} (H : St B cs s) {h' : Heap} {t : Nat} {a : Addr} {P P' : Obj → Prop} (U : Upd a P P' cs cs') (hs : Heap.ExtBut a s.heap h') (p : ∃ o, h'.get? a = some o ∧ P' o) :
    St B cs' { s with heap := h', toks := t } := by
  refine H.mk' (fun b o e => hs b o (H.ne U.mem e) (H.keep b o e)) (U.fst ▸ H.nodup) fun c hc => ?_
  rcases U.of H.nodup c hc with rfl | ⟨ne, hm⟩
  · exact ⟨(H.own _ U.mem).1, p⟩
  · exact ⟨(H.own c hm).1, let ⟨o, x, y⟩ := (H.own c hm).2; ⟨o, hs _ _ ne x, y⟩⟩

noncomputable abbrev PileAt (x dx : Addr) (as : List Addr) (ps : List (Str × Str)) (h : Heap) : Prop :=
  (∃ n, h.get? x = some (pileObj dx (as.map .ref) n)) ∧ ∀ (j : Nat) (a : Addr) (p : Str × Str), as[j]? = some a → ps[j]? = some p → ∃ t u, h.IsTuple a #[.str p.1 t, .str p.2 u]

theorem walks_pile {prog : Program} {w : World} {A : Around} (hh : A.handled = none) {I x dx : Addr} {as : List Addr} {ps : List (Str × Str)} (hlen : as.length = ps.length) (hne : x ≠ I) (hni : I ∉ as) :
    WalksU prog w A I (I :: x :: as) [I] as.length (fun i vals => ∃ p t u, ps[i]? = some p ∧ vals = #[.str p.1 t, .str p.2 u])
      (fun i h => h.IsListIter I x i ∧ PileAt x dx as ps h) (fun i T h => (h.IsListIter I x (i + 1) ∧ PileAt x dx as ps h) ∧ T ≠ I) where
  sub := fun b hb => by simp at hb; simp [hb]
  frame := fun i h h' ⟨⟨o, ho, r⟩, ⟨n, hx⟩, ht⟩ hk => ⟨⟨o, hk I (by simp) _ ho, r⟩, ⟨n, hk x (by simp) _ hx⟩, fun j a p ha hp => by
    obtain ⟨t, u, o, ho, r⟩ := ht j a p ha hp
    exact ⟨t, u, o, hk a (by simp [List.mem_of_getElem? ha]) _ ho, r⟩⟩
  item := fun i s Q E hi ⟨hit, ⟨n, hx⟩, ht⟩ hQ => by
    obtain ⟨a, ha⟩ : ∃ a, as[i]? = some a := ⟨_, List.getElem?_eq_getElem hi⟩
    obtain ⟨p, hp⟩ : ∃ p, ps[i]? = some p := ⟨_, List.getElem?_eq_getElem (by lia)⟩
    have hai : a ≠ I := fun e => hni (e ▸ List.mem_of_getElem? ha)
    refine next_pile hit hx rfl (x := .ref a) (by simp [ha]) fun h' hit' hs => ?_
    have k : ∀ b o, b ∉ [I] → s.heap.get? b = some o → h'.get? b = some o := fun b o hb e => hs.extBut b o (by simpa using hb) e
    have ht' : ∀ (j : Nat) (a : Addr) (p : Str × Str), as[j]? = some a → ps[j]? = some p → ∃ t u, h'.IsTuple a #[.str p.1 t, .str p.2 u] := fun j a p ha hp => by
      obtain ⟨t, u, o, ho, r⟩ := ht j a p ha hp
      exact ⟨t, u, o, k a _ (by simp; exact fun e => hni (e ▸ List.mem_of_getElem? ha)) ho, r⟩
    obtain ⟨t, u, hT⟩ := ht' i a p ha hp
    exact hQ a _ h' s.toks ⟨p, t, u, hp, rfl⟩ hT ⟨⟨hit', ⟨n, k x _ (by simpa using hne) hx⟩, ht'⟩, hai⟩ k
  go := fun elts k pos i T s Q E ⟨⟨hit, hp⟩, _⟩ hQ => by
    obtain ⟨o, ho, hc, hd⟩ := id hit
    exact own_of ho hc hd (by decide) (hQ s.heap ⟨hit, hp⟩ fun _ _ _ e => e)
  apart := fun i T h ⟨_, hT⟩ => by simpa using hT
  done := fun s Q E ⟨hit, ⟨n, hx⟩, ht⟩ hQ => stop_pile hh hit hx rfl (by simp) fun h' he => hQ h' s.toks fun b o hb e => he b o (by simpa using hb) e
  self := fun i s Q E ⟨hit, _⟩ hQ => wpAny_pyIter_listiter hit hQ

theorem walksShift {prog : Program} {w : World} {A : Around} {I : Addr} {fp wr : List Addr} {G : Array GenState → Array GenState → Prop} {n : Nat} {P : Nat → Value → Prop} {S : Nat → Shared → Prop} (W : WalksS prog w A I fp wr G n P S) :
    WalksS prog w A I fp wr G (n + 1) (fun i v => match i with | 0 => False | j + 1 => P j v) (fun i s => match i with | 0 => False | j + 1 => S j s) where
  sub := W.sub
  grefl := W.grefl
  gtrans := W.gtrans
  frame := fun i s h' tk st ht hk => by
    cases i with
    | zero => exact st.elim
    | succ j => exact W.frame j s h' tk st ht hk
  item := fun i s Q E hi st hQ => by
    cases i with
    | zero => exact st.elim
    | succ j => exact W.item j s Q E (by (exact Nat.le_of_lt_succ (by assumption))) st hQ
  done := fun s Q E st hQ => W.done s Q E st hQ
  self := fun i s Q E st hQ => by
    cases i with
    | zero => exact st.elim
    | succ j => exact W.self j s Q E st hQ

theorem preSum_shift (n0 : Int) (val : Nat → Int) : ∀ n, preSum (fun i => match i with | 0 => n0 | j + 1 => val j) (n + 1) = n0 + ((List.range n).map val).sum
  | 0 => by simp [preSum]
  | n + 1 => by
    rw [preSum, preSum_shift n0 val n, List.range_succ]; simp [Int.add_assoc]

theorem args_sum2 (a b : Value) : argsOk "sum" ⟨[a, b], []⟩ := by unfold argsOk; kernel_rfl

section
variable {prog : Program} {w : World} {A : Around} {E : Value → Shared → Prop} {s : Shared}

end
namespace F2D
noncomputable abbrev Xq := (Program) × (World) × (Around) × (Value → Shared → Prop) × (Shared) × (Value) × (Int) × (Tok) × (Value → Shared → Prop)
noncomputable def Sq (prog : Program) (w : World) (A : Around) (E : Value → Shared → Prop) (s : Shared) (x : Value) (n0 : Int) (t0 : Tok) (Q : Value → Shared → Prop) : Prop :=
  ∀ (h : wpAny (model prog w) A.in1 (pyIter x) (fun it s₂ => ∃ I fp wr G n P S val, it = .ref I ∧ WalksS prog w A.in1 I fp wr G n P S ∧ S 0 s₂ ∧ (∀ b ∈ fp, b < s₂.heap.objs.size) ∧
      (∀ i v, P i v → ∃ t, v = .int (val i) t) ∧
      ∀ s' t', Moved wr G s₂ s' → Q (.int (n0 + ((List.range n).map val).sum) t') s') E s),
    wpAny (model prog w) A (call (.builtin "sum") [x, .int n0 t0]) Q E s
noncomputable def Tq (x : Xq) : Prop := Sq x.1 x.2.1 x.2.2.1 x.2.2.2.1 x.2.2.2.2.1 x.2.2.2.2.2.1 x.2.2.2.2.2.2.1 x.2.2.2.2.2.2.2.1 x.2.2.2.2.2.2.2.2
noncomputable def xq : Xq := @Classical.epsilon Xq ⟨⟨default, dumW, {}, fun _ _ => True, dumS, default, 0, default, fun _ _ => True⟩⟩ fun x => ¬ Tq x
noncomputable def prog : Program := xq.1
noncomputable def w : World := xq.2.1
noncomputable def A : Around := xq.2.2.1
noncomputable def E : Value → Shared → Prop := xq.2.2.2.1
noncomputable def s : Shared := xq.2.2.2.2.1
noncomputable def x : Value := xq.2.2.2.2.2.1
noncomputable def n0 : Int := xq.2.2.2.2.2.2.1
noncomputable def t0 : Tok := xq.2.2.2.2.2.2.2.1
noncomputable def Q : Value → Shared → Prop := xq.2.2.2.2.2.2.2.2
theorem at_ : Sq prog w A E s x n0 t0 Q := by
  intro h
  refine call_function_tree F.kind_sum F.plain_sum F.entry_sum (args_sum2 _ _) ?_
  unfold Builtin.«sum»
  simp only [List.length_cons, List.length_nil]
  rw [if_neg (by decide)]
  refine wpAny_bind (wpAny_of_eq (show Builtin.Builtins.bindParams "sum" ["start"] 0 ⟨[.int n0 t0], []⟩ = pure [some (.int n0 t0)] from rfl) ?_)
  refine wpAny_bind (wpAny_mono h (fun it s₂ h₂ => ?_) fun _ _ e => e)
  obtain ⟨I, fp, wr, G, n, P, S, val, rfl, W, hst, hfp, hval, hQ⟩ := h₂
  dsimp only
  have hSf : s₂.heap.objs.size ∉ fp := fun hm => Nat.lt_irrefl _ (hfp _ hm)
  split
  · refine wpAny_bind (wpAny_rule (wpAny_bind (wpAny_mkInt (wpAny_bind (wpAny_pure ?_)))))
    simp only [List.forIn_cons, List.forIn_nil]
    refine wpAny_bind (wpAny_bind (wpAny_bind (wpAny_isInstance (T := "int") (b := false) (typeIs_int _ _ _) PyProof.Rows.sub_int_str ?_)))
    simp only [Bool.false_eq_true, if_false]
    refine wpAny_pure (wpAny_bind (wpAny_bind (wpAny_isInstance (T := "int") (b := false) (typeIs_int _ _ _) sub_int_bytes ?_)))
    simp only [Bool.false_eq_true, if_false]
    refine wpAny_pure (wpAny_bind (wpAny_bind (wpAny_isInstance (T := "int") (b := false) (typeIs_int _ _ _) sub_int_bytearray ?_)))
    simp only [Bool.false_eq_true, if_false]
    refine wpAny_pure (wpAny_pure ?_)
    refine wpAny_bind (wpAny_newObj_type ?_)
    refine wpAny_pure ⟨plainId_quiet F.plain_sum_loop _, codeAny_sum_loopAnyS (walksShift W) (fun i => match i with | 0 => n0 | j + 1 => val j) (fun i v hv => ?_) s₂.heap.objs.size hSf n 1 _ s₂.toks 0 0 (.inl rfl) rfl (by (exact Nat.succ_pos _))
      (W.frame 0 s₂ _ _ hst (by first | exact Nat.le_refl _ | exact Nat.le_succ _ | omega) fun b _ o e => Heap.get?_push_of_some _ e) ?_ fun s' t' hm => ?_⟩
    · cases i with
      | zero => exact hv.elim
      | succ j => exact hval j v hv
    · have e : preSum (fun i => match i with | 0 => n0 | j + 1 => val j) 1 = n0 := by simp [preSum]
      rw [e]
      exact Heap.get?_push_size _ rfl
    · rw [preSum_shift]
      exact hQ s' t' (hm.drop_new (by first | exact Nat.le_refl _ | exact Nat.le_succ _ | omega))
  · refine wpAny_bind (wpAny_pure ?_)
    simp only [List.forIn_cons, List.forIn_nil]
    refine wpAny_bind (wpAny_bind (wpAny_bind (wpAny_isInstance (T := "int") (b := false) (typeIs_int _ _ _) PyProof.Rows.sub_int_str ?_)))
    simp only [Bool.false_eq_true, if_false]
    refine wpAny_pure (wpAny_bind (wpAny_bind (wpAny_isInstance (T := "int") (b := false) (typeIs_int _ _ _) sub_int_bytes ?_)))
    simp only [Bool.false_eq_true, if_false]
    refine wpAny_pure (wpAny_bind (wpAny_bind (wpAny_isInstance (T := "int") (b := false) (typeIs_int _ _ _) sub_int_bytearray ?_)))
    simp only [Bool.false_eq_true, if_false]
    refine wpAny_pure (wpAny_pure ?_)
    refine wpAny_bind (wpAny_newObj_type ?_)
    refine wpAny_pure ⟨plainId_quiet F.plain_sum_loop _, codeAny_sum_loopAnyS (walksShift W) (fun i => match i with | 0 => n0 | j + 1 => val j) (fun i v hv => ?_) s₂.heap.objs.size hSf n 1 _ t0 0 2 (.inr rfl) rfl (by (exact Nat.succ_pos _))
      (W.frame 0 s₂ _ _ hst (by first | exact Nat.le_refl _ | exact Nat.le_succ _ | omega) fun b _ o e => Heap.get?_push_of_some _ e) ?_ fun s' t' hm => ?_⟩
    · cases i with
      | zero => exact hv.elim
      | succ j => exact hval j v hv
    · have e : preSum (fun i => match i with | 0 => n0 | j + 1 => val j) 1 = n0 := by simp [preSum]
      rw [e]
      exact Heap.get?_push_size _ rfl
    · rw [preSum_shift]
      exact hQ s' t' (hm.drop_new (by first | exact Nat.le_refl _ | exact Nat.le_succ _ | omega))
theorem all_ (x : Xq) : Tq x := Classical.byContradiction fun hn => Classical.epsilon_spec (p := fun x => ¬ Tq x) ⟨x, hn⟩ at_
end F2D
section
variable {prog : Program} {w : World} {A : Around} {E : Value → Shared → Prop} {s : Shared}
theorem f_sum2 {x : Value} {n0 : Int} {t0 : Tok} {Q : Value → Shared → Prop} (h : wpAny (model prog w) A.in1 (pyIter x) (fun it s₂ => ∃ I fp wr G n P S val, it = .ref I ∧ WalksS prog w A.in1 I fp wr G n P S ∧ S 0 s₂ ∧ (∀ b ∈ fp, b < s₂.heap.objs.size) ∧
      (∀ i v, P i v → ∃ t, v = .int (val i) t) ∧
      ∀ s' t', Moved wr G s₂ s' → Q (.int (n0 + ((List.range n).map val).sum) t') s') E s) :
    wpAny (model prog w) A (call (.builtin "sum") [x, .int n0 t0]) Q E s :=
  F2D.all_ ⟨prog, w, A, E, s, x, n0, t0, Q⟩ h

end
end Mine
end
section
set_option maxRecDepth 100000
namespace Mine
open PySem PySem.Calls PyProof.Rows PySem.W PySem.SeqAt Builtin

noncomputable def TabO (o : Obj) : Prop := ∃ ps, o = { cls := .none, data := .fields ps } ∧ TriplesOk ps.toList

noncomputable def FnAtC (h : Heap) (a : Addr) (cd : Value) (F : Value → Value → Value → FuncData) : Prop := ∃ o pm ct, h.get? a = some o ∧ o.data = .func (F pm cd ct) ∧ h.CodeRec cd (F pm cd ct).qualname

structure AccL (B : Shared) : Prop where
  len : FnAtC B.heap 85 (.ref 84) (fdOf (stIn 4) "_Accumulator.__len__" [] .none)
  code : ∃ o vs file tf flags tg inF text tt, B.heap.get? 84 = some o ∧ o.cls = .type "code" ∧ o.data = .fields vs ∧ vs[11]? = some (.ref 80) ∧ vs.getD 11 .none = .ref 80 ∧ vs.getD 18 .none = .str file tf ∧
    vs.getD 7 .none = .int flags tg ∧ vs.getD 9 .none = .bool inF ∧ vs.getD 10 .none = .int text tt
  bm : ∃ mg bm ob, BMod B.heap mainGlobals mg bm ob

noncomputable def wsum (ps : List (Str × Str)) : Int := (ps.map fun p => ((p.1.length : Int) + p.2.length)).sum
noncomputable def valM (ps : List (Str × Str)) (j : Nat) : Int := match ps[j]? with | some p => (p.1.length : Int) + p.2.length | none => 0
theorem val_sum (ps : List (Str × Str)) : ((List.range ps.length).map (valM ps)).sum = wsum ps := by
  unfold wsum
  congr 1
  apply List.ext_getElem?
  intro i
  rw [List.getElem?_map, List.getElem?_map]
  by_cases h : i < ps.length
  · rw [List.getElem?_range h, List.getElem?_eq_getElem h]; simp [valM, List.getElem?_eq_getElem h]
  · rw [List.getElem?_eq_none (by simp; (exact Nat.le_of_not_lt (by assumption))), List.getElem?_eq_none (by (exact Nat.le_of_not_lt (by assumption)))]; rfl
theorem pass_all (n : Nat) : passing (fun _ => true) n 0 = List.range n := by
  unfold passing; rw [List.drop_zero, List.filter_eq_self.mpr (by simp)]

section
variable {prog : Program} {w : World} {M : Model} {A : Around} {E : Value → Shared → Prop} {B s : Shared} {cs cs' : List Cel} {env : Env} {Q : Value → Shared → Prop} {K : Frag}

theorem p_getSizeX {x dx : Addr} {vs : List Value} {v : Value} {m : Str → Option Value} {b : Bool} (C : Acc B K) (hk : K.In s.heap) {n : Nat} {od : Obj} (hob : s.heap.get? x = some (pileObj dx vs n)) (hod : s.heap.get? dx = some od) (hon : NsO m od) (hm : m (Str.ofString "_initial_size") = some v) (hv : handedIn v = true)
    (h : Q v { s with toks := s.toks + 1 }) : wpAny (model prog w) A (getAttr (.ref x) (Str.ofString "_initial_size") b) Q E s := by
  obtain ⟨cd, hcd, _, _, _, hmro, hhd⟩ := C.cls
  have hI : InstAt s.heap x (pileObj dx vs n) 118 (some od) := ⟨hob, rfl, rfl, hod⟩
  have hl := lookIn_ns hon (Str.ofString "_initial_size")
  rw [hm] at hl
  exact get_valueL hk hI C.ga C.gt C.lst (findObj_own (by unfold hasDictIn; rw [hcd]; exact hhd) C.size rfl hl) hv h

theorem genCode_tab {pos : Pos} {qualname : Str} {scope : Scope} {Q : Value → Shared → Prop} (AL : AccL B) (H : St B cs s) (htab : (80, TabO) ∈ cs) (hc : env.code = .ref 84)
    (hQ : ∀ code h3 tk3, Heap.ExtBut 80 s.heap h3 → St B cs { s with heap := h3, toks := tk3 } → Q code { s with heap := h3, toks := tk3 }) : wpAny M A (genexprCode env pos qualname scope) Q E s := by
  obtain ⟨oc, vc, file, tf, flags, tg, inF, text, tt, hc84, hcc, hd84, q0, q1, q2, q3, q4, q5⟩ := AL.code
  obtain ⟨ot, ht80, pst, rfl, htr⟩ := H.get htab
  have hI : s.heap.IsCode 84 80 pst := ⟨oc, vc, file, tf, flags, tg, inF, text, tt, _, H.keep _ _ hc84, hd84, q1, q2, q3, q4, q5, ht80, rfl, htr, by decide⟩
  cases hnf : codeAmong pos pst.toList with
  | some c' => exact wpAny_genexprCode_hit hc hI hnf (hQ _ s.heap s.toks (Heap.ExtBut.refl _ _) (H.tok s.toks))
  | none =>
    refine wpAny_genexprCodeX hc hI ⟨⟨oc, vc, H.keep _ _ hc84, hcc, hd84, q0⟩, ht80⟩ hnf fun c' h3 tk3 hx _ _ _ _ ht3 _ => hQ _ h3 tk3 hx ?_
    obtain ⟨c1, U⟩ := upd_id htab
    have := H.updX (t := tk3) U hx ⟨_, ht3.2, _, rfl, by
      have e : (pst ++ #[rawInt pos.line, rawInt pos.col, .ref c']).toList = pst.toList ++ [rawInt pos.line, rawInt pos.col, .ref c'] := by simp
      rw [e]; exact TriplesOk_snoc _ _ _ _ htr⟩
    rw [upd_same U] at this; exact this

theorem call_fnL {a : Addr} {cd : Value} {F : Value → Value → Value → FuncData} {name qual : Str} {params : Arguments} {body : List Stmt} {scope : Scope} {dV : Value} {args : List Value} {binds : List (Str × Value)} {k : Nat}
    (hF : FnAtC B.heap a cd F) (hfd : ∀ pm ct, F pm cd ct = fnX name qual params body scope [] dV .none .none pm none cd ct) (ok : Ok A (k + 1)) (N : Names B) (H : St B cs s)
    (hbind : ∀ pm ct, BindsTo s (fnX name qual params body scope [] dV .none .none pm none cd ct) ⟨args, []⟩ binds)
    (h : ∀ L s1 E', Ok (A.deeper (envX qual scope L a cd [])) k → St B ((L, NsO fun x => binds.reverse.lookup x) :: cs) s1 →
      wpAny (model prog w) (A.deeper (envX qual scope L a cd [])) (execs body (envX qual scope L a cd [])) (fun f s' => Q (match f with | .ret v => v | _ => .none) s') E' s1)
    (hloc : ∀ x ∈ binds, scope.names.lookup x.1 = some .local := by exact locs rfl)
    (hcell : ∀ x ∈ scope.names, x.2 ≠ .cell := by decide)
    (hco : scope.isCoroutine = false := by rfl) (hgen : scope.isGenerator = false := by rfl) (hk : scope.kind = .function := by rfl) :
    wpAny (model prog w) A (call (.ref a) args) Q E s := by
  obtain ⟨o, pm, ct, ho, hd, hc⟩ := hF
  rw [hfd] at hd hc
  refine wpAny_call (codeAny_call_def ok.room (H.keep _ _ ho) hd (N.lim.keeps H.keep) (hc.keeps H.keep) rfl (hbind pm ct) hcell hloc (fun h₀ hn hk' => ?_) hco hgen hk)
  exact h _ _ _ (ok.deeper _) (H.new (t := s.toks + binds.length) hk' (nsO hn))

theorem St.moved {g : Nat} {s' : Shared} {wr : List Addr} {s2 : Shared} (H : St B cs s) (hk : ∀ b o, s.heap.get? b = some o → s2.heap.get? b = some o) (hw : ∀ b ∈ wr, B.heap.get? b = none ∧ b ∉ cs.map Prod.fst) (hos : s2.os = s.os)
    (hg : ∃ x, x.bare = true ∧ s2.gens = s.gens.push x) (hgn : g = s.gens.size) (hm : Moved wr (GenOnlyQ g) s2 s') : St B cs s' := by
  obtain ⟨x, hx, hgs⟩ := hg
  have hgens := hm.gens
  rw [hgs] at hgens
  have old : ∀ (i : Nat) (y : GenState), s.gens[i]? = some y → s'.gens[i]? = some y := fun i y e => by
    have hi := (Array.getElem?_eq_some_iff.mp e).1
    have e2 : (s.gens.push x)[i]? = some y := by rw [Array.getElem?_push_lt hi]; rw [Array.getElem?_eq_getElem hi] at e; exact e
    rcases hgens with h | ⟨⟨_, h⟩, _⟩
    · rw [h]; exact e2
    · rw [h i (by lia)]; exact e2
  refine ⟨fun b o e => hm.heap b o (fun hb => by rw [(hw b hb).1] at e; cases e) (hk b o (H.keep b o e)), H.nodup,
    fun c hc => ⟨(H.own c hc).1, let ⟨o, a, b⟩ := (H.own c hc).2; ⟨o, hm.heap _ o (fun hb => (hw _ hb).2 (List.mem_map_of_mem hc)) (hk _ _ a), b⟩⟩, (hm.os.trans hos).trans H.os, fun y hy => ?_, fun i y e => old i y (H.gkeep i y e)⟩
  obtain ⟨i, hi, rfl⟩ := Array.mem_iff_getElem.mp hy
  have hi' : s'.gens[i]? = some s'.gens[i] := Array.getElem?_eq_getElem hi
  rcases hgens with h | ⟨⟨hsz, h⟩, hb⟩
  · have hmem : s'.gens[i] ∈ s.gens.push x := by rw [← h]; exact hy
    rcases Array.mem_push.mp hmem with h2 | h2
    · exact H.gens _ h2
    · rw [h2]; exact hx
  · by_cases e : i = g
    · subst e; exact hb _ hi'
    · have h3 := h i e
      rw [hi'] at h3
      have hlt : i < s.gens.size := by
        have := (Array.getElem?_eq_some_iff.mp h3.symm).1
        rw [Array.size_push] at this; lia
      have h4 : (s.gens.push x)[i]? = some s.gens[i] := by rw [Array.getElem?_push_lt hlt]
      rw [h4] at h3
      have : s'.gens[i] = s.gens[i] := Option.some.inj h3
      rw [this]; exact H.gens _ (Array.getElem_mem hlt)
end
end Mine
end
section
set_option maxRecDepth 100000
set_option maxHeartbeats 4000000
namespace Mine
open PySem PySem.Calls PyProof.Rows PySem.W PySem.SeqAt Builtin

section
variable {prog : Program} {w : World} {M : Model} {A : Around} {E : Value → Shared → Prop} {B s : Shared} {cs cs' : List Cel} {env : Env} {Q : Value → Shared → Prop} {K : Frag}

set_option maxHeartbeats 4000000 in
end
namespace LeD
noncomputable abbrev X := (Program) × (World) × (Around) × (Value → Shared → Prop) × (Shared) × (List Cel) × (Value → Shared → Prop) × (Frag) × (Addr) × (Addr) × (List Addr) × (List (Str × Str)) × (Str → Option Value) × (Int) × (Tok) × (Nat) × (Addr) × (Shared) × (Value → Shared → Prop)
noncomputable def S (prog : Program) (w : World) (A : Around) (E : Value → Shared → Prop) (B : Shared) (cs : List Cel) (Q : Value → Shared → Prop) (K : Frag) (x : Addr) (dx : Addr) (as : List Addr) (ps : List (Str × Str)) (m : Str → Option Value) (n : Int) (tn : Tok) (k : Nat) (L : Addr) (s1 : Shared) (E' : Value → Shared → Prop) : Prop :=
  ∀ (C : Acc B K) (AL : AccL B) (N : Names B) (ok : Ok A (k + 2)) (hx : (x, PileO dx (as.map .ref)) ∈ cs) (hd : (dx, NsO m) ∈ cs) (hm : m (Str.ofString "_initial_size") = some (.int n tn)) (htab : (80, TabO) ∈ cs) (hsub : ∀ c ∈ txtC as ps, c ∈ cs) (hlen : as.length = ps.length) (hz : ∀ p ∈ ps, p.1.length ≤ 1000 ∧ p.2.length ≤ 1000) (h : ∀ t s', St B cs s' → Q (.int (n + wsum ps) t) s'),
    Ok (A.deeper (envX "_Accumulator.__len__" (scOf (stIn 4)) L 85 (.ref 84) [])) (k + 1) → St B ((L, NsO fun zq => ([(Str.ofString "self", .ref x)] : List (Str × Value)).reverse.lookup zq) :: cs) s1 →
    wpAny (model prog w) (A.deeper (envX "_Accumulator.__len__" (scOf (stIn 4)) L 85 (.ref 84) [])) (execs (bdOf (stIn 4)) (envX "_Accumulator.__len__" (scOf (stIn 4)) L 85 (.ref 84) [])) (fun f s' => Q (match f with | .ret v => v | _ => .none) s') E' s1
noncomputable def T (x : X) : Prop := S x.1 x.2.1 x.2.2.1 x.2.2.2.1 x.2.2.2.2.1 x.2.2.2.2.2.1 x.2.2.2.2.2.2.1 x.2.2.2.2.2.2.2.1 x.2.2.2.2.2.2.2.2.1 x.2.2.2.2.2.2.2.2.2.1 x.2.2.2.2.2.2.2.2.2.2.1 x.2.2.2.2.2.2.2.2.2.2.2.1 x.2.2.2.2.2.2.2.2.2.2.2.2.1 x.2.2.2.2.2.2.2.2.2.2.2.2.2.1 x.2.2.2.2.2.2.2.2.2.2.2.2.2.2.1 x.2.2.2.2.2.2.2.2.2.2.2.2.2.2.2.1 x.2.2.2.2.2.2.2.2.2.2.2.2.2.2.2.2.1 x.2.2.2.2.2.2.2.2.2.2.2.2.2.2.2.2.2.1 x.2.2.2.2.2.2.2.2.2.2.2.2.2.2.2.2.2.2
noncomputable def x0 : X := @Classical.epsilon X ⟨⟨default, dumW, {}, fun _ _ => True, dumS, [], fun _ _ => True, [], 0, 0, [], [], default, 0, default, 0, 0, dumS, fun _ _ => True⟩⟩ fun x => ¬ T x
noncomputable def prog : Program := x0.1
noncomputable def w : World := x0.2.1
noncomputable def A : Around := x0.2.2.1
noncomputable def E : Value → Shared → Prop := x0.2.2.2.1
noncomputable def B : Shared := x0.2.2.2.2.1
noncomputable def cs : List Cel := x0.2.2.2.2.2.1
noncomputable def Q : Value → Shared → Prop := x0.2.2.2.2.2.2.1
noncomputable def K : Frag := x0.2.2.2.2.2.2.2.1
noncomputable def x : Addr := x0.2.2.2.2.2.2.2.2.1
noncomputable def dx : Addr := x0.2.2.2.2.2.2.2.2.2.1
noncomputable def as : List Addr := x0.2.2.2.2.2.2.2.2.2.2.1
noncomputable def ps : List (Str × Str) := x0.2.2.2.2.2.2.2.2.2.2.2.1
noncomputable def m : Str → Option Value := x0.2.2.2.2.2.2.2.2.2.2.2.2.1
noncomputable def n : Int := x0.2.2.2.2.2.2.2.2.2.2.2.2.2.1
noncomputable def tn : Tok := x0.2.2.2.2.2.2.2.2.2.2.2.2.2.2.1
noncomputable def k : Nat := x0.2.2.2.2.2.2.2.2.2.2.2.2.2.2.2.1
noncomputable def L : Addr := x0.2.2.2.2.2.2.2.2.2.2.2.2.2.2.2.2.1
noncomputable def s1 : Shared := x0.2.2.2.2.2.2.2.2.2.2.2.2.2.2.2.2.2.1
noncomputable def E' : Value → Shared → Prop := x0.2.2.2.2.2.2.2.2.2.2.2.2.2.2.2.2.2.2
theorem at_ : S prog w A E B cs Q K x dx as ps m n tn k L s1 E' := by
  intro C AL N ok hx hd hm htab hsub hlen hz h ok1 H1
  refine wpAny_execs_cons (wpAny_Return_some (e_call (n_blt H1 N (by k_mem) (by rfl) (cw_blt ?_))))
  refine wpAny_items_cons ?_
  refine wpAny_GeneratorExp_walksQT ok1.handled rfl rfl (by decide) rfl rfl rfl (by decide) rfl ok1.room (n_local H1 (.head _) rfl (pyIter_pile C H1 (.tail _ hx) ?_)) (by intro _; rfl)
  have hI : s1.heap.objs.size ∉ cs.map Prod.fst ∧ B.heap.get? s1.heap.objs.size = none ∧ x ≠ s1.heap.objs.size ∧ s1.heap.objs.size ∉ as := by
    have f := H1.free
    refine ⟨fun hm => f.2 (.tail _ hm), f.1, ?_, fun hm => ?_⟩
    · intro q
      have hx' := List.mem_map_of_mem (f := Prod.fst) hx
      dsimp only at hx'
      rw [q] at hx'
      exact f.2 (.tail _ hx')
    · obtain ⟨i, hi, e⟩ := List.getElem_of_mem hm
      obtain ⟨a, ha, hc⟩ := zip_mem (g := fun a p => ((a, TxtO p) : Cel)) hlen (List.getElem?_eq_getElem (by lia : i < ps.length))
      rw [List.getElem?_eq_getElem hi, e] at ha
      cases ha
      exact f.2 (.tail _ (List.mem_map_of_mem (f := Prod.fst) (hsub _ hc)))
  have H2 := H1.push (P := fun _ => True) (o := { cls := .type "list_iterator", data := .fields #[.ref x, .int 0 0] }) (t := s1.toks) trivial
  generalize hs2 : ({ s1 with heap := s1.heap.push { cls := .type "list_iterator", data := .fields #[.ref x, .int 0 0] } } : Shared) = s2 at H2 ⊢
  have hit : s2.heap.IsListIter s1.heap.objs.size x 0 := by rw [← hs2]; exact ⟨_, Heap.get?_push_size _ rfl, rfl, rfl⟩
  generalize s1.heap.objs.size = I at hI H2 hit ⊢
  clear hs2
  refine ⟨N.lim.keeps H2.keep, ?_⟩
  refine genCode_tab AL H2 (.tail _ (.tail _ htab)) rfl fun code h3 tk3 hx3 H3 => ?_
  have hit3 : h3.IsListIter I x 0 := by
    obtain ⟨o, e, r⟩ := hit
    refine ⟨o, hx3 _ _ (fun e2 => ?_) e, r⟩
    subst e2
    exact hI.1 (List.mem_map_of_mem (f := Prod.fst) htab)
  generalize hs3 : ({ s2 with heap := h3, toks := tk3 } : Shared) = s3 at H3 ⊢
  have hit4 : s3.heap.IsListIter I x 0 := by rw [← hs3]; exact hit3
  clear hs3 hit3 hx3 hit H2
  obtain ⟨mg, bm, ob, M⟩ := AL.bm
  have M3 := M.keeps H3.keep
  refine wpAny_builtinsFor M3.ns M3.name M3.ne M3.obj M3.cls M3.dict M3.data ?_
  obtain ⟨np, hxp⟩ := H3.pile (.tail _ (.tail _ hx))
  have htx : ∀ (j : Nat) (a : Addr) (p : Str × Str), as[j]? = some a → ps[j]? = some p → ∃ t u, s3.heap.IsTuple a #[.str p.1 t, .str p.2 u] := fun j a p ha hp => by
    obtain ⟨a', ha', hc⟩ := zip_mem (g := fun a p => ((a, TxtO p) : Cel)) hlen hp
    rw [ha] at ha'; cases ha'
    exact H3.txt (.tail _ (.tail _ (hsub _ hc)))
  have hlt : ∀ c ∈ (I, fun _ => True) :: (L, NsO fun y => [(Str.ofString "self", Value.ref x)].reverse.lookup y) :: cs, c.1 < s3.heap.objs.size := fun c hc => by
    obtain ⟨o, e, _⟩ := (H3.own c hc).2; exact Heap.lt_size e
  refine ⟨I, I :: x :: as, [I], as.length, _, _, _, fun _ => true, fun i y => ∀ p, ps[i]? = some p → ∃ t, y = .int ((p.1.length : Int) + p.2.length) t, rfl, fun A' hA => walks_pile (dx := dx) (ps := ps) hA hlen hI.2.2.1 hI.2.2.2, ?_, ⟨hit4, ⟨np, hxp⟩, htx⟩, ?_, N.lim.keeps H3.keep, ?_, ?_, ?_⟩
  · rintro i vals ⟨p, t, u, _, rfl⟩; exact ⟨_, _, rfl⟩
  · intro b hb
    rcases List.mem_cons.mp hb with rfl | hb
    · exact hlt _ (.head _)
    · rcases List.mem_cons.mp hb with rfl | hb
      · exact hlt _ (.tail _ (.tail _ hx))
      · obtain ⟨i, hi, rfl⟩ := List.getElem_of_mem hb
        obtain ⟨a, ha, hc⟩ := zip_mem (g := fun a p => ((a, TxtO p) : Cel)) hlen (List.getElem?_eq_getElem (by lia : i < ps.length))
        rw [List.getElem?_eq_getElem hi] at ha; cases ha
        exact hlt _ (.tail _ (.tail _ (hsub _ hc)))
  · intro hm
    obtain ⟨mc, hmc, _⟩ := N.lim
    have : cStatics = I := by simpa using hm
    obtain ⟨o, es, ep, ho, _⟩ := hmc
    rw [this, hI.2.1] at ho; cases ho
  · intro href hhref
    refine ⟨fun A' E' i va vb s4 m2 hA hP hn ha hb hk => wpAny_pure ⟨rfl, s4.heap, s4.toks, rfl, fun _ _ e => e⟩, fun A' E' i va vb s4 m2 hA hP _ hn ha hb hk => ?_⟩
    obtain ⟨p, t, u, hp, e⟩ := hP
    have e1 : va = .str p.1 t ∧ vb = .str p.2 u := by
      have h0 := congrArg (fun z : Array Value => z[0]?) e
      have h1 := congrArg (fun z : Array Value => z[1]?) e
      exact ⟨by simpa using h0, by simpa using h1⟩
    obtain ⟨rfl, rfl⟩ := e1
    have kb : ∀ b o, B.heap.get? b = some o → s4.heap.get? b = some o := fun b o e => hk b (List.mem_range.mpr (Heap.lt_size (H3.keep b o e))) (fun hm => by
      have : b = I := by simpa using hm
      rw [this, hI.2.1] at e; cases e) o (hhref _ _ (H3.keep b o e))
    obtain ⟨mg2, g, ge⟩ := N.gl
    obtain ⟨mb2, bb, be⟩ := N.bi
    have g1 := ge.2.2.2.2.2.2.2.2.2.2.2.2.2.2.2.2.2.2 "len" (by decide)
    have b1 := (be "len" (by decide)).trans (show bootBuiltins "len" = some (.builtin "len") by rfl)
    obtain ⟨z1, z2⟩ := hz p (List.mem_of_getElem? hp)
    refine wpAny_BinOp (e_call (Name_function_global rfl rfl (loadGlobal_builtin (g.keeps kb) g1 (bb.keeps kb) b1 (cw_blt (wpAny_items_cons (wpAny_Name (wpAny_loadName_local rfl rfl hn ha (wpAny_items_nil (PyProof.Rows.len_str (by lia) ?_))) (by decide))))) (by decide)))
    refine e_call (Name_function_global rfl rfl (loadGlobal_builtin (g.keeps kb) g1 (bb.keeps kb) b1 (cw_blt (wpAny_items_cons (wpAny_Name (wpAny_loadName_local rfl rfl hn hb (wpAny_items_nil (PyProof.Rows.len_str (by lia) ?_))) (by decide))))) (by decide))
    refine PyProof.Rows.add_int ⟨fun q hq => ?_, s4.heap, _, rfl, fun _ _ e => e⟩
    rw [hp] at hq; cases hq
    exact ⟨_, rfl⟩
  · intro a h5 tk gs hgb hag hsz5 hk5 W hat
    have hnL := (H3.ns (.tail _ (.head _))).keeps hk5
    obtain ⟨od, hod, hon⟩ := H3.get (.tail _ (.tail _ hd))
    have W1 := W.in4_1
    have hst := W1.frame 0 _ h5 (tk + 1) hat (Nat.le_succ _) (fun _ _ _ e => e)
    refine wpAny_items_cons (Attribute_name (wpAny_Name (wpAny_loadName_local rfl rfl hnL rfl ?_) (by decide)))
    refine p_getSizeX C ((H3.k C).keeps hk5) (hk5 _ _ hxp) (hk5 _ _ hod) hon hm rfl (wpAny_items_nil (f_sum2 ?_))
    refine W1.self 0 _ _ _ hst ⟨a, _, _, _, _, _, _, valM ps, rfl, W1, hst, ?_, ?_, fun s' t' hmv => ?_⟩
    · intro b hb
      show b < h5.objs.size
      rw [hsz5]
      rcases List.mem_cons.mp hb with rfl | hb
      · exact Nat.lt_succ_self _
      · rcases List.mem_cons.mp hb with rfl | hb
        · exact Nat.lt_succ_of_lt hag
        · exact Nat.lt_succ_of_lt (Nat.lt_trans (List.mem_range.mp hb) hag)
    · rintro j v ⟨i, hi, hF⟩
      rw [pass_all] at hi
      have hj : j < as.length := by
        have := (List.getElem?_eq_some_iff.mp hi).1; simpa using this
      rw [List.getElem?_range hj] at hi
      cases hi
      obtain ⟨p, hp⟩ : ∃ p, ps[j]? = some p := ⟨_, List.getElem?_eq_getElem (by lia)⟩
      obtain ⟨t, e⟩ := hF p hp
      exact ⟨t, by rw [e]; unfold valM; rw [hp]⟩
    · rw [pass_all, List.length_range, hlen, val_sum]
      refine h t' s' ?_
      have f := H3.free
      refine St.moved (s2 := { s3 with gens := s3.gens.push gs, toks := tk + 1, heap := h5 }) (H3.drop 2) hk5 (fun b hb => ?_) rfl ⟨gs, hgb, rfl⟩ rfl hmv
      rcases List.mem_cons.mp hb with rfl | hb
      · exact ⟨f.1, fun hm => f.2 (.tail _ (.tail _ hm))⟩
      · have : b = I := by simpa using hb
        subst this
        exact ⟨hI.2.1, hI.1⟩
theorem all_ (x : X) : T x := Classical.byContradiction fun hn => Classical.epsilon_spec (p := fun x => ¬ T x) ⟨x, hn⟩ at_
end LeD
section
variable {prog : Program} {w : World} {M : Model} {A : Around} {E : Value → Shared → Prop} {B s : Shared} {cs cs' : List Cel} {env : Env} {Q : Value → Shared → Prop} {K : Frag}
theorem spec_len {x dx : Addr} {as : List Addr} {ps : List (Str × Str)} {m : Str → Option Value} {n : Int} {tn : Tok} {k : Nat} (C : Acc B K) (AL : AccL B) (N : Names B) (ok : Ok A (k + 2)) (H : St B cs s) (hx : (x, PileO dx (as.map .ref)) ∈ cs) (hd : (dx, NsO m) ∈ cs) (hm : m (Str.ofString "_initial_size") = some (.int n tn)) (htab : (80, TabO) ∈ cs) (hsub : ∀ c ∈ txtC as ps, c ∈ cs) (hlen : as.length = ps.length) (hz : ∀ p ∈ ps, p.1.length ≤ 1000 ∧ p.2.length ≤ 1000) (h : ∀ t s', St B cs s' → Q (.int (n + wsum ps) t) s') :
    wpAny (model prog w) A (call (.ref 85) [.ref x]) Q E s := by
  refine call_fnL (binds := [(Str.ofString "self", .ref x)]) AL.len (fun _ _ => rfl) ok N H (fun _ _ => BindsTo.of_eq rfl) ?_
  intro L s1 E' ok1 H1
  exact LeD.all_ ⟨prog, w, A, E, B, cs, Q, K, x, dx, as, ps, m, n, tn, k, L, s1, E'⟩ C AL N ok hx hd hm htab hsub hlen hz h ok1 H1

end
end Mine
end
section
set_option maxRecDepth 100000
set_option maxHeartbeats 4000000
namespace Mine
open PySem PySem.Calls PyProof.Rows PySem.W PySem.SeqAt Builtin

noncomputable def blanks (j : Nat) : Str := ⟨(List.replicate j 32).toArray⟩
noncomputable def wordM (n : Nat) (b : Nat → Nat) (k : Nat) : Str × Str := (blanks ((k + 1) * (n - 1)), ⟨((97 + k) :: List.replicate (b k) 32).toArray⟩)
noncomputable def wordsM (n : Nat) (b : Nat → Nat) : List (Str × Str) := (List.range n).map (wordM n b)
noncomputable def bk (ks : List Int) (k : Nat) : Nat := (((ks.getD k 0).fdiv 7).fmod 4).toNat
theorem bk_lt (ks : List Int) (k : Nat) : bk ks k < 4 := by
  unfold bk
  have h1 := Int.fmod_nonneg_of_pos ((ks.getD k 0).fdiv 7) (show (0 : Int) < 4 by decide)
  have h2 := Int.fmod_lt_of_pos ((ks.getD k 0).fdiv 7) (show (0 : Int) < 4 by decide)
  (clear h1; omega)
theorem blank_str : Str.ofString " " = ⟨#[32]⟩ := by decide +kernel
theorem chr_blanks (c j : Nat) : (⟨#[c]⟩ : Str) ++ blanks j = ⟨(c :: List.replicate j 32).toArray⟩ := by
  show Str.mk _ = Str.mk _
  congr 1
  apply Array.ext'; simp [blanks]

section
variable {prog : Program} {w : World} {M : Model} {A : Around} {E : Value → Shared → Prop} {B s : Shared} {cs cs' : List Cel} {env : Env} {Q : Value → Shared → Prop} {K : Frag}

theorem cw_clsP {pos : Pos} {e : Expr} {rest : List Expr} (C : Acc B K) (hkp : keepIn K (.ref 118) = true) (H : St B cs s)
    (h : wpAny (model prog w) A (spliced (backTo pos (starEach (e :: rest) env))) (fun vs s₁ => (∃ cs₁, St B cs₁ s₁) ∧ wpAny (model prog w) A (call (.ref 118) vs) Q E s₁) E s)
    (he : starEach (e :: rest) env = (false, eval e env) :: starEach rest env := by rfl) (hp : (backTo pos (starEach rest env)).any (·.1) = false := by rfl) :
    wpAny (model prog w) A (callWith pos (.ref 118) [] (backTo pos (starEach (e :: rest) env)) []) Q E s := by
  refine callWith_K (K := K) (h₀ := s.heap) (H.k C) hkp (wpAny_mono h (fun vs s₁ h₁ => ?_) fun _ _ x => x) he hp
  obtain ⟨⟨cs₁, H₁⟩, h₁⟩ := h₁
  exact ⟨H₁.k C, h₁⟩

theorem f_len_pile {x dx : Addr} {as : List Addr} {ps : List (Str × Str)} {m : Str → Option Value} {n : Int} {tn : Tok} {k : Nat} (C : Acc B K) (AL : AccL B) (N : Names B) (ok : Ok A (k + 3)) (H : St B cs s)
    (hx : (x, PileO dx (as.map .ref)) ∈ cs) (hd : (dx, NsO m) ∈ cs) (hm : m (Str.ofString "_initial_size") = some (.int n tn)) (htab : (80, TabO) ∈ cs) (hsub : ∀ c ∈ txtC as ps, c ∈ cs) (hlen : as.length = ps.length) (hz : ∀ p ∈ ps, p.1.length ≤ 1000 ∧ p.2.length ≤ 1000)
    (h0 : 0 ≤ n + wsum ps) (h1 : n + wsum ps < 2 ^ 63)
    (h : ∀ t s', St B cs s' → Q (.int (n + wsum ps) t) s') : wpAny (model prog w) A (call (.builtin "len") [.ref x]) Q E s := by
  refine Calls.call_function_entry kind_len plain_len entry_len (args_len1 _) ?_
  unfold Builtin.«len»
  refine wpAny_bind (m := oneArg "len" _) (wpAny_pure ?_)
  refine wpAny_bind (m := callSpecial? (.ref x) (Str.ofString "__len__")) ?_
  unfold callSpecial?
  refine wpAny_bind ((H.psp C hx C.len).here ?_)
  refine wpAny_holding ?_
  refine wpAny_bind ((bind_fn (H.k C) (.ref x) (C.fns 85 (by decide))).here ?_)
  refine wpAny_bind (spec_len (k := k) C AL N ok.in1 H hx hd hm htab hsub hlen hz fun t s' H' => wpAny_pure ?_)
  refine wpAny_bind (wpAny_holding (wpAny_pure ?_))
  refine wpAny_bind (wpAny_letGo ?_)
  show wpAny _ _ (if n + wsum ps < 0 then _ else _) _ _ _
  rw [if_neg (by lia)]
  show wpAny _ _ (if n + wsum ps ≥ 2 ^ 63 then _ else _) _ _ _
  rw [if_neg (by lia)]
  exact wpAny_bind (wpAny_mkInt (wpAny_pure ⟨_, rfl, h _ _ (H'.tok _)⟩))

noncomputable def woR (L x dx : Addr) (n : Int) (tn : Tok) (nn : Nat) (b : Nat → Nat) (cs : List Cel) (y : (Str → Option Value) × List Addr) : List Cel :=
  (x, PileO dx (y.2.map .ref)) :: (dx, NsO (sizeM n tn)) :: (L, NsO y.1) :: (txtC y.2 (wordsM nn b) ++ cs)

set_option maxHeartbeats 4000000 in
end
namespace WoD
noncomputable abbrev X := (Program) × (World) × (Around) × (Value → Shared → Prop) × (Shared) × (List Cel) × (Value → Shared → Prop) × (Frag) × (Int) × (Nat) × (Tok) × (Addr) × (List Int) × (Nat) × (Addr) × (Value) × (Shared) × (Value → Shared → Prop)
noncomputable def S (prog : Program) (w : World) (A : Around) (E : Value → Shared → Prop) (B : Shared) (cs : List Cel) (Q : Value → Shared → Prop) (K : Frag) (n : Int) (nn : Nat) (tn : Tok) (nD : Addr) (ks : List Int) (k : Nat) (L : Addr) (cd : Value) (s1 : Shared) (E' : Value → Shared → Prop) : Prop :=
  ∀ (hn4 : nn ≤ 5) (hn : n = nn) (Fn : Fns B) (C : Acc B K) (AF : AccF B) (AS : AccS prog B) (hkp : keepIn K (.ref 118) = true) (N : Names B) (ok : Ok A (k + 4)) (hl : (nD, IntsO ks) ∈ cs) (hz : ks.length = 10) (h : ∀ x dx as s', as.length = nn → St B ((x, PileO dx (as.map .ref)) :: (dx, NsO (sizeM n tn)) :: (txtC as (wordsM nn (bk ks)) ++ cs)) s' → Q (.ref x) s'),
    Ok (A.deeper (envX "_law_words" (scOf (stOf 19)) L 182 cd [])) (k + 3) → St B ((L, NsO fun zq => ([(Str.ofString "n", .int n tn), (Str.ofString "numbers", .ref nD)] : List (Str × Value)).reverse.lookup zq) :: cs) s1 →
    wpAny (model prog w) (A.deeper (envX "_law_words" (scOf (stOf 19)) L 182 cd [])) (execs (bdOf (stOf 19)) (envX "_law_words" (scOf (stOf 19)) L 182 cd [])) (fun f s' => Q (match f with | .ret v => v | _ => .none) s') E' s1
noncomputable def T (x : X) : Prop := S x.1 x.2.1 x.2.2.1 x.2.2.2.1 x.2.2.2.2.1 x.2.2.2.2.2.1 x.2.2.2.2.2.2.1 x.2.2.2.2.2.2.2.1 x.2.2.2.2.2.2.2.2.1 x.2.2.2.2.2.2.2.2.2.1 x.2.2.2.2.2.2.2.2.2.2.1 x.2.2.2.2.2.2.2.2.2.2.2.1 x.2.2.2.2.2.2.2.2.2.2.2.2.1 x.2.2.2.2.2.2.2.2.2.2.2.2.2.1 x.2.2.2.2.2.2.2.2.2.2.2.2.2.2.1 x.2.2.2.2.2.2.2.2.2.2.2.2.2.2.2.1 x.2.2.2.2.2.2.2.2.2.2.2.2.2.2.2.2.1 x.2.2.2.2.2.2.2.2.2.2.2.2.2.2.2.2.2
noncomputable def x0 : X := @Classical.epsilon X ⟨⟨default, dumW, {}, fun _ _ => True, dumS, [], fun _ _ => True, [], 0, 0, default, 0, [], 0, 0, default, dumS, fun _ _ => True⟩⟩ fun x => ¬ T x
noncomputable def prog : Program := x0.1
noncomputable def w : World := x0.2.1
noncomputable def A : Around := x0.2.2.1
noncomputable def E : Value → Shared → Prop := x0.2.2.2.1
noncomputable def B : Shared := x0.2.2.2.2.1
noncomputable def cs : List Cel := x0.2.2.2.2.2.1
noncomputable def Q : Value → Shared → Prop := x0.2.2.2.2.2.2.1
noncomputable def K : Frag := x0.2.2.2.2.2.2.2.1
noncomputable def n : Int := x0.2.2.2.2.2.2.2.2.1
noncomputable def nn : Nat := x0.2.2.2.2.2.2.2.2.2.1
noncomputable def tn : Tok := x0.2.2.2.2.2.2.2.2.2.2.1
noncomputable def nD : Addr := x0.2.2.2.2.2.2.2.2.2.2.2.1
noncomputable def ks : List Int := x0.2.2.2.2.2.2.2.2.2.2.2.2.1
noncomputable def k : Nat := x0.2.2.2.2.2.2.2.2.2.2.2.2.2.1
noncomputable def L : Addr := x0.2.2.2.2.2.2.2.2.2.2.2.2.2.2.1
noncomputable def cd : Value := x0.2.2.2.2.2.2.2.2.2.2.2.2.2.2.2.1
noncomputable def s1 : Shared := x0.2.2.2.2.2.2.2.2.2.2.2.2.2.2.2.2.1
noncomputable def E' : Value → Shared → Prop := x0.2.2.2.2.2.2.2.2.2.2.2.2.2.2.2.2.2
theorem at_ : S prog w A E B cs Q K n nn tn nD ks k L cd s1 E' := by
  intro hn4 hn Fn C AF AS hkp N ok hl hz h ok1 H1
  refine wpAny_execs_cons ?_
  refine wpAny_Assign_Name (e_call (n_glob H1 (N.g fun mg h => h.2.2.2.2.2.2.2.2.2.2.2.2.2.1) (cw_clsP C hkp H1 (wpAny_items_cons (n_local H1 (by k_mem) rfl (wpAny_items_nil ⟨⟨_, H1⟩, ?_⟩))))))
  refine spec_new C AF AS N ok1 H1 fun x dx s2 H2 => ?_
  refine s_local (m' := fun _ => none) H2 (.tail (.tail .head)) fun s3 H3 => ?_
  refine wpAny_execs_cons ?_
  refine wpAny_For ?_
  refine e_call (n_blt H3 N (by k_mem) (by rfl) (cw_ty (wpAny_items_cons (n_local H3 (by k_mem) rfl (wpAny_items_nil (range1 H3 fun r s4 H4 => ?_))))))
  rw [show n = 0 + (nn : Int) by lia] at H4
  refine pyIter_range H4 (by (exact Int.natCast_nonneg _)) (by lia) fun it s5 H5 => ?_
  rw [show (0 : Int) + nn = n by lia] at H5
  refine r_for (iter_range ok1.handled) (woR L x dx n tn nn (bk ks) cs) (fun js y => y.1 (Str.ofString "pile") = some (.ref x) ∧ y.1 (Str.ofString "n") = some (.int n tn) ∧ y.1 (Str.ofString "numbers") = some (.ref nD) ∧ js = upR y.2.length (nn - y.2.length) ∧ y.2.length ≤ nn) (x0 := (_, [])) H5 ⟨rfl, rfl, rfl, rfl, Nat.zero_le _⟩ ?_ ?_
  · clear H5 H4 H3 H2 H1
    rintro j js v ⟨m, as⟩ s1 E1 ⟨tv, hv⟩ ⟨hmp, hmn, hmk, hjs, hle⟩ H1
    subst hv
    dsimp only at hmp hmn hmk hjs hle
    have hlt : as.length < nn := by
      rcases Nat.lt_or_ge as.length nn with q | q
      · exact q
      · rw [show nn - as.length = 0 by (clear hn4 hn hjs; lia)] at hjs; cases hjs
    rw [show nn - as.length = (nn - (as.length + 1)) + 1 by (clear hn4 hn hjs hle; lia)] at hjs
    injection hjs with hj1 hj2
    subst hj1
    refine wpAny_assign_Name (s_local (m' := fun _ => none) H1 (.tail (.tail (.tail .head))) fun s2 H2 => ?_)
    refine wpAny_execs_cons ?_
    refine wpAny_Expr ?_
    refine p_call C C.push (fn_ty C (by decide)) (.inl rfl) (n_local H2 (by k_mem) (by exact hmp) ⟨_, x, dx, _, _, rfl, H2, .tail _ (.head _), .tail _ (.tail _ (.head _)), rfl, ?_⟩) rfl
    refine cw_fnM AF.push (wpAny_items_cons (wpAny_BinOp (c_str H2 fun t3 s3 H3 => wpAny_BinOp (wpAny_BinOp (n_local H3 (by k_mem) rfl (c_int H3 fun t4 s4 H4 => i_add H4 fun t5 s5 H5 => ?_))))))
    refine wpAny_BinOp (n_local H5 (by k_mem) (by exact hmn) (c_int H5 fun t6 s6 H6 => i_sub H6 fun t7 s7 H7 => ?_))
    have eN : ((as.length : Int) + 1) * (n - 1) = (((as.length + 1) * (nn - 1) : Nat) : Int) := by
      rw [hn]; push_cast; rw [Int.ofNat_sub (by (exact Nat.zero_lt_of_lt (by assumption)))]; rfl
    have hb : (as.length + 1) * (nn - 1) ≤ 5 * 4 := Nat.mul_le_mul (by (exact Nat.lt_of_lt_of_le (by assumption) (by assumption))) (by (exact Nat.sub_le_of_le_add (by assumption)))
    refine i_mul H7 (IntMulOk.of_left ?_) fun t8 s8 H8 => ?_
    · have h5 : as.length = 0 ∨ as.length = 1 ∨ as.length = 2 ∨ as.length = 3 ∨ as.length = 4 := by lia
      rcases h5 with e | e | e | e | e <;> (rw [e]; decide +kernel)
    rw [eN, blank_str]
    refine t_mul1 H8 (by (clear hn4 hn hz hle hlt eN; omega)) (by (exact Int.natCast_nonneg _)) fun t9 s9 H9 => ?_
    refine wpAny_items_cons ?_
    refine wpAny_BinOp ?_
    refine e_call ?_
    refine n_blt H9 N (by k_mem) (by rfl) ?_
    refine cw_blt (wpAny_items_cons (wpAny_BinOp (c_int H9 fun t10 s10 H10 => n_local H10 (by k_mem) rfl (i_add H10 fun t11 s11 H11 => wpAny_items_nil (f_chr H11 (by (exact Int.natCast_nonneg _)) (by lia) fun t12 s12 H12 => ?_)))))
    refine wpAny_BinOp (c_str H12 fun t13 s13 H13 => wpAny_BinOp (wpAny_BinOp ?_))
    refine Subscript_ (n_local H13 (by k_mem) (by exact hmk) (n_local H13 (by k_mem) rfl ?_))
    have g0 : ks[((as.length : Nat) : Int).toNat]? = some (ks.getD as.length 0) := by
      rw [Int.toNat_natCast, List.getD_eq_getElem?_getD, List.getElem?_eq_getElem (by lia)]; rfl
    refine sub_ints H13 (.tail _ (.tail _ (.tail _ (.tail _ (List.mem_append_right _ hl))))) (by (exact Int.natCast_nonneg _)) (by lia) g0 fun t14 => ?_
    refine c_int H13 fun t15 s15 H15 => i_div H15 (by decide) (.inl (PyProof.noPylong_small (by decide))) fun t16 s16 H16 => c_int H16 fun t17 s17 H17 => i_mod H17 (by decide) fun t18 s18 H18 => ?_
    have hb4 := bk_lt ks as.length
    have hb0 := Int.fmod_nonneg_of_pos ((ks.getD as.length 0).fdiv 7) (show (0 : Int) < 4 by decide)
    have hb1 := Int.fmod_lt_of_pos ((ks.getD as.length 0).fdiv 7) (show (0 : Int) < 4 by decide)
    refine t_mul1 H18 (by (clear hn4 hn hz hle hlt eN hb hb4 hb0; omega)) hb0 fun t19 s19 H19 => ?_
    refine t_add H19 ?_ fun t20 s20 H20 => ?_
    · refine Nat.le_trans ?_ (show 100 ≤ sizeLine by decide)
      show Array.size _ + Array.size _ ≤ _
      simp only [List.size_toArray, List.length_replicate, List.length_cons, List.length_nil]; (clear hb0 hb1; lia)
    refine wpAny_items_nil ⟨⟨_, H20⟩, ?_⟩
    refine spec_push (k := k + 2) (ds := fun a => _) C AF N ok1 H20 (fun a => .tail .head) (.tail _ (.tail _ (.head _))) rfl (by rw [List.length_map]; exact Nat.le_trans (show as.length ≤ 100 by lia) (show 100 ≤ sizeLine by decide)) fun a s21 H21 => ?_
    have ew : (⟨#[((97 : Int) + (as.length : Int)).toNat]⟩ : Str) ++ (⟨(List.replicate ((ks.getD as.length 0).fdiv 7 |>.fmod 4).toNat 32).toArray⟩ : Str) = (wordM nn (bk ks) as.length).2 := by
      rw [show ((97 : Int) + (as.length : Int)).toNat = 97 + as.length by (exact Int.toNat_natCast _)]
      exact chr_blanks _ _
    rw [ew, Int.toNat_natCast] at H21
    have hw : (wordsM nn (bk ks))[as.length]? = some (wordM nn (bk ks) as.length) := by
      unfold wordsM
      rw [List.getElem?_map, List.getElem?_range hlt]; rfl
    have H22 := St.sink (pre := [_, _, _, _]) (T := txtC as (wordsM nn (bk ks))) H21
    have e4 : txtC as (wordsM nn (bk ks)) ++ [(a, TxtO (wordM nn (bk ks) as.length))] = txtC (as ++ [a]) (wordsM nn (bk ks)) := (zip_snoc (fun (a : Addr) (p : Str × Str) => ((a, TxtO p) : Cel)) a hw).symm
    have e5 : as.map Value.ref ++ [.ref a] = (as ++ [a]).map .ref := by simp
    refine wpAny_execs_nil ⟨rfl, (fun y => if y = Str.ofString "k" then some (.int as.length tv) else m y, as ++ [a]), ⟨by exact hmp, by exact hmn, by exact hmk, ?_, ?_⟩, ?_⟩
    · dsimp only
      rw [hj2, List.length_append]
      push_cast
      rfl
    · dsimp only; rw [List.length_append]; simp; assumption
    · unfold woR
      dsimp only
      rw [← e5, ← e4]
      exact H22
  · rintro ⟨m, as⟩ s1 ⟨hmp, hmn, hmk, hjs, hle⟩ H1
    dsimp only at hmp hmn hmk hjs hle
    have hl2 : as.length = nn := by
      rcases Nat.lt_or_ge as.length nn with q | q
      · rw [show nn - as.length = (nn - as.length - 1) + 1 by (clear hn4 hn H4 hjs hle; lia)] at hjs; cases hjs
      · (exact Nat.le_antisymm (by assumption) (by assumption))
    refine wpAny_execs_cons (wpAny_Return_some (n_local H1 (by k_mem) (by exact hmp) ?_))
    exact h x dx as s1 hl2 (H1.cut 2 1)
theorem all_ (x : X) : T x := Classical.byContradiction fun hn => Classical.epsilon_spec (p := fun x => ¬ T x) ⟨x, hn⟩ at_
end WoD
section
variable {prog : Program} {w : World} {M : Model} {A : Around} {E : Value → Shared → Prop} {B s : Shared} {cs cs' : List Cel} {env : Env} {Q : Value → Shared → Prop} {K : Frag}
theorem spec_words {n : Int} {nn : Nat} {tn : Tok} {nD : Addr} {ks : List Int} {k : Nat} (hn4 : nn ≤ 5) (hn : n = nn) (Fn : Fns B) (C : Acc B K) (AF : AccF B) (AS : AccS prog B) (hkp : keepIn K (.ref 118) = true) (N : Names B) (ok : Ok A (k + 4)) (H : St B cs s) (hl : (nD, IntsO ks) ∈ cs) (hz : ks.length = 10) (h : ∀ x dx as s', as.length = nn → St B ((x, PileO dx (as.map .ref)) :: (dx, NsO (sizeM n tn)) :: (txtC as (wordsM nn (bk ks)) ++ cs)) s' → Q (.ref x) s') :
    wpAny (model prog w) A (call (.ref 182) [.int n tn, .ref nD]) Q E s := by
  refine call_fn (binds := [(Str.ofString "n", .int n tn), (Str.ofString "numbers", .ref nD)]) Fn.words (fun _ _ _ => rfl) ok N H (fun _ _ _ => BindsTo.of_eq rfl) ?_
  intro L cd s1 E' ok1 H1
  exact WoD.all_ ⟨prog, w, A, E, B, cs, Q, K, n, nn, tn, nD, ks, k, L, cd, s1, E'⟩ hn4 hn Fn C AF AS hkp N ok hl hz h ok1 H1

end
end Mine
end
section
set_option maxRecDepth 100000
namespace Mine
open PySem PySem.Calls PyProof.Rows PySem.W PySem.SeqAt Builtin

noncomputable def letS (b : Nat → Nat) (k : Nat) : Str := ⟨((97 + k) :: List.replicate (b k) 32).toArray⟩
noncomputable def wS (b : Nat → Nat) (p : Nat × Nat) : Str × Str := (blanks p.1, letS b p.2)
noncomputable def decW (p : Nat × Nat) : Nat × Nat := (p.1 - (p.2 + 1), p.2)
noncomputable def exM (c : Nat) (ws : List (Nat × Nat)) : List (Nat × Nat) := ws.take c ++ ([decW (ws.getD (c + 1) (0, 0)), decW (ws.getD c (0, 0))] ++ ws.drop (c + 2))

theorem lead_w (i c : Nat) (r : List Nat) (hc : c ≠ 32) : lead (List.replicate i 32 ++ c :: r) = i := by
  induction i with
  | zero => simp [lead, hc]
  | succ i ih =>
    rw [List.replicate_succ, List.cons_append]
    have : lead (32 :: (List.replicate i 32 ++ c :: r)) = lead (List.replicate i 32 ++ c :: r) + 1 := by simp [lead]
    rw [this, ih]
theorem strip_w {i c a t : Nat} (hc : c ≠ 32) (ha : a ≤ i) : stripM (List.replicate i 32 ++ c :: List.replicate t 32) a = List.replicate (i - a) 32 ++ c :: List.replicate t 32 := by
  unfold stripM
  dsimp only
  rw [lead_w i c _ hc, Nat.min_eq_left ha, Nat.sub_self, Nat.zero_min, Nat.sub_zero]
  have e : (List.replicate i 32 ++ c :: List.replicate t 32).drop a = List.replicate (i - a) 32 ++ c :: List.replicate t 32 := by
    rw [List.drop_append_of_le_length (by simpa using ha), List.drop_replicate]
  rw [e, List.take_of_length_le]
  rw [← e, List.length_drop]; (exact Nat.le_refl _)
theorem strip_end {c t : Nat} (hc : c ≠ 32) (ht : t ≤ 3) : stripM (c :: List.replicate t 32) 3 = [c] := by
  unfold stripM
  dsimp only
  have h1 : lead (c :: List.replicate t 32) = 0 := lead_w 0 c _ hc
  have h2 : lead (c :: List.replicate t 32).reverse = t := by
    have := lead_w t c [] hc
    rw [List.reverse_cons, List.reverse_replicate]; exact this
  rw [h1, h2, show min 3 0 = 0 from rfl, show min (3 - 0) t = t by lia, List.drop_zero, show (c :: List.replicate t 32).length - t - 0 = 1 by rw [List.length_cons, List.length_replicate]; (exact Nat.add_sub_cancel_left _ _)]
  rfl
theorem word_txt (b : Nat → Nat) (p : Nat × Nat) : ((wS b p).1 ++ (wS b p).2).cps.toList = List.replicate p.1 32 ++ (97 + p.2) :: List.replicate (b p.2) 32 := by
  show ((blanks p.1).cps ++ (letS b p.2).cps).toList = _
  simp [blanks, letS]
theorem lstrip_w {x : Str} {i c t : Nat} (hc : c ≠ 32) (hx : x.cps.toList = List.replicate i 32 ++ c :: List.replicate t 32) : Txt.lstripChars x (Str.ofString " ") = ⟨(c :: List.replicate t 32).toArray⟩ := by
  unfold Txt.lstripChars
  rw [blank_str, PyProof.Rows.stripBy_eq]
  have hlo : stripLo (#[32] : Array Nat).contains true x = i := by
    unfold stripLo
    rw [hx]
    have : ∀ i, ((List.replicate i 32 ++ c :: List.replicate t 32).takeWhile (#[32] : Array Nat).contains).length = i := by
      intro i
      induction i with
      | zero => simp [hc]
      | succ i ih => rw [List.replicate_succ, List.cons_append, List.takeWhile_cons_of_pos (by simp), List.length_cons, ih]
    simpa using this i
  have hhi : stripHi (#[32] : Array Nat).contains false x i = x.length := by
    unfold stripHi; simp [Str.length]
  rw [hlo, hhi, strSub_mk]
  have hl : x.length = x.cps.toList.length := by simp [Str.length]
  rw [hl, hx]
  congr 2
  rw [List.drop_append_of_le_length (by simp), List.drop_replicate, Nat.sub_self]
  simp
theorem cmp_let {b : Nat → Nat} {j k : Nat} (h : j < k) : cmpM (letS b j) (letS b k) = -1 ∧ cmpM (letS b k) (letS b j) = 1 ∧ cmpM (letS b j) (letS b j) = 0 := by
  have e : ∀ k, (letS b k).cps.toList = (97 + k) :: List.replicate (b k) 32 := fun k => by simp [letS]
  have h1 : (letS b j).cps.toList < (letS b k).cps.toList := by rw [e, e]; exact List.Lex.rel (by (exact Nat.add_le_add_left (by assumption) _))
  have h2 : ¬ (letS b k).cps.toList < (letS b j).cps.toList := List.lt_asymm h1
  have h3 : ¬ (letS b j).cps.toList < (letS b j).cps.toList := List.lt_irrefl _
  unfold cmpM
  rw [decide_eq_true h1, decide_eq_false h2, decide_eq_false h3]
  exact ⟨rfl, rfl, rfl⟩
end Mine
end
section
namespace Mine
open PySem PySem.Calls PyProof.Rows PySem.W

theorem ints_of {vs : List Value} (h : ∀ v ∈ vs, ∃ i t, v = .int i t) : ∃ ks : List Int, vs.map iv = ks.map some := by
  induction vs with
  | nil => exact ⟨[], rfl⟩
  | cons a r ih =>
    obtain ⟨ks, e⟩ := ih fun v hv => h v (.tail _ hv)
    obtain ⟨i, t, rfl⟩ := h a (.head _)
    exact ⟨i :: ks, by simp [iv, e]⟩
theorem slice_mem {items : Array Value} {lo hi st : Option Int} {v : Value} (h : v ∈ (slicePick items lo hi st).toList) : v ∈ items.toList := by
  unfold slicePick at h
  simp only [List.mem_filterMap] at h
  obtain ⟨i, _, hi⟩ := h
  exact Array.mem_toList_iff.mpr (Array.mem_of_getElem? hi)

theorem intsAre_mem : ∀ {vs : List Value} {ns : List Int} {v : Value}, IntsAre vs ns → v ∈ vs → ∃ i t, v = .int i t
  | _, _, _, .cons n t r, h => by
    rcases List.mem_cons.mp h with rfl | h
    · exact ⟨_, _, rfl⟩
    · exact intsAre_mem r h

section
variable {prog : Program} {w : World} {A : Around} {E : Value → Shared → Prop} {B s : Shared} {cs cs' : List Cel} {env : Env} {Q : Value → Shared → Prop}
theorem slice_listB {value slice : Expr} {l : Addr} {vs : List Value} {vl vu vk : Value} {lo hi st : Option Int} {ops : List Value} (H : St B cs s) (hm : B.heap.IsList l vs.toArray) (pl : IsPart vl lo) (pu : IsPart vu hi) (ps : IsPart vk st) (h0 : st ≠ some 0) (hz : vs.length ≤ sizeLine)
    (h : ∀ D s', St B ((D, LstO (slicePick vs.toArray lo hi st).toList) :: cs) s' → Q (.ref D) s')
    (hs : subscripted slice false (.ref l) (.ref s.heap.objs.size) = operate ops (getItem (.ref l) (.ref s.heap.objs.size))) :
    wpAny (model prog w) A (subscriptTail value slice (.ref l) (.ref s.heap.objs.size)) Q E { s with heap := s.heap.push (slObj vl vu vk) } := by
  have H1 := H.slice vl vu vk
  have hl : ({ s with heap := s.heap.push (slObj vl vu vk) } : Shared).heap.IsList l vs.toArray := let ⟨o, e, r⟩ := hm; ⟨o, H1.keep _ _ e, r⟩
  refine tail_any hl.typeIs slot_list_getitem.lookup (wpAny_getItem_list_slice hl (Heap.IsSliceOf.new ..) pl pu ps h0 ?_ (by simpa using hz)) hs
  exact h _ _ (H1.push (P := LstO (slicePick vs.toArray lo hi st).toList) (t := s.toks) ⟨0, rfl⟩)

theorem spec_numbers {l : Addr} {vs : List Value} {ns : List Int} {k : Nat} (F : Fns B) (N : Names B) (ok : Ok A (k + 3)) (H : St B cs s) (hl : B.heap.IsList l vs.toArray) (hi : IntsAre vs ns) (hz : vs.length ≤ sizeLine)
    (h : ∀ D ks s', ks.length = 10 → St B ((D, IntsO ks) :: cs) s' → Q (.ref D) s') :
    wpAny (model prog w) A (call (.ref 165) [.ref l]) Q E s := by
  refine call_fnC (binds := [(Str.ofString "script", .ref l)]) (m := fun _ => none) (cl := fun L => [(Str.ofString "base", L + 2), (Str.ofString "script", L + 1)])
    (cels := fun L => [(L + 2, CellO none), (L + 1, CellO (some (.ref l)))]) F.numbers (fun _ _ _ => rfl) ok N H (fun _ _ _ => rfl) (fun _ => rfl) (fun _ _ _ => rfl) (fun _ _ _ => rfl) ?_
  intro L cd s1 E' ok1 H1
  refine wpAny_execs_cons ?_
  refine wpAny_Assign_Name ?_
  refine d_list (B := B) ?_
  iterate 10 (refine wpAny_items_cons ?_; with_reducible refine c_int ‹_› fun _ _ _ => ?_)
  refine wpAny_items_nil ?_
  refine ⟨_, ‹_›, (show 10 ≤ sizeLine by decide), fun D s2 H2 => ?_⟩
  have H3 := H2.weak (P' := IntsO [14, 29, 4, 23, 10, 9, 3, 6, 1, 0]) .head fun o ho => ⟨_, ho, rfl⟩
  refine s_cell H3 rfl (.tail (.tail .head)) fun s4 H4 => ?_
  refine wpAny_execs_cons (wpAny_Return_some (e_comp (B := B) (e_call (n_blt H4 N (by k_mem) (by rfl) (cw_ty (wpAny_items_cons (c_int H4 fun t5 s5 H5 => wpAny_items_nil (range1 H5 fun r s6 H6 => ?_)))))) rfl))
  refine pyIter_range (n := 10) H6 (by (exact Int.natCast_nonneg _)) (by decide) fun it s7 H7 => ?_
  refine map_end (fun a v => ∃ i, iv v = some i) (iter_range (ok1.handled)) H7 (by decide) ?_ ?_
  · intro C D a as ys v m s8 E8 ha ⟨t, hv⟩ hm H8
    subst hv
    have hr := upR_mem ha
    obtain ⟨x, hx⟩ : ∃ x, ([14, 29, 4, 23, 10, 9, 3, 6, 1, 0] : List Int)[a.toNat]? = some x := ⟨_, List.getElem?_eq_getElem (by simp; lia)⟩
    refine wpAny_BinOp (Subscript_ (n_cell H8 rfl (by k_mem) (n_local H8 (.head _) hm (sub_ints (ss := [14, 29, 4, 23, 10, 9, 3, 6, 1, 0]) H8 (by k_mem) (by lia) (by lia) hx fun t1 => ?_))))
    refine e_call (n_blt H8 N (by k_mem) (by rfl) (cw_blt (wpAny_items_cons (Subscript_ (n_cell H8 rfl (by k_mem) (e_slice (n_local H8 (.head _) hm ?_)))))))
    refine evalPart_none_step (part_some (c_int H8 fun t2 s9 H9 => ?_))
    refine slice_listB (lo := some a) (hi := none) (st := some 10) H9 hl (.int _ _) .none (.int _ _) (by simp) hz (fun D2 s10 H10 => ?_) rfl
    refine wpAny_items_nil ?_
    obtain ⟨ks, hks⟩ := ints_of (vs := (slicePick vs.toArray (some a) none (some 10)).toList) fun v hv => by
      have hv := slice_mem hv
      rw [List.toList_toArray] at hv
      exact intsAre_mem hi hv
    have H11 := H10.weak (P' := SeqO iv ks) .head fun o ho => ⟨_, ho, hks⟩
    refine f_sum (α := Int) (val := id) (B := B) (pyIter_seq H11 fun it2 s12 H12 => ⟨_, _, _, _, ks, iter_seq ok1.handled, fun a v h => iv_int h, H12, fun s13 t3 H13 => ?_⟩)
    refine i_add (H13.sub (List.sublist_cons_self _ _)) fun t4 s14 H14 => ⟨⟨_, rfl⟩, m, H14⟩
  · intro D ys s8 hp H8
    obtain ⟨ks, hk, hlen⟩ := list_vals (f := iv) (fun a v h => h) hp
    refine h D ks _ (by rw [hlen]; exact upR_len 0 10) ((H8.weak (P' := IntsO ks) .head fun o ho => ⟨_, ho, hk⟩).cut 1 4)
end
end Mine
end
section
set_option maxHeartbeats 4000000
namespace Mine
open PySem PySem.Calls PyProof.Rows PySem.W

noncomputable abbrev Fill := List Int × List (Int × Int)
noncomputable def freeT (N : Nat) (full : List Int) (r : Int) : Bool := decide (full.getD r.toNat 0 < N - r) && (r == 0 || decide (full.getD r.toNat 0 < full.getD (r - 1).toNat 0))
noncomputable def freeM (N : Nat) (full : List Int) : List Int := (upR 0 N).filter (freeT N full)
noncomputable def fillS (st : Fill) (r : Int) : Fill := (st.1.set r.toNat (st.1.getD r.toNat 0 + 1), st.2 ++ [(r, st.1.getD r.toNat 0)])
noncomputable def levels (N : Nat) : Nat → List Fill
  | 0 => [(List.replicate N 0, [])]
  | k + 1 => (levels N k).flatMap fun st => (freeM N st.1).map (fillS st)
noncomputable def sizeT (N : Nat) : Nat := (upR 0 (N + 1)).sum.toNat

theorem levels_step {N k : Nat} {st : Fill} {r : Int} (h : st ∈ levels N k) (hr : r ∈ freeM N st.1) : fillS st r ∈ levels N (k + 1) :=
  List.mem_flatMap.mpr ⟨st, h, List.mem_map_of_mem hr⟩
theorem levels_len {N : Nat} : ∀ {k : Nat} {st : Fill}, st ∈ levels N k → st.1.length = N ∧ st.2.length = k
  | 0, st, h => by rw [levels, List.mem_singleton] at h; subst h; simp
  | k + 1, st, h => by
    obtain ⟨st', h1, h2⟩ := List.mem_flatMap.mp h
    obtain ⟨r, _, rfl⟩ := List.mem_map.mp h2
    have := levels_len h1
    simp [fillS, this]
theorem free_some : ∀ N ∈ [3, 4], ∀ k ∈ List.range (sizeT N), ∀ st ∈ levels N k, freeM N st.1 ≠ [] := by decide +kernel
theorem sizes : sizeT 3 = 6 ∧ sizeT 4 = 10 := by decide +kernel

section
variable {prog : Program} {w : World} {A : Around} {E : Value → Shared → Prop} {B s : Shared} {cs cs' : List Cel} {env : Env} {Q : Value → Shared → Prop}

theorem get_ints {l : Addr} {ss : List Int} {k : Int} {t : Tok} {x : Int} (H : St B cs s) (hm : (l, IntsO ss) ∈ cs) (h0 : 0 ≤ k) (hk : k < 2 ^ 63) (hx : ss[k.toNat]? = some x) (h : ∀ t, Q (.int x t) s) :
    wpAny (model prog w) A (getItem (.ref l) (.int k t)) Q E s := by
  obtain ⟨vs, hp, e⟩ := H.open_ints hm
  obtain ⟨v, hv, he⟩ := map_at e hx
  obtain ⟨t', rfl⟩ := iv_int he
  exact wpAny_getItem_list hp.isList h0 hk (by simpa using hv) (h t')

noncomputable def ordR (L fullD D2 : Addr) (n : Int) (tn : Tok) (cs : List Cel) (y : (Str → Option Value) × List Addr × Fill) : List Cel :=
  (D2, LstO (y.2.1.map .ref)) :: (fullD, IntsO y.2.2.1) :: (L, NsO y.1) :: (L + 2, CellO (some (.ref fullD))) :: (L + 1, CellO (some (.int n tn))) :: (tupC y.2.1 y.2.2.2 ++ cs)

end
namespace OrD
noncomputable abbrev X := (Program) × (World) × (Around) × (Value → Shared → Prop) × (Shared) × (List Cel) × (Value → Shared → Prop) × (Tok) × (Addr) × (List Int) × (Nat) × (Addr) × (Value) × (Shared) × (Value → Shared → Prop)
noncomputable def S (prog : Program) (w : World) (A : Around) (E : Value → Shared → Prop) (B : Shared) (cs : List Cel) (Q : Value → Shared → Prop) (tn : Tok) (nD : Addr) (ks : List Int) (k : Nat) (L : Addr) (cd : Value) (s1 : Shared) (E' : Value → Shared → Prop) : Prop :=
  ∀ (n : Int) (N : Nat) (hN : N ∈ [3, 4]) (hn : n = N + 1) (F : Fns B) (Nm : Names B) (ok : Ok A (k + 3)) (hl : (nD, IntsO ks) ∈ cs) (hz : ks.length = 10) (h : ∀ D as st s', st ∈ levels N (sizeT N) → as.length = st.2.length → St B ((D, LstO (as.map .ref)) :: (tupC as st.2 ++ cs)) s' → Q (.ref D) s'),
    Ok (A.deeper (envX "_law_order" (scOf (stOf 17)) L 170 cd [(Str.ofString "full", L + 2), (Str.ofString "n", L + 1)])) (k + 2) → St B ((L, NsO (fun x => if x = Str.ofString "numbers" then some (.ref nD) else none)) :: (L + 2, CellO none) :: (L + 1, CellO (some (.int n tn))) :: cs) s1 →
    wpAny (model prog w) (A.deeper (envX "_law_order" (scOf (stOf 17)) L 170 cd [(Str.ofString "full", L + 2), (Str.ofString "n", L + 1)])) (execs (bdOf (stOf 17)) (envX "_law_order" (scOf (stOf 17)) L 170 cd [(Str.ofString "full", L + 2), (Str.ofString "n", L + 1)])) (fun f s' => Q (match f with | .ret v => v | _ => .none) s') E' s1
noncomputable def T (x : X) : Prop := S x.1 x.2.1 x.2.2.1 x.2.2.2.1 x.2.2.2.2.1 x.2.2.2.2.2.1 x.2.2.2.2.2.2.1 x.2.2.2.2.2.2.2.1 x.2.2.2.2.2.2.2.2.1 x.2.2.2.2.2.2.2.2.2.1 x.2.2.2.2.2.2.2.2.2.2.1 x.2.2.2.2.2.2.2.2.2.2.2.1 x.2.2.2.2.2.2.2.2.2.2.2.2.1 x.2.2.2.2.2.2.2.2.2.2.2.2.2.1 x.2.2.2.2.2.2.2.2.2.2.2.2.2.2
noncomputable def x0 : X := @Classical.epsilon X ⟨⟨default, dumW, {}, fun _ _ => True, dumS, [], fun _ _ => True, default, 0, [], 0, 0, default, dumS, fun _ _ => True⟩⟩ fun x => ¬ T x
noncomputable def prog : Program := x0.1
noncomputable def w : World := x0.2.1
noncomputable def A : Around := x0.2.2.1
noncomputable def E : Value → Shared → Prop := x0.2.2.2.1
noncomputable def B : Shared := x0.2.2.2.2.1
noncomputable def cs : List Cel := x0.2.2.2.2.2.1
noncomputable def Q : Value → Shared → Prop := x0.2.2.2.2.2.2.1
noncomputable def tn : Tok := x0.2.2.2.2.2.2.2.1
noncomputable def nD : Addr := x0.2.2.2.2.2.2.2.2.1
noncomputable def ks : List Int := x0.2.2.2.2.2.2.2.2.2.1
noncomputable def k : Nat := x0.2.2.2.2.2.2.2.2.2.2.1
noncomputable def L : Addr := x0.2.2.2.2.2.2.2.2.2.2.2.1
noncomputable def cd : Value := x0.2.2.2.2.2.2.2.2.2.2.2.2.1
noncomputable def s1 : Shared := x0.2.2.2.2.2.2.2.2.2.2.2.2.2.1
noncomputable def E' : Value → Shared → Prop := x0.2.2.2.2.2.2.2.2.2.2.2.2.2.2
theorem at_ : S prog w A E B cs Q tn nD ks k L cd s1 E' := by
  intro n N hN hn F Nm ok hl hz h ok1 H1
  refine wpAny_execs_cons ?_
  refine wpAny_Assign_Name (wpAny_BinOp ?_)
  refine d_list (B := B) ?_
  refine wpAny_items_cons ?_
  with_reducible refine c_int H1 fun t0 s0 H0 => ?_
  refine wpAny_items_nil ⟨_, H0, one_le, fun D0 s2 H2 => ?_⟩
  refine wpAny_BinOp (n_cell H2 rfl (by k_mem) (c_int H2 fun t1 s3 H3 => i_sub H3 fun t2 s4 H4 => ?_))
  have hNs : N ≤ 4 := by simp at hN; lia
  have hT : sizeT N ≤ 10 := by
    have h1 := sizes
    have h2 : N = 3 ∨ N = 4 := by simpa using hN
    rcases h2 with rfl | rfl <;> (first | exact Nat.le_add_left _ _ | exact Nat.lt_succ_self _ | omega +splitNatSub | lia)
  refine l_mul H4 (.head _) (by lia) (by lia) (by simp; lia) fun D1 s5 H5 => ?_
  have e1 : (n - 1).toNat = N := by (clear hz hT hNs; omega)
  rw [e1] at H5
  have H6 := (H5.weak (P' := IntsO (List.replicate N 0)) .head fun o ho => ⟨_, ho, by simp [iv]⟩).cut 1 1
  refine s_cell H6 rfl (.tail (.tail .head)) fun s7 H7 => ?_
  refine wpAny_execs_cons ?_
  refine wpAny_Assign_Name ?_
  refine d_list (B := B) ?_
  refine wpAny_items_nil ⟨_, H7, Nat.zero_le _, fun D2 s8 H8 => ?_⟩
  refine s_local (m' := fun _ => none) H8 (.tail (.tail .head)) fun s9 H9 => ?_
  refine wpAny_execs_cons ?_
  refine wpAny_For ?_
  refine Subscript_ (n_local H9 (by k_mem) rfl (e_slice (part_none (part_some (wpAny_BinOp (wpAny_BinOp (n_cell H9 rfl (by k_mem) (wpAny_BinOp (n_cell H9 rfl (by k_mem) ?_)))))))))
  refine c_int H9 fun t3 s10 H10 => i_sub H10 fun t4 s11 H11 => i_mul H11 (IntMulOk.of_left ?_) fun t5 s12 H12 => ?_
  · have : n = 4 ∨ n = 5 := by simp at hN; (clear hNs; lia)
    rcases this with rfl | rfl <;> decide +kernel
  refine c_int H12 fun t6 s13 H13 => i_div H13 (by decide) (.inl (PyProof.noPylong_small (by decide))) fun t7 s14 H14 => part_none ?_
  have e2 : (n * (n - 1)).fdiv 2 = (sizeT N : Nat) := by
    have : N = 3 ∨ N = 4 := by simpa using hN
    rcases this with rfl | rfl <;> (rw [hn]; decide +kernel)
  rw [e2]
  refine slice_seq (f := iv) (ss := ks) H14 (.tail _ (.tail _ (.tail _ (.tail _ (.tail _ hl))))) .none (.int _ _) (Nat.le_trans (by (exact Nat.le_of_eq (by assumption))) (show 10 ≤ sizeLine by decide)) (fun D3 s15 H15 => ?_) (by with_unfolding_all rfl)
  have hss : ∃ ss : List Int, ss.length = sizeT N ∧ (ks.drop (kms_lo none ks.length)).take (kms_hi (some (sizeT N : Int)) ks.length - kms_lo none ks.length) = ss := by
    refine ⟨_, ?_, rfl⟩
    have : N = 3 ∨ N = 4 := by simpa using hN
    have hs := sizes
    simp only [kms_lo, kms_hi, List.length_take, List.length_drop]
    rw [if_neg (by lia)]
    rcases this with rfl | rfl <;> lia
  obtain ⟨ss, hlen, ess⟩ := hss
  rw [ess] at H15
  clear ess
  refine pyIter_seq H15 fun it s16 H16 => ?_
  refine r_for (iter_seq ok1.handled) (ordR L D1 D2 n tn cs) (fun as y => y.2.2 ∈ levels N (sizeT N - as.length) ∧ y.1 (Str.ofString "order") = some (.ref D2) ∧ y.2.1.length = y.2.2.2.length ∧ as.length ≤ sizeT N)
    (x0 := (_, [], (List.replicate N 0, []))) H16 ⟨?_, rfl, rfl, by (exact Nat.le_of_eq (by assumption))⟩ ?_ ?_
  · rw [hlen, Nat.sub_self]; exact .head _
  · clear H16 H15 H14 H13 H12 H11 H10 H9 H8 H7 H6 H5 H4 H3 H2 H0 H1
    rintro a as v ⟨m, ad, st⟩ s1 E1 hv ⟨hst, hmo, had, hle⟩ H1
    obtain ⟨tv, rfl⟩ := iv_int hv
    dsimp only at hst hmo had hle
    rw [List.length_cons] at hst hle
    have hlen1 := (levels_len hst).1
    have gx : ∀ i : Nat, i < N → st.1[i]? = some (st.1.getD i 0) := fun i hi => by
      rw [List.getD_eq_getElem?_getD, List.getElem?_eq_getElem (by (clear hn hNs e1; lia))]; rfl
    refine wpAny_assign_Name (s_local (m' := fun _ => none) H1 (.tail (.tail (.tail (.tail .head)))) fun s2 H2 => ?_)
    refine wpAny_execs_cons ?_
    refine x_comp (B := B) (e_call (n_blt H2 Nm (by k_mem) (by rfl) (cw_ty (wpAny_items_cons (wpAny_BinOp (n_cell H2 rfl (by k_mem) (c_int H2 fun t3 s3 H3 => i_sub H3 fun t4 s4 H4 => wpAny_items_nil (range1 H4 fun r s5 H5 => ?_)))))))) rfl rfl
    rw [show n - 1 = 0 + (N : Int) by (clear e1 H5; lia)] at H5
    refine pyIter_range H5 (by (exact Int.natCast_nonneg _)) (by lia) fun it2 s6 H6 => ?_
    refine filter_use (freeT N st.1) (fun a v => iv v = some a) (iter_range ok1.handled) H6 (by rw [upR_len]; exact Nat.le_trans hNs (show 4 ≤ sizeLine by decide)) ?_ ?_ ?_
    · intro C D a2 as2 ys v2 m2 s7 E7 ha ⟨t, hv2⟩ hm2 H7
      subst hv2
      have hr := upR_mem ha
      refine wpAny_isTrue_BoolOp (wpAny_allTrue_And_cons (tr_int (Subscript_ (n_cell H7 rfl (by k_mem) (n_local H7 (.head _) hm2 (sub_ints H7 (by k_mem) (by (clear H5; lia)) (by (clear H5; lia)) (gx _ (by (clear hn hz hT e1 e2 hlen had hle hlen1; omega))) fun t1 => ?_))))))
      refine wpAny_BinOp (wpAny_BinOp (n_cell H7 rfl (by k_mem) (c_int H7 fun t8 s8 H8 => i_sub H8 fun t9 s9 H9 => n_local H9 (.head _) hm2 (i_sub H9 fun t10 s10 H10 => PyProof.Rows.lt_int (wpAny_truthy_bool ?_)))))
      by_cases c1 : st.1.getD a2.toNat 0 < n - 1 - a2
      · rw [decide_eq_true c1, if_pos rfl]
        refine wpAny_allTrue_And_cons (wpAny_isTrue_BoolOp (wpAny_allTrue_Or_cons (tr_int (n_local H10 (.head _) hm2 (c_int H10 fun t11 s11 H11 => PyProof.Rows.eq_int (wpAny_truthy_bool ?_))))))
        by_cases c2 : a2 = 0
        · subst c2
          rw [if_pos (by decide), if_pos rfl]
          refine wpAny_allTrue_And_nil ⟨?_, H11⟩
          unfold freeT
          rw [decide_eq_true (by (clear e1; lia))]; rfl
        · rw [if_neg (by simpa using c2)]
          refine wpAny_allTrue_Or_cons (tr_int (Subscript_ (n_cell H11 rfl (by k_mem) (wpAny_BinOp (n_local H11 (.head _) hm2 (c_int H11 fun t12 s12 H12 => i_sub H12 fun t13 s13 H13 => ?_))))))
          refine sub_ints H13 (by k_mem) (by (clear H5; lia)) (by (clear H5; lia)) (gx _ (by (clear hn hz hT e1 e2 hlen had hle hlen1 c1; omega))) fun t14 => Subscript_ (n_cell H13 rfl (by k_mem) (n_local H13 (.head _) hm2 (sub_ints H13 (by k_mem) (by (clear c2; lia)) (by lia) (gx _ (by (clear hn e1 e2 hlen had hle hlen1 c1; omega))) fun t15 => PyProof.Rows.gt_int (wpAny_truthy_bool ?_))))
          have e3 : freeT N st.1 a2 = decide (st.1.getD a2.toNat 0 < st.1.getD (a2 - 1).toNat 0) := by
            unfold freeT
            rw [decide_eq_true (by (clear e1; lia)), show (a2 == 0) = false from by simpa using c2]; simp
          rw [e3]
          by_cases c3 : st.1.getD a2.toNat 0 < st.1.getD (a2 - 1).toNat 0
          · rw [decide_eq_true c3, if_pos rfl, if_pos rfl]
            exact wpAny_allTrue_And_nil ⟨rfl, H13⟩
          · rw [decide_eq_false c3, if_neg (by decide)]
            refine wpAny_allTrue_Or_nil ?_
            rw [if_neg (by decide)]
            exact ⟨rfl, H13⟩
      · rw [decide_eq_false c1, if_neg (by decide)]
        refine ⟨?_, H10⟩
        unfold freeT
        rw [decide_eq_false (by (clear e1; lia))]; rfl
    · intro C D a2 as2 ys v2 m2 s7 E7 ha _ ⟨t, hv2⟩ hm2 H7
      exact n_local H7 (.head _) hm2 ⟨by rw [hv2]; rfl, m2, H7⟩
    · intro D ys hp
      refine ⟨_, _, .tail (.tail (.tail (.tail (.tail .head)))), fun s7 H7 => ?_⟩
      have hfr : ys.map iv = (freeM N st.1).map some := by
        have := paired_map (g := id) hp
        rwa [List.map_id] at this
      have H8 := H7.weak (P' := IntsO (freeM N st.1)) .head fun o ho => ⟨_, ho, hfr⟩
      have hne : freeM N st.1 ≠ [] := free_some N hN _ (List.mem_range.mpr (by (clear hn hz hNs e1 e2 hlen had hlen1; omega))) _ hst
      have hpos : 0 < (freeM N st.1).length := List.length_pos_iff.mpr hne
      have hle4 : (freeM N st.1).length ≤ 4 := Nat.le_trans (List.length_filter_le _ _) (by rw [upR_len]; exact hNs)
      clear hp H7 H6 H5 H4 H3 H2 H1
      refine wpAny_execs_cons ?_
      refine wpAny_Assign_Name (Subscript_ (n_local H8 (by k_mem) rfl (wpAny_BinOp (n_local H8 (by k_mem) rfl (e_call (n_blt H8 Nm (by k_mem) (by rfl) (cw_blt (wpAny_items_cons (n_local H8 (by k_mem) rfl (wpAny_items_nil (f_len_seq (f := iv) H8 (.head _) (by (exact Nat.lt_of_le_of_lt (by assumption) (by decide))) fun t1 s9 H9 => i_mod H9 (by lia) fun t2 s10 H10 => ?_)))))))))))
      have hj0 : 0 ≤ a.fmod (freeM N st.1).length := Int.fmod_nonneg_of_pos _ (by lia)
      have hj1 : a.fmod (freeM N st.1).length < (freeM N st.1).length := Int.fmod_lt_of_pos _ (by lia)
      obtain ⟨r, hr⟩ : ∃ r, (freeM N st.1)[(a.fmod (freeM N st.1).length).toNat]? = some r := ⟨_, List.getElem?_eq_getElem (by (clear hn hz hNs hT e1 e2 hlen had hle hlen1 hj0 hle4; omega))⟩
      have hrm : r ∈ freeM N st.1 := List.mem_of_getElem? hr
      have hrr : 0 ≤ r ∧ r < N := by
        have := upR_mem (List.mem_filter.mp hrm).1; lia
      refine sub_ints H10 (.head _) hj0 (by (clear hn hz hNs hT e1 e2 hlen had hle hlen1 hrr hpos; omega)) hr fun t3 => ?_
      refine s_local (m' := fun _ => none) H10 (.tail (.tail (.tail (.tail (.tail .head))))) fun s11 H11 => ?_
      refine wpAny_execs_cons ?_
      refine wpAny_Expr ?_
      refine m_append (B := B) (n_local H11 (by k_mem) (by exact hmo) ⟨D2, _, _, rfl, H11, .tail _ (.tail _ (.tail _ (.head _))), ?_⟩) rfl
      refine d_tup (B := B) ?_
      refine wpAny_items_cons (n_local H11 (by k_mem) rfl (wpAny_items_cons (Subscript_ (n_cell H11 rfl (by k_mem) (n_local H11 (by k_mem) rfl (sub_ints H11 (by k_mem) hrr.1 (by lia) (gx _ (by (clear hn hz hT e1 e2 hlen had hle hlen1 hpos hle4 hj0 hj1; omega))) fun t4 => wpAny_items_nil ⟨_, H11, (show 2 ≤ sizeLine by decide), fun D5 s12 H12 => ?_⟩))))))
      refine ⟨_, _, ad.map .ref, H12, by rw [List.length_map, had, (levels_len hst).2]; exact Nat.le_trans (by (exact Nat.le_trans (Nat.sub_le _ _) (by assumption))) (show 10 ≤ sizeLine by decide), .tail (.tail (.tail (.tail .head))), fun s13 H13 => ?_⟩
      refine wpAny_execs_cons ?_
      refine wpAny_AugAssign_SubscriptAny (n_cell H13 rfl (by k_mem) (n_local H13 (by k_mem) rfl (get_ints H13 (by k_mem) hrr.1 (by lia) (gx _ (by (clear hn e1 e2 hlen had hle hlen1 hpos hle4 hj0 hj1; omega))) fun t5 => ?_)))
      with_reducible refine c_int H13 fun t6 s14 H14 => ?_
      refine i_iadd H14 fun t7 s15 H15 => set_ints H15 (.tail (.tail (.tail (.tail (.tail .head))))) hrr.1 (by lia) (by dsimp only; lia) fun s16 H16 => ?_
      have H17 := (H16.weak (P' := PairO (r, st.1.getD r.toNat 0)) .head fun o ho => ⟨_, _, ho⟩).cut 1 1
      have H18 := St.sink (pre := [_, _, _, _, _, _, _]) H17
      have e5 : List.map Value.ref ad ++ [Value.ref D5] = (ad ++ [D5]).map .ref := by simp
      rw [e5, ← tupC_snoc had] at H18
      refine wpAny_execs_nil ⟨rfl, (_, ad ++ [D5], fillS st r), ⟨?_, by exact hmo, by simp [fillS, had], by (exact Nat.le_of_lt (by assumption))⟩, H18⟩
      dsimp only
      have := levels_step hst hrm
      rwa [show sizeT N - (as.length + 1) + 1 = sizeT N - as.length by (clear hn hT e2 hst; lia)] at this
  · rintro ⟨m, ad, st⟩ s1 ⟨hst, hmo, had, _⟩ H1
    dsimp only at hst hmo had
    refine wpAny_execs_cons ?_
    refine wpAny_Return_some ?_
    refine n_local H1 (by k_mem) hmo ?_
    refine h D2 ad st s1 hst had ?_
    exact (H1.drop 1).cut 1 4
theorem all_ (x : X) : T x := Classical.byContradiction fun hn => Classical.epsilon_spec (p := fun x => ¬ T x) ⟨x, hn⟩ at_
end OrD
section
variable {prog : Program} {w : World} {A : Around} {E : Value → Shared → Prop} {B s : Shared} {cs cs' : List Cel} {env : Env} {Q : Value → Shared → Prop}
theorem spec_order {n : Int} {N : Nat} {tn : Tok} {nD : Addr} {ks : List Int} {k : Nat} (hN : N ∈ [3, 4]) (hn : n = N + 1) (F : Fns B) (Nm : Names B) (ok : Ok A (k + 3)) (H : St B cs s) (hl : (nD, IntsO ks) ∈ cs) (hz : ks.length = 10) (h : ∀ D as st s', st ∈ levels N (sizeT N) → as.length = st.2.length → St B ((D, LstO (as.map .ref)) :: (tupC as st.2 ++ cs)) s' → Q (.ref D) s') :
    wpAny (model prog w) A (call (.ref 170) [.int n tn, .ref nD]) Q E s := by
  refine call_fnC (binds := [(Str.ofString "n", .int n tn), (Str.ofString "numbers", .ref nD)]) (m := fun x => if x = Str.ofString "numbers" then some (.ref nD) else none) (cl := fun L => [(Str.ofString "full", L + 2), (Str.ofString "n", L + 1)])
    (cels := fun L => [(L + 2, CellO none), (L + 1, CellO (some (.int n tn)))]) F.order (fun _ _ _ => rfl) ok Nm H (fun _ _ _ => rfl) (fun _ => rfl) (fun _ _ _ => ?_) (fun _ _ _ => rfl) ?_
  · rfl
  intro L cd s1 E' ok1 H1
  exact OrD.all_ ⟨prog, w, A, E, B, cs, Q, tn, nD, ks, k, L, cd, s1, E'⟩ n N hN hn F Nm ok hl hz h ok1 H1

end
end Mine
end
section
set_option maxHeartbeats 4000000
namespace Mine
open PySem PySem.Calls PyProof.Rows PySem.W

noncomputable def dotS (k : Nat) : Str := ⟨(List.replicate k 46 ++ [45]).toArray⟩
noncomputable def rowC (as : List Addr) (rows : List (List Nat)) : List Cel := List.zipWith (fun a r => (a, StrsO (r.map dotS))) as rows
noncomputable def rowM (N : Nat) (ord : List (Int × Int)) (r : Int) : List Nat := (upR 0 (N - r.toNat)).map fun c => ord.idxOf (r, c) + 2
noncomputable def rowsM (N : Nat) (ord : List (Int × Int)) : List (List Nat) := (upR 0 N).map (rowM N ord)
noncomputable def restS (d : Nat) : List Str := [Str.empty, Str.ofString " .\u000b.", ⟨(List.replicate d 46).toArray⟩]
theorem dot_one : Str.ofString "." = ⟨#[46]⟩ := by decide +kernel
theorem dash_one : Str.ofString "-" = ⟨#[45]⟩ := by decide +kernel
theorem dot_dash (k : Nat) : (⟨(List.replicate k 46).toArray⟩ : Str) ++ (⟨#[45]⟩ : Str) = dotS k := by
  show Str.mk _ = Str.mk _
  congr 1
  apply Array.ext'; simp
theorem two20 : 2 ^ 20 ≤ sizeLine := by decide

section
variable {prog : Program} {w : World} {A : Around} {E : Value → Shared → Prop} {B s : Shared} {cs cs' : List Cel} {env : Env} {Q : Value → Shared → Prop}

end
namespace PaD
noncomputable abbrev X := (Program) × (World) × (Around) × (Value → Shared → Prop) × (Shared) × (List Cel) × (Value → Shared → Prop) × (Int) × (Int) × (Nat) × (Tok) × (Tok) × (Addr) × (List Addr) × (List (Int × Int)) × (Nat) × (Addr) × (Value) × (Shared) × (Value → Shared → Prop)
noncomputable def S (prog : Program) (w : World) (A : Around) (E : Value → Shared → Prop) (B : Shared) (cs : List Cel) (Q : Value → Shared → Prop) (n : Int) (d : Int) (N : Nat) (tn : Tok) (td : Tok) (oD : Addr) (oas : List Addr) (ord : List (Int × Int)) (k : Nat) (L : Addr) (cd : Value) (s1 : Shared) (E' : Value → Shared → Prop) : Prop :=
  ∀ (hN : N ≤ 4) (hn : n = N + 1) (Fn : Fns B) (Nm : Names B) (ok : Ok A (k + 3)) (hl : (oD, LstO (oas.map .ref)) ∈ cs) (hsub : ∀ c ∈ tupC oas ord, c ∈ cs) (hlen : oas.length = ord.length) (hz : ord.length ≤ 100) (hall : ∀ r ∈ upR 0 N, ∀ c ∈ upR 0 (N - r.toNat), (r, c) ∈ ord) (hd0 : 0 ≤ d) (hd : d ≤ 1000) (h : ∀ D e as s', as.length = N → St B ((D, LstO (as.map .ref ++ [.ref e])) :: (e, StrsO (restS d.toNat)) :: (rowC as (rowsM N ord) ++ cs)) s' → Q (.ref D) s'),
    Ok (A.deeper (envX "_law_page" (scOf (stOf 18)) L 175 cd [(Str.ofString "order", L + 2), (Str.ofString "n", L + 1)])) (k + 2) → St B ((L, NsO (fun x => if x = Str.ofString "dots" then some (.int d td) else none)) :: (L + 2, CellO (some (.ref oD))) :: (L + 1, CellO (some (.int n tn))) :: cs) s1 →
    wpAny (model prog w) (A.deeper (envX "_law_page" (scOf (stOf 18)) L 175 cd [(Str.ofString "order", L + 2), (Str.ofString "n", L + 1)])) (execs (bdOf (stOf 18)) (envX "_law_page" (scOf (stOf 18)) L 175 cd [(Str.ofString "order", L + 2), (Str.ofString "n", L + 1)])) (fun f s' => Q (match f with | .ret v => v | _ => .none) s') E' s1
noncomputable def T (x : X) : Prop := S x.1 x.2.1 x.2.2.1 x.2.2.2.1 x.2.2.2.2.1 x.2.2.2.2.2.1 x.2.2.2.2.2.2.1 x.2.2.2.2.2.2.2.1 x.2.2.2.2.2.2.2.2.1 x.2.2.2.2.2.2.2.2.2.1 x.2.2.2.2.2.2.2.2.2.2.1 x.2.2.2.2.2.2.2.2.2.2.2.1 x.2.2.2.2.2.2.2.2.2.2.2.2.1 x.2.2.2.2.2.2.2.2.2.2.2.2.2.1 x.2.2.2.2.2.2.2.2.2.2.2.2.2.2.1 x.2.2.2.2.2.2.2.2.2.2.2.2.2.2.2.1 x.2.2.2.2.2.2.2.2.2.2.2.2.2.2.2.2.1 x.2.2.2.2.2.2.2.2.2.2.2.2.2.2.2.2.2.1 x.2.2.2.2.2.2.2.2.2.2.2.2.2.2.2.2.2.2.1 x.2.2.2.2.2.2.2.2.2.2.2.2.2.2.2.2.2.2.2
noncomputable def x0 : X := @Classical.epsilon X ⟨⟨default, dumW, {}, fun _ _ => True, dumS, [], fun _ _ => True, 0, 0, 0, default, default, 0, [], [], 0, 0, default, dumS, fun _ _ => True⟩⟩ fun x => ¬ T x
noncomputable def prog : Program := x0.1
noncomputable def w : World := x0.2.1
noncomputable def A : Around := x0.2.2.1
noncomputable def E : Value → Shared → Prop := x0.2.2.2.1
noncomputable def B : Shared := x0.2.2.2.2.1
noncomputable def cs : List Cel := x0.2.2.2.2.2.1
noncomputable def Q : Value → Shared → Prop := x0.2.2.2.2.2.2.1
noncomputable def n : Int := x0.2.2.2.2.2.2.2.1
noncomputable def d : Int := x0.2.2.2.2.2.2.2.2.1
noncomputable def N : Nat := x0.2.2.2.2.2.2.2.2.2.1
noncomputable def tn : Tok := x0.2.2.2.2.2.2.2.2.2.2.1
noncomputable def td : Tok := x0.2.2.2.2.2.2.2.2.2.2.2.1
noncomputable def oD : Addr := x0.2.2.2.2.2.2.2.2.2.2.2.2.1
noncomputable def oas : List Addr := x0.2.2.2.2.2.2.2.2.2.2.2.2.2.1
noncomputable def ord : List (Int × Int) := x0.2.2.2.2.2.2.2.2.2.2.2.2.2.2.1
noncomputable def k : Nat := x0.2.2.2.2.2.2.2.2.2.2.2.2.2.2.2.1
noncomputable def L : Addr := x0.2.2.2.2.2.2.2.2.2.2.2.2.2.2.2.2.1
noncomputable def cd : Value := x0.2.2.2.2.2.2.2.2.2.2.2.2.2.2.2.2.2.1
noncomputable def s1 : Shared := x0.2.2.2.2.2.2.2.2.2.2.2.2.2.2.2.2.2.2.1
noncomputable def E' : Value → Shared → Prop := x0.2.2.2.2.2.2.2.2.2.2.2.2.2.2.2.2.2.2.2
theorem at_ : S prog w A E B cs Q n d N tn td oD oas ord k L cd s1 E' := by
  intro hN hn Fn Nm ok hl hsub hlen hz hall hd0 hd h ok1 H1
  refine wpAny_execs_cons ?_
  refine x_comp1 (B := B) (e_call (n_blt H1 Nm (by k_mem) (by rfl) (cw_ty (wpAny_items_cons (wpAny_BinOp (n_cell H1 rfl (by k_mem) (c_int H1 fun t3 s3 H3 => i_sub H3 fun t4 s4 H4 => wpAny_items_nil (range1 H4 fun r s5 H5 => ?_)))))))) rfl rfl (fun _ => rfl) (fun _ => rfl)
  rw [show n - 1 = 0 + (N : Int) by (clear H5; lia)] at H5
  refine pyIter_range H5 (by (exact Int.natCast_nonneg _)) (by lia) fun it s6 H6 => ?_
  clear H5 H4 H3
  refine ⟨Int, _, _, _, List Addr, fun as => (L, NsO fun x => if x = Str.ofString "dots" then some (.int d td) else none) :: (L + 2, CellO (some (.ref oD))) :: (L + 1, CellO (some (.int n tn))) :: (rowC as (rowsM N ord) ++ cs),
    fun rs ys as => ys = as.map .ref ∧ ∃ pre, upR 0 N = pre ++ rs ∧ as.length = pre.length, upR 0 N, [], iter_range ok1.handled, H6, ⟨rfl, [], rfl, rfl⟩, ?_, ?_⟩
  · intro C c D r rs v as ys ⟨m, zv⟩ s7 E7 ⟨t, hv⟩ ⟨hys, pre, hpre, hal⟩ H7
    subst hv hys
    have hrm : r ∈ upR 0 N := by rw [hpre]; simp
    have hr := upR_mem hrm
    refine wpAny_assign_Name (s_cell H7 rfl (.tail .head) fun s8 H8 => ?_)
    refine wpAny_tests_nil ?_
    rw [if_pos rfl]
    refine e_comp (B := B) (e_call (n_blt H8 Nm (by k_mem) (by rfl) (cw_ty (wpAny_items_cons (wpAny_BinOp (wpAny_BinOp (n_cell H8 rfl (by k_mem) (c_int H8 fun t3 s3 H3 => i_sub H3 fun t4 s4 H4 => n_cell H4 rfl (by k_mem) (i_sub H4 fun t5 s5 H5 => wpAny_items_nil (range1 H5 fun r2 s6 H6 => ?_)))))))))) rfl
    rw [show n - 1 - r = 0 + ((N - r.toNat : Nat) : Int) by (clear H6; lia)] at H6
    refine pyIter_range H6 (by (exact Int.natCast_nonneg _)) (by (clear hr; lia)) fun it2 s7 H7 => ?_
    clear H6 H5 H4 H3
    refine map_end (fun a v => sv v = some (dotS (ord.idxOf (r, a) + 2))) (iter_range ok1.handled) H7 (by rw [upR_len]; exact Nat.le_trans (by (clear hlen hz hd0 hd hal hn hr; omega)) two20) ?_ ?_
    · intro C2 D2 c1 cs1 ys1 v1 m1 s8 E8 hc1 ⟨t1, hv1⟩ hm1 H8
      subst hv1
      have hi : ord.idxOf (r, c1) < ord.length := List.idxOf_lt_length_of_mem (hall r hrm c1 hc1)
      refine wpAny_BinOp (wpAny_BinOp (c_str H8 fun t2 s9 H9 => wpAny_BinOp ?_))
      have up : ∀ {x : Cel} {l : List Cel} (n : Nat), l.drop n = rowC as (rowsM N ord) ++ cs → x ∈ cs → x ∈ l := fun n e hx => List.mem_of_mem_drop (i := n) (e ▸ List.mem_append_right _ hx)
      refine m_call F.plainAttrs_list F.slot_list_index F.type_list_index (n_cell H9 rfl (by k_mem) ⟨(H9.isL (vs := oas.map .ref) (up 10 rfl hl)).1, (H9.isL (vs := oas.map .ref) (up 10 rfl hl)).2, ?_⟩) rfl
      refine wpAny_items_cons ?_
      refine d_tup (B := B) ?_
      refine wpAny_items_cons (n_cell H9 rfl (by k_mem) (wpAny_items_cons (n_local H9 (.head _) hm1 (wpAny_items_nil ⟨_, H9, (show 2 ≤ sizeLine by decide), fun D3 s10 H10 => wpAny_items_nil ?_⟩))))
      have H11 := H10.weak (P' := PairO (r, c1)) .head fun o ho => ⟨_, _, ho⟩
      refine f_index_pair (ps := ord) (by have := ok1.units; (clear ok1; lia)) H11 (up 11 rfl hl) (fun c hc => up 11 rfl (hsub c hc)) hlen (pair_of H11 (.head _)) (hall r hrm c1 hc1) (by (exact Nat.lt_of_le_of_lt (by assumption) (by decide))) fun t3 s12 H12 => ?_
      refine c_int H12 fun t4 s13 H13 => i_add H13 fun t5 s14 H14 => ?_
      rw [dot_one]
      refine t_mul1 H14 (by lia) (by (exact Int.natCast_nonneg _)) fun t6 s15 H15 => c_str H15 fun t7 s16 H16 => ?_
      rw [dash_one]
      have e3 : ((ord.idxOf (r, c1) : Nat) + 2 : Int).toNat = ord.idxOf (r, c1) + 2 := by (exact Int.toNat_natCast _)
      refine t_add H16 ?_ fun t8 s17 H17 => ⟨?_, m1, H17.drop 1⟩
      · refine Nat.le_trans ?_ two20
        show Array.size _ + Array.size _ ≤ _
        simp; lia
      · rw [dot_dash, e3]; rfl
    · intro D2 ys2 s8 hp H8
      have hys : ys2.map sv = ((rowM N ord r).map dotS).map some := by
        have := paired_map (g := fun a => dotS (ord.idxOf (r, a) + 2)) hp
        rw [this]; simp [rowM]
      have H9 := H8.weak (P' := StrsO ((rowM N ord r).map dotS)) .head fun o ho => ⟨_, ho, hys⟩
      have H10 := St.sink (pre := [_, _, _, _, _, _, _]) H9
      have hr2 : (rowsM N ord)[as.length]? = some (rowM N ord r) := by
        unfold rowsM
        rw [hal, List.getElem?_map, hpre, List.getElem?_append_right (Nat.le_refl _)]; simp
      have e4 : rowC as (rowsM N ord) ++ [(D2, StrsO ((rowM N ord r).map dotS))] = rowC (as ++ [D2]) (rowsM N ord) := (zip_snoc (fun (a : Addr) (r : List Nat) => ((a, StrsO (r.map dotS)) : Cel)) D2 hr2).symm
      rw [e4] at H10
      refine ⟨as ++ [D2], (m, some (.int r t)), ?_, ⟨by simp, pre ++ [r], by rw [hpre]; simp, by simp [hal]⟩, H10⟩
      have : (upR 0 N).length = pre.length + (rs.length + 1) := by rw [hpre]; simp
      rw [upR_len] at this
      rw [List.length_map]
      exact Nat.le_trans (by lia) two20
  · intro D as ys ⟨hys, pre, hpre, hal⟩
    subst hys
    have hal2 : as.length = N := by rw [hal, ← upR_len 0 N, hpre]; simp
    refine ⟨_, _, .tail .head, fun s7 H7 => ?_⟩
    refine wpAny_execs_cons ?_
    refine wpAny_Return_some ?_
    refine wpAny_BinOp (n_local H7 (by k_mem) rfl ?_)
    refine d_list (B := B) ?_
    refine wpAny_items_cons ?_
    refine d_list (B := B) ?_
    refine wpAny_items_cons ?_
    with_reducible refine c_str H7 fun t1 s8 H8 => ?_
    refine wpAny_items_cons ?_
    with_reducible refine c_str H8 fun t2 s9 H9 => ?_
    refine wpAny_items_cons ?_
    refine wpAny_BinOp ?_
    with_reducible refine c_str H9 fun t3 s10 H10 => ?_
    rw [dot_one]
    refine n_local H10 (by k_mem) rfl (t_mul1 H10 (by lia) hd0 fun t4 s11 H11 => wpAny_items_nil ⟨_, H11, (show 3 ≤ sizeLine by decide), fun e s12 H12 => wpAny_items_nil ?_⟩)
    have H13 := H12.weak (P' := StrsO (restS d.toNat)) .head fun o ho => ⟨_, ho, rfl⟩
    refine ⟨_, H13, one_le, fun D3 s14 H14 => ?_⟩
    refine l_add H14 (.tail _ (.tail _ (.head _))) (.head _) ?_ fun D4 s15 H15 => ?_
    · rw [List.length_map, hal2]; exact Nat.le_trans (by simp; (exact Nat.le_trans (by assumption) (by decide))) two20
    · exact h D4 e as s15 hal2 ((H15.cut 1 1).cut 2 4)
theorem all_ (x : X) : T x := Classical.byContradiction fun hn => Classical.epsilon_spec (p := fun x => ¬ T x) ⟨x, hn⟩ at_
end PaD
section
variable {prog : Program} {w : World} {A : Around} {E : Value → Shared → Prop} {B s : Shared} {cs cs' : List Cel} {env : Env} {Q : Value → Shared → Prop}
theorem spec_page {n d : Int} {N : Nat} {tn td : Tok} {oD : Addr} {oas : List Addr} {ord : List (Int × Int)} {k : Nat} (hN : N ≤ 4) (hn : n = N + 1) (Fn : Fns B) (Nm : Names B) (ok : Ok A (k + 3)) (H : St B cs s) (hl : (oD, LstO (oas.map .ref)) ∈ cs) (hsub : ∀ c ∈ tupC oas ord, c ∈ cs) (hlen : oas.length = ord.length) (hz : ord.length ≤ 100) (hall : ∀ r ∈ upR 0 N, ∀ c ∈ upR 0 (N - r.toNat), (r, c) ∈ ord) (hd0 : 0 ≤ d) (hd : d ≤ 1000) (h : ∀ D e as s', as.length = N → St B ((D, LstO (as.map .ref ++ [.ref e])) :: (e, StrsO (restS d.toNat)) :: (rowC as (rowsM N ord) ++ cs)) s' → Q (.ref D) s') :
    wpAny (model prog w) A (call (.ref 175) [.int n tn, .ref oD, .int d td]) Q E s := by
  refine call_fnC (binds := [(Str.ofString "n", .int n tn), (Str.ofString "order", .ref oD), (Str.ofString "dots", .int d td)]) (m := fun x => if x = Str.ofString "dots" then some (.int d td) else none) (cl := fun L => [(Str.ofString "order", L + 2), (Str.ofString "n", L + 1)])
    (cels := fun L => [(L + 2, CellO (some (.ref oD))), (L + 1, CellO (some (.int n tn)))]) Fn.page (fun _ _ _ => rfl) ok Nm H (fun _ _ _ => rfl) (fun _ => rfl) (fun _ _ _ => ?_) (fun _ _ _ => rfl) ?_
  · rfl
  intro L cd s1 E' ok1 H1
  exact PaD.all_ ⟨prog, w, A, E, B, cs, Q, n, d, N, tn, td, oD, oas, ord, k, L, cd, s1, E'⟩ hN hn Fn Nm ok hl hsub hlen hz hall hd0 hd h ok1 H1

end
end Mine
end
section
namespace Mine
open PySem PySem.Calls PyProof.Rows PySem.W

noncomputable def cmpN (a b : Nat) : Int := if b < a then 1 else if a < b then -1 else 0
noncomputable def getR (rows : List (List Nat)) (r c : Nat) : Nat := (rows.getD r []).getD c 0
noncomputable def setR (rows : List (List Nat)) (r c x : Nat) : List (List Nat) := rows.set r ((rows.getD r []).set c x)
noncomputable def endsM (N : Nat) (rows : List (List Nat)) : List Nat := (upR 0 N).map fun r => getR rows r.toNat (N - 1 - r.toNat)
noncomputable def sumsM (ends : List Nat) : List Int := ends.map fun one => (ends.map fun o => cmpN one o).sum
noncomputable abbrev SlSt := (Nat × Nat) × List (List Nat)
noncomputable def sideM (st : SlSt) : Int := if 0 < st.1.1 ∧ 0 < st.1.2 then cmpN (getR st.2 (st.1.1 - 1) st.1.2) (getR st.2 st.1.1 (st.1.2 - 1)) else if st.1.2 = 0 then 1 else -1
noncomputable def aboveM (st : SlSt) : Nat := if sideM st = 1 then st.1.1 - 1 else st.1.1
noncomputable def besideM (st : SlSt) : Nat := if sideM st = -1 then st.1.2 - 1 else st.1.2
noncomputable def stepS (st : SlSt) : SlSt := ((aboveM st, besideM st), setR st.2 st.1.1 st.1.2 (getR st.2 (aboveM st) (besideM st)))
noncomputable def iterS : Nat → SlSt → SlSt
  | 0, st => st
  | k + 1, st => iterS k (stepS st)
noncomputable def slideM (N : Nat) (rows : List (List Nat)) : Nat × List (List Nat) :=
  let r := (sumsM (endsM N rows)).idxOf ((N : Int) - 1)
  (N - 1 - r, setR (iterS (N - 1) ((r, N - 1 - r), rows)).2 0 0 1)
noncomputable def Shape (N : Nat) (rows : List (List Nat)) : Prop := rows.length = N ∧ ∀ r, r < N → (rows.getD r []).length = N - r

theorem shape_set {N r c x : Nat} {rows : List (List Nat)} (h : Shape N rows) : Shape N (setR rows r c x) := by
  refine ⟨by simp [setR, h.1], fun i hi => ?_⟩
  have := h.2 i hi
  unfold setR
  rw [List.getD_eq_getElem?_getD, List.getElem?_set]
  by_cases e : r = i
  · subst e
    rw [if_pos rfl, if_pos (by rw [h.1]; exact hi)]
    simpa using this
  · rw [if_neg e, ← List.getD_eq_getElem?_getD]; exact this
theorem shape_step {N : Nat} {st : SlSt} (h : Shape N st.2) : Shape N (stepS st).2 := shape_set h
theorem cmpN_range (a b : Nat) : cmpN a b = 1 ∨ cmpN a b = 0 ∨ cmpN a b = -1 := by unfold cmpN; (repeat' split) <;> simp
theorem side_range (st : SlSt) : sideM st = 1 ∨ sideM st = 0 ∨ sideM st = -1 := by
  unfold sideM; split
  · exact cmpN_range _ _
  · split <;> simp
theorem step_bound {st : SlSt} (h : 1 ≤ st.1.1 + st.1.2) : aboveM st + besideM st ≤ st.1.1 + st.1.2 ∧ st.1.1 + st.1.2 ≤ aboveM st + besideM st + 1 ∧ aboveM st ≤ st.1.1 ∧ besideM st ≤ st.1.2 ∧ (sideM st = 1 → 0 < st.1.1) ∧ (sideM st = -1 → 0 < st.1.2) := by
  have h1 : sideM st = 1 → 0 < st.1.1 := by
    unfold sideM; split
    · intro _; lia
    · split
      · intro _; lia
      · intro e; exact absurd e (by decide)
  have h2 : sideM st = -1 → 0 < st.1.2 := by
    unfold sideM; split
    · intro _; lia
    · split
      · intro e; exact absurd e (by decide)
      · intro _; (exact Nat.pos_of_ne_zero (by assumption))
  refine ⟨?_, ?_, ?_, ?_, h1, h2⟩ <;> (simp only [aboveM, besideM]; rcases side_range st with e | e | e <;> rw [e] <;> simp <;> (clear h e; lia))

theorem dots_lt : ∀ a b : Nat, (dotS a).cps.toList < (dotS b).cps.toList ↔ a < b := by
  have key : ∀ a b : Nat, (List.replicate a 46 ++ [45] : List Nat) < List.replicate b 46 ++ [45] ↔ a < b := by
    intro a
    induction a with
    | zero =>
      intro b
      cases b with
      | zero => simp
      | succ b => simp [List.replicate_succ, List.cons_lt_cons_iff]
    | succ a ih =>
      intro b
      cases b with
      | zero => simp [List.replicate_succ, List.cons_lt_cons_iff]
      | succ b =>
        simp only [List.replicate_succ, List.cons_append, List.cons_lt_cons_iff]
        rw [ih b]; simp
  intro a b
  simpa [dotS] using key a b
theorem cmp_dots (a b : Nat) : cmpM (dotS a) (dotS b) = cmpN a b := by
  unfold cmpM cmpN
  simp only [dots_lt]
  by_cases h1 : b < a
  · rw [decide_eq_true h1, decide_eq_false (by lia : ¬ a < b), if_pos h1]; rfl
  · rw [decide_eq_false h1, if_neg h1]
    by_cases h2 : a < b
    · rw [decide_eq_true h2, if_pos h2]; rfl
    · rw [decide_eq_false h2, if_neg h2]; rfl

section
variable {prog : Program} {w : World} {A : Around} {E : Value → Shared → Prop} {B s : Shared} {cs cs' : List Cel} {env : Env} {Q : Value → Shared → Prop}

theorem row_mem {as : List Addr} {rows : List (List Nat)} (hl : as.length = rows.length) {r : Nat} (hr : r < rows.length) : ∃ a, as[r]? = some a ∧ (a, StrsO ((rows.getD r []).map dotS)) ∈ rowC as rows := by
  have e : rows[r]? = some (rows.getD r []) := by rw [List.getD_eq_getElem?_getD, List.getElem?_eq_getElem hr]; rfl
  exact zip_mem (g := fun (a : Addr) (r : List Nat) => ((a, StrsO (r.map dotS)) : Cel)) hl e
theorem row_upd : ∀ {as : List Addr} {rows : List (List Nat)} {r : Nat} {a : Addr} {row row' : List Nat} {X : List Cel}, as[r]? = some a → rows[r]? = some row → as.length = rows.length →
    Upd a (StrsO (row.map dotS)) (StrsO (row'.map dotS)) (rowC as rows ++ X) (rowC as (rows.set r row') ++ X)
  | x :: as, y :: rows, 0, a, row, row', X, h1, h2, _ => by
    simp at h1 h2; subst h1 h2; exact .head
  | x :: as, y :: rows, r + 1, a, row, row', X, h1, h2, h3 => .tail (row_upd (as := as) (rows := rows) (by simpa using h1) (by simpa using h2) (by simpa using h3))
  | [], _, _, _, _, _, _, h1, _, _ => by simp at h1
  | _ :: _, [], _, _, _, _, _, _, h2, _ => by simp at h2
theorem dots_at {row : List Nat} {c : Nat} (h : c < row.length) : (row.map dotS)[c]? = some (dotS (row.getD c 0)) := by
  rw [List.getElem?_map, List.getD_eq_getElem?_getD, List.getElem?_eq_getElem h]; rfl

theorem x_swap2 {x y : Str} {e1 e2 : Expr} {px py tpos vpos pos : Pos} {k1 k2} {Q : Flow → Shared → Prop} (hh : A.handled = none)
    (h : wpAny (model prog w) A (eval e1 env) (fun v1 s1 => wpAny (model prog w) A (eval e2 env) (fun v2 s2 => ∃ cs1, St B cs1 s2 ∧ ∀ s3, St B cs1 s3 →
      wpAny (model prog w) A (storeName env y v2) (fun _ s4 => wpAny (model prog w) A (storeName env x v1) (fun _ s5 => Q .next s5) E s4) E s3) E s1) E s)
    (hs : swapsWithSole [.Tuple [.Name x px, .Name y py] k1 tpos] (.Tuple [e1, e2] k2 vpos) pos.line env = pure false := by rfl)
    (hw : swappedStores [.Tuple [.Name x px, .Name y py] k1 tpos] (.Tuple [e1, e2] k2 vpos) env = pure (some [x, y]) := by rfl)
    (h1 : starEach [e1, e2] env = (false, eval e1 env) :: starEach [e2] env := by rfl) (h2 : starEach [e2] env = (false, eval e2 env) :: starEach [] env := by rfl) :
    wpAny (model prog w) A (exec (.Assign [.Tuple [.Name x px, .Name y py] k1 tpos] (.Tuple [e1, e2] k2 vpos) pos) env) Q E s := by
  refine Assign_Tuple_swapped (names := [x, y]) ?_ hs hw
  refine d_tup (B := B) ?_
  refine wpAny_items_cons (he := h1) ?_
  refine wpAny_mono h (fun v1 s1 q1 => ?_) fun _ _ x => x
  refine wpAny_items_cons (he := h2) ?_
  refine wpAny_mono q1 (fun v2 s2 q2 => ?_) fun _ _ x => x
  refine wpAny_items_nil ?_
  obtain ⟨cs1, H1, q⟩ := q2
  refine ⟨cs1, H1, (show 2 ≤ sizeLine by decide), fun D s' H' => ?_⟩
  have ht := H'.tup (.head _)
  show wpAny (model prog w) A (unpackItems (.ref D) [v1, v2].toArray.size none) _ _ _
  with_reducible refine wpAny_unpackItems_tuple hh ht fun h' he => ?_
  have H2 := H'.ext (t := s'.toks) (h' := h') fun b o e => he b o (Nat.ne_of_lt (Heap.lt_size e)) e
  show wpAny (model prog w) A (assignInOrder [fun v => bindName env y v, fun v => bindName env x v] [v2, v1]) _ _ _
  refine wpAny_assignInOrder_more ?_
  refine bindName_ ?_
  refine wpAny_mono (q _ (H2.drop 1)) (fun _ s4 q4 => ?_) fun _ _ x => x
  refine wpAny_assignInOrder_more ?_
  refine bindName_ ?_
  refine wpAny_mono q4 (fun _ s5 q5 => ?_) fun _ _ x => x
  exact wpAny_assignInOrder_none q5
end
end Mine
end
section
set_option maxRecDepth 100000
set_option maxHeartbeats 4000000
namespace Mine
open PySem PySem.Calls PyProof.Rows PySem.W PySem.SeqAt Builtin

noncomputable def afterW (c : Nat) (ws : List (Nat × Nat)) : List (Nat × Nat) := [decW (ws.getD (c + 1) (0, 0)), decW (ws.getD c (0, 0))] ++ ws.drop (c + 2)
noncomputable def exR (L D x dx : Addr) (n : Int) (tn : Tok) (b : Nat → Nat) (c : Nat) (as : List Addr) (ws : List (Nat × Nat)) (cs : List Cel) (y : (Str → Option Value) × List Addr) : List Cel :=
  (D, LstO ((as.map Value.ref).drop c)) :: (L, NsO y.1) :: (x, PileO dx ((as.take c ++ y.2).map .ref)) :: (dx, NsO (sizeM n tn)) :: (txtC y.2 ((afterW c ws).map (wS b)) ++ (txtC as (ws.map (wS b)) ++ cs))

section
variable {prog : Program} {w : World} {M : Model} {A : Around} {E : Value → Shared → Prop} {B s : Shared} {cs cs' : List Cel} {env : Env} {Q : Value → Shared → Prop} {K : Frag}

theorem a_txt {x y : Str} {px py pt : Pos} {kt} {a : Addr} {p : Str × Str} {Q : Unit → Shared → Prop} (hh : A.handled = none) (H : St B cs s) (ht : (a, TxtO p) ∈ cs)
    (h : ∀ t u s', St B cs s' → wpAny (model prog w) A (storeName env x (.str p.1 t)) (fun _ s'' => wpAny (model prog w) A (storeName env y (.str p.2 u)) Q E s'') E s') :
    wpAny (model prog w) A (assign (.Tuple [.Name x px, .Name y py] kt pt) env (.ref a)) Q E s := by
  obtain ⟨t, u, hT⟩ := H.txt ht
  refine wpAny_assign_Tuple hh hT rfl rfl fun h' he => ?_
  have H' := H.ext (t := s.toks) (h' := h') fun b o e => he b o (Nat.ne_of_lt (Heap.lt_size e)) e
  show wpAny _ _ (do holding [Value.str p.2 u] (assign (.Name x px) env (.str p.1 t)); holding [] (assign (.Name y py) env (.str p.2 u)); pure ()) _ _ _
  refine wpAny_bind (wpAny_holding (wpAny_assign_Name (wpAny_mono (h t u _ H') (fun _ s2 h2 => ?_) fun _ _ e => e)))
  exact wpAny_bind (wpAny_holding (wpAny_assign_Name (wpAny_mono h2 (fun _ s3 h3 => wpAny_pure h3) fun _ _ e => e)))

theorem sub_txt1 {value slice : Expr} {a : Addr} {p : Str × Str} {t : Tok} (H : St B cs s) (ht : (a, TxtO p) ∈ cs) (h : ∀ u, Q (.str p.2 u) s)
    (hs : subscripted slice false (.ref a) (.int 1 t) = operate [.ref a, .int 1 t] (getItem (.ref a) (.int 1 t)) := by with_unfolding_all rfl) :
    wpAny (model prog w) A (subscriptTail value slice (.ref a) (.int 1 t)) Q E s := by
  obtain ⟨t', u, hT⟩ := H.txt ht
  exact item_tupleT hT (by decide) (by simp) (seqIndex_of (by decide) (by simp)) rfl (h u) hs

theorem ex_cells {x dx D4 : Addr} {P X1 X2 : Obj → Prop} {as news : List Addr} {ws : List (Nat × Nat)} {b : Nat → Nat} {c : Nat} (H : St B ((D4, P) :: (x, X1) :: (dx, X2) :: (txtC news ((afterW c ws).map (wS b)) ++ (txtC as (ws.map (wS b)) ++ cs))) s) (hlen : as.length = ws.length) :
    St B ((D4, P) :: (x, X1) :: (dx, X2) :: (txtC (as.take c ++ news) ((exM c ws).map (wS b)) ++ cs)) s := by
  have e1 : txtC as (ws.map (wS b)) = txtC (as.take c) ((ws.take c).map (wS b)) ++ txtC (as.drop c) ((ws.drop c).map (wS b)) := by
    have hl : (as.take c).length = ((ws.take c).map (wS b)).length := by rw [List.length_take, List.length_map, List.length_take, hlen]
    have := List.zipWith_append (f := fun (a : Addr) (p : Str × Str) => ((a, TxtO p) : Cel)) (l₁' := as.drop c) (l₂' := (ws.drop c).map (wS b)) hl
    rw [List.take_append_drop, ← List.map_append, List.take_append_drop] at this
    exact this
  have e2 : txtC (as.take c ++ news) ((exM c ws).map (wS b)) = txtC (as.take c) ((ws.take c).map (wS b)) ++ txtC news ((afterW c ws).map (wS b)) := by
    have hl : (as.take c).length = ((ws.take c).map (wS b)).length := by rw [List.length_take, List.length_map, List.length_take, hlen]
    have := List.zipWith_append (f := fun (a : Addr) (p : Str × Str) => ((a, TxtO p) : Cel)) (l₁' := news) (l₂' := (afterW c ws).map (wS b)) hl
    rw [← List.map_append] at this
    exact this
  rw [e1] at H
  rw [e2]
  have s1 : ((D4, P) :: (x, X1) :: (dx, X2) :: (txtC news ((afterW c ws).map (wS b)) ++ (txtC (as.take c) ((ws.take c).map (wS b)) ++ cs))).Sublist ((D4, P) :: (x, X1) :: (dx, X2) :: (txtC news ((afterW c ws).map (wS b)) ++ (txtC (as.take c) ((ws.take c).map (wS b)) ++ txtC (as.drop c) ((ws.drop c).map (wS b)) ++ cs))) := by
    refine ((List.Sublist.append (List.Sublist.refl _) ?_).cons_cons _ |>.cons_cons _ |>.cons_cons _)
    exact List.Sublist.append (List.sublist_append_left _ _) (List.Sublist.refl _)
  refine (H.sub s1).perm ?_
  refine List.Perm.cons _ (List.Perm.cons _ (List.Perm.cons _ ?_))
  rw [List.append_assoc]
  exact List.perm_append_comm_assoc _ _ _

set_option maxHeartbeats 8000000 in
end
namespace ExD
noncomputable abbrev X := (Program) × (World) × (Around) × (Value → Shared → Prop) × (Shared) × (List Cel) × (Value → Shared → Prop) × (Frag) × (Addr) × (Addr) × (List Addr) × (List (Nat × Nat)) × (Nat → Nat) × (Nat) × (Tok) × (Int) × (Tok) × (Nat × Nat) × (Nat × Nat) × (Nat) × (Addr) × (Value) × (Shared) × (Value → Shared → Prop)
noncomputable def S (prog : Program) (w : World) (A : Around) (E : Value → Shared → Prop) (B : Shared) (cs : List Cel) (Q : Value → Shared → Prop) (K : Frag) (x : Addr) (dx : Addr) (as : List Addr) (ws : List (Nat × Nat)) (b : Nat → Nat) (c : Nat) (tc : Tok) (n : Int) (tn : Tok) (p0 : Nat × Nat) (p1 : Nat × Nat) (k : Nat) (L : Addr) (cd : Value) (s1 : Shared) (E' : Value → Shared → Prop) : Prop :=
  ∀ (Fn : Fns B) (C : Acc B K) (AF : AccF B) (N : Names B) (ok : Ok A (k + 4)) (hlen : as.length = ws.length) (hz : ws.length ≤ 5) (hw0 : ws[c]? = some p0) (hw1 : ws[c + 1]? = some p1) (hlt : p0.2 < p1.2) (h0 : p0.2 + 1 ≤ p0.1) (h1 : p1.2 + 1 ≤ p1.1) (hb : ∀ j, b j < 4) (hbd : ∀ p ∈ ws, p.1 ≤ 100 ∧ p.2 ≤ 10) (h : ∀ D as' s', as'.length = (exM c ws).length → St B ((D, IntsO [-1, 1, 0]) :: (x, PileO dx (as'.map .ref)) :: (dx, NsO (sizeM n tn)) :: (txtC as' ((exM c ws).map (wS b)) ++ cs)) s' → Q (.ref D) s'),
    Ok (A.deeper (envX "_law_exchange" (scOf (stOf 20)) L 189 cd [])) (k + 3) → St B ((L, NsO fun zq => ([(Str.ofString "pile", .ref x), (Str.ofString "c", .int c tc)] : List (Str × Value)).reverse.lookup zq) :: ((x, PileO dx (as.map .ref)) :: (dx, NsO (sizeM n tn)) :: (txtC as (ws.map (wS b)) ++ cs))) s1 →
    wpAny (model prog w) (A.deeper (envX "_law_exchange" (scOf (stOf 20)) L 189 cd [])) (execs (bdOf (stOf 20)) (envX "_law_exchange" (scOf (stOf 20)) L 189 cd [])) (fun f s' => Q (match f with | .ret v => v | _ => .none) s') E' s1
noncomputable def T (x : X) : Prop := S x.1 x.2.1 x.2.2.1 x.2.2.2.1 x.2.2.2.2.1 x.2.2.2.2.2.1 x.2.2.2.2.2.2.1 x.2.2.2.2.2.2.2.1 x.2.2.2.2.2.2.2.2.1 x.2.2.2.2.2.2.2.2.2.1 x.2.2.2.2.2.2.2.2.2.2.1 x.2.2.2.2.2.2.2.2.2.2.2.1 x.2.2.2.2.2.2.2.2.2.2.2.2.1 x.2.2.2.2.2.2.2.2.2.2.2.2.2.1 x.2.2.2.2.2.2.2.2.2.2.2.2.2.2.1 x.2.2.2.2.2.2.2.2.2.2.2.2.2.2.2.1 x.2.2.2.2.2.2.2.2.2.2.2.2.2.2.2.2.1 x.2.2.2.2.2.2.2.2.2.2.2.2.2.2.2.2.2.1 x.2.2.2.2.2.2.2.2.2.2.2.2.2.2.2.2.2.2.1 x.2.2.2.2.2.2.2.2.2.2.2.2.2.2.2.2.2.2.2.1 x.2.2.2.2.2.2.2.2.2.2.2.2.2.2.2.2.2.2.2.2.1 x.2.2.2.2.2.2.2.2.2.2.2.2.2.2.2.2.2.2.2.2.2.1 x.2.2.2.2.2.2.2.2.2.2.2.2.2.2.2.2.2.2.2.2.2.2.1 x.2.2.2.2.2.2.2.2.2.2.2.2.2.2.2.2.2.2.2.2.2.2.2
noncomputable def x0 : X := @Classical.epsilon X ⟨⟨default, dumW, {}, fun _ _ => True, dumS, [], fun _ _ => True, [], 0, 0, [], [], default, 0, default, 0, default, default, default, 0, 0, default, dumS, fun _ _ => True⟩⟩ fun x => ¬ T x
noncomputable def prog : Program := x0.1
noncomputable def w : World := x0.2.1
noncomputable def A : Around := x0.2.2.1
noncomputable def E : Value → Shared → Prop := x0.2.2.2.1
noncomputable def B : Shared := x0.2.2.2.2.1
noncomputable def cs : List Cel := x0.2.2.2.2.2.1
noncomputable def Q : Value → Shared → Prop := x0.2.2.2.2.2.2.1
noncomputable def K : Frag := x0.2.2.2.2.2.2.2.1
noncomputable def x : Addr := x0.2.2.2.2.2.2.2.2.1
noncomputable def dx : Addr := x0.2.2.2.2.2.2.2.2.2.1
noncomputable def as : List Addr := x0.2.2.2.2.2.2.2.2.2.2.1
noncomputable def ws : List (Nat × Nat) := x0.2.2.2.2.2.2.2.2.2.2.2.1
noncomputable def b : Nat → Nat := x0.2.2.2.2.2.2.2.2.2.2.2.2.1
noncomputable def c : Nat := x0.2.2.2.2.2.2.2.2.2.2.2.2.2.1
noncomputable def tc : Tok := x0.2.2.2.2.2.2.2.2.2.2.2.2.2.2.1
noncomputable def n : Int := x0.2.2.2.2.2.2.2.2.2.2.2.2.2.2.2.1
noncomputable def tn : Tok := x0.2.2.2.2.2.2.2.2.2.2.2.2.2.2.2.2.1
noncomputable def p0 : Nat × Nat := x0.2.2.2.2.2.2.2.2.2.2.2.2.2.2.2.2.2.1
noncomputable def p1 : Nat × Nat := x0.2.2.2.2.2.2.2.2.2.2.2.2.2.2.2.2.2.2.1
noncomputable def k : Nat := x0.2.2.2.2.2.2.2.2.2.2.2.2.2.2.2.2.2.2.2.1
noncomputable def L : Addr := x0.2.2.2.2.2.2.2.2.2.2.2.2.2.2.2.2.2.2.2.2.1
noncomputable def cd : Value := x0.2.2.2.2.2.2.2.2.2.2.2.2.2.2.2.2.2.2.2.2.2.1
noncomputable def s1 : Shared := x0.2.2.2.2.2.2.2.2.2.2.2.2.2.2.2.2.2.2.2.2.2.2.1
noncomputable def E' : Value → Shared → Prop := x0.2.2.2.2.2.2.2.2.2.2.2.2.2.2.2.2.2.2.2.2.2.2.2
theorem at_ : S prog w A E B cs Q K x dx as ws b c tc n tn p0 p1 k L cd s1 E' := by
  intro Fn C AF N ok hlen hz hw0 hw1 hlt h0 h1 hb hbd h ok1 H1
  have hc : c + 1 < ws.length := (List.getElem?_eq_some_iff.mp hw1).1
  have hbig : 1000 ≤ sizeLine := by decide
  obtain ⟨a0, ha0⟩ : ∃ a, as[c]? = some a := ⟨_, List.getElem?_eq_getElem (by (clear hz; lia))⟩
  obtain ⟨a1, ha1⟩ : ∃ a, as[c + 1]? = some a := ⟨_, List.getElem?_eq_getElem (by (clear hz; lia))⟩
  have hmemT : ∀ (i : Nat) (a : Addr) (p : Nat × Nat), as[i]? = some a → ws[i]? = some p → (a, TxtO (wS b p)) ∈ txtC as (ws.map (wS b)) := fun i a p ha hp => by
    obtain ⟨a', ha', hm⟩ := zip_mem (g := fun (a : Addr) (p : Str × Str) => ((a, TxtO p) : Cel)) (as := as) (ps := ws.map (wS b)) (by rw [List.length_map, hlen]) (i := i) (p := wS b p) (by rw [List.getElem?_map, hp]; rfl)
    rw [ha] at ha'; cases ha'; exact hm
  have hdr : ∀ i : Nat, ((as.map Value.ref).drop c)[i]? = (as[c + i]?).map Value.ref := fun i => by rw [List.getElem?_drop, List.getElem?_map]
  refine wpAny_execs_cons ?_
  refine wpAny_Assign_Name ?_
  refine p_call C C.popF (fn_ty C (by decide)) (.inl rfl) (n_local H1 (by k_mem) rfl ⟨_, x, dx, _, _, rfl, H1, .tail _ (.head _), .tail _ (.tail _ (.head _)), rfl, ?_⟩) rfl
  refine cw_fnM AF.popF (wpAny_items_cons (n_local H1 (by k_mem) rfl (wpAny_items_nil ⟨⟨_, H1⟩, ?_⟩)))
  refine spec_popF C AF N ok1 H1 (.tail .head) (by rw [List.length_map]; lia) (by rw [List.length_map]; (clear hz; lia)) fun D s2 H2 => ?_
  refine s_local (m' := fun _ => none) H2 (.tail .head) fun s3 H3 => ?_
  refine wpAny_execs_cons ?_
  refine wpAny_For ?_
  refine d_list (B := B) ?_
  refine wpAny_items_cons (Subscript_ (n_local H3 (by k_mem) rfl (c_int H3 fun t4 s4 H4 => sub_list H4 (x := .ref a1) (.head _) (by decide) (by decide) (by rw [hdr]; show (as[c + 1]?).map _ = _; rw [ha1]; rfl) ?_)))
  refine wpAny_items_cons (Subscript_ (n_local H4 (by k_mem) rfl (c_int H4 fun t5 s5 H5 => sub_list H5 (x := .ref a0) (.head _) (by decide) (by decide) (by rw [hdr]; show (as[c + 0]?).map _ = _; rw [Nat.add_zero, ha0]; rfl) ?_)))
  refine wpAny_items_nil ⟨_, H5, Nat.le_trans (show 2 ≤ 1000 by (exact Nat.le_add_left _ _)) hbig, fun D2 s6 H6 => ?_⟩
  clear H5 H4 H3 H2 H1
  refine pyIter_list H6 fun it s7 H7 => ?_
  have hW : ∀ (j : Nat) (q : Nat × Nat), (afterW c ws)[j]? = some q → ((afterW c ws).map (wS b))[j]? = some (wS b q) := fun j q e => by rw [List.getElem?_map, e]; rfl
  have hW0 : (afterW c ws)[0]? = some (decW p1) := by
    unfold afterW
    rw [List.getD_eq_getElem?_getD, hw1]; rfl
  have hW1 : (afterW c ws)[1]? = some (decW p0) := by
    unfold afterW
    rw [List.getD_eq_getElem?_getD, List.getD_eq_getElem?_getD, hw0, hw1]; rfl
  have hlw : (afterW c ws).length + c = ws.length := by
    unfold afterW; rw [List.length_append, List.length_drop]; simp; lia
  have tk0 : (as.map Value.ref).take c = (as.take c ++ ([] : List Addr)).map .ref := by simp
  rw [tk0] at H7
  have turn : ∀ (p : Nat × Nat) (g : Str × Str) (j : Nat) (m : Str → Option Value) (news : List Addr) (X : List Cel) (s : Shared) (E' : Value → Shared → Prop) (e1 e2 : Expr) (apos pos : Pos), ((afterW c ws).map (wS b))[news.length]? = some g → news.length ≤ 10 → (afterW c ws).length ≤ 10 → True := fun _ _ _ _ _ _ _ _ _ _ _ _ _ _ _ => trivial
  clear turn
  refine r_for (iter_list ok1.handled) (exR L D x dx n tn b c as ws cs) (fun rem y => y.1 (Str.ofString "pile") = some (.ref x) ∧ y.1 (Str.ofString "taken") = some (.ref D) ∧ y.2.length ≤ 2 ∧ rem = ([.ref a1, .ref a0] : List Value).drop y.2.length) (x0 := (_, [])) H7 ⟨rfl, rfl, by simp, rfl⟩ ?_ ?_
  · clear H7 H6
    rintro v0 rem v ⟨m, news⟩ s1 E1 hv ⟨hmp, hmt, hl2, hrem⟩ H1
    have hv : v0 = v := hv
    subst hv
    dsimp only at hmp hmt hl2 hrem
    obtain ⟨a, p, hva, hmem, hg, hpb, hlp, hlp2, hr'⟩ : ∃ (a : Addr) (p : Nat × Nat), v0 = .ref a ∧ (a, TxtO (wS b p)) ∈ txtC as (ws.map (wS b)) ∧ ((afterW c ws).map (wS b))[news.length]? = some (wS b (decW p)) ∧ p.2 + 1 ≤ p.1 ∧ p ∈ ws ∧ news.length + 1 ≤ 2 ∧ rem = ([.ref a1, .ref a0] : List Value).drop (news.length + 1) := by
      have : news.length = 0 ∨ news.length = 1 ∨ news.length = 2 := by lia
      rcases this with e | e | e
      · rw [e] at hrem ⊢
        injection hrem with e1 e2
        exact ⟨a1, p1, e1, hmemT _ _ _ ha1 hw1, hW 0 _ hW0, h1, List.mem_of_getElem? hw1, by (exact Nat.succ_pos _), e2⟩
      · rw [e] at hrem ⊢
        injection hrem with e1 e2
        exact ⟨a0, p0, e1, hmemT _ _ _ ha0 hw0, hW 1 _ hW1, h0, List.mem_of_getElem? hw0, by (exact Nat.lt_succ_self _), e2⟩
      · rw [e] at hrem; cases hrem
    subst hva
    clear hrem
    obtain ⟨hp100, hp10⟩ := hbd p hlp
    have hb4 := hb p.2
    have hmem2 : ∀ X : List Cel, (a, TxtO (wS b p)) ∈ X ++ ((D, LstO ((as.map Value.ref).drop c)) :: (L, NsO m) :: (x, PileO dx ((as.take c ++ news).map .ref)) :: (dx, NsO (sizeM n tn)) :: (txtC news ((afterW c ws).map (wS b)) ++ (txtC as (ws.map (wS b)) ++ cs))) := fun X =>
      List.mem_append_right _ (.tail _ (.tail _ (.tail _ (.tail _ (List.mem_append_right _ (List.mem_append_left _ hmem))))))
    refine a_txt ok1.handled H1 (hmem2 _) fun t u s2 H2 => ?_
    refine s_local (m' := fun _ => none) H2 (.tail (.tail (.tail .head))) fun s3 H3 => ?_
    refine s_local (m' := fun _ => none) H3 (.tail (.tail (.tail .head))) fun s4 H4 => ?_
    refine wpAny_execs_cons ?_
    refine wpAny_Assign_Name ?_
    refine e_call (n_glob H4 (N.g fun mg h => h.2.2.1) (cw_fn Fn.strip ?_))
    refine wpAny_items_cons (wpAny_BinOp (n_local H4 (by k_mem) rfl (n_local H4 (by k_mem) rfl (t_add H4 ?_ fun t5 s5 H5 => ?_))))
    · refine Nat.le_trans ?_ hbig
      show Array.size _ + Array.size _ ≤ _
      simp only [wS, blanks, letS, List.size_toArray, List.length_replicate, List.length_cons]; lia
    have zl : (letS b p.2).length = 1 + b p.2 := by show Array.size _ = _; simp [letS]; (exact Nat.add_comm _ _)
    refine wpAny_items_cons (wpAny_BinOp ?_)
    refine e_call ?_
    refine n_blt H5 N (by k_mem) (by rfl) ?_
    refine cw_blt (wpAny_items_cons (Subscript_ (n_local H5 (by k_mem) rfl (e_slice (part_none (part_some (c_int H5 fun t6 s6 H6 => part_none ?_)))))))
    refine slice_str (l := none) (u := some (_, _)) H6 (by show (letS b p.2).length ≤ _; rw [zl]; exact Nat.le_trans (by lia) hbig) (fun t7 s7 H7 => ?_) rfl
    have es : Txt.slice (wS b p).2 ((none : Option (Int × Tok)).map (·.1)) ((some ((1 : Int), t6)).map (·.1)) = ⟨#[97 + p.2]⟩ := by
      show Txt.slice (letS b p.2) none (some 1) = _
      rw [txt_slice_to (by decide) (by rw [zl]; (clear zl; lia))]
      rfl
    rw [es]
    refine wpAny_items_nil (f_ord H7 fun t8 s8 H8 => c_int H8 fun t9 s9 H9 => i_sub H9 fun t10 s10 H10 => wpAny_items_nil ⟨⟨_, H10⟩, ?_⟩)
    rw [show (((97 + p.2 : Nat) : Int) - 96) = ((p.2 + 1 : Nat) : Int) by lia]
    refine spec_strip (k := k + 2) Fn N ok1 H10 ⟨97 + p.2, by rw [word_txt]; simp, by (clear es; lia)⟩ ?_ (Nat.le_trans (by (exact Nat.lt_of_le_of_lt (by assumption) (by decide))) hbig) fun t11 s11 H11 => ?_
    · have : ((wS b p).1 ++ (wS b p).2).length = ((wS b p).1 ++ (wS b p).2).cps.toList.length := by simp [Str.length]
      rw [this, word_txt]
      refine Nat.le_trans ?_ hbig
      simp only [List.length_append, List.length_replicate, List.length_cons]; lia
    rw [word_txt, strip_w (by lia) hpb]
    have hx0 : (⟨(List.replicate (p.1 - (p.2 + 1)) 32 ++ (97 + p.2) :: List.replicate (b p.2) 32).toArray⟩ : Str).cps.toList = List.replicate (p.1 - (p.2 + 1)) 32 ++ (97 + p.2) :: List.replicate (b p.2) 32 := rfl
    have zx : (⟨(List.replicate (p.1 - (p.2 + 1)) 32 ++ (97 + p.2) :: List.replicate (b p.2) 32).toArray⟩ : Str).length = p.1 - (p.2 + 1) + (1 + b p.2) := by show Array.size _ = _; simp; (exact Nat.add_comm _ _)
    generalize (⟨(List.replicate (p.1 - (p.2 + 1)) 32 ++ (97 + p.2) :: List.replicate (b p.2) 32).toArray⟩ : Str) = tx at hx0 zx ⊢
    refine s_local (m' := fun _ => none) H11 (.tail (.tail (.tail .head))) fun s12 H12 => ?_
    refine wpAny_execs_cons ?_
    refine wpAny_Assign_Name ?_
    refine m_call F.plainAttrs_str F.slot_str_lstrip F.type_str_lstrip (n_local H12 (by k_mem) rfl ⟨typeIs_str _ _ _, (fun a e => by cases e), ?_⟩) rfl
    refine wpAny_items_cons (c_str H12 fun t13 s13 H13 => wpAny_items_nil (SC.lstripChars (fun t14 k14 => ?_) (by rw [zx]; exact Nat.le_trans (by lia) hbig)))
    rw [lstrip_w (by lia) hx0]
    have H14 := H13.tok k14
    refine s_local (m' := fun _ => none) H14 (.tail (.tail (.tail .head))) fun s15 H15 => ?_
    refine wpAny_execs_cons ?_
    refine wpAny_Expr ?_
    refine p_call C C.push (fn_ty C (by decide)) (.inl rfl) (n_local H15 (by k_mem) (by exact hmp) ⟨_, x, dx, _, _, rfl, H15, .tail _ (.tail _ (.tail _ (.tail _ (.head _)))), .tail _ (.tail _ (.tail _ (.tail _ (.tail _ (.head _))))), rfl, ?_⟩) rfl
    refine cw_fnM AF.push (wpAny_items_cons (Subscript_ (n_local H15 (by k_mem) rfl (e_slice (part_none (part_some (wpAny_BinOp ?_)))))))
    refine e_call ?_
    refine n_blt H15 N (by k_mem) (by rfl) ?_
    refine cw_blt (wpAny_items_cons (n_local H15 (by k_mem) rfl (wpAny_items_nil (f_len_str H15 (by rw [zx]; exact Nat.le_trans (by lia) hbig) fun t16 s16 H16 => ?_))))
    refine e_call ?_
    refine n_blt H16 N (by k_mem) (by rfl) ?_
    refine cw_blt (wpAny_items_cons (n_local H16 (by k_mem) rfl (wpAny_items_nil (f_len_str H16 (by show (letS b p.2).length ≤ _; rw [zl]; exact Nat.le_trans (by lia) hbig) fun t17 s17 H17 => ?_))))
    refine i_sub H17 fun t18 s18 H18 => part_none ?_
    refine slice_str (l := none) (u := some (_, _)) H18 (by rw [zx]; exact Nat.le_trans (by lia) hbig) (fun t19 s19 H19 => ?_) rfl
    have es2 : Txt.slice tx ((none : Option (Int × Tok)).map (·.1)) ((some ((tx.length : Int) - ((⟨((97 + p.2) :: List.replicate (b p.2) 32).toArray⟩ : Str).length : Int), t18)).map (·.1)) = blanks (p.1 - (p.2 + 1)) := by
      show Txt.slice tx none (some ((tx.length : Int) - ((letS b p.2).length : Int))) = _
      rw [zl, zx, txt_slice_to (by lia) (by rw [zx]; lia), hx0]
      have : (((p.1 - (p.2 + 1) + (1 + b p.2) : Nat) : Int) - ((1 + b p.2 : Nat) : Int)).toNat = p.1 - (p.2 + 1) := by (clear hx0 zx; lia)
      rw [this, List.take_append_of_le_length (by simp)]
      simp [blanks]
    rw [es2]
    refine wpAny_items_cons (n_local H19 (by k_mem) rfl (wpAny_items_nil ⟨⟨_, H19⟩, ?_⟩))
    refine spec_push (k := k + 2) (ds := fun a => _) C AF N ok1 H19 (fun a => .tail (.tail (.tail (.tail .head)))) (.tail _ (.tail _ (.tail _ (.tail _ (.tail _ (.head _)))))) rfl (by rw [List.length_map, List.length_append, List.length_take]; exact Nat.le_trans (show min c as.length + news.length ≤ 1000 by lia) hbig) fun a' s21 H21 => ?_
    have H22 := St.sink (pre := [_, _, _, _, _, _]) (T := txtC news ((afterW c ws).map (wS b))) H21
    have e4 : txtC news ((afterW c ws).map (wS b)) ++ [(a', TxtO (blanks (p.1 - (p.2 + 1)), ⟨((97 + p.2) :: List.replicate (b p.2) 32).toArray⟩))] = txtC (news ++ [a']) ((afterW c ws).map (wS b)) := (zip_snoc (fun (a : Addr) (p : Str × Str) => ((a, TxtO p) : Cel)) a' hg).symm
    have e5 : (as.take c ++ news).map Value.ref ++ [.ref a'] = (as.take c ++ (news ++ [a'])).map .ref := by simp
    dsimp only at H22
    rw [e4, e5] at H22
    exact wpAny_execs_nil ⟨rfl, (_, news ++ [a']), ⟨by exact hmp, by exact hmt, by simpa using hlp2, by simpa using hr'⟩, H22⟩
  · clear H7 H6
    rintro ⟨m, news⟩ s1 ⟨hmp, hmt, hl2, hrem⟩ H1
    dsimp only at hmp hmt hl2 hrem
    have hn2 : news.length = 2 := by
      have : news.length = 0 ∨ news.length = 1 ∨ news.length = 2 := by lia
      rcases this with e | e | e
      · rw [e] at hrem; cases hrem
      · rw [e] at hrem; cases hrem
      · exact e
    have H2 := H1.drop 1
    refine wpAny_execs_cons ?_
    refine wpAny_For ?_
    refine Subscript_ (n_local H2 (by k_mem) (by exact hmt) (e_slice (part_some (c_int H2 fun t3 s3 H3 => part_none (part_none ?_)))))
    refine slice_k (lo := some 2) (hi := none) H3 (.head _) (.int _ _) .none (by rw [List.length_drop, List.length_map]; exact Nat.le_trans (by (clear hw1 hc ha1 hlw; lia)) hbig) (fun D3 s4 H4 => ?_) (by with_unfolding_all rfl)
    have e2 : kms_pick ((as.map Value.ref).drop c) (some 2) none = (as.drop (c + 2)).map .ref := by
      unfold kms_pick kms_lo kms_hi
      simp only []
      rw [if_neg (by decide), kmk_drop_min, List.take_of_length_le (by rw [List.length_drop]; (clear ok hz hw1 hlt h0 h1 hb hbd h ok1 hc hbig ha1 hW0 hW1 hlw hl2 H2 H3 H4; lia))]
      show ((as.map Value.ref).drop c).drop 2 = _
      rw [List.drop_drop, List.map_drop]
    rw [e2] at H4
    refine pyIter_list H4 fun it3 s5 H5 => ?_
    clear H4 H3 H2 H1
    refine r_for (iter_list ok1.handled) (exR L D x dx n tn b c as ws cs) (fun rem y => y.1 (Str.ofString "pile") = some (.ref x) ∧ y.1 (Str.ofString "taken") = some (.ref D) ∧ 2 ≤ y.2.length ∧ c + y.2.length ≤ as.length ∧ rem = (as.drop (c + y.2.length)).map .ref) (x0 := (_, news)) H5 ⟨by exact hmp, by exact hmt, by dsimp only; (exact Nat.le_of_eq (Eq.symm (by assumption))), by dsimp only; (clear hz hl2; lia), by dsimp only; rw [hn2]⟩ ?_ ?_
    · clear H5 hmp hmt hl2 hrem hn2 e2
      rintro v0 rem v ⟨m, news⟩ s1 E1 hv ⟨hmp, hmt, hl2, hle, hrem⟩ H1
      have hv : v0 = v := hv
      subst hv
      dsimp only at hmp hmt hl2 hle hrem
      have hil : c + news.length < as.length := by
        rcases Nat.lt_or_ge (c + news.length) as.length with q | q
        · exact q
        · rw [List.drop_of_length_le q] at hrem; cases hrem
      rw [List.drop_eq_getElem_cons hil, List.map_cons] at hrem
      injection hrem with e1 e2
      subst e1
      obtain ⟨p, hp⟩ : ∃ p, ws[c + news.length]? = some p := ⟨_, List.getElem?_eq_getElem (by (clear hle; lia))⟩
      have hmem := hmemT _ _ _ (List.getElem?_eq_getElem hil) hp
      have hg : ((afterW c ws).map (wS b))[news.length]? = some (wS b p) := by
        refine hW _ _ ?_
        unfold afterW
        rw [List.getElem?_append_right (by simpa using hl2), List.getElem?_drop, ← hp]
        congr 1; simp; lia
      generalize as[c + news.length] = a at H1 hmem
      refine a_txt ok1.handled H1 (List.mem_append_right _ (.tail _ (.tail _ (.tail _ (.tail _ (List.mem_append_right _ (List.mem_append_left _ hmem))))))) fun t u s2 H2 => ?_
      refine s_local (m' := fun _ => none) H2 (.tail (.tail (.tail .head))) fun s3 H3 => ?_
      refine s_local (m' := fun _ => none) H3 (.tail (.tail (.tail .head))) fun s4 H4 => ?_
      refine wpAny_execs_cons ?_
      refine wpAny_Expr ?_
      refine p_call C C.push (fn_ty C (by decide)) (.inl rfl) (n_local H4 (by k_mem) (by exact hmp) ⟨_, x, dx, _, _, rfl, H4, .tail _ (.tail _ (.tail _ (.tail _ (.head _)))), .tail _ (.tail _ (.tail _ (.tail _ (.tail _ (.head _))))), rfl, ?_⟩) rfl
      refine cw_fnM AF.push (wpAny_items_cons (n_local H4 (by k_mem) rfl (wpAny_items_cons (n_local H4 (by k_mem) rfl (wpAny_items_nil ⟨⟨_, H4⟩, ?_⟩)))))
      refine spec_push (k := k + 2) (ds := fun a => _) C AF N ok1 H4 (fun a => .tail (.tail (.tail (.tail .head)))) (.tail _ (.tail _ (.tail _ (.tail _ (.tail _ (.head _)))))) rfl (by rw [List.length_map, List.length_append, List.length_take]; exact Nat.le_trans (show min c as.length + news.length ≤ 1000 by (clear hc hl2; lia)) hbig) fun a' s21 H21 => ?_
      have H22 := St.sink (pre := [_, _, _, _, _, _]) (T := txtC news ((afterW c ws).map (wS b))) H21
      have e4 : txtC news ((afterW c ws).map (wS b)) ++ [(a', TxtO ((wS b p).1, (wS b p).2))] = txtC (news ++ [a']) ((afterW c ws).map (wS b)) := (zip_snoc (fun (a : Addr) (p : Str × Str) => ((a, TxtO p) : Cel)) a' hg).symm
      have e5 : (as.take c ++ news).map Value.ref ++ [.ref a'] = (as.take c ++ (news ++ [a'])).map .ref := by simp
      dsimp only at H22
      rw [e4, e5] at H22
      refine wpAny_execs_nil ⟨rfl, (_, news ++ [a']), ⟨by exact hmp, by exact hmt, ?_, ?_, ?_⟩, H22⟩
      · dsimp only; rw [List.length_append]; (exact Nat.le_succ_of_le (by assumption))
      · dsimp only; rw [List.length_append]; show c + (news.length + 1) ≤ _; assumption
      · dsimp only; rw [e2, List.length_append]; rfl
    · clear H5 hmp hmt hl2 hrem hn2 e2
      rintro ⟨m, news⟩ s1 ⟨hmp, hmt, hl2, hle, hrem⟩ H1
      dsimp only at hmp hmt hl2 hle hrem
      have hfull : c + news.length = as.length := by
        rcases Nat.lt_or_ge (c + news.length) as.length with q | q
        · rw [List.drop_eq_getElem_cons q] at hrem; cases hrem
        · (exact Nat.le_antisymm (by assumption) (by assumption))
      have m0 : ∀ X : List Cel, (a0, TxtO (wS b p0)) ∈ X ++ ((D, LstO ((as.map Value.ref).drop c)) :: (L, NsO m) :: (x, PileO dx ((as.take c ++ news).map .ref)) :: (dx, NsO (sizeM n tn)) :: (txtC news ((afterW c ws).map (wS b)) ++ (txtC as (ws.map (wS b)) ++ cs))) := fun X =>
        List.mem_append_right _ (.tail _ (.tail _ (.tail _ (.tail _ (List.mem_append_right _ (List.mem_append_left _ (hmemT _ _ _ ha0 hw0)))))))
      have m1 : ∀ X : List Cel, (a1, TxtO (wS b p1)) ∈ X ++ ((D, LstO ((as.map Value.ref).drop c)) :: (L, NsO m) :: (x, PileO dx ((as.take c ++ news).map .ref)) :: (dx, NsO (sizeM n tn)) :: (txtC news ((afterW c ws).map (wS b)) ++ (txtC as (ws.map (wS b)) ++ cs))) := fun X =>
        List.mem_append_right _ (.tail _ (.tail _ (.tail _ (.tail _ (List.mem_append_right _ (List.mem_append_left _ (hmemT _ _ _ ha1 hw1)))))))
      refine wpAny_execs_cons ?_
      refine x_swap2 (B := B) ok1.handled ?_
      refine Subscript_ (Subscript_ (n_local H1 (by k_mem) (by exact hmt) (c_int H1 fun t2 s2 H2 => sub_list H2 (x := .ref a0) (.tail _ (.head _)) (by decide) (by decide) (by rw [hdr]; show (as[c + 0]?).map _ = _; rw [Nat.add_zero, ha0]; rfl) ?_)))
      refine c_int H2 fun t3 s3 H3 => sub_txt1 H3 (m0 _) fun u3 => ?_
      refine Subscript_ (Subscript_ (n_local H3 (by k_mem) (by exact hmt) (c_int H3 fun t4 s4 H4 => sub_list H4 (x := .ref a1) (.tail _ (.head _)) (by decide) (by decide) (by rw [hdr]; show (as[c + 1]?).map _ = _; rw [ha1]; rfl) ?_)))
      refine c_int H4 fun t5 s5 H5 => sub_txt1 H5 (m1 _) fun u5 => ⟨_, H5, fun s6 H6 => ?_⟩
      refine s_local (m' := fun _ => none) H6 (.tail (.tail .head)) fun s7 H7 => s_local (m' := fun _ => none) H7 (.tail (.tail .head)) fun s8 H8 => ?_
      obtain ⟨c1, c2, c3⟩ := cmp_let (b := b) hlt
      refine wpAny_execs_cons (wpAny_Return_some ?_)
      refine d_list (B := B) ?_
      refine wpAny_items_cons (e_call (n_glob H8 (N.g fun mg h => h.1) (cw_fn Fn.strcoll (wpAny_items_cons (n_local H8 (by k_mem) rfl (wpAny_items_cons (n_local H8 (by k_mem) rfl (wpAny_items_nil ⟨⟨_, H8⟩, ?_⟩)))))))) 
      refine spec_strcoll (k := k + 2) Fn N ok1 H8 fun t9 s9 H9 => ?_
      refine wpAny_items_cons (e_call (n_glob H9 (N.g fun mg h => h.1) (cw_fn Fn.strcoll (wpAny_items_cons (n_local H9 (by k_mem) rfl (wpAny_items_cons (n_local H9 (by k_mem) rfl (wpAny_items_nil ⟨⟨_, H9⟩, ?_⟩)))))))) 
      refine spec_strcoll (k := k + 2) Fn N ok1 H9 fun t10 s10 H10 => ?_
      refine wpAny_items_cons (e_call (n_glob H10 (N.g fun mg h => h.1) (cw_fn Fn.strcoll (wpAny_items_cons (n_local H10 (by k_mem) rfl (wpAny_items_cons (n_local H10 (by k_mem) rfl (wpAny_items_nil ⟨⟨_, H10⟩, ?_⟩)))))))) 
      refine spec_strcoll (k := k + 2) Fn N ok1 H10 fun t11 s11 H11 => ?_
      refine wpAny_items_nil ⟨_, H11, Nat.le_trans (show 3 ≤ 1000 by (exact Nat.le_add_left _ _)) hbig, fun D4 s12 H12 => ?_⟩
      have H13 := H12.weak (P' := IntsO [-1, 1, 0]) .head fun o ho => ⟨_, ho, by
        show [some (cmpM (letS b p0.2) (letS b p1.2)), some (cmpM (letS b p1.2) (letS b p0.2)), some (cmpM (letS b p0.2) (letS b p0.2))] = _
        rw [c1, c2, c3]; rfl⟩
      refine h D4 (as.take c ++ news) s12 ?_ (ex_cells (H13.cut 1 3) hlen)
      unfold exM
      rw [List.length_append, List.length_append, List.length_append, List.length_take, List.length_take, List.length_drop]
      simp; lia
theorem all_ (x : X) : T x := Classical.byContradiction fun hn => Classical.epsilon_spec (p := fun x => ¬ T x) ⟨x, hn⟩ at_
end ExD
section
variable {prog : Program} {w : World} {M : Model} {A : Around} {E : Value → Shared → Prop} {B s : Shared} {cs cs' : List Cel} {env : Env} {Q : Value → Shared → Prop} {K : Frag}
theorem spec_exchange {x dx : Addr} {as : List Addr} {ws : List (Nat × Nat)} {b : Nat → Nat} {c : Nat} {tc : Tok} {n : Int} {tn : Tok} {p0 p1 : Nat × Nat} {k : Nat} (Fn : Fns B) (C : Acc B K) (AF : AccF B) (N : Names B) (ok : Ok A (k + 4)) (H : St B ((x, PileO dx (as.map .ref)) :: (dx, NsO (sizeM n tn)) :: (txtC as (ws.map (wS b)) ++ cs)) s) (hlen : as.length = ws.length) (hz : ws.length ≤ 5) (hw0 : ws[c]? = some p0) (hw1 : ws[c + 1]? = some p1) (hlt : p0.2 < p1.2) (h0 : p0.2 + 1 ≤ p0.1) (h1 : p1.2 + 1 ≤ p1.1) (hb : ∀ j, b j < 4) (hbd : ∀ p ∈ ws, p.1 ≤ 100 ∧ p.2 ≤ 10) (h : ∀ D as' s', as'.length = (exM c ws).length → St B ((D, IntsO [-1, 1, 0]) :: (x, PileO dx (as'.map .ref)) :: (dx, NsO (sizeM n tn)) :: (txtC as' ((exM c ws).map (wS b)) ++ cs)) s' → Q (.ref D) s') :
    wpAny (model prog w) A (call (.ref 189) [.ref x, .int c tc]) Q E s := by
  refine call_fn (binds := [(Str.ofString "pile", .ref x), (Str.ofString "c", .int c tc)]) Fn.exchange (fun _ _ _ => rfl) ok N H (fun _ _ _ => BindsTo.of_eq rfl) ?_
  intro L cd s1 E' ok1 H1
  exact ExD.all_ ⟨prog, w, A, E, B, cs, Q, K, x, dx, as, ws, b, c, tc, n, tn, p0, p1, k, L, cd, s1, E'⟩ Fn C AF N ok hlen hz hw0 hw1 hlt h0 h1 hb hbd h ok1 H1

end
end Mine
end
section
set_option maxHeartbeats 4000000
set_option maxHeartbeats 4000000
namespace Mine
open PySem PySem.Calls PyProof.Rows PySem.W PySem.SeqAt

noncomputable def upL (row : List Int) (x : Int) : List Int := row.filter fun y => decide (x < y)
noncomputable def minL : List Int → Int
  | [] => 0
  | [a] => a
  | a :: b :: r => if a ≤ minL (b :: r) then a else minL (b :: r)
theorem minL_mem : ∀ {l : List Int}, l ≠ [] → minL l ∈ l
  | [], h => absurd rfl h
  | [a], _ => by simp [minL]
  | a :: b :: r, _ => by
    unfold minL
    split
    · simp
    · exact .tail _ (minL_mem (by simp))
theorem minL_le : ∀ {l : List Int} {a : Int}, a ∈ l → minL l ≤ a
  | [], _, h => by simp at h
  | [a], b, h => by simp at h; subst h; simp [minL]
  | a :: b :: r, c, h => by
    unfold minL
    rcases List.mem_cons.mp h with rfl | h
    · split <;> lia
    · have := minL_le h
      split <;> (first | assumption | lia | omega +splitNatSub)
theorem minL_eq {l : List Int} {M : Int} (h1 : M ∈ l) (h2 : ∀ a ∈ l, M ≤ a) : M = minL l := by
  have a := minL_le h1
  have b := h2 _ (minL_mem (List.ne_nil_of_mem h1))
  lia
noncomputable def putI (rows : List (List Int)) (r : Nat) (x l : Int) : List (List Int) := if (rows.getD r []).contains x then rows else rows.set r ((rows.getD r []).set ((rows.getD r []).idxOf l) x)
noncomputable def growS : Nat → List (List Int) → Nat → Int → Option (List (List Int) × Nat)
  | 0, _, _, _ => none
  | k + 1, rows, r, x =>
    if r < rows.length then
      if (upL (rows.getD r []) x).isEmpty then some (rows.set r (rows.getD r [] ++ [x]), r)
      else growS k (putI rows r x (minL (upL (rows.getD r []) x))) (r + 1) (minL (upL (rows.getD r []) x))
    else none
noncomputable def growA : List Int → List (List Int) → List (Int × Int) → Option (List (Int × Int))
  | [], _, acc => some acc
  | x :: xs, rows, acc => match growS rows.length rows 0 x with
    | none => none
    | some (rows', r) => growA xs rows' (acc ++ [((r : Int), ((rows'.getD r []).length : Int) - 1)])

noncomputable def intC (as : List Addr) (rows : List (List Int)) : List Cel := List.zipWith (fun a r => (a, IntsO r)) as rows
theorem int_mem {as : List Addr} {rows : List (List Int)} (hl : as.length = rows.length) {r : Nat} (hr : r < rows.length) : ∃ a, as[r]? = some a ∧ (a, IntsO (rows.getD r [])) ∈ intC as rows := by
  have e : rows[r]? = some (rows.getD r []) := by rw [List.getD_eq_getElem?_getD, List.getElem?_eq_getElem hr]; rfl
  exact zip_mem (g := fun (a : Addr) (r : List Int) => ((a, IntsO r) : Cel)) hl e
theorem int_upd : ∀ {as : List Addr} {rows : List (List Int)} {r : Nat} {a : Addr} {row row' : List Int} {X : List Cel}, as[r]? = some a → rows[r]? = some row → as.length = rows.length →
    Upd a (IntsO row) (IntsO row') (intC as rows ++ X) (intC as (rows.set r row') ++ X)
  | x :: as, y :: rows, 0, a, row, row', X, h1, h2, _ => by
    simp at h1 h2; subst h1 h2; exact .head
  | x :: as, y :: rows, r + 1, a, row, row', X, h1, h2, h3 => .tail (int_upd (as := as) (rows := rows) (by simpa using h1) (by simpa using h2) (by simpa using h3))
  | [], _, _, _, _, _, _, h1, _, _ => by simp at h1
  | _ :: _, [], _, _, _, _, _, _, h2, _ => by simp at h2
theorem put_len (rows : List (List Int)) (r : Nat) (x l : Int) : (putI rows r x l).length = rows.length := by unfold putI; split <;> simp
theorem get_set {rows : List (List Int)} {r i : Nat} {row : List Int} (hr : r < rows.length) : (rows.set r row).getD i [] = if r = i then row else rows.getD i [] := by
  rw [List.getD_eq_getElem?_getD, List.getElem?_set]
  by_cases e : r = i
  · subst e; rw [if_pos rfl, if_pos hr, if_pos rfl]; rfl
  · rw [if_neg e, if_neg e, ← List.getD_eq_getElem?_getD]
theorem put_row {rows : List (List Int)} {r : Nat} (hr : r < rows.length) (x l : Int) (i : Nat) : ((putI rows r x l).getD i []).length = (rows.getD i []).length := by
  unfold putI
  split
  · rfl
  · rw [get_set hr]
    split
    · rename_i e; subst e; simp
    · rfl
section
variable {prog : Program} {w : World} {A : Around} {E : Value → Shared → Prop} {B s : Shared} {cs cs' : List Cel} {env : Env} {Q : Value → Shared → Prop}

noncomputable def grR (L Dr Dg : Addr) (ra : List Addr) (cs : List Cel) (y : (Str → Option Value) × Option Value × List (List Int) × List Addr × List (Int × Int)) : List Cel :=
  (Dg, LstO (y.2.2.2.1.map .ref)) :: (Dr, LstO (ra.map .ref)) :: (L, NsO y.1) :: (L + 1, CellO y.2.1) :: (intC ra y.2.2.1 ++ (tupC y.2.2.2.1 y.2.2.2.2 ++ cs))
noncomputable abbrev litP {β : Type} (l : Addr) (ss xs : List β) : Obj → Prop := fun o => xs.length ≤ ss.length ∧ xs = ss.drop (ss.length - xs.length) ∧ LitO l (ss.length - xs.length) o

theorem viaQ {σ : Type} {t : Sem Flow} {Q : Flow → Shared → Prop} (P : σ → Prop) (R : σ → List Cel) (h : wpAny (model prog w) A t (fun f s' => f = .next ∧ ∃ y, P y ∧ St B (R y) s') E s) (k : ∀ y s', P y → St B (R y) s' → Q .next s') :
    wpAny (model prog w) A t Q E s := wpAny_mono h (fun v s' q => by obtain ⟨rfl, y, hp, H'⟩ := q; exact k y s' hp H') fun _ _ x => x

end
namespace GrD
noncomputable abbrev X := (Program) × (World) × (Around) × (Value → Shared → Prop) × (Shared) × (List Cel) × (Value → Shared → Prop) × (Addr) × (List Int) × (List (Int × Int)) × (Nat) × (Addr) × (Value) × (Shared) × (Value → Shared → Prop)
noncomputable def S (prog : Program) (w : World) (A : Around) (E : Value → Shared → Prop) (B : Shared) (cs : List Cel) (Q : Value → Shared → Prop) (nD : Addr) (named : List Int) (g : List (Int × Int)) (k : Nat) (L : Addr) (cd : Value) (s1 : Shared) (E' : Value → Shared → Prop) : Prop :=
  ∀ (Fn : Fns B) (Nm : Names B) (ok : Ok A (k + 3)) (hz : named.length ≤ 100) (hg : growA named.reverse (List.replicate named.length []) [] = some g) (h : ∀ D as s', as.length = g.length → St B ((D, LstO (as.map .ref)) :: (tupC as g ++ ((nD, IntsO named) :: cs))) s' → Q (.ref D) s'),
    Ok (A.deeper (envX "_law_grown" (scOf (stOf 24)) L 211 cd [(Str.ofString "x", L + 1)])) (k + 2) → St B ((L, NsO (fun x => if x = Str.ofString "named" then some (.ref nD) else none)) :: (L + 1, CellO none) :: ((nD, IntsO named) :: cs)) s1 →
    wpAny (model prog w) (A.deeper (envX "_law_grown" (scOf (stOf 24)) L 211 cd [(Str.ofString "x", L + 1)])) (execs (bdOf (stOf 24)) (envX "_law_grown" (scOf (stOf 24)) L 211 cd [(Str.ofString "x", L + 1)])) (fun f s' => Q (match f with | .ret v => v | _ => .none) s') E' s1
noncomputable def T (x : X) : Prop := S x.1 x.2.1 x.2.2.1 x.2.2.2.1 x.2.2.2.2.1 x.2.2.2.2.2.1 x.2.2.2.2.2.2.1 x.2.2.2.2.2.2.2.1 x.2.2.2.2.2.2.2.2.1 x.2.2.2.2.2.2.2.2.2.1 x.2.2.2.2.2.2.2.2.2.2.1 x.2.2.2.2.2.2.2.2.2.2.2.1 x.2.2.2.2.2.2.2.2.2.2.2.2.1 x.2.2.2.2.2.2.2.2.2.2.2.2.2.1 x.2.2.2.2.2.2.2.2.2.2.2.2.2.2
noncomputable def x0 : X := @Classical.epsilon X ⟨⟨default, dumW, {}, fun _ _ => True, dumS, [], fun _ _ => True, 0, [], [], 0, 0, default, dumS, fun _ _ => True⟩⟩ fun x => ¬ T x
noncomputable def prog : Program := x0.1
noncomputable def w : World := x0.2.1
noncomputable def A : Around := x0.2.2.1
noncomputable def E : Value → Shared → Prop := x0.2.2.2.1
noncomputable def B : Shared := x0.2.2.2.2.1
noncomputable def cs : List Cel := x0.2.2.2.2.2.1
noncomputable def Q : Value → Shared → Prop := x0.2.2.2.2.2.2.1
noncomputable def nD : Addr := x0.2.2.2.2.2.2.2.1
noncomputable def named : List Int := x0.2.2.2.2.2.2.2.2.1
noncomputable def g : List (Int × Int) := x0.2.2.2.2.2.2.2.2.2.1
noncomputable def k : Nat := x0.2.2.2.2.2.2.2.2.2.2.1
noncomputable def L : Addr := x0.2.2.2.2.2.2.2.2.2.2.2.1
noncomputable def cd : Value := x0.2.2.2.2.2.2.2.2.2.2.2.2.1
noncomputable def s1 : Shared := x0.2.2.2.2.2.2.2.2.2.2.2.2.2.1
noncomputable def E' : Value → Shared → Prop := x0.2.2.2.2.2.2.2.2.2.2.2.2.2.2
theorem at_ : S prog w A E B cs Q nD named g k L cd s1 E' := by
  intro Fn Nm ok hz hg h ok1 H1
  refine wpAny_execs_cons ?_
  refine x_comp (B := B) (n_local H1 (by k_mem) rfl ?_) rfl rfl
  have H2 := H1.front 2
  refine pyIter_seq H2 fun it s3 H3 => ?_
  refine ⟨Int, _, _, _, List Addr, fun ra => (L, NsO fun x => if x = Str.ofString "named" then some (.ref nD) else none) :: (L + 1, CellO none) :: (intC ra (List.replicate named.length []) ++ cs),
    fun rs ys ra => ys = ra.map .ref ∧ ∃ pre, named = pre ++ rs ∧ ra.length = pre.length, named, [], iter_seq ok1.handled, H3, ⟨rfl, [], rfl, rfl⟩, ?_, ?_⟩
  · intro C D x rs v ra ys m s4 E4 hv ⟨hys, pre, hpre, hal⟩ H4
    subst hys
    refine wpAny_assign_Name (s_local (m' := fun _ => none) H4 .head fun s5 H5 => ?_)
    refine wpAny_tests_nil ?_
    rw [if_pos rfl]
    refine d_list (B := B) ?_
    refine wpAny_items_nil ⟨_, H5, Nat.zero_le _, fun D2 s6 H6 => ?_⟩
    have H7 := H6.weak (P' := IntsO []) .head fun o ho => ⟨_, ho, rfl⟩
    have H8 := St.sink (pre := [_, _, _, _, _, _]) H7
    have hr2 : (List.replicate named.length ([] : List Int))[ra.length]? = some [] := by
      rw [List.getElem?_replicate, if_pos]
      rw [hal, hpre]; simp
    have e4 : intC ra (List.replicate named.length []) ++ [(D2, IntsO [])] = intC (ra ++ [D2]) (List.replicate named.length []) := (zip_snoc (fun (a : Addr) (r : List Int) => ((a, IntsO r) : Cel)) D2 hr2).symm
    rw [e4] at H8
    refine ⟨ra ++ [D2], _, ?_, ⟨by simp, pre ++ [x], by rw [hpre]; simp, by simp [hal]⟩, H8⟩
    have : named.length = pre.length + (rs.length + 1) := by rw [hpre]; simp
    rw [List.length_map]
    exact Nat.le_trans (by lia) (show 100 ≤ sizeLine by decide)
  · intro Dr ra ys ⟨hys, pre, hpre, hal⟩
    subst hys
    have hra : ra.length = named.length := by rw [hal, hpre]; simp
    refine ⟨_, _, .tail (.tail .head), fun s4 H4 => ?_⟩
    clear H3 H2 H1
    refine wpAny_execs_cons ?_
    refine wpAny_Assign_Name ?_
    refine d_list (B := B) ?_
    refine wpAny_items_nil ⟨_, H4, Nat.zero_le _, fun Dg s5 H5 => ?_⟩
    refine s_local (m' := fun _ => none) H5 (.tail (.tail (.tail .head))) fun s6 H6 => ?_
    refine wpAny_execs_cons ?_
    refine wpAny_For ?_
    refine Subscript_ (n_local H6 (by k_mem) rfl (e_slice (part_none (part_none (part_some (wpAny_UnaryOp (c_int H6 fun t7 s7 H7 => PyProof.Rows.neg_int ?_)))))))
    have H8 := H7.tok (s7.toks + 1)
    refine slice_rev (f := iv) (ss := named) H8 (by k_mem) (.int _ _) (Nat.le_trans hz (show 100 ≤ sizeLine by decide)) (fun D3 s9 H9 => ?_) (by with_unfolding_all rfl)
    have H10 := St.sink (pre := [_, _, _, _, _]) (T := intC ra (List.replicate named.length [])) (H9.front 3)
    rw [List.append_assoc] at H10
    refine pyIter_seq H10 fun it2 s11 H11 => ?_
    refine r_for (iter_seq ok1.handled) (grR L Dr Dg ra ((nD, IntsO named) :: cs)) (fun xs y => y.1 (Str.ofString "rows") = some (.ref Dr) ∧ y.1 (Str.ofString "grown") = some (.ref Dg) ∧ y.2.2.1.length = ra.length ∧ y.2.2.2.1.length = y.2.2.2.2.length ∧
      (∀ i, (y.2.2.1.getD i []).length ≤ y.2.2.2.2.length) ∧ y.2.2.2.2.length + xs.length = named.length ∧ growA xs y.2.2.1 y.2.2.2.2 = some g) (x0 := (_, none, List.replicate named.length [], [], [])) H11 ⟨rfl, rfl, by simp [hra], rfl, fun i => by simp [List.getD_eq_getElem?_getD, List.getElem?_replicate]; split <;> simp, by simp, hg⟩ ?_ ?_
    · clear H11 H10 H9 H8 H7 H6 H5 H4
      rintro x xs v ⟨m, xv, rows, ga, gg⟩ s1 E1 hv ⟨hmr, hmg, hlen, hga, hbd, hcnt, hrun⟩ H1
      obtain ⟨tx, rfl⟩ := iv_int hv
      dsimp only at hmr hmg hlen hga hbd hcnt hrun
      rw [List.length_cons] at hcnt
      refine wpAny_assign_Name (s_cell H1 rfl (.tail (.tail (.tail (.tail (.tail .head))))) fun s2 H2 => ?_)
      obtain ⟨rows', r', hS, hrest⟩ : ∃ rows' r', growS rows.length rows 0 x = some (rows', r') ∧ growA xs rows' (gg ++ [((r' : Int), ((rows'.getD r' []).length : Int) - 1)]) = some g := by
        unfold growA at hrun
        cases e : growS rows.length rows 0 x with
        | none => rw [e] at hrun; cases hrun
        | some p => obtain ⟨rows', r'⟩ := p; rw [e] at hrun; exact ⟨rows', r', rfl, hrun⟩
      refine wpAny_execs_cons ?_
      refine wpAny_Assign_Name (c_int H2 fun t3 s3 H3 => s_local (m' := fun _ => none) H3 (.tail (.tail (.tail (.tail .head)))) fun s4 H4 => ?_)
      refine wpAny_execs_cons ?_
      refine r_whileE (σ := (Str → Option Value) × Nat × List (List Int) × Nat × Int × Tok) (fun y => (it2, litP D3 named.reverse xs) :: (D3, SeqO iv named.reverse) :: grR L Dr Dg ra ((nD, IntsO named) :: cs) (y.1, some (.int y.2.2.2.2.1 y.2.2.2.2.2), y.2.2.1, ga, gg))
        (fun y => y.1 (Str.ofString "rows") = some (.ref Dr) ∧ y.1 (Str.ofString "grown") = some (.ref Dg) ∧ (∃ t, y.1 (Str.ofString "r") = some (.int (y.2.2.2.1 : Nat) t)) ∧ y.2.2.1.length = ra.length ∧ (∀ i, (y.2.2.1.getD i []).length ≤ gg.length) ∧ growS y.2.1 y.2.2.1 y.2.2.2.1 y.2.2.2.2.1 = some (rows', r'))
        (fun y => y.1 (Str.ofString "rows") = some (.ref Dr) ∧ y.1 (Str.ofString "grown") = some (.ref Dg) ∧ (∃ t, y.1 (Str.ofString "r") = some (.int (r' : Nat) t)) ∧ y.2.2.1.length = ra.length ∧ (∀ i, (y.2.2.1.getD i []).length ≤ gg.length) ∧ r' < y.2.2.1.length ∧ rows' = y.2.2.1.set r' (y.2.2.1.getD r' [] ++ [y.2.2.2.2.1]))
        (fun y => y.2.1) (_, rows.length, rows, 0, x, tx) H4 ⟨hmr, hmg, ⟨t3, rfl⟩, hlen, hbd, hS⟩ ?_ ?_
      · clear H4 H3 H2 H1 hmr hmg hlen hS hrun hrest hv hbd
        rintro ⟨m, k2, rows, r, x, tx⟩ s1 E2 ⟨hmr, hmg, ⟨tr, hr⟩, hlen, hbd, hk⟩ H1
        dsimp only at hmr hmg hr hlen hbd hk
        cases k2 with
        | zero => cases hk
        | succ k2 =>
          unfold growS at hk
          by_cases hrl : r < rows.length
          · rw [if_pos hrl] at hk
            obtain ⟨a, ha, hmem⟩ := int_mem (as := ra) (rows := rows) hlen.symm hrl
            have hva : (ra.map Value.ref)[((r : Nat) : Int).toNat]? = some (Value.ref a) := by rw [Int.toNat_natCast, List.getElem?_map, ha]; rfl
            have hr63 : ((r : Nat) : Int) < 2 ^ 63 := by lia
            generalize hrow : rows.getD r [] = row at hk hmem
            refine tr_int (e_comp (B := B) (Subscript_ (n_local H1 (by k_mem) hmr (n_local H1 (by k_mem) hr (sub_list H1 (vs := ra.map .ref) (by k_mem) (by (exact Int.natCast_nonneg _)) hr63 hva ?_)))) rfl)
            obtain ⟨c1, hp⟩ := out_perm (List.mem_of_mem_drop (i := 6) (l := (it2, litP D3 named.reverse xs) :: (D3, SeqO iv named.reverse) :: grR L Dr Dg ra ((nD, IntsO named) :: cs) (m, some (.int x tx), rows, ga, gg)) (List.mem_append_left _ hmem))
            have hx : (L + 1, CellO (some (.int x tx))) ∈ (a, IntsO row) :: c1 := hp.mem_iff.mp (by k_mem)
            refine pyIter_seq (f := iv) (ss := row) (H1.perm hp) fun it3 s3 H3 => ?_
            have hzr : row.length ≤ sizeLine := by have := hbd r; rw [hrow] at this; exact Nat.le_trans (by lia) (show 100 ≤ sizeLine by decide)
            refine filter_end (fun y => decide (x < y)) (fun a v => iv v = some a) (iter_seq ok1.handled) H3 hzr ?_ ?_ ?_
            · intro C D a2 rs ys v m2 s E ha2 hv hm2 H
              obtain ⟨t, rfl⟩ := iv_int hv
              exact tr_int (n_local H (.head _) hm2 (n_cell H rfl (.tail _ (.tail _ (.tail _ hx))) (PyProof.Rows.gt_int (wpAny_truthy_bool ⟨rfl, H⟩))))
            · intro C D a2 rs ys v m2 s E ha2 _ hv hm2 H
              exact n_local H (.head _) hm2 ⟨hv, m2, H⟩
            intro D ys s4 hp2 H4
            have hys : ys.map iv = (upL row x).map some := by
              have := paired_map (g := id) hp2
              rwa [List.map_id] at this
            have H5 := H4.perm (hp.symm.cons _)
            refine d_list (B := B) ?_
            refine wpAny_items_nil ⟨_, H5, Nat.zero_le _, fun D2 s6 H6 => o_ne_nil (by have := ok1.units; lia) H6 (.tail _ (.head _)) (.head _) (wpAny_truthy_bool ?_)⟩
            have hye : ys.isEmpty = (upL row x).isEmpty := by
              have := map_len hys
              cases ys <;> cases h2 : upL row x <;> simp_all
            rw [hye]
            have H7 := H6.drop 2
            clear H6 H5 H4 H3 H1 hp2
            by_cases hup : (upL row x).isEmpty
            · rw [hup, if_neg (by decide)]
              rw [if_pos hup] at hk
              cases hk
              exact ⟨(m, 0, rows, 0, x, tx), ⟨hmr, hmg, ⟨tr, hr⟩, hlen, hbd, hrl, by dsimp only; rw [hrow]⟩, H7⟩
            · rw [if_neg hup] at hk
              rw [Bool.eq_false_iff.mpr hup, if_pos (by decide)]
              have hpos : 0 < (upL row x).length := by
                cases h2 : upL row x with
                | nil => rw [h2] at hup; exact absurd rfl hup
                | cons _ _ => simp
              refine wpAny_execs_cons ?_
              refine wpAny_Assign_Name (e_call (n_blt H7 Nm (by k_mem) (by rfl) (cw_blt (wpAny_items_cons ?_))))
              refine e_comp (B := B) (Subscript_ (n_local H7 (by k_mem) hmr (n_local H7 (by k_mem) hr (sub_list H7 (vs := ra.map .ref) (by k_mem) (by (exact Int.natCast_nonneg _)) hr63 hva ?_)))) rfl
              refine pyIter_seq (f := iv) (ss := row) (H7.perm hp) fun it3 s8 H8 => ?_
              refine filter_end (fun y => decide (x < y)) (fun a v => iv v = some a) (iter_seq ok1.handled) H8 hzr ?_ ?_ ?_
              · intro C D a2 rs ys v m2 s E ha2 hv hm2 H
                obtain ⟨t, rfl⟩ := iv_int hv
                exact tr_int (n_local H (.head _) hm2 (n_cell H rfl (.tail _ (.tail _ (.tail _ hx))) (PyProof.Rows.gt_int (wpAny_truthy_bool ⟨rfl, H⟩))))
              · intro C D a2 rs ys v m2 s E ha2 _ hv hm2 H
                exact n_local H (.head _) hm2 ⟨hv, m2, H⟩
              intro D4 ys4 s9 hp4 H9
              have hys4 : ys4.map iv = (upL row x).map some := by
                have := paired_map (g := id) hp4
                rwa [List.map_id] at this
              have H10 := (H9.perm (hp.symm.cons _)).weak (P' := IntsO (upL row x)) .head fun o ho => ⟨_, ho, hys4⟩
              refine wpAny_items_nil (f_min ok1.handled H10 (.head _) hpos fun M t s11 hM hMle H11 => ?_)
              have hMe := minL_eq hM hMle
              rw [← hMe] at hk
              have H12 := H11.drop 1
              clear H11 H10 H9 H8 H7 hp4 hMle
              refine s_local (m' := fun _ => none) H12 (.tail (.tail (.tail (.tail .head)))) fun s13 H13 => ?_
              refine wpAny_execs_cons ?_
              refine viaQ (B := B) (σ := Unit) (fun _ => True) (fun _ => (it2, litP D3 named.reverse xs) :: (D3, SeqO iv named.reverse) :: grR L Dr Dg ra ((nD, IntsO named) :: cs) ((fun y => if y = Str.ofString "least" then some (.int M t) else m y), some (.int x tx), putI rows r x M, ga, gg)) ?_ fun _ s14 _ H14 => ?_
              · refine wpAny_If (tr_int (n_cell H13 rfl (by k_mem) (Subscript_ (n_local H13 (by k_mem) (by exact hmr) (n_local H13 (by k_mem) (by exact hr) (sub_list H13 (vs := ra.map .ref) (by k_mem) (by (exact Int.natCast_nonneg _)) hr63 hva ?_))))))
                refine o_notin H13 (List.mem_of_mem_drop (i := 6) (List.mem_append_left _ hmem)) (wpAny_truthy_bool ?_)
                cases hc : row.contains x with
                | true =>
                  rw [if_neg (by decide)]
                  have e : putI rows r x M = rows := by unfold putI; rw [hrow, hc]; rfl
                  rw [e]
                  exact wpAny_execs_nil ⟨rfl, (), trivial, H13⟩
                | false =>
                  rw [if_pos (by decide)]
                  have e : putI rows r x M = rows.set r (row.set (row.idxOf M) x) := by unfold putI; rw [hrow, hc]; rfl
                  rw [e]
                  have hMr : M ∈ row := (List.mem_filter.mp hM).1
                  have hji := List.idxOf_lt_length_of_mem hMr
                  have hrl2 : row.length ≤ 100 := by have := hbd r; rw [hrow] at this; lia
                  have hrs : rows[r]? = some row := by rw [← hrow, List.getD_eq_getElem?_getD, List.getElem?_eq_getElem hrl]; rfl
                  refine wpAny_execs_cons ?_
                  refine wpAny_Assign_Subscript (n_cell H13 rfl (by k_mem) (Subscript_ (n_local H13 (by k_mem) (by exact hmr) (n_local H13 (by k_mem) (by exact hr) (sub_list H13 (vs := ra.map .ref) (by k_mem) (by (exact Int.natCast_nonneg _)) hr63 hva ?_)))))
                  have hm6 := List.mem_of_mem_drop (i := 6) (l := (it2, litP D3 named.reverse xs) :: (D3, SeqO iv named.reverse) :: grR L Dr Dg ra ((nD, IntsO named) :: cs) ((fun y => if y = Str.ofString "least" then some (.int M t) else m y), some (.int x tx), rows, ga, gg)) (List.mem_append_left _ hmem)
                  refine m_call F.plainAttrs_list F.slot_list_index F.type_list_index (Subscript_ (n_local H13 (by k_mem) (by exact hmr) (n_local H13 (by k_mem) (by exact hr) (sub_list H13 (vs := ra.map .ref) (by k_mem) (by (exact Int.natCast_nonneg _)) hr63 hva ⟨(H13.isSeq (f := iv) hm6).1, (H13.isSeq (f := iv) hm6).2, ?_⟩)))) rfl
                  refine wpAny_items_cons (n_local H13 (by k_mem) rfl (wpAny_items_nil (f_index_ints H13 hm6 hMr (by (exact Nat.lt_of_le_of_lt (by assumption) (by decide))) fun t15 s15 H15 => ?_)))
                  have e9 : ((row.idxOf M : Nat) : Int).toNat = row.idxOf M := Int.toNat_natCast _
                  refine set_ints (ss := row) H15 (by rw [e9]; exact .tail (.tail (.tail (.tail (.tail (.tail (int_upd ha hrs hlen.symm))))))) (by (exact Int.natCast_nonneg _)) (by (clear hzr; lia)) (by (clear hzr; lia)) fun s16 H16 => ?_
                  exact wpAny_execs_nil ⟨rfl, (), trivial, H16⟩
              refine wpAny_execs_cons ?_
              refine wpAny_Assign_Name (n_local H14 (by k_mem) rfl (s_cell H14 rfl (.tail (.tail (.tail (.tail (.tail .head))))) fun s15 H15 => ?_))
              refine wpAny_execs_cons ?_
              refine wpAny_AugAssign_Name (n_localL H15 (by k_mem) (by exact hr) (c_int H15 fun t16 s16 H16 => i_iadd H16 fun t17 s17 H17 => s_local (m' := fun _ => none) H17 (.tail (.tail (.tail (.tail .head)))) fun s18 H18 => ?_))
              refine wpAny_execs_nil ⟨rfl, (_, k2, putI rows r x M, r + 1, M, t), ⟨by exact hmr, by exact hmg, ⟨t17, ?_⟩, by dsimp only; rw [put_len, hlen], fun i => by dsimp only; rw [put_row hrl]; exact hbd i, hk⟩, Nat.lt_succ_self _, H18⟩
              exact congrArg (fun i => some (Value.int i t17)) (by push_cast; rfl)
          · rw [if_neg hrl] at hk; cases hk
      · clear H4 H3 H2 H1 hmr hmg hlen hS hrun hv hbd
        rintro ⟨m, k2, rows, r, x, tx⟩ s1 ⟨hmr, hmg, ⟨tr, hr⟩, hlen, hbd, hrl, hrows⟩ H1
        dsimp only at hmr hmg hr hlen hbd hrl hrows
        obtain ⟨a, ha, hmem⟩ := int_mem (as := ra) (rows := rows) hlen.symm hrl
        have hva : (ra.map Value.ref)[((r' : Nat) : Int).toNat]? = some (Value.ref a) := by rw [Int.toNat_natCast, List.getElem?_map, ha]; rfl
        have hr63 : ((r' : Nat) : Int) < 2 ^ 63 := by lia
        have hbr := hbd r'
        have hrs : rows[r']? = some (rows.getD r' []) := by rw [List.getD_eq_getElem?_getD, List.getElem?_eq_getElem hrl]; rfl
        have hgr' : rows'.getD r' [] = rows.getD r' [] ++ [x] := by rw [hrows, get_set hrl, if_pos rfl]
        refine wpAny_execs_cons ?_
        refine wpAny_Expr ?_
        have hm6 := List.mem_of_mem_drop (i := 6) (l := (it2, litP D3 named.reverse xs) :: (D3, SeqO iv named.reverse) :: grR L Dr Dg ra ((nD, IntsO named) :: cs) (m, some (.int x tx), rows, ga, gg)) (List.mem_append_left _ hmem)
        refine m_call F.plainAttrs_list slot_list_append F.type_list_append (Subscript_ (n_local H1 (by k_mem) hmr (n_local H1 (by k_mem) hr (sub_list H1 (vs := ra.map .ref) (by k_mem) (by (exact Int.natCast_nonneg _)) hr63 hva ⟨(H1.isSeq (f := iv) hm6).1, (H1.isSeq (f := iv) hm6).2, ?_⟩)))) rfl
        refine wpAny_items_cons (n_cell H1 rfl (by k_mem) (wpAny_items_nil (append_ints H1 (.tail (.tail (.tail (.tail (.tail (.tail (int_upd ha hrs hlen.symm))))))) (Nat.le_trans (by lia) (show 100 ≤ sizeLine by decide)) fun s2 H2 => ?_)))
        rw [← hrows] at H2
        have hlen' : rows'.length = ra.length := by rw [hrows, List.length_set, hlen]
        obtain ⟨a2, ha2, hmem2⟩ := int_mem (as := ra) (rows := rows') hlen'.symm (r := r') (by rw [hrows, List.length_set]; exact hrl)
        have hva2 : (ra.map Value.ref)[((r' : Nat) : Int).toNat]? = some (Value.ref a2) := by rw [Int.toNat_natCast, List.getElem?_map, ha2]; rfl
        refine wpAny_execs_cons ?_
        refine wpAny_Expr ?_
        refine m_append (B := B) (n_local H2 (by k_mem) hmg ⟨Dg, _, _, rfl, H2, .tail _ (.tail _ (.head _)), ?_⟩) rfl
        refine d_tup (B := B) ?_
        refine wpAny_items_cons (n_local H2 (by k_mem) hr (wpAny_items_cons (wpAny_BinOp (e_call (n_blt H2 Nm (by k_mem) (by rfl) (cw_blt (wpAny_items_cons (Subscript_ (n_local H2 (by k_mem) hmr (n_local H2 (by k_mem) hr (sub_list H2 (vs := ra.map .ref) (by k_mem) (by (exact Int.natCast_nonneg _)) hr63 hva2 ?_)))))))))))
        have hl' : (rows'.getD r' []).length ≤ 101 := by rw [hgr']; simp only [List.length_append, List.length_cons, List.length_nil]; lia
        refine wpAny_items_nil (f_len_seq (f := iv) (ss := rows'.getD r' []) H2 (List.mem_of_mem_drop (i := 6) (List.mem_append_left _ hmem2)) (by (exact Nat.lt_of_le_of_lt (by assumption) (by decide))) fun t3 s3 H3 => ?_)
        refine c_int H3 fun t4 s4 H4 => i_sub H4 fun t5 s5 H5 => wpAny_items_nil ⟨_, H5, (show 2 ≤ sizeLine by decide), fun D5 s6 H6 => ?_⟩
        have H7 := H6.weak (P' := PairO ((r' : Int), ((rows'.getD r' []).length : Int) - 1)) .head fun o ho => ⟨_, _, ho⟩
        refine ⟨_, _, ga.map .ref, H7, by rw [List.length_map]; exact Nat.le_trans (by lia) (show 100 ≤ sizeLine by decide), .tail (.tail (.tail .head)), fun s8 H8 => ?_⟩
        have H9 := St.sink (pre := _ :: _ :: _ :: _ :: _ :: _ :: intC ra rows') (T := tupC ga gg) H8
        have e5 : List.map Value.ref ga ++ [Value.ref D5] = (ga ++ [D5]).map .ref := by simp
        rw [e5, ← tupC_snoc hga] at H9
        refine wpAny_execs_nil ⟨rfl, (m, some (.int x tx), rows', ga ++ [D5], gg ++ [((r' : Int), ((rows'.getD r' []).length : Int) - 1)]), ⟨hmr, hmg, hlen', by simp [hga], fun i => ?_, by simp; lia, hrest⟩, H9⟩
        dsimp only
        rw [List.length_append, hrows, get_set hrl]
        split
        · simp only [List.length_append, List.length_cons, List.length_nil]; (exact Nat.lt_succ_of_le (by assumption))
        · have := hbd i; simp only [List.length_cons, List.length_nil]; (exact Nat.le_succ_of_le (by assumption))
    · rintro ⟨m, xv, rows, ga, gg⟩ s1 ⟨hmr, hmg, hlen, hga, hbd, hcnt, hrun⟩ H1
      dsimp only at hmr hmg hlen hga hbd hcnt hrun
      have e : gg = g := by
        have : growA [] rows gg = some gg := rfl
        rw [this] at hrun; exact Option.some.inj hrun
      subst e
      refine wpAny_execs_cons ?_
      refine wpAny_Return_some (n_local H1 (by k_mem) hmg ?_)
      exact h Dg ga s1 hga (((H1.drop 1).cut 1 3).sub (.cons_cons _ (List.sublist_append_right _ _)))
theorem all_ (x : X) : T x := Classical.byContradiction fun hn => Classical.epsilon_spec (p := fun x => ¬ T x) ⟨x, hn⟩ at_
end GrD
section
variable {prog : Program} {w : World} {A : Around} {E : Value → Shared → Prop} {B s : Shared} {cs cs' : List Cel} {env : Env} {Q : Value → Shared → Prop}
theorem spec_grown {nD : Addr} {named : List Int} {g : List (Int × Int)} {k : Nat} (Fn : Fns B) (Nm : Names B) (ok : Ok A (k + 3)) (H : St B ((nD, IntsO named) :: cs) s) (hz : named.length ≤ 100) (hg : growA named.reverse (List.replicate named.length []) [] = some g) (h : ∀ D as s', as.length = g.length → St B ((D, LstO (as.map .ref)) :: (tupC as g ++ ((nD, IntsO named) :: cs))) s' → Q (.ref D) s') :
    wpAny (model prog w) A (call (.ref 211) [.ref nD]) Q E s := by
  refine call_fnC (binds := [(Str.ofString "named", .ref nD)]) (m := fun x => if x = Str.ofString "named" then some (.ref nD) else none) (cl := fun L => [(Str.ofString "x", L + 1)])
    (cels := fun L => [(L + 1, CellO none)]) Fn.grown (fun _ _ _ => rfl) ok Nm H (fun _ _ _ => rfl) (fun _ => rfl) (fun _ _ _ => rfl) (fun _ _ _ => rfl) ?_
  intro L cd s1 E' ok1 H1
  exact GrD.all_ ⟨prog, w, A, E, B, cs, Q, nD, named, g, k, L, cd, s1, E'⟩ Fn Nm ok hz hg h ok1 H1

end
end Mine
end
section
set_option maxRecDepth 100000
namespace Mine
open PySem PySem.Calls PyProof.Rows PySem.W PySem.SeqAt Builtin

noncomputable def moreM (rows : List (List Nat)) : List (List Nat) := rows.map fun r => r.map (· + 1)
noncomputable def runR (N : Nat) : Nat → List (List Nat) → Option (List Nat × List (List Nat))
  | 0, rows => some ([], rows)
  | k + 1, rows => if (sumsM (endsM N rows)).contains ((N : Int) - 1) then (runR N k (moreM (slideM N rows).2)).map fun r => ((slideM N rows).1 :: r.1, r.2) else none
noncomputable def okW (p0 p1 : Nat × Nat) : Bool := decide (p0.2 < p1.2) && (decide (p0.2 + 1 ≤ p0.1) && decide (p1.2 + 1 ≤ p1.1))
noncomputable def runW : List Nat → List (Nat × Nat) → Option (List (Nat × Nat))
  | [], ws => some ws
  | c :: cs, ws => match ws[c]?, ws[c + 1]? with
    | some p0, some p1 => if okW p0 p1 then runW cs (exM c ws) else none
    | _, _ => none
noncomputable def ws0 (n : Nat) : List (Nat × Nat) := (List.range n).map fun k => ((k + 1) * (n - 1), k)
noncomputable def wsE (n : Nat) : List (Nat × Nat) := ((List.range n).map fun k => (0, k)).reverse
noncomputable def swapP (p : Int × Int) : Int × Int := (p.2, p.1)

structure Plain (N : Nat) (ord : List (Int × Int)) : Prop where
  hall : ∀ r ∈ upR 0 N, ∀ c ∈ upR 0 (N - r.toNat), (r, c) ∈ ord
  hallS : ∀ r ∈ upR 0 N, ∀ c ∈ upR 0 (N - r.toNat), (r, c) ∈ ord.map swapP
  run : ∃ nm, nm.length = ord.length ∧ runR N ord.length (rowsM N ord) = some (nm, rowsM N (ord.map swapP)) ∧ runW nm (ws0 (N + 1)) = some (wsE (N + 1)) ∧ growA (nm.map Int.ofNat).reverse (List.replicate nm.length []) [] = some ord

noncomputable def good3 (ord : List (Int × Int)) : Bool :=
  ((upR 0 3).all fun r => (upR 0 (3 - r.toNat)).all fun c => ord.contains (r, c)) && (((upR 0 3).all fun r => (upR 0 (3 - r.toNat)).all fun c => (ord.map swapP).contains (r, c)) &&
  match runR 3 ord.length (rowsM 3 ord) with
  | some (nm, e) => nm.length == ord.length && (e == rowsM 3 (ord.map swapP) && (runW nm (ws0 4) == some (wsE 4) && growA (nm.map Int.ofNat).reverse (List.replicate nm.length []) [] == some ord))
  | none => false)
theorem good3_all : (levels 3 6).all (fun st => good3 st.2) = true := by decide +kernel
theorem plain3 {st : Fill} (h : st ∈ levels 3 6) : Plain 3 st.2 := by
  have g := List.all_eq_true.mp good3_all st h
  unfold good3 at g
  rw [Bool.and_eq_true, Bool.and_eq_true, List.all_eq_true, List.all_eq_true] at g
  obtain ⟨g1, g2, g3⟩ := g
  split at g3
  · rename_i nm e hr
    simp only [Bool.and_eq_true, beq_iff_eq] at g3
    obtain ⟨h1, h2, h3, h4⟩ := g3
    refine ⟨fun r hr c hc => ?_, fun r hr c hc => ?_, nm, h1, by rw [hr, h2], h3, h4⟩
    · simpa using List.all_eq_true.mp (g1 r hr) c hc
    · simpa using List.all_eq_true.mp (g2 r hr) c hc
  · cases g3
end Mine
end
section
set_option maxHeartbeats 4000000
namespace Mine
open PySem PySem.Calls PyProof.Rows PySem.W

noncomputable def yieldsM (its : List Int) : List Int := its.takeWhile (· != 127)
noncomputable def grG (L it l : Addr) (its : List Int) (as : List Int) : List Cel :=
  [(L, fun o => ∃ m, NsO m o ∧ ∃ i t, m (Str.ofString "interval") = some (.int i t)),
   (it, fun o => (its.drop ((yieldsM its).length - as.length)).length ≤ its.length ∧ its.drop ((yieldsM its).length - as.length) = its.drop (its.length - (its.drop ((yieldsM its).length - as.length)).length) ∧ LitO l (its.length - (its.drop ((yieldsM its).length - as.length)).length) o),
   (l, SeqO iv its)]
theorem yields_cons {x : Int} (r : List Int) (h : x ≠ 127) : yieldsM (x :: r) = x :: yieldsM r := by
  unfold yieldsM; rw [List.takeWhile_cons_of_pos (by simpa using h)]
theorem yields_stop (r : List Int) : yieldsM (127 :: r) = [] := by
  unfold yieldsM; rw [List.takeWhile_cons_of_neg (by decide)]

section
variable {prog : Program} {w : World} {A : Around} {E : Value → Shared → Prop} {B s : Shared} {cs cs' : List Cel} {Q : Value → Shared → Prop}

theorem Names.cmax (N : Names B) : ∃ t mg, B.heap.Ns mainGlobals mg ∧ mg (Str.ofString "CHAR_MAX") = some (.int 127 t) := by
  obtain ⟨mg, g, _, _, _, _, _, _, _, _, _, _, _, _, _, _, _, _, _, ⟨t, e⟩, _⟩ := N.gl
  exact ⟨t, mg, g, e⟩

end
namespace GgD
noncomputable abbrev Xq := (Program) × (World) × (Around) × (Shared) × (Addr) × (Addr) × (Value) × (List Int)
noncomputable def Sq (prog : Program) (w : World) (A : Around) (B : Shared) (L : Addr) (l : Addr) (cd : Value) (its : List Int) : Prop :=
  ∀ (s : Shared) (c : Code) (hh : A.handled = none) (Nm : Names B) (h0 : ∀ i ∈ its, i ≠ 0) (hc : ∀ qual params body scope pm ct, fdOf (stOf 8) "_grouping_intervals" [] .none pm cd ct = fnX (Str.ofString "_grouping_intervals") qual params body scope [] .none .none .none pm none cd ct → c = .func body (envX qual scope L 136 cd [])) (H : St B [(L, NsO fun x => [(Str.ofString "grouping", Value.ref l)].reverse.lookup x), (l, SeqO iv its)] s),
    GenState.Goes (model prog w) A.in1 (gR (.ret .none) [L, s.heap.objs.size, l]) (gY B [L, s.heap.objs.size, l] (yieldsM its) (fun a v => iv v = some a) (grG L s.heap.objs.size l its)) (yieldsM its).length (.fresh c) (.send .none) s
noncomputable def Tq (x : Xq) : Prop := Sq x.1 x.2.1 x.2.2.1 x.2.2.2.1 x.2.2.2.2.1 x.2.2.2.2.2.1 x.2.2.2.2.2.2.1 x.2.2.2.2.2.2.2
noncomputable def xq : Xq := @Classical.epsilon Xq ⟨⟨default, dumW, {}, dumS, 0, 0, default, []⟩⟩ fun x => ¬ Tq x
noncomputable def prog : Program := xq.1
noncomputable def w : World := xq.2.1
noncomputable def A : Around := xq.2.2.1
noncomputable def B : Shared := xq.2.2.2.1
noncomputable def L : Addr := xq.2.2.2.2.1
noncomputable def l : Addr := xq.2.2.2.2.2.1
noncomputable def cd : Value := xq.2.2.2.2.2.2.1
noncomputable def its : List Int := xq.2.2.2.2.2.2.2
theorem at_ : Sq prog w A B L l cd its := by
  intro s c hh Nm h0 hc H
  have hcc := hc _ _ _ _ .none .none rfl
  subst hcc
  refine ⟨rfl, ?_⟩
  have hadB : ∀ b ∈ [L, s.heap.objs.size, l], B.heap.get? b = none := by
    intro b hb
    simp only [List.mem_cons, List.not_mem_nil, or_false] at hb
    rcases hb with rfl | rfl | rfl
    · exact (H.own _ (.head _)).1
    · exact H.free.1
    · exact (H.own _ (.tail _ (.head _))).1
  have N0 : Names (hid s [L, s.heap.objs.size, l]) := Nm.hid H hadB
  have H0 : St (hid s [L, s.heap.objs.size, l]) [(L, NsO fun x => [(Str.ofString "grouping", Value.ref l)].reverse.lookup x), (l, SeqO iv its)] s := H.self (by
    intro c hc
    simp only [List.mem_cons, List.not_mem_nil, or_false] at hc
    rcases hc with rfl | rfl <;> simp)
  generalize hit : s.heap.objs.size = it at N0 H0 hadB ⊢
  refine seg_func ?_
  refine seg_execs_cons ?_
  refine seg_st ?_
  refine wpAny_Assign_Name (Constant_none ?_)
  refine wpAny_storeName_local rfl (H0.ns (.head _)) (fun h1 hn1 hs1 => ?_) rfl
  have H1 : St (hid s [L, it, l]) [(L, NsO fun y => if y = Str.ofString "last_interval" then some Value.none else [(Str.ofString "grouping", Value.ref l)].reverse.lookup y), (l, SeqO iv its)] { s with heap := h1, toks := s.toks + 1 } := H0.upd (t := s.toks + 1) .head hs1 (nsO hn1)
  refine seg_execs_cons ?_
  refine seg_For ?_
  refine n_local H1 (.head _) (by rfl) ?_
  obtain ⟨o2, ho2, vs, ⟨nn, rfl⟩, hvs⟩ := H1.get (.tail _ (.head _))
  refine wpAny_pyIter_list (Heap.PlainList.isList ⟨nn, ho2⟩) ?_
  intro p
  have esz : h1.objs.size = it := by rw [← hit]; exact hs1.1
  have H2 := H1.push (P := fun o => its.length ≤ its.length ∧ its = its.drop (its.length - its.length) ∧ LitO l (its.length - its.length) o) (o := { cls := .type "list_iterator", data := .fields #[.ref l, .int 0 0] }) (t := s.toks + 1) ⟨Nat.le_refl _, by simp, rfl, by simp⟩
  have H3 : St (hid s [L, it, l]) [(L, NsO fun y => if y = Str.ofString "last_interval" then some Value.none else [(Str.ofString "grouping", Value.ref l)].reverse.lookup y), (it, fun o => its.length ≤ its.length ∧ its = its.drop (its.length - its.length) ∧ LitO l (its.length - its.length) o), (l, SeqO iv its)] { s with heap := h1.push { cls := .type "list_iterator", data := .fields #[.ref l, .int 0 0] }, toks := s.toks + 1 } := by
    have e9 : (({ s with heap := h1, toks := s.toks + 1 } : Shared)).heap.objs.size = it := esz
    rw [e9] at H2
    exact H2.front 1
  clear H2 H1 H0 ho2 hvs hn1 hs1
  dsimp only
  rw [esz]
  generalize (fun y => if y = Str.ofString "last_interval" then some Value.none else [(Str.ofString "grouping", Value.ref l)].reverse.lookup y) = m0 at H3
  generalize ({ s with heap := h1.push { cls := .type "list_iterator", data := .fields #[.ref l, .int 0 0] }, toks := s.toks + 1 } : Shared) = s4 at H3 ⊢
  obtain ⟨n, hn⟩ : ∃ n, n = (yieldsM its).length := ⟨_, rfl⟩
  rw [← hn]
  have hdrop : (yieldsM its).drop ((yieldsM its).length - n) = yieldsM its := by rw [hn]; simp
  obtain ⟨rem, hrem⟩ : ∃ rem, rem = its := ⟨_, rfl⟩
  have hnz : ∀ i ∈ rem, i ≠ 0 := hrem ▸ h0
  have hn' : n = (yieldsM rem).length := by rw [hrem]; exact hn
  have hdr : (yieldsM its).drop ((yieldsM its).length - n) = yieldsM rem := by rw [hrem]; exact hdrop
  have hrd : rem = its.drop ((yieldsM its).length - n) := by rw [hn, hrem]; simp
  have H5 : St (hid s [L, it, l]) [(L, NsO m0), (it, fun o => rem.length ≤ its.length ∧ rem = its.drop (its.length - rem.length) ∧ LitO l (its.length - rem.length) o), (l, SeqO iv its)] s4 := by rw [hrem]; exact H3
  clear H3 hrem hdrop hn H hit esz h0 hc
  induction rem generalizing n s s4 m0 with
  | nil =>
    have hn0 : n = 0 := hn'
    subst hn0
    refine seg_forLoop ?_
    refine Iter.stop (iter_seq (A := A.in1.over _ _) (f := iv) (it := it) (l := l) (ss := its) (by exact hh)) (R := [(L, NsO m0)]) (H5.perm (by
      exact List.Perm.trans (.swap ..) (.cons _ (.swap ..)))) fun s6 H6 => ?_
    refine seg_block ?_
    refine seg_leaf (.ok .next) ?_
    exact seg_end (.ok (.ret .none)) ⟨rfl, rfl, H6.drop 2⟩
  | cons x rem ih =>
    refine seg_forLoop ?_
    refine Iter.next (iter_seq (A := A.in1.over _ _) (f := iv) (it := it) (l := l) (ss := its) (by exact hh)) (a := x) (as := rem) (R := [(L, NsO m0)]) (H5.perm (by
      exact List.Perm.trans (.swap ..) (.cons _ (.swap ..)))) fun v s6 hv H6 => ?_
    obtain ⟨tv, rfl⟩ := iv_int hv
    refine Iter.own (B := hid s [L, it, l]) (iter_seq (A := A.in1.over _ _) (f := iv) (it := it) (l := l) (ss := its) (by exact hh)) (as := rem) (R := [(L, NsO m0)]) H6 ?_
    refine wpAny_assign_Name (s_local (m' := m0) H6 (.tail (.tail .head)) fun s7 H7 => ?_)
    refine seg_execs_cons ?_
    refine seg_st ?_
    have hx0 : x ≠ 0 := hnz x (.head _)
    obtain ⟨tc, mgc, hgc, hcm⟩ := N0.cmax
    refine wpAny_If (tr_int (n_local H7 (by k_mem) (if_pos rfl) (n_glob H7 ⟨mgc, hgc, hcm⟩ (PyProof.Rows.eq_int (wpAny_truthy_bool ?_)))))
    by_cases h127 : x = 127
    · subst h127
      rw [yields_stop] at hn'
      have hn0 : n = 0 := hn'
      subst hn0
      rw [if_pos (by decide)]
      refine wpAny_execs_cons (wpAny_Return_none ?_)
      refine seg_leaf (.ok (.ret .none)) ?_
      exact seg_end (.ok (.ret .none)) ⟨rfl, rfl, H7.drop 3⟩
    · rw [if_neg (by simpa using h127)]
      rw [yields_cons _ h127] at hn' hdr
      rw [List.length_cons] at hn'
      subst hn'
      obtain ⟨d1, d2, d3⟩ := drop_here hdr.symm
      refine wpAny_execs_nil ?_
      refine seg_execs_cons ?_
      refine seg_st ?_
      refine wpAny_If (tr_int (n_local H7 (by k_mem) (if_pos rfl) (c_int H7 fun t8 s8 H8 => PyProof.Rows.eq_int (wpAny_truthy_bool ?_))))
      rw [if_neg (by simpa using hx0)]
      refine wpAny_execs_nil ?_
      refine seg_execs_cons ?_
      refine seg_Expr_Yield rfl rfl rfl ?_
      have hrem : rem = its.drop ((yieldsM its).length - (yieldsM rem).length) := by
        have := congrArg List.tail hrd
        rw [List.tail_drop, List.tail_cons] at this
        refine this.trans ?_
        congr 1; (clear hdr hrd d1; lia)
      refine n_local H8 (by k_mem) (if_pos rfl) fun kap hk => ⟨⟨x, d1, rfl⟩, ?_, fun s'' H'' => hk .none s'' ?_⟩
      · rw [d2]
        unfold grG
        rw [← hrem]
        exact (H8.front 2).weak .head fun o ho => ⟨_, ho, x, tv, if_pos rfl⟩
      · rw [d2] at H''
        unfold grG at H''
        rw [← hrem] at H''
        obtain ⟨o, ho, m', hm', i, t', hi⟩ := H''.get (.head _)
        have H9 := H''.redo (P' := NsO m') .head ⟨o, ho, hm'⟩
        have H10 : St (hid s'' [L, it, l]) _ s'' := H9.self (by
          intro c hc
          simp only [List.mem_cons, List.not_mem_nil, or_false] at hc
          rcases hc with rfl | rfl | rfl <;> simp)
        have N10 := Nm.hid H9 hadB
        refine seg_execs_cons ?_
        refine seg_st ?_
        refine wpAny_Assign_Name (n_local H10 (.head _) hi (s_local (m' := m') H10 .head fun s11 H11 => ?_))
        refine seg_again rfl ?_
        exact ih (s := s'') (N0 := N10) (hnz := fun i hi => hnz i (.tail _ hi)) (hn' := rfl) (hdr := d2) (hrd := hrem) (H5 := H11)
theorem all_ (x : Xq) : Tq x := Classical.byContradiction fun hn => Classical.epsilon_spec (p := fun x => ¬ Tq x) ⟨x, hn⟩ at_
end GgD
section
variable {prog : Program} {w : World} {A : Around} {E : Value → Shared → Prop} {B s : Shared} {cs cs' : List Cel} {Q : Value → Shared → Prop}
theorem grp_goes {L l : Addr} {cd : Value} {its : List Int} {c : Code} (hh : A.handled = none) (Nm : Names B) (h0 : ∀ i ∈ its, i ≠ 0) (hc : ∀ qual params body scope pm ct, fdOf (stOf 8) "_grouping_intervals" [] .none pm cd ct = fnX (Str.ofString "_grouping_intervals") qual params body scope [] .none .none .none pm none cd ct → c = .func body (envX qual scope L 136 cd [])) (H : St B [(L, NsO fun x => [(Str.ofString "grouping", Value.ref l)].reverse.lookup x), (l, SeqO iv its)] s) :
    GenState.Goes (model prog w) A.in1 (gR (.ret .none) [L, s.heap.objs.size, l]) (gY B [L, s.heap.objs.size, l] (yieldsM its) (fun a v => iv v = some a) (grG L s.heap.objs.size l its)) (yieldsM its).length (.fresh c) (.send .none) s :=
  GgD.all_ ⟨prog, w, A, B, L, l, cd, its⟩ s c hh Nm h0 hc H

end
end Mine
end
section
set_option maxHeartbeats 4000000
set_option maxHeartbeats 4000000
namespace Mine
open PySem PySem.Calls PyProof.Rows PySem.W

section
variable {prog : Program} {w : World} {A : Around} {E : Value → Shared → Prop} {B s : Shared} {cs cs' : List Cel} {Q : Value → Shared → Prop}

theorem call_gen {a : Addr} {F : Value → Value → Value → FuncData} {name qual : Str} {params : Arguments} {body : List Stmt} {scope : Scope} {dV : Value} {args : List Value} {binds : List (Str × Value)} {k : Nat}
    (hF : FnAt B.heap a F) (hfd : ∀ pm cd ct, F pm cd ct = fnX name qual params body scope [] dV .none .none pm none cd ct) (ok : Ok A (k + 1)) (N : Names B) (H : St B cs s)
    (hbind : ∀ pm cd ct, bindArgs (fnX name qual params body scope [] dV .none .none pm none cd ct) ⟨args, []⟩ = pure binds)
    (h : ∀ L cd g ga s1, St B ((ga, GenO g) :: (L, NsO fun x => binds.reverse.lookup x) :: cs) s1 → s1.gens[g]? = some (.fresh (.func body (envX qual scope L a cd []))) → B.gens[g]? = none → Q (.ref ga) s1)
    (hloc : ∀ x ∈ binds, scope.names.lookup x.1 = some .local := by exact locs rfl)
    (hcell : ∀ x ∈ scope.names, x.2 ≠ .cell := by decide)
    (hco : scope.isCoroutine = false := by rfl) (hgen : scope.isGenerator = true := by rfl) (hk : scope.kind = .function := by rfl) :
    wpAny (model prog w) A (call (.ref a) args) Q E s := by
  obtain ⟨o, pm, cd, ct, ho, hd, hc⟩ := hF
  rw [hfd] at hd hc
  refine wpAny_call (codeAny_call_generator ok.room (H.keep _ _ ho) hd hco hgen rfl (hc.keeps H.keep) ?_)
  refine wpAny_of_eq (hbind pm cd ct) ?_
  refine wpAny_newFunctionEnv hcell hloc (fun h1 hns hsb => ?_) hk
  have keep : ∀ b o, s.heap.get? b = some o → h1.get? b = some o := fun b o e => hsb.extBut b o (Nat.ne_of_lt (Heap.lt_size e)) (Heap.get?_push_of_some _ e)
  have H1 := H.new (t := s.toks + binds.length) keep (nsO hns)
  refine ⟨N.lim.keeps H1.keep, ?_⟩
  have H2 := H1.push (P := GenO s.gens.size) (o := { cls := .type "generator", data := .fields #[.int s.gens.size 0, .str name (s.toks + binds.length), .str qual (s.toks + binds.length + 1)] }) (t := s.toks + binds.length + 1 + 1) ⟨rfl, ⟨_, _, rfl⟩, rfl⟩
  have H3 := H2.pushGen (.fresh (.func body (envX qual scope s.heap.objs.size a cd []))) rfl
  refine h s.heap.objs.size cd s.gens.size h1.objs.size _ H3 (Array.getElem?_push_size ..) ?_
  cases e : B.gens[s.gens.size]? with
  | none => rfl
  | some x =>
    have := H.gkeep _ _ e
    exact absurd (Array.getElem?_eq_some_iff.mp this).1 (Nat.lt_irrefl _)

noncomputable def downs (N : Nat) : List Int := (List.range N).map fun (i : Nat) => (N : Int) - i
theorem f_downs {n : Int} {N : Nat} {r : Addr} {t u v : Tok} (hh : A.handled = none) (hN : N ≤ 100) (hn : n = N) (H : St B cs s) (hr : s.heap.get? r = some { cls := .type "range", dict := none, data := .fields #[.int n t, .int 0 u, .int (-1) v], slots := #[] })
    (h : ∀ D s', St B ((D, IntsO (downs N)) :: cs) s' → Q (.ref D) s') : wpAny (model prog w) A (call (.type "list") [.ref r]) Q E s := by
  subst hn
  have hs : Builtin.Range.rangeSize N 0 (-1) = (N : Int) := by
    unfold Builtin.Range.rangeSize
    rw [if_neg (by decide)]
    split
    · rw [show (-(-1) : Int) = 1 by decide, Int.ediv_one]; lia
    · lia
  refine call_list_range (n := N) hh hr ?_ hs (by (exact Nat.le_trans (by assumption) (by decide))) fun h' tk acc c hk hget hacc => ?_
  · unfold Builtin.Range.small Builtin.Range.rangeFitsLong
    rw [hs]
    rw [if_neg (show ¬ ((-1 : Int) > 0) by decide)]
    have e1 : decide (-(2 ^ 63 : Int) ≤ (N : Int)) = true := decide_eq_true (by (exact Int.natCast_nonneg _))
    have e2 : decide ((N : Int) < (2 ^ 63 : Int)) = true := decide_eq_true (by lia)
    rw [e1, e2]; simp
  · refine h _ _ (H.new (t := tk) hk ⟨_, hget, acc.toList, ⟨c, by simp⟩, ?_⟩)
    apply List.ext_getElem?
    intro i
    obtain ⟨hsz, hit⟩ := hacc
    by_cases hi : i < N
    · obtain ⟨x, hx⟩ : ∃ x, acc[i]? = some x := ⟨_, Array.getElem?_eq_getElem (by (clear hN hr hs; lia))⟩
      obtain ⟨t', rfl⟩ := hit i x hx
      have hx' : acc.toList[i]? = some (.int ((N : Int) + i * -1) t') := by simpa using hx
      rw [List.getElem?_map, hx', List.getElem?_map]
      unfold downs
      rw [List.getElem?_map, List.getElem?_range hi]
      simp only [Option.map_some, iv]
      congr 2; lia
    · rw [List.getElem?_eq_none (by simp; lia), List.getElem?_eq_none (by simp [downs]; (exact Nat.le_of_not_lt (by assumption)))]

noncomputable def cutM {α : Type} : List Int → List α → List (List α)
  | [], rows => [rows]
  | x :: xs, rows => rows.take x.toNat :: cutM xs (rows.drop x.toNat)
noncomputable def itsM (N turn : Nat) : List Int := downs N ++ (if turn % 2 = 1 then [127, 2] else [])

theorem yields_its : ∀ N ∈ [3, 4], ∀ t ∈ [0, 1], yieldsM (itsM N t) = downs N ∧ (∀ i ∈ itsM N t, i ≠ 0) ∧ (∀ i ∈ downs N, 0 ≤ i ∧ i ≤ 4) := by decide +kernel

theorem l_add_seq {β : Type} {f : Value → Option β} {l b : Addr} {x y : List β} (H : St B cs s) (hm : (l, SeqO f x) ∈ cs) (hm2 : (b, SeqO f y) ∈ cs) (hz : x.length + y.length ≤ sizeLine) (h : ∀ D s', St B ((D, SeqO f (x ++ y)) :: cs) s' → Q (.ref D) s') :
    wpAny (model prog w) A (binaryOp .Add (.ref l) (.ref b)) Q E s := by
  obtain ⟨_, ho, vs, ⟨n, rfl⟩, hv⟩ := H.get hm
  obtain ⟨_, ho2, us, ⟨n2, rfl⟩, hu⟩ := H.get hm2
  have e : vs.toArray ++ us.toArray = (vs ++ us).toArray := by simp
  refine concat_meets ⟨_, ho, rfl⟩ ⟨_, ho2, rfl⟩ noFill_list_add seq_list_add PySem.F.slot_list_add PySem.F.entry_list_add (PySem.F.args_list_add_2 _ _) (list_addW l b vs.toArray us.toArray n n2 none none #[] #[] (by simpa [map_len hv, map_len hu] using hz)) ⟨ho, ho2, ?_⟩
  rw [e]
  exact h _ _ (H.push (P := SeqO f (x ++ y)) (t := s.toks) ⟨vs ++ us, ⟨0, rfl⟩, by rw [List.map_append, hv, hu, List.map_append]⟩)

theorem seqC_snoc {β : Type} {f : Value → Option β} {as : List Addr} {rs : List (List β)} (h : as.length = rs.length) (a : Addr) (r : List β) : seqC f (as ++ [a]) (rs ++ [r]) = seqC f as rs ++ [(a, SeqO f r)] := by
  unfold seqC
  rw [List.zipWith_append h]; rfl

noncomputable def cuR (L Dl : Addr) (cs : List Cel) (y : (Str → Option Value) × Addr × List Str × List Addr × List (List Str)) : List Cel :=
  (Dl, LstO (y.2.2.2.1.map .ref)) :: (L, NsO y.1) :: (y.2.1, SeqO sv y.2.2.1) :: (seqC sv y.2.2.2.1 y.2.2.2.2 ++ cs)

end
namespace CuD
noncomputable abbrev X := (Program) × (World) × (Around) × (Value → Shared → Prop) × (Shared) × (List Cel) × (Value → Shared → Prop) × (Int) × (Nat) × (Nat) × (Tok) × (Tok) × (Addr) × (List Str) × (Nat) × (Addr) × (Value) × (Shared) × (Value → Shared → Prop)
noncomputable def S (prog : Program) (w : World) (A : Around) (E : Value → Shared → Prop) (B : Shared) (cs : List Cel) (Q : Value → Shared → Prop) (n : Int) (N : Nat) (turn : Nat) (tn : Tok) (tt : Tok) (D0 : Addr) (all : List Str) (k : Nat) (L : Addr) (cd : Value) (s1 : Shared) (E' : Value → Shared → Prop) : Prop :=
  ∀ (hN : N ∈ [3, 4]) (hn : n = N + 1) (Fn : Fns B) (Nm : Names B) (ok : Ok A (k + 3)) (hz : all.length ≤ 90) (h : ∀ D ra s', ra.length = (cutM (downs N) all).length → St B ((D, LstO (ra.map .ref)) :: (seqC sv ra (cutM (downs N) all) ++ cs)) s' → Q (.ref D) s'),
    Ok (A.deeper (envX "_law_cut" (scOf (stOf 23)) L 206 cd [])) (k + 2) → St B ((L, NsO fun zq => ([(Str.ofString "n", .int n tn), (Str.ofString "rows", .ref D0), (Str.ofString "turn", .int turn tt)] : List (Str × Value)).reverse.lookup zq) :: ((D0, StrsO all) :: cs)) s1 →
    wpAny (model prog w) (A.deeper (envX "_law_cut" (scOf (stOf 23)) L 206 cd [])) (execs (bdOf (stOf 23)) (envX "_law_cut" (scOf (stOf 23)) L 206 cd [])) (fun f s' => Q (match f with | .ret v => v | _ => .none) s') E' s1
noncomputable def T (x : X) : Prop := S x.1 x.2.1 x.2.2.1 x.2.2.2.1 x.2.2.2.2.1 x.2.2.2.2.2.1 x.2.2.2.2.2.2.1 x.2.2.2.2.2.2.2.1 x.2.2.2.2.2.2.2.2.1 x.2.2.2.2.2.2.2.2.2.1 x.2.2.2.2.2.2.2.2.2.2.1 x.2.2.2.2.2.2.2.2.2.2.2.1 x.2.2.2.2.2.2.2.2.2.2.2.2.1 x.2.2.2.2.2.2.2.2.2.2.2.2.2.1 x.2.2.2.2.2.2.2.2.2.2.2.2.2.2.1 x.2.2.2.2.2.2.2.2.2.2.2.2.2.2.2.1 x.2.2.2.2.2.2.2.2.2.2.2.2.2.2.2.2.1 x.2.2.2.2.2.2.2.2.2.2.2.2.2.2.2.2.2.1 x.2.2.2.2.2.2.2.2.2.2.2.2.2.2.2.2.2.2
noncomputable def x0 : X := @Classical.epsilon X ⟨⟨default, dumW, {}, fun _ _ => True, dumS, [], fun _ _ => True, 0, 0, 0, default, default, 0, [], 0, 0, default, dumS, fun _ _ => True⟩⟩ fun x => ¬ T x
noncomputable def prog : Program := x0.1
noncomputable def w : World := x0.2.1
noncomputable def A : Around := x0.2.2.1
noncomputable def E : Value → Shared → Prop := x0.2.2.2.1
noncomputable def B : Shared := x0.2.2.2.2.1
noncomputable def cs : List Cel := x0.2.2.2.2.2.1
noncomputable def Q : Value → Shared → Prop := x0.2.2.2.2.2.2.1
noncomputable def n : Int := x0.2.2.2.2.2.2.2.1
noncomputable def N : Nat := x0.2.2.2.2.2.2.2.2.1
noncomputable def turn : Nat := x0.2.2.2.2.2.2.2.2.2.1
noncomputable def tn : Tok := x0.2.2.2.2.2.2.2.2.2.2.1
noncomputable def tt : Tok := x0.2.2.2.2.2.2.2.2.2.2.2.1
noncomputable def D0 : Addr := x0.2.2.2.2.2.2.2.2.2.2.2.2.1
noncomputable def all : List Str := x0.2.2.2.2.2.2.2.2.2.2.2.2.2.1
noncomputable def k : Nat := x0.2.2.2.2.2.2.2.2.2.2.2.2.2.2.1
noncomputable def L : Addr := x0.2.2.2.2.2.2.2.2.2.2.2.2.2.2.2.1
noncomputable def cd : Value := x0.2.2.2.2.2.2.2.2.2.2.2.2.2.2.2.2.1
noncomputable def s1 : Shared := x0.2.2.2.2.2.2.2.2.2.2.2.2.2.2.2.2.2.1
noncomputable def E' : Value → Shared → Prop := x0.2.2.2.2.2.2.2.2.2.2.2.2.2.2.2.2.2.2
theorem at_ : S prog w A E B cs Q n N turn tn tt D0 all k L cd s1 E' := by
  intro hN hn Fn Nm ok hz h ok1 H1
  have hNs : N ≤ 4 := by simp at hN; lia
  have hdl : (downs N).length = N := by unfold downs; rw [List.length_map, List.length_range]
  have hl5 : (downs N).length + (if turn % 2 = 1 then ([127, 2] : List Int) else []).length ≤ 10 := by
    rw [hdl]; split <;> simp <;> (exact Nat.le_trans (by assumption) (by decide))
  refine wpAny_execs_cons ?_
  refine wpAny_Assign_Name ?_
  refine d_list (B := B) ?_
  refine wpAny_items_nil ⟨_, H1, Nat.zero_le _, fun Dl s2 H2 => ?_⟩
  refine s_local (m' := fun _ => none) H2 (.tail .head) fun s3 H3 => ?_
  refine wpAny_execs_cons ?_
  refine wpAny_For ?_
  refine e_call (n_glob H3 (Nm.g fun mg h => h.2.1) (cw_fn Fn.grouping (wpAny_items_cons (wpAny_BinOp (e_call (n_blt H3 Nm (by k_mem) (by rfl) (cw_ty (wpAny_items_cons (e_call (n_blt H3 Nm (by k_mem) (by rfl) (cw_ty ?_)))))))))))
  refine wpAny_items_cons (wpAny_BinOp (n_local H3 (by k_mem) (by rfl) (c_int H3 fun t4 s4 H4 => i_sub H4 fun t5 s5 H5 => wpAny_items_cons (c_int H5 fun t6 s6 H6 => wpAny_items_cons (wpAny_UnaryOp (c_int H6 fun t7 s7 H7 => PyProof.Rows.neg_int ?_))))))
  have H8 := H7.tok (s7.toks + 1)
  refine wpAny_items_nil (call_range_3 (by decide) ?_ (.inl (PyProof.noPylong_small (by decide))))
  have H9 := H8.push (P := IsO { cls := .type "range", data := .fields #[.int (n - 1) t5, .int 0 t6, .int (-1) s7.toks] }) (o := { cls := .type "range", data := .fields #[.int (n - 1) t5, .int 0 t6, .int (-1) s7.toks] }) (t := s7.toks + 1) rfl
  refine wpAny_items_nil (f_downs (N := N) ok1.handled (by (exact Nat.le_trans (by assumption) (by decide))) (by (clear H9; lia)) H9 (H9.is (.head _)) fun D1 s10 H10 => ?_)
  have H11 := H10.cut 1 1
  refine wpAny_BinOp ?_
  refine d_list (B := B) ?_
  refine wpAny_items_cons ?_
  with_reducible refine c_int H11 fun t12 s12 H12 => ?_
  refine wpAny_items_cons ?_
  with_reducible refine c_int H12 fun t13 s13 H13 => ?_
  refine wpAny_items_nil ⟨_, H13, (show 2 ≤ sizeLine by decide), fun D2 s14 H14 => ?_⟩
  refine wpAny_BinOp (n_local H14 (by k_mem) (by rfl) (c_int H14 fun t15 s15 H15 => i_mod H15 (by decide) fun t16 s16 H16 => ?_))
  have em : (turn : Int).fmod 2 = (turn % 2 : Nat) := by rw [Int.fmod_eq_emod_of_nonneg _ (by (exact Int.natCast_nonneg _))]; rfl
  rw [em]
  refine l_mul H16 (.head _) (by decide) (by lia) (by simp only [List.length_cons, List.length_nil]; lia) fun D3 s17 H17 => ?_
  have ht2 : turn % 2 = 0 ∨ turn % 2 = 1 := by (clear hl5 H17; lia)
  have H18 := H17.weak (P' := SeqO iv (if turn % 2 = 1 then [127, 2] else [])) .head fun o ho => ⟨_, ho, by rcases ht2 with e | e <;> rw [e] <;> rfl⟩
  refine l_add_seq (f := iv) (x := downs N) H18 (.tail _ (.tail _ (.head _))) (.head _) (Nat.le_trans hl5 (show 10 ≤ sizeLine by decide)) fun D4 s19 H19 => ?_
  have H20 := H19.cut 1 3
  refine wpAny_items_nil ⟨⟨_, H20⟩, ?_⟩
  refine call_gen (binds := [(Str.ofString "grouping", .ref D4)]) Fn.grouping (fun _ _ _ => rfl) ok1 Nm H20 (fun _ _ _ => rfl) fun L2 cd2 g ga s21 H21 hg hB => ?_
  refine wpAny_pyIter_gen (H21.gen (.head _)) ?_
  have hits : yieldsM (itsM N turn) = downs N ∧ (∀ i ∈ itsM N turn, i ≠ 0) ∧ ∀ i ∈ downs N, 0 ≤ i ∧ i ≤ 4 := by
    have := yields_its N hN (turn % 2) (by simp; assumption)
    have e : itsM N (turn % 2) = itsM N turn := by unfold itsM; rw [Nat.mod_mod]
    rwa [e] at this
  have H22 : St B ((ga, GenO g) :: ([(L2, NsO fun x => [(Str.ofString "grouping", Value.ref D4)].reverse.lookup x), (D4, SeqO iv (itsM N turn))] ++ cuR L Dl cs (_, D0, all, [], []))) s21 := H21
  have hg0 : St B [(L2, NsO fun x => [(Str.ofString "grouping", Value.ref D4)].reverse.lookup x), (D4, SeqO iv (itsM N turn))] (s21.setGen g .running) := St.setGen (H22.sub ((List.sublist_append_left _ _).cons _)) rfl hB
  refine r_forG (ads := [L2, s21.heap.objs.size, D4]) (all := yieldsM (itsM N turn)) (P := fun a v => iv v = some a) (G := grG L2 s21.heap.objs.size D4 (itsM N turn)) (cuR L Dl cs)
    (fun as y => y.1 (Str.ofString "lines") = some (.ref Dl) ∧ y.1 (Str.ofString "rows") = some (.ref y.2.1) ∧ y.2.2.2.1.length = y.2.2.2.2.length ∧ y.2.2.2.2 ++ cutM as y.2.2.1 = cutM (downs N) all ∧ y.2.2.1.length ≤ 90 ∧ (∀ i ∈ as, 0 ≤ i ∧ i ≤ 4) ∧ y.2.2.2.2.length + as.length ≤ 10)
    ok1.handled (Nm.lim) ok1.room hB ?_ H22 hg ?_ (grp_goes (cd := cd2) ok1.handled Nm hits.2.1 ?_ hg0) (by simp) ?_ ?_ ?_
  · intro as b hb
    simp only [List.mem_cons, List.not_mem_nil, or_false] at hb
    rcases hb with rfl | rfl | rfl <;> simp [grG]
  · intro b hb
    simp only [List.mem_cons, List.not_mem_nil, or_false] at hb
    rcases hb with rfl | rfl | rfl
    · exact .inl (by simp)
    · refine .inr ?_
      cases e : s21.heap.get? s21.heap.objs.size with
      | none => rfl
      | some o => exact absurd (Heap.lt_size e) (Nat.lt_irrefl _)
    · exact .inl (by simp)
  · intro qual params body scope pm ct e
    have e1 : _ = FuncBody.stmts body := congrArg FuncData.body e
    have e2 : _ = scope := congrArg FuncData.scope e
    have e3 : _ = qual := congrArg FuncData.qualname e
    injection e1 with e1
    subst e1 e2 e3
    rfl
  · rw [hits.1]
    exact ⟨rfl, rfl, rfl, by simp, hz, hits.2.2, by simp; lia⟩
  · clear H22 H21 H20 H19 H18 H17 H16 H15 H14 H13 H12 H11 H10 H9 H8 H7 H6 H5 H4 H3 H2 H1 hg0
    rintro B' a as v ⟨m, Dc, rest, ra, parts⟩ s1 E1 hBh hv ⟨hml, hmr, hlen, hcut, hrest, hbnd, hcnt⟩ H1
    obtain ⟨tv, rfl⟩ := iv_int hv
    dsimp only at hml hmr hlen hcut hrest hcnt
    rw [List.length_cons] at hcnt
    obtain ⟨ha0, ha4⟩ := hbnd a (.head _)
    refine wpAny_assign_Name (s_local (m' := fun _ => none) H1 (.tail (.tail (.tail (.tail (.tail .head))))) fun s2 H2 => ?_)
    refine wpAny_execs_cons ?_
    refine wpAny_Expr ?_
    refine m_append (B := B') (n_local H2 (by k_mem) (by exact hml) ⟨Dl, _, _, rfl, H2, .tail _ (.tail _ (.tail _ (.tail _ (.head _)))), ?_⟩) rfl
    have e1 : (rest.drop (kms_lo none rest.length)).take (kms_hi (some a) rest.length - kms_lo none rest.length) = rest.take a.toNat := by
      unfold kms_lo kms_hi
      simp only [List.drop_zero, Nat.sub_zero]
      rw [if_neg (by lia), kmk_take_min]
    have e2 : (rest.drop (kms_lo (some a) rest.length)).take (kms_hi none rest.length - kms_lo (some a) rest.length) = rest.drop a.toNat := by
      unfold kms_lo kms_hi
      simp only []
      rw [if_neg (by lia), kmk_drop_min, List.take_of_length_le (by rw [List.length_drop]; exact Nat.sub_le_sub_left (Nat.min_le_left _ _) _)]
    refine Subscript_ (n_local H2 (by k_mem) (by exact hmr) (e_slice (part_none (part_some (n_local H2 (by k_mem) rfl (part_none ?_))))))
    refine slice_seq (f := sv) (ss := rest) H2 (.tail _ (.tail _ (.tail _ (.tail _ (.tail _ (.tail _ (.head _))))))) .none (.int _ _) (Nat.le_trans (by (exact Nat.le_trans (by assumption) (by decide))) (show 100 ≤ sizeLine by decide)) (fun D5 s5 H5 => ?_) (by with_unfolding_all rfl)
    rw [e1] at H5
    refine ⟨_, _, ra.map .ref, H5, by rw [List.length_map]; exact Nat.le_trans (by lia) (show 100 ≤ sizeLine by decide), .tail (.tail (.tail (.tail (.tail .head)))), fun s6 H6 => ?_⟩
    refine wpAny_execs_cons ?_
    refine wpAny_Assign_Name (Subscript_ (n_local H6 (by k_mem) (by exact hmr) (e_slice (part_some (n_local H6 (by k_mem) rfl (part_none (part_none ?_)))))))
    refine slice_seq (f := sv) (ss := rest) H6 (.tail _ (.tail _ (.tail _ (.tail _ (.tail _ (.tail _ (.tail _ (.head _)))))))) (.int _ _) .none (Nat.le_trans (by (exact Nat.le_trans (by assumption) (by decide))) (show 100 ≤ sizeLine by decide)) (fun D6 s7 H7 => ?_) (by with_unfolding_all rfl)
    rw [e2] at H7
    refine s_local (m' := fun _ => none) H7 (.tail (.tail (.tail (.tail (.tail (.tail (.tail .head))))))) fun s8 H8 => ?_
    have H9 := (H8.cut 8 1).front 1
    have H10 := St.sink (pre := [_, _, _, _, _, _, _]) (T := seqC sv ra parts) H9
    have H11 := St.sink (pre := [_, _, _, _, _, _]) (T := []) H10
    have e5 : List.map Value.ref ra ++ [Value.ref D5] = (ra ++ [D5]).map .ref := by simp
    rw [e5, ← seqC_snoc hlen] at H11
    refine wpAny_execs_nil ⟨rfl, (_, D6, rest.drop a.toNat, ra ++ [D5], parts ++ [rest.take a.toNat]), ⟨by exact hml, rfl, by simp [hlen], ?_, ?_, fun i hi => hbnd i (.tail _ hi), ?_⟩, H11⟩
    · dsimp only
      rw [← hcut]
      simp [cutM]
    · dsimp only; rw [List.length_drop]; (exact Nat.le_trans (Nat.sub_le _ _) (by assumption))
    · dsimp only; rw [List.length_append]; simp; lia
  · rintro ⟨m, Dc, rest, ra, parts⟩ s1 ⟨hml, hmr, hlen, hcut, hrest, hbnd, hcnt⟩ H1
    dsimp only at hml hmr hlen hcut hrest hcnt
    refine wpAny_execs_cons ?_
    refine wpAny_Return_some ?_
    refine wpAny_BinOp (n_local H1 (by k_mem) hml ?_)
    refine d_list (B := B) ?_
    refine wpAny_items_cons (n_local H1 (by k_mem) hmr (wpAny_items_nil ⟨_, H1, one_le, fun D7 s2 H2 => ?_⟩))
    refine l_add H2 (.tail _ (.head _)) (.head _) (by rw [List.length_map]; exact Nat.le_trans (by simp at hcnt ⊢; lia) (show 100 ≤ sizeLine by decide)) fun D8 s3 H3 => ?_
    have H4 := (H3.cut 1 3).front 1
    have H5 := St.sink (pre := [_]) (T := seqC sv ra parts) H4
    have e5 : List.map Value.ref ra ++ [Value.ref Dc] = (ra ++ [Dc]).map .ref := by simp
    rw [e5, ← seqC_snoc hlen] at H5
    have e6 : parts ++ [rest] = cutM (downs N) all := hcut
    rw [e6] at H5
    exact h D8 (ra ++ [Dc]) s3 (by rw [← e6]; simp [hlen]) H5
theorem all_ (x : X) : T x := Classical.byContradiction fun hn => Classical.epsilon_spec (p := fun x => ¬ T x) ⟨x, hn⟩ at_
end CuD
section
variable {prog : Program} {w : World} {A : Around} {E : Value → Shared → Prop} {B s : Shared} {cs cs' : List Cel} {Q : Value → Shared → Prop}
theorem spec_cut {n : Int} {N turn : Nat} {tn tt : Tok} {D0 : Addr} {all : List Str} {k : Nat} (hN : N ∈ [3, 4]) (hn : n = N + 1) (Fn : Fns B) (Nm : Names B) (ok : Ok A (k + 3)) (H : St B ((D0, StrsO all) :: cs) s) (hz : all.length ≤ 90) (h : ∀ D ra s', ra.length = (cutM (downs N) all).length → St B ((D, LstO (ra.map .ref)) :: (seqC sv ra (cutM (downs N) all) ++ cs)) s' → Q (.ref D) s') :
    wpAny (model prog w) A (call (.ref 206) [.int n tn, .ref D0, .int turn tt]) Q E s := by
  refine call_fn (binds := [(Str.ofString "n", .int n tn), (Str.ofString "rows", .ref D0), (Str.ofString "turn", .int turn tt)]) Fn.cut (fun _ _ _ => rfl) ok Nm H (fun _ _ _ => BindsTo.of_eq rfl) ?_
  intro L cd s1 E' ok1 H1
  exact CuD.all_ ⟨prog, w, A, E, B, cs, Q, n, N, turn, tn, tt, D0, all, k, L, cd, s1, E'⟩ hN hn Fn Nm ok hz h ok1 H1

end
end Mine
end
section
set_option maxRecDepth 100000
namespace Mine
open PySem PySem.Sre

theorem run_succ (n : Nat) (m : M) : M.runFor (n + 1) m = if m.outcome.isSome then m else M.runFor n m.step := rfl
theorem run_stop {m : M} (h : m.outcome.isSome = true) : ∀ n, M.runFor n m = m
  | 0 => rfl
  | n + 1 => by rw [run_succ, if_pos h]
theorem run_add : ∀ (a b : Nat) (m : M), M.runFor (a + b) m = M.runFor b (M.runFor a m)
  | 0, b, m => by rw [Nat.zero_add]; rfl
  | a + 1, b, m => by
    rw [show a + 1 + b = (a + b) + 1 by (exact Nat.add_right_comm _ _ _), run_succ, run_succ]
    by_cases h : m.outcome.isSome = true
    · rw [if_pos h, if_pos h, run_stop h]
    · rw [if_neg h, if_neg h]; exact run_add a b m.step
theorem run_step {m m' : M} (n : Nat) (h0 : m.outcome = none) (h : m.step = m') : M.runFor (n + 1) m = M.runFor n m' := by
  rw [run_succ, if_neg (by rw [h0]; decide), h]

theorem exec_lit {m : M} {c : Nat} (hop : m.word 0 = 16) (hc : m.word 1 = c) : m.exec = (if m.pos ≥ m.lim then ({ m with seen := m.seen.add 16 } : M).say false else
    if m.text.getD m.pos 0 == c then { m with seen := m.seen.add 16, pc := m.pc + 2, pos := m.pos + 1 } else ({ m with seen := m.seen.add 16 } : M).say false) := by
  have e : m.code.getD m.pc 0 = 16 := hop
  have hops : ops[m.word 0]? = some .LITERAL := by rw [hop]; rfl
  have hops2 : ops[m.code.getD m.pc 0]? = some .LITERAL := hops
  have hc' : m.code.getD (m.pc + 1) 0 = c := hc
  unfold M.exec
  rw [hops]
  simp only [hop]
  split
  · rfl
  · have hacc : accepts m.code m.pc (m.text.getD m.pos 0) (m.seen.add 16) = .ok (m.text.getD m.pos 0 == c, m.seen.add 16) := by
      unfold accepts
      rw [hops2, hc']
    have hw : itemWidth m.code m.pc = 2 := by
      unfold itemWidth
      rw [hops2]
    rw [hacc]
    cases (m.text.getD m.pos 0 == c)
    · rfl
    · simp only [hw]; rfl
theorem step_exec {m : M} (h0 : m.outcome = none) (h1 : m.answer = none) (h2 : m.pc < m.code.size) : m.step = m.exec := by
  unfold M.step
  rw [h0, h1]
  simp only [Option.isSome_none, Bool.false_eq_true, if_false]
  rw [if_pos h2]

noncomputable def code1 : Array Nat := #[14, 4, 0, 1, 1, 6, 1, 16, 46, 1]

noncomputable def at1 (text : Array Nat) (lim last s : Nat) (must first : Bool) (seen : Seen) : M :=
  { code := code1, text, lim, start := s, lastStart := last, mustAdvance := must, pc := 5, pos := s, handed := s, outermost := first, marks := #[], frames := [{ wait := .nextStart, pc := 5, pos := s, outermost := first }], weight := 1, seen }

section
variable (text : Array Nat) (lim last s : Nat) (must first : Bool) (seen : Seen)
noncomputable def bol (text : Array Nat) (s : Nat) : Bool := s == 0 || text.getD (s - 1) 0 == 10
theorem step1_at : (at1 text lim last s must first seen).step = (if bol text s then { at1 text lim last s must first ((seen.add 6).add 44) with pc := 7 } else { at1 text lim last s must first ((seen.add 6).add 44) with answer := some false }) := rfl
theorem step1_lit : ({ at1 text lim last s must first seen with pc := 7 } : M).step = (if s ≥ lim then { at1 text lim last s must first (seen.add 16) with pc := 7, answer := some false } else
    if (text.getD s 0 == 46) = true then { at1 text lim last s must first (seen.add 16) with pc := 9, pos := s + 1 }
    else { at1 text lim last s must first (seen.add 16) with pc := 7, answer := some false }) := by
  rw [step_exec rfl rfl (by show 7 < 10; decide)]
  rw [exec_lit (c := 46) rfl rfl]
  rfl
theorem step1_end : ({ at1 text lim last s must first seen with pc := 9, pos := s + 1 } : M).step = { at1 text lim last s must first (seen.add 1) with pc := 9, pos := s + 1, handed := s + 1, answer := some true } := by
  show (if (first && (false && _ || must && (s + 1 == s))) = true then _ else _) = _
  have : (s + 1 == s) = false := by simp
  rw [if_neg (by rw [this]; simp)]
  rfl
theorem miss1 (p : Nat) (h : s < last) : ({ at1 text lim last s must first seen with pc := p, answer := some false } : M).step = at1 text lim last (s + 1) false false seen := by
  show (if s < last then _ else _) = _
  rw [if_pos h]; rfl
theorem out1 (p : Nat) (h : ¬ s < last) : ∃ m', ({ at1 text lim last s must first seen with pc := p, answer := some false } : M).step = m' ∧ m'.answer = some false ∧ m'.frames = [] ∧ m'.outcome = none := by
  refine ⟨_, rfl, ?_⟩
  show ((if s < last then _ else _ : M)).answer = _ ∧ ((if s < last then _ else _ : M)).frames = _ ∧ ((if s < last then _ else _ : M)).outcome = _
  rw [if_neg h]
  exact ⟨rfl, rfl, rfl⟩
theorem done_no {m : M} (h1 : m.answer = some false) (h2 : m.frames = []) (h3 : m.outcome = none) : m.step.outcome = some .failed := by
  unfold M.step
  rw [h1, h2, h3]; rfl
theorem done_yes {m : M} (h1 : m.answer = some true) (h2 : m.frames = []) (h3 : m.outcome = none) : m.step.outcome = some .matched ∧ m.step.start = m.start ∧ m.step.handed = m.handed := by
  unfold M.step
  rw [h1, h2, h3]; exact ⟨rfl, rfl, rfl⟩

noncomputable def Ends (m : M) (n : Nat) (r : Option (Nat × Nat)) : Prop := match r with
  | none => (M.runFor n m).outcome = some .failed
  | some (a, b) => (M.runFor n m).outcome = some .matched ∧ (M.runFor n m).start = a ∧ (M.runFor n m).handed = b
theorem Ends.add {m : M} {n k : Nat} {r} (h : Ends (M.runFor n m) k r) : Ends m (n + k) r := by
  unfold Ends at h ⊢
  rw [run_add]; exact h
theorem Ends.more {m : M} {n k : Nat} {r} (h : Ends m n r) : Ends m (n + k) r := by
  unfold Ends at h ⊢
  cases r with
  | none => rw [run_add, run_stop (by rw [h]; rfl)]; exact h
  | some p => obtain ⟨h1, h2, h3⟩ := h; rw [run_add, run_stop (by rw [h1]; rfl)]; exact ⟨h1, h2, h3⟩
theorem Ends.le {m : M} {n k : Nat} {r} (h : Ends m n r) (hk : n ≤ k) : Ends m k r := by
  have := h.more (k := k - n)
  rwa [show n + (k - n) = k by lia] at this

theorem hit1 (h1 : bol text s = true) (h2 : s < lim) (h3 : text.getD s 0 = 46) : Ends (at1 text lim last s must first seen) 5 (some (s, s + 1)) := by
  show (M.runFor (4 + 1) _).outcome = _ ∧ (M.runFor (4 + 1) _).start = _ ∧ (M.runFor (4 + 1) _).handed = _
  rw [run_step 4 rfl (step1_at ..), if_pos h1, run_step 3 rfl (step1_lit ..), if_neg (by (exact Nat.not_le_of_lt (by assumption))), h3]
  rw [if_pos (by decide)]
  rw [run_step 2 rfl (step1_end ..)]
  rw [run_step 1 rfl rfl]
  rw [run_step 0 rfl rfl]
  exact ⟨rfl, rfl, rfl⟩
theorem step_miss1 (h : bol text s = false ∨ s ≥ lim ∨ text.getD s 0 ≠ 46) : ∃ k p seen', k ≤ 2 ∧ M.runFor k (at1 text lim last s must first seen) = { at1 text lim last s must first seen' with pc := p, answer := some false } := by
  by_cases h1 : bol text s = true
  · refine ⟨2, 7, (((seen.add 6).add 44).add 16), Nat.le_refl _, ?_⟩
    show M.runFor (1 + 1) _ = _
    rw [run_step 1 rfl (step1_at ..), if_pos h1, run_step 0 rfl (step1_lit ..)]
    by_cases h2 : s ≥ lim
    · rw [if_pos h2]; rfl
    · rw [if_neg h2]
      have h3 : (text.getD s 0 == 46) = false := by
        rcases h with h | h | h
        · rw [h1] at h; cases h
        · exact absurd h h2
        · simpa using h
      rw [h3, if_neg (by decide)]; rfl
  · refine ⟨1, 5, ((seen.add 6).add 44), by (exact Nat.succ_pos _), ?_⟩
    show M.runFor (0 + 1) _ = _
    rw [run_step 0 rfl (step1_at ..), if_neg h1]; rfl

noncomputable def is1 (text : Array Nat) (lim s : Nat) : Bool := bol text s && decide (s < lim) && text.getD s 0 == 46
noncomputable def find1 (text : Array Nat) (lim last : Nat) : Nat → Nat → Option (Nat × Nat)
  | 0, s => if is1 text lim s then some (s, s + 1) else none
  | k + 1, s => if is1 text lim s then some (s, s + 1) else find1 text lim last k (s + 1)
theorem is1_no (h : is1 text lim s = false) : bol text s = false ∨ s ≥ lim ∨ text.getD s 0 ≠ 46 := by
  unfold is1 at h
  by_cases h1 : bol text s = true
  · by_cases h2 : s < lim
    · rw [h1, decide_eq_true h2] at h; exact .inr (.inr (by simpa using h))
    · exact .inr (.inl (by (exact Nat.le_of_not_lt (by assumption))))
  · exact .inl (by simpa using h1)
theorem is1_yes (h : is1 text lim s = true) : bol text s = true ∧ s < lim ∧ text.getD s 0 = 46 := by
  unfold is1 at h
  simp only [Bool.and_eq_true, decide_eq_true_eq, beq_iff_eq] at h
  exact ⟨h.1.1, h.1.2, h.2⟩
theorem ends1 : ∀ (k s : Nat) (must first : Bool) (seen : Seen), s + k = last → Ends (at1 text lim last s must first seen) (5 * (k + 1)) (find1 text lim last k s)
  | 0, s, must, first, seen, hk => by
    unfold find1
    by_cases h : is1 text lim s = true
    · rw [if_pos h]
      obtain ⟨a, b, c⟩ := is1_yes _ _ _ h
      exact hit1 text lim last s must first seen a b c
    · rw [if_neg h]
      obtain ⟨k, p, seen', hk2, e⟩ := step_miss1 text lim last s must first seen (is1_no _ _ _ (by simpa using h))
      have : Ends (M.runFor k (at1 text lim last s must first seen)) 2 none := by
        rw [e]
        obtain ⟨m', e1, a1, a2, a3⟩ := out1 text lim last s must first seen' p (by lia)
        show (M.runFor (1 + 1) _).outcome = _
        rw [run_step 1 rfl e1, run_step 0 a3 rfl]
        exact done_no a1 a2 a3
      exact (this.add).le (by lia)
  | k + 1, s, must, first, seen, hk => by
    unfold find1
    by_cases h : is1 text lim s = true
    · rw [if_pos h]
      obtain ⟨a, b, c⟩ := is1_yes _ _ _ h
      exact (hit1 text lim last s must first seen a b c).le (by (exact Nat.le_add_left _ _))
    · rw [if_neg h]
      obtain ⟨j, p, seen', hj2, e⟩ := step_miss1 text lim last s must first seen (is1_no _ _ _ (by simpa using h))
      have : Ends (M.runFor j (at1 text lim last s must first seen)) (1 + 5 * (k + 1)) (find1 text lim last k (s + 1)) := by
        rw [e]
        refine Ends.add ?_
        show Ends (M.runFor (0 + 1) _) _ _
        rw [run_step 0 rfl (miss1 text lim last s must first seen' p (by lia))]
        exact ends1 k (s + 1) false false seen' (by lia)
      exact (this.add).le (by (clear this; lia))
end

theorem search1 (text : Array Nat) (start : Nat) (must : Bool) : ∃ n, n ≤ 5 * text.size + 10 ∧ Ends (forSearch code1 text 0 start text.size must) n (if start < text.size then find1 text text.size text.size (text.size - start) start else none) := by
  by_cases h : start < text.size
  · rw [if_pos h]
    have e : forSearch code1 text 0 start text.size must = at1 text text.size text.size start must true (({} : Seen).add 14) := by
      show (if (start > text.size || decide (text.size - start < 1)) = true then _ else _) = _
      rw [if_neg (by simp; lia)]
      rfl
    rw [e]
    exact ⟨_, by (clear h; lia), ends1 text text.size text.size (text.size - start) start must true _ (by lia)⟩
  · rw [if_neg h]
    refine ⟨1, by (exact Nat.succ_pos _), ?_⟩
    have e : ∃ m, forSearch code1 text 0 start text.size must = m ∧ m.answer = some false ∧ m.frames = [] ∧ m.outcome = none := by
      refine ⟨_, rfl, ?_⟩
      have e2 : forSearch code1 text 0 start text.size must = if (start > text.size || decide (text.size - start < 1)) = true then _ else _ := rfl
      rw [e2, if_pos (by simp; lia)]
      exact ⟨rfl, rfl, rfl⟩
    obtain ⟨m, e, a1, a2, a3⟩ := e
    rw [e]
    show (M.runFor (0 + 1) _).outcome = _
    rw [run_step 0 a3 rfl]
    exact done_no a1 a2 a3
end Mine
end
section
set_option maxRecDepth 100000
namespace Mine
open PySem PySem.Sre

noncomputable def code2 : Array Nat := #[14, 9, 4, 1, 2, 16, 10, 16, 13, 0, 7, 7, 16, 13, 16, 10, 15, 18, 5, 16, 10, 15, 13, 11, 16, 13, 5, 5, 0, 16, 10, 1, 15, 2, 0, 1]

section
variable (text : Array Nat) (lim last s : Nat)
noncomputable def S2 (pc pos hd : Nat) (om : Bool) (fr : List Sre.Frame) (wt : Nat) (ans : Option Bool) (seen : Seen) : M :=
  { code := code2, text, lim, start := s, lastStart := last, mustAdvance := false, pc, pos, handed := hd, outermost := om, marks := #[], frames := fr, weight := wt, answer := ans, seen }
noncomputable abbrev K0 : Sre.Kept := { lastmark := -1, lastindex := -1, whole := false, marks := #[] }
noncomputable abbrev F0 (s : Nat) (om : Bool) : Sre.Frame := { wait := .nextStart, pc := 10, pos := s, outermost := om }
noncomputable abbrev FB (s k : Nat) (om : Bool) : Sre.Frame := { wait := .nextBranch, pc := k, pos := s, outermost := om, kept := K0 }
noncomputable abbrev FL (p : Nat) (om : Bool) : Sre.Frame := { wait := .lookNot, pc := 26, pos := p, outermost := om, kept := K0 }

theorem s2_branch (hd : Nat) (om : Bool) (seen : Seen) : (S2 text lim last s 10 s hd om [F0 s om] 1 none seen).step = S2 text lim last s 12 s s om [FB s 11 om, F0 s om] 2 none (seen.add 7) := rfl
theorem s2_next1 (pc pos hd : Nat) (om om2 : Bool) (seen : Seen) : (S2 text lim last s pc pos hd om2 [FB s 11 om, F0 s om] 2 (some false) seen).step = S2 text lim last s 19 s s om [FB s 18 om, F0 s om] 2 none seen := rfl
theorem s2_next2 (pc pos hd : Nat) (om om2 : Bool) (seen : Seen) : (S2 text lim last s pc pos hd om2 [FB s 18 om, F0 s om] 2 (some false) seen).step = S2 text lim last s 24 s s om [FB s 23 om, F0 s om] 2 none seen := rfl
theorem s2_yes (k pc pos hd : Nat) (om om2 : Bool) (seen : Seen) : (S2 text lim last s pc pos hd om2 [FB s k om, F0 s om] 2 (some true) seen).step = S2 text lim last s k s hd om [F0 s om] 1 (some true) seen := rfl
theorem s2_yes0 (pc pos hd : Nat) (om om2 : Bool) (seen : Seen) : (S2 text lim last s pc pos hd om2 [F0 s om] 1 (some true) seen).step = S2 text lim last s 10 s hd om [] 0 (some true) seen := rfl
theorem s2_jump1 (pos hd : Nat) (om : Bool) (fr : List Sre.Frame) (wt : Nat) (seen : Seen) : (S2 text lim last s 16 pos hd om fr wt none seen).step = S2 text lim last s 35 pos hd om fr wt none (seen.add 15) := rfl
theorem s2_jump2 (pos hd : Nat) (om : Bool) (fr : List Sre.Frame) (wt : Nat) (seen : Seen) : (S2 text lim last s 21 pos hd om fr wt none seen).step = S2 text lim last s 35 pos hd om fr wt none (seen.add 15) := rfl
theorem s2_jump3 (pos hd : Nat) (om : Bool) (fr : List Sre.Frame) (wt : Nat) (seen : Seen) : (S2 text lim last s 32 pos hd om fr wt none seen).step = S2 text lim last s 35 pos hd om fr wt none (seen.add 15) := rfl
theorem s2_succ (pos hd : Nat) (om : Bool) (fr : List Sre.Frame) (wt : Nat) (seen : Seen) : (S2 text lim last s 35 pos hd om fr wt none seen).step = S2 text lim last s 35 pos pos om fr wt (some true) (seen.add 1) := by
  show (if (om && (false && _ || false && _)) = true then _ else _) = _
  rw [if_neg (by simp)]; rfl
theorem s2_succ2 (pos hd : Nat) (om : Bool) (fr : List Sre.Frame) (wt : Nat) (seen : Seen) : (S2 text lim last s 31 pos hd om fr wt none seen).step = S2 text lim last s 31 pos pos om fr wt (some true) (seen.add 1) := by
  show (if (om && (false && _ || false && _)) = true then _ else _) = _
  rw [if_neg (by simp)]; rfl
theorem s2_assert (p hd : Nat) (om : Bool) (seen : Seen) : (S2 text lim last s 26 p hd om [FB s 23 om, F0 s om] 2 none seen).step = S2 text lim last s 29 p p false [FL p om, FB s 23 om, F0 s om] 3 none (seen.add 5) := rfl
theorem s2_look (pc pos p hd : Nat) (om om2 : Bool) (seen : Seen) : (S2 text lim last s pc pos hd om2 [FL p om, FB s 23 om, F0 s om] 3 (some false) seen).step = S2 text lim last s 32 p hd om [FB s 23 om, F0 s om] 2 none seen := rfl

theorem s2_lit {pc c : Nat} (pos hd : Nat) (om : Bool) (fr : List Sre.Frame) (wt : Nat) (seen : Seen) (h1 : code2.getD pc 0 = 16) (h2 : code2.getD (pc + 1) 0 = c) (h3 : pc < 36) :
    (S2 text lim last s pc pos hd om fr wt none seen).step = if pos ≥ lim then S2 text lim last s pc pos hd om fr wt (some false) (seen.add 16) else if (text.getD pos 0 == c) = true then S2 text lim last s (pc + 2) (pos + 1) hd om fr wt none (seen.add 16) else S2 text lim last s pc pos hd om fr wt (some false) (seen.add 16) := by
  have w0 : (S2 text lim last s pc pos hd om fr wt none seen).word 0 = 16 := h1
  have w1 : (S2 text lim last s pc pos hd om fr wt none seen).word 1 = c := h2
  rw [step_exec rfl rfl (by show pc < 36; exact h3), exec_lit (c := c) w0 w1]
  rfl

noncomputable def len2 (text : Array Nat) (lim s : Nat) : Nat := if text.getD s 0 = 13 ∧ s + 1 < lim ∧ text.getD (s + 1) 0 = 10 then 2 else 1
noncomputable def is2 (text : Array Nat) (s : Nat) : Bool := text.getD s 0 == 10 || text.getD s 0 == 13

theorem fin2 (hd pc pos k : Nat) (om om2 : Bool) (seen : Seen) : Ends (S2 text lim last s pc pos hd om2 [FB s k om, F0 s om] 2 (some true) seen) 3 (some (s, hd)) := by
  show (M.runFor (2 + 1) _).outcome = _ ∧ (M.runFor (2 + 1) _).start = _ ∧ (M.runFor (2 + 1) _).handed = _
  rw [run_step 2 rfl (s2_yes ..), run_step 1 rfl (s2_yes0 ..), run_step 0 rfl rfl]
  exact ⟨rfl, rfl, rfl⟩
theorem ends_step {m m' : M} {n : Nat} {r} (h0 : m.outcome = none) (h : m.step = m') (e : Ends m' n r) : Ends m (n + 1) r := by
  unfold Ends at e ⊢
  rw [run_step n h0 h]; exact e

theorem hit2 (hd : Nat) (om : Bool) (seen : Seen) (h1 : s < lim) (h2 : is2 text s = true) : Ends (S2 text lim last s 10 s hd om [F0 s om] 1 none seen) 20 (some (s, s + len2 text lim s)) := by
  refine Ends.le (n := 15) ?_ (by (exact Nat.le_add_left _ _))
  refine ends_step rfl (s2_branch ..) ?_
  refine ends_step (n := 13) rfl (s2_lit (c := 13) text lim last s s s om _ 2 _ rfl rfl (by decide)) ?_
  rw [if_neg (by (exact Nat.not_le_of_lt (by assumption)))]
  by_cases h13 : text.getD s 0 = 13
  · rw [if_pos (by rw [h13]; rfl)]
    by_cases hb : s + 1 < lim ∧ text.getD (s + 1) 0 = 10
    · have e : len2 text lim s = 2 := by unfold len2; rw [if_pos ⟨h13, hb⟩]
      rw [e]
      refine Ends.le (n := 6) ?_ (by (exact Nat.le_add_left _ _))
      refine ends_step rfl (s2_lit (c := 10) text lim last s (s + 1) s om _ 2 _ rfl rfl (by decide)) ?_
      rw [if_neg (by (clear h13 e; omega)), if_pos (by rw [hb.2]; rfl)]
      refine ends_step rfl (s2_jump1 ..) ?_
      refine ends_step rfl (s2_succ ..) ?_
      exact fin2 ..
    · have e : len2 text lim s = 1 := by unfold len2; rw [if_neg fun h => hb h.2]
      rw [e]
      have hf : ∀ (pos : Nat), pos = s + 1 → ∀ {pc : Nat} (hd : Nat) (om : Bool) (fr : List Sre.Frame) (wt : Nat) (seen : Seen) (h1 : code2.getD pc 0 = 16) (h2 : code2.getD (pc + 1) 0 = 10) (h3 : pc < 36), (S2 text lim last s pc pos hd om fr wt none seen).step = S2 text lim last s pc pos hd om fr wt (some false) (seen.add 16) := by
        intro pos hp pc hd om fr wt seen a b c
        rw [s2_lit text lim last s pos hd om fr wt seen a b c]
        by_cases q : pos ≥ lim
        · rw [if_pos q]
        · rw [if_neg q, if_neg]
          intro q2
          exact hb ⟨by (clear h1; lia), by rw [← hp]; exact eq_of_beq q2⟩
      refine ends_step (n := 12) rfl (hf (s + 1) rfl _ _ _ _ _ rfl rfl (by decide)) ?_
      refine ends_step (n := 11) rfl (s2_next1 ..) ?_
      refine ends_step (n := 10) rfl (s2_lit (c := 10) text lim last s s s om _ 2 _ rfl rfl (by decide)) ?_
      rw [if_neg (by (exact Nat.not_le_of_lt (by assumption))), if_neg (by rw [h13]; decide)]
      refine ends_step (n := 9) rfl (s2_next2 ..) ?_
      refine ends_step (n := 8) rfl (s2_lit (c := 13) text lim last s s s om _ 2 _ rfl rfl (by decide)) ?_
      rw [if_neg (by (exact Nat.not_le_of_lt (by assumption))), if_pos (by rw [h13]; rfl)]
      refine ends_step (n := 7) rfl (s2_assert ..) ?_
      refine ends_step (n := 6) rfl (hf (s + 1) rfl _ _ _ _ _ rfl rfl (by decide)) ?_
      refine ends_step (n := 5) rfl (s2_look ..) ?_
      refine ends_step (n := 4) rfl (s2_jump3 ..) ?_
      refine ends_step (n := 3) rfl (s2_succ ..) ?_
      exact fin2 ..
  · have h10 : text.getD s 0 = 10 := by
      unfold is2 at h2
      simp only [Bool.or_eq_true, beq_iff_eq] at h2
      rcases h2 with h | h
      · exact h
      · exact absurd h h13
    have e : len2 text lim s = 1 := by unfold len2; rw [if_neg fun h => h13 h.1]
    rw [e, if_neg (by rw [h10]; decide)]
    refine Ends.le (n := 7) ?_ (by (exact Nat.le_add_left _ _))
    refine ends_step rfl (s2_next1 ..) ?_
    refine ends_step rfl (s2_lit (c := 10) text lim last s s s om _ 2 _ rfl rfl (by decide)) ?_
    rw [if_neg (by (exact Nat.not_le_of_lt (by assumption))), if_pos (by rw [h10]; rfl)]
    refine ends_step rfl (s2_jump2 ..) ?_
    refine ends_step rfl (s2_succ ..) ?_
    exact fin2 ..
end

noncomputable def find2 (text : Array Nat) (lim : Nat) : Nat → Nat → Option Nat
  | 0, _ => none
  | k + 1, s => if s ≥ lim then none else if is2 text s then some s else find2 text lim k (s + 1)

theorem inSet2 (c : Nat) (seen : Seen) : ∃ seen', inSet code2 c code2.size 5 true seen = .ok (c == 10 || c == 13, seen') := by
  have e : inSet code2 c code2.size 5 true seen = (if (c == 10) = true then .ok (true, seen.add 16) else if (c == 13) = true then .ok (true, (seen.add 16).add 16) else .ok (!true, ((seen.add 16).add 16).add 0)) := rfl
  rw [e]
  by_cases h1 : (c == 10) = true
  · exact ⟨_, by rw [if_pos h1, h1]; rfl⟩
  · rw [if_neg h1]
    by_cases h2 : (c == 13) = true
    · exact ⟨_, by rw [if_pos h2, h2, Bool.or_true]⟩
    · exact ⟨_, by rw [if_neg h2, Bool.eq_false_iff.mpr h1, Bool.eq_false_iff.mpr h2]; rfl⟩

theorem admitted2 {m : M} {text : Array Nat} {lim : Nat} (h1 : m.code = code2) (h2 : m.text = text) (h3 : m.lim = lim) : ∀ (k s : Nat) (seen : Seen), ∃ seen', M.admitted m k s seen = .ok (find2 text lim k s, seen')
  | 0, s, seen => ⟨seen, rfl⟩
  | k + 1, s, seen => by
    unfold M.admitted find2
    rw [h1, h2, h3]
    by_cases h : s ≥ lim
    · rw [if_pos h, if_pos h]; exact ⟨_, rfl⟩
    · rw [if_neg h, if_neg h]
      obtain ⟨seen', e⟩ := inSet2 (text.getD s 0) seen
      rw [e]
      unfold is2
      cases hb : (text.getD s 0 == 10 || text.getD s 0 == 13) with
      | true => exact ⟨_, rfl⟩
      | false =>
        obtain ⟨s2, e2⟩ := admitted2 h1 h2 h3 k (s + 1) seen'
        exact ⟨s2, by simpa using e2⟩
theorem find2_lt {text : Array Nat} {lim : Nat} : ∀ {k s a : Nat}, find2 text lim k s = some a → a < lim ∧ is2 text a = true ∧ s ≤ a ∧ ∀ i, s ≤ i → i < a → is2 text i = false
  | 0, _, _, h => by cases h
  | k + 1, s, a, h => by
    unfold find2 at h
    by_cases h1 : s ≥ lim
    · rw [if_pos h1] at h; cases h
    · rw [if_neg h1] at h
      by_cases h2 : is2 text s = true
      · rw [if_pos h2] at h; cases h; exact ⟨by (exact Nat.lt_of_not_le (by assumption)), h2, Nat.le_refl _, fun i h3 h4 => by lia⟩
      · rw [if_neg h2] at h
        obtain ⟨x, y, z, u⟩ := find2_lt h
        refine ⟨x, y, by (exact Nat.le_of_lt (by assumption)), fun i h3 h4 => ?_⟩
        by_cases e : i = s
        · subst e; simpa using h2
        · exact u i (by lia) h4
theorem find2_none {text : Array Nat} {lim : Nat} : ∀ {k s : Nat}, lim ≤ s + k → find2 text lim k s = none → ∀ i, s ≤ i → i < lim → is2 text i = false
  | 0, s, hk, _, i, h1, h2 => by lia
  | k + 1, s, hk, h, i, h1, h2 => by
    unfold find2 at h
    rw [if_neg (by lia)] at h
    by_cases h3 : is2 text s = true
    · rw [if_pos h3] at h; cases h
    · rw [if_neg h3] at h
      by_cases e : i = s
      · subst e; simpa using h3
      · exact find2_none (by lia) h i (by lia) h2

theorem ends_no {m : M} (h1 : m.answer = some false) (h2 : m.frames = []) (h3 : m.outcome = none) : Ends m 1 none := by
  show (M.runFor (0 + 1) _).outcome = _
  rw [run_step 0 h3 rfl]
  exact done_no h1 h2 h3
theorem search2 (text : Array Nat) (start : Nat) (must : Bool) : Ends (forSearch code2 text 0 start text.size must) 20 ((find2 text text.size (text.size + 1 - start) start).map fun a => (a, a + len2 text text.size a)) := by
  by_cases h : start < text.size
  · obtain ⟨m, e, h1, h2, h3, h4⟩ : ∃ m : M, forSearch code2 text 0 start text.size must = (match M.admitted m (m.lim + 1 - start) start m.seen with
        | .ok (some s, seen) => S2 text text.size text.size s 10 s s true [F0 s true] 1 none seen
        | .ok (none, seen) => ({ m with seen } : M).say false
        | .error why => m.stick why) ∧ m.code = code2 ∧ m.text = text ∧ m.lim = text.size ∧ m.frames = [] ∧ m.outcome = none := by
      refine ⟨{ code := code2, text, lim := text.size, start := start, pc := 10, pos := start, handed := start, marks := #[], mustAdvance := must, seen := ({} : Seen).add 14, lastStart := text.size }, ?_, rfl, rfl, rfl, rfl, rfl⟩
      show (if (start > text.size || decide (text.size - start < 1)) = true then _ else _) = _
      rw [if_neg (by simp; lia)]
      rfl
    obtain ⟨seen', e2⟩ := admitted2 h1 h2 h3 (m.lim + 1 - start) start m.seen
    rw [e, e2, show m.lim + 1 - start = text.size + 1 - start from by rw [h3]]
    cases hf : find2 text text.size (text.size + 1 - start) start with
    | none =>
      show (M.runFor 20 (({ m with seen := seen' } : M).say false)).outcome = some .failed
      exact (ends_no (m := ({ m with seen := seen' } : M).say false) rfl h4.1 h4.2).le (by (exact Nat.succ_pos _))
    | some a =>
      obtain ⟨x, y, _, _⟩ := find2_lt hf
      exact hit2 text text.size text.size a a true seen' x y
  · have hf : find2 text text.size (text.size + 1 - start) start = none := by
      cases hk : text.size + 1 - start with
      | zero => rfl
      | succ k => unfold find2; rw [if_pos (by (exact Nat.le_of_not_lt (by assumption)))]
    rw [hf]
    have e : ∃ m, forSearch code2 text 0 start text.size must = m ∧ m.answer = some false ∧ m.frames = [] ∧ m.outcome = none := by
      refine ⟨_, rfl, ?_⟩
      have e2 : forSearch code2 text 0 start text.size must = if (start > text.size || decide (text.size - start < 1)) = true then _ else _ := rfl
      rw [e2, if_pos (by simp; lia)]
      exact ⟨rfl, rfl, rfl⟩
    obtain ⟨m, e, a1, a2, a3⟩ := e
    rw [e]
    have : Ends m 1 none := by
      show (M.runFor (0 + 1) _).outcome = _
      rw [run_step 0 a3 rfl]
      exact done_no a1 a2 a3
    exact this.le (by (exact Nat.succ_pos _))
end Mine
end
section
set_option maxRecDepth 100000
set_option maxHeartbeats 1000000
namespace Mine
open PySem PySem.Sre PySem.Calls PyProof.Rows PySem.W PySem.Builtin.Re PySem.Builtin

section
variable {prog : Program} {w : World} {A : Around} {E : Value → Shared → Prop} {B s : Shared} {cs cs' : List Cel}

theorem drive_of {Q : M → Shared → Prop} : ∀ (turns : Nat) (m : M) (n : Nat), 0 < turns → n ≤ 4 * turns → (M.runFor n m).outcome.isSome = true → Q (M.runFor n m) s → wpAny (model prog w) A (reDrive turns m) Q E s
  | 0, _, _, h, _, _, _ => absurd h (by decide)
  | turns + 1, m, n, _, hn, ho, hq => by
    unfold reDrive
    show wpAny (model prog w) A (if (M.runFor 4 m).outcome.isSome = true then pure (M.runFor 4 m) else do rule "sre.turn"; reDrive turns (M.runFor 4 m)) Q E s
    by_cases h4 : n ≤ 4
    · have e : M.runFor 4 m = M.runFor n m := by
        rw [show 4 = n + (4 - n) by omega +splitNatSub, run_add, run_stop ho]
      rw [e, if_pos ho]
      exact wpAny_pure hq
    · by_cases h5 : (M.runFor 4 m).outcome.isSome = true
      · rw [if_pos h5]
        have e : M.runFor n m = M.runFor 4 m := by
          rw [show n = 4 + (n - 4) by lia, run_add, run_stop h5]
        rw [e] at hq
        exact wpAny_pure hq
      · rw [if_neg h5]
        have e : M.runFor n m = M.runFor (n - 4) (M.runFor 4 m) := by
          rw [← run_add]; congr 1; lia
        rw [e] at ho hq
        exact wpAny_bind (wpAny_rule (drive_of turns _ (n - 4) (by lia) (by (exact Nat.sub_le_of_le_add (by assumption))) ho hq))

theorem rules_of {c : Nat → Bool} {f : Nat → String} {Q : PUnit → Shared → Prop} : ∀ (l : List Nat), Q ⟨⟩ s → wpAny (model prog w) A (forIn l PUnit.unit fun i _ => if c i = true then (do rule (f i); pure (ForInStep.yield PUnit.unit)) else pure (ForInStep.yield PUnit.unit)) Q E s
  | [], h => by rw [List.forIn_nil]; exact wpAny_pure h
  | i :: l, h => by
    rw [List.forIn_cons]
    refine wpAny_bind ?_
    by_cases hc : c i = true
    · rw [if_pos hc]
      exact wpAny_bind (wpAny_rule (wpAny_pure (rules_of l h)))
    · rw [if_neg hc]
      exact wpAny_pure (rules_of l h)

theorem runEnd {m : M} {n : Nat} {r : Option (Nat × Nat)} {Q : Option M → Shared → Prop} (h : Ends m n r) (hn : n ≤ 2 ^ 60)
    (hq : match r with | none => Q none s | some (a, b) => ∀ m', m'.start = a → m'.handed = b → Q (some m') s) : wpAny (model prog w) A (reRunToEnd m) Q E s := by
  unfold reRunToEnd
  have ho : (M.runFor n m).outcome.isSome = true := by
    unfold Ends at h
    cases r with
    | none => rw [h]; rfl
    | some p => obtain ⟨h1, _⟩ := h; rw [h1]; rfl
  refine wpAny_bind (drive_of _ m n (by decide) (Nat.le_trans hn (by decide)) ho ?_)
  refine wpAny_bind ?_
  refine rules_of _ ?_
  unfold Ends at h
  cases r with
  | none => rw [h]; exact wpAny_pure hq
  | some p => obtain ⟨a, b⟩ := p; obtain ⟨h1, h2, h3⟩ := h; rw [h1]; exact wpAny_pure (hq _ h2 h3)

structure PatAt (B : Shared) (pat : Addr) (code : Array Nat) : Prop where
  at_ : ∃ o p fl dc x cd t1 t2 t3 n arr, B.heap.get? pat = some o ∧ o.cls = .type "re.Pattern" ∧ o.dict = none ∧ o.data = .fields #[p, .int fl t1, .int 0 t2, dc, x, .ref cd, .int 0 t3] ∧
    (∃ oc, B.heap.get? cd = some oc ∧ oc.data = .seq arr n) ∧ arr.map (fun v => (reRawOf v).toNat) = code

theorem wholeTarget {pat : Addr} {code : Array Nat} {x : Str} {t : Tok} {Q : ReTarget → Shared → Prop} (P : PatAt B pat code) (H : St B cs s) 
    (h : Q { pattern := .ref pat, string := .str x t, code, text := x.cps, kind := 0, groups := 0, pos := 0, lim := x.cps.size } s) : wpAny (model prog w) A (reWholeTarget (.ref pat) (.str x t)) Q E s := by
  obtain ⟨o, p, fl, dc, x5, cd, t1, t2, t3, n, arr, ho, hc, hdc, hd, ⟨oc, hoc, hdd⟩, hcode⟩ := P.at_
  unfold reWholeTarget
  refine wpAny_bind (wpAny_fieldsOf (H.keep _ _ ho) hd ?_)
  refine wpAny_bind ?_
  unfold reTextOf
  refine wpAny_bind (wpAny_pure ?_)
  refine wpAny_pure ?_
  show wpAny _ _ (do reNoCollectionInside (.str x t) 0; let l ← reRawItems (.ref cd); pure ({ pattern := .ref pat, string := .str x t, code := l.map (·.toNat), text := x.cps, kind := 0, groups := 0, pos := 0, lim := x.cps.size } : ReTarget)) Q E s
  refine wpAny_bind (wpAny_pure ?_)
  refine wpAny_bind ?_
  unfold reRawItems
  refine wpAny_bind (wpAny_seqItems (H.keep _ _ hoc) hdd (wpAny_pure (wpAny_pure ?_)))
  have e : ((((some arr).getD #[]).map reRawOf).map (fun i => i.toNat)) = code := by
    rw [← hcode]; simp
  rw [e]
  exact h

theorem strsAre_of : ∀ {vs : List Value} {ks : List Str}, vs.map sv = ks.map some → StrsAre vs ks
  | [], [], _ => .nil
  | v :: vs, k :: ks, h => by
    simp only [List.map_cons, List.cons.injEq] at h
    obtain ⟨t, rfl⟩ := sv_str h.1
    exact .cons k t (strsAre_of h.2)
  | [], _ :: _, h => by simp at h
  | _ :: _, [], h => by simp at h
theorem join_flat : ∀ ys : List Str, Txt.join ⟨#[]⟩ ys = ⟨(ys.flatMap (·.cps.toList)).toArray⟩ := by
  have key : ∀ ys : List Str, Str.join ⟨#[]⟩ ys = ⟨(ys.flatMap (·.cps.toList)).toArray⟩ := by
    intro ys
    induction ys with
    | nil => rfl
    | cons y r ih =>
      rw [join_nil_cons, ih, List.flatMap_cons]
      show Str.mk _ = Str.mk _
      congr 1
      apply Array.ext'; simp
  intro ys
  rw [← key ys]
  exact eq_of_beq (join_closes rfl)
theorem ex00 (a : Array Nat) : a.extract 0 0 = #[] := by simp

end
namespace SuD
noncomputable abbrev Xq := (Program) × (World) × (Around) × (Shared) × (Shared) × (List Cel) × (Addr) × (Array Nat) × (Str) × (Str) × (Tok) × (Tok) × (Addr) × (Result → Shared → Prop)
noncomputable def Sq (prog : Program) (w : World) (A : Around) (B : Shared) (s : Shared) (cs : List Cel) (pat : Addr) (code : Array Nat) (x : Str) (rp : Str) (t : Tok) (tr : Tok) (Pl : Addr) (Q : Result → Shared → Prop) : Prop :=
  ∀ (P : PatAt B pat code) (srch : Nat → Option (Nat × Nat)) (R : Nat → List Nat) (hsr : ∀ st must, ∃ n, n ≤ 2 ^ 60 ∧ Ends (forSearch code x.cps 0 st x.cps.size must) n (srch st)) (hnone : ∀ st, srch st = none → st ≤ x.cps.size → R st = x.cps.toList.drop st) (hsome : ∀ st a b, srch st = some (a, b) → st ≤ a ∧ a < b ∧ b ≤ x.cps.size ∧ R st = (x.cps.toList.drop st).take (a - st) ++ rp.cps.toList ++ R b) (hz : x.cps.size ≤ 20000) (hrp : rp.cps.size ≤ 100),
    ∀ (k st : Nat) (n : Int) (must : Bool) (parts : List Str) (s : Shared), st ≤ x.cps.size → x.cps.size ≤ st + k → parts.length ≤ 2 * st → (parts.map (·.length)).sum ≤ 101 * st → St B ((Pl, StrsO parts) :: cs) s →
      (∀ t s', St B cs s' → Q (.ok (.ret (.str ⟨((parts.flatMap (·.cps.toList)) ++ R st).toArray⟩ t))) s') →
      codeAny (model prog w) A (.builtin "re.Pattern.sub.loop" ⟨[.ref pat, .str x t, .str rp tr, rawInt 0, rawInt 0, rawInt n, rawInt st, rawInt st, .bool must, .ref Pl, .bool false], []⟩) Q s
noncomputable def Tq (x : Xq) : Prop := Sq x.1 x.2.1 x.2.2.1 x.2.2.2.1 x.2.2.2.2.1 x.2.2.2.2.2.1 x.2.2.2.2.2.2.1 x.2.2.2.2.2.2.2.1 x.2.2.2.2.2.2.2.2.1 x.2.2.2.2.2.2.2.2.2.1 x.2.2.2.2.2.2.2.2.2.2.1 x.2.2.2.2.2.2.2.2.2.2.2.1 x.2.2.2.2.2.2.2.2.2.2.2.2.1 x.2.2.2.2.2.2.2.2.2.2.2.2.2
noncomputable def xq : Xq := @Classical.epsilon Xq ⟨⟨default, dumW, {}, dumS, dumS, [], 0, #[], default, default, default, default, 0, fun _ _ => True⟩⟩ fun x => ¬ Tq x
noncomputable def prog : Program := xq.1
noncomputable def w : World := xq.2.1
noncomputable def A : Around := xq.2.2.1
noncomputable def B : Shared := xq.2.2.2.1
noncomputable def s : Shared := xq.2.2.2.2.1
noncomputable def cs : List Cel := xq.2.2.2.2.2.1
noncomputable def pat : Addr := xq.2.2.2.2.2.2.1
noncomputable def code : Array Nat := xq.2.2.2.2.2.2.2.1
noncomputable def x : Str := xq.2.2.2.2.2.2.2.2.1
noncomputable def rp : Str := xq.2.2.2.2.2.2.2.2.2.1
noncomputable def t : Tok := xq.2.2.2.2.2.2.2.2.2.2.1
noncomputable def tr : Tok := xq.2.2.2.2.2.2.2.2.2.2.2.1
noncomputable def Pl : Addr := xq.2.2.2.2.2.2.2.2.2.2.2.2.1
noncomputable def Q : Result → Shared → Prop := xq.2.2.2.2.2.2.2.2.2.2.2.2.2
theorem at_ : Sq prog w A B s cs pat code x rp t tr Pl Q := by
  intro P srch R hsr hnone hsome hz hrp
  have big : 100000 ≤ sizeLine := by decide
  have hxl : x.cps.toList.length = x.cps.size := by simp
  have pushS : ∀ (parts : List Str) (y : Str) (ty : Tok) (A : Around) (E : Value → Shared → Prop) (QQ : Unit → Shared → Prop) (s : Shared), parts.length ≤ 50000 → St B ((Pl, StrsO parts) :: cs) s → (∀ s', St B ((Pl, StrsO (parts ++ [y])) :: cs) s' → QQ () s') →
      wpAny (model prog w) A (updateSeq Pl fun z => z.push (.str y ty)) QQ E s := by
    intro parts y ty A E QQ s hp H hQ
    obtain ⟨vs, ⟨n, hp'⟩, e⟩ := H.open_strs (.head _)
    have H1 := H.redo (P' := LstO vs) .head ⟨_, hp', n, rfl⟩
    refine up_seq (vs' := vs ++ [.str y ty]) H1 .head (by simp) (by rw [map_len e]; (exact Nat.le_trans (by assumption) (by decide))) (by rw [List.length_append, map_len e]; simp; (exact Nat.le_trans (by assumption) (by decide))) fun s' H' => hQ s' (H'.weak .head fun o ho => ⟨_, ho, ?_⟩)
    rw [List.map_append, e, List.map_append]; rfl
  have fin : ∀ (parts : List Str) (m : Int) (A : Around) (E : Value → Shared → Prop) (QQ : PySem.Fin → Shared → Prop) (s : Shared), (parts.map (·.length)).sum ≤ 3000000 → parts.length ≤ 50000 → St B ((Pl, StrsO parts) :: cs) s →
      (∀ t s', St B cs s' → QQ (.done (.ret (.str ⟨(parts.flatMap (·.cps.toList)).toArray⟩ t))) s') →
      wpAny (model prog w) A (do
        let joiner ← reSlice x.cps 0 0 0
        let o ← seqItems? (.ref Pl)
        if (o.getD #[]).isEmpty = true then do
          let text ← pure joiner
          if false = true then do
            let v ← holding [text] (do let i ← mkInt m; newTuple [text, i])
            ret v
          else ret text
        else do
          let text ← call (.builtin "str.join") [joiner, .ref Pl]
          if false = true then do
            let v ← holding [text] (do let i ← mkInt m; newTuple [text, i])
            ret v
          else ret text) QQ E s := by
    intro parts m A E QQ s hp1 hp2 H hQ
    refine wpAny_bind (wpAny_mkStr ?_ (by rw [ex00]; decide))
    rw [ex00]
    have H1 := H.tok (s.toks + 1)
    obtain ⟨vs, ⟨n, hp'⟩, e⟩ := H1.open_strs (.head _)
    refine wpAny_bind (wpAny_seqItems hp' rfl ?_)
    cases parts with
    | nil =>
      have : vs = [] := by cases vs with
        | nil => rfl
        | cons _ _ => simp at e
      subst this
      rw [if_pos (show ((some ([] : List Value).toArray).getD #[]).isEmpty = true from rfl)]
      refine wpAny_bind (wpAny_pure ?_)
      rw [if_neg (by decide)]
      exact wpAny_pure (hQ _ _ (H1.drop 1))
    | cons p r =>
      have : vs ≠ [] := by rintro rfl; simp at e
      rw [if_neg (by simpa using this)]
      refine wpAny_bind (join_listC (ys := p :: r) (Heap.PlainList.isList ⟨n, hp'⟩) (strsAre_of (by simpa using e)) (by decide) (by lia) fun t' k => ?_)
      rw [if_neg (by decide), join_flat]
      exact wpAny_pure (hQ _ _ ((H1.tok k).drop 1))
  intro k
  induction k using Nat.strongRecOn with
  | ind k ih =>
    intro st n must parts s hst hk hpl hpb H hQ
    obtain ⟨nn, hnn, hends⟩ := hsr st must
    refine codeAny_builtin (entryFor_of_tree (by kernel_rfl) : entryFor table "re.Pattern.sub.loop" = some Builtin.«re.Pattern.sub.loop») ?_
    rw [Around.under_plainId (by decide +kernel : plainId "re.Pattern.sub.loop" = true) _]
    show wpAny _ A.in1 (reWholeTarget (.ref pat) (.str x t) >>= _) _ _ s
    refine wpAny_bind (wholeTarget P H ?_)
    show wpAny _ A.in1 (reLiteralCannotBeTurned (.str rp tr) >>= _) _ _ s
    refine wpAny_bind (wpAny_of_eq (rfl : reLiteralCannotBeTurned (.str rp tr) = pure ()) ?_)
    show wpAny _ A.in1 (reRunToEnd (forSearch code x.cps 0 (st : Int).toNat x.cps.size must) >>= _) _ _ s
    rw [Int.toNat_natCast]
    refine wpAny_bind (runEnd hends hnn ?_)
    cases hs : srch st with
    | none =>
      dsimp only
      have hR := hnone st hs hst
      by_cases hlt : st < x.cps.size
      · rw [if_pos hlt]
        refine wpAny_bind (wpAny_mkStr ?_ (by show Array.size _ ≤ _; rw [Array.size_extract]; lia))
        have H1 := H.tok (s.toks + 1)
        refine wpAny_bind (pushS parts _ _ _ _ _ _ (by (clear hst hk; lia)) H1 fun s2 H2 => ?_)
        refine fin _ n A.in1 _ _ s2 ?_ (by simp; (clear hst hk; lia)) H2 fun t3 s3 H3 => ?_
        · rw [List.map_append, List.sum_append]
          have : (Str.length ⟨x.cps.extract st x.cps.size⟩) ≤ 20000 := by show Array.size _ ≤ _; rw [Array.size_extract]; (clear hst hk hpl hpb hlt; lia)
          simp only [List.map_cons, List.map_nil, List.sum_cons, List.sum_nil]
          (clear hst hk hpl; lia)
        · have := hQ t3 s3 H3
          rw [hR] at this
          have e : (parts ++ [(⟨x.cps.extract st x.cps.size⟩ : Str)]).flatMap (·.cps.toList) = parts.flatMap (·.cps.toList) ++ x.cps.toList.drop st := by
            rw [List.flatMap_append]
            simp only [List.flatMap_cons, List.flatMap_nil, List.append_nil]
            congr 1
            rw [Array.toList_extract, List.extract_eq_take_drop, List.take_of_length_le]
            rw [List.length_drop]; (exact Nat.le_refl _)
          rw [e]; exact this
      · rw [if_neg hlt]
        refine fin _ n A.in1 _ _ s ?_ (by (clear hlt; lia)) H fun t3 s3 H3 => ?_
        · (clear hlt; lia)
        · have := hQ t3 s3 H3
          rw [hR, List.drop_of_length_le (by (exact Nat.le_of_not_lt (by assumption))), List.append_nil] at this
          exact this
    | some p =>
      obtain ⟨a, b⟩ := p
      obtain ⟨h1, h2, h3, hR⟩ := hsome st a b hs
      dsimp only
      intro m' ha hb
      subst ha hb
      have again' : ∀ (parts' : List Str) (s' : Shared), parts'.length ≤ 2 * m'.handed → (parts'.map (·.length)).sum ≤ 101 * m'.handed → parts'.flatMap (·.cps.toList) ++ R m'.handed = parts.flatMap (·.cps.toList) ++ R st → St B ((Pl, StrsO parts') :: cs) s' →
          codeAny (model prog w) A (.builtin "re.Pattern.sub.loop" ⟨[.ref pat, .str x t, .str rp tr, rawInt 0, rawInt 0, rawInt (n + 1), rawInt m'.handed, rawInt m'.handed, .bool (m'.handed == m'.start), .ref Pl, .bool false], []⟩) Q s' := by
        intro parts' s' q1 q2 q3 H'
        refine ih (x.cps.size - m'.handed) (by lia) m'.handed (n + 1) _ parts' s' h3 (by lia) q1 q2 H' ?_
        rw [q3]; exact hQ
      by_cases hlt : st < m'.start
      · rw [if_pos hlt]
        refine wpAny_bind (wpAny_mkStr ?_ (by show Array.size _ ≤ _; rw [Array.size_extract]; (clear hrp ih hst hk hpl hpb hnn hends h1 hR hlt; lia)))
        have H1 := H.tok (s.toks + 1)
        refine wpAny_bind (pushS parts _ _ _ _ _ _ (by lia) H1 fun s2 H2 => ?_)
        rw [if_pos (by decide)]
        refine wpAny_bind (wpAny_pure ?_)
        rw [if_pos (by rfl)]
        refine wpAny_bind (pushS _ _ _ _ _ _ _ (by simp; lia) H2 fun s3 H3 => ?_)
        have el : (Str.length ⟨x.cps.extract st m'.start⟩) ≤ m'.start - st := by show Array.size _ ≤ _; rw [Array.size_extract]; lia
        have el2 : Str.length rp ≤ 100 := hrp
        refine wpAny_pure ⟨plainId_quiet (by decide +kernel : plainId "re.Pattern.sub.loop" = true) _, again' _ s3 (by simp; lia) ?_ ?_ H3⟩
        · simp only [List.map_append, List.sum_append, List.map_cons, List.map_nil, List.sum_cons, List.sum_nil]
          lia
        · rw [hR]
          simp only [List.flatMap_append, List.flatMap_cons, List.flatMap_nil, List.append_nil, List.append_assoc]
          congr 2
          rw [Array.toList_extract, List.extract_eq_take_drop]
      · rw [if_neg hlt, if_pos (by decide)]
        refine wpAny_bind (wpAny_pure ?_)
        rw [if_pos (by rfl)]
        refine wpAny_bind (pushS _ _ _ _ _ _ _ (by lia) H fun s3 H3 => ?_)
        have el2 : Str.length rp ≤ 100 := hrp
        refine wpAny_pure ⟨plainId_quiet (by decide +kernel : plainId "re.Pattern.sub.loop" = true) _, again' _ s3 (by simp; (clear hlt; lia)) ?_ ?_ H3⟩
        · simp only [List.map_append, List.sum_append, List.map_cons, List.map_nil, List.sum_cons, List.sum_nil]
          (clear hlt; lia)
        · rw [hR, show m'.start - st = 0 by (clear hst hk hpl hpb hR h1; lia)]
          simp
theorem all_ (x : Xq) : Tq x := Classical.byContradiction fun hn => Classical.epsilon_spec (p := fun x => ¬ Tq x) ⟨x, hn⟩ at_
end SuD
section
variable {prog : Program} {w : World} {A : Around} {E : Value → Shared → Prop} {B s : Shared} {cs cs' : List Cel}
theorem sub_loop {pat : Addr} {code : Array Nat} {x rp : Str} {t tr : Tok} {Pl : Addr} (P : PatAt B pat code) (srch : Nat → Option (Nat × Nat)) (R : Nat → List Nat) (hsr : ∀ st must, ∃ n, n ≤ 2 ^ 60 ∧ Ends (forSearch code x.cps 0 st x.cps.size must) n (srch st)) (hnone : ∀ st, srch st = none → st ≤ x.cps.size → R st = x.cps.toList.drop st) (hsome : ∀ st a b, srch st = some (a, b) → st ≤ a ∧ a < b ∧ b ≤ x.cps.size ∧ R st = (x.cps.toList.drop st).take (a - st) ++ rp.cps.toList ++ R b) {Q : Result → Shared → Prop} (hz : x.cps.size ≤ 20000) (hrp : rp.cps.size ≤ 100) :
    ∀ (k st : Nat) (n : Int) (must : Bool) (parts : List Str) (s : Shared), st ≤ x.cps.size → x.cps.size ≤ st + k → parts.length ≤ 2 * st → (parts.map (·.length)).sum ≤ 101 * st → St B ((Pl, StrsO parts) :: cs) s →
      (∀ t s', St B cs s' → Q (.ok (.ret (.str ⟨((parts.flatMap (·.cps.toList)) ++ R st).toArray⟩ t))) s') →
      codeAny (model prog w) A (.builtin "re.Pattern.sub.loop" ⟨[.ref pat, .str x t, .str rp tr, rawInt 0, rawInt 0, rawInt n, rawInt st, rawInt st, .bool must, .ref Pl, .bool false], []⟩) Q s :=
  SuD.all_ ⟨prog, w, A, B, dumS, cs, pat, code, x, rp, t, tr, Pl, Q⟩ P srch R hsr hnone hsome hz hrp

end
end Mine
end
section
set_option maxRecDepth 100000
set_option maxHeartbeats 1000000
namespace Mine
open PySem PySem.Sre

noncomputable def normH (sw : Bool) (c : Nat) : List Nat := if c = 13 then [13, 10] else if c = 10 then (if sw then [] else [13, 10]) else [c]
noncomputable def normS : Bool → List Nat → List Nat
  | _, [] => []
  | sw, c :: r => normH sw c ++ normS (c == 13) r
noncomputable def normL (l : List Nat) : List Nat := normS false l
theorem norm_nil : normL [] = [] := rfl
theorem norm_plain {c : Nat} (r : List Nat) (h1 : c ≠ 10) (h2 : c ≠ 13) : normL (c :: r) = c :: normL r := by
  show (if c = 13 then _ else _) ++ normS (c == 13) r = _
  rw [if_neg h2, if_neg h1, beq_false_of_ne h2]; rfl
theorem norm_lf (r : List Nat) : normL (10 :: r) = 13 :: 10 :: normL r := rfl
theorem norm_crlf (r : List Nat) : normL (13 :: 10 :: r) = 13 :: 10 :: normL r := rfl
theorem norm_cr {r : List Nat} (h : r.head? ≠ some 10) : normL (13 :: r) = 13 :: 10 :: normL r := by
  cases r with
  | nil => rfl
  | cons c r =>
    have h10 : c ≠ 10 := fun e => h (congrArg some e)
    show 13 :: 10 :: ((if c = 13 then _ else if c = 10 then _ else _) ++ normS (c == 13) r) = 13 :: 10 :: ((if c = 13 then _ else if c = 10 then _ else _) ++ normS (c == 13) r)
    rw [if_neg h10, if_neg h10]
noncomputable def normF : Bool → List Nat → Bool
  | sw, [] => sw
  | _, c :: r => normF (c == 13) r
theorem normF_last : ∀ (r : List Nat) (c : Nat), normF (c == 13) r = true → (c :: r).getLast? = some 13
  | [], _, h => congrArg some (eq_of_beq h)
  | d :: r, _, h => by rw [List.getLast?_cons_cons]; exact normF_last r d h
theorem normS_app (b : List Nat) : ∀ (a : List Nat) (sw : Bool), normS sw (a ++ b) = normS sw a ++ normS (normF sw a) b
  | [], _ => rfl
  | c :: r, sw => (congrArg (normH sw c ++ ·) (normS_app b r (c == 13))).trans (List.append_assoc _ _ _).symm
theorem normS_len : ∀ (l : List Nat) (sw : Bool), (normS sw l).length ≤ 2 * l.length
  | [], _ => Nat.le_refl _
  | c :: r, sw => by
    have h : (normH sw c).length ≤ 2 := by
      unfold normH; split
      · decide
      · split
        · cases sw <;> decide
        · exact Nat.le_add_left 1 1
    show (normH sw c ++ normS (c == 13) r).length ≤ 2 * r.length + 2
    rw [List.length_append, Nat.add_comm]
    exact Nat.add_le_add (normS_len r _) h
theorem norm_pre : ∀ {p : List Nat} (q : List Nat), (∀ c ∈ p, c ≠ 10 ∧ c ≠ 13) → normL (p ++ q) = p ++ normL q
  | [], q, _ => rfl
  | c :: p, q, h => by
    have hc := h c (.head _)
    rw [List.cons_append, norm_plain _ hc.1 hc.2, norm_pre q fun d hd => h d (.tail _ hd)]; rfl

noncomputable def dotL : Bool → List Nat → List Nat
  | _, [] => []
  | b, c :: r => if b = true ∧ c = 46 then 46 :: 46 :: dotL false r else c :: dotL (c == 10) r

theorem dot_cons (b : Bool) (c : Nat) (r : List Nat) : dotL b (c :: r) = if b = true ∧ c = 46 then 46 :: 46 :: dotL false r else c :: dotL (c == 10) r := rfl
theorem getD_list (a : Array Nat) (i : Nat) : a.getD i 0 = a.toList.getD i 0 := by
  simp [Array.getD_eq_getD_getElem?, List.getD_eq_getElem?_getD]
theorem drop_cons {l : List Nat} {i : Nat} (h : i < l.length) : l.drop i = l.getD i 0 :: l.drop (i + 1) := by
  rw [List.drop_eq_getElem_cons h, List.getD_eq_getElem?_getD, List.getElem?_eq_getElem h]; rfl
theorem take_drop_split (l : List Nat) {s a : Nat} (h : s ≤ a) : l.drop s = (l.drop s).take (a - s) ++ l.drop a := by
  have := (List.take_append_drop (a - s) (l.drop s)).symm
  rw [List.drop_drop] at this
  rwa [show s + (a - s) = a by lia] at this
theorem mem_take_drop {l : List Nat} {s a c : Nat} (h : c ∈ (l.drop s).take (a - s)) : ∃ i, s ≤ i ∧ i < a ∧ l.getD i 0 = c := by
  obtain ⟨j, hj, e⟩ := List.getElem_of_mem h
  simp only [List.length_take, List.length_drop] at hj
  obtain ⟨hj1, hj2⟩ := Nat.lt_min.mp hj
  refine ⟨s + j, Nat.le_add_right _ _, by rw [Nat.add_comm]; exact Nat.add_lt_of_lt_sub hj1, ?_⟩
  rw [List.getElem_take, List.getElem_drop] at e
  rw [List.getD_eq_getElem?_getD, List.getElem?_eq_getElem (by rw [Nat.add_comm]; exact Nat.add_lt_of_lt_sub hj2), Option.getD_some]; exact e

section
variable (x : Array Nat)
noncomputable def srch2 (st : Nat) : Option (Nat × Nat) := (find2 x x.size (x.size + 1 - st) st).map fun a => (a, a + len2 x x.size a)
noncomputable def R2 (st : Nat) : List Nat := normL (x.toList.drop st)
theorem plain2 {s a : Nat} (h : ∀ i, s ≤ i → i < a → is2 x i = false) : ∀ c ∈ (x.toList.drop s).take (a - s), c ≠ 10 ∧ c ≠ 13 := by
  intro c hc
  obtain ⟨i, h1, h2, e⟩ := mem_take_drop hc
  have := h i h1 h2
  unfold is2 at this
  rw [getD_list, e] at this
  simp at this; exact this
theorem none2 (st : Nat) (h : srch2 x st = none) (hst : st ≤ x.size) : R2 x st = x.toList.drop st := by
  unfold srch2 at h
  have hn := find2_none (by omega) (Option.map_eq_none_iff.mp h)
  have e := take_drop_split x.toList hst
  have e2 : x.toList.drop x.size = [] := List.drop_of_length_le (by simp)
  unfold R2
  have := norm_pre (p := (x.toList.drop st).take (x.size - st)) [] (plain2 x fun i h1 h2 => hn i h1 h2)
  rw [e2, List.append_nil] at e
  rw [List.append_nil, ← e, norm_nil, List.append_nil] at this
  exact this
theorem some2 (st a b : Nat) (h : srch2 x st = some (a, b)) : st ≤ a ∧ a < b ∧ b ≤ x.size ∧ R2 x st = (x.toList.drop st).take (a - st) ++ [13, 10] ++ R2 x b := by
  unfold srch2 at h
  obtain ⟨a', ha, e⟩ := Option.map_eq_some_iff.mp h
  injection e with e1 e2
  subst e1
  obtain ⟨h1, h2, h3, h4⟩ := find2_lt ha
  have hlen : x.toList.length = x.size := by simp
  have hd := drop_cons (l := x.toList) (i := a') (by assumption)
  have hb : a' < b ∧ b ≤ x.size ∧ normL (x.toList.drop a') = 13 :: 10 :: normL (x.toList.drop b) := by
    unfold is2 at h2
    rw [getD_list] at h2
    unfold len2 at e2
    rw [getD_list, getD_list] at e2
    by_cases c13 : x.toList.getD a' 0 = 13
    · by_cases cn : a' + 1 < x.size ∧ x.toList.getD (a' + 1) 0 = 10
      · rw [if_pos ⟨c13, cn⟩] at e2
        subst e2
        refine ⟨by lia, by (clear h1; lia), ?_⟩
        rw [hd, c13, drop_cons (l := x.toList) (i := a' + 1) (by (clear ha h1; lia)), cn.2, norm_crlf]
      · rw [if_neg fun q => cn q.2] at e2
        subst e2
        refine ⟨by (exact Nat.le_refl _), by assumption, ?_⟩
        rw [hd, c13, norm_cr]
        intro q
        apply cn
        have hl : a' + 1 < x.size := by
          rcases Nat.lt_or_ge (a' + 1) x.size with q2 | q2
          · exact q2
          · rw [List.drop_of_length_le (by assumption)] at q; cases q
        refine ⟨hl, ?_⟩
        rw [drop_cons (l := x.toList) (by assumption)] at q
        exact Option.some.inj q
    · have c10 : x.toList.getD a' 0 = 10 := by
        simp only [Bool.or_eq_true, beq_iff_eq] at h2
        exact h2.resolve_right c13
      rw [if_neg fun q => c13 q.1] at e2
      subst e2
      refine ⟨by (exact Nat.le_refl _), by assumption, ?_⟩
      rw [hd, c10, norm_lf]
  refine ⟨h3, hb.1, hb.2.1, ?_⟩
  unfold R2
  rw [take_drop_split x.toList h3, norm_pre _ (plain2 x h4), hb.2.2, ← take_drop_split x.toList h3]
  simp

noncomputable def srch1 (st : Nat) : Option (Nat × Nat) := if st < x.size then find1 x x.size x.size (x.size - st) st else none
noncomputable def R1 (st : Nat) : List Nat := dotL (bol x st) (x.toList.drop st)
theorem bol_next {i : Nat} : bol x (i + 1) = (x.toList.getD i 0 == 10) := by
  unfold bol
  rw [Nat.add_sub_cancel, getD_list]
  have : (i + 1 == 0) = false := by simp
  rw [this, Bool.false_or]
theorem step_no {i : Nat} (hi : i < x.size) (h : is1 x x.size i = false) : R1 x i = x.toList.getD i 0 :: R1 x (i + 1) := by
  unfold R1
  rw [drop_cons (by simpa using hi), bol_next, dot_cons, if_neg]
  rintro ⟨h1, h2⟩
  unfold is1 at h
  rw [h1, decide_eq_true hi, getD_list, h2] at h
  exact absurd h (by decide)
theorem step_yes {i : Nat} (h : is1 x x.size i = true) : i < x.size ∧ R1 x i = 46 :: 46 :: R1 x (i + 1) := by
  obtain ⟨h1, h2, h3⟩ := is1_yes _ _ _ h
  refine ⟨h2, ?_⟩
  rw [getD_list] at h3
  unfold R1
  rw [drop_cons (by simpa using h2), bol_next, h3, h1, dot_cons, if_pos ⟨rfl, rfl⟩]
  rfl
theorem all1 : ∀ (k s : Nat), s + k = x.size → (find1 x x.size x.size k s = none → R1 x s = x.toList.drop s) ∧ ∀ a b, find1 x x.size x.size k s = some (a, b) → s ≤ a ∧ a < b ∧ b ≤ x.size ∧ R1 x s = (x.toList.drop s).take (a - s) ++ [46, 46] ++ R1 x b
  | 0, s, hk => by
    have hd : x.toList.drop s = [] := List.drop_of_length_le (by simp; (exact Nat.le_of_eq (Eq.symm (by assumption))))
    refine ⟨fun _ => by unfold R1; rw [hd]; rfl, fun a b h => ?_⟩
    unfold find1 at h
    by_cases h1 : is1 x x.size s = true
    · exact absurd (step_yes x h1).1 (by lia)
    · rw [if_neg h1] at h; cases h
  | k + 1, s, hk => by
    have ih := all1 k (s + 1) (by lia)
    have hd := drop_cons (l := x.toList) (i := s) (by simp; lia)
    by_cases h1 : is1 x x.size s = true
    · obtain ⟨h2, h3⟩ := step_yes x h1
      refine ⟨fun h => ?_, fun a b h => ?_⟩
      · unfold find1 at h; rw [if_pos h1] at h; cases h
      · unfold find1 at h; rw [if_pos h1] at h; cases h
        exact ⟨Nat.le_refl _, by (exact Nat.le_refl _), by assumption, by rw [Nat.sub_self, h3]; rfl⟩
    · have h3 := step_no x (by lia) (Bool.eq_false_iff.mpr h1)
      refine ⟨fun h => ?_, fun a b h => ?_⟩
      · unfold find1 at h; rw [if_neg h1] at h
        rw [h3, ih.1 h, hd]
      · unfold find1 at h; rw [if_neg h1] at h
        obtain ⟨q1, q2, q3, q4⟩ := ih.2 a b h
        refine ⟨by (exact Nat.le_of_lt (by assumption)), q2, q3, ?_⟩
        rw [h3, q4, hd, show a - s = (a - (s + 1)) + 1 by lia, List.take_succ_cons]
        rfl
theorem none1 (st : Nat) (h : srch1 x st = none) (hst : st ≤ x.size) : R1 x st = x.toList.drop st := by
  unfold srch1 at h
  by_cases h1 : st < x.size
  · rw [if_pos h1] at h; exact (all1 x (x.size - st) st (by (clear h; lia))).1 h
  · have hd : x.toList.drop st = [] := List.drop_of_length_le (by simp; (exact Nat.le_of_not_lt (by assumption)))
    unfold R1; rw [hd]; rfl
theorem some1 (st a b : Nat) (h : srch1 x st = some (a, b)) : st ≤ a ∧ a < b ∧ b ≤ x.size ∧ R1 x st = (x.toList.drop st).take (a - st) ++ [46, 46] ++ R1 x b := by
  unfold srch1 at h
  by_cases h1 : st < x.size
  · rw [if_pos h1] at h; exact (all1 x (x.size - st) st (by lia)).2 a b h
  · rw [if_neg h1] at h; cases h
end
end Mine
end
section
set_option maxRecDepth 100000
set_option maxHeartbeats 1000000
namespace Mine
open PySem PySem.Sre PySem.Calls PyProof.Rows PySem.W PySem.Builtin.Re PySem.Builtin

theorem plainAttrs_pat : PlainAttrs "re.Pattern" :=
  ⟨⟨"object.__getattribute__", by rw [typeLookup_type, builtinLookup_eq_fast]; kernel_rfl, by decide +kernel⟩, by rw [typeLookup_type, builtinLookup_eq_fast]; kernel_rfl⟩
theorem slot_pat_sub : Slot "re.Pattern" "sub" "re.Pattern.sub" :=
  .of (owner := "re.Pattern") (n := "sub") (by rw [typeLookup_type, builtinLookup_eq_fast]; kernel_rfl) (by decide +kernel) (by decide +kernel) (by decide +kernel)
    (by first | exact .inl (by decide +kernel) | exact .inr (by decide +kernel)) (by rw [isSubtype_type]; kernel_rfl)
theorem type_pat_sub : typeOf (.builtin "re.Pattern.sub") = pure (.type "method_descriptor") := by show builtinType _ = _; rw [builtinType_eq_fast]; kernel_rfl
theorem entry_pat_sub : entryFor table "re.Pattern.sub" = some Builtin.«re.Pattern.sub» := entryFor_of_tree (by kernel_rfl)
theorem args_pat_sub (a b c : Value) : argsOk "re.Pattern.sub" ⟨[a, b, c], []⟩ := by unfold argsOk; kernel_rfl
theorem noCall_str : typeLookup (.type "str") "__call__" = pure none := by rw [typeLookup_type, builtinLookup_eq_fast]; kernel_rfl
theorem plain_subloop : plainId "re.Pattern.sub.loop" = true := by decide +kernel

section
variable {prog : Program} {w : World} {A : Around} {E : Value → Shared → Prop} {B s : Shared} {cs cs' : List Cel} {Q : Value → Shared → Prop}

theorem f_sub {pat : Addr} {code : Array Nat} {x rp : Str} {t tr : Tok} (P : PatAt B pat code) (srch : Nat → Option (Nat × Nat)) (R : Nat → List Nat)
    (hsr : ∀ st must, ∃ n, n ≤ 2 ^ 60 ∧ Ends (forSearch code x.cps 0 st x.cps.size must) n (srch st))
    (hnone : ∀ st, srch st = none → st ≤ x.cps.size → R st = x.cps.toList.drop st) (hsome : ∀ st a b, srch st = some (a, b) → st ≤ a ∧ a < b ∧ b ≤ x.cps.size ∧ R st = (x.cps.toList.drop st).take (a - st) ++ rp.cps.toList ++ R b)
    (hz : x.cps.size ≤ 20000) (hrp : rp.cps.size ≤ 100) (hlit : rp.cps.contains 92 = false) (H : St B cs s) (h : ∀ t s', St B cs s' → Q (.str ⟨(R 0).toArray⟩ t) s') :
    wpAny (model prog w) A (call (.builtin "re.Pattern.sub") [.ref pat, .str rp tr, .str x t]) Q E s := by
  obtain ⟨o, p, fl, dc, x5, cd, t1, t2, t3, n, arr, ho, hc, hdc, hd, _⟩ := P.at_
  refine wpAny_call (codeAny_call_builtin slot_pat_sub.plain entry_pat_sub (slot_pat_sub.check _ _ _ _ _ _ _ _ ⟨o, H.keep _ _ ho, hc⟩ (args_pat_sub _ _ _) ?_))
  unfold Builtin.«re.Pattern.sub» reSubstitute
  refine wpAny_bind (wpAny_of_eq (a := [some (.str rp tr), some (.str x t), none]) (by rfl) ?_)
  show wpAny _ A.in1 (pure (0 : Int) >>= _) _ _ s
  refine wpAny_bind (wpAny_pure ?_)
  show wpAny _ A.in1 (specialOf (.str rp tr) (Str.ofString "__call__") >>= _) _ _ s
  refine wpAny_bind (wpAny_specialOf_val (T := "str") rfl noCall_str ?_)
  show wpAny _ A.in1 (asStr? (.str rp tr) >>= _) _ _ s
  refine wpAny_bind (wpAny_of_eq (rfl : asStr? (.str rp tr) = pure (some rp)) ?_)
  show wpAny _ A.in1 (pure (!rp.cps.contains 92) >>= _) _ _ s
  rw [hlit]
  refine wpAny_bind (wpAny_pure ?_)
  show wpAny _ A.in1 (pure (Value.str rp tr, 0) >>= _) _ _ s
  refine wpAny_bind (wpAny_pure ?_)
  show wpAny _ A.in1 (holding [.str rp tr] (reWholeTarget (.ref pat) (.str x t)) >>= _) _ _ s
  refine wpAny_bind (wpAny_holding (wholeTarget P H ?_))
  show wpAny _ A.in1 (newList [] >>= _) _ _ s
  refine wpAny_bind (wpAny_newList ?_ (by simp))
  refine wpAny_pure ⟨plainId_quiet plain_subloop _, ?_⟩
  have H1 := H.push (P := StrsO []) (o := { cls := .type "list", data := .seq ([] : List Value).toArray }) (t := s.toks) ⟨[], ⟨0, rfl⟩, rfl⟩
  refine sub_loop P srch R hsr hnone hsome hz hrp x.cps.size 0 0 false [] _ (Nat.zero_le _) (by (exact Nat.le_add_left _ _)) (Nat.zero_le _) (Nat.zero_le _) H1 fun t' s' H' => ?_
  have := h t' s' H'
  simpa using this

structure Pats (B : Shared) : Prop where
  p1 : PatAt B 148 code1
  p2 : PatAt B 153 code2

theorem Names.crlf (N : Names B) : ∃ t mg, B.heap.Ns mainGlobals mg ∧ mg (Str.ofString "CRLF") = some (.str (Str.ofString "\r\n") t) := by
  obtain ⟨mg, g, _, _, _, _, _, _, _, _, _, _, _, _, _, _, _, _, ⟨t, e⟩, _⟩ := N.gl
  exact ⟨t, mg, g, e⟩
theorem crlf_cps : (Str.ofString "\r\n").cps = #[13, 10] := by decide +kernel
theorem dots_cps : (Str.ofString "..").cps = #[46, 46] := by decide +kernel

theorem isPat {pat : Addr} {code : Array Nat} (P : PatAt B pat code) (H : St B cs s) : s.TypeIs (.ref pat) "re.Pattern" ∧ (∀ a, Value.ref pat = .ref a → ∃ ob, s.heap.get? a = some ob ∧ ob.dict = none) := by
  obtain ⟨o, p, fl, dc, x5, cd, t1, t2, t3, n, arr, ho, hc, hdc, hd, _⟩ := P.at_
  exact ⟨⟨o, H.keep _ _ ho, hc⟩, fun a e => by cases e; exact ⟨o, H.keep _ _ ho, hdc⟩⟩

theorem norm_len (n : Nat) (l : List Nat) (_ : l.length ≤ n) : (normL l).length ≤ 2 * l.length := normS_len l false

theorem spec_quote {x : Str} {t : Tok} {k : Nat} (Fn : Fns B) (Nm : Names B) (Pt : Pats B) (ok : Ok A (k + 1)) (H : St B cs s) (hz : x.cps.size ≤ 10000)
    (h : ∀ t s', St B cs s' → Q (.str ⟨(dotL true (normL x.cps.toList)).toArray⟩ t) s') :
    wpAny (model prog w) A (call (.ref 160) [.str x t]) Q E s := by
  refine call_fn (binds := [(Str.ofString "data", .str x t)]) Fn.quote (fun _ _ _ => rfl) ok Nm H (fun _ _ _ => BindsTo.of_eq rfl) ?_
  intro L cd s1 E' ok1 H1
  obtain ⟨tc, mg, hg, hcr⟩ := Nm.crlf
  refine wpAny_execs_cons (wpAny_Return_some ?_)
  refine m_call plainAttrs_pat slot_pat_sub type_pat_sub (n_glob H1 (Nm.g fun mg h => h.2.2.2.2.2.2.2.2.2.2.2.2.2.2.1) ⟨(isPat Pt.p1 H1).1, (isPat Pt.p1 H1).2, ?_⟩) rfl
  refine wpAny_items_cons (c_str H1 fun t2 s2 H2 => wpAny_items_cons ?_)
  refine m_call plainAttrs_pat slot_pat_sub type_pat_sub (n_glob H2 (Nm.g fun mg h => h.2.2.2.2.2.2.2.2.2.2.2.2.2.2.2) ⟨(isPat Pt.p2 H2).1, (isPat Pt.p2 H2).2, ?_⟩) rfl
  refine wpAny_items_cons (n_glob H2 ⟨mg, hg, hcr⟩ (wpAny_items_cons (n_local H2 (by k_mem) rfl (wpAny_items_nil ?_))))
  refine f_sub Pt.p2 (srch2 x.cps) (R2 x.cps) (fun st must => ⟨20, by decide, search2 x.cps st must⟩) (none2 x.cps) (fun st a b q => ?_) (by (exact Nat.le_trans (by assumption) (by decide))) (by rw [crlf_cps]; decide) (by rw [crlf_cps]; decide +kernel) H2 fun t3 s3 H3 => wpAny_items_nil ?_
  · have := some2 x.cps st a b q
    rw [crlf_cps]; exact this
  have e2 : R2 x.cps 0 = normL x.cps.toList := by unfold R2; rw [List.drop_zero]
  rw [e2]
  have hl := norm_len _ x.cps.toList (Nat.le_refl _)
  have hl2 : x.cps.toList.length = x.cps.size := by simp
  refine f_sub (x := ⟨(normL x.cps.toList).toArray⟩) Pt.p1 (srch1 (normL x.cps.toList).toArray) (R1 (normL x.cps.toList).toArray) (fun st must => ?_) (none1 _) (fun st a b q => ?_) (by simp; lia) (by rw [dots_cps]; decide) (by rw [dots_cps]; decide +kernel) H3 fun t4 s4 H4 => ?_
  · obtain ⟨n, hn, he⟩ := search1 (normL x.cps.toList).toArray st must
    refine ⟨n, Nat.le_trans hn ?_, he⟩
    have : (normL x.cps.toList).toArray.size ≤ 20000 := by simp; lia
    exact Nat.le_trans (by lia : _ ≤ 200000) (by decide)
  · have := some1 _ st a b q
    rw [dots_cps]; exact this
  have e1 : R1 (normL x.cps.toList).toArray 0 = dotL true (normL x.cps.toList) := by unfold R1; rfl
  rw [e1]
  exact h t4 s4 (H4.drop 1)
end
end Mine
end
section
set_option maxHeartbeats 4000000
set_option maxHeartbeats 4000000
namespace Mine
open PySem PySem.Calls PyProof.Rows PySem.W

noncomputable def sepM (i : Nat) : Str := if i % 3 = 0 then Str.ofString "\n" else if i % 3 = 1 then Str.ofString "\r" else Str.ofString "\r\n"
noncomputable def accM (rows : List Str) (turn : Nat) : Nat → Str
  | 0 => rows.getD 0 Str.empty
  | k + 1 => accM rows turn k ++ (sepM (k + 1 + turn) ++ rows.getD (k + 1) Str.empty)
noncomputable def mailM (rows : List Str) (turn : Nat) : Str := accM rows turn (rows.length - 1)
theorem sep_len (i : Nat) : (sepM i).length ≤ 2 := by
  unfold sepM
  split
  · decide
  · split <;> decide
theorem str_len_app (a b : Str) : (a ++ b).length = a.length + b.length := by
  show Array.size (a.cps ++ b.cps) = Array.size a.cps + Array.size b.cps
  exact Array.size_append
theorem acc_len (rows : List Str) (turn c : Nat) (hc : ∀ r ∈ rows, r.length ≤ c) : ∀ k, k < rows.length → (accM rows turn k).length ≤ (k + 1) * (c + 2)
  | 0, h => by
    have := hc (rows.getD 0 Str.empty) (by rw [List.getD_eq_getElem?_getD, List.getElem?_eq_getElem h]; exact List.getElem_mem _)
    unfold accM; lia
  | k + 1, h => by
    have h1 := acc_len rows turn c hc k (by (exact Nat.le_of_lt (by assumption)))
    have h2 := hc (rows.getD (k + 1) Str.empty) (by rw [List.getD_eq_getElem?_getD, List.getElem?_eq_getElem h]; exact List.getElem_mem _)
    have h3 := sep_len (k + 1 + turn)
    have e : accM rows turn (k + 1) = accM rows turn k ++ (sepM (k + 1 + turn) ++ rows.getD (k + 1) Str.empty) := rfl
    rw [e, str_len_app, str_len_app]
    have : (k + 1 + 1) * (c + 2) = (k + 1) * (c + 2) + (c + 2) := by rw [Nat.add_mul]; lia
    lia

section
variable {prog : Program} {w : World} {A : Around} {E : Value → Shared → Prop} {B s : Shared} {cs cs' : List Cel} {env : Env} {Q : Value → Shared → Prop}

end
namespace MaD
noncomputable abbrev X := (Program) × (World) × (Around) × (Value → Shared → Prop) × (Shared) × (List Cel) × (Value → Shared → Prop) × (Addr) × (List Addr) × (List (List Str)) × (Nat) × (Tok) × (Nat) × (Addr) × (Value) × (Shared) × (Value → Shared → Prop)
noncomputable def S (prog : Program) (w : World) (A : Around) (E : Value → Shared → Prop) (B : Shared) (cs : List Cel) (Q : Value → Shared → Prop) (Dl : Addr) (as : List Addr) (rs : List (List Str)) (turn : Nat) (tt : Tok) (k : Nat) (L : Addr) (cd : Value) (s1 : Shared) (E' : Value → Shared → Prop) : Prop :=
  ∀ (Fn : Fns B) (Nm : Names B) (ok : Ok A (k + 3)) (hlen : as.length = rs.length) (hne : 0 < rs.flatten.length) (hz : rs.flatten.length ≤ 100) (hc : ∀ r ∈ rs.flatten, r.length ≤ 1000) (ht : turn ≤ 1000) (h : ∀ t s', St B ((Dl, LstO (as.map .ref)) :: (seqC sv as rs ++ cs)) s' → Q (.str (mailM rs.flatten turn) t) s'),
    Ok (A.deeper (envX "_law_mail" (scOf (stOf 22)) L 199 cd [])) (k + 2) → St B ((L, NsO fun zq => ([(Str.ofString "lines", .ref Dl), (Str.ofString "turn", .int turn tt)] : List (Str × Value)).reverse.lookup zq) :: ((Dl, LstO (as.map .ref)) :: (seqC sv as rs ++ cs))) s1 →
    wpAny (model prog w) (A.deeper (envX "_law_mail" (scOf (stOf 22)) L 199 cd [])) (execs (bdOf (stOf 22)) (envX "_law_mail" (scOf (stOf 22)) L 199 cd [])) (fun f s' => Q (match f with | .ret v => v | _ => .none) s') E' s1
noncomputable def T (x : X) : Prop := S x.1 x.2.1 x.2.2.1 x.2.2.2.1 x.2.2.2.2.1 x.2.2.2.2.2.1 x.2.2.2.2.2.2.1 x.2.2.2.2.2.2.2.1 x.2.2.2.2.2.2.2.2.1 x.2.2.2.2.2.2.2.2.2.1 x.2.2.2.2.2.2.2.2.2.2.1 x.2.2.2.2.2.2.2.2.2.2.2.1 x.2.2.2.2.2.2.2.2.2.2.2.2.1 x.2.2.2.2.2.2.2.2.2.2.2.2.2.1 x.2.2.2.2.2.2.2.2.2.2.2.2.2.2.1 x.2.2.2.2.2.2.2.2.2.2.2.2.2.2.2.1 x.2.2.2.2.2.2.2.2.2.2.2.2.2.2.2.2
noncomputable def x0 : X := @Classical.epsilon X ⟨⟨default, dumW, {}, fun _ _ => True, dumS, [], fun _ _ => True, 0, [], [], 0, default, 0, 0, default, dumS, fun _ _ => True⟩⟩ fun x => ¬ T x
noncomputable def prog : Program := x0.1
noncomputable def w : World := x0.2.1
noncomputable def A : Around := x0.2.2.1
noncomputable def E : Value → Shared → Prop := x0.2.2.2.1
noncomputable def B : Shared := x0.2.2.2.2.1
noncomputable def cs : List Cel := x0.2.2.2.2.2.1
noncomputable def Q : Value → Shared → Prop := x0.2.2.2.2.2.2.1
noncomputable def Dl : Addr := x0.2.2.2.2.2.2.2.1
noncomputable def as : List Addr := x0.2.2.2.2.2.2.2.2.1
noncomputable def rs : List (List Str) := x0.2.2.2.2.2.2.2.2.2.1
noncomputable def turn : Nat := x0.2.2.2.2.2.2.2.2.2.2.1
noncomputable def tt : Tok := x0.2.2.2.2.2.2.2.2.2.2.2.1
noncomputable def k : Nat := x0.2.2.2.2.2.2.2.2.2.2.2.2.1
noncomputable def L : Addr := x0.2.2.2.2.2.2.2.2.2.2.2.2.2.1
noncomputable def cd : Value := x0.2.2.2.2.2.2.2.2.2.2.2.2.2.2.1
noncomputable def s1 : Shared := x0.2.2.2.2.2.2.2.2.2.2.2.2.2.2.2.1
noncomputable def E' : Value → Shared → Prop := x0.2.2.2.2.2.2.2.2.2.2.2.2.2.2.2.2
theorem at_ : S prog w A E B cs Q Dl as rs turn tt k L cd s1 E' := by
  intro Fn Nm ok hlen hne hz hc ht h ok1 H1
  refine wpAny_execs_cons ?_
  have H2 := St.sink (pre := [(Dl, LstO (as.map .ref))]) (T := seqC sv as rs) H1
  rw [List.append_assoc] at H2
  refine x_flat (B := B) (f := sv) (fun _ => true) (fun b v => sv v = some b) ok1.handled (n_local H1 (by k_mem) rfl ⟨Dl, as, rs, _, rfl, H2, hlen, Nat.le_trans hz (show 100 ≤ sizeLine by decide), ?_⟩) rfl ?_ ?_ rfl
  · intro D ys pr
    have hys : ys.map sv = (rs.flatten).map some := by
      have := paired_map (g := id) pr
      rwa [List.map_id, List.filter_eq_self.mpr (by simp)] at this
    refine ⟨_, _, .tail (.tail (Upd.app .head _)), fun s3 H3 => ?_⟩
    have H4 := St.rise (pre := [_, _]) (H3.weak (P' := SeqO sv rs.flatten) .head fun o ho => ⟨_, ho, hys⟩)
    clear H3 H2 H1 pr
    generalize rs.flatten = all at hne hz hc H4 hys h ⊢
    have g0 : ∀ i : Nat, i < all.length → all[i]? = some (all.getD i Str.empty) := fun i hi => by
      rw [List.getD_eq_getElem?_getD, List.getElem?_eq_getElem hi]; rfl
    refine wpAny_execs_cons ?_
    refine wpAny_Assign_Name (Subscript_ (n_local H4 (by k_mem) rfl (c_int H4 fun t5 s5 H5 => sub_strs H5 (.tail _ (.head _)) (by (exact Int.natCast_nonneg _)) (by (exact Int.natCast_nonneg _)) (g0 0 hne) fun t6 => s_local (m' := fun _ => none) H5 .head fun s7 H7 => ?_)))
    refine wpAny_execs_cons ?_
    refine wpAny_For ?_
    refine e_call (n_blt H7 Nm (by k_mem) (by rfl) (cw_ty (wpAny_items_cons (c_int H7 fun t8 s8 H8 => wpAny_items_cons (e_call (n_blt H8 Nm (by k_mem) (by rfl) (cw_blt (wpAny_items_cons (n_local H8 (by k_mem) rfl (wpAny_items_nil (f_len_seq (f := sv) H8 (.tail _ (.head _)) (by (exact Nat.lt_of_le_of_lt (by assumption) (by decide))) fun t9 s9 H9 => wpAny_items_nil (range2 H9 fun r s10 H10 => ?_))))))))))))
    rw [show (all.length : Int) = 1 + ((all.length - 1 : Nat) : Int) by lia] at H10
    refine pyIter_range H10 (by (exact Int.natCast_nonneg _)) (by (clear hlen ht hne; omega)) fun it s11 H11 => ?_
    refine r_for (iter_range ok1.handled) (fun y : (Str → Option Value) × Nat => (L, NsO y.1) :: (D, SeqO sv all) :: (Dl, LstO (as.map .ref)) :: (seqC sv as rs ++ cs)) (fun ks y => y.1 (Str.ofString "rows") = some (.ref D) ∧ (∃ t, y.1 (Str.ofString "turn") = some (.int turn t)) ∧ (∃ t, y.1 (Str.ofString "mail") = some (.str (accM all turn y.2) t)) ∧ y.2 + 1 + ks.length = all.length ∧ ks = upR (1 + y.2) (all.length - 1 - y.2)) (x0 := (_, 0)) H11 ⟨rfl, ⟨_, rfl⟩, ⟨t6, rfl⟩, by rw [upR_len]; dsimp only; lia, rfl⟩ ?_ ?_
    · clear H11 H10 H9 H8 H7 H5 H4
      rintro kk ks v ⟨m, i⟩ s1 E1 ⟨tv, hv⟩ ⟨hmr, ⟨tt2, hmt⟩, ⟨tm, hmm⟩, hcnt, hks⟩ H1
      subst hv
      dsimp only at hmr hmt hmm hcnt hks
      rw [List.length_cons] at hcnt
      rw [show all.length - 1 - i = (all.length - 1 - (i + 1)) + 1 by lia] at hks
      injection hks with hk1 hk2
      subst hk1
      refine wpAny_assign_Name (s_local (m' := fun _ => none) H1 (.tail .head) fun s2 H2 => ?_)
      refine wpAny_execs_cons ?_
      refine wpAny_AugAssign_Name (n_localL H2 (by k_mem) (by exact hmm) (wpAny_BinOp (Subscript_ ?_)))
      refine d_list (B := B) ?_
      refine wpAny_items_cons ?_
      with_reducible refine c_str H2 fun t3 s3 H3 => ?_
      refine wpAny_items_cons ?_
      with_reducible refine c_str H3 fun t4 s4 H4 => ?_
      refine wpAny_items_cons ?_
      with_reducible refine c_str H4 fun t5 s5 H5 => ?_
      refine wpAny_items_nil ⟨_, H5, (show 3 ≤ sizeLine by decide), fun D2 s6 H6 => ?_⟩
      refine wpAny_BinOp (wpAny_BinOp (n_local H6 (by k_mem) rfl (n_local H6 (by k_mem) (by exact hmt) (i_add H6 fun t7 s7 H7 => c_int H7 fun t8 s8 H8 => i_mod H8 (by decide) fun t9 s9 H9 => ?_))))
      have em : (1 + (i : Int) + (turn : Int)).fmod 3 = ((i + 1 + turn) % 3 : Nat) := by
        rw [Int.fmod_eq_emod_of_nonneg _ (by (exact Int.natCast_nonneg _))]; lia
      rw [em]
      have h3 : (i + 1 + turn) % 3 < 3 := Nat.mod_lt _ (by decide)
      have hsep : ∃ t, ([.str (Str.ofString "\n") t3, .str (Str.ofString "\r") t4, .str (Str.ofString "\r\n") t5] : List Value)[(((i + 1 + turn) % 3 : Nat) : Int).toNat]? = some (.str (sepM (i + 1 + turn)) t) := by
        rw [Int.toNat_natCast]
        unfold sepM
        have : (i + 1 + turn) % 3 = 0 ∨ (i + 1 + turn) % 3 = 1 ∨ (i + 1 + turn) % 3 = 2 := by (clear h3; lia)
        rcases this with e | e | e <;> rw [e]
        · exact ⟨t3, rfl⟩
        · exact ⟨t4, rfl⟩
        · exact ⟨t5, rfl⟩
      obtain ⟨ts, hts⟩ := hsep
      refine sub_list H9 (.head _) (by (exact Int.natCast_nonneg _)) (by (clear hlen hne hz hcnt em h3; omega)) hts ?_
      have ek : (1 + (i : Int)).toNat = i + 1 := by (exact Nat.add_comm _ _)
      refine Subscript_ (n_local H9 (by k_mem) (by exact hmr) (n_local H9 (by k_mem) rfl (sub_strs H9 (.tail _ (.tail _ (.tail _ (.head _)))) (by (exact Int.natCast_nonneg _)) (by lia) (by rw [ek]; exact g0 (i + 1) (by lia)) fun t10 => ?_)))
      have hl1 := sep_len (i + 1 + turn)
      have hl2 := hc (all.getD (i + 1) Str.empty) (List.mem_of_getElem? (g0 (i + 1) (by lia)))
      have hl3 := acc_len all turn 1000 hc i (by lia)
      have hl4 : (i + 1) * 1002 ≤ 100 * 1002 := Nat.mul_le_mul_right _ (by lia)
      refine t_add H9 (Nat.le_trans (by lia) (show 200000 ≤ sizeLine by decide)) fun t11 s11 H11 => ?_
      refine t_iadd H11 (Nat.le_trans (by rw [str_len_app]; lia) (show 200000 ≤ sizeLine by decide)) fun t12 s12 H12 => s_local (m' := fun _ => none) H12 (.tail (.tail .head)) fun s13 H13 => ?_
      refine wpAny_execs_nil ⟨rfl, (_, i + 1), ⟨by exact hmr, ⟨tt2, by exact hmt⟩, ⟨t12, rfl⟩, by dsimp only; lia, ?_⟩, H13.cut 0 1⟩
      dsimp only
      rw [hk2]
      congr 1
    · rintro ⟨m, i⟩ s1 ⟨hmr, _, ⟨tm, hmm⟩, hcnt, hks⟩ H1
      dsimp only at hmr hmm hcnt hks
      refine wpAny_execs_cons ?_
      refine wpAny_Return_some (n_local H1 (by k_mem) hmm ?_)
      have e : mailM all turn = accM all turn i := by
        unfold mailM
        rw [show all.length - 1 = i by simp at hcnt; lia]
      rw [e] at h
      exact h tm s1 (H1.drop 2)
  · intro C D b v m ys Y s E hv hm H
    exact wpAny_tests_nil ⟨rfl, H⟩
  · intro C D b v m ys Y s E _ hv hm H
    exact n_local H (.head _) hm ⟨hv, H⟩
theorem all_ (x : X) : T x := Classical.byContradiction fun hn => Classical.epsilon_spec (p := fun x => ¬ T x) ⟨x, hn⟩ at_
end MaD
section
variable {prog : Program} {w : World} {A : Around} {E : Value → Shared → Prop} {B s : Shared} {cs cs' : List Cel} {env : Env} {Q : Value → Shared → Prop}
theorem spec_mail {Dl : Addr} {as : List Addr} {rs : List (List Str)} {turn : Nat} {tt : Tok} {k : Nat} (Fn : Fns B) (Nm : Names B) (ok : Ok A (k + 3)) (H : St B ((Dl, LstO (as.map .ref)) :: (seqC sv as rs ++ cs)) s) (hlen : as.length = rs.length) (hne : 0 < rs.flatten.length) (hz : rs.flatten.length ≤ 100) (hc : ∀ r ∈ rs.flatten, r.length ≤ 1000) (ht : turn ≤ 1000) (h : ∀ t s', St B ((Dl, LstO (as.map .ref)) :: (seqC sv as rs ++ cs)) s' → Q (.str (mailM rs.flatten turn) t) s') :
    wpAny (model prog w) A (call (.ref 199) [.ref Dl, .int turn tt]) Q E s := by
  refine call_fn (binds := [(Str.ofString "lines", .ref Dl), (Str.ofString "turn", .int turn tt)]) Fn.mail (fun _ _ _ => rfl) ok Nm H (fun _ _ _ => BindsTo.of_eq rfl) ?_
  intro L cd s1 E' ok1 H1
  exact MaD.all_ ⟨prog, w, A, E, B, cs, Q, Dl, as, rs, turn, tt, k, L, cd, s1, E'⟩ Fn Nm ok hlen hne hz hc ht h ok1 H1

end
end Mine
end
section
set_option maxRecDepth 100000
set_option maxHeartbeats 1000000
namespace Mine
open PySem PySem.Calls PyProof.Rows PySem.W PySem.Builtin PySem.Builtin.Str PySem.StrLaws

noncomputable def joinL : List (List Nat) → List Nat
  | [] => []
  | [r] => r
  | r :: r2 :: rs => r ++ 13 :: 10 :: joinL (r2 :: rs)

noncomputable abbrev crlf : Str := ⟨#[13, 10]⟩
theorem at_iff (x : Str) (k : Nat) : At x crlf x.length k ↔ k + 2 ≤ x.cps.toList.length ∧ (x.cps.toList.drop k).take 2 = [13, 10] := by
  have hn : x.cps.toList.length = x.length := by simp [Str.length]
  constructor
  · rintro ⟨h1, h2⟩
    refine ⟨by rw [hn]; exact h1, ?_⟩
    rw [subAt_eq] at h2
    exact eq_of_beq h2
  · rintro ⟨h1, h2⟩
    refine ⟨by rw [← hn]; exact h1, ?_⟩
    rw [subAt_eq]
    show ((x.cps.toList.drop k).take 2 == [13, 10]) = true
    rw [h2]; rfl

theorem no_at {x : Str} {a k : Nat} {r : List Nat} {rest : List Nat} (hd : x.cps.toList.drop a = r ++ rest) (hr : 13 ∉ r) (h1 : a ≤ k) (h2 : k < a + r.length) : ¬ At x crlf x.length k := by
  intro h
  have h := ((at_iff x k).mp h).2
  have e : x.cps.toList.drop k = (r ++ rest).drop (k - a) := by rw [← hd, List.drop_drop]; congr 1; lia
  rw [e, List.drop_append_of_le_length (by lia)] at h
  have hl : k - a < r.length := by lia
  rw [List.drop_eq_getElem_cons hl] at h
  injection h with h _
  exact hr (h ▸ List.getElem_mem hl)

theorem parts_rows (x : Str) : ∀ (rows : List Str) (cuts : List Nat) (a f : Nat), rows ≠ [] → x.cps.toList.drop a = joinL (rows.map (·.cps.toList)) → a ≤ x.cps.toList.length → (∀ r ∈ rows, 13 ∉ r.cps.toList) → ChainG x crlf x.length a cuts f → (∀ k, f ≤ k → ¬ At x crlf x.length k) →
    partsFrom x 2 a cuts = rows ∧ cuts.length + 1 = rows.length
  | [], _, _, _, h, _, _, _, _, _ => absurd rfl h
  | [r], cuts, a, f, _, hd, ha, hno, hC, hn => by
    have hd : x.cps.toList.drop a = r.cps.toList := hd
    have hlen : x.cps.toList.length = a + r.cps.toList.length := by
      have := congrArg List.length hd; rw [List.length_drop] at this; lia
    have hnone : ∀ k, a ≤ k → ¬ At x crlf x.length k := fun k hk => by
      by_cases h2 : k < a + r.cps.toList.length
      · exact no_at (rest := []) (by rw [List.append_nil]; exact hd) (hno r (.head _)) hk h2
      · intro h
        have := ((at_iff x k).mp h).1
        lia
    cases cuts with
    | nil =>
      refine ⟨?_, rfl⟩
      unfold partsFrom
      congr 1
      apply Str.ext'
      apply Array.toList_inj.mp
      rw [strSub_toList, hd, List.take_of_length_le]
      have : x.cps.toList.length = x.length := by simp [Str.length]
      (clear ha; lia)
    | cons c cs => exact absurd hC.2.1 (hnone c hC.1)
  | r :: r2 :: rs, cuts, a, f, _, hd, ha, hno, hC, hn => by
    have hd : x.cps.toList.drop a = r.cps.toList ++ 13 :: 10 :: joinL ((r2 :: rs).map (·.cps.toList)) := hd
    have hlen : x.cps.toList.length = a + (r.cps.toList.length + (2 + (joinL ((r2 :: rs).map (·.cps.toList))).length)) := by
      have := congrArg List.length hd
      rw [List.length_drop, List.length_append, List.length_cons, List.length_cons] at this
      (clear ha; lia)
    have hat : At x crlf x.length (a + r.cps.toList.length) := by
      refine (at_iff x _).mpr ⟨by lia, ?_⟩
      rw [← List.drop_drop, hd, List.drop_left]; rfl
    have hbefore : ∀ k, a ≤ k → k < a + r.cps.toList.length → ¬ At x crlf x.length k := fun k h1 h2 => no_at hd (hno r (.head _)) h1 h2
    cases cuts with
    | nil =>
      have e : f = a := hC
      subst e
      exact absurd hat (hn _ (by (exact Nat.le_add_right _ _)))
    | cons c cs =>
      obtain ⟨h1, h2, h3, h4⟩ := hC
      have hc : c = a + r.cps.toList.length := by
        rcases Nat.lt_trichotomy c (a + r.cps.toList.length) with q | q | q
        · exact absurd h2 (hbefore c h1 q)
        · exact q
        · exact absurd hat (h3 _ (by (exact Nat.le_add_right _ _)) q)
      subst hc
      have ih := parts_rows x (r2 :: rs) cs (a + r.cps.toList.length + 2) f (by simp) (by rw [← List.drop_drop, ← List.drop_drop, hd, List.drop_left]; rfl) (by lia) (fun r hr => hno r (.tail _ hr)) h4 hn
      refine ⟨?_, by simp only [List.length_cons] at ih ⊢; lia⟩
      show strSub x a (a + r.cps.toList.length) :: partsFrom x 2 (a + r.cps.toList.length + 2) cs = _
      rw [ih.1]
      congr 1
      apply Str.ext'
      apply Array.toList_inj.mp
      rw [strSub_toList, hd, show a + r.cps.toList.length - a = r.cps.toList.length by (exact Nat.add_sub_cancel_left _ _), List.take_left]

theorem split_rows (x : Str) (rows : List Str) (h2 : 2 ≤ rows.length) (hx : x.cps.toList = joinL (rows.map (·.cps.toList))) (hno : ∀ r ∈ rows, 13 ∉ r.cps.toList) :
    partsBetween x (occurrences x crlf 0 x.length (x.length + 1)) 2 = rows ∧ (occurrences x crlf 0 x.length (x.length + 1)).isEmpty = false := by
  obtain ⟨f, hC, hn⟩ := occ_tight x crlf (by decide)
  have h := parts_rows x rows _ 0 f (by rintro rfl; simp at h2) (by rw [List.drop_zero]; exact hx) (Nat.zero_le _) hno hC hn
  refine ⟨by rw [partsBetween_eq]; exact h.1, ?_⟩
  cases e : occurrences x crlf 0 x.length (x.length + 1) with
  | nil => rw [e] at h; simp at h; lia
  | cons _ _ => rfl

noncomputable def dotrow : List Nat → List Nat
  | [] => []
  | c :: r => if c = 46 then 46 :: 46 :: r else c :: r

theorem dotrow_yes (r : List Nat) : dotrow (46 :: r) = 46 :: 46 :: r := rfl
theorem dotrow_no {c : Nat} (r : List Nat) (h : c ≠ 46) : dotrow (c :: r) = c :: r := by
  show (if c = 46 then _ else _) = _
  rw [if_neg h]

theorem norm_app (n : Nat) (a b : List Nat) (_ : a.length ≤ n) (h : ¬ (a.getLast? = some 13 ∧ b.head? = some 10)) : normL (a ++ b) = normL a ++ normL b := by
  show normS false (a ++ b) = normS false a ++ normS false b
  rw [normS_app]
  refine congrArg _ ?_
  cases a with
  | nil => rfl
  | cons c a =>
    show normS (normF (c == 13) a) b = _
    cases e : normF (c == 13) a with
    | false => rfl
    | true =>
      have hl := normF_last a c e
      cases b with
      | nil => rfl
      | cons d b =>
        have h10 : d ≠ 10 := fun q => h ⟨hl, congrArg some q⟩
        show (if d = 13 then _ else if d = 10 then _ else _) ++ normS (d == 13) b = (if d = 13 then _ else if d = 10 then _ else _) ++ normS (d == 13) b
        rw [if_neg h10, if_neg h10]

theorem joinL_snoc : ∀ (l : List (List Nat)) (r : List Nat), l ≠ [] → joinL (l ++ [r]) = joinL l ++ 13 :: 10 :: r
  | [], _, h => absurd rfl h
  | [a], r, _ => rfl
  | a :: b :: l, r, _ => by
    have := joinL_snoc (b :: l) r (by simp)
    show a ++ 13 :: 10 :: joinL (b :: l ++ [r]) = (a ++ 13 :: 10 :: joinL (b :: l)) ++ 13 :: 10 :: r
    rw [this]; simp

theorem sep_cps (i : Nat) : (i % 3 = 0 ∧ (sepM i).cps.toList = [10]) ∨ (i % 3 = 1 ∧ (sepM i).cps.toList = [13]) ∨ (i % 3 = 2 ∧ (sepM i).cps.toList = [13, 10]) := by
  unfold sepM
  have h : i % 3 = 0 ∨ i % 3 = 1 ∨ i % 3 = 2 := by lia
  have e0 : (Str.ofString "\n").cps.toList = [10] := by decide +kernel
  have e1 : (Str.ofString "\r").cps.toList = [13] := by decide +kernel
  have e2 : (Str.ofString "\r\n").cps.toList = [13, 10] := by decide +kernel
  rcases h with h | h | h <;> rw [h]
  · exact .inl ⟨rfl, e0⟩
  · exact .inr (.inl ⟨rfl, e1⟩)
  · exact .inr (.inr ⟨rfl, e2⟩)
theorem app_list (a b : Str) : (a ++ b).cps.toList = a.cps.toList ++ b.cps.toList := by
  show (a.cps ++ b.cps).toList = _
  exact Array.toList_append

theorem sep_norm (i : Nat) (r : List Nat) (h : ∀ c ∈ r, c ≠ 10 ∧ c ≠ 13) : normL ((sepM i).cps.toList ++ r) = 13 :: 10 :: r := by
  have hr : normL r = r := by
    have := norm_pre (p := r) [] h
    rw [List.append_nil, norm_nil, List.append_nil] at this; exact this
  have hh : r.head? ≠ some 10 := by
    cases r with
    | nil => simp
    | cons c r => intro e; injection e with e; exact (h c (.head _)).1 e
  rcases sep_cps i with ⟨_, e⟩ | ⟨_, e⟩ | ⟨_, e⟩ <;> rw [e]
  · rw [List.singleton_append, norm_lf, hr]
  · rw [List.singleton_append, norm_cr hh, hr]
  · rw [List.cons_append, List.cons_append, List.nil_append, norm_crlf, hr]

theorem acc_norm (rows : List Str) (turn : Nat) (h : ∀ r ∈ rows, ∀ c ∈ r.cps.toList, c ≠ 10 ∧ c ≠ 13) : ∀ k, k < rows.length → normL (accM rows turn k).cps.toList = joinL ((rows.take (k + 1)).map (·.cps.toList)) ∧
    ((accM rows turn k).cps.toList.getLast? = some 13 → (k + turn) % 3 = 1)
  | 0, hk => by
    have e : rows.getD 0 Str.empty = rows[0] := by rw [List.getD_eq_getElem?_getD, List.getElem?_eq_getElem hk]; rfl
    have hr := h rows[0] (List.getElem_mem hk)
    have e2 : accM rows turn 0 = rows[0] := e
    rw [e2]
    refine ⟨?_, fun hl => ?_⟩
    · have := norm_pre (p := rows[0].cps.toList) [] hr
      rw [List.append_nil, norm_nil, List.append_nil] at this
      rw [this]
      have e3 : rows.take 1 = [rows[0]] := by
        cases rows with
        | nil => simp at hk
        | cons a b => rfl
      rw [e3]; rfl
    · exact absurd rfl (hr 13 (List.mem_of_getLast? hl)).2
  | k + 1, hk => by
    have ih := acc_norm rows turn h k (by (exact Nat.le_of_lt (by assumption)))
    have e : rows.getD (k + 1) Str.empty = rows[k + 1] := by rw [List.getD_eq_getElem?_getD, List.getElem?_eq_getElem hk]; rfl
    have hr := h rows[k + 1] (List.getElem_mem hk)
    have e2 : accM rows turn (k + 1) = accM rows turn k ++ (sepM (k + 1 + turn) ++ rows[k + 1]) := by rw [← e]; rfl
    rw [e2, app_list, app_list]
    refine ⟨?_, fun hl => ?_⟩
    · rw [norm_app _ _ _ (Nat.le_refl _), ih.1, sep_norm _ _ hr]
      · have e3 : rows.take (k + 1 + 1) = rows.take (k + 1) ++ [rows[k + 1]] := by
          rw [List.take_add_one, List.getElem?_eq_getElem hk]; rfl
        rw [e3, List.map_append, List.map_singleton, joinL_snoc]
        intro e4
        have := congrArg List.length e4
        rw [List.length_map, List.length_take, List.length_nil] at this
        (clear e3; lia)
      · rintro ⟨h1, h2⟩
        have h3 := ih.2 h1
        rcases sep_cps (k + 1 + turn) with ⟨q, e⟩ | ⟨q, e⟩ | ⟨q, e⟩
        · omega
        · omega
        · rw [e] at h2; cases h2
    · by_cases hne : rows[k + 1].cps.toList = []
      · rw [hne, List.append_nil] at hl
        rcases sep_cps (k + 1 + turn) with ⟨q, e⟩ | ⟨q, e⟩ | ⟨q, e⟩
        · rw [e, List.getLast?_append] at hl; cases hl
        · exact q
        · rw [e, List.getLast?_append] at hl; cases hl
      · obtain ⟨c, hc⟩ : ∃ c, rows[k + 1].cps.toList.getLast? = some c := ⟨_, List.getLast?_eq_some_getLast hne⟩
        rw [List.getLast?_append, List.getLast?_append, hc] at hl
        have : c = 13 := Option.some.inj hl
        exact absurd this (hr c (List.mem_of_getLast? hc)).2

theorem dot_false : ∀ (r rest : List Nat), (∀ c ∈ r, c ≠ 10) → dotL false (r ++ rest) = r ++ dotL false rest
  | [], _, _ => rfl
  | c :: r, rest, h => by
    rw [List.cons_append, dot_cons, if_neg (by simp)]
    have hc : (c == 10) = false := by simpa using h c (.head _)
    rw [hc, dot_false r rest fun d hd => h d (.tail _ hd)]; rfl
theorem dot_true (r rest : List Nat) (h : ∀ c ∈ r, c ≠ 10) (hr : r = [] → dotL true rest = dotL false rest) : dotL true (r ++ rest) = dotrow r ++ dotL false rest := by
  cases r with
  | nil => exact hr rfl
  | cons c r =>
    rw [List.cons_append, dot_cons]
    have hf := dot_false r rest fun d hd => h d (.tail _ hd)
    by_cases hc : c = 46
    · subst hc; rw [if_pos ⟨rfl, rfl⟩, hf, dotrow_yes]; rfl
    · rw [if_neg (fun q => hc q.2)]
      have h10 : (c == 10) = false := by simpa using h c (.head _)
      rw [h10, hf, dotrow_no _ hc]; rfl
theorem dot_join : ∀ (l : List (List Nat)), (∀ r ∈ l, ∀ c ∈ r, c ≠ 10) → dotL true (joinL l) = joinL (l.map dotrow)
  | [], _ => rfl
  | [r], h => by
    have := dot_true r [] (h r (.head _)) (fun _ => rfl)
    rw [List.append_nil] at this
    show dotL true r = dotrow r
    rw [this]; exact List.append_nil _
  | r :: r2 :: rs, h => by
    have ih := dot_join (r2 :: rs) fun q hq => h q (.tail _ hq)
    show dotL true (r ++ 13 :: 10 :: joinL (r2 :: rs)) = dotrow r ++ 13 :: 10 :: joinL ((r2 :: rs).map dotrow)
    rw [dot_true r _ (h r (.head _)) (fun _ => rfl), ← ih]
    rfl

theorem mail_law (rows : List Str) (turn : Nat) (hne : rows ≠ []) (h : ∀ r ∈ rows, ∀ c ∈ r.cps.toList, c ≠ 10 ∧ c ≠ 13) :
    dotL true (normL (mailM rows turn).cps.toList) = joinL ((rows.map fun r => dotrow r.cps.toList)) := by
  have hl : 0 < rows.length := List.length_pos_iff.mpr hne
  unfold mailM
  rw [(acc_norm rows turn h (rows.length - 1) (by (exact Nat.sub_lt (by assumption) (by decide)))).1, show rows.length - 1 + 1 = rows.length by (exact Nat.sub_add_cancel (by assumption)), List.take_length, dot_join]
  · rw [List.map_map]; rfl
  · intro r hr c hc
    obtain ⟨r', hr', e⟩ := List.mem_map.mp hr
    subst e
    exact (h r' hr' c hc).1
end Mine
end
section
set_option maxRecDepth 100000
set_option maxHeartbeats 1000000
namespace Mine
open PySem PySem.Calls PyProof.Rows PySem.W PySem.Builtin PySem.Builtin.Str PySem.StrLaws

theorem strsFrom_sv : ∀ (l : List Str) (k : Nat), (strsFrom k l).map sv = l.map some
  | [], _ => rfl
  | x :: r, k => by
    show sv (.str x k) :: (strsFrom (k + 1) r).map sv = some x :: r.map some
    rw [strsFrom_sv r (k + 1)]; rfl
theorem crlf_str : Str.ofString "\r\n" = crlf := by decide +kernel

section
variable {prog : Program} {w : World} {A : Around} {E : Value → Shared → Prop} {B s : Shared} {cs cs' : List Cel} {Q : Value → Shared → Prop}
theorem f_split {x : Str} {t u : Tok} {rows : List Str} (H : St B cs s) (hz : x.length ≤ 100000) (h2 : 2 ≤ rows.length) (hr : rows.length ≤ 100000) (hx : x.cps.toList = joinL (rows.map (·.cps.toList))) (hno : ∀ r ∈ rows, 13 ∉ r.cps.toList)
    (h : ∀ D s', St B ((D, StrsO rows) :: cs) s' → Q (.ref D) s') : wpAny (model prog w) A (call (.builtin "str.split") [.str x t, .str (Str.ofString "\r\n") u]) Q E s := by
  rw [crlf_str]
  obtain ⟨e1, e2⟩ := split_rows x rows h2 hx hno
  have hl : crlf.length = 2 := rfl
  have hlen : 2 ≤ x.length := by
    have : x.length = x.cps.toList.length := by simp [Str.length]
    rw [this, hx]
    match rows, h2 with
    | a :: b :: r, _ =>
      show 2 ≤ (_ ++ 13 :: 10 :: _ : List Nat).length
      rw [List.length_append, List.length_cons, List.length_cons]; (exact Nat.le_add_left _ _)
  have hk : (decide (x.length < crlf.length) || decide (Builtin.Str.strKind x < Builtin.Str.strKind crlf)) = false := by
    rw [hl, decide_eq_false (by (exact Nat.not_lt_of_le (by assumption)))]
    have : Builtin.Str.strKind crlf = 1 := by decide +kernel
    rw [this]
    have : 1 ≤ Builtin.Str.strKind x := by
      unfold Builtin.Str.strKind
      split
      · (exact Nat.le_refl _)
      · split <;> (exact Nat.succ_pos _)
    rw [decide_eq_false (by (exact Nat.not_lt_of_le (by assumption)))]; rfl
  refine call_meets F.slot_str_split (typeIs_str s x t) F.entry_str_split (F.args_str_split_2 _ _) (meets_str_split_sep x crlf t u hk rfl e2 (Nat.le_trans hz (by decide)) (by rw [hl, e1]; exact Nat.le_trans hr (by decide))) ?_
  rw [hl, e1]
  refine h _ _ ?_
  exact H.push (t := s.toks + rows.length) ⟨_, ⟨0, rfl⟩, strsFrom_sv rows s.toks⟩
end
end Mine
end
section
set_option maxRecDepth 100000
namespace Mine
open PySem PySem.Calls PyProof.Rows PySem.W PySem.SeqAt Builtin

noncomputable def Within (lo hi : Nat) (rows : List (List Nat)) : Prop := ∀ r ∈ rows, ∀ v ∈ r, lo ≤ v ∧ v ≤ hi
theorem get_in {N r c : Nat} {rows : List (List Nat)} (h : Shape N rows) (hrc : r + c < N) : ∃ row ∈ rows, getR rows r c ∈ row := by
  have hr : r < rows.length := by rw [h.1]; lia
  have hc := h.2 r (by lia)
  refine ⟨rows[r], List.getElem_mem hr, ?_⟩
  have e : rows.getD r [] = rows[r] := by rw [List.getD_eq_getElem?_getD, List.getElem?_eq_getElem hr]; rfl
  rw [e] at hc
  unfold getR
  rw [e, List.getD_eq_getElem?_getD, List.getElem?_eq_getElem (by lia)]
  exact List.getElem_mem _
theorem set_in {lo hi r c x : Nat} {rows : List (List Nat)} (h : Within lo hi rows) (hx : lo ≤ x ∧ x ≤ hi) : Within lo hi (setR rows r c x) := by
  intro row hrow v hv
  rcases List.mem_or_eq_of_mem_set hrow with h1 | h1
  · exact h row h1 v hv
  · subst h1
    rcases List.mem_or_eq_of_mem_set hv with h2 | h2
    · rw [List.getD_eq_getElem?_getD] at h2
      cases e : rows[r]? with
      | none => rw [e] at h2; cases h2
      | some row' => rw [e] at h2; exact h row' (List.mem_of_getElem? e) v h2
    · subst h2; exact hx
theorem above_le (st : SlSt) : aboveM st ≤ st.1.1 := by unfold aboveM; split <;> (first | exact Nat.sub_le _ _ | exact Nat.le_refl _ | omega +splitNatSub | lia)
theorem beside_le (st : SlSt) : besideM st ≤ st.1.2 := by unfold besideM; split <;> (first | exact Nat.sub_le _ _ | exact Nat.le_refl _ | omega +splitNatSub | lia)
theorem iter_in {N lo hi : Nat} : ∀ (k : Nat) (st : SlSt), Shape N st.2 → st.1.1 + st.1.2 < N → Within lo hi st.2 → Shape N (iterS k st).2 ∧ Within lo hi (iterS k st).2
  | 0, st, h1, _, h3 => ⟨h1, h3⟩
  | k + 1, st, h1, h2, h3 => by
    have ha := above_le st
    have hb := beside_le st
    obtain ⟨row, hrow, hv⟩ := get_in h1 (by lia : aboveM st + besideM st < N)
    exact iter_in k (stepS st) (shape_step h1) (by show aboveM st + besideM st < N; lia) (set_in h3 (h3 row hrow _ hv))
theorem slide_in {N lo hi : Nat} {rows : List (List Nat)} (h1 : Shape N rows) (h2 : Within lo hi rows) (hidx : ((N : Int) - 1) ∈ sumsM (endsM N rows)) (hlo : lo ≤ 1) (hhi : 1 ≤ hi) :
    Shape N (slideM N rows).2 ∧ Within lo hi (slideM N rows).2 ∧ (slideM N rows).1 < N := by
  have hr := List.idxOf_lt_length_of_mem hidx
  have hl : (sumsM (endsM N rows)).length = N := by unfold sumsM endsM; rw [List.length_map, List.length_map, upR_len]
  rw [hl] at hr
  have h := iter_in (lo := lo) (hi := hi) (N - 1) (((sumsM (endsM N rows)).idxOf ((N : Int) - 1), N - 1 - (sumsM (endsM N rows)).idxOf ((N : Int) - 1)), rows) h1 (by dsimp only; (clear hlo hhi hl; omega)) h2
  refine ⟨shape_set h.1, set_in h.2 ⟨hlo, hhi⟩, ?_⟩
  show N - 1 - _ < N
  (clear hlo hhi hl; omega)
theorem more_in {N lo hi : Nat} {rows : List (List Nat)} (h1 : Shape N rows) (h2 : Within lo hi rows) : Shape N (moreM rows) ∧ Within (lo + 1) (hi + 1) (moreM rows) := by
  refine ⟨⟨by unfold moreM; rw [List.length_map]; exact h1.1, fun r hr => ?_⟩, fun row hrow v hv => ?_⟩
  · have := h1.2 r hr
    unfold moreM
    rw [List.getD_eq_getElem?_getD] at this
    rw [List.getD_eq_getElem?_getD, List.getElem?_map]
    cases e : rows[r]? with
    | none => rw [e] at this; exact this
    | some x => rw [e] at this; simpa using this
  · obtain ⟨r, hr, rfl⟩ := List.mem_map.mp hrow
    obtain ⟨u, hu, rfl⟩ := List.mem_map.mp hv
    have := h2 r hr u hu
    (clear hv; lia)
theorem rows_in {N : Nat} {ord : List (Int × Int)} : Shape N (rowsM N ord) ∧ Within 2 (ord.length + 2) (rowsM N ord) := by
  refine ⟨⟨by unfold rowsM; rw [List.length_map, upR_len], fun r hr => ?_⟩, fun row hrow v hv => ?_⟩
  · unfold rowsM
    rw [List.getD_eq_getElem?_getD, List.getElem?_map, upR_get 0 N r hr]
    show (rowM N ord (0 + (r : Int))).length = _
    unfold rowM
    rw [List.length_map, upR_len]; (clear hr; lia)
  · obtain ⟨r, hr, rfl⟩ := List.mem_map.mp hrow
    obtain ⟨c, hc, rfl⟩ := List.mem_map.mp hv
    have := List.idxOf_le_length (a := (r, c)) (l := ord)
    lia

noncomputable def linesS (rows : List (List Nat)) (d : Nat) : List (List Str) := rows.map (fun r => r.map dotS) ++ [restS d]
noncomputable def quoteS (r : Str) : Str := ⟨(dotrow r.cps.toList).toArray⟩
theorem quote_dot {k : Nat} (h : 1 ≤ k) : quoteS (dotS k) = dotS (k + 1) := by
  obtain ⟨j, rfl⟩ : ∃ j, k = j + 1 := ⟨k - 1, by lia⟩
  unfold quoteS dotS
  congr 2
theorem quote_rest {d : Nat} (h : 1 ≤ d) : (restS d).map quoteS = restS (d + 1) := by
  obtain ⟨j, rfl⟩ : ∃ j, d = j + 1 := ⟨d - 1, by lia⟩
  have e1 : quoteS Str.empty = Str.empty := by decide +kernel
  have e2 : quoteS (Str.ofString " .\u000b.") = Str.ofString " .\u000b." := by decide +kernel
  have e3 : quoteS ⟨(List.replicate (j + 1) 46).toArray⟩ = ⟨(List.replicate (j + 1 + 1) 46).toArray⟩ := by
    unfold quoteS; congr 2
  unfold restS
  rw [List.map_cons, List.map_cons, List.map_cons, List.map_nil, e1, e2, e3]
theorem quote_lines {rows : List (List Nat)} {d hi : Nat} (h : Within 1 hi rows) (hd : 1 ≤ d) : (linesS rows d).map (fun r => r.map quoteS) = linesS (moreM rows) (d + 1) := by
  unfold linesS moreM
  rw [List.map_append, List.map_singleton, quote_rest hd]
  congr 1
  rw [List.map_map, List.map_map]
  apply List.map_congr_left
  intro r hr
  simp only [Function.comp, List.map_map]
  apply List.map_congr_left
  intro v hv
  exact quote_dot (h r hr v hv).1
theorem plain_dot {k : Nat} : ∀ c ∈ (dotS k).cps.toList, c ≠ 10 ∧ c ≠ 13 := by
  intro c hc
  have : c ∈ List.replicate k 46 ++ [45] := by simpa [dotS] using hc
  rcases List.mem_append.mp this with h | h
  · have := List.eq_of_mem_replicate h; lia
  · simp at h; lia
theorem plain_rest {d : Nat} : ∀ r ∈ restS d, ∀ c ∈ r.cps.toList, c ≠ 10 ∧ c ≠ 13 := by
  intro r hr c hc
  unfold restS at hr
  simp only [List.mem_cons, List.not_mem_nil, or_false] at hr
  rcases hr with rfl | rfl | rfl
  · exact absurd hc (by show c ∉ []; simp)
  · have e : (Str.ofString " .\u000b.").cps.toList = [32, 46, 11, 46] := by decide +kernel
    rw [e] at hc
    simp at hc; lia
  · have : c ∈ List.replicate d 46 := by simpa using hc
    have := List.eq_of_mem_replicate this; lia
theorem plain_lines {rows : List (List Nat)} {d : Nat} : ∀ r ∈ (linesS rows d).flatten, ∀ c ∈ r.cps.toList, c ≠ 10 ∧ c ≠ 13 := by
  intro r hr
  obtain ⟨line, hl, hr⟩ := List.mem_flatten.mp hr
  rcases List.mem_append.mp hl with h | h
  · obtain ⟨row, _, rfl⟩ := List.mem_map.mp h
    obtain ⟨k, _, rfl⟩ := List.mem_map.mp hr
    exact plain_dot
  · have : line = restS d := by simpa using h
    subst this
    exact plain_rest r hr
theorem short_lines {rows : List (List Nat)} {d lo hi : Nat} (h : Within lo hi rows) (hh : hi ≤ 100) (hd : d ≤ 100) : ∀ r ∈ (linesS rows d).flatten, r.length ≤ 101 := by
  intro r hr
  obtain ⟨line, hl, hr⟩ := List.mem_flatten.mp hr
  rcases List.mem_append.mp hl with h1 | h1
  · obtain ⟨row, hrow, rfl⟩ := List.mem_map.mp h1
    obtain ⟨k, hk, rfl⟩ := List.mem_map.mp hr
    have := h row hrow k hk
    show Array.size _ ≤ _
    simp [dotS]; lia
  · have : line = restS d := by simpa using h1
    subst this
    unfold restS at hr
    simp only [List.mem_cons, List.not_mem_nil, or_false] at hr
    rcases hr with rfl | rfl | rfl
    · decide +kernel
    · decide +kernel
    · show Array.size _ ≤ _
      simp; (exact Nat.le_succ_of_le (by assumption))
theorem cut_law {α : Type} : ∀ (A : List (List α)) (ls : List Int) (t : List α), ls = A.map (fun r => (r.length : Int)) → cutM ls (A.flatten ++ t) = A ++ [t]
  | [], ls, t, h => by subst h; rfl
  | r :: A, ls, t, h => by
    subst h
    show (((r :: A).flatten ++ t).take ((r.length : Int)).toNat) :: cutM _ (((r :: A).flatten ++ t).drop ((r.length : Int)).toNat) = _
    have e : (r :: A).flatten ++ t = r ++ (A.flatten ++ t) := by simp
    rw [e, Int.toNat_natCast, List.take_left, List.drop_left, cut_law A _ t rfl]; rfl
theorem cut_lines {N : Nat} {rows : List (List Nat)} {d : Nat} (h : Shape N rows) : cutM (downs N) (linesS rows d).flatten = linesS rows d := by
  unfold linesS
  rw [List.flatten_append, List.flatten_singleton]
  refine cut_law _ _ _ ?_
  apply List.ext_getElem?
  intro i
  unfold downs
  rw [List.getElem?_map, List.getElem?_map, List.getElem?_map]
  by_cases hi : i < N
  · have hr := h.2 i hi
    have hl : i < rows.length := by rw [h.1]; exact hi
    rw [List.getD_eq_getElem?_getD, List.getElem?_eq_getElem hl] at hr
    have hr : rows[i].length = N - i := hr
    rw [List.getElem?_range hi, List.getElem?_eq_getElem hl]
    simp only [Option.map_some, List.length_map, hr]
    congr 1; lia
  · rw [List.getElem?_eq_none (by simp; (exact Nat.le_of_not_lt (by assumption))), List.getElem?_eq_none (by rw [h.1]; (exact Nat.le_of_not_lt (by assumption)))]; rfl
theorem mail_back {rows : List (List Nat)} {d hi turn : Nat} (hw : Within 1 hi rows) (hd : 1 ≤ d) :
    dotL true (normL (mailM (linesS rows d).flatten turn).cps.toList) = joinL ((linesS (moreM rows) (d + 1)).flatten.map (·.cps.toList)) := by
  have hne : (linesS rows d).flatten ≠ [] := by
    unfold linesS; rw [List.flatten_append, List.flatten_singleton]; intro e; have := congrArg List.length e; simp [restS] at this
  rw [mail_law _ turn hne plain_lines, ← quote_lines hw hd, ← List.map_flatten, List.map_map]
  rfl
theorem flat_le {α : Type} {c : Nat} : ∀ {A : List (List α)}, (∀ r ∈ A, r.length ≤ c) → A.flatten.length ≤ c * A.length
  | [], _ => by simp
  | r :: A, h => by
    have := flat_le (A := A) fun x hx => h x (.tail _ hx)
    have h1 := h r (.head _)
    rw [List.flatten_cons, List.length_append, List.length_cons, Nat.mul_succ]; lia
theorem lines_len {N : Nat} {rows : List (List Nat)} {d : Nat} (h : Shape N rows) (hN : N ≤ 4) : 3 ≤ (linesS rows d).flatten.length ∧ (linesS rows d).flatten.length ≤ 19 := by
  have h1 : (rows.map fun r => r.map dotS).flatten.length ≤ 4 * (rows.map fun r => r.map dotS).length := by
    refine flat_le fun r hr => ?_
    obtain ⟨row, hrow, rfl⟩ := List.mem_map.mp hr
    obtain ⟨i, hi, rfl⟩ := List.getElem_of_mem hrow
    have := h.2 i (by rw [← h.1]; exact hi)
    rw [List.getD_eq_getElem?_getD, List.getElem?_eq_getElem hi] at this
    have : rows[i].length = N - i := this
    rw [List.length_map]; omega
  rw [List.length_map, h.1] at h1
  unfold linesS
  rw [List.flatten_append, List.flatten_singleton, List.length_append]
  have : (restS d).length = 3 := rfl
  lia
theorem joinL_len {c : Nat} : ∀ (l : List (List Nat)), (∀ r ∈ l, r.length ≤ c) → (joinL l).length ≤ l.length * (c + 2)
  | [], _ => by simp [joinL]
  | [r], h => by
    have := h r (.head _)
    show r.length ≤ 1 * (c + 2)
    lia
  | r :: r2 :: l, h => by
    have ih := joinL_len (r2 :: l) fun x hx => h x (.tail _ hx)
    have h1 := h r (.head _)
    show (r ++ 13 :: 10 :: joinL (r2 :: l)).length ≤ _
    rw [List.length_append, List.length_cons, List.length_cons, List.length_cons, Nat.succ_mul]
    lia
theorem mail_len {rows : List Str} {turn : Nat} (h : ∀ r ∈ rows, r.length ≤ 101) (h0 : 0 < rows.length) (hl : rows.length ≤ 19) : (mailM rows turn).length ≤ 2000 := by
  have h1 := acc_len rows turn 101 h (rows.length - 1) (by (exact Nat.sub_lt (by assumption) (by decide)))
  have h2 : (rows.length - 1 + 1) * (101 + 2) ≤ 19 * 103 := Nat.mul_le_mul_right _ (by (clear h1 h0; omega))
  unfold mailM
  lia

theorem runR_step {N k : Nat} {rows e : List (List Nat)} {rest : List Nat} (h : runR N (k + 1) rows = some (rest, e)) :
    ((N : Int) - 1) ∈ sumsM (endsM N rows) ∧ ∃ rest', rest = (slideM N rows).1 :: rest' ∧ runR N k (moreM (slideM N rows).2) = some (rest', e) := by
  unfold runR at h
  split at h
  · rename_i hc
    cases q : runR N k (moreM (slideM N rows).2) with
    | none => rw [q] at h; cases h
    | some r =>
      rw [q] at h
      obtain ⟨r1, r2⟩ := r
      have h : ((slideM N rows).1 :: r1, r2) = (rest, e) := Option.some.inj h
      injection h with h1 h2
      exact ⟨by simpa using hc, r1, h1.symm, by rw [h2]⟩
  · cases h
theorem runW_step {c : Nat} {cs : List Nat} {ws e : List (Nat × Nat)} (h : runW (c :: cs) ws = some e) :
    ∃ p0 p1, ws[c]? = some p0 ∧ ws[c + 1]? = some p1 ∧ p0.2 < p1.2 ∧ p0.2 + 1 ≤ p0.1 ∧ p1.2 + 1 ≤ p1.1 ∧ runW cs (exM c ws) = some e := by
  unfold runW at h
  split at h
  · rename_i p0 p1 e0 e1
    split at h
    · rename_i hk
      unfold okW at hk
      simp only [Bool.and_eq_true, decide_eq_true_eq] at hk
      exact ⟨p0, p1, e0, e1, hk.1, hk.2.1, hk.2.2, h⟩
    · cases h
  · cases h
theorem ex_in {c : Nat} {ws : List (Nat × Nat)} {a b : Nat} (hc : c + 1 < ws.length) (h : ∀ p ∈ ws, p.1 ≤ a ∧ p.2 ≤ b) : (exM c ws).length = ws.length ∧ ∀ p ∈ exM c ws, p.1 ≤ a ∧ p.2 ≤ b := by
  have hd : ∀ i, i < ws.length → (decW (ws.getD i (0, 0))).1 ≤ a ∧ (decW (ws.getD i (0, 0))).2 ≤ b := fun i hi => by
    have := h ws[i] (List.getElem_mem hi)
    rw [List.getD_eq_getElem?_getD, List.getElem?_eq_getElem hi]
    show ws[i].1 - (ws[i].2 + 1) ≤ a ∧ ws[i].2 ≤ b
    (clear hc; omega)
  refine ⟨?_, fun p hp => ?_⟩
  · unfold exM
    rw [List.length_append, List.length_append, List.length_take, List.length_drop]
    simp; lia
  · unfold exM at hp
    rcases List.mem_append.mp hp with hp | hp
    · exact h p (List.mem_of_mem_take hp)
    · rcases List.mem_append.mp hp with hp | hp
      · simp only [List.mem_cons, List.not_mem_nil, or_false] at hp
        rcases hp with rfl | rfl
        · exact hd _ hc
        · exact hd _ (by (exact Nat.le_of_lt (by assumption)))
      · exact h p (List.mem_of_mem_drop hp)
end Mine
end
section
set_option maxRecDepth 100000
namespace Mine
open PySem PySem.Calls PyProof.Rows PySem.W PySem.SeqAt Builtin

theorem St.sw {B s : Shared} (pre : List Cel) {P T X : List Cel} (H : St B (pre ++ (P ++ (T ++ X))) s) : St B (pre ++ (T ++ (P ++ X))) s :=
  H.perm (List.Perm.append_left pre (List.perm_append_comm_assoc P T X))
theorem seq_page (as : List Addr) (e : Addr) (rows : List (List Nat)) (d : Nat) (h : as.length = rows.length) : seqC sv (as ++ [e]) (linesS rows d) = rowC as rows ++ [(e, StrsO (restS d))] := by
  unfold linesS
  rw [seqC_snoc (by rw [List.length_map]; exact h)]
  congr 1
  unfold seqC rowC
  rw [List.zipWith_map_right]
  rfl
theorem words_eq (n : Nat) (b : Nat → Nat) : wordsM n b = (ws0 n).map (wS b) := by
  unfold wordsM ws0
  rw [List.map_map]; rfl

section
variable {prog : Program} {w : World} {A : Around} {E : Value → Shared → Prop} {B s : Shared} {cs cs' : List Cel} {env : Env} {Q : Value → Shared → Prop}

theorem iter_listB {it l : Addr} {vs : List Value} (hl : B.heap.IsList l vs.toArray) (hh : A.handled = none) : Iter prog w A B (.ref it) (fun (a v : Value) => a = v)
    (fun as => [(it, fun o => as.length ≤ vs.length ∧ as = vs.drop (vs.length - as.length) ∧ LitO l (vs.length - as.length) o)]) [] where
  next := fun {a as R s Q E} H h => by
    obtain ⟨o, ho, hle, has, hit⟩ := H.get (.head _)
    have hi : s.heap.IsListIter it l (vs.length - (a :: as).length) := ⟨o, ho, hit⟩
    have hl' : s.heap.IsList l vs.toArray := let ⟨o, e, r⟩ := hl; ⟨o, H.keep _ _ e, r⟩
    rw [List.length_cons] at hle has hi
    have hx : vs[vs.length - (as.length + 1)]? = some a := by
      have : (vs.drop (vs.length - (as.length + 1)))[0]? = some a := by rw [← has]; rfl
      simpa using this
    refine wpAny_pyNext_list_item hi hl' (x := a) (by simpa using hx) fun h' hit' hs => ?_
    refine h a _ rfl (H.upd (t := s.toks) .head hs ?_)
    obtain ⟨o', e, r⟩ := hit'
    have e1 : vs.length - as.length = vs.length - (as.length + 1) + 1 := by lia
    refine ⟨o', e, by (exact Nat.le_of_lt (by assumption)), ?_, e1 ▸ r⟩
    rw [e1]
    have h2 : vs.drop (vs.length - (as.length + 1)) = a :: as := has.symm
    have h3 := congrArg List.tail h2
    rw [List.tail_drop] at h3
    exact h3.symm
  stop := fun {R s Q E} H h => by
    obtain ⟨o, ho, _, _, hit⟩ := H.get (.head _)
    have hi : s.heap.IsListIter it l vs.length := ⟨o, ho, hit⟩
    have hl' : s.heap.IsList l vs.toArray := let ⟨o, e, r⟩ := hl; ⟨o, H.keep _ _ e, r⟩
    refine wpAny_pyNext_list_end hh hi hl' (by simp) fun h' hs => ?_
    exact h _ (H.del (t := s.toks) .head ⟨_, .head _⟩ hs)
  self := fun {as R s Q E} H h => by
    obtain ⟨o, ho, _, _, hit⟩ := H.get (.head _)
    exact wpAny_pyIter_listiter (l := l) (i := vs.length - as.length) ⟨o, ho, hit⟩ h
  own := fun {as R s target v Q E} H h => by
    obtain ⟨o, ho, _, _, hc, hd⟩ := H.get (.head _)
    exact own_of ho hc hd (by decide) h
theorem pyIter_listB {l : Addr} {vs : List Value} (hl : B.heap.IsList l vs.toArray) (H : St B cs s)
    (h : ∀ it s', St B ([(it, fun o => vs.length ≤ vs.length ∧ vs = vs.drop (vs.length - vs.length) ∧ LitO l (vs.length - vs.length) o)] ++ cs) s' → Q (.ref it) s') :
    wpAny (model prog w) A (pyIter (.ref l)) Q E s := by
  have hl' : s.heap.IsList l vs.toArray := let ⟨o, e, r⟩ := hl; ⟨o, H.keep _ _ e, r⟩
  refine wpAny_pyIter_list hl' (h _ _ (H.push (t := s.toks) ⟨Nat.le_refl _, ?_, ?_⟩))
  · simp
  · exact ⟨rfl, by simp⟩
theorem f_sumB {l : Addr} {vs : List Value} {ns : List Int} {k : Nat} (ok : Ok A (k + 1)) (hl : B.heap.IsList l vs.toArray) (hi : IntsAre vs ns) (H : St B cs s) (h : ∀ i t s', St B cs s' → Q (.int i t) s') :
    wpAny (model prog w) A (call (.builtin "sum") [.ref l]) Q E s := by
  refine f_sum (α := {v : Value // v ∈ vs}) (val := fun v => (iv v.1).getD 0) (B := B) (pyIter_listB hl H fun it s2 H2 => ?_)
  have hI := iter_listB (prog := prog) (w := w) (A := A.in1) (it := it) hl ok.in1.handled
  refine ⟨fun a v => a.1 = v, fun as => [(it, fun o => as.length ≤ vs.length ∧ as.map (·.1) = vs.drop (vs.length - as.length) ∧ LitO l (vs.length - as.length) o)], [], cs, vs.attach, ?_, ?_, ?_, fun s' t' H' => h _ t' s' H'⟩
  · refine ⟨fun {a as R s Q E} H h => ?_, fun {R s Q E} H h => ?_, fun {as R s Q E} H h => ?_, fun {as R s target v Q E} H h => ?_⟩
    · refine hI.next (a := a.1) (as := as.map (·.1)) (R := R) (by simpa using H) fun v s' e H' => h v s' e (by simpa using H')
    · exact hI.stop (R := R) (by simpa using H) fun s' H' => h s' H'
    · exact hI.self (as := as.map (·.1)) (R := R) (by simpa using H) h
    · exact hI.own (as := as.map (·.1)) (R := R) (by simpa using H) h
  · rintro ⟨a, ha⟩ v rfl
    obtain ⟨i, t, rfl⟩ := intsAre_mem' hi ha
    exact ⟨t, rfl⟩
  · have e : vs.attach.map (·.1) = vs := by simp
    have e2 : vs.attach.length = vs.length := by simp
    dsimp only
    rw [e, e2]; exact H2
end
end Mine
end
section
set_option maxRecDepth 100000
namespace Mine
open PySem PySem.Calls PyProof.Rows PySem.W PySem.SeqAt Builtin

noncomputable abbrev cellsT (α : Type) := Nat → Nat → Nat → Nat → Nat → Nat → Nat → Nat → Nat → Nat → α
noncomputable section
noncomputable abbrev sel {α : Type} (c : Bool) (t e : α) : α := @Bool.rec (fun _ => α) e t c
noncomputable abbrev cmp3 {α : Type} (x y : Nat) (lt gt bad : α) : α := sel (Nat.ble (Nat.succ x) y) lt (sel (Nat.ble (Nat.succ y) x) gt bad)
noncomputable def slE {α : Type} (a b c d e f g h i j : Nat) (bad : α) (k : Nat → cellsT α) : α :=
  cmp3 g d
    (cmp3 i d (cmp3 j d (k 3 1 a b c e f g h i j) (k 0 1 b c d a f g e i h) bad)
      (cmp3 j i (cmp3 h f (cmp3 e b (k 1 1 a c d e b g h f j) (k 1 1 b c d a e g h f j) bad) (k 1 1 b c d a f g e h j) bad) (k 0 1 b c d a f g e i h) bad) bad)
    (cmp3 i g (cmp3 j g (cmp3 f c (k 2 1 a b d e f c h i j) (cmp3 e b (k 2 1 a c d e b f h i j) (k 2 1 b c d a e f h i j) bad) bad) (k 0 1 b c d a f g e i h) bad)
      (cmp3 j i (cmp3 h f (cmp3 e b (k 1 1 a c d e b g h f j) (k 1 1 b c d a e g h f j) bad) (k 1 1 b c d a f g e h j) bad) (k 0 1 b c d a f g e i h) bad) bad) bad
noncomputable def runE (n : Nat) : cellsT (Option (List Nat × List (List Nat))) :=
  @Nat.rec (fun _ => cellsT (Option (List Nat × List (List Nat)))) (fun a b c d e f g h i j => some ([], [[a, b, c, d], [e, f, g], [h, i], [j]]))
  (fun _ ih a b c d e f g h i j => slE a b c d e f g h i j none fun col a b c d e f g h i j =>
    @Option.rec (List Nat × List (List Nat)) (fun _ => Option (List Nat × List (List Nat))) none (fun r => some (col :: r.1, r.2)) (ih (Nat.succ a) (Nat.succ b) (Nat.succ c) (Nat.succ d) (Nat.succ e) (Nat.succ f) (Nat.succ g) (Nat.succ h) (Nat.succ i) (Nat.succ j))) n
end
theorem sel_lt {α : Type} (x y : Nat) (t e : α) : sel (Nat.ble (Nat.succ x) y) t e = if x < y then t else e := by
  by_cases h : x < y
  · rw [if_pos h, show Nat.ble (Nat.succ x) y = true from Nat.ble_eq.mpr h]
  · rw [if_neg h]
    cases q : Nat.ble (Nat.succ x) y with
    | false => rfl
    | true => exact absurd (Nat.ble_eq.mp q) h

theorem cmpN_lt {a b : Nat} (h : a < b) : cmpN a b = -1 := by unfold cmpN; rw [if_neg (by lia), if_pos h]
theorem cmpN_gt {a b : Nat} (h : b < a) : cmpN a b = 1 := by unfold cmpN; rw [if_pos h]
theorem cmpN_self (a : Nat) : cmpN a a = 0 := by unfold cmpN; rw [if_neg (by lia), if_neg (by lia)]
theorem cmpN_bd (a b : Nat) : -1 ≤ cmpN a b ∧ cmpN a b ≤ 1 := by rcases cmpN_range a b with h | h | h <;> rw [h] <;> decide
theorem sums4 (x0 x1 x2 x3 : Nat) : sumsM [x0, x1, x2, x3] = [cmpN x0 x0 + (cmpN x0 x1 + (cmpN x0 x2 + (cmpN x0 x3 + 0))), cmpN x1 x0 + (cmpN x1 x1 + (cmpN x1 x2 + (cmpN x1 x3 + 0))), cmpN x2 x0 + (cmpN x2 x1 + (cmpN x2 x2 + (cmpN x2 x3 + 0))), cmpN x3 x0 + (cmpN x3 x1 + (cmpN x3 x2 + (cmpN x3 x3 + 0)))] := rfl

theorem idx_skip {a : Int} {l : List Int} (h : ¬ a = 3) : (a :: l).idxOf 3 = l.idxOf 3 + 1 := by
  rw [List.idxOf_cons, show (a == 3) = false by simpa using h]; rfl
theorem top0 {x0 x1 x2 x3 : Nat} (h1 : x1 < x0) (h2 : x2 < x0) (h3 : x3 < x0) : (sumsM [x0, x1, x2, x3]).contains 3 = true ∧ (sumsM [x0, x1, x2, x3]).idxOf 3 = 0 := by
  rw [sums4, cmpN_self, cmpN_gt h1, cmpN_gt h2, cmpN_gt h3]
  constructor
  · simp
  · simp
theorem top1 {x0 x1 x2 x3 : Nat} (h0 : x0 < x1) (h2 : x2 < x1) (h3 : x3 < x1) : (sumsM [x0, x1, x2, x3]).contains 3 = true ∧ (sumsM [x0, x1, x2, x3]).idxOf 3 = 1 := by
  rw [sums4, cmpN_self x0, cmpN_self x1, cmpN_gt h0, cmpN_gt h2, cmpN_gt h3, cmpN_lt h0]
  have b2 := cmpN_bd x0 x2
  have b3 := cmpN_bd x0 x3
  have n0 : ¬ (0 + (-1 + (cmpN x0 x2 + (cmpN x0 x3 + 0))) = 3) := by lia
  constructor
  · simp
  · rw [idx_skip n0]
    simp
theorem top2 {x0 x1 x2 x3 : Nat} (h0 : x0 < x2) (h1 : x1 < x2) (h3 : x3 < x2) : (sumsM [x0, x1, x2, x3]).contains 3 = true ∧ (sumsM [x0, x1, x2, x3]).idxOf 3 = 2 := by
  rw [sums4, cmpN_self x0, cmpN_self x1, cmpN_self x2, cmpN_gt h0, cmpN_gt h1, cmpN_gt h3, cmpN_lt h0, cmpN_lt h1]
  have b1 := cmpN_bd x0 x1
  have b3 := cmpN_bd x0 x3
  have c0 := cmpN_bd x1 x0
  have c3 := cmpN_bd x1 x3
  have n0 : ¬ (0 + (cmpN x0 x1 + (-1 + (cmpN x0 x3 + 0))) = 3) := by lia
  have n1 : ¬ (cmpN x1 x0 + (0 + (-1 + (cmpN x1 x3 + 0))) = 3) := by lia
  constructor
  · simp
  · rw [idx_skip n0, idx_skip n1]
    simp
theorem top3 {x0 x1 x2 x3 : Nat} (h0 : x0 < x3) (h1 : x1 < x3) (h2 : x2 < x3) : (sumsM [x0, x1, x2, x3]).contains 3 = true ∧ (sumsM [x0, x1, x2, x3]).idxOf 3 = 3 := by
  rw [sums4, cmpN_self x0, cmpN_self x1, cmpN_self x2, cmpN_self x3, cmpN_gt h0, cmpN_gt h1, cmpN_gt h2, cmpN_lt h0, cmpN_lt h1, cmpN_lt h2]
  have b1 := cmpN_bd x0 x1
  have b2 := cmpN_bd x0 x2
  have c0 := cmpN_bd x1 x0
  have c2 := cmpN_bd x1 x2
  have d0 := cmpN_bd x2 x0
  have d1 := cmpN_bd x2 x1
  have n0 : ¬ (0 + (cmpN x0 x1 + (cmpN x0 x2 + (-1 + 0))) = 3) := by lia
  have n1 : ¬ (cmpN x1 x0 + (0 + (cmpN x1 x2 + (-1 + 0))) = 3) := by lia
  have n2 : ¬ (cmpN x2 x0 + (cmpN x2 x1 + (0 + (-1 + 0))) = 3) := by lia
  constructor
  · simp
  · rw [idx_skip n0, idx_skip n1, idx_skip n2]
    simp

theorem slide_of {rows : List (List Nat)} {r : Nat} (h : (sumsM (endsM 4 rows)).idxOf 3 = r) : slideM 4 rows = (3 - r, setR (iterS 3 ((r, 3 - r), rows)).2 0 0 1) := by
  subst h; rfl

section
variable {a b c d e f g h i j : Nat}
theorem way3 : (iterS 3 ((0, 3), [[a, b, c, d], [e, f, g], [h, i], [j]])).2 = [[a, a, b, c], [e, f, g], [h, i], [j]] := rfl
theorem way0 : (iterS 3 ((3, 0), [[a, b, c, d], [e, f, g], [h, i], [j]])).2 = [[a, b, c, d], [a, f, g], [e, i], [h]] := rfl
theorem step_up {r c : Nat} {rows : List (List Nat)} (h : sideM ((r, c), rows) = 1) : stepS ((r, c), rows) = ((r - 1, c), setR rows r c (getR rows (r - 1) c)) := by
  unfold stepS aboveM besideM; rw [h]; rfl
theorem step_left {r c : Nat} {rows : List (List Nat)} (h : sideM ((r, c), rows) = -1) : stepS ((r, c), rows) = ((r, c - 1), setR rows r c (getR rows r (c - 1))) := by
  unfold stepS aboveM besideM; rw [h]; rfl
theorem iter_step (k : Nat) (st : SlSt) : iterS (k + 1) st = iterS k (stepS st) := rfl
theorem way2a (h1 : f < c) : (iterS 3 ((1, 2), [[a, b, c, d], [e, f, g], [h, i], [j]])).2 = [[a, a, b, d], [e, f, c], [h, i], [j]] := by
  rw [iter_step, step_up (show sideM ((1, 2), [[a, b, c, d], [e, f, g], [h, i], [j]]) = 1 from cmpN_gt h1)]; rfl
theorem way2b (h1 : c < f) (h2 : e < b) : (iterS 3 ((1, 2), [[a, b, c, d], [e, f, g], [h, i], [j]])).2 = [[a, a, c, d], [e, b, f], [h, i], [j]] := by
  rw [iter_step, step_left (show sideM ((1, 2), [[a, b, c, d], [e, f, g], [h, i], [j]]) = -1 from cmpN_lt h1)]; show (iterS 2 ((1, 1), [[a, b, c, d], [e, f, f], [h, i], [j]])).2 = _; rw [iter_step, step_up (show sideM ((1, 1), [[a, b, c, d], [e, f, f], [h, i], [j]]) = 1 from cmpN_gt h2)]; rfl
theorem way2c (h1 : c < f) (h2 : b < e) : (iterS 3 ((1, 2), [[a, b, c, d], [e, f, g], [h, i], [j]])).2 = [[a, b, c, d], [a, e, f], [h, i], [j]] := by
  rw [iter_step, step_left (show sideM ((1, 2), [[a, b, c, d], [e, f, g], [h, i], [j]]) = -1 from cmpN_lt h1)]; show (iterS 2 ((1, 1), [[a, b, c, d], [e, f, f], [h, i], [j]])).2 = _; rw [iter_step, step_left (show sideM ((1, 1), [[a, b, c, d], [e, f, f], [h, i], [j]]) = -1 from cmpN_lt h2)]; rfl
theorem way1a (h1 : h < f) (h2 : e < b) : (iterS 3 ((2, 1), [[a, b, c, d], [e, f, g], [h, i], [j]])).2 = [[a, a, c, d], [e, b, g], [h, f], [j]] := by
  rw [iter_step, step_up (show sideM ((2, 1), [[a, b, c, d], [e, f, g], [h, i], [j]]) = 1 from cmpN_gt h1)]; show (iterS 2 ((1, 1), [[a, b, c, d], [e, f, g], [h, f], [j]])).2 = _; rw [iter_step, step_up (show sideM ((1, 1), [[a, b, c, d], [e, f, g], [h, f], [j]]) = 1 from cmpN_gt h2)]; rfl
theorem way1b (h1 : h < f) (h2 : b < e) : (iterS 3 ((2, 1), [[a, b, c, d], [e, f, g], [h, i], [j]])).2 = [[a, b, c, d], [a, e, g], [h, f], [j]] := by
  rw [iter_step, step_up (show sideM ((2, 1), [[a, b, c, d], [e, f, g], [h, i], [j]]) = 1 from cmpN_gt h1)]; show (iterS 2 ((1, 1), [[a, b, c, d], [e, f, g], [h, f], [j]])).2 = _; rw [iter_step, step_left (show sideM ((1, 1), [[a, b, c, d], [e, f, g], [h, f], [j]]) = -1 from cmpN_lt h2)]; rfl
theorem way1c (h1 : f < h) : (iterS 3 ((2, 1), [[a, b, c, d], [e, f, g], [h, i], [j]])).2 = [[a, b, c, d], [a, f, g], [e, h], [j]] := by
  rw [iter_step, step_left (show sideM ((2, 1), [[a, b, c, d], [e, f, g], [h, i], [j]]) = -1 from cmpN_lt h1)]; rfl

theorem sl_mk {α : Type} {k : Nat → cellsT (Option α)} {r : α} {col a' b' c' d' e' f' g' h' i' j' : Nat} (h1 : (sumsM [d, g, i, j]).contains 3 = true) (h2 : slideM 4 [[a, b, c, d], [e, f, g], [h, i], [j]] = (col, [[a', b', c', d'], [e', f', g'], [h', i'], [j']])) (h3 : k col a' b' c' d' e' f' g' h' i' j' = some r) :
    (sumsM [d, g, i, j]).contains 3 = true ∧ ∃ col a' b' c' d' e' f' g' h' i' j', slideM 4 [[a, b, c, d], [e, f, g], [h, i], [j]] = (col, [[a', b', c', d'], [e', f', g'], [h', i'], [j']]) ∧ k col a' b' c' d' e' f' g' h' i' j' = some r := ⟨h1, _, _, _, _, _, _, _, _, _, _, _, h2, h3⟩
theorem sl_law {α : Type} {k : Nat → cellsT (Option α)} {r : α} (hr : slE a b c d e f g h i j none k = some r) :
    (sumsM (endsM 4 [[a, b, c, d], [e, f, g], [h, i], [j]])).contains 3 = true ∧ ∃ col a' b' c' d' e' f' g' h' i' j', slideM 4 [[a, b, c, d], [e, f, g], [h, i], [j]] = (col, [[a', b', c', d'], [e', f', g'], [h', i'], [j']]) ∧ k col a' b' c' d' e' f' g' h' i' j' = some r := by
  have he : endsM 4 [[a, b, c, d], [e, f, g], [h, i], [j]] = [d, g, i, j] := rfl
  rw [he]
  have fin : ∀ (q : Nat) (rows : List (List Nat)), (sumsM [d, g, i, j]).idxOf 3 = q → (iterS 3 ((q, 3 - q), [[a, b, c, d], [e, f, g], [h, i], [j]])).2 = rows → slideM 4 [[a, b, c, d], [e, f, g], [h, i], [j]] = (3 - q, setR rows 0 0 1) := fun q rows h1 h2 => by rw [slide_of (he ▸ h1), h2]
  unfold slE at hr
  simp only [sel_lt] at hr
  repeat' (split at hr)
  all_goals first
    | cases hr; done
    | exact sl_mk (top0 (by assumption) (by assumption) (by assumption)).1 (fin 0 _ (top0 (by assumption) (by assumption) (by assumption)).2 way3) hr
    | exact sl_mk (top3 (by (first | assumption | exact Nat.lt_trans (by assumption) (by assumption) | lia | omega +splitNatSub)) (by (first | exact Nat.lt_trans (by assumption) (by assumption) | assumption | lia | omega +splitNatSub)) (by (first | exact Nat.lt_trans (by assumption) (by assumption) | assumption | omega +splitNatSub | lia))).1 (fin 3 _ (top3 (by (first | assumption | exact Nat.lt_trans (by assumption) (by assumption) | lia | omega +splitNatSub)) (by (first | exact Nat.lt_trans (by assumption) (by assumption) | assumption | lia | omega +splitNatSub)) (by (first | exact Nat.lt_trans (by assumption) (by assumption) | assumption | omega +splitNatSub | lia))).2 way0) hr
    | exact sl_mk (top1 (by assumption) (by assumption) (by assumption)).1 (fin 1 _ (top1 (by assumption) (by assumption) (by assumption)).2 (way2a (by assumption))) hr
    | exact sl_mk (top1 (by assumption) (by assumption) (by assumption)).1 (fin 1 _ (top1 (by assumption) (by assumption) (by assumption)).2 (way2b (by assumption) (by assumption))) hr
    | exact sl_mk (top1 (by assumption) (by assumption) (by assumption)).1 (fin 1 _ (top1 (by assumption) (by assumption) (by assumption)).2 (way2c (by assumption) (by assumption))) hr
    | exact sl_mk (top2 (by (first | assumption | exact Nat.lt_trans (by assumption) (by assumption) | omega +splitNatSub | lia)) (by (first | exact Nat.lt_trans (by assumption) (by assumption) | assumption | omega +splitNatSub | lia)) (by assumption)).1 (fin 2 _ (top2 (by (first | assumption | exact Nat.lt_trans (by assumption) (by assumption) | omega +splitNatSub | lia)) (by (first | exact Nat.lt_trans (by assumption) (by assumption) | assumption | omega +splitNatSub | lia)) (by assumption)).2 (way1a (by assumption) (by assumption))) hr
    | exact sl_mk (top2 (by (first | assumption | exact Nat.lt_trans (by assumption) (by assumption) | omega +splitNatSub | lia)) (by (first | exact Nat.lt_trans (by assumption) (by assumption) | assumption | omega +splitNatSub | lia)) (by assumption)).1 (fin 2 _ (top2 (by (first | assumption | exact Nat.lt_trans (by assumption) (by assumption) | omega +splitNatSub | lia)) (by (first | exact Nat.lt_trans (by assumption) (by assumption) | assumption | omega +splitNatSub | lia)) (by assumption)).2 (way1b (by assumption) (by assumption))) hr
    | exact sl_mk (top2 (by (first | assumption | exact Nat.lt_trans (by assumption) (by assumption) | omega +splitNatSub | lia)) (by (first | exact Nat.lt_trans (by assumption) (by assumption) | assumption | omega +splitNatSub | lia)) (by assumption)).1 (fin 2 _ (top2 (by (first | assumption | exact Nat.lt_trans (by assumption) (by assumption) | omega +splitNatSub | lia)) (by (first | exact Nat.lt_trans (by assumption) (by assumption) | assumption | omega +splitNatSub | lia)) (by assumption)).2 (way1c (by assumption))) hr

theorem runE_succ (n : Nat) : runE (n + 1) a b c d e f g h i j = slE a b c d e f g h i j none fun col a b c d e f g h i j =>
    @Option.rec (List Nat × List (List Nat)) (fun _ => Option (List Nat × List (List Nat))) none (fun r => some (col :: r.1, r.2)) (runE n (Nat.succ a) (Nat.succ b) (Nat.succ c) (Nat.succ d) (Nat.succ e) (Nat.succ f) (Nat.succ g) (Nat.succ h) (Nat.succ i) (Nat.succ j)) := rfl
end
theorem run_law : ∀ (n a b c d e f g h i j : Nat) (r : List Nat × List (List Nat)), runE n a b c d e f g h i j = some r → runR 4 n [[a, b, c, d], [e, f, g], [h, i], [j]] = some r
  | 0, _, _, _, _, _, _, _, _, _, _, r, h => h
  | n + 1, a, b, c, d, e, f, g, h, i, j, r, hr => by
    rw [runE_succ] at hr
    obtain ⟨h1, col, a', b', c', d', e', f', g', h', i', j', h2, h3⟩ := sl_law hr
    unfold runR
    rw [show ((4 : Nat) : Int) - 1 = 3 from rfl, if_pos h1, h2]
    cases q : runE n (Nat.succ a') (Nat.succ b') (Nat.succ c') (Nat.succ d') (Nat.succ e') (Nat.succ f') (Nat.succ g') (Nat.succ h') (Nat.succ i') (Nat.succ j') with
    | none => rw [q] at h3; cases h3
    | some r' =>
      rw [q] at h3
      have ih := run_law n _ _ _ _ _ _ _ _ _ _ r' q
      have e1 : moreM [[a', b', c', d'], [e', f', g'], [h', i'], [j']] = [[Nat.succ a', Nat.succ b', Nat.succ c', Nat.succ d'], [Nat.succ e', Nat.succ f', Nat.succ g'], [Nat.succ h', Nat.succ i'], [Nat.succ j']] := rfl
      show (runR 4 n (moreM [[a', b', c', d'], [e', f', g'], [h', i'], [j']])).map _ = _
      rw [e1, ih]
      exact h3
end Mine
end
section
set_option maxRecDepth 100000
namespace Mine
open PySem PySem.Calls PyProof.Rows PySem.W PySem.SeqAt Builtin

noncomputable section
noncomputable abbrev an (c t : Bool) : Bool := sel c t false
noncomputable def codeP (p : Int × Int) : Nat := 4 * p.1.toNat + p.2.toNat
noncomputable def ixF (cs : List Nat) (x : Nat) : Nat := @List.rec Nat (fun _ => Nat) 0 (fun y _ k => sel (Nat.beq y x) 0 (Nat.succ k)) cs
noncomputable def pageK {α : Type} (cs : List Nat) (k : cellsT α) : α := k (ixF cs 0) (ixF cs 1) (ixF cs 2) (ixF cs 3) (ixF cs 4) (ixF cs 5) (ixF cs 6) (ixF cs 8) (ixF cs 9) (ixF cs 12)
noncomputable def okV (p0 p1 : Nat × Nat) (t : Bool) : Bool := an (Nat.ble (Nat.succ p0.2) p1.2) (an (Nat.ble (Nat.succ p0.2) p0.1) (an (Nat.ble (Nat.succ p1.2) p1.1) t))
noncomputable def isV (p : Nat × Nat) (k : Nat) (t : Bool) : Bool := an (Nat.beq p.1 0) (an (Nat.beq p.2 k) t)
noncomputable def runV (nm : List Nat) : Nat × Nat → Nat × Nat → Nat × Nat → Nat × Nat → Nat × Nat → Bool :=
  @List.rec Nat (fun _ => Nat × Nat → Nat × Nat → Nat × Nat → Nat × Nat → Nat × Nat → Bool) (fun a b c d e => isV a 4 (isV b 3 (isV c 2 (isV d 1 (isV e 0 true)))))
    (fun x _ ih a b c d e => sel (Nat.beq x 0) (okV a b (ih (decW b) (decW a) c d e)) (sel (Nat.beq x 1) (okV b c (ih a (decW c) (decW b) d e)) (sel (Nat.beq x 2) (okV c d (ih a b (decW d) (decW c) e)) (sel (Nat.beq x 3) (okV d e (ih a b c (decW e) (decW d))) false)))) nm
noncomputable def below10 (cs : List Nat) : Bool := pageK cs fun a b c d e f g h i j => an (Nat.ble a 9) (an (Nat.ble b 9) (an (Nat.ble c 9) (an (Nat.ble d 9) (an (Nat.ble e 9) (an (Nat.ble f 9) (an (Nat.ble g 9) (an (Nat.ble h 9) (an (Nat.ble i 9) (Nat.ble j 9)))))))))
noncomputable def rowsK (cs : List Nat) : List (List Nat) := pageK cs fun a b c d e f g h i j => [[a + 2, b + 2, c + 2, d + 2], [e + 2, f + 2, g + 2], [h + 2, i + 2], [j + 2]]
noncomputable def good4 (ord : List (Int × Int)) : Bool :=
  an (below10 (ord.map codeP)) (an (below10 ((ord.map swapP).map codeP))
    (@Option.rec (List Nat × List (List Nat)) (fun _ => Bool) false (fun r =>
      an (runV r.1 (4, 0) (8, 1) (12, 2) (16, 3) (20, 4)) (an (r.2 == rowsK ((ord.map swapP).map codeP)) (an (Nat.beq r.1.length 10) (growA (r.1.map Int.ofNat).reverse (List.replicate 10 []) [] == some ord))))
      (pageK (ord.map codeP) fun a b c d e f g h i j => runE 10 (a + 2) (b + 2) (c + 2) (d + 2) (e + 2) (f + 2) (g + 2) (h + 2) (i + 2) (j + 2))))
end
noncomputable def dfs (k : Nat) (st : Fill) : Bool := @Nat.rec (fun _ => Fill → Bool) (fun st => good4 st.2) (fun _ ih st => (freeM 4 st.1).all fun r => ih (fillS st r)) k st
theorem dfs_law : ∀ (k a : Nat), (∀ st ∈ levels 4 a, dfs k st = true) → ∀ st ∈ levels 4 (a + k), good4 st.2 = true
  | 0, a, h, st, hst => h st hst
  | k + 1, a, h, st, hst => by
    refine dfs_law k (a + 1) (fun st2 h2 => ?_) st (by rw [show a + 1 + k = a + (k + 1) by (exact Nat.add_right_comm _ _ _)]; exact hst)
    obtain ⟨st1, h1, h3⟩ := List.mem_flatMap.mp h2
    obtain ⟨r, hr, rfl⟩ := List.mem_map.mp h3
    have h4 := h st1 h1
    exact List.all_eq_true.mp (show (freeM 4 st1.1).all (fun r => dfs k (fillS st1 r)) = true from h4) r hr
end Mine
end
section
set_option maxRecDepth 100000
namespace Mine
open PySem PySem.Calls PyProof.Rows PySem.W PySem.SeqAt Builtin

theorem levels_in {N : Nat} : ∀ {k : Nat} {st : Fill}, st ∈ levels N k → (∀ i, 0 ≤ st.1.getD i 0) ∧ ∀ p ∈ st.2, 0 ≤ p.1 ∧ p.1 < N ∧ 0 ≤ p.2 ∧ p.2 < N
  | 0, st, h => by
    rw [levels, List.mem_singleton] at h; subst h
    refine ⟨fun i => ?_, fun p hp => by cases hp⟩
    dsimp only
    rw [List.getD_eq_getElem?_getD, List.getElem?_replicate]
    split <;> simp
  | k + 1, st, h => by
    obtain ⟨st', h1, h2⟩ := List.mem_flatMap.mp h
    obtain ⟨r, hr, rfl⟩ := List.mem_map.mp h2
    obtain ⟨ih1, ih2⟩ := levels_in h1
    have hf := List.mem_filter.mp hr
    have hr0 := upR_mem hf.1
    have hlt : st'.1.getD r.toNat 0 < N - r := by
      have := hf.2
      unfold freeT at this
      rw [Bool.and_eq_true, decide_eq_true_iff] at this
      exact this.1
    refine ⟨fun i => ?_, fun p hp => ?_⟩
    · show 0 ≤ (st'.1.set r.toNat (st'.1.getD r.toNat 0 + 1)).getD i 0
      rw [List.getD_eq_getElem?_getD, List.getElem?_set]
      have a1 := ih1 r.toNat
      have a2 := ih1 i
      split
      · split
        · show 0 ≤ st'.1.getD r.toNat 0 + 1; lia
        · simp
      · rw [← List.getD_eq_getElem?_getD]; exact a2
    · rcases List.mem_append.mp (show p ∈ st'.2 ++ [(r, st'.1.getD r.toNat 0)] from hp) with hp | hp
      · exact ih2 p hp
      · have : p = (r, st'.1.getD r.toNat 0) := by simpa using hp
        subst this
        have a1 := ih1 r.toNat
        dsimp only
        omega

noncomputable def InP (p : Int × Int) : Prop := 0 ≤ p.1 ∧ p.1 < 4 ∧ 0 ≤ p.2 ∧ p.2 < 4
theorem code_inj {p q : Int × Int} (hp : InP p) (hq : InP q) (h : codeP p = codeP q) : p = q := by
  obtain ⟨a, b⟩ := p
  obtain ⟨c, d⟩ := q
  simp only [InP, codeP] at hp hq h
  exact Prod.ext (by dsimp only; omega) (by dsimp only; omega)
theorem ix_law {q : Int × Int} (hq : InP q) : ∀ {ord : List (Int × Int)}, (∀ p ∈ ord, InP p) → ixF (ord.map codeP) (codeP q) = ord.idxOf q
  | [], _ => rfl
  | p :: r, h => by
    have ih := ix_law hq (ord := r) fun x hx => h x (.tail _ hx)
    rw [List.idxOf_cons]
    show sel (Nat.beq (codeP p) (codeP q)) 0 (Nat.succ (ixF (r.map codeP) (codeP q))) = _
    rw [ih]
    by_cases e : p = q
    · subst e
      rw [show Nat.beq (codeP p) (codeP p) = true from Nat.beq_refl _, show (p == p) = true from beq_self_eq_true p]; rfl
    · have h1 : Nat.beq (codeP p) (codeP q) = false := by
        cases x : Nat.beq (codeP p) (codeP q) with
        | false => rfl
        | true => exact absurd (code_inj (h p (.head _)) hq (Nat.eq_of_beq_eq_true x)) e
      rw [h1, beq_eq_false_iff_ne.mpr e]; rfl
theorem page_law {α : Type} {ord : List (Int × Int)} (h : ∀ p ∈ ord, InP p) (k : cellsT α) : pageK (ord.map codeP) k =
    k (ord.idxOf (0, 0)) (ord.idxOf (0, 1)) (ord.idxOf (0, 2)) (ord.idxOf (0, 3)) (ord.idxOf (1, 0)) (ord.idxOf (1, 1)) (ord.idxOf (1, 2)) (ord.idxOf (2, 0)) (ord.idxOf (2, 1)) (ord.idxOf (3, 0)) := by
  unfold pageK
  have e : ∀ (q : Int × Int), InP q → ixF (ord.map codeP) (codeP q) = ord.idxOf q := fun q hq => ix_law hq h
  have w : ∀ (a b : Int), 0 ≤ a → a < 4 → 0 ≤ b → b < 4 → InP (a, b) := fun a b h1 h2 h3 h4 => ⟨h1, h2, h3, h4⟩
  rw [← e (0, 0) (by unfold InP; decide), ← e (0, 1) (by unfold InP; decide), ← e (0, 2) (by unfold InP; decide), ← e (0, 3) (by unfold InP; decide), ← e (1, 0) (by unfold InP; decide), ← e (1, 1) (by unfold InP; decide), ← e (1, 2) (by unfold InP; decide), ← e (2, 0) (by unfold InP; decide), ← e (2, 1) (by unfold InP; decide), ← e (3, 0) (by unfold InP; decide)]
  rfl
theorem rows_law {ord : List (Int × Int)} (h : ∀ p ∈ ord, InP p) : rowsM 4 ord = rowsK (ord.map codeP) := by
  unfold rowsK
  rw [page_law h]
  rfl
theorem an_true {c t : Bool} (h : an c t = true) : c = true ∧ t = true := by
  cases c with
  | false => exact absurd (show false = true from h) (by decide)
  | true => exact ⟨rfl, h⟩
theorem all_in {ord : List (Int × Int)} (h : ∀ p ∈ ord, InP p) (hb : below10 (ord.map codeP) = true) (hl : ord.length = 10) : ∀ r ∈ upR 0 4, ∀ c ∈ upR 0 (4 - r.toNat), (r, c) ∈ ord := by
  unfold below10 at hb
  rw [page_law h] at hb
  obtain ⟨h1, hb⟩ := an_true hb
  obtain ⟨h2, hb⟩ := an_true hb
  obtain ⟨h3, hb⟩ := an_true hb
  obtain ⟨h4, hb⟩ := an_true hb
  obtain ⟨h5, hb⟩ := an_true hb
  obtain ⟨h6, hb⟩ := an_true hb
  obtain ⟨h7, hb⟩ := an_true hb
  obtain ⟨h8, hb⟩ := an_true hb
  obtain ⟨h9, h10⟩ := an_true hb
  have k : ∀ q : Int × Int, Nat.ble (ord.idxOf q) 9 = true → q ∈ ord := fun q hq => List.idxOf_lt_length_iff.mp (by have := Nat.ble_eq.mp hq; lia)
  have m1 := k _ h1
  have m2 := k _ h2
  have m3 := k _ h3
  have m4 := k _ h4
  have m5 := k _ h5
  have m6 := k _ h6
  have m7 := k _ h7
  have m8 := k _ h8
  have m9 := k _ h9
  have m10 := k _ h10
  intro r hr c hc
  have hr' : r = 0 ∨ r = 1 ∨ r = 2 ∨ r = 3 := by have := upR_mem hr; lia
  rcases hr' with rfl | rfl | rfl | rfl
  · have hc' : c = 0 ∨ c = 1 ∨ c = 2 ∨ c = 3 := by have := upR_mem hc; simp at this; lia
    rcases hc' with rfl | rfl | rfl | rfl <;> assumption
  · have hc' : c = 0 ∨ c = 1 ∨ c = 2 := by have := upR_mem hc; simp at this; lia
    rcases hc' with rfl | rfl | rfl <;> assumption
  · have hc' : c = 0 ∨ c = 1 := by have := upR_mem hc; simp at this; lia
    rcases hc' with rfl | rfl <;> assumption
  · have hc' : c = 0 := by have := upR_mem hc; simp at this; lia
    rcases hc' with rfl; assumption

theorem okV_law {p0 p1 : Nat × Nat} {t : Bool} (h : okV p0 p1 t = true) : okW p0 p1 = true ∧ t = true := by
  obtain ⟨h1, h⟩ := an_true h
  obtain ⟨h2, h⟩ := an_true h
  obtain ⟨h3, h⟩ := an_true h
  refine ⟨?_, h⟩
  unfold okW
  rw [decide_eq_true (show p0.2 < p1.2 from Nat.ble_eq.mp h1), decide_eq_true (show p0.2 + 1 ≤ p0.1 from Nat.ble_eq.mp h2), decide_eq_true (show p1.2 + 1 ≤ p1.1 from Nat.ble_eq.mp h3)]; rfl
theorem isV_law {p : Nat × Nat} {k : Nat} {t : Bool} (h : isV p k t = true) : p = (0, k) ∧ t = true := by
  obtain ⟨h1, h⟩ := an_true h
  obtain ⟨h2, h⟩ := an_true h
  exact ⟨Prod.ext (Nat.eq_of_beq_eq_true h1) (Nat.eq_of_beq_eq_true h2), h⟩
theorem runV_law : ∀ (nm : List Nat) (a b c d e : Nat × Nat), runV nm a b c d e = true → runW nm [a, b, c, d, e] = some (wsE 5)
  | [], a, b, c, d, e, h => by
    obtain ⟨rfl, h⟩ := isV_law h
    obtain ⟨rfl, h⟩ := isV_law h
    obtain ⟨rfl, h⟩ := isV_law h
    obtain ⟨rfl, h⟩ := isV_law h
    obtain ⟨rfl, h⟩ := isV_law h
    rfl
  | x :: nm, a, b, c, d, e, h => by
    have h : sel (Nat.beq x 0) (okV a b (runV nm (decW b) (decW a) c d e)) (sel (Nat.beq x 1) (okV b c (runV nm a (decW c) (decW b) d e)) (sel (Nat.beq x 2) (okV c d (runV nm a b (decW d) (decW c) e)) (sel (Nat.beq x 3) (okV d e (runV nm a b c (decW e) (decW d))) false))) = true := h
    match x, h with
    | 0, h =>
      obtain ⟨h1, h2⟩ := okV_law (show okV a b (runV nm (decW b) (decW a) c d e) = true from h)
      show (if okW a b = true then runW nm (exM 0 [a, b, c, d, e]) else none) = _
      rw [if_pos h1]; exact runV_law nm _ _ _ _ _ h2
    | 1, h =>
      obtain ⟨h1, h2⟩ := okV_law (show okV b c (runV nm a (decW c) (decW b) d e) = true from h)
      show (if okW b c = true then runW nm (exM 1 [a, b, c, d, e]) else none) = _
      rw [if_pos h1]; exact runV_law nm _ _ _ _ _ h2
    | 2, h =>
      obtain ⟨h1, h2⟩ := okV_law (show okV c d (runV nm a b (decW d) (decW c) e) = true from h)
      show (if okW c d = true then runW nm (exM 2 [a, b, c, d, e]) else none) = _
      rw [if_pos h1]; exact runV_law nm _ _ _ _ _ h2
    | 3, h =>
      obtain ⟨h1, h2⟩ := okV_law (show okV d e (runV nm a b c (decW e) (decW d)) = true from h)
      show (if okW d e = true then runW nm (exM 3 [a, b, c, d, e]) else none) = _
      rw [if_pos h1]; exact runV_law nm _ _ _ _ _ h2
    | x + 4, h => exact absurd (show false = true from h) (by decide)

theorem good_plain {ord : List (Int × Int)} (h : ∀ p ∈ ord, InP p) (hl : ord.length = 10) (g : good4 ord = true) : Plain 4 ord := by
  have hS : ∀ p ∈ ord.map swapP, InP p := fun p hp => by
    obtain ⟨q, hq, rfl⟩ := List.mem_map.mp hp
    obtain ⟨a, b, c, d⟩ := h q hq
    exact ⟨c, d, a, b⟩
  unfold good4 at g
  obtain ⟨g1, g⟩ := an_true g
  obtain ⟨g2, g⟩ := an_true g
  rw [page_law h] at g
  generalize hr : runE 10 (ord.idxOf (0, 0) + 2) (ord.idxOf (0, 1) + 2) (ord.idxOf (0, 2) + 2) (ord.idxOf (0, 3) + 2) (ord.idxOf (1, 0) + 2) (ord.idxOf (1, 1) + 2) (ord.idxOf (1, 2) + 2) (ord.idxOf (2, 0) + 2) (ord.idxOf (2, 1) + 2) (ord.idxOf (3, 0) + 2) = o at g
  cases o with
  | none => exact absurd (show false = true from g) (by decide)
  | some r =>
    obtain ⟨nm, e⟩ := r
    obtain ⟨g3, g⟩ := an_true (show an (runV nm (4, 0) (8, 1) (12, 2) (16, 3) (20, 4)) (an (e == rowsK ((ord.map swapP).map codeP)) (an (Nat.beq nm.length 10) (growA (nm.map Int.ofNat).reverse (List.replicate 10 []) [] == some ord))) = true from g)
    obtain ⟨g4, g⟩ := an_true g
    obtain ⟨g5, g6⟩ := an_true g
    have hn : nm.length = 10 := Nat.eq_of_beq_eq_true g5
    have e1 : e = rowsM 4 (ord.map swapP) := by rw [rows_law hS]; exact eq_of_beq g4
    refine ⟨all_in h g1 hl, all_in hS g2 (by rw [List.length_map]; exact hl), nm, by rw [hn, hl], ?_, runV_law nm _ _ _ _ _ g3, by rw [hn]; exact eq_of_beq g6⟩
    rw [hl, ← e1]
    exact run_law _ _ _ _ _ _ _ _ _ _ _ _ hr
end Mine
end
section
set_option maxRecDepth 100000
namespace Mine
open PySem PySem.Calls PyProof.Rows PySem.W PySem.SeqAt Builtin

theorem lv4 : levels 4 4 = [([4, 0, 0, 0], [(0, 0), (0, 1), (0, 2), (0, 3)]),
  ([3, 1, 0, 0], [(0, 0), (0, 1), (0, 2), (1, 0)]),
  ([3, 1, 0, 0], [(0, 0), (0, 1), (1, 0), (0, 2)]),
  ([2, 2, 0, 0], [(0, 0), (0, 1), (1, 0), (1, 1)]),
  ([2, 1, 1, 0], [(0, 0), (0, 1), (1, 0), (2, 0)]),
  ([3, 1, 0, 0], [(0, 0), (1, 0), (0, 1), (0, 2)]),
  ([2, 2, 0, 0], [(0, 0), (1, 0), (0, 1), (1, 1)]),
  ([2, 1, 1, 0], [(0, 0), (1, 0), (0, 1), (2, 0)]),
  ([2, 1, 1, 0], [(0, 0), (1, 0), (2, 0), (0, 1)]),
  ([1, 1, 1, 1], [(0, 0), (1, 0), (2, 0), (3, 0)])] := by decide +kernel
theorem way4_0 : dfs 6 ([4, 0, 0, 0], [(0, 0), (0, 1), (0, 2), (0, 3)]) = true := by decide +kernel
theorem way4_1 : dfs 6 ([3, 1, 0, 0], [(0, 0), (0, 1), (0, 2), (1, 0)]) = true := by decide +kernel
theorem way4_2 : dfs 6 ([3, 1, 0, 0], [(0, 0), (0, 1), (1, 0), (0, 2)]) = true := by decide +kernel
theorem way4_3 : dfs 6 ([2, 2, 0, 0], [(0, 0), (0, 1), (1, 0), (1, 1)]) = true := by decide +kernel
theorem way4_4 : dfs 6 ([2, 1, 1, 0], [(0, 0), (0, 1), (1, 0), (2, 0)]) = true := by decide +kernel
theorem way4_5 : dfs 6 ([3, 1, 0, 0], [(0, 0), (1, 0), (0, 1), (0, 2)]) = true := by decide +kernel
theorem way4_6 : dfs 6 ([2, 2, 0, 0], [(0, 0), (1, 0), (0, 1), (1, 1)]) = true := by decide +kernel
theorem way4_7 : dfs 6 ([2, 1, 1, 0], [(0, 0), (1, 0), (0, 1), (2, 0)]) = true := by decide +kernel
theorem way4_8 : dfs 6 ([2, 1, 1, 0], [(0, 0), (1, 0), (2, 0), (0, 1)]) = true := by decide +kernel
theorem way4_9 : dfs 6 ([1, 1, 1, 1], [(0, 0), (1, 0), (2, 0), (3, 0)]) = true := by decide +kernel
theorem plain4 {st : Fill} (h : st ∈ levels 4 10) : Plain 4 st.2 := by
  refine good_plain (fun p hp => (levels_in h).2 p hp) (levels_len h).2 (dfs_law 6 4 (fun st h4 => ?_) st h)
  rw [lv4] at h4
  simp only [List.mem_cons, List.not_mem_nil, or_false] at h4
  rcases h4 with rfl | rfl | rfl | rfl | rfl | rfl | rfl | rfl | rfl | rfl
  · exact way4_0
  · exact way4_1
  · exact way4_2
  · exact way4_3
  · exact way4_4
  · exact way4_5
  · exact way4_6
  · exact way4_7
  · exact way4_8
  · exact way4_9
theorem plain_all {N : Nat} (hN : N ∈ [3, 4]) {st : Fill} (h : st ∈ levels N (sizeT N)) : Plain N st.2 := by
  have h2 : N = 3 ∨ N = 4 := by simpa using hN
  rcases h2 with rfl | rfl
  · rw [sizes.1] at h; exact plain3 h
  · rw [sizes.2] at h; exact plain4 h
end Mine
end
section
set_option maxHeartbeats 4000000
set_option maxHeartbeats 4000000
namespace Mine
open PySem PySem.Calls PyProof.Rows PySem.W PySem.SeqAt

section
variable {prog : Program} {w : World} {A : Around} {E : Value → Shared → Prop} {B s : Shared} {cs cs' : List Cel} {env : Env} {Q : Value → Shared → Prop}

theorem sums_eq (ends : List Nat) : (ends.map dotS).map (fun a => ((ends.map dotS).map (cmpM a)).sum) = sumsM ends := by
  unfold sumsM
  rw [List.map_map]
  apply List.map_congr_left
  intro a _
  simp only [Function.comp, List.map_map]
  congr 1
  apply List.map_congr_left
  intro b _
  exact cmp_dots a b

theorem viaS {α : Type} {t : Sem α} {Q : α → Shared → Prop} (P : α → Prop) (H : St B cs s) (h : wpAny (model prog w) A t (fun v s' => P v ∧ St B cs s') E s) (k : ∀ v s', P v → St B cs s' → Q v s') : wpAny (model prog w) A t Q E s :=
  wpAny_mono h (fun v s' q => k v s' q.1 q.2) fun _ _ x => x
theorem viaN {t : Sem Flow} {Q : Flow → Shared → Prop} {c0 : Cel} {L : Addr} {m : Str → Option Value} {r : List Cel} (P : (Str → Option Value) → Prop) (_ : St B (c0 :: (L, NsO m) :: r) s)
    (h : wpAny (model prog w) A t (fun f s' => f = .next ∧ ∃ m', P m' ∧ St B (c0 :: (L, NsO m') :: r) s') E s) (k : ∀ m' s', P m' → St B (c0 :: (L, NsO m') :: r) s' → Q .next s') : wpAny (model prog w) A t Q E s :=
  wpAny_mono h (fun v s' q => by obtain ⟨rfl, m', hp, H'⟩ := q; exact k m' s' hp H') fun _ _ x => x

noncomputable def slR (L D2 D : Addr) (n : Int) (tn : Tok) (vs : List Value) (as : List Addr) (cs : List Cel) (y : (Str → Option Value) × SlSt) : List Cel :=
  (L, NsO y.1) :: (L + 3, CellO (some (.ref D2))) :: (L + 2, CellO (some (.ref D))) :: (L + 1, CellO (some (.int n tn))) :: (D, LstO vs) :: (rowC as y.2.2 ++ cs)
noncomputable def has (m : Str → Option Value) (x : Str) (i : Int) : Prop := ∃ t, m x = some (.int i t)

theorem pred_nat {a : Nat} (h : 0 < a) : ((a : Int) - 1).toNat = a - 1 := by rw [Int.pred_toNat, Int.toNat_natCast]
end
namespace SlD
noncomputable abbrev X := (Program) × (World) × (Around) × (Value → Shared → Prop) × (Shared) × (List Cel) × (Value → Shared → Prop) × (Int) × (Nat) × (Tok) × (Addr) × (List Addr) × (List Value) × (List (List Nat)) × (Nat) × (Addr) × (Value) × (Shared) × (Value → Shared → Prop)
noncomputable def S (prog : Program) (w : World) (A : Around) (E : Value → Shared → Prop) (B : Shared) (cs : List Cel) (Q : Value → Shared → Prop) (n : Int) (N : Nat) (tn : Tok) (D : Addr) (as : List Addr) (vs : List Value) (rows : List (List Nat)) (k : Nat) (L : Addr) (cd : Value) (s1 : Shared) (E' : Value → Shared → Prop) : Prop :=
  ∀ (hN1 : 1 ≤ N) (hN : N ≤ 4) (hn : n = N + 1) (Fn : Fns B) (Nm : Names B) (ok : Ok A (k + 3)) (hvs : ∀ (i : Nat) (a : Addr), as[i]? = some a → vs[i]? = some (Value.ref a)) (hal : as.length = N) (hsh : Shape N rows) (hidx : ((N : Int) - 1) ∈ sumsM (endsM N rows)) (h : ∀ t s', St B ((D, LstO vs) :: (rowC as (slideM N rows).2 ++ cs)) s' → Q (.int (slideM N rows).1 t) s'),
    Ok (A.deeper (envX "_law_slide" (scOf (stOf 21)) L 194 cd [(Str.ofString "ends", L + 3), (Str.ofString "lines", L + 2), (Str.ofString "n", L + 1)])) (k + 2) → St B ((L, NsO (fun _ => none)) :: (L + 3, CellO none) :: (L + 2, CellO (some (.ref D))) :: (L + 1, CellO (some (.int n tn))) :: ((D, LstO vs) :: (rowC as rows ++ cs))) s1 →
    wpAny (model prog w) (A.deeper (envX "_law_slide" (scOf (stOf 21)) L 194 cd [(Str.ofString "ends", L + 3), (Str.ofString "lines", L + 2), (Str.ofString "n", L + 1)])) (execs (bdOf (stOf 21)) (envX "_law_slide" (scOf (stOf 21)) L 194 cd [(Str.ofString "ends", L + 3), (Str.ofString "lines", L + 2), (Str.ofString "n", L + 1)])) (fun f s' => Q (match f with | .ret v => v | _ => .none) s') E' s1
noncomputable def T (x : X) : Prop := S x.1 x.2.1 x.2.2.1 x.2.2.2.1 x.2.2.2.2.1 x.2.2.2.2.2.1 x.2.2.2.2.2.2.1 x.2.2.2.2.2.2.2.1 x.2.2.2.2.2.2.2.2.1 x.2.2.2.2.2.2.2.2.2.1 x.2.2.2.2.2.2.2.2.2.2.1 x.2.2.2.2.2.2.2.2.2.2.2.1 x.2.2.2.2.2.2.2.2.2.2.2.2.1 x.2.2.2.2.2.2.2.2.2.2.2.2.2.1 x.2.2.2.2.2.2.2.2.2.2.2.2.2.2.1 x.2.2.2.2.2.2.2.2.2.2.2.2.2.2.2.1 x.2.2.2.2.2.2.2.2.2.2.2.2.2.2.2.2.1 x.2.2.2.2.2.2.2.2.2.2.2.2.2.2.2.2.2.1 x.2.2.2.2.2.2.2.2.2.2.2.2.2.2.2.2.2.2
noncomputable def x0 : X := @Classical.epsilon X ⟨⟨default, dumW, {}, fun _ _ => True, dumS, [], fun _ _ => True, 0, 0, default, 0, [], [], [], 0, 0, default, dumS, fun _ _ => True⟩⟩ fun x => ¬ T x
noncomputable def prog : Program := x0.1
noncomputable def w : World := x0.2.1
noncomputable def A : Around := x0.2.2.1
noncomputable def E : Value → Shared → Prop := x0.2.2.2.1
noncomputable def B : Shared := x0.2.2.2.2.1
noncomputable def cs : List Cel := x0.2.2.2.2.2.1
noncomputable def Q : Value → Shared → Prop := x0.2.2.2.2.2.2.1
noncomputable def n : Int := x0.2.2.2.2.2.2.2.1
noncomputable def N : Nat := x0.2.2.2.2.2.2.2.2.1
noncomputable def tn : Tok := x0.2.2.2.2.2.2.2.2.2.1
noncomputable def D : Addr := x0.2.2.2.2.2.2.2.2.2.2.1
noncomputable def as : List Addr := x0.2.2.2.2.2.2.2.2.2.2.2.1
noncomputable def vs : List Value := x0.2.2.2.2.2.2.2.2.2.2.2.2.1
noncomputable def rows : List (List Nat) := x0.2.2.2.2.2.2.2.2.2.2.2.2.2.1
noncomputable def k : Nat := x0.2.2.2.2.2.2.2.2.2.2.2.2.2.2.1
noncomputable def L : Addr := x0.2.2.2.2.2.2.2.2.2.2.2.2.2.2.2.1
noncomputable def cd : Value := x0.2.2.2.2.2.2.2.2.2.2.2.2.2.2.2.2.1
noncomputable def s1 : Shared := x0.2.2.2.2.2.2.2.2.2.2.2.2.2.2.2.2.2.1
noncomputable def E' : Value → Shared → Prop := x0.2.2.2.2.2.2.2.2.2.2.2.2.2.2.2.2.2.2
theorem at_ : S prog w A E B cs Q n N tn D as vs rows k L cd s1 E' := by
  intro hN1 hN hn Fn Nm ok hvs hal hsh hidx h ok1 H1
  refine wpAny_execs_cons ?_
  refine wpAny_Assign_Name ?_
  refine e_comp (B := B) (e_call (n_blt H1 Nm (by k_mem) (by rfl) (cw_ty (wpAny_items_cons (wpAny_BinOp (n_cell H1 rfl (by k_mem) (c_int H1 fun t3 s3 H3 => i_sub H3 fun t4 s4 H4 => wpAny_items_nil (range1 H4 fun r s5 H5 => ?_)))))))) rfl
  rw [show n - 1 = 0 + (N : Int) by (clear H5; lia)] at H5
  refine pyIter_range H5 (by (exact Int.natCast_nonneg _)) (by lia) fun it s6 H6 => ?_
  clear H5 H4 H3 H1
  refine map_end (fun a v => sv v = some (dotS (getR rows a.toNat (N - 1 - a.toNat)))) (iter_range ok1.handled) H6 (by rw [upR_len]; exact Nat.le_trans (by (exact Nat.le_trans (by assumption) (by decide))) two20) ?_ ?_
  · intro C D2 r rs ys v m s7 E7 hr ⟨t, hv⟩ hm H7
    subst hv
    have hrr := upR_mem hr
    obtain ⟨a, ha, hmem⟩ := row_mem (as := as) (rows := rows) (by rw [hal, hsh.1]) (r := r.toNat) (by rw [hsh.1]; lia)
    have hlen := hsh.2 r.toNat (by lia)
    refine Subscript_ (Subscript_ (n_cell H7 rfl (by k_mem) (n_local H7 (.head _) hm (sub_list H7 (vs := vs) (by k_mem) (by lia) (by lia) (hvs _ _ ha) ?_))))
    refine wpAny_BinOp (wpAny_BinOp (n_cell H7 rfl (by k_mem) (c_int H7 fun t8 s8 H8 => i_sub H8 fun t9 s9 H9 => n_local H9 (.head _) hm (i_sub H9 fun t10 s10 H10 => ?_))))
    have q0 : N - 1 - r.toNat < (rows.getD r.toNat []).length := by
      have : r.toNat < N := by clear hlen; lia
      rw [hlen]; clear hlen hrr hn hN; (clear hN1 hidx; lia)
    have e1 : (n - 2 - r).toNat = N - 1 - r.toNat := by clear q0 hlen; (clear hN hal; omega)
    refine sub_strs H10 (List.mem_of_mem_drop (i := 8) (List.mem_append_left _ hmem)) (by (clear e1; lia)) (by (clear e1; lia)) (by rw [e1]; exact dots_at q0) fun t11 => ⟨?_, m, H10⟩
    rfl
  · intro D2 ys s7 hp H7
    have hys : ys.map sv = ((endsM N rows).map dotS).map some := by
      have := paired_map (g := fun a : Int => dotS (getR rows a.toNat (N - 1 - a.toNat))) hp
      rw [this]; simp [endsM]
    have H8 := H7.weak (P' := SeqO sv ((endsM N rows).map dotS)) .head fun o ho => ⟨_, ho, hys⟩
    clear H7 H6 hp
    refine s_cell H8 rfl (.tail (.tail .head)) fun s9 H9 => ?_
    have hel : (endsM N rows).length = N := by unfold endsM; rw [List.length_map, upR_len]
    refine wpAny_execs_cons ?_
    refine wpAny_Assign_Name ?_
    refine m_call F.plainAttrs_list F.slot_list_index F.type_list_index ?_ rfl
    refine e_comp1 (B := B) (n_cell H9 rfl (by k_mem) ?_) rfl (fun _ => rfl) (fun _ => rfl)
    refine pyIter_seq H9 fun it s10 H10 => ?_
    have hz1 : ((endsM N rows).map dotS).length ≤ sizeLine := by rw [List.length_map, hel]; exact Nat.le_trans (by (exact Nat.le_trans (by assumption) (by decide))) two20
    refine map_end1 (fun a v => iv v = some (((endsM N rows).map dotS).map (cmpM a)).sum) (iter_seq ok1.handled) H10 hz1 ?_ ?_
    · intro C c D3 a rs ys v m s11 E11 ha hv H11
      obtain ⟨ta, rfl⟩ := sv_str hv
      refine e_call (n_blt H11 Nm (by k_mem) (by rfl) (cw_blt (wpAny_items_cons ?_)))
      refine e_comp (B := B) (n_cell H11 rfl (by k_mem) ?_) rfl
      have H12 := H11.front 4
      refine pyIter_seq H12 fun it2 s13 H13 => ?_
      refine map_end (fun b v => iv v = some (cmpM a b)) (iter_seq ok1.handled) H13 hz1 ?_ ?_
      · intro C2 D4 b rs2 ys2 v2 m2 s14 E14 hb hv2 hm2 H14
        obtain ⟨tb, rfl⟩ := sv_str hv2
        refine e_call (n_glob H14 (Nm.g fun mg h => h.1) (cw_fn Fn.strcoll ?_))
        refine wpAny_items_cons (n_cell H14 rfl (by k_mem) (wpAny_items_cons (n_local H14 (.head _) hm2 (wpAny_items_nil ⟨⟨_, H14⟩, spec_strcoll (k := k + 1) Fn Nm ok1 H14 fun t s' H' => ⟨rfl, m2, H'⟩⟩))))
      · intro D4 ys2 s14 hp2 H14
        have hys2 := paired_map (g := cmpM a) hp2
        have H15 := H14.weak (P' := SeqO iv _) .head fun o ho => ⟨_, ho, hys2⟩
        refine wpAny_items_nil (f_sum (α := Int) (val := id) (B := B) (pyIter_seq H15 fun it3 s16 H16 => ⟨_, _, _, _, _, iter_seq ok1.handled, fun a v h => iv_int h, H16, fun s17 t17 H17 => ⟨?_, (m, some (.str a ta)), St.sink (pre := [_, _, _, _]) (T := []) (H17.drop 1)⟩⟩))
        rw [List.map_id]; rfl
    · intro D3 ys s11 hp H11
      have hys2 : ys.map iv = (sumsM (endsM N rows)).map some := by
        rw [paired_map (g := fun a => (((endsM N rows).map dotS).map (cmpM a)).sum) hp]
        rw [sums_eq]
      have H12 := H11.weak (P' := IntsO (sumsM (endsM N rows))) .head fun o ho => ⟨_, ho, hys2⟩
      refine ⟨(H12.isSeq (f := iv) (.head _)).1, (H12.isSeq (f := iv) (.head _)).2, ?_⟩
      refine wpAny_items_cons (wpAny_BinOp (n_cell H12 rfl (by k_mem) (c_int H12 fun t13 s13 H13 => i_sub H13 fun t14 s14 H14 => wpAny_items_nil ?_)))
      rw [show n - 2 = (N : Int) - 1 by lia]
      have hsl : (sumsM (endsM N rows)).length = N := by unfold sumsM; rw [List.length_map, hel]
      refine f_index_ints H14 (.head _) hidx (by lia) fun t15 s15 H15 => ?_
      have hjl := List.idxOf_lt_length_of_mem hidx
      rw [hsl] at hjl
      have hdef : slideM N rows = (N - 1 - (sumsM (endsM N rows)).idxOf ((N : Int) - 1), setR (iterS (N - 1) (((sumsM (endsM N rows)).idxOf ((N : Int) - 1), N - 1 - (sumsM (endsM N rows)).idxOf ((N : Int) - 1)), rows)).2 0 0 1) := rfl
      generalize (sumsM (endsM N rows)).idxOf ((N : Int) - 1) = r0 at H15 hdef hjl ⊢
      refine s_local (m' := fun _ => none) H15 (.tail (.tail .head)) fun s16 H16 => ?_
      refine wpAny_execs_cons ?_
      refine wpAny_Assign_Name (wpAny_BinOp (wpAny_BinOp (n_cell H16 rfl (by k_mem) (c_int H16 fun t17 s17 H17 => i_sub H17 fun t18 s18 H18 => n_local H18 (by k_mem) rfl (i_sub H18 fun t19 s19 H19 => ?_)))))
      refine s_local (m' := fun _ => none) H19 (.tail (.tail .head)) fun s20 H20 => ?_
      refine wpAny_execs_cons ?_
      refine wpAny_Assign_Name (n_local H20 (by k_mem) rfl ?_)
      refine s_local (m' := fun _ => none) H20 (.tail (.tail .head)) fun s21 H21 => ?_
      have H22 := H21.drop 2
      clear H21 H20 H19 H18 H17 H16 H15 H14 H13 H12 H11 H10 H9 H8 hp
      refine wpAny_execs_cons ?_
      refine wpAny_For ?_
      refine e_call (n_blt H22 Nm (by k_mem) (by rfl) (cw_ty (wpAny_items_cons (wpAny_BinOp (n_cell H22 rfl (by k_mem) (c_int H22 fun t3 s3 H3 => i_sub H3 fun t4 s4 H4 => wpAny_items_nil (range1 H4 fun r s5 H5 => ?_)))))))
      rw [show n - 2 = 0 + ((N - 1 : Nat) : Int) by (clear H5; lia)] at H5
      refine pyIter_range H5 (by (exact Int.natCast_nonneg _)) (by (clear hz1 hjl hN1 hn hal hel hsl; omega)) fun it s6 H6 => ?_
      clear H5 H4 H3 H22
      refine r_for (iter_range ok1.handled) (slR L D2 D n tn vs as cs) (fun rs y => has y.1 (Str.ofString "r") y.2.1.1 ∧ has y.1 (Str.ofString "c") y.2.1.2 ∧ has y.1 (Str.ofString "named") ((N - 1 - r0 : Nat) : Int) ∧ Shape N y.2.2 ∧ rs.length ≤ y.2.1.1 + y.2.1.2 ∧ y.2.1.1 + y.2.1.2 ≤ N - 1 ∧
        iterS rs.length y.2 = iterS (N - 1) ((r0, N - 1 - r0), rows)) (x0 := (_, ((r0, N - 1 - r0), rows))) H6 ?_ ?_ ?_
      · refine ⟨⟨_, rfl⟩, ⟨t19, congrArg (fun i => some (Value.int i t19)) (by dsimp only; (clear hN hn Fn Nm ok hvs hal hsh hidx h ok1 hys hel hz1 hys2 hsl; lia))⟩, ⟨t19, congrArg (fun i => some (Value.int i t19)) (by (clear hdef; lia))⟩, hsh, ?_, ?_, by rw [upR_len]⟩
        · rw [upR_len]; dsimp only; (clear hz1 hN hn hal hel hsl hjl; omega)
        · dsimp only; (clear hz1 hN hn hal hel hsl; omega)
      · clear H6
        rintro stp rs v ⟨m, ⟨⟨r1, c1⟩, rows1⟩⟩ s1 E1 ⟨tv, hv⟩ ⟨⟨tr, hr⟩, ⟨tc, hc⟩, ⟨tm, hm⟩, hs1, hle, hsum, hit⟩ H1
        subst hv
        dsimp only at hr hc hm hs1 hle hsum hit
        rw [List.length_cons] at hle hit
        have hb := step_bound (st := ((r1, c1), rows1)) (by dsimp only; (exact Nat.zero_lt_of_lt (by assumption)))
        dsimp only at hb
        obtain ⟨b1, b2, b3, b4, b5, b6⟩ := hb
        refine wpAny_assign_Name (s_local (m' := fun _ => none) H1 (.tail .head) fun s2 H2 => ?_)
        refine wpAny_execs_cons ?_
        refine wpAny_Assign_Name (viaS (fun v => ∃ t, v = .int (if c1 = 0 then 1 else -1) t) H2 ?_ fun v s3 hv H3 => ?_)
        · refine wpAny_IfExp (tr_int (n_local H2 (by k_mem) (by exact hc) (c_int H2 fun t3 s3 H3 => PyProof.Rows.eq_int (wpAny_truthy_bool ?_))))
          by_cases h0 : c1 = 0
          · rw [if_pos (by subst h0; rfl), if_pos h0]
            exact c_int H3 fun t4 s4 H4 => ⟨⟨_, rfl⟩, H4⟩
          · rw [if_neg (by simp; assumption), if_neg h0]
            exact wpAny_UnaryOp (c_int H3 fun t4 s4 H4 => PyProof.Rows.neg_int ⟨⟨_, rfl⟩, H4.tok _⟩)
        obtain ⟨ts, rfl⟩ := hv
        refine s_local (m' := fun _ => none) H3 (.tail .head) fun s4 H4 => ?_
        refine wpAny_execs_cons ?_
        refine viaN (fun m' => (∃ t, m' (Str.ofString "r") = some (.int r1 t)) ∧ (∃ t, m' (Str.ofString "c") = some (.int c1 t)) ∧ (∃ t, m' (Str.ofString "named") = some (.int ((N - 1 - r0 : Nat) : Int) t)) ∧ (∃ t, m' (Str.ofString "side") = some (.int (sideM ((r1, c1), rows1)) t))) H4 ?_ fun m' s5 hm' H5 => ?_
        · refine wpAny_If (wpAny_isTrue_BoolOp (wpAny_allTrue_And_cons (tr_int (n_local H4 (by k_mem) (by exact hr) (c_int H4 fun t5 s5 H5 => PyProof.Rows.gt_int (wpAny_truthy_bool ?_))))))
          by_cases h0 : 0 < r1
          · rw [if_pos (decide_eq_true (by lia))]
            refine wpAny_allTrue_And_cons (tr_int (n_local H5 (by k_mem) (by exact hc) (c_int H5 fun t6 s6 H6 => PyProof.Rows.gt_int (wpAny_truthy_bool ?_))))
            by_cases h1 : 0 < c1
            · rw [if_pos (decide_eq_true (by lia))]
              refine wpAny_allTrue_And_nil ?_
              rw [if_pos rfl]
              refine wpAny_execs_cons ?_
              refine wpAny_Assign_Name ?_
              obtain ⟨a, ha, hmem⟩ := row_mem (as := as) (rows := rows1) (by rw [hal, hs1.1]) (r := r1 - 1) (by rw [hs1.1]; (clear hn hidx h hz1 h1; lia))
              obtain ⟨a', ha', hmem'⟩ := row_mem (as := as) (rows := rows1) (by rw [hal, hs1.1]) (r := r1) (by rw [hs1.1]; (clear hz1 hjl hle b1 b2 b3 b4 h1 hN hn hal hel hsl b5 b6; omega))
              have hl1 := hs1.2 (r1 - 1) (by (clear h1; lia))
              have hl2 := hs1.2 r1 (by (clear h1; lia))
              have q1 : c1 < (rows1.getD (r1 - 1) []).length := by rw [hl1]; clear hl1 hl2; (clear hz1 hjl hle b1 b2 b3 b4 hN hn hal hel hsl b5 b6; omega)
              have q2 : c1 - 1 < (rows1.getD r1 []).length := by rw [hl2]; clear hl1 hl2; (clear hz1 hjl hle b1 b2 b3 b4 q1 hN hn hal hel hsl b5 b6; omega)
              have e1 : ((r1 : Int) - 1).toNat = r1 - 1 := pred_nat h0
              have e2 : ((c1 : Int) - 1).toNat = c1 - 1 := pred_nat h1
              refine e_call (n_glob H6 (Nm.g fun mg h => h.1) (cw_fn Fn.strcoll ?_))
              refine wpAny_items_cons (Subscript_ (Subscript_ (n_cell H6 rfl (by k_mem) (wpAny_BinOp (n_local H6 (by k_mem) (by exact hr) (c_int H6 fun t7 s7 H7 => i_sub H7 fun t8 s8 H8 => ?_))))))
              refine sub_list H8 (vs := vs) (by k_mem) (by lia) (by lia) (by rw [e1]; exact hvs _ _ ha) ?_
              refine n_local H8 (by k_mem) (by exact hc) (sub_strs H8 (List.mem_of_mem_drop (i := 6) (List.mem_append_left _ hmem)) (by (exact Int.natCast_nonneg _)) (by (clear hz1 hjl hle hsum h0 h1 hl1 q1 e1 hN1 hn hal hel hsl b1 b2 b3 b4 e2; omega)) (by rw [Int.toNat_natCast]; exact dots_at q1) fun t9 => ?_)
              refine wpAny_items_cons (Subscript_ (Subscript_ (n_cell H8 rfl (by k_mem) (n_local H8 (by k_mem) (by exact hr) (sub_list H8 (vs := vs) (by k_mem) (by (exact Int.natCast_nonneg _)) (by lia) (by rw [Int.toNat_natCast]; exact hvs _ _ ha') ?_)))))
              refine wpAny_BinOp (n_local H8 (by k_mem) (by exact hc) (c_int H8 fun t10 s10 H10 => i_sub H10 fun t11 s11 H11 => ?_))
              refine sub_strs H11 (List.mem_of_mem_drop (i := 6) (List.mem_append_left _ hmem')) (by lia) (by (clear hc hle hsum b1 b2 b4 h0 h1; lia)) (by rw [e2]; exact dots_at q2) fun t12 => ?_
              refine wpAny_items_nil ⟨⟨_, H11⟩, spec_strcoll (k := k + 1) Fn Nm ok1 H11 fun t13 s13 H13 => ?_⟩
              refine s_local (m' := fun _ => none) H13 (.tail .head) fun s14 H14 => ?_
              refine wpAny_execs_nil ⟨rfl, _, ⟨⟨tr, by exact hr⟩, ⟨tc, by exact hc⟩, ⟨tm, by exact hm⟩, ⟨t13, ?_⟩⟩, H14⟩
              have e : sideM ((r1, c1), rows1) = cmpN (getR rows1 (r1 - 1) c1) (getR rows1 r1 (c1 - 1)) := by
                unfold sideM; rw [if_pos (by dsimp only; lia)]
              rw [e, ← cmp_dots]; rfl
            · rw [if_neg (by simp; (exact Nat.eq_zero_of_not_pos (by assumption))), if_neg (by decide)]
              refine wpAny_execs_nil ⟨rfl, _, ⟨⟨tr, by exact hr⟩, ⟨tc, by exact hc⟩, ⟨tm, by exact hm⟩, ⟨ts, ?_⟩⟩, H6⟩
              have e : sideM ((r1, c1), rows1) = if c1 = 0 then 1 else -1 := by
                unfold sideM; rw [if_neg (by dsimp only; lia)]
              rw [e]; rfl
          · rw [if_neg (by simp; (exact Nat.eq_zero_of_not_pos (by assumption))), if_neg (by decide)]
            refine wpAny_execs_nil ⟨rfl, _, ⟨⟨tr, by exact hr⟩, ⟨tc, by exact hc⟩, ⟨tm, by exact hm⟩, ⟨ts, ?_⟩⟩, H5⟩
            have e : sideM ((r1, c1), rows1) = if c1 = 0 then 1 else -1 := by
              unfold sideM; rw [if_neg (by dsimp only; lia)]
            rw [e]; rfl
        clear hr hc hm H1 H2 H3 H4
        obtain ⟨⟨tr, hr⟩, ⟨tc, hc⟩, ⟨tm, hm⟩, ⟨ts, hs⟩⟩ := hm'
        have ea : (r1 : Int) - (if (sideM ((r1, c1), rows1) == 1) = true then (1 : Int) else 0) = (aboveM ((r1, c1), rows1) : Nat) := by
          simp only [aboveM]
          by_cases e : sideM ((r1, c1), rows1) = 1
          · have := b5 e; rw [if_pos (by rw [e]; rfl), if_pos e]; (clear hN1 hN hn hal hel hz1 hsl hjl hle hsum b1 b2 b3 b4 e; omega)
          · rw [if_neg (by simpa using e), if_neg e]; rfl
        have eb : (c1 : Int) - (if (sideM ((r1, c1), rows1) == -1) = true then (1 : Int) else 0) = (besideM ((r1, c1), rows1) : Nat) := by
          simp only [besideM]
          by_cases e : sideM ((r1, c1), rows1) = -1
          · have := b6 e; rw [if_pos (by rw [e]; rfl), if_pos e]; (clear hjl hle hsum b1 b2 b3 b4 ea e; omega)
          · rw [if_neg (by simpa using e), if_neg e]; rfl
        have est : stepS ((r1, c1), rows1) = ((aboveM ((r1, c1), rows1), besideM ((r1, c1), rows1)), setR rows1 r1 c1 (getR rows1 (aboveM ((r1, c1), rows1)) (besideM ((r1, c1), rows1)))) := rfl
        refine wpAny_execs_cons ?_
        refine x_swap2 (B := B) ok1.handled (wpAny_BinOp (n_local H5 (by k_mem) (by exact hr) (wpAny_Compare1 (n_local H5 (by k_mem) (by exact hs) (c_int H5 fun t6 s6 H6 => PyProof.Rows.eq_int (PySem.IntBool.sub_int_bool ?_))))))
        have H7 := H6.tok (s6.toks + 1)
        rw [ea]
        refine wpAny_BinOp (n_local H7 (by k_mem) (by exact hc) (wpAny_Compare1 (n_local H7 (by k_mem) (by exact hs) (wpAny_UnaryOp (c_int H7 fun t8 s8 H8 => PyProof.Rows.neg_int (PyProof.Rows.eq_int (PySem.IntBool.sub_int_bool ?_)))))))
        have H9 := (H8.tok (s8.toks + 1)).tok (s8.toks + 1 + 1)
        rw [eb]
        generalize aboveM ((r1, c1), rows1) = ab at b1 b2 b3 est ⊢
        generalize besideM ((r1, c1), rows1) = be at b1 b2 b4 est ⊢
        refine ⟨_, H9, fun s11 H11 => s_local (m' := fun _ => none) H11 (.tail .head) fun s12 H12 => s_local (m' := fun _ => none) H12 (.tail .head) fun s13 H13 => ?_⟩
        obtain ⟨a, ha, hmem⟩ := row_mem (as := as) (rows := rows1) (by rw [hal, hs1.1]) (r := ab) (by rw [hs1.1]; (clear hle; lia))
        obtain ⟨a', ha', hmem'⟩ := row_mem (as := as) (rows := rows1) (by rw [hal, hs1.1]) (r := r1) (by rw [hs1.1]; (clear hjl hle b3 b1 b2 b4 hN hn hal hel hsl b5 b6 ea eb; omega))
        have hl1 := hs1.2 ab (by lia)
        have hl2 := hs1.2 r1 (by (clear hjl hle b3 b1 b2 b4 hl1 hN hn hal hel hsl b5 b6 ea eb; omega))
        have hrow : rows1[r1]? = some (rows1.getD r1 []) := by rw [List.getD_eq_getElem?_getD, List.getElem?_eq_getElem (by rw [hs1.1]; (clear hjl hle b3 b1 b2 b4 hl1 hl2 hN hn hal hel hsl b5 b6 ea eb; omega))]; rfl
        refine wpAny_execs_cons ?_
        refine wpAny_Assign_Subscript (Subscript_ (Subscript_ (n_cell H13 rfl (by k_mem) (n_local H13 (by k_mem) rfl (sub_list H13 (vs := vs) (by k_mem) (by (exact Int.natCast_nonneg _)) (by lia) (by rw [Int.toNat_natCast]; exact hvs _ _ ha) ?_)))))
        refine n_local H13 (by k_mem) rfl (sub_strs H13 (List.mem_of_mem_drop (i := 6) (List.mem_append_left _ hmem)) (by (exact Int.natCast_nonneg _)) (by lia) (by rw [Int.toNat_natCast]; exact dots_at (by (clear hl2; lia))) fun t14 => ?_)
        refine Subscript_ (n_cell H13 rfl (by k_mem) (n_local H13 (by k_mem) (by exact hr) (sub_list H13 (vs := vs) (by k_mem) (by (exact Int.natCast_nonneg _)) (by lia) (by rw [Int.toNat_natCast]; exact hvs _ _ ha') ?_)))
        have e3 : ((rows1.getD r1 []).map dotS).set (c1 : Int).toNat (dotS ((rows1.getD ab []).getD be 0)) = ((rows1.getD r1 []).set c1 ((rows1.getD ab []).getD be 0)).map dotS := by rw [List.map_set, Int.toNat_natCast]
        refine n_local H13 (by k_mem) (by exact hc) (set_strs (ss := (rows1.getD r1 []).map dotS) H13 (by rw [e3]; exact .tail (.tail (.tail (.tail (.tail (.tail (row_upd ha' hrow (by rw [hal, hs1.1])))))))) (by (exact Int.natCast_nonneg _)) (by lia) (by rw [List.length_map]; (clear hle e3; lia)) fun s15 H15 => ?_)
        refine wpAny_execs_cons ?_
        refine x_swap2 (B := B) ok1.handled (n_local H15 (by k_mem) rfl (n_local H15 (by k_mem) rfl ⟨_, H15, fun s16 H16 => s_local (m' := fun _ => none) H16 (.tail .head) fun s17 H17 => s_local (m' := fun _ => none) H17 (.tail .head) fun s18 H18 => ?_⟩))
        refine wpAny_execs_nil ⟨rfl, (_, ((ab, be), setR rows1 r1 c1 (getR rows1 ab be))), ⟨⟨_, rfl⟩, ⟨_, rfl⟩, ⟨tm, by exact hm⟩, shape_set hs1, ?_, ?_, ?_⟩, H18⟩
        · dsimp only; lia
        · dsimp only; (exact Nat.le_trans (by assumption) (by assumption))
        · rw [← est]; exact hit
      · rintro ⟨m, ⟨⟨r1, c1⟩, rows1⟩⟩ s1 ⟨⟨tr, hr⟩, ⟨tc, hc⟩, ⟨tm, hm⟩, hs1, _, _, hit⟩ H1
        dsimp only at hr hc hm hs1 hit
        have hit : ((r1, c1), rows1) = iterS (N - 1) ((r0, N - 1 - r0), rows) := hit
        obtain ⟨a', ha', hmem'⟩ := row_mem (as := as) (rows := rows1) (by rw [hal, hs1.1]) (r := 0) (by rw [hs1.1]; assumption)
        have hl2 := hs1.2 0 (by assumption)
        have hrow : rows1[0]? = some (rows1.getD 0 []) := by rw [List.getD_eq_getElem?_getD, List.getElem?_eq_getElem (by rw [hs1.1]; assumption)]; rfl
        refine wpAny_execs_cons ?_
        refine wpAny_Assign_Subscript (c_str H1 fun t2 s2 H2 => Subscript_ (n_cell H2 rfl (by k_mem) (c_int H2 fun t3 s3 H3 => sub_list H3 (vs := vs) (by k_mem) (by (exact Int.natCast_nonneg _)) (by (exact Int.natCast_nonneg _)) (hvs _ _ ha') ?_)))
        have e3 : ((rows1.getD 0 []).map dotS).set (0 : Int).toNat (Str.ofString ".-") = ((rows1.getD 0 []).set 0 1).map dotS := by
          rw [List.map_set]; rfl
        refine c_int H3 fun t4 s4 H4 => set_strs (ss := (rows1.getD 0 []).map dotS) H4 (by rw [e3]; exact .tail (.tail (.tail (.tail (.tail (row_upd ha' hrow (by rw [hal, hs1.1]))))))) (by (exact Int.natCast_nonneg _)) (by (exact Int.natCast_nonneg _)) (by rw [List.length_map]; lia) fun s5 H5 => ?_
        refine wpAny_execs_cons ?_
        refine wpAny_Return_some (n_local H5 (by k_mem) (by exact hm) ?_)
        have e4 : (slideM N rows) = (N - 1 - r0, setR rows1 0 0 1) := by rw [hdef, ← hit]
        rw [e4] at h
        exact h tm s5 (H5.drop 4)
theorem all_ (x : X) : T x := Classical.byContradiction fun hn => Classical.epsilon_spec (p := fun x => ¬ T x) ⟨x, hn⟩ at_
end SlD
section
variable {prog : Program} {w : World} {A : Around} {E : Value → Shared → Prop} {B s : Shared} {cs cs' : List Cel} {env : Env} {Q : Value → Shared → Prop}
theorem spec_slide {n : Int} {N : Nat} {tn : Tok} {D : Addr} {as : List Addr} {vs : List Value} {rows : List (List Nat)} {k : Nat} (hN1 : 1 ≤ N) (hN : N ≤ 4) (hn : n = N + 1) (Fn : Fns B) (Nm : Names B) (ok : Ok A (k + 3)) (H : St B ((D, LstO vs) :: (rowC as rows ++ cs)) s) (hvs : ∀ (i : Nat) (a : Addr), as[i]? = some a → vs[i]? = some (Value.ref a)) (hal : as.length = N) (hsh : Shape N rows) (hidx : ((N : Int) - 1) ∈ sumsM (endsM N rows)) (h : ∀ t s', St B ((D, LstO vs) :: (rowC as (slideM N rows).2 ++ cs)) s' → Q (.int (slideM N rows).1 t) s') :
    wpAny (model prog w) A (call (.ref 194) [.int n tn, .ref D]) Q E s := by
  refine call_fnC (binds := [(Str.ofString "n", .int n tn), (Str.ofString "lines", .ref D)]) (m := fun _ => none) (cl := fun L => [(Str.ofString "ends", L + 3), (Str.ofString "lines", L + 2), (Str.ofString "n", L + 1)])
    (cels := fun L => [(L + 3, CellO none), (L + 2, CellO (some (.ref D))), (L + 1, CellO (some (.int n tn)))]) Fn.slide (fun _ _ _ => rfl) ok Nm H (fun _ _ _ => rfl) (fun _ => rfl) (fun _ _ _ => rfl) (fun _ _ _ => rfl) ?_
  intro L cd s1 E' ok1 H1
  exact SlD.all_ ⟨prog, w, A, E, B, cs, Q, n, N, tn, D, as, vs, rows, k, L, cd, s1, E'⟩ hN1 hN hn Fn Nm ok hvs hal hsh hidx h ok1 H1

end
end Mine
end
section
set_option maxRecDepth 100000
namespace Mine
open PySem PySem.Calls PyProof.Rows PySem.W PySem.SeqAt Builtin

structure Tn where
  m : Str → Option Value
  Dl : Addr
  as : List Addr
  e : Addr
  rows : List (List Nat)
  t : Nat
  was : List Addr
  ws : List (Nat × Nat)
  nm : List Int
  sg : List Addr
noncomputable def sgC (sg : List Addr) : List Cel := sg.map fun a => (a, IntsO [-1, 1, 0])
noncomputable def laR (L Dn Ds x dx nD Do : Addr) (n : Int) (tn : Tok) (ks : List Int) (oas : List Addr) (ord : List (Int × Int)) (y : Tn) : List Cel :=
  (L, NsO y.m) :: (y.Dl, LstO (y.as.map .ref ++ [.ref y.e])) :: (y.e, StrsO (restS (1 + y.t))) :: (Dn, IntsO y.nm) :: (Ds, LstO (y.sg.map .ref)) :: (x, PileO dx (y.was.map .ref)) :: (dx, NsO (sizeM n tn)) ::
    (L + 2, CellO (some (.ref x))) :: (L + 1, CellO (some (.ref nD))) :: (nD, IntsO ks) :: (Do, LstO (oas.map .ref)) :: (80, TabO) :: (rowC y.as y.rows ++ (txtC y.was (y.ws.map (wS (bk ks))) ++ (sgC y.sg ++ tupC oas ord)))
noncomputable def laK (N : Nat) (Dn Ds Do : Addr) (n : Int) (tn : Tok) (whole : Int) (tot : Nat) (nmE : List Nat) (rowsE : List (List Nat)) (js : List Int) (y : Tn) : Prop :=
  (y.m (Str.ofString "n") = some (.int n tn) ∧ y.m (Str.ofString "order") = some (.ref Do) ∧ y.m (Str.ofString "lines") = some (.ref y.Dl) ∧ y.m (Str.ofString "named") = some (.ref Dn) ∧ y.m (Str.ofString "signs") = some (.ref Ds) ∧ ∃ tw, y.m (Str.ofString "whole") = some (.int whole tw)) ∧
  (js = upR y.t (tot - y.t) ∧ y.t ≤ tot ∧ y.as.length = N ∧ y.was.length = y.ws.length ∧ y.sg.length = y.t ∧ y.nm.length = y.t) ∧
  (Shape N y.rows ∧ Within 1 (12 + y.t) y.rows) ∧ (y.ws.length = N + 1 ∧ ∀ p ∈ y.ws, p.1 ≤ 100 ∧ p.2 ≤ 10) ∧
  ∃ rest, runR N (tot - y.t) y.rows = some (rest, rowsE) ∧ runW rest y.ws = some (wsE (N + 1)) ∧ nmE.map Int.ofNat = y.nm ++ rest.map Int.ofNat

theorem wsum_bd : ∀ {ps : List (Str × Str)}, (∀ p ∈ ps, p.1.length ≤ 1000 ∧ p.2.length ≤ 1000) → 0 ≤ wsum ps ∧ wsum ps ≤ 2000 * ps.length
  | [], _ => by simp [wsum]
  | p :: ps, h => by
    have ih := wsum_bd (ps := ps) fun q hq => h q (.tail _ hq)
    have hp := h p (.head _)
    have e : wsum (p :: ps) = ((p.1.length : Int) + p.2.length) + wsum ps := by simp [wsum]
    rw [e, List.length_cons]
    push_cast
    lia
open Classical in
theorem perm_of {a b : List Cel} (h : ∀ x, a.count x = b.count x) : a.Perm b := List.perm_iff_count.mpr h
theorem perm0 (x dx D e Do nD L L2 L1 t80 : Cel) (T R U : List Cel) : (x :: dx :: (T ++ (D :: e :: (R ++ (Do :: nD :: L :: L2 :: L1 :: t80 :: U))))).Perm (L :: D :: e :: x :: dx :: L2 :: L1 :: nD :: Do :: t80 :: (R ++ (T ++ U))) :=
  perm_of fun a => by simp only [List.count_append, List.count_cons]; ac_rfl
theorem perm1 (Dn Ds L D e x dx L2 L1 nD Do t80 : Cel) (X : List Cel) : (Ds :: Dn :: L :: D :: e :: x :: dx :: L2 :: L1 :: nD :: Do :: t80 :: X).Perm (L :: D :: e :: Dn :: Ds :: x :: dx :: L2 :: L1 :: nD :: Do :: t80 :: X) :=
  perm_of fun a => by simp only [List.count_cons]; ac_rfl

theorem perm2 (c0 c1 c2 c3 c4 c5 x dx c6 c7 c8 c9 c10 : Cel) (R T X : List Cel) : (c0 :: c1 :: c2 :: c3 :: c4 :: c5 :: x :: dx :: c6 :: c7 :: c8 :: c9 :: c10 :: (R ++ (T ++ X))).Perm (x :: dx :: (T ++ (c0 :: c1 :: c2 :: c3 :: c4 :: c5 :: c6 :: c7 :: c8 :: c9 :: c10 :: (R ++ X)))) :=
  perm_of fun a => by simp only [List.count_append, List.count_cons]; ac_rfl
theorem perm3 (D c0 c1 c2 c3 c4 c5 x dx c6 c7 c8 c9 c10 : Cel) (R T S U : List Cel) : (D :: x :: dx :: (T ++ (c0 :: c1 :: c2 :: c3 :: c4 :: c5 :: c6 :: c7 :: c8 :: c9 :: c10 :: (R ++ (S ++ U))))).Perm (c0 :: c1 :: c2 :: c3 :: c4 :: c5 :: x :: dx :: c6 :: c7 :: c8 :: c9 :: c10 :: (R ++ (T ++ ((S ++ [D]) ++ U)))) :=
  perm_of fun a => by simp only [List.count_append, List.count_cons, List.count_nil]; ac_rfl
theorem perm4 (Dl it L e c4 c5 c6 c7 c8 c9 c10 c11 c12 : Cel) (R X : List Cel) : (Dl :: it :: L :: e :: c4 :: c5 :: c6 :: c7 :: c8 :: c9 :: c10 :: c11 :: c12 :: (R ++ X)).Perm (Dl :: ((R ++ [e]) ++ (it :: L :: c4 :: c5 :: c6 :: c7 :: c8 :: c9 :: c10 :: c11 :: c12 :: X))) :=
  perm_of fun a => by simp only [List.count_append, List.count_cons, List.count_nil]; ac_rfl
theorem perm5 (D Dl it L e c4 c5 c6 c7 c8 c9 c10 c11 c12 : Cel) (R O X : List Cel) : (D :: ((R ++ [e]) ++ (Dl :: (O ++ (it :: L :: c4 :: c5 :: c6 :: c7 :: c8 :: c9 :: c10 :: c11 :: c12 :: X))))).Perm (Dl :: (O ++ (it :: L :: D :: e :: c4 :: c5 :: c6 :: c7 :: c8 :: c9 :: c10 :: c11 :: c12 :: (R ++ X)))) :=
  perm_of fun a => by simp only [List.count_append, List.count_cons, List.count_nil]; ac_rfl

end Mine
end
section
set_option maxRecDepth 100000
namespace Mine
open PySem PySem.Calls PyProof.Rows PySem.W PySem.SeqAt Builtin

section
variable {prog : Program} {w : World} {M : Model} {A : Around} {E : Value → Shared → Prop} {B s : Shared} {cs cs' : List Cel} {env : Env} {Q : Value → Shared → Prop}

theorem and_true {e1 e2 : Expr} {rest : List Expr} {pos : Pos} (h : wpAny M A (eval e1 env) (fun v s₁ => v = .bool true ∧ wpAny M A (eval (.BoolOp .And (e2 :: rest) pos) env) Q E s₁) E s) :
    wpAny M A (eval (.BoolOp .And (e1 :: e2 :: rest) pos) env) Q E s := by
  refine BoolOp_and (wpAny_mono h (fun v s₁ h₁ => ?_) fun _ _ x => x)
  obtain ⟨rfl, h₁⟩ := h₁
  exact wpAny_truthy_bool (by first | exact h₁ | simpa using h₁)

theorem eq_lists {a b : Addr} {vs us : List Value} (ha : s.heap.IsList a vs.toArray) (hb : s.heap.IsList b us.toArray) (hl : vs.length = us.length) (hu : A.units < cLine)
    (he : ∀ (j : Nat) v u, vs[j]? = some v → us[j]? = some u → EqAt A.in1 s v u true) : RcAt A s (.ref a) (.ref b) true := by
  have := RcAt.lists (e := fun _ => true) ha hb (by simpa using hl) hu (fun j h1 h2 => by
    have g1 : j < vs.length := by simpa using h1
    have g2 : j < us.length := by simpa using h2
    refine he j _ _ ?_ ?_
    · rw [List.getElem?_eq_getElem g1]; simp
    · rw [List.getElem?_eq_getElem g2]; simp)
  rwa [show (List.range vs.toArray.size).all (fun _ => true) = true from List.all_eq_true.mpr fun _ _ => rfl] at this
theorem eqAt_refs {a b : Addr} (h : RcAt A s (.ref a) (.ref b) true) : EqAt A s (.ref a) (.ref b) true := by
  by_cases e : a = b
  · subst e; exact EqAt.same _
  · exact EqAt.of_refs e h
theorem eq_seq {β : Type} {f : Value → Option β} {a b : Addr} {ss : List β} (hf : ∀ v u x A, f v = some x → f u = some x → EqAt A s v u true) (H : St B cs s) (ha : (a, SeqO f ss) ∈ cs) (hb : (b, SeqO f ss) ∈ cs) (hu : A.units < cLine) : RcAt A s (.ref a) (.ref b) true := by
  obtain ⟨_, ho, vs, ⟨n, rfl⟩, hv⟩ := H.get ha
  obtain ⟨_, ho2, us, ⟨n2, rfl⟩, hw⟩ := H.get hb
  refine eq_lists (Heap.PlainList.isList ⟨n, ho⟩) (Heap.PlainList.isList ⟨n2, ho2⟩) (by rw [map_len hv, map_len hw]) hu fun j v u h1 h2 => ?_
  have g1 := congrArg (·[j]?) hv
  have g2 := congrArg (·[j]?) hw
  simp only [List.getElem?_map, h1, h2, Option.map_some] at g1 g2
  cases q : ss[j]? with
  | none => rw [q] at g1; cases g1
  | some x =>
    rw [q] at g1 g2
    exact hf v u x _ (Option.some.inj g1) (Option.some.inj g2)
theorem eq_sv (v u : Value) (x : Str) (A : Around) (h1 : sv v = some x) (h2 : sv u = some x) : EqAt A s v u true := by
  obtain ⟨t, rfl⟩ := sv_str h1
  obtain ⟨t2, rfl⟩ := sv_str h2
  have := EqAt.str_str (A := A) (s := s) x t x t2
  rwa [beq_self_eq_true] at this
theorem eq_iv (v u : Value) (x : Int) (A : Around) (h1 : iv v = some x) (h2 : iv u = some x) : EqAt A s v u true := by
  obtain ⟨t, rfl⟩ := iv_int h1
  obtain ⟨t2, rfl⟩ := iv_int h2
  have := EqAt.int_int (A := A) (s := s) x t x t2
  rwa [beq_self_eq_true] at this
theorem eq_txt {a b : Addr} {p : Str × Str} (H : St B cs s) (ha : (a, TxtO p) ∈ cs) (hb : (b, TxtO p) ∈ cs) (hu : A.units < cLine) : EqAt A s (.ref a) (.ref b) true := by
  obtain ⟨t, u, h1⟩ := H.txt ha
  obtain ⟨t2, u2, h2⟩ := H.txt hb
  refine eqAt_refs ?_
  have := RcAt.tuples (e := fun _ => true) h1 h2 hu (fun j g1 g2 => by
    have hj : j = 0 ∨ j = 1 := by simp at g1; lia
    rcases hj with rfl | rfl
    · exact eq_sv _ _ p.1 _ rfl rfl
    · exact eq_sv _ _ p.2 _ rfl rfl)
  exact this
theorem eq_prs {a b : Addr} {p : Int × Int} (H : St B cs s) (ha : (a, PairO p) ∈ cs) (hb : (b, PairO p) ∈ cs) (hu : A.units + 8 < cLine) : EqAt A s (.ref a) (.ref b) true := by
  have := eq_pair (A := A) (pair_of H ha) (pair_of H hb) hu
  rwa [decide_eq_true rfl] at this
theorem o_eq {a b : Value} (h : RcAt A s a b true) (hq : Q (.bool true) s) : wpAny (model prog w) A (compareOp .Eq a b) Q E s := h prog w E Q hq

theorem a_pair {x y : Str} {px py pt : Pos} {kt} {a : Addr} {p : Int × Int} {Q : Unit → Shared → Prop} (hh : A.handled = none) (H : St B cs s) (ht : (a, PairO p) ∈ cs)
    (h : ∀ t u s', St B cs s' → wpAny (model prog w) A (storeName env x (.int p.1 t)) (fun _ s'' => wpAny (model prog w) A (storeName env y (.int p.2 u)) Q E s'') E s') :
    wpAny (model prog w) A (assign (.Tuple [.Name x px, .Name y py] kt pt) env (.ref a)) Q E s := by
  obtain ⟨o, ho, t, u, n, rfl⟩ := H.get ht
  have hT : s.heap.IsTuple a #[.int p.1 t, .int p.2 u] := ⟨_, ho, rfl, n, rfl⟩
  refine wpAny_assign_Tuple hh hT rfl rfl fun h' he => ?_
  have H' := H.ext (t := s.toks) (h' := h') fun b o e => he b o (Nat.ne_of_lt (Heap.lt_size e)) e
  show wpAny _ _ (do holding [Value.int p.2 u] (assign (.Name x px) env (.int p.1 t)); holding [] (assign (.Name y py) env (.int p.2 u)); pure ()) _ _ _
  refine wpAny_bind (wpAny_holding (wpAny_assign_Name (wpAny_mono (h t u _ H') (fun _ s2 h2 => ?_) fun _ _ e => e)))
  exact wpAny_bind (wpAny_holding (wpAny_assign_Name (wpAny_mono h2 (fun _ s3 h3 => wpAny_pure h3) fun _ _ e => e)))
end

noncomputable def lawBody : List Stmt := match stOf 25 with
  | .FunctionDef _ _ body _ _ _ _ _ _ _ => body
  | _ => []
noncomputable def lawScope : Scope := match stOf 25 with
  | .FunctionDef _ _ _ _ _ _ scope _ _ _ => scope
  | _ => default
end Mine
end
section
set_option maxRecDepth 100000
namespace Mine
open PySem PySem.Calls PyProof.Rows PySem.W PySem.SeqAt Builtin

noncomputable def toldM (n : Nat) : List (Nat × Nat) := (List.range n).map fun k => (0, k)
noncomputable abbrev lawEnv (L fa : Addr) (cd : Value) : Env := envX (Str.ofString "law") lawScope L fa cd [(Str.ofString "words", L + 2), (Str.ofString "numbers", L + 1)]

section
variable {prog : Program} {w : World} {M : Model} {A : Around} {E : Value → Shared → Prop} {B s : Shared} {cs cs' : List Cel} {env : Env} {Q : Value → Shared → Prop} {K : Frag}

end
namespace ToD
noncomputable abbrev Xq := (Program) × (World) × (Around) × (Value → Shared → Prop) × (Shared) × (Shared) × (List Cel) × (Addr) × (Addr) × (Addr) × (Value) × (Str → Option Value) × (Int) × (Tok) × (Nat) × (List Int) × (Nat) × (Flow → Shared → Prop) × (Obj → Prop)
noncomputable def Sq (prog : Program) (w : World) (A : Around) (E : Value → Shared → Prop) (B : Shared) (s : Shared) (cs : List Cel) (L : Addr) (fa : Addr) (nD : Addr) (cd : Value) (m : Str → Option Value) (n : Int) (tn : Tok) (Nn : Nat) (ks : List Int) (k : Nat) (F : Flow → Shared → Prop) (P2 : Obj → Prop) : Prop :=
  ∀ (hN4 : Nn ≤ 4) (hn : n = Nn + 1) (N : Names B) (ok : Ok A (k + 7)) (hks : ks.length = 10) (H : St B ((L, NsO m) :: (L + 2, P2) :: (L + 1, CellO (some (.ref nD))) :: (nD, IntsO ks) :: cs) s) (hmn : m (Str.ofString "n") = some (.int n tn)) (h : ∀ Dt tas s', tas.length = Nn + 1 → St B ((Dt, LstO (tas.map .ref)) :: (L, NsO fun y => if y = Str.ofString "told" then some (.ref Dt) else m y) :: (L + 2, P2) :: (L + 1, CellO (some (.ref nD))) :: (nD, IntsO ks) :: (txtC tas ((toldM (Nn + 1)).map (wS (bk ks))) ++ cs)) s' →
      wpAny (model prog w) A (execs (lawBody.drop 10) (lawEnv L fa cd)) F E s'),
    wpAny (model prog w) A (execs (lawBody.drop 9) (lawEnv L fa cd)) F E s
noncomputable def Tq (x : Xq) : Prop := Sq x.1 x.2.1 x.2.2.1 x.2.2.2.1 x.2.2.2.2.1 x.2.2.2.2.2.1 x.2.2.2.2.2.2.1 x.2.2.2.2.2.2.2.1 x.2.2.2.2.2.2.2.2.1 x.2.2.2.2.2.2.2.2.2.1 x.2.2.2.2.2.2.2.2.2.2.1 x.2.2.2.2.2.2.2.2.2.2.2.1 x.2.2.2.2.2.2.2.2.2.2.2.2.1 x.2.2.2.2.2.2.2.2.2.2.2.2.2.1 x.2.2.2.2.2.2.2.2.2.2.2.2.2.2.1 x.2.2.2.2.2.2.2.2.2.2.2.2.2.2.2.1 x.2.2.2.2.2.2.2.2.2.2.2.2.2.2.2.2.1 x.2.2.2.2.2.2.2.2.2.2.2.2.2.2.2.2.2.1 x.2.2.2.2.2.2.2.2.2.2.2.2.2.2.2.2.2.2
noncomputable def xq : Xq := @Classical.epsilon Xq ⟨⟨default, dumW, {}, fun _ _ => True, dumS, dumS, [], 0, 0, 0, default, default, 0, default, 0, [], 0, fun _ _ => True, fun _ => True⟩⟩ fun x => ¬ Tq x
noncomputable def prog : Program := xq.1
noncomputable def w : World := xq.2.1
noncomputable def A : Around := xq.2.2.1
noncomputable def E : Value → Shared → Prop := xq.2.2.2.1
noncomputable def B : Shared := xq.2.2.2.2.1
noncomputable def s : Shared := xq.2.2.2.2.2.1
noncomputable def cs : List Cel := xq.2.2.2.2.2.2.1
noncomputable def L : Addr := xq.2.2.2.2.2.2.2.1
noncomputable def fa : Addr := xq.2.2.2.2.2.2.2.2.1
noncomputable def nD : Addr := xq.2.2.2.2.2.2.2.2.2.1
noncomputable def cd : Value := xq.2.2.2.2.2.2.2.2.2.2.1
noncomputable def m : Str → Option Value := xq.2.2.2.2.2.2.2.2.2.2.2.1
noncomputable def n : Int := xq.2.2.2.2.2.2.2.2.2.2.2.2.1
noncomputable def tn : Tok := xq.2.2.2.2.2.2.2.2.2.2.2.2.2.1
noncomputable def Nn : Nat := xq.2.2.2.2.2.2.2.2.2.2.2.2.2.2.1
noncomputable def ks : List Int := xq.2.2.2.2.2.2.2.2.2.2.2.2.2.2.2.1
noncomputable def k : Nat := xq.2.2.2.2.2.2.2.2.2.2.2.2.2.2.2.2.1
noncomputable def F : Flow → Shared → Prop := xq.2.2.2.2.2.2.2.2.2.2.2.2.2.2.2.2.2.1
noncomputable def P2 : Obj → Prop := xq.2.2.2.2.2.2.2.2.2.2.2.2.2.2.2.2.2.2
set_option maxHeartbeats 8000000 in
theorem at_ : Sq prog w A E B s cs L fa nD cd m n tn Nn ks k F P2 := by
  intro hN4 hn N ok hks H hmn h
  have hbig : 1000 ≤ sizeLine := by decide
  refine wpAny_execs_cons ?_
  refine x_comp (B := B) (e_call (n_blt H N (by k_mem) (by rfl) (cw_ty (wpAny_items_cons (n_local H (.head _) hmn (wpAny_items_nil (range1 H fun r s5 H5 => ?_))))))) rfl rfl
  rw [show n = 0 + ((Nn + 1 : Nat) : Int) by rw [hn]; push_cast; lia] at H5
  refine pyIter_range H5 (by (exact Int.natCast_nonneg _)) (by lia) fun it s6 H6 => ?_
  clear H5
  refine ⟨Int, _, _, _, List Addr, fun tas => (L, NsO m) :: (L + 2, P2) :: (L + 1, CellO (some (.ref nD))) :: (nD, IntsO ks) :: (txtC tas ((toldM (Nn + 1)).map (wS (bk ks))) ++ cs),
    fun rs ys tas => ys = tas.map .ref ∧ rs = upR tas.length (Nn + 1 - tas.length) ∧ tas.length ≤ Nn + 1, upR 0 (Nn + 1), [], iter_range ok.handled, H6, ⟨rfl, rfl, Nat.zero_le _⟩, ?_, ?_⟩
  · clear H6
    intro C D j rs v tas ys mc s7 E7 ⟨t, hv⟩ ⟨hys, hrs, hle⟩ H7
    subst hv hys
    have hlt : tas.length < Nn + 1 := by
      rcases Nat.lt_or_ge tas.length (Nn + 1) with q | q
      · exact q
      · rw [show Nn + 1 - tas.length = 0 by (clear hN4 hn h; lia)] at hrs; cases hrs
    rw [show Nn + 1 - tas.length = (Nn + 1 - (tas.length + 1)) + 1 by (clear hN4 hn hks H h hbig hrs H7 hle; lia)] at hrs
    injection hrs with hj1 hj2
    subst hj1
    refine wpAny_assign_Name (s_local (m' := mc) H7 .head fun s8 H8 => ?_)
    refine wpAny_tests_nil ?_
    rw [if_pos rfl]
    refine d_tup (B := B) ?_
    refine wpAny_items_cons (c_str H8 fun t1 s9 H9 => ?_)
    refine wpAny_items_cons (wpAny_BinOp ?_)
    refine e_call ?_
    refine n_blt H9 N (by k_mem) (by rfl) ?_
    refine cw_blt (wpAny_items_cons (wpAny_BinOp (c_int H9 fun t10 s10 H10 => n_local H10 (.head _) (if_pos rfl) (i_add H10 fun t11 s11 H11 => wpAny_items_nil (f_chr H11 (by (exact Int.natCast_nonneg _)) (by lia) fun t12 s12 H12 => ?_)))))
    refine wpAny_BinOp (c_str H12 fun t13 s13 H13 => wpAny_BinOp (wpAny_BinOp ?_))
    have g0 : ks[((tas.length : Nat) : Int).toNat]? = some (ks.getD tas.length 0) := by
      rw [Int.toNat_natCast, List.getD_eq_getElem?_getD, List.getElem?_eq_getElem (by lia)]; rfl
    refine Subscript_ (n_cell H13 rfl (.tail _ (.tail _ (.tail _ (.tail _ (.tail _ (.head _)))))) (n_local H13 (.head _) (if_pos rfl) ?_))
    refine sub_ints H13 (.tail _ (.tail _ (.tail _ (.tail _ (.tail _ (.tail _ (.head _))))))) (by (exact Int.natCast_nonneg _)) (by lia) g0 fun t14 => ?_
    refine c_int H13 fun t15 s15 H15 => i_div H15 (by decide) (.inl (PyProof.noPylong_small (by decide))) fun t16 s16 H16 => c_int H16 fun t17 s17 H17 => i_mod H17 (by decide) fun t18 s18 H18 => ?_
    have hb4 := bk_lt ks tas.length
    have hb0 := Int.fmod_nonneg_of_pos ((ks.getD tas.length 0).fdiv 7) (show (0 : Int) < 4 by decide)
    have hb1 := Int.fmod_lt_of_pos ((ks.getD tas.length 0).fdiv 7) (show (0 : Int) < 4 by decide)
    rw [blank_str]
    refine t_mul1 H18 (by (clear hN4 hn hks hbig hle hlt hb4 hb0; omega)) hb0 fun t19 s19 H19 => ?_
    refine t_add H19 ?_ fun t20 s20 H20 => ?_
    · refine Nat.le_trans ?_ hbig
      show Array.size _ + Array.size _ ≤ _
      simp only [List.size_toArray, List.length_replicate, List.length_cons, List.length_nil]; (clear hb0 hb1; lia)
    refine wpAny_items_nil ⟨_, H20, Nat.le_trans (show 2 ≤ 1000 by (exact Nat.le_add_left _ _)) hbig, fun a s21 H21 => ?_⟩
    have ew : (⟨#[((97 : Int) + (tas.length : Int)).toNat]⟩ : Str) ++ (⟨(List.replicate ((ks.getD tas.length 0).fdiv 7 |>.fmod 4).toNat 32).toArray⟩ : Str) = letS (bk ks) tas.length := by
      rw [show ((97 : Int) + (tas.length : Int)).toNat = 97 + tas.length by (exact Int.toNat_natCast _)]
      exact chr_blanks _ _
    rw [ew] at H21
    have H22 := H21.weak (P' := TxtO (wS (bk ks) (0, tas.length))) .head (fun o ho => by obtain ⟨n, rfl⟩ := ho; exact ⟨t1, t20, n, rfl⟩)
    have hw : ((toldM (Nn + 1)).map (wS (bk ks)))[tas.length]? = some (wS (bk ks) (0, tas.length)) := by
      unfold toldM
      rw [List.getElem?_map, List.getElem?_map, List.getElem?_range hlt]; rfl
    have H23 := St.sink (pre := [_, _, _, _, _, _, _]) (T := txtC tas ((toldM (Nn + 1)).map (wS (bk ks)))) H22
    have e4 : txtC tas ((toldM (Nn + 1)).map (wS (bk ks))) ++ [(a, TxtO (wS (bk ks) (0, tas.length)))] = txtC (tas ++ [a]) ((toldM (Nn + 1)).map (wS (bk ks))) := (zip_snoc (fun (a : Addr) (p : Str × Str) => ((a, TxtO p) : Cel)) a hw).symm
    rw [e4] at H23
    refine ⟨tas ++ [a], _, by rw [List.length_map]; exact Nat.le_trans (by lia) hbig, ⟨by simp, ?_, ?_⟩, H23⟩
    · rw [hj2]
      congr 1
      · rw [List.length_append]; push_cast; rfl
      · rw [List.length_append]; rfl
    · rw [List.length_append]; show tas.length + 1 ≤ _; assumption
  · intro D tas ys ⟨hys, hrs, hle⟩
    subst hys
    have hl2 : tas.length = Nn + 1 := by
      rcases Nat.lt_or_ge tas.length (Nn + 1) with q | q
      · rw [show Nn + 1 - tas.length = (Nn + 1 - tas.length - 1) + 1 by (clear hN4 hn hks H h hbig H6 hrs hle; lia)] at hrs; cases hrs
      · (exact Nat.le_antisymm (by assumption) (by assumption))
    exact ⟨m, _, .tail .head, fun s7 H7 => h D tas s7 hl2 H7⟩
theorem all_ (x : Xq) : Tq x := Classical.byContradiction fun hn => Classical.epsilon_spec (p := fun x => ¬ Tq x) ⟨x, hn⟩ at_
end ToD
section
variable {prog : Program} {w : World} {M : Model} {A : Around} {E : Value → Shared → Prop} {B s : Shared} {cs cs' : List Cel} {env : Env} {Q : Value → Shared → Prop} {K : Frag}
theorem law_told {L fa nD : Addr} {cd : Value} {m : Str → Option Value} {n : Int} {tn : Tok} {Nn : Nat} {ks : List Int} {k : Nat} {F : Flow → Shared → Prop} {P2 : Obj → Prop} (hN4 : Nn ≤ 4) (hn : n = Nn + 1) (N : Names B) (ok : Ok A (k + 7)) (hks : ks.length = 10) (H : St B ((L, NsO m) :: (L + 2, P2) :: (L + 1, CellO (some (.ref nD))) :: (nD, IntsO ks) :: cs) s) (hmn : m (Str.ofString "n") = some (.int n tn)) (h : ∀ Dt tas s', tas.length = Nn + 1 → St B ((Dt, LstO (tas.map .ref)) :: (L, NsO fun y => if y = Str.ofString "told" then some (.ref Dt) else m y) :: (L + 2, P2) :: (L + 1, CellO (some (.ref nD))) :: (nD, IntsO ks) :: (txtC tas ((toldM (Nn + 1)).map (wS (bk ks))) ++ cs)) s' →
      wpAny (model prog w) A (execs (lawBody.drop 10) (lawEnv L fa cd)) F E s') :
    wpAny (model prog w) A (execs (lawBody.drop 9) (lawEnv L fa cd)) F E s :=
  ToD.all_ ⟨prog, w, A, E, B, s, cs, L, fa, nD, cd, m, n, tn, Nn, ks, k, F, P2⟩ hN4 hn N ok hks H hmn h

end
end Mine
end
section
set_option maxRecDepth 100000
namespace Mine
open PySem PySem.Calls PyProof.Rows PySem.W PySem.SeqAt Builtin

noncomputable def emptyP : Str × Str := (Str.ofString "", Str.ofString "")
noncomputable def exC (ex : List Addr) : List Cel := ex.map fun a => (a, TxtO emptyP)

section
variable {prog : Program} {w : World} {M : Model} {A : Around} {E : Value → Shared → Prop} {B s : Shared} {cs cs' : List Cel} {env : Env} {Q : Value → Shared → Prop} {K : Frag}

end
namespace OfD
noncomputable abbrev Xq := (Program) × (World) × (Around) × (Value → Shared → Prop) × (Shared) × (Shared) × (List Cel) × (Frag) × (Addr) × (Addr) × (Addr) × (Addr) × (Value) × (Str → Option Value) × (Int) × (Tok) × (Nat) × (List Addr) × (Nat) × (Flow → Shared → Prop)
noncomputable def Sq (prog : Program) (w : World) (A : Around) (E : Value → Shared → Prop) (B : Shared) (s : Shared) (cs : List Cel) (K : Frag) (L : Addr) (fa : Addr) (x : Addr) (dx : Addr) (cd : Value) (m : Str → Option Value) (n : Int) (tn : Tok) (Nn : Nat) (was : List Addr) (k : Nat) (F : Flow → Shared → Prop) : Prop :=
  ∀ (hN4 : Nn ≤ 4) (hn : n = Nn + 1) (C : Acc B K) (AF : AccF B) (AS : AccS prog B) (N : Names B) (ok : Ok A (k + 7)) (hw : was.length = Nn + 1) (H : St B ((L, NsO m) :: (L + 2, CellO (some (.ref x))) :: (x, PileO dx (was.map .ref)) :: (dx, NsO (sizeM n tn)) :: cs) s) (hmn : m (Str.ofString "n") = some (.int n tn)) (h : ∀ Df a s', St B ((Df, LstO (was.reverse.map .ref ++ [.ref a])) :: (L, NsO fun y => if y = Str.ofString "off" then some (.ref Df) else m y) :: (L + 2, CellO (some (.ref x))) :: (x, PileO dx []) :: (dx, NsO (sizeM n tn)) :: (a, TxtO emptyP) :: cs) s' →
      wpAny (model prog w) A (execs (lawBody.drop 12) (lawEnv L fa cd)) F E s'),
    wpAny (model prog w) A (execs (lawBody.drop 11) (lawEnv L fa cd)) F E s
noncomputable def Tq (x : Xq) : Prop := Sq x.1 x.2.1 x.2.2.1 x.2.2.2.1 x.2.2.2.2.1 x.2.2.2.2.2.1 x.2.2.2.2.2.2.1 x.2.2.2.2.2.2.2.1 x.2.2.2.2.2.2.2.2.1 x.2.2.2.2.2.2.2.2.2.1 x.2.2.2.2.2.2.2.2.2.2.1 x.2.2.2.2.2.2.2.2.2.2.2.1 x.2.2.2.2.2.2.2.2.2.2.2.2.1 x.2.2.2.2.2.2.2.2.2.2.2.2.2.1 x.2.2.2.2.2.2.2.2.2.2.2.2.2.2.1 x.2.2.2.2.2.2.2.2.2.2.2.2.2.2.2.1 x.2.2.2.2.2.2.2.2.2.2.2.2.2.2.2.2.1 x.2.2.2.2.2.2.2.2.2.2.2.2.2.2.2.2.2.1 x.2.2.2.2.2.2.2.2.2.2.2.2.2.2.2.2.2.2.1 x.2.2.2.2.2.2.2.2.2.2.2.2.2.2.2.2.2.2.2
noncomputable def xq : Xq := @Classical.epsilon Xq ⟨⟨default, dumW, {}, fun _ _ => True, dumS, dumS, [], [], 0, 0, 0, 0, default, default, 0, default, 0, [], 0, fun _ _ => True⟩⟩ fun x => ¬ Tq x
noncomputable def prog : Program := xq.1
noncomputable def w : World := xq.2.1
noncomputable def A : Around := xq.2.2.1
noncomputable def E : Value → Shared → Prop := xq.2.2.2.1
noncomputable def B : Shared := xq.2.2.2.2.1
noncomputable def s : Shared := xq.2.2.2.2.2.1
noncomputable def cs : List Cel := xq.2.2.2.2.2.2.1
noncomputable def K : Frag := xq.2.2.2.2.2.2.2.1
noncomputable def L : Addr := xq.2.2.2.2.2.2.2.2.1
noncomputable def fa : Addr := xq.2.2.2.2.2.2.2.2.2.1
noncomputable def x : Addr := xq.2.2.2.2.2.2.2.2.2.2.1
noncomputable def dx : Addr := xq.2.2.2.2.2.2.2.2.2.2.2.1
noncomputable def cd : Value := xq.2.2.2.2.2.2.2.2.2.2.2.2.1
noncomputable def m : Str → Option Value := xq.2.2.2.2.2.2.2.2.2.2.2.2.2.1
noncomputable def n : Int := xq.2.2.2.2.2.2.2.2.2.2.2.2.2.2.1
noncomputable def tn : Tok := xq.2.2.2.2.2.2.2.2.2.2.2.2.2.2.2.1
noncomputable def Nn : Nat := xq.2.2.2.2.2.2.2.2.2.2.2.2.2.2.2.2.1
noncomputable def was : List Addr := xq.2.2.2.2.2.2.2.2.2.2.2.2.2.2.2.2.2.1
noncomputable def k : Nat := xq.2.2.2.2.2.2.2.2.2.2.2.2.2.2.2.2.2.2.1
noncomputable def F : Flow → Shared → Prop := xq.2.2.2.2.2.2.2.2.2.2.2.2.2.2.2.2.2.2.2
set_option maxHeartbeats 8000000 in
theorem at_ : Sq prog w A E B s cs K L fa x dx cd m n tn Nn was k F := by
  intro hN4 hn C AF AS N ok hw H hmn h
  have hbig : 1000 ≤ sizeLine := by decide
  refine wpAny_execs_cons ?_
  refine x_comp (B := B) (e_call (n_blt H N (by k_mem) (by rfl) (cw_ty (wpAny_items_cons (wpAny_BinOp (n_local H (.head _) hmn (c_int H fun t3 s3 H3 => i_add H3 fun t4 s4 H4 => wpAny_items_nil (range1 H4 fun r s5 H5 => ?_)))))))) rfl rfl
  rw [show n + 1 = 0 + ((Nn + 2 : Nat) : Int) by rw [hn]; push_cast; lia] at H5
  refine pyIter_range H5 (by (exact Int.natCast_nonneg _)) (by lia) fun it s6 H6 => ?_
  clear H5
  have tk : was.take (was.length - 0) = was := by rw [Nat.sub_zero, List.take_length]
  refine ⟨Int, _, _, _, Nat × List Addr, fun y => (L, NsO m) :: (L + 2, CellO (some (.ref x))) :: (x, PileO dx ((was.take (was.length - y.1)).map .ref)) :: (dx, NsO (sizeM n tn)) :: (exC y.2 ++ cs),
    fun rs ys y => ys = (was.drop (was.length - y.1)).reverse.map .ref ++ y.2.map .ref ∧ rs = upR y.1 (Nn + 2 - y.1) ∧ y.1 ≤ Nn + 2 ∧ y.2.length = y.1 - was.length, upR 0 (Nn + 2), (0, []), iter_range ok.handled, by dsimp only; rw [tk]; exact H6, ⟨by simp, rfl, Nat.zero_le _, by simp⟩, ?_, ?_⟩
  · clear H6 tk
    rintro C1 D j rs v ⟨i, ex⟩ ys mc s7 E7 ⟨t, hv⟩ ⟨hys, hrs, hle, hex⟩ H7
    dsimp only at hys hrs hle hex H7
    subst hv hys
    have hlt : i < Nn + 2 := by
      rcases Nat.lt_or_ge i (Nn + 2) with q | q
      · exact q
      · rw [Nat.sub_eq_zero_of_le q] at hrs; cases hrs
    rw [show Nn + 2 - i = (Nn + 2 - (i + 1)) + 1 by rw [← Nat.sub_sub, Nat.sub_add_cancel (Nat.le_sub_of_add_le' hlt)]] at hrs
    injection hrs with hj1 hj2
    subst hj1
    refine wpAny_assign_Name (s_local (m' := mc) H7 .head fun s8 H8 => ?_)
    refine wpAny_tests_nil ?_
    rw [if_pos rfl]
    have hylen : ((was.drop (was.length - i)).reverse.map Value.ref ++ ex.map Value.ref).length ≤ sizeLine := by
      rw [List.length_append, List.length_map, List.length_map, List.length_reverse, List.length_drop]
      exact Nat.le_trans (by (clear hbig hle hn hw; omega)) hbig
    refine p_call0 C C.pop (fn_ty C (by decide)) (.inl rfl) (n_cell H8 rfl (.tail _ (.tail _ (.tail _ (.tail _ (.head _))))) ⟨_, x, dx, _, _, rfl, H8, .tail _ (.tail _ (.tail _ (.tail _ (.tail _ (.head _))))), .tail _ (.tail _ (.tail _ (.tail _ (.tail _ (.tail _ (.head _)))))), rfl, ?_⟩) rfl
    refine cw_fnM0 (pc_fn AS.pop) H8 ?_
    by_cases hi : i < was.length
    · have hex0 : ex = [] := List.length_eq_zero_iff.mp (by (clear hle; lia))
      subst hex0
      have hb0 : was.length - (i + 1) < was.length := Nat.sub_lt (Nat.lt_of_le_of_lt (Nat.zero_le _) hi) (Nat.succ_pos _)
      have hs0 : was.length - i = was.length - (i + 1) + 1 := by rw [← Nat.sub_sub, Nat.sub_add_cancel (Nat.le_sub_of_add_le' hi)]
      have et : (was.take (was.length - i)).map Value.ref = (was.take (was.length - (i + 1))).map Value.ref ++ [.ref (was[was.length - (i + 1)]'hb0)] := by
        rw [hs0, List.take_add_one, List.getElem?_eq_getElem hb0, Option.toList_some, List.map_append]; rfl
      rw [et] at H8
      refine spec_pop (k := k + 5) C AF AS N ok H8 (.tail (.tail (.tail (.tail (.tail .head))))) (.tail _ (.tail _ (.tail _ (.tail _ (.tail _ (.tail _ (.head _))))))) rfl (by rw [List.length_map, List.length_take]; (clear hbig hle hlt hi hex hylen H8 et hn hb0 hs0; omega)) fun s9 H9 => ?_
      refine ⟨(i + 1, []), _, hylen, ⟨?_, ?_, by dsimp only; assumption, by dsimp only; rw [List.length_nil]; omega⟩, H9⟩
      · dsimp only
        rw [show was.drop (was.length - (i + 1)) = was[was.length - (i + 1)]'hb0 :: was.drop (was.length - i) by
          rw [List.drop_eq_getElem_cons hb0, ← hs0]]
        simp
      · dsimp only
        rw [hj2]
        push_cast
        rfl
    · have hi2 : i = was.length := by lia
      have hex0 : ex = [] := List.length_eq_zero_iff.mp (by (clear hle hi2 hi; lia))
      subst hex0 hi2
      have e0 : was.take (was.length - was.length) = [] := by rw [Nat.sub_self]; rfl
      rw [e0] at H8
      refine spec_pop0 (k := k + 5) C AF AS N ok H8 (.tail _ (.tail _ (.tail _ (.tail _ (.tail _ (.head _)))))) (.tail _ (.tail _ (.tail _ (.tail _ (.tail _ (.tail _ (.head _))))))) rfl fun a s9 H9 => ?_
      have H10 := St.sink (pre := [_, _, _, _, _, _, _]) (T := exC []) H9
      refine ⟨(was.length + 1, [a]), fun y => if y = Str.ofString "k" then some (.int was.length t) else mc y, hylen, ⟨?_, ?_, by dsimp only; assumption, by dsimp only; rw [List.length_singleton]; lia⟩, ?_⟩
      · dsimp only
        rw [Nat.sub_self, show was.length - (was.length + 1) = 0 by lia]; simp
      · dsimp only
        rw [hj2]
        push_cast
        rfl
      · dsimp only
        rw [show was.length - (was.length + 1) = 0 by lia]
        exact H10
  · rintro D ⟨i, ex⟩ ys ⟨hys, hrs, hle, hex⟩
    dsimp only at hys hrs hle hex
    subst hys
    have hl2 : i = Nn + 2 := by
      rcases Nat.lt_or_ge i (Nn + 2) with q | q
      · rw [show Nn + 2 - i = (Nn + 2 - i - 1) + 1 by (clear hex; lia)] at hrs; cases hrs
      · (exact Nat.le_antisymm (by assumption) (by assumption))
    subst hl2
    obtain ⟨a, rfl⟩ : ∃ a, ex = [a] := List.length_eq_one_iff.mp (by lia)
    have e0 : was.length - (Nn + 2) = 0 := by lia
    refine ⟨m, _, .tail .head, fun s7 H7 => h D a s7 ?_⟩
    dsimp only at H7
    rw [e0] at H7
    exact H7
theorem all_ (x : Xq) : Tq x := Classical.byContradiction fun hn => Classical.epsilon_spec (p := fun x => ¬ Tq x) ⟨x, hn⟩ at_
end OfD
section
variable {prog : Program} {w : World} {M : Model} {A : Around} {E : Value → Shared → Prop} {B s : Shared} {cs cs' : List Cel} {env : Env} {Q : Value → Shared → Prop} {K : Frag}
theorem law_off {L fa x dx : Addr} {cd : Value} {m : Str → Option Value} {n : Int} {tn : Tok} {Nn : Nat} {was : List Addr} {k : Nat} {F : Flow → Shared → Prop} (hN4 : Nn ≤ 4) (hn : n = Nn + 1) (C : Acc B K) (AF : AccF B) (AS : AccS prog B) (N : Names B) (ok : Ok A (k + 7)) (hw : was.length = Nn + 1) (H : St B ((L, NsO m) :: (L + 2, CellO (some (.ref x))) :: (x, PileO dx (was.map .ref)) :: (dx, NsO (sizeM n tn)) :: cs) s) (hmn : m (Str.ofString "n") = some (.int n tn)) (h : ∀ Df a s', St B ((Df, LstO (was.reverse.map .ref ++ [.ref a])) :: (L, NsO fun y => if y = Str.ofString "off" then some (.ref Df) else m y) :: (L + 2, CellO (some (.ref x))) :: (x, PileO dx []) :: (dx, NsO (sizeM n tn)) :: (a, TxtO emptyP) :: cs) s' →
      wpAny (model prog w) A (execs (lawBody.drop 12) (lawEnv L fa cd)) F E s') :
    wpAny (model prog w) A (execs (lawBody.drop 11) (lawEnv L fa cd)) F E s :=
  OfD.all_ ⟨prog, w, A, E, B, s, cs, K, L, fa, x, dx, cd, m, n, tn, Nn, was, k, F⟩ hN4 hn C AF AS N ok hw H hmn h

end
end Mine
end
section
set_option maxRecDepth 100000
namespace Mine
open PySem PySem.Calls PyProof.Rows PySem.W PySem.SeqAt Builtin

structure Fi where
  L : Addr
  Df : Addr
  Dt : Addr
  Dl : Addr
  e : Addr
  Dn : Addr
  Ds : Addr
  Do : Addr
  a0 : Addr
  m : Str → Option Value
  as : List Addr
  was : List Addr
  tas : List Addr
  sg : List Addr
  oas : List Addr
  n : Int
  Nn : Nat
  tot : Nat
  ord : List (Int × Int)
  ks : List Int
  nm : List Int
  size : Int
  whole : Int
noncomputable def dumFi : Fi := ⟨0, 0, 0, 0, 0, 0, 0, 0, 0, fun _ => none, [], [], [], [], [], 0, 0, 0, [], [], [], 0, 0⟩
noncomputable def fiT (y : Fi) : List Cel := rowC y.as (rowsM y.Nn (y.ord.map swapP)) ++ (txtC y.was ((wsE (y.Nn + 1)).map (wS (bk y.ks))) ++ (txtC y.tas ((toldM (y.Nn + 1)).map (wS (bk y.ks))) ++ (sgC y.sg ++ (tupC y.oas y.ord ++ [(80, TabO)]))))
noncomputable def fiR (y : Fi) : List Cel := (y.L, NsO y.m) :: (y.Df, LstO (y.was.reverse.map .ref ++ [.ref y.a0])) :: (y.Dt, LstO (y.tas.map .ref)) :: (y.Dl, LstO (y.as.map .ref ++ [.ref y.e])) :: (y.e, StrsO (restS (1 + y.tot))) ::
  (y.Dn, IntsO y.nm) :: (y.Ds, LstO (y.sg.map .ref)) :: (y.Do, LstO (y.oas.map .ref)) :: (y.a0, TxtO emptyP) :: fiT y
structure FiOk (y : Fi) : Prop where
  hN : y.Nn ∈ [3, 4]
  hn : y.n = y.Nn + 1
  mn : ∃ t, y.m (Str.ofString "n") = some (.int y.n t)
  mo : y.m (Str.ofString "order") = some (.ref y.Do)
  ml : y.m (Str.ofString "lines") = some (.ref y.Dl)
  md : y.m (Str.ofString "named") = some (.ref y.Dn)
  ms : y.m (Str.ofString "signs") = some (.ref y.Ds)
  mf : y.m (Str.ofString "off") = some (.ref y.Df)
  mt : y.m (Str.ofString "told") = some (.ref y.Dt)
  mz : ∃ t, y.m (Str.ofString "size") = some (.int y.size t)
  mw : ∃ t, y.m (Str.ofString "whole") = some (.int y.whole t)
  las : y.as.length = y.Nn
  lwas : y.was.length = y.Nn + 1
  ltas : y.tas.length = y.Nn + 1
  lsg : y.sg.length = y.tot
  loas : y.oas.length = y.ord.length
  lord : y.ord.length = y.tot
  ltot : y.tot ≤ 10
  hall : ∀ r ∈ upR 0 y.Nn, ∀ c ∈ upR 0 (y.Nn - r.toNat), (r, c) ∈ y.ord.map swapP
  grow : growA y.nm.reverse (List.replicate y.nm.length []) [] = some y.ord
  lnm : y.nm.length ≤ 100
  hsize : y.size = y.n + wsum ((wsE (y.Nn + 1)).map (wS (bk y.ks)))
  hwhole : y.whole = y.n + wsum ((ws0 (y.Nn + 1)).map (wS (bk y.ks)))
noncomputable def lawRet (i : Nat) : Expr := match lawBody.getD 12 (.Pass default) with
  | .Return (some (.BoolOp _ values _)) _ => values.getD i (.Constant (.int 0) 0 default)
  | _ => .Constant (.int 0) 0 default

section
variable {prog : Program} {w : World} {M : Model} {A : Around} {E : Value → Shared → Prop} {B s : Shared} {cs cs' : List Cel} {env : Env} {Q : Value → Shared → Prop} {K : Frag}

theorem St.back {x : Cel} {l : List Cel} (i : Nat) (H : St B (x :: l.eraseIdx i) s) (hx : l[i]? = some x := by rfl) : St B l s := H.perm (front_perm hx).symm

end
namespace R0D
noncomputable abbrev Xq := (Program) × (World) × (Around) × (Value → Shared → Prop) × (Shared) × (Shared) × (Value → Shared → Prop) × (Addr) × (Value) × (Fi) × (Nat)
noncomputable def Sq (prog : Program) (w : World) (A : Around) (E : Value → Shared → Prop) (B : Shared) (s : Shared) (Q : Value → Shared → Prop) (fa : Addr) (cd : Value) (y : Fi) (k : Nat) : Prop :=
  ∀ (Y : FiOk y) (Fn : Fns B) (N : Names B) (ok : Ok A (k + 7)) (H : St B (fiR y) s) (h : ∀ s', St B (fiR y) s' → Q (.bool true) s'),
    wpAny (model prog w) A (eval (lawRet 0) (lawEnv y.L fa cd)) Q E s
noncomputable def Tq (x : Xq) : Prop := Sq x.1 x.2.1 x.2.2.1 x.2.2.2.1 x.2.2.2.2.1 x.2.2.2.2.2.1 x.2.2.2.2.2.2.1 x.2.2.2.2.2.2.2.1 x.2.2.2.2.2.2.2.2.1 x.2.2.2.2.2.2.2.2.2.1 x.2.2.2.2.2.2.2.2.2.2
noncomputable def xq : Xq := @Classical.epsilon Xq ⟨⟨default, dumW, {}, fun _ _ => True, dumS, dumS, fun _ _ => True, 0, default, dumFi, 0⟩⟩ fun x => ¬ Tq x
noncomputable def prog : Program := xq.1
noncomputable def w : World := xq.2.1
noncomputable def A : Around := xq.2.2.1
noncomputable def E : Value → Shared → Prop := xq.2.2.2.1
noncomputable def B : Shared := xq.2.2.2.2.1
noncomputable def s : Shared := xq.2.2.2.2.2.1
noncomputable def Q : Value → Shared → Prop := xq.2.2.2.2.2.2.1
noncomputable def fa : Addr := xq.2.2.2.2.2.2.2.1
noncomputable def cd : Value := xq.2.2.2.2.2.2.2.2.1
noncomputable def y : Fi := xq.2.2.2.2.2.2.2.2.2.1
noncomputable def k : Nat := xq.2.2.2.2.2.2.2.2.2.2
set_option maxHeartbeats 8000000 in
theorem at_ : Sq prog w A E B s Q fa cd y k := by
  intro Y Fn N ok H h
  have hbig : 1000 ≤ sizeLine := by decide
  have hN4 : y.Nn ≤ 4 := by have := Y.hN; simp at this; lia
  obtain ⟨tn, hmn⟩ := Y.mn
  have hord : y.ord.length ≤ 10 := by rw [Y.lord]; exact Y.ltot
  refine wpAny_Compare1 (n_local H (.head _) Y.ml ?_)
  refine e_call (n_glob H (N.g fun mg h => h.2.2.2.2.2.2.1) (cw_fn Fn.page (wpAny_items_cons (n_local H (.head _) hmn (wpAny_items_cons ?_)))))
  refine e_comp (B := B) (n_local H (.head _) Y.mo ?_) rfl
  refine pyIter_list (H.front 7) fun it s2 H2 => ?_
  refine ⟨Value, _, _, _, List Addr, fun sw => tupC sw (y.ord.map swapP) ++ (fiR y).eraseIdx 7, fun rem ys sw => ys = sw.map .ref ∧ rem = (y.oas.drop sw.length).map .ref ∧ sw.length ≤ y.oas.length, y.oas.map .ref, [], iter_list ok.handled, H2, ⟨rfl, rfl, Nat.zero_le _⟩, ?_, ?_⟩
  · clear H2 H
    intro C D v0 rem v sw ys mc s3 E3 hv ⟨hys, hrem, hle⟩ H3
    have hv : v0 = v := hv
    subst hv hys
    have hil : sw.length < y.oas.length := by
      rcases Nat.lt_or_ge sw.length y.oas.length with q | q
      · exact q
      · rw [List.drop_of_length_le q] at hrem; cases hrem
    rw [List.drop_eq_getElem_cons hil, List.map_cons] at hrem
    injection hrem with e1 e2
    subst e1
    have hil2 : sw.length < y.ord.length := by rw [← Y.loas]; exact hil
    obtain ⟨a, ha, hmem⟩ := zip_mem (g := fun (a : Addr) (p : Int × Int) => ((a, PairO p) : Cel)) (as := y.oas) (ps := y.ord) Y.loas (List.getElem?_eq_getElem hil2)
    rw [List.getElem?_eq_getElem hil] at ha
    cases ha
    generalize y.oas[sw.length] = a at hmem H3
    have hpo : (y.ord.map swapP)[sw.length]? = some (swapP (y.ord[sw.length])) := by rw [List.getElem?_map, List.getElem?_eq_getElem hil2]; rfl
    generalize y.ord[sw.length] = p at hmem hpo
    have hm2 : (a, PairO p) ∈ (fiR y).eraseIdx 7 := by
      show _ ∈ _ :: _ :: _ :: _ :: _ :: _ :: _ :: _ :: fiT y
      refine .tail _ (.tail _ (.tail _ (.tail _ (.tail _ (.tail _ (.tail _ (.tail _ ?_)))))))
      exact List.mem_append_right _ (List.mem_append_right _ (List.mem_append_right _ (List.mem_append_right _ (List.mem_append_left _ hmem))))
    refine a_pair ok.handled H3 (.tail _ (.tail _ (List.mem_append_right _ (List.mem_append_right _ hm2)))) fun t u s4 H4 => ?_
    refine s_local (m' := mc) H4 .head fun s5 H5 => ?_
    refine s_local (m' := mc) H5 .head fun s6 H6 => ?_
    refine wpAny_tests_nil ?_
    rw [if_pos rfl]
    refine d_tup (B := B) ?_
    refine wpAny_items_cons (n_local H6 (.head _) rfl (wpAny_items_cons (n_local H6 (.head _) rfl (wpAny_items_nil ⟨_, H6, Nat.le_trans (show 2 ≤ 1000 by (exact Nat.le_add_left _ _)) hbig, fun a' s7 H7 => ?_⟩))))
    have H8 := H7.weak (P' := PairO (swapP p)) .head fun o ho => ⟨_, _, ho⟩
    have H9 := St.sink (pre := [_, _, _, _]) (T := tupC sw (y.ord.map swapP)) H8
    have e4 : tupC sw (y.ord.map swapP) ++ [(a', PairO (swapP p))] = tupC (sw ++ [a']) (y.ord.map swapP) := (zip_snoc (fun (a : Addr) (p : Int × Int) => ((a, PairO p) : Cel)) a' hpo).symm
    rw [e4] at H9
    refine ⟨sw ++ [a'], _, by rw [List.length_map]; exact Nat.le_trans (by have := Y.loas; lia) hbig, ⟨by simp, by rw [e2, List.length_append]; rfl, by rw [List.length_append]; exact hil⟩, H9⟩
  · rintro D sw ys s3 ⟨hys, hrem, hle⟩ H3
    subst hys
    have hsl : sw.length = y.oas.length := by
      rcases Nat.lt_or_ge sw.length y.oas.length with q | q
      · rw [List.drop_eq_getElem_cons q] at hrem; cases hrem
      · (exact Nat.le_antisymm (by assumption) (by assumption))
    have H4 : St B ((D, LstO (sw.map .ref)) :: (y.Do, LstO (y.oas.map .ref)) :: (tupC sw (y.ord.map swapP) ++ (fiR y).eraseIdx 7)) s3 := H3
    clear H3 H2 H
    refine wpAny_items_cons (wpAny_BinOp (c_int H4 fun t5 s5 H5 => ?_))
    refine e_call (n_blt H5 N (by k_mem) (by rfl) (cw_blt (wpAny_items_cons (n_local H5 (.tail _ (.tail _ (List.mem_append_right _ (.head _)))) Y.mo (wpAny_items_nil (f_len_list H5 (.tail _ (.head _)) (by rw [List.length_map, Y.loas]; (exact Nat.lt_of_le_of_lt (by assumption) (by decide))) fun t6 s6 H6 => ?_))))))
    refine i_add H6 fun t7 s7 H7 => wpAny_items_nil ⟨⟨_, H7⟩, ?_⟩
    have ed : (1 : Int) + ((y.oas.map Value.ref).length : Int) = ((1 + y.tot : Nat) : Int) := by rw [List.length_map, Y.loas, Y.lord]; push_cast; rfl
    rw [ed]
    have hl2 := Y.ltot
    refine spec_page (k := k + 4) hN4 Y.hn Fn N ok H7 (.head _) (fun c hc => .tail _ (.tail _ (List.mem_append_left _ hc))) (by rw [hsl, List.length_map, Y.loas]) (by rw [List.length_map]; (exact Nat.le_trans (by assumption) (by decide))) Y.hall (by (exact Int.natCast_nonneg _)) (by lia) fun D2 e2 as2 s8 hal2 H8 => ?_
    rw [Int.toNat_natCast] at H8
    have hu : A.units + 32 < cLine := by have := ok.units; lia
    have hcan : ∀ c ∈ fiR y, c ∈ (D2, LstO (as2.map .ref ++ [.ref e2])) :: (e2, StrsO (restS (1 + y.tot))) :: (rowC as2 (rowsM y.Nn (y.ord.map swapP)) ++ ((D, LstO (sw.map .ref)) :: (y.Do, LstO (y.oas.map .ref)) :: (tupC sw (y.ord.map swapP) ++ (fiR y).eraseIdx 7))) := fun c hc => by
      refine .tail _ (.tail _ (List.mem_append_right _ (.tail _ ?_)))
      have := (front_perm (l := fiR y) (i := 7) rfl).mem_iff.mp hc
      rcases List.mem_cons.mp this with rfl | h2
      · exact .head _
      · exact .tail _ (List.mem_append_right _ h2)
    have hrl : (rowsM y.Nn (y.ord.map swapP)).length = y.Nn := by unfold rowsM; rw [List.length_map, upR_len]
    refine o_eq (eq_lists (H8.lst (hcan _ (.tail _ (.tail _ (.tail _ (.head _)))))) (H8.lst (.head _)) (by rw [List.length_append, List.length_append, List.length_map, List.length_map, Y.las, hal2]; rfl) (by lia) fun j v u hv hu2 => ?_) ?_
    · by_cases hj : j < y.Nn
      · rw [List.getElem?_append_left (by rw [List.length_map, Y.las]; exact hj)] at hv
        rw [List.getElem?_append_left (by rw [List.length_map, hal2]; exact hj)] at hu2
        have hrow := List.getElem?_eq_getElem (l := rowsM y.Nn (y.ord.map swapP)) (i := j) (by (clear hN4; lia))
        obtain ⟨b1, hb1, hm1⟩ := zip_mem (g := fun (a : Addr) (r : List Nat) => ((a, StrsO (r.map dotS)) : Cel)) (as := y.as) (by rw [hrl]; exact Y.las) hrow
        obtain ⟨b2, hb2, hm2⟩ := zip_mem (g := fun (a : Addr) (r : List Nat) => ((a, StrsO (r.map dotS)) : Cel)) (as := as2) (by rw [hrl]; exact hal2) hrow
        rw [List.getElem?_map, hb1] at hv
        rw [List.getElem?_map, hb2] at hu2
        cases hv; cases hu2
        refine eqAt_refs (eq_seq (f := sv) (fun v u x A h1 h2 => eq_sv v u x A h1 h2) H8 (hcan _ ?_) (.tail _ (.tail _ (List.mem_append_left _ hm2))) (by show A.units + 1 < _; lia))
        exact .tail _ (.tail _ (.tail _ (.tail _ (.tail _ (.tail _ (.tail _ (.tail _ (.tail _ (List.mem_append_left _ hm1)))))))))
      · rw [List.getElem?_append_right (by rw [List.length_map, Y.las]; (exact Nat.le_of_not_lt (by assumption))), List.length_map, Y.las] at hv
        rw [List.getElem?_append_right (by rw [List.length_map, hal2]; (exact Nat.le_of_not_lt (by assumption))), List.length_map, hal2] at hu2
        cases q : j - y.Nn with
        | zero =>
          rw [q] at hv hu2
          cases hv; cases hu2
          exact eqAt_refs (eq_seq (f := sv) (fun v u x A h1 h2 => eq_sv v u x A h1 h2) H8 (hcan _ (.tail _ (.tail _ (.tail _ (.tail _ (.head _)))))) (.tail _ (.head _)) (by show A.units + 1 < _; lia))
        | succ i => rw [q] at hv; cases hv
    · refine h s8 ?_
      have H9 := (H8.drop 2).sub (List.sublist_append_right _ _)
      have H10 := (H9.drop 1).sub ((List.sublist_append_right _ _).cons_cons _)
      exact St.back 7 H10
theorem all_ (x : Xq) : Tq x := Classical.byContradiction fun hn => Classical.epsilon_spec (p := fun x => ¬ Tq x) ⟨x, hn⟩ at_
end R0D
section
variable {prog : Program} {w : World} {M : Model} {A : Around} {E : Value → Shared → Prop} {B s : Shared} {cs cs' : List Cel} {env : Env} {Q : Value → Shared → Prop} {K : Frag}
theorem ret0 {fa : Addr} {cd : Value} {y : Fi} {k : Nat} (Y : FiOk y) (Fn : Fns B) (N : Names B) (ok : Ok A (k + 7)) (H : St B (fiR y) s) (h : ∀ s', St B (fiR y) s' → Q (.bool true) s') :
    wpAny (model prog w) A (eval (lawRet 0) (lawEnv y.L fa cd)) Q E s :=
  R0D.all_ ⟨prog, w, A, E, B, s, Q, fa, cd, y, k⟩ Y Fn N ok H h

end
end Mine
end
section
set_option maxRecDepth 100000
namespace Mine
open PySem PySem.Calls PyProof.Rows PySem.W PySem.SeqAt Builtin

section
variable {prog : Program} {w : World} {M : Model} {A : Around} {E : Value → Shared → Prop} {B s : Shared} {cs cs' : List Cel} {env : Env} {Q : Value → Shared → Prop} {K : Frag}

theorem rcAt_pairs {a b : Addr} {as bs : List Addr} {ps : List (Int × Int)} (H : St B cs s) (ha : (a, LstO (as.map .ref)) ∈ cs) (hb : (b, LstO (bs.map .ref)) ∈ cs) (h1 : ∀ c ∈ tupC as ps, c ∈ cs) (h2 : ∀ c ∈ tupC bs ps, c ∈ cs)
    (l1 : as.length = ps.length) (l2 : bs.length = ps.length) (hu : A.units + 32 < cLine) : RcAt A s (.ref a) (.ref b) true := by
  refine eq_lists (H.lst ha) (H.lst hb) (by rw [List.length_map, List.length_map, l1, l2]) (by lia) fun j v u hv hu2 => ?_
  rw [List.getElem?_map] at hv hu2
  have hj : j < ps.length := by
    rcases Nat.lt_or_ge j ps.length with q | q
    · exact q
    · rw [List.getElem?_eq_none (by lia)] at hv; cases hv
  obtain ⟨b1, hb1, hm1⟩ := zip_mem (g := fun (a : Addr) (p : Int × Int) => ((a, PairO p) : Cel)) l1 (List.getElem?_eq_getElem hj)
  obtain ⟨b2, hb2, hm2⟩ := zip_mem (g := fun (a : Addr) (p : Int × Int) => ((a, PairO p) : Cel)) l2 (List.getElem?_eq_getElem hj)
  rw [hb1] at hv
  rw [hb2] at hu2
  cases hv; cases hu2
  exact eq_prs H (h1 _ hm1) (h2 _ hm2) (by show A.units + 1 + 8 < _; lia)

set_option maxHeartbeats 8000000 in
theorem ret1 {fa : Addr} {cd : Value} {y : Fi} {k : Nat} (Y : FiOk y) (Fn : Fns B) (N : Names B) (ok : Ok A (k + 7)) (H : St B (fiR y) s) (h : ∀ s', St B (fiR y) s' → Q (.bool true) s') :
    wpAny (model prog w) A (eval (lawRet 1) (lawEnv y.L fa cd)) Q E s := by
  refine wpAny_Compare1 (e_call (n_glob H (N.g fun mg h => h.2.2.2.2.2.2.2.2.2.2.2.2.1) (cw_fn Fn.grown (wpAny_items_cons (n_local H (.head _) Y.md (wpAny_items_nil ⟨⟨_, H⟩, ?_⟩))))))
  refine spec_grown (k := k + 4) Fn N ok (H.front 5) Y.lnm Y.grow fun D as s2 hal H2 => ?_
  have h7 : ∀ c ∈ fiR y, c ∈ (D, LstO (as.map .ref)) :: (tupC as y.ord ++ ((y.Dn, IntsO y.nm) :: (fiR y).eraseIdx 5)) := fun c hc =>
    .tail _ (List.mem_append_right _ ((front_perm (l := fiR y) (i := 5) rfl).mem_iff.mp hc))
  refine n_local H2 (h7 _ (.head _)) Y.mo ?_
  refine o_eq (rcAt_pairs (ps := y.ord) H2 (.head _) (h7 _ (.tail _ (.tail _ (.tail _ (.tail _ (.tail _ (.tail _ (.tail _ (.head _))))))))) (fun c hc => .tail _ (List.mem_append_left _ hc)) (fun c hc => h7 _ ?_) hal Y.loas (by have := ok.units; lia)) ?_
  · show c ∈ _ :: _ :: _ :: _ :: _ :: _ :: _ :: _ :: _ :: fiT y
    exact .tail _ (.tail _ (.tail _ (.tail _ (.tail _ (.tail _ (.tail _ (.tail _ (.tail _ (List.mem_append_right _ (List.mem_append_right _ (List.mem_append_right _ (List.mem_append_right _ (List.mem_append_left _ hc)))))))))))))
  · exact h s2 (St.back 5 ((H2.drop 1).sub (List.sublist_append_right _ _)))

theorem sg_mem {y : Fi} {c : Cel} (hc : c ∈ sgC y.sg) : c ∈ fiR y := by
  show c ∈ _ :: _ :: _ :: _ :: _ :: _ :: _ :: _ :: _ :: fiT y
  exact .tail _ (.tail _ (.tail _ (.tail _ (.tail _ (.tail _ (.tail _ (.tail _ (.tail _ (List.mem_append_right _ (List.mem_append_right _ (List.mem_append_right _ (List.mem_append_left _ hc))))))))))))

set_option maxHeartbeats 8000000 in
theorem ret2 {fa : Addr} {cd : Value} {y : Fi} {k : Nat} (Y : FiOk y) (N : Names B) (ok : Ok A (k + 7)) (H : St B (fiR y) s) (h : ∀ s', St B (fiR y) s' → Q (.bool true) s') :
    wpAny (model prog w) A (eval (lawRet 2) (lawEnv y.L fa cd)) Q E s := by
  have hbig : 1000 ≤ sizeLine := by decide
  have hl2 := Y.ltot
  refine wpAny_Compare1 (n_local H (.head _) Y.ms (wpAny_BinOp ?_))
  refine d_list (B := B) ?_
  refine wpAny_items_cons ?_
  refine d_list (B := B) ?_
  refine wpAny_items_cons (wpAny_UnaryOp (c_int H fun t1 s1 H1 => PyProof.Rows.neg_int ?_))
  have H2 := H1.tok (s1.toks + 1)
  refine wpAny_items_cons (c_int H2 fun t3 s3 H3 => wpAny_items_cons (c_int H3 fun t4 s4 H4 => wpAny_items_nil ⟨_, H4, Nat.le_trans (show 3 ≤ 1000 by (exact Nat.le_add_left _ _)) hbig, fun D1 s5 H5 => wpAny_items_nil ⟨_, H5, Nat.le_trans (show 1 ≤ 1000 by (exact Nat.succ_pos _)) hbig, fun D2 s6 H6 => ?_⟩⟩))
  refine e_call (n_blt H6 N (by k_mem) (by rfl) (cw_blt (wpAny_items_cons (n_local H6 (.tail _ (.tail _ (.head _))) Y.mo (wpAny_items_nil (f_len_list H6 (.tail _ (.tail _ (.tail _ (.tail _ (.tail _ (.tail _ (.tail _ (.tail _ (.tail _ (.head _)))))))))) (by rw [List.length_map, Y.loas, Y.lord]; (exact Nat.lt_of_le_of_lt (by assumption) (by decide))) fun t7 s7 H7 => ?_))))))
  have el : ((y.oas.map Value.ref).length : Int) = (y.tot : Int) := by rw [List.length_map, Y.loas, Y.lord]
  rw [el]
  refine l_mul H7 (.head _) (by (exact Int.natCast_nonneg _)) (by lia) (by simp only [List.length_singleton]; lia) fun D3 s8 H8 => ?_
  have H9 := H8.weak (P' := IntsO [-1, 1, 0]) (.tail (.tail .head)) fun o ho => ⟨_, ho, rfl⟩
  have hu := ok.units
  have hfl : (List.replicate ((y.tot : Int)).toNat [Value.ref D1]).flatten = List.replicate y.tot (Value.ref D1) := by
    rw [Int.toNat_natCast]
    generalize y.tot = q
    induction q with
    | zero => rfl
    | succ q ih => rw [List.replicate_succ, List.flatten_cons, ih]; rfl
  rw [hfl] at H9
  refine o_eq (eq_lists (H9.lst (.tail _ (.tail _ (.tail _ (.tail _ (.tail _ (.tail _ (.tail _ (.tail _ (.tail _ (.head _))))))))))) (H9.lst (.head _)) (by rw [List.length_map, List.length_replicate, Y.lsg]) (by lia) fun j v u hv hu2 => ?_) (h _ (H9.drop 3))
  rw [List.getElem?_replicate] at hu2
  split at hu2
  · cases hu2
    rw [List.getElem?_map] at hv
    cases q : y.sg[j]? with
    | none => rw [q] at hv; cases hv
    | some b =>
      rw [q] at hv; cases hv
      have hb : (b, IntsO [-1, 1, 0]) ∈ sgC y.sg := List.mem_map_of_mem (f := fun a => ((a, IntsO [-1, 1, 0]) : Cel)) (List.mem_of_getElem? q)
      exact eqAt_refs (eq_seq (f := iv) (fun v u x A h1 h2 => eq_iv v u x A h1 h2) H9 (.tail _ (.tail _ (.tail _ (sg_mem hb)))) (.tail _ (.tail _ (.head _))) (by show A.units + 1 < _; lia))
  · cases hu2
end
end Mine
end
section
set_option maxRecDepth 100000
namespace Mine
open PySem PySem.Calls PyProof.Rows PySem.W PySem.SeqAt Builtin

theorem sg_seq : ∀ sg : List Addr, sgC sg = seqC iv sg (List.replicate sg.length [-1, 1, 0])
  | [] => rfl
  | a :: r => by
    have ih := sg_seq r
    unfold sgC at ih ⊢
    rw [List.map_cons, ih, List.length_cons, List.replicate_succ]; rfl
theorem perm6 (L Df Dt Dl e Dn Ds Do a0 : Cel) (R T1 T2 S U : List Cel) : (L :: Df :: Dt :: Dl :: e :: Dn :: Ds :: Do :: a0 :: (R ++ (T1 ++ (T2 ++ (S ++ U))))).Perm (Ds :: (S ++ (L :: Df :: Dt :: Dl :: e :: Dn :: Do :: a0 :: (R ++ (T1 ++ (T2 ++ U)))))) :=
  perm_of fun a => by simp only [List.count_append, List.count_cons]; ac_rfl

section
variable {prog : Program} {w : World} {M : Model} {A : Around} {E : Value → Shared → Prop} {B s : Shared} {cs cs' : List Cel} {env : Env} {Q : Value → Shared → Prop} {K : Frag}

set_option maxHeartbeats 8000000 in
theorem ret3 {fa : Addr} {cd : Value} {y : Fi} {k : Nat} (Y : FiOk y) (N : Names B) (ok : Ok A (k + 7)) (H : St B (fiR y) s) (h : ∀ s', St B (fiR y) s' → Q (.bool true) s') :
    wpAny (model prog w) A (eval (lawRet 3) (lawEnv y.L fa cd)) Q E s := by
  have hbig : 1000 ≤ sizeLine := by decide
  have hl2 := Y.ltot
  have hu := ok.units
  refine wpAny_Compare1 ?_
  refine e_flat (B := B) (f := iv) (fun _ => false) (fun _ _ => True) ok.handled (n_local H (.head _) Y.ms ?_) rfl ?_ ?_
  · have H1 : St B ((y.Ds, LstO (y.sg.map .ref)) :: (sgC y.sg ++ _)) s := H.perm (perm6 _ _ _ _ _ _ _ _ _ _ _ _ (sgC y.sg) _)
    rw [sg_seq] at H1
    refine ⟨y.Ds, y.sg, List.replicate y.sg.length [-1, 1, 0], _, rfl, H1, by rw [List.length_replicate], ?_, fun D ys hp s' H2 => ?_⟩
    · have := flat_le (c := 3) (A := List.replicate y.sg.length ([-1, 1, 0] : List Int)) (fun r hr => by rw [List.eq_of_mem_replicate hr]; exact Nat.le_refl 3)
      rw [List.length_replicate, Y.lsg] at this
      rw [Y.lsg]
      exact Nat.le_trans this (Nat.le_trans (by lia) hbig)
    · have hys : ys = [] := by
        rw [List.filter_eq_nil_iff.mpr (by simp)] at hp
        cases hp; rfl
      subst hys
      rw [← sg_seq] at H2
      refine d_list (B := B) ?_
      refine wpAny_items_nil ⟨_, H2, Nat.zero_le _, fun D2 s3 H3 => ?_⟩
      refine o_eq (eq_lists (H3.lst (.tail _ (.head _))) (H3.lst (.head _)) rfl (by lia) fun j v u hv _ => by cases hv) (h s3 ?_)
      exact (H3.drop 2).perm (perm6 _ _ _ _ _ _ _ _ _ _ _ _ (sgC y.sg) _).symm
  · intro C D b v m ys X s1 E1 hv hm H1
    obtain ⟨t, rfl⟩ := iv_int hv
    refine wpAny_tests_one (wpAny_isTrue_value ?_)
    refine e_call (n_blt H1 N (by k_mem) (by rfl) (cw_blt (wpAny_items_cons (n_local H1 (.head _) hm (wpAny_items_cons (n_blt H1 N (by k_mem) (by rfl) (wpAny_items_nil ?_)))))))
    refine PySem.IsiPair.int_bool (wpAny_truthy_bool ⟨rfl, H1.tok _⟩)
  · intro C D b v m ys X s1 E1 hp
    cases hp

theorem f_mem {y : Fi} {c : Cel} (hc : c ∈ fiT y) : c ∈ fiR y := by
  show c ∈ _ :: _ :: _ :: _ :: _ :: _ :: _ :: _ :: _ :: fiT y
  exact .tail _ (.tail _ (.tail _ (.tail _ (.tail _ (.tail _ (.tail _ (.tail _ (.tail _ hc))))))))
theorem wsE_rev (n : Nat) : wsE n = (toldM n).reverse := rfl
theorem told_at {n j : Nat} (h : j < n) : (toldM n)[j]? = some (0, j) := by
  unfold toldM; rw [List.getElem?_map, List.getElem?_range h]; rfl
theorem off_at {y : Fi} (Y : FiOk y) {j : Nat} (h : j < y.Nn + 1) : ∃ a, y.was.reverse[j]? = some a ∧ (a, TxtO (wS (bk y.ks) (0, j))) ∈ fiR y := by
  have hl : (toldM (y.Nn + 1)).length = y.Nn + 1 := by unfold toldM; rw [List.length_map, List.length_range]
  have he : ((wsE (y.Nn + 1)).map (wS (bk y.ks)))[y.Nn - j]? = some (wS (bk y.ks) (0, j)) := by
    rw [wsE_rev, List.getElem?_map, List.getElem?_reverse (by rw [hl]; exact Nat.lt_succ_of_le (Nat.sub_le _ _)), hl, show y.Nn + 1 - 1 - (y.Nn - j) = j from Nat.sub_sub_self (Nat.le_of_lt_succ h), told_at h]; rfl
  obtain ⟨a, ha, hm⟩ := zip_mem (g := fun (a : Addr) (p : Str × Str) => ((a, TxtO p) : Cel)) (as := y.was) (ps := (wsE (y.Nn + 1)).map (wS (bk y.ks))) (by rw [Y.lwas, List.length_map, wsE_rev, List.length_reverse, hl]) he
  refine ⟨a, ?_, f_mem (List.mem_append_right _ (List.mem_append_left _ hm))⟩
  rw [List.getElem?_reverse (by rw [Y.lwas]; exact h), Y.lwas, show y.Nn + 1 - 1 - j = y.Nn - j from rfl]; exact ha
theorem told_cell {y : Fi} (Y : FiOk y) {j : Nat} (h : j < y.Nn + 1) : ∃ a, y.tas[j]? = some a ∧ (a, TxtO (wS (bk y.ks) (0, j))) ∈ fiR y := by
  have hl : (toldM (y.Nn + 1)).length = y.Nn + 1 := by unfold toldM; rw [List.length_map, List.length_range]
  obtain ⟨a, ha, hm⟩ := zip_mem (g := fun (a : Addr) (p : Str × Str) => ((a, TxtO p) : Cel)) (as := y.tas) (ps := (toldM (y.Nn + 1)).map (wS (bk y.ks))) (by rw [Y.ltas, List.length_map, hl]) (i := j) (p := wS (bk y.ks) (0, j)) (by rw [List.getElem?_map, told_at h]; rfl)
  exact ⟨a, ha, f_mem (List.mem_append_right _ (List.mem_append_right _ (List.mem_append_left _ hm)))⟩

set_option maxHeartbeats 8000000 in
theorem ret4 {fa : Addr} {cd : Value} {y : Fi} {k : Nat} (Y : FiOk y) (ok : Ok A (k + 7)) (H : St B (fiR y) s) (h : ∀ s', St B (fiR y) s' → Q (.bool true) s') :
    wpAny (model prog w) A (eval (lawRet 4) (lawEnv y.L fa cd)) Q E s := by
  have hbig : 1000 ≤ sizeLine := by decide
  have hN4 : y.Nn ≤ 4 := by have := Y.hN; simp at this; lia
  have hu := ok.units
  refine wpAny_Compare1 (n_local H (.head _) Y.mf (wpAny_BinOp (n_local H (.head _) Y.mt ?_)))
  refine d_list (B := B) ?_
  refine wpAny_items_cons ?_
  refine d_tup (B := B) ?_
  refine wpAny_items_cons (c_str H fun t1 s1 H1 => wpAny_items_cons (c_str H1 fun t2 s2 H2 => wpAny_items_nil ⟨_, H2, Nat.le_trans (show 2 ≤ 1000 by (exact Nat.le_add_left _ _)) hbig, fun a1 s3 H3 => wpAny_items_nil ⟨_, H3, Nat.le_trans (show 1 ≤ 1000 by (exact Nat.succ_pos _)) hbig, fun D s4 H4 => ?_⟩⟩))
  have H5 := H4.weak (P' := TxtO emptyP) (.tail .head) fun o ho => by obtain ⟨n, rfl⟩ := ho; exact ⟨t1, t2, n, rfl⟩
  refine l_add H5 (.tail _ (.tail _ (.tail _ (.tail _ (.head _))))) (.head _) (by rw [List.length_map, Y.ltas]; exact Nat.le_trans (show y.Nn + 1 + 1 ≤ 1000 by lia) hbig) fun D3 s6 H6 => ?_
  have up : ∀ c ∈ fiR y, c ∈ (D3, LstO (y.tas.map .ref ++ [.ref a1])) :: (D, LstO [.ref a1]) :: (a1, TxtO emptyP) :: fiR y := fun c hc => .tail _ (.tail _ (.tail _ hc))
  refine o_eq (eq_lists (H6.lst (up _ (.tail _ (.head _)))) (H6.lst (.head _)) (by rw [List.length_append, List.length_append, List.length_map, List.length_map, List.length_reverse, Y.lwas, Y.ltas]; rfl) (by lia) fun j v u hv hu2 => ?_) (h _ (H6.drop 3))
  by_cases hj : j < y.Nn + 1
  · rw [List.getElem?_append_left (by rw [List.length_map, List.length_reverse, Y.lwas]; exact hj), List.getElem?_map] at hv
    rw [List.getElem?_append_left (by rw [List.length_map, Y.ltas]; exact hj), List.getElem?_map] at hu2
    obtain ⟨b1, hb1, hm1⟩ := off_at Y hj
    obtain ⟨b2, hb2, hm2⟩ := told_cell Y hj
    rw [hb1] at hv
    rw [hb2] at hu2
    cases hv; cases hu2
    exact eq_txt H6 (up _ hm1) (up _ hm2) (by show A.units + 1 < _; lia)
  · rw [List.getElem?_append_right (by rw [List.length_map, List.length_reverse, Y.lwas]; (exact Nat.le_of_not_lt (by assumption))), List.length_map, List.length_reverse, Y.lwas] at hv
    rw [List.getElem?_append_right (by rw [List.length_map, Y.ltas]; (exact Nat.le_of_not_lt (by assumption))), List.length_map, Y.ltas] at hu2
    cases q : j - (y.Nn + 1) with
    | zero =>
      rw [q] at hv hu2
      cases hv; cases hu2
      exact eq_txt H6 (up _ (.tail _ (.tail _ (.tail _ (.tail _ (.tail _ (.tail _ (.tail _ (.tail _ (.head _)))))))))) (.tail _ (.tail _ (.head _))) (by show A.units + 1 < _; lia)
    | succ i => rw [q] at hv; cases hv
end
end Mine
end
section
set_option maxRecDepth 100000
namespace Mine
open PySem PySem.Calls PyProof.Rows PySem.W PySem.SeqAt Builtin

theorem sum_rev : ∀ l : List Int, l.reverse.sum = l.sum
  | [] => rfl
  | a :: l => by rw [List.reverse_cons, List.sum_append, sum_rev l, List.sum_cons, List.sum_cons, List.sum_nil]; lia
noncomputable def partL (b : Nat → Nat) (j : Nat) : Int := ((letS b j).length : Int)
theorem size_eq (n : Nat) (b : Nat → Nat) : wsum ((wsE n).map (wS b)) = ((List.range n).map (partL b)).sum := by
  unfold wsum wsE
  rw [List.map_reverse, List.map_reverse, sum_rev, List.map_map, List.map_map]
  congr 1
  apply List.map_congr_left
  intro j _
  show ((blanks 0).length : Int) + ((letS b j).length : Int) = _
  have : (blanks 0).length = 0 := rfl
  rw [this]; simp [partL]
theorem whole_eq {N : Nat} (hN : N ∈ [3, 4]) (b : Nat → Nat) : wsum ((ws0 (N + 1)).map (wS b)) = wsum ((wsE (N + 1)).map (wS b)) + (((N : Int) + 1) * (((N : Int) + 1) * ((N : Int) + 1) - 1)).fdiv 2 := by
  rw [size_eq]
  have e : wsum ((ws0 (N + 1)).map (wS b)) = ((List.range (N + 1)).map fun j => (((j + 1) * (N + 1 - 1) : Nat) : Int) + partL b j).sum := by
    unfold wsum ws0
    rw [List.map_map, List.map_map]
    congr 1
    apply List.map_congr_left
    intro j _
    show ((blanks ((j + 1) * (N + 1 - 1))).length : Int) + ((letS b j).length : Int) = _
    have : (blanks ((j + 1) * (N + 1 - 1))).length = (j + 1) * (N + 1 - 1) := by show Array.size _ = _; simp [blanks]
    rw [this]; rfl
  rw [e]
  have h2 : N = 3 ∨ N = 4 := by simpa using hN
  rcases h2 with rfl | rfl
  · have e1 : (((3 : Nat) : Int) + 1) * ((((3 : Nat) : Int) + 1) * (((3 : Nat) : Int) + 1) - 1) = 60 := by decide
    rw [e1]
    have e2 : (60 : Int).fdiv 2 = 30 := by decide +kernel
    rw [e2]
    simp only [List.range_succ, List.range_zero, List.nil_append, List.cons_append, List.map_cons, List.map_nil, List.sum_cons, List.sum_nil]
    lia
  · have e1 : (((4 : Nat) : Int) + 1) * ((((4 : Nat) : Int) + 1) * (((4 : Nat) : Int) + 1) - 1) = 120 := by decide
    rw [e1]
    have e2 : (120 : Int).fdiv 2 = 60 := by decide +kernel
    rw [e2]
    simp only [List.range_succ, List.range_zero, List.nil_append, List.cons_append, List.map_cons, List.map_nil, List.sum_cons, List.sum_nil]
    lia

section
variable {prog : Program} {w : World} {M : Model} {A : Around} {E : Value → Shared → Prop} {B s : Shared} {cs cs' : List Cel} {env : Env} {Q : Value → Shared → Prop} {K : Frag}

end
namespace R5D
noncomputable abbrev Xq := (Program) × (World) × (Around) × (Value → Shared → Prop) × (Shared) × (Shared) × (Value → Shared → Prop) × (Addr) × (Value) × (Fi) × (Nat)
noncomputable def Sq (prog : Program) (w : World) (A : Around) (E : Value → Shared → Prop) (B : Shared) (s : Shared) (Q : Value → Shared → Prop) (fa : Addr) (cd : Value) (y : Fi) (k : Nat) : Prop :=
  ∀ (Y : FiOk y) (N : Names B) (ok : Ok A (k + 7)) (H : St B (fiR y) s) (h : ∀ s', St B (fiR y) s' → Q (.bool true) s'),
    wpAny (model prog w) A (eval (lawRet 5) (lawEnv y.L fa cd)) Q E s
noncomputable def Tq (x : Xq) : Prop := Sq x.1 x.2.1 x.2.2.1 x.2.2.2.1 x.2.2.2.2.1 x.2.2.2.2.2.1 x.2.2.2.2.2.2.1 x.2.2.2.2.2.2.2.1 x.2.2.2.2.2.2.2.2.1 x.2.2.2.2.2.2.2.2.2.1 x.2.2.2.2.2.2.2.2.2.2
noncomputable def xq : Xq := @Classical.epsilon Xq ⟨⟨default, dumW, {}, fun _ _ => True, dumS, dumS, fun _ _ => True, 0, default, dumFi, 0⟩⟩ fun x => ¬ Tq x
noncomputable def prog : Program := xq.1
noncomputable def w : World := xq.2.1
noncomputable def A : Around := xq.2.2.1
noncomputable def E : Value → Shared → Prop := xq.2.2.2.1
noncomputable def B : Shared := xq.2.2.2.2.1
noncomputable def s : Shared := xq.2.2.2.2.2.1
noncomputable def Q : Value → Shared → Prop := xq.2.2.2.2.2.2.1
noncomputable def fa : Addr := xq.2.2.2.2.2.2.2.1
noncomputable def cd : Value := xq.2.2.2.2.2.2.2.2.1
noncomputable def y : Fi := xq.2.2.2.2.2.2.2.2.2.1
noncomputable def k : Nat := xq.2.2.2.2.2.2.2.2.2.2
set_option maxHeartbeats 8000000 in
theorem at_ : Sq prog w A E B s Q fa cd y k := by
  intro Y N ok H h
  have hbig : 1000 ≤ sizeLine := by decide
  have hN4 : y.Nn ≤ 4 := by have := Y.hN; simp at this; lia
  have hu := ok.units
  obtain ⟨tn, hmn⟩ := Y.mn
  obtain ⟨tz, hmz⟩ := Y.mz
  refine wpAny_Compare1 (n_local H (.head _) hmz (wpAny_BinOp (n_local H (.head _) hmn ?_)))
  refine e_call (n_blt H N (by k_mem) (by rfl) (cw_blt (wpAny_items_cons ?_)))
  refine e_comp (B := B) (n_local H (.head _) Y.mt ?_) rfl
  refine pyIter_list (H.front 2) fun it s2 H2 => ?_
  refine ⟨Value, _, _, _, Nat, fun _ => (fiR y).eraseIdx 2, fun rem ys i => rem = (y.tas.drop i).map .ref ∧ i ≤ y.tas.length ∧ ys.map iv = ((List.range i).map (partL (bk y.ks))).map some, y.tas.map .ref, 0, iter_list ok.handled, H2, ⟨rfl, Nat.zero_le _, rfl⟩, ?_, ?_⟩
  · clear H2 H
    intro C D v0 rem v i ys mc s3 E3 hv ⟨hrem, hle, hys⟩ H3
    have hv : v0 = v := hv
    subst hv
    have hil : i < y.tas.length := by
      rcases Nat.lt_or_ge i y.tas.length with q | q
      · exact q
      · rw [List.drop_of_length_le q] at hrem; cases hrem
    rw [List.drop_eq_getElem_cons hil, List.map_cons] at hrem
    injection hrem with e1 e2
    subst e1
    obtain ⟨a, ha, hm⟩ := told_cell Y (j := i) (by rw [← Y.ltas]; exact hil)
    rw [List.getElem?_eq_getElem hil] at ha
    cases ha
    generalize y.tas[i] = a at hm H3
    have hm2 : (a, TxtO (wS (bk y.ks) (0, i))) ∈ (y.Dt, LstO (y.tas.map .ref)) :: (fiR y).eraseIdx 2 := (front_perm (l := fiR y) (i := 2) rfl).mem_iff.mp hm
    have hm3 : ∀ (c0 c1 c2 : Cel), (a, TxtO (wS (bk y.ks) (0, i))) ∈ c0 :: c1 :: c2 :: (y.Dt, LstO (y.tas.map .ref)) :: (fiR y).eraseIdx 2 := fun _ _ _ => .tail _ (.tail _ (.tail _ hm2))
    refine a_txt ok.handled H3 (hm3 _ _ _) fun t u s4 H4 => ?_
    refine s_local (m' := mc) H4 .head fun s5 H5 => ?_
    refine s_local (m' := mc) H5 .head fun s6 H6 => ?_
    refine wpAny_tests_nil ?_
    rw [if_pos rfl]
    have hb := bk_lt y.ks i
    have zl : (letS (bk y.ks) i).length ≤ 100 := by show Array.size _ ≤ _; simp [letS]; lia
    have hyl : ys.length = i := by
      have := congrArg List.length hys
      rw [List.length_map, List.length_map, List.length_map, List.length_range] at this; exact this
    refine e_call (n_blt H6 N (by k_mem) (by rfl) (cw_blt (wpAny_items_cons (n_local H6 (.head _) rfl (wpAny_items_nil (f_len_str H6 (Nat.le_trans zl (Nat.le_trans (by (exact Nat.le_add_left _ _)) hbig)) fun t7 s7 H7 => ?_))))))
    refine ⟨i + 1, _, by rw [hyl]; exact Nat.le_trans (by have := Y.ltas; lia) hbig, ⟨e2, hil, ?_⟩, H7⟩
    rw [List.map_append, hys, List.range_succ, List.map_append, List.map_append]; rfl
  · rintro D i ys s3 ⟨hrem, hle, hys⟩ H3
    have hi : i = y.Nn + 1 := by
      rw [← Y.ltas]
      rcases Nat.lt_or_ge i y.tas.length with q | q
      · rw [List.drop_eq_getElem_cons q] at hrem; cases hrem
      · (exact Nat.le_antisymm (by assumption) (by assumption))
    subst hi
    have H4 : St B ((D, LstO ys) :: (y.Dt, LstO (y.tas.map .ref)) :: (fiR y).eraseIdx 2) s3 := H3
    have H5 := H4.weak (P' := SeqO iv ((List.range (y.Nn + 1)).map (partL (bk y.ks)))) .head fun o ho => ⟨_, ho, hys⟩
    refine wpAny_items_nil (f_sum (α := Int) (val := _root_.id) (B := B) (pyIter_seq H5 fun it2 s6 H6 => ⟨_, _, _, _, (List.range (y.Nn + 1)).map (partL (bk y.ks)), iter_seq ok.handled, fun a v h => iv_int h, H6, fun s7 t7 H7 => ?_⟩))
    refine i_add H7 fun t8 s8 H8 => ?_
    have hs : y.n + (((List.range (y.Nn + 1)).map (partL (bk y.ks))).map _root_.id).sum = y.size := by rw [List.map_id, Y.hsize, size_eq]
    rw [hs]
    refine PyProof.Rows.eq_int ?_
    rw [beq_self_eq_true]
    exact h s8 (St.back 2 (H8.drop 1))
theorem all_ (x : Xq) : Tq x := Classical.byContradiction fun hn => Classical.epsilon_spec (p := fun x => ¬ Tq x) ⟨x, hn⟩ at_
end R5D
section
variable {prog : Program} {w : World} {M : Model} {A : Around} {E : Value → Shared → Prop} {B s : Shared} {cs cs' : List Cel} {env : Env} {Q : Value → Shared → Prop} {K : Frag}
theorem ret5 {fa : Addr} {cd : Value} {y : Fi} {k : Nat} (Y : FiOk y) (N : Names B) (ok : Ok A (k + 7)) (H : St B (fiR y) s) (h : ∀ s', St B (fiR y) s' → Q (.bool true) s') :
    wpAny (model prog w) A (eval (lawRet 5) (lawEnv y.L fa cd)) Q E s :=
  R5D.all_ ⟨prog, w, A, E, B, s, Q, fa, cd, y, k⟩ Y N ok H h


set_option maxHeartbeats 8000000 in
theorem ret6 {fa : Addr} {cd : Value} {y : Fi} (Y : FiOk y) (H : St B (fiR y) s) (h : ∀ s', St B (fiR y) s' → Q (.bool true) s') :
    wpAny (model prog w) A (eval (lawRet 6) (lawEnv y.L fa cd)) Q E s := by
  obtain ⟨tn, hmn⟩ := Y.mn
  obtain ⟨tz, hmz⟩ := Y.mz
  obtain ⟨tw, hmw⟩ := Y.mw
  have hn2 : y.n = 4 ∨ y.n = 5 := by have := Y.hN; have := Y.hn; simp at *; lia
  have hbit : Builtin.Int.intBits y.n ≤ 64 := by rcases hn2 with e | e <;> rw [e] <;> decide +kernel
  refine wpAny_Compare1 (n_local H (.head _) hmw (wpAny_BinOp (n_local H (.head _) hmz (wpAny_BinOp (wpAny_BinOp (n_local H (.head _) hmn ?_))))))
  refine wpAny_BinOp (wpAny_BinOp (n_local H (.head _) hmn (n_local H (.head _) hmn (i_mul H (IntMulOk.of_left hbit) fun t1 s1 H1 => c_int H1 fun t2 s2 H2 => i_sub H2 fun t3 s3 H3 => ?_))))
  refine i_mul H3 (IntMulOk.of_left hbit) fun t4 s4 H4 => c_int H4 fun t5 s5 H5 => i_div H5 (by decide) (.inl (PyProof.noPylong_small (by decide))) fun t6 s6 H6 => i_add H6 fun t7 s7 H7 => ?_
  have hs : y.size + (y.n * (y.n * y.n - 1)).fdiv 2 = y.whole := by rw [Y.hsize, Y.hwhole, whole_eq Y.hN, Y.hn]; lia
  rw [hs]
  refine PyProof.Rows.eq_int ?_
  rw [beq_self_eq_true]
  exact h s7 H7

noncomputable def bareM (n : Nat) : List Str := (List.range n).map fun j => (⟨#[97 + j]⟩ : Str)

end
namespace R7D
noncomputable abbrev Xq := (Program) × (World) × (Around) × (Value → Shared → Prop) × (Shared) × (Shared) × (Value → Shared → Prop) × (Addr) × (Value) × (Fi) × (Nat)
noncomputable def Sq (prog : Program) (w : World) (A : Around) (E : Value → Shared → Prop) (B : Shared) (s : Shared) (Q : Value → Shared → Prop) (fa : Addr) (cd : Value) (y : Fi) (k : Nat) : Prop :=
  ∀ (Y : FiOk y) (Fn : Fns B) (N : Names B) (ok : Ok A (k + 7)) (H : St B (fiR y) s) (h : ∀ s', St B (fiR y) s' → Q (.bool true) s'),
    wpAny (model prog w) A (eval (lawRet 7) (lawEnv y.L fa cd)) Q E s
noncomputable def Tq (x : Xq) : Prop := Sq x.1 x.2.1 x.2.2.1 x.2.2.2.1 x.2.2.2.2.1 x.2.2.2.2.2.1 x.2.2.2.2.2.2.1 x.2.2.2.2.2.2.2.1 x.2.2.2.2.2.2.2.2.1 x.2.2.2.2.2.2.2.2.2.1 x.2.2.2.2.2.2.2.2.2.2
noncomputable def xq : Xq := @Classical.epsilon Xq ⟨⟨default, dumW, {}, fun _ _ => True, dumS, dumS, fun _ _ => True, 0, default, dumFi, 0⟩⟩ fun x => ¬ Tq x
noncomputable def prog : Program := xq.1
noncomputable def w : World := xq.2.1
noncomputable def A : Around := xq.2.2.1
noncomputable def E : Value → Shared → Prop := xq.2.2.2.1
noncomputable def B : Shared := xq.2.2.2.2.1
noncomputable def s : Shared := xq.2.2.2.2.2.1
noncomputable def Q : Value → Shared → Prop := xq.2.2.2.2.2.2.1
noncomputable def fa : Addr := xq.2.2.2.2.2.2.2.1
noncomputable def cd : Value := xq.2.2.2.2.2.2.2.2.1
noncomputable def y : Fi := xq.2.2.2.2.2.2.2.2.2.1
noncomputable def k : Nat := xq.2.2.2.2.2.2.2.2.2.2
set_option maxHeartbeats 8000000 in
theorem at_ : Sq prog w A E B s Q fa cd y k := by
  intro Y Fn N ok H h
  have hbig : 1000 ≤ sizeLine := by decide
  have hN4 : y.Nn ≤ 4 := by have := Y.hN; simp at this; lia
  have hu := ok.units
  obtain ⟨tn, hmn⟩ := Y.mn
  refine wpAny_Compare1 ?_
  refine e_comp (B := B) (Subscript_ (n_local H (.head _) Y.mf (e_slice (part_none (part_some (n_local H (.head _) hmn (part_none ?_))))))) rfl
  refine slice_k (lo := none) (hi := some y.n) H (.tail _ (.head _)) .none (.int _ _) (by rw [List.length_append, List.length_map, List.length_reverse, Y.lwas]; exact Nat.le_trans (show y.Nn + 1 + 1 ≤ 1000 by lia) hbig) (fun D0 s1 H1 => ?_) (by with_unfolding_all rfl)
  have e2 : kms_pick (y.was.reverse.map Value.ref ++ [Value.ref y.a0]) none (some y.n) = y.was.reverse.map Value.ref := by
    unfold kms_pick kms_lo kms_hi
    simp only [List.drop_zero, Nat.sub_zero]
    have hn0 := Y.hn
    rw [if_neg (by lia), kmk_take_min, show y.n.toNat = (y.was.reverse.map Value.ref).length by rw [List.length_map, List.length_reverse, Y.lwas]; lia, List.take_left]
  rw [e2] at H1
  refine pyIter_list H1 fun it s2 H2 => ?_
  clear H1
  refine ⟨Value, _, _, _, Nat, fun _ => fiR y, fun rem ys i => rem = (y.was.reverse.drop i).map .ref ∧ i ≤ y.was.reverse.length ∧ ys.map sv = (bareM i).map some, y.was.reverse.map .ref, 0, iter_list ok.handled, H2, ⟨rfl, Nat.zero_le _, rfl⟩, ?_, ?_⟩
  · clear H2 H
    intro C D v0 rem v i ys mc s3 E3 hv ⟨hrem, hle, hys⟩ H3
    have hv : v0 = v := hv
    subst hv
    have hil : i < y.was.reverse.length := by
      rcases Nat.lt_or_ge i y.was.reverse.length with q | q
      · exact q
      · rw [List.drop_of_length_le q] at hrem; cases hrem
    rw [List.drop_eq_getElem_cons hil, List.map_cons] at hrem
    injection hrem with e1 e3
    subst e1
    have hiN : i < y.Nn + 1 := by rw [List.length_reverse, Y.lwas] at hil; exact hil
    obtain ⟨a, ha, hm⟩ := off_at Y hiN
    rw [List.getElem?_eq_getElem hil] at ha
    cases ha
    generalize y.was.reverse[i] = a at hm H3
    refine a_txt ok.handled H3 (.tail _ (.tail _ (List.mem_append_right _ hm))) fun t u s4 H4 => ?_
    refine s_local (m' := mc) H4 .head fun s5 H5 => ?_
    refine s_local (m' := mc) H5 .head fun s6 H6 => ?_
    refine wpAny_tests_nil ?_
    rw [if_pos rfl]
    have hb := bk_lt y.ks i
    have hyl : ys.length = i := by
      have := congrArg List.length hys
      rw [List.length_map, List.length_map] at this
      rw [this]; unfold bareM; rw [List.length_map, List.length_range]
    refine e_call (n_glob H6 (N.g fun mg h => h.2.2.1) (cw_fn Fn.strip (wpAny_items_cons (n_local H6 (.head _) rfl (wpAny_items_cons (c_int H6 fun t7 s7 H7 => wpAny_items_nil ⟨⟨_, H7⟩, ?_⟩))))))
    have hl : (wS (bk y.ks) (0, i)).2.cps.toList = (97 + i) :: List.replicate (bk y.ks i) 32 := rfl
    refine spec_strip (a := 3) (k := k + 6) Fn N ok H7 ⟨97 + i, by rw [hl]; exact .head _, by lia⟩ ?_ (Nat.le_trans (by (exact Nat.le_add_left _ _)) hbig) fun t8 s8 H8 => ?_
    · show Array.size _ ≤ _
      refine Nat.le_trans ?_ hbig
      simp [wS, letS]; lia
    rw [hl, strip_end (by lia) (by (exact Nat.le_of_lt_succ (by assumption)))]
    refine ⟨i + 1, _, by rw [hyl]; exact Nat.le_trans (by lia) hbig, ⟨e3, hil, ?_⟩, H8⟩
    rw [List.map_append, hys]
    unfold bareM
    rw [List.range_succ, List.map_append, List.map_append]; rfl
  · rintro D i ys s3 ⟨hrem, hle, hys⟩ H3
    have hi : i = y.Nn + 1 := by
      have e : y.was.reverse.length = y.Nn + 1 := by rw [List.length_reverse, Y.lwas]
      rcases Nat.lt_or_ge i y.was.reverse.length with q | q
      · rw [List.drop_eq_getElem_cons q] at hrem; cases hrem
      · (clear hN4; lia)
    subst hi
    have H4 : St B ((D, LstO ys) :: (D0, LstO (y.was.reverse.map .ref)) :: fiR y) s3 := H3
    have H5 := H4.weak (P' := StrsO (bareM (y.Nn + 1))) .head fun o ho => ⟨_, ho, hys⟩
    clear H4 H3 H2 H
    refine e_comp (B := B) (e_call (n_blt H5 N (by k_mem) (by rfl) (cw_ty (wpAny_items_cons (n_local H5 (.tail _ (.tail _ (.head _))) hmn (wpAny_items_nil (range1 H5 fun r s6 H6 => ?_))))))) rfl
    rw [show y.n = 0 + ((y.Nn + 1 : Nat) : Int) by rw [Y.hn]; push_cast; lia] at H6
    refine pyIter_range H6 (by (exact Int.natCast_nonneg _)) (by lia) fun it2 s7 H7 => ?_
    refine map_end (fun a v => sv v = some (⟨#[97 + a.toNat]⟩ : Str)) (iter_range ok.handled) H7 (by rw [upR_len]; exact Nat.le_trans (by (exact Nat.lt_of_le_of_lt (by assumption) (by decide))) hbig) ?_ ?_
    · intro C2 D2 j js ys2 v2 m2 s8 E8 hj ⟨t2, hv2⟩ hm2 H8
      subst hv2
      have hr := upR_mem hj
      refine e_call ?_
      refine n_blt H8 N (by k_mem) (by rfl) ?_
      refine cw_blt (wpAny_items_cons (wpAny_BinOp (c_int H8 fun t10 s10 H10 => n_local H10 (.head _) hm2 (i_add H10 fun t11 s11 H11 => wpAny_items_nil (f_chr H11 (by (clear H6; lia)) (by (clear H6; lia)) fun t12 s12 H12 => ⟨?_, m2, H12⟩)))))
      rw [show ((97 : Int) + j).toNat = 97 + j.toNat by (clear H6; lia)]; rfl
    · intro D2 ys2 s8 hp H8
      have hys2 : ys2.map sv = (bareM (y.Nn + 1)).map some := by
        have := paired_map (g := fun a : Int => (⟨#[97 + a.toNat]⟩ : Str)) hp
        rw [this]
        congr 1
        unfold bareM
        apply List.ext_getElem?
        intro q
        rw [List.getElem?_map, List.getElem?_map]
        by_cases hq : q < y.Nn + 1
        · rw [upR_get 0 _ q hq, List.getElem?_range hq]
          show some (⟨#[97 + (0 + (q : Int)).toNat]⟩ : Str) = some ⟨#[97 + q]⟩
          rw [show (0 + (q : Int)).toNat = q by (exact Nat.add_comm _ _)]
        · rw [List.getElem?_eq_none (by rw [upR_len]; (exact Nat.le_of_not_lt (by assumption))), List.getElem?_eq_none (by rw [List.length_range]; (exact Nat.le_of_not_lt (by assumption)))]; rfl
      have H9 := H8.weak (P' := StrsO (bareM (y.Nn + 1))) .head fun o ho => ⟨_, ho, hys2⟩
      refine o_eq (eq_seq (f := sv) (fun v u x A h1 h2 => eq_sv v u x A h1 h2) H9 (.tail _ (.head _)) (.head _) (by lia)) ?_
      exact h s8 (H9.drop 3)
theorem all_ (x : Xq) : Tq x := Classical.byContradiction fun hn => Classical.epsilon_spec (p := fun x => ¬ Tq x) ⟨x, hn⟩ at_
end R7D
section
variable {prog : Program} {w : World} {M : Model} {A : Around} {E : Value → Shared → Prop} {B s : Shared} {cs cs' : List Cel} {env : Env} {Q : Value → Shared → Prop} {K : Frag}
theorem ret7 {fa : Addr} {cd : Value} {y : Fi} {k : Nat} (Y : FiOk y) (Fn : Fns B) (N : Names B) (ok : Ok A (k + 7)) (H : St B (fiR y) s) (h : ∀ s', St B (fiR y) s' → Q (.bool true) s') :
    wpAny (model prog w) A (eval (lawRet 7) (lawEnv y.L fa cd)) Q E s :=
  R7D.all_ ⟨prog, w, A, E, B, s, Q, fa, cd, y, k⟩ Y Fn N ok H h

end
end Mine
end
section
set_option maxRecDepth 100000
set_option maxHeartbeats 4000000
namespace Mine
open PySem PySem.Calls PyProof.Rows PySem.W PySem.SeqAt Builtin

theorem perm7 (L Dl e Dn Ds x dx L2 L1 nD Do t80 : Cel) (T : List Cel) : (L :: Dl :: e :: Dn :: Ds :: x :: dx :: L2 :: L1 :: nD :: Do :: t80 :: T).Perm (L :: L2 :: L1 :: nD :: (Dl :: e :: Dn :: Ds :: x :: dx :: Do :: t80 :: T)) :=
  perm_of fun a => by simp only [List.count_cons]; ac_rfl
theorem perm8 (Dt L L2 L1 nD Dl e Dn Ds x dx Do t80 : Cel) (W T : List Cel) : (Dt :: L :: L2 :: L1 :: nD :: (W ++ (Dl :: e :: Dn :: Ds :: x :: dx :: Do :: t80 :: T))).Perm (L :: L2 :: x :: dx :: (Dt :: Dl :: e :: Dn :: Ds :: Do :: t80 :: L1 :: nD :: (W ++ T))) :=
  perm_of fun a => by simp only [List.count_append, List.count_cons]; ac_rfl
theorem perm9 (Df L L2 x dx a0 Dt Dl e Dn Ds Do t80 L1 nD : Cel) (W R T1 S U : List Cel) : (Df :: L :: L2 :: x :: dx :: a0 :: Dt :: Dl :: e :: Dn :: Ds :: Do :: t80 :: L1 :: nD :: (W ++ (R ++ (T1 ++ (S ++ U))))).Perm
    (L2 :: x :: dx :: L1 :: nD :: (L :: Df :: Dt :: Dl :: e :: Dn :: Ds :: Do :: a0 :: (R ++ (T1 ++ (W ++ (S ++ (U ++ [t80]))))))) :=
  perm_of fun a => by simp only [List.count_append, List.count_cons, List.count_nil]; ac_rfl

section
variable {prog : Program} {w : World} {M : Model} {A : Around} {E : Value → Shared → Prop} {B s : Shared} {cs cs' : List Cel} {env : Env} {Q : Value → Shared → Prop} {K : Frag}

set_option maxHeartbeats 8000000 in
theorem law_ret {fa : Addr} {cd : Value} {y : Fi} {k : Nat} (Y : FiOk y) (Fn : Fns B) (N : Names B) (ok : Ok A (k + 7)) (H : St B (fiR y) s) (h : ∀ s', St B (fiR y) s' → Q (.bool true) s') :
    wpAny (model prog w) A (execs (lawBody.drop 12) (lawEnv y.L fa cd)) (fun f s' => Q (match f with | .ret v => v | _ => .none) s') E s := by
  refine wpAny_execs_cons (wpAny_Return_some ?_)
  refine and_true (ret0 (k := k) Y Fn N ok H fun s1 H1 => ⟨rfl, ?_⟩)
  refine and_true (ret1 (k := k) Y Fn N ok H1 fun s2 H2 => ⟨rfl, ?_⟩)
  refine and_true (ret2 (k := k) Y N ok H2 fun s3 H3 => ⟨rfl, ?_⟩)
  refine and_true (ret3 (k := k) Y N ok H3 fun s4 H4 => ⟨rfl, ?_⟩)
  refine and_true (ret4 (k := k) Y ok H4 fun s5 H5 => ⟨rfl, ?_⟩)
  refine and_true (ret5 (k := k) Y N ok H5 fun s6 H6 => ⟨rfl, ?_⟩)
  refine and_true (ret6 Y H6 fun s7 H7 => ⟨rfl, ?_⟩)
  refine BoolOp_one (ret7 (k := k) Y Fn N ok H7 fun s8 H8 => h s8 H8)

set_option maxHeartbeats 8000000 in
end
namespace WaD
noncomputable abbrev X := (Program) × (World) × (Around) × (Value → Shared → Prop) × (Shared) × (List Cel) × (Value → Shared → Prop) × (Frag) × (Addr) × (Addr) × (List Value) × (List Int) × (Nat) × (Addr) × (Value) × (Shared) × (Value → Shared → Prop)
noncomputable def S (prog : Program) (w : World) (A : Around) (E : Value → Shared → Prop) (B : Shared) (cs : List Cel) (Q : Value → Shared → Prop) (K : Frag) (fa : Addr) (l : Addr) (vs : List Value) (ns : List Int) (k : Nat) (L : Addr) (cd : Value) (s1 : Shared) (E' : Value → Shared → Prop) : Prop :=
  ∀ (Fn : Fns B) (C : Acc B K) (AF : AccF B) (AS : AccS prog B) (AL : AccL B) (hkp : keepIn K (.ref 118) = true) (N : Names B) (Pt : Pats B) (ok : Ok A (k + 8)) (hl : B.heap.IsList l vs.toArray) (hi : IntsAre vs ns) (hz : vs.length ≤ 63) (h : ∀ s', St B [(80, TabO)] s' → Q (.bool true) s'),
    Ok (A.deeper (envX "law" (scOf (stOf 25)) L fa cd [(Str.ofString "words", L + 2), (Str.ofString "numbers", L + 1)])) (k + 7) → St B ((L, NsO (fun x => if x = Str.ofString "script" then some (.ref l) else none)) :: (L + 2, CellO none) :: (L + 1, CellO none) :: [(80, TabO)]) s1 →
    wpAny (model prog w) (A.deeper (envX "law" (scOf (stOf 25)) L fa cd [(Str.ofString "words", L + 2), (Str.ofString "numbers", L + 1)])) (execs (bdOf (stOf 25)) (envX "law" (scOf (stOf 25)) L fa cd [(Str.ofString "words", L + 2), (Str.ofString "numbers", L + 1)])) (fun f s' => Q (match f with | .ret v => v | _ => .none) s') E' s1
noncomputable def T (x : X) : Prop := S x.1 x.2.1 x.2.2.1 x.2.2.2.1 x.2.2.2.2.1 x.2.2.2.2.2.1 x.2.2.2.2.2.2.1 x.2.2.2.2.2.2.2.1 x.2.2.2.2.2.2.2.2.1 x.2.2.2.2.2.2.2.2.2.1 x.2.2.2.2.2.2.2.2.2.2.1 x.2.2.2.2.2.2.2.2.2.2.2.1 x.2.2.2.2.2.2.2.2.2.2.2.2.1 x.2.2.2.2.2.2.2.2.2.2.2.2.2.1 x.2.2.2.2.2.2.2.2.2.2.2.2.2.2.1 x.2.2.2.2.2.2.2.2.2.2.2.2.2.2.2.1 x.2.2.2.2.2.2.2.2.2.2.2.2.2.2.2.2
noncomputable def x0 : X := @Classical.epsilon X ⟨⟨default, dumW, {}, fun _ _ => True, dumS, [], fun _ _ => True, [], 0, 0, [], [], 0, 0, default, dumS, fun _ _ => True⟩⟩ fun x => ¬ T x
noncomputable def prog : Program := x0.1
noncomputable def w : World := x0.2.1
noncomputable def A : Around := x0.2.2.1
noncomputable def E : Value → Shared → Prop := x0.2.2.2.1
noncomputable def B : Shared := x0.2.2.2.2.1
noncomputable def cs : List Cel := x0.2.2.2.2.2.1
noncomputable def Q : Value → Shared → Prop := x0.2.2.2.2.2.2.1
noncomputable def K : Frag := x0.2.2.2.2.2.2.2.1
noncomputable def fa : Addr := x0.2.2.2.2.2.2.2.2.1
noncomputable def l : Addr := x0.2.2.2.2.2.2.2.2.2.1
noncomputable def vs : List Value := x0.2.2.2.2.2.2.2.2.2.2.1
noncomputable def ns : List Int := x0.2.2.2.2.2.2.2.2.2.2.2.1
noncomputable def k : Nat := x0.2.2.2.2.2.2.2.2.2.2.2.2.1
noncomputable def L : Addr := x0.2.2.2.2.2.2.2.2.2.2.2.2.2.1
noncomputable def cd : Value := x0.2.2.2.2.2.2.2.2.2.2.2.2.2.2.1
noncomputable def s1 : Shared := x0.2.2.2.2.2.2.2.2.2.2.2.2.2.2.2.1
noncomputable def E' : Value → Shared → Prop := x0.2.2.2.2.2.2.2.2.2.2.2.2.2.2.2.2
theorem at_ : S prog w A E B cs Q K fa l vs ns k L cd s1 E' := by
  intro Fn C AF AS AL hkp N Pt ok hl hi hz h ok1 H1
  have hbig : 1000 ≤ sizeLine := by decide
  refine wpAny_execs_cons ?_
  refine wpAny_Assign_Name (e_call (n_glob H1 (N.g fun mg h => h.2.2.2.2.1) (cw_fn Fn.numbers (wpAny_items_cons (n_local H1 (by k_mem) rfl (wpAny_items_nil ⟨⟨_, H1⟩, ?_⟩))))))
  refine spec_numbers (k := k + 4) Fn N ok1 H1 hl hi (Nat.le_trans (by (exact Nat.le_trans (by assumption) (by decide))) hbig) fun nD ks s2 hks H2 => ?_
  refine s_cell H2 rfl (.tail (.tail (.tail .head))) fun s3 H3 => ?_
  refine wpAny_execs_cons ?_
  refine wpAny_Assign_Name (wpAny_BinOp (c_int H3 fun t4 s4 H4 => wpAny_BinOp ?_))
  refine e_call (n_blt H4 N (by k_mem) (by rfl) (cw_blt (wpAny_items_cons (n_local H4 (by k_mem) rfl (wpAny_items_nil (f_sumB (k := k + 6) ok1 hl hi H4 fun i t5 s5 H5 => ?_))))))
  refine c_int H5 fun t6 s6 H6 => i_mod H6 (by decide) fun t7 s7 H7 => i_add H7 fun tn s8 H8 => ?_
  obtain ⟨Nn, hN, hn⟩ : ∃ Nn : Nat, Nn ∈ [3, 4] ∧ (4 : Int) + i.fmod 2 = Nn + 1 := by
    have h0 := Int.fmod_nonneg_of_pos i (show (0 : Int) < 2 by decide)
    have h1 := Int.fmod_lt_of_pos i (show (0 : Int) < 2 by decide)
    have : i.fmod 2 = 0 ∨ i.fmod 2 = 1 := by (clear h1 h0; lia)
    rcases this with e | e
    · exact ⟨3, by simp, by rw [e]; rfl⟩
    · exact ⟨4, by simp, by rw [e]; rfl⟩
  generalize (4 : Int) + i.fmod 2 = n at hn ⊢
  have hN4 : Nn ≤ 4 := by simp at hN; lia
  have hN3 : 3 ≤ Nn := by simp at hN; (clear hkp ok hz h hbig hks hn hN4; lia)
  refine s_local (m' := fun _ => none) H8 (.tail .head) fun s9 H9 => ?_
  clear H8 H7 H6 H5 H4 H3 H2 H1
  refine wpAny_execs_cons ?_
  refine wpAny_Assign_Name (e_call (n_glob H9 (N.g fun mg h => h.2.2.2.2.2.1) (cw_fn Fn.order (wpAny_items_cons (n_local H9 (by k_mem) rfl (wpAny_items_cons (n_cell H9 rfl (by k_mem) (wpAny_items_nil ⟨⟨_, H9⟩, ?_⟩))))))))
  refine spec_order (k := k + 4) hN hn Fn N ok1 H9 (.head _) hks fun Do oas st s10 hst hoas H10 => ?_
  refine s_local (m' := fun _ => none) H10 (.tail (Upd.app (.tail .head) _)) fun s11 H11 => ?_
  have hP := plain_all hN hst
  have hlen := (levels_len hst).2
  generalize st.2 = ord at hoas H11 hP hlen
  clear H10 H9 hst
  have htot : sizeT Nn ≤ 10 := by
    have h1 := sizes
    have h2 : Nn = 3 ∨ Nn = 4 := by simpa using hN
    rcases h2 with rfl | rfl <;> (first | exact Nat.le_add_left _ _ | exact Nat.lt_succ_self _ | omega +splitNatSub | lia)
  have H12 := St.sw [_] (P := tupC oas ord) (T := [_, _, _, _, _]) (X := []) H11
  rw [List.append_nil] at H12
  clear H11
  refine wpAny_execs_cons ?_
  refine wpAny_Assign_Name (e_call (n_glob H12 (N.g fun mg h => h.2.2.2.2.2.2.1) (cw_fn Fn.page (wpAny_items_cons (n_local H12 (by k_mem) rfl (wpAny_items_cons (n_local H12 (by k_mem) rfl (wpAny_items_cons (c_int H12 fun t13 s13 H13 => wpAny_items_nil ⟨⟨_, H13⟩, ?_⟩)))))))))
  refine spec_page (k := k + 4) hN4 hn Fn N ok1 H13 (.head _) (fun c hc => .tail _ (.tail _ (.tail _ (.tail _ (.tail _ (.tail _ hc)))))) hoas (by rw [hlen]; (exact Nat.le_trans (by assumption) (by decide))) hP.hall (by decide) (by decide) fun Dl e as s14 hal H14 => ?_
  refine s_local (m' := fun _ => none) H14 (.tail (.tail (Upd.app (.tail (.tail .head)) _))) fun s15 H15 => ?_
  clear H14 H13 H12
  have hm15 : ∀ c ∈ ([(Do, LstO (oas.map .ref)), (nD, IntsO ks)] : List Cel), True := fun _ _ => trivial
  clear hm15
  refine wpAny_execs_cons ?_
  refine wpAny_Assign_Name (e_call (n_glob H15 (N.g fun mg h => h.2.2.2.2.2.2.2.1) (cw_fn Fn.words (wpAny_items_cons (n_local H15 (.tail _ (.tail _ (List.mem_append_right _ (.tail _ (.tail _ (.head _)))))) rfl (wpAny_items_cons (n_cell H15 rfl (.tail _ (.tail _ (List.mem_append_right _ (.tail _ (.tail _ (.tail _ (.tail _ (.head _)))))))) (wpAny_items_nil ⟨⟨_, H15⟩, ?_⟩))))))))
  refine spec_words (k := k + 3) (nn := Nn + 1) (by (exact Nat.lt_succ_of_le (by assumption))) (by rw [hn]; push_cast; rfl) Fn C AF AS hkp N ok1 H15 (.tail _ (.tail _ (List.mem_append_right _ (.tail _ (.head _))))) hks fun x dx was s16 hwas H16 => ?_
  refine s_cell H16 rfl (.tail (.tail (Upd.app (.tail (.tail (Upd.app (.tail (.tail (.tail .head))) _))) _))) fun s17 H17 => ?_
  have H18 := H17.perm (perm0 _ _ _ _ _ _ _ _ _ _ _ _ _)
  clear H17 H16 H15
  rw [words_eq] at H18
  refine wpAny_execs_cons ?_
  refine wpAny_Assign_Name (e_call (n_blt H18 N (by k_mem) (by rfl) (cw_blt (wpAny_items_cons (n_cell H18 rfl (by k_mem) (wpAny_items_nil ?_))))))
  have hw0 : ∀ p ∈ ws0 (Nn + 1), p.1 ≤ 100 ∧ p.2 ≤ 10 := by
    intro p hp
    obtain ⟨j, hj, rfl⟩ := List.mem_map.mp hp
    have hj := List.mem_range.mp hj
    have : (j + 1) * (Nn + 1 - 1) ≤ 5 * 4 := Nat.mul_le_mul (by lia) (by assumption)
    exact ⟨by dsimp only; (exact Nat.le_trans (by assumption) (by decide)), by dsimp only; lia⟩
  have hz0 : ∀ p ∈ (ws0 (Nn + 1)).map (wS (bk ks)), p.1.length ≤ 1000 ∧ p.2.length ≤ 1000 := by
    intro p hp
    obtain ⟨q, hq, rfl⟩ := List.mem_map.mp hp
    have := hw0 q hq
    have hb := bk_lt ks q.2
    refine ⟨?_, ?_⟩
    · show Array.size _ ≤ _; simp [wS, blanks]; lia
    · show Array.size _ ≤ _; simp [wS, letS]; lia
  have hwb := wsum_bd hz0
  have hw0l : (ws0 (Nn + 1)).length = Nn + 1 := by unfold ws0; rw [List.length_map, List.length_range]
  have hwas' : was.length = ((ws0 (Nn + 1)).map (wS (bk ks))).length := by rw [List.length_map, hw0l]; exact hwas
  rw [List.length_map, hw0l] at hwb
  refine f_len_pile (k := k + 4) (m := sizeM n tn) (n := n) (tn := tn) (ps := (ws0 (Nn + 1)).map (wS (bk ks))) C AL N ok1 H18 (.tail _ (.tail _ (.tail _ (.head _)))) (.tail _ (.tail _ (.tail _ (.tail _ (.head _))))) rfl (by k_mem) (fun c hc => .tail _ (.tail _ (.tail _ (.tail _ (.tail _ (.tail _ (.tail _ (.tail _ (.tail _ (.tail _ (List.mem_append_right _ (List.mem_append_left _ hc)))))))))))) hwas' hz0 (by (clear hN3; lia)) (by lia) fun tw s19 H19 => ?_
  generalize hwh : n + wsum ((ws0 (Nn + 1)).map (wS (bk ks))) = whole
  refine s_local (m' := fun _ => none) H19 .head fun s20 H20 => ?_
  clear H19 H18
  refine wpAny_execs_cons ?_
  refine wpAny_Assign_Name (d_list (B := B) (wpAny_items_nil ⟨_, H20, Nat.zero_le _, fun Dn s21 H21 => s_local (m' := fun _ => none) H21 (.tail .head) fun s22 H22 => ?_⟩))
  refine wpAny_execs_cons ?_
  refine wpAny_Assign_Name (d_list (B := B) (wpAny_items_nil ⟨_, H22, Nat.zero_le _, fun Ds s23 H23 => s_local (m' := fun _ => none) H23 (.tail (.tail .head)) fun s24 H24 => ?_⟩))
  have H25 := (H24.weak (P' := IntsO []) (.tail .head) fun o ho => ⟨_, ho, rfl⟩).perm (perm1 _ _ _ _ _ _ _ _ _ _ _ _ _)
  clear H24 H23 H22 H21 H20
  obtain ⟨nmE, hnl, hrun, hrw, hgr⟩ := hP.run
  rw [hlen] at hrun hnl
  refine wpAny_execs_cons ?_
  refine wpAny_For ?_
  refine e_call (n_blt H25 N (by k_mem) (by rfl) (cw_ty (wpAny_items_cons (e_call (n_blt H25 N (by k_mem) (by rfl) (cw_blt (wpAny_items_cons (n_local H25 (by k_mem) rfl (wpAny_items_nil (f_len_list H25 (by k_mem) (by rw [List.length_map]; lia) fun t26 s26 H26 => wpAny_items_nil (range1 H26 fun r s27 H27 => ?_)))))))))))
  rw [List.length_map, hoas, hlen, show ((sizeT Nn : Nat) : Int) = 0 + ((sizeT Nn : Nat) : Int) by lia] at H27
  refine pyIter_range H27 (by (exact Int.natCast_nonneg _)) (by lia) fun it s28 H28 => ?_
  clear H27 H26 H25
  have hin := rows_in (N := Nn) (ord := ord)
  refine r_for (iter_range ok1.handled) (laR L Dn Ds x dx nD Do n tn ks oas ord) (laK Nn Dn Ds Do n tn whole (sizeT Nn) nmE (rowsM Nn (ord.map swapP))) (x0 := ⟨_, Dl, as, e, rowsM Nn ord, 0, was, ws0 (Nn + 1), [], []⟩) H28 ?_ ?_ ?_
  · refine ⟨⟨rfl, rfl, rfl, rfl, rfl, tw, rfl⟩, ⟨rfl, Nat.zero_le _, hal, by rw [hw0l]; exact hwas, rfl, rfl⟩, ⟨hin.1, ?_⟩, ⟨hw0l, hw0⟩, nmE, hrun, hrw, rfl⟩
    intro row hrow v hv
    have := hin.2 row hrow v hv
    dsimp only
    lia
  · clear H28
    rintro tv js v ⟨m, Dl, as, e, rows, t, was, ws, nm, sg⟩ s1 E1 ⟨tt, hv⟩ ⟨⟨hmn, hmo, hml, hmd, hms, tw', hmw⟩, ⟨hjs, htt, hal, hwl, hsl, hnl2⟩, ⟨hsh, hwi⟩, ⟨hwn, hwb2⟩, rest, hr, hw, hne⟩ H1
    subst hv
    dsimp only at hmn hmo hml hmd hms hmw hjs htt hal hwl hsl hnl2 hsh hwi hwn hwb2 hr hw hne
    have hlt : t < sizeT Nn := by
      rcases Nat.lt_or_ge t (sizeT Nn) with q | q
      · exact q
      · rw [show sizeT Nn - t = 0 by lia] at hjs; cases hjs
    rw [show sizeT Nn - t = (sizeT Nn - (t + 1)) + 1 by lia] at hjs hr
    injection hjs with hj1 hj2
    subst hj1
    obtain ⟨hidx, rest', hrest, hr2⟩ := runR_step hr
    subst hrest
    obtain ⟨p0, p1, hp0, hp1, hk, hk0, hk1, hw2⟩ := runW_step hw
    obtain ⟨hsh2, hwi2, hcN⟩ := slide_in hsh hwi hidx (Nat.le_refl 1) (by (clear hwi; lia))
    refine wpAny_assign_Name (s_local (m' := fun _ => none) H1 (.tail .head) fun s2 H2 => ?_)
    refine wpAny_execs_cons ?_
    refine wpAny_Expr ?_
    refine m_call F.plainAttrs_list F.slot_list_append F.type_list_append (n_local H2 (by k_mem) (by exact hmd) ⟨(H2.isSeq (f := iv) (ss := nm) (l := Dn) (by k_mem)).1, (H2.isSeq (f := iv) (ss := nm) (l := Dn) (by k_mem)).2, ?_⟩) rfl
    refine wpAny_items_cons (e_call (n_glob H2 (N.g fun mg h => h.2.2.2.2.2.2.2.2.2.1) (cw_fn Fn.slide (wpAny_items_cons (n_local H2 (by k_mem) (by exact hmn) (wpAny_items_cons (n_local H2 (by k_mem) (by exact hml) (wpAny_items_nil ⟨⟨_, H2⟩, ?_⟩))))))))
    have H3 := St.sw [_] (P := [_, _, _, _, _, _, _, _, _, _, _, _]) (T := rowC as rows) (H2.front 2)
    refine spec_slide (k := k + 4) (by (exact Nat.zero_lt_of_lt (by assumption))) hN4 hn Fn N ok1 H3 (fun i a ha => ?_) hal hsh hidx fun tc s4 H4 => ?_
    · have hi := (List.getElem?_eq_some_iff.mp ha).1
      rw [List.getElem?_append_left (by rw [List.length_map]; exact hi), List.getElem?_map, ha]; rfl
    generalize hsl2 : slideM Nn rows = sl at *
    obtain ⟨c, rows2⟩ := sl
    dsimp only at H4 hw2 hr2 hw hr hsh2 hwi2 hcN hp0 hp1 hne
    refine wpAny_items_nil (append_ints (ss := nm) H4 (.tail (Upd.app (.tail (.tail (.tail .head))) _)) (Nat.le_trans (by lia) hbig) fun s5 H5 => ?_)
    have H6 := St.sw [_] (P := rowC as rows2) (T := [_, _, _, _, _, _, _, _, _, _, _, _]) H5
    clear H5 H4 H3 H2 H1
    refine wpAny_execs_cons ?_
    refine wpAny_Expr ?_
    refine m_append (B := B) (n_local H6 (by k_mem) (by exact hms) ⟨Ds, _, _, rfl, H6, by k_mem, ?_⟩) rfl
    have hnc : (nm ++ [(c : Int)])[((t : Nat) : Int).toNat]? = some (c : Int) := by
      rw [Int.toNat_natCast, List.getElem?_append_right (by (exact Nat.le_of_eq (by assumption))), hnl2, Nat.sub_self]; rfl
    refine e_call (n_glob H6 (N.g fun mg h => h.2.2.2.2.2.2.2.2.1) (cw_fn Fn.exchange (wpAny_items_cons (n_cell H6 rfl (by k_mem) (wpAny_items_cons (Subscript_ (n_local H6 (by k_mem) (by exact hmd) (n_local H6 (by k_mem) rfl ?_))))))))
    refine sub_ints (ss := nm ++ [(c : Int)]) H6 (by k_mem) (by (exact Int.natCast_nonneg _)) (by lia) hnc fun t7 => wpAny_items_nil ⟨⟨_, H6⟩, ?_⟩
    have H7 := H6.perm (perm2 _ _ _ _ _ _ _ _ _ _ _ _ _ (rowC as rows2) (txtC was (ws.map (wS (bk ks)))) (sgC sg ++ tupC oas ord))
    refine spec_exchange (k := k + 3) Fn C AF N ok1 H7 hwl (by lia) hp0 hp1 hk hk0 hk1 (bk_lt ks) hwb2 fun De was2 s8 hw8 H8 => ?_
    have H9 := H8.perm (perm3 _ _ _ _ _ _ _ _ _ _ _ _ _ _ (rowC as rows2) (txtC was2 ((exM c ws).map (wS (bk ks)))) (sgC sg) (tupC oas ord))
    have esg : sgC sg ++ [(De, IntsO [-1, 1, 0])] = sgC (sg ++ [De]) := by unfold sgC; rw [List.map_append]; rfl
    rw [esg] at H9
    have esg2 : sg.map Value.ref ++ [.ref De] = (sg ++ [De]).map .ref := by simp
    refine ⟨_, _, sg.map .ref, H9, by rw [List.length_map]; exact Nat.le_trans (by lia) hbig, .tail (.tail (.tail (.tail (.tail .head)))), fun s10 H10 => ?_⟩
    rw [esg2] at H10
    clear H9 H8 H7 H6
    have H11 := H10.perm (perm4 _ _ _ _ _ _ _ _ _ _ _ _ _ (rowC as rows2) (txtC was2 ((exM c ws).map (wS (bk ks))) ++ (sgC (sg ++ [De]) ++ tupC oas ord)))
    rw [← seq_page as e rows2 (1 + t) (by rw [hal, hsh2.1]), show as.map Value.ref ++ [.ref e] = (as ++ [e]).map .ref by simp] at H11
    have hll := lines_len (d := 1 + t) hsh2 hN4
    have hsho := short_lines (d := 1 + t) hwi2 (by (clear hwi hwi2; lia)) (by (clear H10 H11 hll; lia))
    refine wpAny_execs_cons ?_
    refine wpAny_Assign_Name ?_
    refine e_call (n_glob H11 (N.g fun mg h => h.2.2.2.2.2.2.2.2.2.2.2.1) (cw_fn Fn.cut (wpAny_items_cons (n_local H11 (.tail _ (List.mem_append_right _ (.tail _ (.head _)))) (by exact hmn) ?_))))
    refine wpAny_items_cons ?_
    refine m_call F.plainAttrs_str F.slot_str_split F.type_str_split ?_ rfl
    refine e_call (n_glob H11 (N.g fun mg h => h.2.2.2.1) (cw_fn Fn.quote ?_))
    refine wpAny_items_cons ?_
    refine e_call (n_glob H11 (N.g fun mg h => h.2.2.2.2.2.2.2.2.2.2.1) (cw_fn Fn.mail ?_))
    refine wpAny_items_cons (n_local H11 (.tail _ (List.mem_append_right _ (.tail _ (.head _)))) (by exact hml) ?_)
    refine wpAny_items_cons (n_local H11 (.tail _ (List.mem_append_right _ (.tail _ (.head _)))) rfl (wpAny_items_nil ⟨⟨_, H11⟩, ?_⟩))
    refine spec_mail (k := k + 4) Fn N ok1 H11 ?_ (by lia) (by lia) (fun r hr => Nat.le_trans (hsho r hr) (by (exact Nat.le_add_left _ _))) (by lia) fun t12 s12 H12 => ?_
    · unfold linesS
      rw [List.length_append, List.length_append, List.length_map, hal, hsh2.1]; rfl
    have hml2 := mail_len (turn := t) hsho (by lia) hll.2
    refine wpAny_items_nil ⟨⟨_, H12⟩, ?_⟩
    refine spec_quote (k := k + 6) Fn N Pt ok1 H12 (Nat.le_trans hml2 (by (exact Nat.le_add_left _ _))) fun t13 s13 H13 => ?_
    refine ⟨typeIs_str _ _ _, (fun a e => by cases e), ?_⟩
    have hback := mail_back (turn := t) hwi2 (show 1 ≤ 1 + t by (exact Nat.le_add_right _ _))
    have hmo2 := more_in hsh2 hwi2
    have hll3 := lines_len (d := 1 + t + 1) hmo2.1 hN4
    have hsho3 := short_lines (d := 1 + t + 1) hmo2.2 (by (clear hwi hwi2 hmo2; lia)) (by (clear H10 H11 hll hsho H12 hml2 H13 hback hll3; lia))
    refine wpAny_items_cons (c_str H13 fun t14 s14 H14 => wpAny_items_nil (f_split (rows := (linesS (moreM rows2) (1 + t + 1)).flatten) H14 ?_ (by (clear H10 H11 hll hsho H12 hml2 H13 hback; lia)) (by (clear H10 H11 hll hsho H12 hml2 H13 hback; lia)) ?_ (fun r hr h13 => (plain_lines r hr 13 h13).2 rfl) fun D0 s15 H15 => ?_))
    · rw [hback]
      show Array.size _ ≤ _
      rw [List.size_toArray]
      have := joinL_len (c := 101) ((linesS (moreM rows2) (1 + t + 1)).flatten.map (·.cps.toList)) (fun r hr => by
        obtain ⟨x, hx, rfl⟩ := List.mem_map.mp hr
        have := hsho3 x hx
        show x.cps.toList.length ≤ 101
        rw [Array.length_toList]; exact this)
      rw [List.length_map] at this
      have h19 : (linesS (moreM rows2) (1 + t + 1)).flatten.length * (101 + 2) ≤ 19 * 103 := Nat.mul_le_mul_right _ hll3.2
      (clear H10 H11 hll hsho H12 hml2 H13 hback; lia)
    · rw [← hback]
    refine wpAny_items_cons (n_local H15 (.tail _ (.tail _ (List.mem_append_right _ (.tail _ (.head _))))) rfl (wpAny_items_nil ⟨⟨_, H15⟩, ?_⟩))
    refine spec_cut (k := k + 4) hN hn Fn N ok1 H15 (by (clear H10 H11 hll hsho H12 hml2 H13 hback; lia)) fun D ra s16 hra H16 => ?_
    rw [cut_lines hmo2.1] at hra H16
    refine s_local (m' := fun _ => none) H16 (.tail (Upd.app (.tail (Upd.app (.tail .head) _)) _)) fun s17 H17 => ?_
    obtain ⟨as3, e3, rfl, hal3⟩ : ∃ as3 e3, ra = as3 ++ [e3] ∧ as3.length = Nn := by
      have hl : ra.length = Nn + 1 := by
        rw [hra]; unfold linesS
        rw [List.length_append, List.length_map, hmo2.1.1]; rfl
      refine ⟨ra.dropLast, ra.getLast (by intro e; rw [e] at hl; cases hl), (List.dropLast_concat_getLast _).symm, by rw [List.length_dropLast, hl]; rfl⟩
    rw [seq_page as3 e3 _ _ (by rw [hal3, hmo2.1.1])] at H17
    have H18 := H17.perm (perm5 _ _ _ _ _ _ _ _ _ _ _ _ _ _ (rowC as3 (moreM rows2)) (seqC sv (as ++ [e]) (linesS rows2 (1 + t))) (txtC was2 ((exM c ws).map (wS (bk ks))) ++ (sgC (sg ++ [De]) ++ tupC oas ord)))
    have H19 := H18.sub ((List.sublist_append_right _ _).trans (List.sublist_cons_self _ _))
    rw [show (as3 ++ [e3]).map Value.ref = as3.map Value.ref ++ [.ref e3] by simp] at H19
    have hexi := ex_in (a := 100) (b := 10) (c := c) (ws := ws) (by have := (List.getElem?_eq_some_iff.mp hp1).1; assumption) hwb2
    refine wpAny_execs_nil ⟨rfl, ⟨_, D, as3, e3, moreM rows2, t + 1, was2, exM c ws, nm ++ [(c : Int)], sg ++ [De]⟩, ⟨⟨by exact hmn, by exact hmo, rfl, by exact hmd, by exact hms, tw', by exact hmw⟩, ⟨?_, by dsimp only; assumption, hal3, hw8, by simp [hsl], by simp [hnl2]⟩, ⟨hmo2.1, ?_⟩, ⟨by dsimp only; rw [hexi.1, hwn], hexi.2⟩, rest', ?_, hw2, ?_⟩, H19⟩
    · dsimp only
      rw [hj2]
      push_cast
      rfl
    · dsimp only
      intro row hrow v hv
      have := hmo2.2 row hrow v hv
      (clear ok h ok1 hbig hks hn hN4 hN3 htot hwas hw0 hz0 hwb hw0l hwas' hwh hrw hin htt hwi hwn hwb2 hlt hj2 hidx hk hk0 hk1 hr hwi2 hsho hml2 hback hmo2 hll3 hsho3 H15 hra H16 H17 H18 H19 hexi; lia)
    · dsimp only; exact hr2
    · dsimp only
      rw [hne]; simp
  · clear H28
    rintro ⟨m, Dl, as, e, rows, t, was, ws, nm, sg⟩ s1 ⟨⟨hmn, hmo, hml, hmd, hms, tw', hmw⟩, ⟨hjs, htt, hal, hwl, hsl, hnl2⟩, ⟨hsh, hwi⟩, ⟨hwn, hwb2⟩, rest, hr, hw, hne⟩ H1
    dsimp only at hmn hmo hml hmd hms hmw hjs htt hal hwl hsl hnl2 hsh hwi hwn hwb2 hr hw hne
    have hte : t = sizeT Nn := by
      rcases Nat.lt_or_ge t (sizeT Nn) with q | q
      · rw [show sizeT Nn - t = (sizeT Nn - t - 1) + 1 by lia] at hjs; cases hjs
      · (exact Nat.le_antisymm (by assumption) (by assumption))
    rw [hte, Nat.sub_self] at hr
    have hr : ([], rows) = (rest, rowsM Nn (ord.map swapP)) := Option.some.inj hr
    injection hr with hr1 hr2
    subst hr1 hr2
    have hw : ws = wsE (Nn + 1) := Option.some.inj hw
    subst hw
    rw [List.map_nil, List.append_nil] at hne
    have hlw : (wsE (Nn + 1)).length = Nn + 1 := hwn
    have H2 : St B _ s1 := St.perm H1 (perm7 _ _ _ _ _ _ _ _ _ _ _ _ _)
    refine law_told (k := k) (n := n) (tn := tn) hN4 hn N ok1 hks H2 hmn fun Dt tas s3 htas H3 => ?_
    refine wpAny_execs_cons ?_
    refine wpAny_Assign_Name (e_call (n_blt H3 N (by k_mem) (by rfl) (cw_blt (wpAny_items_cons (n_cell H3 rfl (.tail _ (.tail _ (.head _))) (wpAny_items_nil ?_))))))
    have hzE : ∀ p ∈ (wsE (Nn + 1)).map (wS (bk ks)), p.1.length ≤ 1000 ∧ p.2.length ≤ 1000 := by
      intro p hp
      obtain ⟨q, hq, rfl⟩ := List.mem_map.mp hp
      have := hwb2 q hq
      have hb := bk_lt ks q.2
      refine ⟨?_, ?_⟩
      · show Array.size _ ≤ _; simp [wS, blanks]; lia
      · show Array.size _ ≤ _; simp [wS, letS]; lia
    have hwbE := wsum_bd hzE
    rw [List.length_map, hlw] at hwbE
    have up : ∀ (c : Cel) (c1 c2 c3 c4 c5 c6 c7 c8 c9 c10 c11 c12 c13 : Cel) (W T : List Cel), c ∈ T → c ∈ c1 :: c2 :: c3 :: c4 :: c5 :: (W ++ (c6 :: c7 :: c8 :: c9 :: c10 :: c11 :: c12 :: c13 :: T)) := fun c _ _ _ _ _ _ _ _ _ _ _ _ _ W T hc =>
      .tail _ (.tail _ (.tail _ (.tail _ (.tail _ (List.mem_append_right _ (.tail _ (.tail _ (.tail _ (.tail _ (.tail _ (.tail _ (.tail _ (.tail _ hc)))))))))))))
    refine f_len_pile (k := k + 4) (m := sizeM n tn) (n := n) (tn := tn) (ps := (wsE (Nn + 1)).map (wS (bk ks))) C AL N ok1 H3 (.tail _ (.tail _ (.tail _ (.tail _ (.tail _ (List.mem_append_right _ (.tail _ (.tail _ (.tail _ (.tail _ (.head _)))))))))))
      (.tail _ (.tail _ (.tail _ (.tail _ (.tail _ (List.mem_append_right _ (.tail _ (.tail _ (.tail _ (.tail _ (.tail _ (.head _)))))))))))) rfl (.tail _ (.tail _ (.tail _ (.tail _ (.tail _ (List.mem_append_right _ (.tail _ (.tail _ (.tail _ (.tail _ (.tail _ (.tail _ (.tail _ (.head _))))))))))))))
      (fun c hc => up _ _ _ _ _ _ _ _ _ _ _ _ _ _ _ _ (List.mem_append_right _ (List.mem_append_left _ hc))) (by rw [List.length_map]; exact hwl) hzE (by (clear hN3; lia)) (by lia) fun tz s4 H4 => ?_
    refine s_local (m' := fun _ => none) H4 (.tail .head) fun s5 H5 => ?_
    have H6 := H5.perm (perm8 _ _ _ _ _ _ _ _ _ _ _ _ _ _ _)
    clear H5 H4 H3 H2 H1
    refine law_off (k := k) (n := n) (tn := tn) hN4 hn C AF AS N ok1 (by rw [hwl]; exact hlw) H6 (by exact hmn) fun Df a0 s7 H7 => ?_
    have H8 := (H7.perm (perm9 _ _ _ _ _ _ _ _ _ _ _ _ _ _ _ (txtC tas ((toldM (Nn + 1)).map (wS (bk ks)))) (rowC as (rowsM Nn (ord.map swapP))) (txtC was ((wsE (Nn + 1)).map (wS (bk ks)))) (sgC sg) (tupC oas ord))).drop 5
    subst hte
    have hfi : ∃ y : Fi, FiOk y ∧ y.L = L ∧ St B (fiR y) s7 := by
      refine ⟨⟨L, Df, Dt, Dl, e, Dn, Ds, Do, a0, _, as, was, tas, sg, oas, n, Nn, sizeT Nn, ord, ks, nm, n + wsum ((wsE (Nn + 1)).map (wS (bk ks))), whole⟩, ?_, rfl, H8⟩
      refine FiOk.mk hN hn ⟨tn, ?_⟩ ?_ ?_ ?_ ?_ rfl rfl ⟨tz, rfl⟩ ⟨tw', ?_⟩ hal ?_ htas hsl hoas hlen htot hP.hallS ?_ ?_ rfl hwh.symm
      · exact hmn
      · exact hmo
      · exact hml
      · exact hmd
      · exact hms
      · exact hmw
      · dsimp only; rw [hwl]; exact hlw
      · dsimp only; rw [← hne, List.length_map]; exact hgr
      · dsimp only; lia
    obtain ⟨y, hy, hyL, H9⟩ := hfi
    rw [← hyL] at ok1 ⊢
    refine law_ret (k := k) hy Fn N ok1 H9 fun s9 H10 => h s9 (H10.sub (List.singleton_sublist.mpr ?_))
    exact f_mem (List.mem_append_right _ (List.mem_append_right _ (List.mem_append_right _ (List.mem_append_right _ (List.mem_append_right _ (.head _))))))
theorem all_ (x : X) : T x := Classical.byContradiction fun hn => Classical.epsilon_spec (p := fun x => ¬ T x) ⟨x, hn⟩ at_
end WaD
section
variable {prog : Program} {w : World} {M : Model} {A : Around} {E : Value → Shared → Prop} {B s : Shared} {cs cs' : List Cel} {env : Env} {Q : Value → Shared → Prop} {K : Frag}
theorem law_walk {fa l : Addr} {vs : List Value} {ns : List Int} {k : Nat} (Fn : Fns B) (C : Acc B K) (AF : AccF B) (AS : AccS prog B) (AL : AccL B) (hkp : keepIn K (.ref 118) = true) (N : Names B) (Pt : Pats B) (ok : Ok A (k + 8)) (H : St B [(80, TabO)] s) (hF : FnAt B.heap fa (fdOf (stOf 25) "law" [] .none)) (hl : B.heap.IsList l vs.toArray) (hi : IntsAre vs ns) (hz : vs.length ≤ 63) (h : ∀ s', St B [(80, TabO)] s' → Q (.bool true) s') :
    wpAny (model prog w) A (call (.ref fa) [.ref l]) Q E s := by
  refine call_fnC (binds := [(Str.ofString "script", .ref l)]) (m := fun x => if x = Str.ofString "script" then some (.ref l) else none) (cl := fun L => [(Str.ofString "words", L + 2), (Str.ofString "numbers", L + 1)])
    (cels := fun L => [(L + 2, CellO none), (L + 1, CellO none)]) hF (fun _ _ _ => rfl) ok N H (fun _ _ _ => rfl) (fun _ => rfl) (fun _ _ _ => rfl) (fun _ _ _ => rfl) ?_
  intro L cd s1 E' ok1 H1
  exact WaD.all_ ⟨prog, w, A, E, B, [], Q, K, fa, l, vs, ns, k, L, cd, s1, E'⟩ Fn C AF AS AL hkp N Pt ok hl hi hz h ok1 H1

end
end Mine
end
section
set_option maxRecDepth 100000
namespace Mine
open PySem PySem.Calls PyProof.Rows PySem.W PySem.SeqAt Builtin

noncomputable abbrev less (K : Frag) : Frag := K.filter fun p => p.1 != 80
theorem lookup_less : ∀ {K : Frag} {a : Addr} {o : Obj}, (less K).lookup a = some o → K.lookup a = some o ∧ a ≠ 80
  | [], _, _, h => by cases h
  | (b, x) :: r, a, o, h => by
    by_cases hb : b = 80
    · subst hb
      have h' : (less r).lookup a = some o := h
      obtain ⟨h1, h2⟩ := lookup_less h'
      refine ⟨?_, h2⟩
      rw [List.lookup_cons, (by simpa using h2 : (a == 80) = false)]; exact h1
    · have e : less ((b, x) :: r) = (b, x) :: less r := List.filter_cons_of_pos (by simpa using hb)
      rw [e, List.lookup_cons] at h
      rw [List.lookup_cons]
      cases q : (a == b) with
      | true =>
        rw [q] at h
        exact ⟨h, by rw [beq_iff_eq.mp q]; exact hb⟩
      | false => rw [q] at h; exact lookup_less h
theorem hid_in {K : Frag} {s : Shared} (X : K.In s.heap) : (less K).In (hid s [80]).heap := fun a o e =>
  let ⟨e1, e2⟩ := lookup_less e; hid_get (X a o e1) (by simpa using e2)
theorem hid_ns {s : Shared} {a : Addr} {m : Str → Option Value} (x : s.heap.Ns a m) (h : a ∉ [80]) : (hid s [80]).heap.Ns a m :=
  let ⟨o, es, ep, e, r⟩ := x; ⟨o, es, ep, hid_get e h, r⟩
theorem hid_lim {s : Shared} (x : s.heap.NoLimit) : (hid s [80]).heap.NoLimit := let ⟨mc, a, b⟩ := x; ⟨mc, hid_ns a (by decide), b⟩
theorem hid_bmod {s : Shared} {mg : Str → Option Value} {bm : Addr} {ob : Obj} {d : Data} (x : BMod s.heap mainGlobals mg bm ob) (h : s.heap.get? 80 = some { cls := .none, data := d }) : BMod (hid s [80]).heap mainGlobals mg bm ob :=
  ⟨hid_ns x.ns (by decide), x.name, x.ne, hid_get x.obj (fun q => by
    have e := x.obj
    rw [List.mem_singleton.mp q, h] at e
    have c := x.cls
    cases e
    cases c), x.cls, x.dict, x.data⟩
theorem hid_list {s : Shared} {l : Addr} {vs : Array Value} {d : Data} (x : s.heap.IsList l vs) (h : s.heap.get? 80 = some { cls := .none, data := d }) : (hid s [80]).heap.IsList l vs := by
  obtain ⟨o, e, c, r⟩ := x
  refine ⟨o, hid_get e fun q => ?_, c, r⟩
  rw [List.mem_singleton.mp q, h] at e
  cases e; cases c
theorem st_start {s : Shared} (h : s.heap.get? 80 = some { cls := .none, data := .fields #[] }) (hg : s.gens = #[]) : St (hid s [80]) [(80, TabO)] s :=
  ⟨fun _ _ e => of_hid e, by simp, fun c hc => by rw [List.mem_singleton.mp hc]; exact ⟨hid_none (.head _), _, h, #[], rfl, trivial⟩, rfl, AllBare.of_eq hg, fun _ _ e => e⟩
theorem old_end {s s' : Shared} (H : St (hid s [80]) [(80, TabO)] s') (h : s.heap.get? 80 = some { cls := .none, data := .fields #[] }) (ht : isCodeTable s.heap 80) : OldK s.heap s'.heap := by
  obtain ⟨_, _, ho, ps, rfl, _⟩ := H.own _ (.head _)
  refine ⟨fun b o e => ?_, fun b o e => ?_⟩
  · by_cases hb : b = 80
    · subst hb
      rw [h] at e
      cases e
      exact .inr (.inl ⟨ht, rfl, #[], ps, rfl, by rw [ho]; simp⟩)
    · exact .inl (H.keep b o (hid_get e (by simpa using hb)))
  · by_cases hb : b = 80
    · subst hb; exact ⟨_, ho⟩
    · exact ⟨o, H.keep b o (hid_get e (by simpa using hb))⟩
theorem fnAt_of {K : Frag} {s : Shared} (X : K.In s.heap) {a : Addr} {o : Obj} {pm cd ct : Value} {F : Value → Value → Value → FuncData} (e : K.lookup a = some o) (d : o.data = .func (F pm cd ct)) (n : a ∉ [80])
    (c : codeIn (less K) cd (F pm cd ct).qualname = true) : FnAt (hid s [80]).heap a F := ⟨o, pm, cd, ct, hid_get (X _ _ e) n, d, codeRec_of (hid_in X) c⟩
end Mine
end
section
open PySem PySem.W PyProof.Rows
set_option maxRecDepth 100000 in
set_option maxHeartbeats 8000000 in
theorem PySem.Challenge.cw_xj0009_01_holds : PySem.Challenge.rw_xj0009_01.Holds := by
  w_on
  refine holds_law (by kernel_rfl) fun said => ?_
  x_head
  (case hw => w_witness2)
  intro w s₀ s₁ mg mb G Y fa o pm cd doc dV kV ho hd hcd hD hmg hg args vals as hpre hlay hrd hwl hlo
  have KX := kIn_of Y
  refine Ground.open G ?_
  intro T B D TE TW
  clear D B TE TW
  obtain ⟨_, _, M⟩ := bmod_of_top T
  clear hcd hD ho hd
  wrow_args hpre hlay hrd hwl hlo
  clear Y G
  rename_i hL hI hcond hcond2
  have h80 := KX 80 _ (by kernel_rfl : _ = some { cls := .none, data := .fields #[] })
  have hfa : fa = 216 := by
    have e := mg_of KX T.g (n := Str.ofString "law") (v := .ref 216) (by kernel_rfl)
    have e2 := hmg
    rw [e] at e2
    cases e2
    rfl
  subst hfa
  have X := Mine.hid_in KX
  have hN : ∀ x ∈ (["sum", "range", "len", "chr", "ord", "min", "isinstance", "bool", "list", "super"] : List Str), mg x = none := by
    repeat (refine List.forall_mem_cons.mpr ⟨mg_none_of KX T.g (by kernel_rfl), ?_⟩)
    exact fun _ h => nomatch h
  have hM : ∀ x ∈ (["sum", "range", "len", "chr", "ord", "min", "isinstance", "bool", "list", "super"] : List Str), mb x = bootBuiltins x := by
    repeat (refine List.forall_mem_cons.mpr ⟨T.builtins _ (by decide), ?_⟩)
    exact fun _ h => nomatch h
  have N : Mine.Names (Mine.hid s₁ [80]) := ⟨⟨mg, Mine.hid_ns T.g (by decide), mg_of KX T.g (by kernel_rfl), mg_of KX T.g (by kernel_rfl), mg_of KX T.g (by kernel_rfl), mg_of KX T.g (by kernel_rfl), mg_of KX T.g (by kernel_rfl), mg_of KX T.g (by kernel_rfl), mg_of KX T.g (by kernel_rfl), mg_of KX T.g (by kernel_rfl), mg_of KX T.g (by kernel_rfl), mg_of KX T.g (by kernel_rfl), mg_of KX T.g (by kernel_rfl), mg_of KX T.g (by kernel_rfl), mg_of KX T.g (by kernel_rfl), mg_of KX T.g (by kernel_rfl), mg_of KX T.g (by kernel_rfl), mg_of KX T.g (by kernel_rfl), ⟨480, mg_of KX T.g (by kernel_rfl)⟩, ⟨399, mg_of KX T.g (by kernel_rfl)⟩, hN⟩, ⟨mb, Mine.hid_ns T.b (by decide), hM⟩, Mine.hid_lim T.nolimit⟩
  have Fn : Mine.Fns (Mine.hid s₁ [80]) := by
    constructor
    all_goals exact Mine.fnAt_of KX rfl rfl (by decide) (by kernel_rfl)
  have hF : Mine.FnAt (Mine.hid s₁ [80]).heap 216 (Mine.fdOf (Mine.stOf 25) "law" [] .none) := Mine.fnAt_of KX rfl rfl (by decide) (by kernel_rfl)
  have C := Mine.Acc.mk X (by kernel_rfl) (by kernel_rfl) (by kernel_rfl) (by kernel_rfl) (by kernel_rfl) (by kernel_rfl) (by kernel_rfl) (by kernel_rfl) (by kernel_rfl) (by kernel_rfl) (by kernel_rfl) (by kernel_rfl) (by kernel_rfl) (by kernel_rfl) (by kernel_rfl) (by kernel_rfl) ⟨_, rfl, rfl, rfl, rfl, rfl, rfl⟩ (by kernel_rfl) (by kernel_rfl) (by kernel_rfl) (by kernel_rfl) (by kernel_rfl) ⟨_, _, _, _, rfl, rfl, rfl, rfl, rfl⟩ (by kernel_rfl) (by kernel_rfl) (by kernel_rfl) (by kernel_rfl) (by kernel_rfl) (by (repeat (refine List.forall_mem_cons.mpr ⟨by kernel_rfl, ?_⟩)); exact fun _ h => nomatch h)
  have AF : Mine.AccF (Mine.hid s₁ [80]) := by
    constructor
    rotate_right 3
    · exact ⟨_, Mine.hid_get (KX _ _ rfl) (by decide), rfl⟩
    · exact ⟨_, _, _, Mine.hid_get (KX _ _ rfl) (by decide), rfl⟩
    · exact ⟨_, _, _, Mine.hid_get (KX _ _ rfl) (by decide), rfl⟩
    all_goals exact Mine.fnAt_of KX rfl rfl (by decide) (by kernel_rfl)
  have AS : Mine.AccS PySem.Challenge.rw_xj0009_01.row.prog (Mine.hid s₁ [80]) := by
    constructor
    rotate_right 1
    · kernel_rfl
    all_goals exact ⟨_, _, _, _, _, _, _, _, Mine.hid_get (KX _ _ rfl) (by decide), rfl, codeRec_of X (by kernel_rfl), Mine.hid_get (KX _ _ rfl) (by decide), rfl, rfl, by kernel_rfl⟩
  have AL : Mine.AccL (Mine.hid s₁ [80]) := by
    refine ⟨⟨_, _, _, Mine.hid_get (KX _ _ rfl) (by decide), rfl, codeRec_of X (by kernel_rfl)⟩, ⟨_, _, _, _, _, _, _, _, _, Mine.hid_get (KX _ _ rfl) (by decide), rfl, rfl, rfl, rfl, rfl, rfl, rfl, rfl⟩, ⟨_, _, _, Mine.hid_bmod M h80⟩⟩
  have Pt : Mine.Pats (Mine.hid s₁ [80]) := by
    constructor
    all_goals exact ⟨_, _, _, _, _, _, _, _, _, _, _, Mine.hid_get (KX _ _ rfl) (by decide), rfl, rfl, rfl, ⟨_, Mine.hid_get (KX _ _ rfl) (by decide), rfl⟩, by kernel_rfl⟩
  have ht : isCodeTable s₁.heap 80 := ⟨84, _, _, KX _ _ rfl, rfl, rfl, rfl⟩
  refine Mine.law_walk (k := 0) Fn C AF AS AL (by kernel_rfl) N Pt ⟨by decide, by decide, rfl, _, rfl⟩ (Mine.st_start h80 hg) hF (Mine.hid_list (by assumption) h80) (by assumption) (by have := IntsAre.length (by assumption); lia) fun s' H => ?_
  exact ⟨.inl ⟨.bool true, .bool true, [], rfl, raisesW_false (by wrow_none_raised), ReadsW.bool _, postW_of (by wrow_shape) (by wtm_val) (by str_meet; first | done | w_fin), unshared_nil⟩, Mine.old_end H h80 ht, H.os, H.gens⟩
end
