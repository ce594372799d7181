import PyProof.Rows.All
import Wide.All
import OpenK.AllK
import Wide.FinOn
import PySem.Challenge.RW_eu0031_01
set_option Elab.async false

section
open PySem PySem.W PyProof.Rows
namespace Mine
set_option maxRecDepth 100000 in
set_option maxHeartbeats 8000000 in
open_top hd for PySem.Challenge.rw_eu0031_01
end Mine
end

section
open PySem PySem.W PyProof.Rows PySem.Calls
set_option maxRecDepth 100000
namespace Mine
def Stop (P : Prop) : Prop := P
theorem stop {P : Prop} (h : Stop P) : P := h

/-- a def of the text is entered; the objects named are put on the ledger, all else is the ground -/
theorem code_raw {prog : Program} {w : World} {A : Around} {s : Shared} {R : Result → Shared → Prop} {name qual : Str} {params : Arguments} {body : List Stmt} {scope : Scope} {cl : List (Str × Addr)} {dV kV doc pm cdv ct : Value} {an : Option Addr} {fo : Obj} {f : Addr} {args : Args} {binds : List (Str × Value)}
    (as : List Addr) (news : List (Addr × Obj)) (has : news.map (·.1) = as) (hn : ∀ p ∈ news, s.heap.get? p.1 = some p.2) (hlim : s.heap.NoLimit)
    (ho : s.heap.get? f = some fo) (hd : fo.data = .func (fnX name qual params body scope cl dV kV doc pm an cdv ct)) (hcd : s.heap.CodeRec cdv qual) (hroom : A.depth < recursionLimit)
    (hbind : BindsTo s (fnX name qual params body scope cl dV kV doc pm an cdv ct) args binds) (hloc : ∀ y ∈ binds, scope.names.lookup y.1 = some .local)
    (hcell : ∀ x ∈ scope.names, x.2 ≠ .cell)
    (h : ∀ h₁, Fr (hideAll s.heap as) s.heap.objs.size h₁ (fun y => binds.reverse.lookup y) → News (hideAll s.heap as) s.heap.objs.size h₁ news →
      wpAny (model prog w) (A.deeper (envX qual scope s.heap.objs.size f cdv cl)) (execs body (envX qual scope s.heap.objs.size f cdv cl))
        (fun fl s' => R (.ok (.ret (match fl with | .ret v => v | _ => .none))) s')
        (fun e s' => wpAny (model prog w) (A.deeper (envX qual scope s.heap.objs.size f cdv cl)) (leaving (envX qual scope s.heap.objs.size f cdv cl) e) (fun _ s'' => R (.error e) s'') (fun e' s'' => R (.error e') s'') s')
        { s with heap := h₁, toks := s.toks + binds.length })
    (hco : scope.isCoroutine = false := by rfl) (hgen : scope.isGenerator = false := by rfl) (hk : scope.kind = .function := by rfl) : codeAny (model prog w) A (.call (.ref f) args) R s := by
  subst has
  refine codeAny_call_def (fd := fnX name qual params body scope cl dV kV doc pm an cdv ct) (body := body) (binds := binds) hroom ho hd hlim hcd rfl hbind hcell hloc (fun h₁ hns hk₁ => ?_) hco hgen hk
  refine h h₁ ⟨hns, fun b o e => hk₁ b o (of_hideAll _ e), Nat.le_of_eq (hideAll_size _ _)⟩ fun p hp => ?_
  exact ⟨hk₁ _ _ (hn p hp), Nat.ne_of_lt (Heap.lt_size (hn p hp)), hideAll_none _ (List.mem_map_of_mem hp)⟩

theorem stays_hideAll {h₀ h : Heap} (keep : ∀ b o, h₀.get? b = some o → h.get? b = some o) {as : List Addr} (ha : ∀ a ∈ as, h₀.get? a = none) : h₀.StaysIn (hideAll h as) :=
  fun b o e => hideAll_get _ (keep b o e) fun q => by rw [ha b q] at e; cases e
theorem extBut_of {h h' : Heap} {a L : Addr} {m : Str → Option Value} (F : Fr (hideAll h [a]) L h' m) : Heap.ExtBut a h h' :=
  fun b o hb e => F.keep b o (hideAll_get [a] e (by simpa using hb))
theorem fm_lo (x : Int) {m : Int} (h : 2 ≤ m ∧ m ≤ 8) : 0 ≤ x.fmod m := by
  rw [Int.fmod_eq_emod_of_nonneg _ (by omega)]; exact Int.emod_nonneg _ (by omega)
theorem fm_hi (x : Int) {m : Int} (h : 2 ≤ m ∧ m ≤ 8) : x.fmod m < m := by
  rw [Int.fmod_eq_emod_of_nonneg _ (by omega)]; exact Int.emod_lt_of_pos _ (by omega)
end Mine
end

section
open PySem PySem.W PyProof.Rows PySem.Calls
set_option maxRecDepth 100000
namespace Mine
/-- as code_raw, for a def that has cells -/
theorem code_rawC {prog : Program} {w : World} {A : Around} {s : Shared} {R : Result → Shared → Prop} {name qual : Str} {params : Arguments} {body : List Stmt} {scope : Scope} {dV kV doc pm cdv ct : Value} {an : Option Addr} {fo : Obj} {f : Addr} {args : Args} {binds : List (Str × Value)}
    (as : List Addr) (news : List (Addr × Obj)) (has : news.map (·.1) = as) (hn : ∀ p ∈ news, s.heap.get? p.1 = some p.2) (hlim : s.heap.NoLimit)
    (ho : s.heap.get? f = some fo) (hd : fo.data = .func (fnX name qual params body scope [] dV kV doc pm an cdv ct)) (hcd : s.heap.CodeRec cdv qual) (hroom : A.depth < recursionLimit)
    (hbind : BindsTo s (fnX name qual params body scope [] dV kV doc pm an cdv ct) args binds)
    (hkind : (binds.all fun y => scope.names.lookup y.1 == some .local || scope.names.lookup y.1 == some .cell) = true)
    (hnd : ((cellsFrom 0 scope.names []).map (·.1)).Nodup)
    (h : ∀ h₁ tk cells, Fr (hideAll s.heap as) s.heap.objs.size h₁ (bindL (envOfC qual scope s.heap.objs.size f cdv).kindOf binds fun _ => none) → News (hideAll s.heap as) s.heap.objs.size h₁ (cells ++ news) →
      CellsAre (bindC (envOfC qual scope s.heap.objs.size f cdv).kindOf binds fun _ => none) (cellsFrom (s.heap.objs.size + 1) scope.names []) cells →
      wpAny (model prog w) (A.deeper (envOfC qual scope s.heap.objs.size f cdv)) (execs body (envOfC qual scope s.heap.objs.size f cdv))
        (fun fl s' => R (.ok (.ret (match fl with | .ret v => v | _ => .none))) s')
        (fun e s' => wpAny (model prog w) (A.deeper (envOfC qual scope s.heap.objs.size f cdv)) (leaving (envOfC qual scope s.heap.objs.size f cdv) e) (fun _ s'' => R (.error e) s'') (fun e' s'' => R (.error e') s'') s')
        { s with heap := h₁, toks := tk })
    (hco : scope.isCoroutine = false := by rfl) (hgen : scope.isGenerator = false := by rfl) (hk : scope.kind = .function := by rfl) : codeAny (model prog w) A (.call (.ref f) args) R s := by
  subst has
  refine codeAny_call_function hroom ho hd hco hgen rfl hcd (hbind _ _ _ _ ?_)
  refine wpAny_newFunctionEnv_cells hk (kindsX hkind _) fun env' he s' x => ?_
  subst he
  refine ⟨hlim.keeps x.toInCall.keep, codeAny_func ?_⟩
  obtain ⟨h₁, tk, rfl, _⟩ := x.done
  have hk₁ := x.toInCall.keep
  obtain ⟨cells, NC, Y⟩ := Cl.news (h₀ := s.heap) (Nat.le_refl _) fun n c hm => ⟨x.cell n c (lookup_of_mem_nodup (cellsFrom_names scope.names 0 (s.heap.objs.size + 1) [] [] rfl ▸ hnd) hm), x.above n c hm⟩
  refine h h₁ tk cells ⟨x.toInCall.ns, fun b o e => hk₁ b o (of_hideAll _ e), Nat.le_of_eq (hideAll_size _ _)⟩ (fun p hp => ?_) Y
  rcases List.mem_append.mp hp with hp | hp
  · refine ⟨(NC p hp).1, (NC p hp).2.1, ?_⟩
    cases q : (hideAll s.heap (news.map (·.1))).get? p.1 with
    | none => rfl
    | some o => have := of_hideAll _ q; rw [(NC p hp).2.2] at this; cases this
  · exact ⟨hk₁ _ _ (hn p hp), Nat.ne_of_lt (Heap.lt_size (hn p hp)), hideAll_none _ (List.mem_map_of_mem hp)⟩
end Mine
end

section
open PySem PySem.W PyProof.Rows PySem.Calls
set_option maxRecDepth 100000
namespace Mine

/-- the int of a key -/
def keyI (v : Value) : Int := match v with
  | .int k _ => k
  | _ => 0
/-- an entry of the law's: a small int key, a small int value -/
def GE (e : DictEntry) : Prop := ∃ k t v u, 0 ≤ k ∧ k < 4 ∧ 0 ≤ v ∧ v < 5 ∧ e = ⟨hashInt k, .int k t, .int v u⟩
/-- the entries of a law's dict -/
def Good (es : List DictEntry) : Prop := (∀ e ∈ es, GE e) ∧ (es.map fun e => keyI e.key).Nodup

def mput (es : List DictEntry) (e : DictEntry) : List DictEntry :=
  if es.any (fun x => decide (keyI x.key = keyI e.key)) then es.map (fun x => if keyI x.key = keyI e.key then { x with val := e.val } else x) else es ++ [e]
def mrg (a b : List DictEntry) : List DictEntry := b.foldl mput a

theorem Good.nil : Good [] := ⟨by simp, by simp⟩

theorem mput_keys (es : List DictEntry) (e : DictEntry) : (mput es e).map (fun e => keyI e.key) = if (es.map fun e => keyI e.key).any (fun x => decide (x = keyI e.key)) then es.map (fun e => keyI e.key) else es.map (fun e => keyI e.key) ++ [keyI e.key] := by
  unfold mput
  rw [List.any_map]
  by_cases h : es.any (fun x => decide (keyI x.key = keyI e.key)) = true
  · rw [if_pos h, if_pos (by simpa using h), List.map_map]
    apply List.map_congr_left
    intro x _
    simp only [Function.comp]
    split <;> rfl
  · rw [if_neg h, if_neg (by simpa using h), List.map_append]; rfl

theorem Good.mput {es : List DictEntry} (G : Good es) {e : DictEntry} (h : GE e) : Good (mput es e) := by
  refine ⟨?_, ?_⟩
  · intro x hx
    unfold Mine.mput at hx
    split at hx
    · obtain ⟨y, hy, rfl⟩ := List.mem_map.mp hx
      obtain ⟨k, t, v, u, a1, a2, a3, a4, rfl⟩ := G.1 y hy
      obtain ⟨k', t', v', u', b1, b2, b3, b4, rfl⟩ := h
      dsimp only
      split
      · exact ⟨k, t, v', u', a1, a2, b3, b4, rfl⟩
      · exact ⟨k, t, v, u, a1, a2, a3, a4, rfl⟩
    · rcases List.mem_append.mp hx with hx | hx
      · exact G.1 x hx
      · rw [List.mem_singleton.mp hx]; exact h
  · rw [mput_keys]
    split
    · exact G.2
    · rename_i hn
      rw [List.nodup_append]
      refine ⟨G.2, by simp, ?_⟩
      intro a ha b hb hab
      rw [List.mem_singleton.mp hb] at hab
      exact hn (List.any_eq_true.mpr ⟨a, ha, by simpa using hab⟩)

theorem Good.mrg {a b : List DictEntry} (G : Good a) (H : Good b) : Good (mrg a b) := by
  have key : ∀ (b a : List DictEntry), Good a → (∀ e ∈ b, GE e) → Good (b.foldl Mine.mput a) := by
    intro b
    induction b with
    | nil => intro a G _; exact G
    | cons e b ih => intro a G h; exact ih _ (G.mput (h e (.head _))) fun x hx => h x (.tail _ hx)
  exact key b a G H.1

theorem mrg_append {b : List DictEntry} : ∀ {a : List DictEntry}, ((a ++ b).map fun e => keyI e.key).Nodup → mrg a b = a ++ b := by
  induction b with
  | nil => intro a _; simp [mrg]
  | cons e b ih =>
    intro a h
    have hno : ¬ (a.any (fun x => decide (keyI x.key = keyI e.key))) = true := by
      intro q
      obtain ⟨x, hx, hk⟩ := List.any_eq_true.mp q
      rw [List.map_append, List.nodup_append] at h
      exact h.2.2 (keyI x.key) (List.mem_map_of_mem hx) (keyI e.key) (by simp) (by simpa using hk)
    have e1 : mrg a (e :: b) = mrg (a ++ [e]) b := by
      show (e :: b).foldl mput a = _
      rw [List.foldl_cons]
      unfold mput
      rw [if_neg hno]; rfl
    rw [e1, ih (by simpa using h)]
    simp
theorem mrg_nil_left {b : List DictEntry} (G : Good b) : mrg [] b = b := by simpa using mrg_append (a := []) (by simpa using G.2)
theorem mrg_nil (a : List DictEntry) : mrg a [] = a := rfl

theorem nodup_range : ∀ (n : Nat) (l : List Int), (∀ x ∈ l, 0 ≤ x ∧ x < (n : Int)) → l.Nodup → l.length ≤ n := by
  intro n
  induction n with
  | zero =>
    intro l h _
    cases l with
    | nil => exact Nat.le_refl _
    | cons a l => have := h a (.head _); omega
  | succ n ih =>
    intro l h hd
    have h1 : (l.filter fun x => decide (x ≠ (n : Int))).length ≤ n := by
      refine ih _ (fun x hx => ?_) (List.Pairwise.filter _ hd)
      obtain ⟨hx, hn⟩ := List.mem_filter.mp hx
      have := h x hx
      have hn : x ≠ (n : Int) := by simpa using hn
      omega
    have h2 : (l.filter fun x => decide (x = (n : Int))).length ≤ 1 := by
      have hd' : (l.filter fun x => decide (x = (n : Int))).Nodup := List.Pairwise.filter _ hd
      have ha : ∀ x ∈ l.filter fun x => decide (x = (n : Int)), x = (n : Int) := fun x hx => by simpa using (List.mem_filter.mp hx).2
      generalize l.filter (fun x => decide (x = (n : Int))) = q at hd' ha
      match q, hd', ha with
      | [], _, _ => exact Nat.zero_le _
      | [_], _, _ => exact Nat.le_refl _
      | a :: b :: r, hd', ha =>
        have e1 := ha a (by simp)
        have e2 := ha b (by simp)
        simp [e1, e2] at hd'
    have h3 : l.length = (l.filter fun x => decide (x = (n : Int))).length + (l.filter fun x => decide (x ≠ (n : Int))).length := by
      clear h hd h1 h2 ih
      induction l with
      | nil => rfl
      | cons a l ih =>
        by_cases q : a = (n : Int)
        · simp only [List.filter_cons, q, decide_true, if_true, ne_eq, not_true_eq_false, decide_false, List.length_cons]
          simp only [ne_eq] at ih
          simp; simp at ih; omega
        · simp only [List.filter_cons, q, decide_false, ne_eq, not_false_eq_true, decide_true, if_true, List.length_cons]
          simp only [ne_eq] at ih
          simp; simp at ih; omega
    omega
theorem Good.len {es : List DictEntry} (G : Good es) : es.length ≤ 4 := by
  have := nodup_range 4 (es.map fun e => keyI e.key) (by
    intro x hx
    obtain ⟨e, he, rfl⟩ := List.mem_map.mp hx
    obtain ⟨k, t, v, u, a1, a2, a3, a4, rfl⟩ := G.1 e he
    exact ⟨a1, by simpa [keyI] using a2⟩) G.2
  simpa using this
end Mine
end

section
open PySem PySem.W PyProof.Rows PySem.Calls
set_option maxRecDepth 100000
namespace Mine

section
variable {prog : Program} {w : World} {A : Around} {E : Value → Shared → Prop} {s : Shared}

theorem isInt_key {e : DictEntry} (h : GE e) (k : Int) : (intKind prog w).is k e.key = decide (keyI e.key = k) := by
  obtain ⟨k', t, v, u, _, _, _, _, rfl⟩ := h
  simp only [intKind, Value.isInt, keyI]
  first | rfl | (by_cases q : k' = k <;> simp [q]) | (by_cases q : k' = k <;> simp [q, eq_comm])
theorem keysOf_good {es : List DictEntry} (G : Good es) : KeysOf (intKind prog w) es.toArray := by
  intro e he
  obtain ⟨k, t, v, u, _, _, _, _, rfl⟩ := G.1 e (by simpa using he)
  exact ⟨k, intKind_is _ _ _ _, rfl⟩
theorem GE.hash_is {e : DictEntry} (h : GE e) : e.hash = (intKind prog w).hash (keyI e.key) := by
  obtain ⟨k', t, v, u, _, _, _, _, rfl⟩ := h; rfl
theorem GE.is_key {e : DictEntry} (h : GE e) : (intKind prog w).is (keyI e.key) e.key = true := by
  rw [isInt_key h]; simp

theorem find_good {d : Addr} {o : Obj} {es : List DictEntry} {n : Nat} {e : DictEntry} {Q : Option Nat → Shared → Prop} (ho : s.heap.get? d = some o) (hd : o.data = .dict es.toArray n) (G : Good es) (he : GE e)
    (h : Q (es.findIdx? fun x => decide (keyI x.key = keyI e.key)) s) : wpAny (model prog w) A (dictFind d e.key e.hash) Q E s := by
  rw [GE.hash_is (prog := prog) (w := w) he]
  refine wpAny_dictFind_of (GE.is_key he) ho hd (keysOf_good G) ?_
  have : (es.toArray.findIdx? fun x => (intKind prog w).is (keyI e.key) x.key) = es.findIdx? fun x => decide (keyI x.key = keyI e.key) := by
    rw [List.findIdx?_toArray]
    have gen : ∀ l : List DictEntry, (∀ x ∈ l, GE x) → (l.findIdx? fun x => (intKind prog w).is (keyI e.key) x.key) = l.findIdx? fun x => decide (keyI x.key = keyI e.key) := by
      intro l
      induction l with
      | nil => intro _; rfl
      | cons a l ih =>
        intro hl
        rw [List.findIdx?_cons, List.findIdx?_cons, ih (fun x hx => hl x (.tail _ hx)), isInt_key (hl a (.head _))]
    exact gen es G.1
  rw [this]; exact h

theorem modify_mput {es : List DictEntry} (G : Good es) {e : DictEntry} {i : Nat} (hi : es.findIdx? (fun x => decide (keyI x.key = keyI e.key)) = some i) :
    es.toArray.modify i (fun x => { x with val := e.val }) = (mput es e).toArray := by
  obtain ⟨hlt, hk, _⟩ := List.findIdx?_eq_some_iff_getElem.mp hi
  have hk : keyI es[i].key = keyI e.key := by simpa using hk
  have hany : es.any (fun x => decide (keyI x.key = keyI e.key)) = true := List.any_eq_true.mpr ⟨es[i], List.getElem_mem hlt, by simpa using hk⟩
  unfold mput
  rw [if_pos hany]
  apply Array.ext
  · simp
  · intro j h1 h2
    rw [Array.getElem_modify]
    simp only [List.getElem_toArray, List.getElem_map]
    have hj : j < es.length := by simpa using h2
    by_cases q : i = j
    · subst q; rw [if_pos rfl, if_pos hk]
    · rw [if_neg q, if_neg]
      intro r
      have hn := List.pairwise_iff_getElem.mp G.2
      rcases Nat.lt_or_gt_of_ne q with p | p
      · exact hn i j (by simpa using hlt) (by simpa using hj) p (by simp [hk, r])
      · exact hn j i (by simpa using hj) (by simpa using hlt) p (by simp [hk, r])

theorem push_mput {es : List DictEntry} {e : DictEntry} (hi : es.findIdx? (fun x => decide (keyI x.key = keyI e.key)) = none) : es.toArray.push e = (mput es e).toArray := by
  have hany : ¬ es.any (fun x => decide (keyI x.key = keyI e.key)) = true := by
    intro q
    obtain ⟨x, hx, hk⟩ := List.any_eq_true.mp q
    have := List.findIdx?_eq_none_iff.mp hi x hx
    rw [this] at hk; cases hk
  unfold mput
  rw [if_neg hany]; simp

/-- the object with other entries -/
abbrev withEs (o : Obj) (es : List DictEntry) (n : Nat) : Obj := { o with data := .dict es.toArray n }

theorem size4 {n : Nat} (h : n ≤ 4) : n ≤ sizeLine := Nat.le_trans h (by decide)

theorem setHashed_good {d : Addr} {o : Obj} {es : List DictEntry} {n : Nat} {e : DictEntry} {Q : Unit → Shared → Prop} (ho : s.heap.get? d = some o) (hd : o.data = .dict es.toArray n) (G : Good es) (he : GE e)
    (h : ∀ h' n', Heap.SameBut d s.heap h' → h'.get? d = some (withEs o (mput es e) n') → Q () { s with heap := h' }) :
    wpAny (model prog w) A (dictSetHashed d e.key e.hash e.val) Q E s := by
  obtain ⟨c, dd, dt, sl⟩ := o
  simp only at hd; subst hd
  unfold dictSetHashed
  try with_reducible refine wpAny_holding ?_
  refine wpAny_bind (find_good ho rfl G he ?_)
  cases hi : es.findIdx? fun x => decide (keyI x.key = keyI e.key) with
  | some i =>
    refine wpAny_bind (wpAny_rule (wpAny_bind (wpAny_updateDict ho rfl (wpAny_point (h _ n (Heap.SameBut.update ..) ?_)))))
    rw [Heap.get?_update_self _ ho rfl]
    show some (Obj.mk c dd (.dict (es.toArray.modify i fun x => { x with val := e.val }) n) sl) = _
    rw [modify_mput G hi]
  | none =>
    refine wpAny_bind (wpAny_rule (wpAny_updateDictKeys (hz := by rw [List.size_toArray]; exact size4 G.len) ho rfl (h _ (n + 1) (Heap.SameBut.update ..) ?_)))
    rw [Heap.get?_update_self _ ho rfl]
    show some (Obj.mk c dd (.dict (es.toArray.push ⟨e.hash, e.key, e.val⟩) (n + 1)) sl) = _
    rw [show (⟨e.hash, e.key, e.val⟩ : DictEntry) = e from rfl, push_mput hi]

theorem put_good {d : Addr} {o : Obj} {es : List DictEntry} {n : Nat} {e : DictEntry} {Q : Unit → Shared → Prop} (ho : s.heap.get? d = some o) (hd : o.data = .dict es.toArray n) (G : Good es) (he : GE e)
    (h : ∀ h' n', Heap.SameBut d s.heap h' → h'.get? d = some (withEs o (mput es e) n') → Q () { s with heap := h' }) :
    wpAny (model prog w) A (dictPut d e.hash e.key e.val) Q E s := by
  obtain ⟨c, dd, dt, sl⟩ := o
  simp only at hd; subst hd
  unfold dictPut
  refine wpAny_bind (find_good ho rfl G he ?_)
  cases hi : es.findIdx? fun x => decide (keyI x.key = keyI e.key) with
  | some i =>
    refine wpAny_updateDict ho rfl (h _ n (Heap.SameBut.update ..) ?_)
    rw [Heap.get?_update_self _ ho rfl]
    show some (Obj.mk c dd (.dict (es.toArray.modify i fun x => { x with val := e.val }) n) sl) = _
    rw [modify_mput G hi]
  | none =>
    refine wpAny_updateDictKeys (hz := by rw [List.size_toArray]; exact size4 G.len) ho rfl (h _ (n + 1) (Heap.SameBut.update ..) ?_)
    rw [Heap.get?_update_self _ ho rfl]
    show some (Obj.mk c dd (.dict (es.toArray.push ⟨e.hash, e.key, e.val⟩) (n + 1)) sl) = _
    rw [show (⟨e.hash, e.key, e.val⟩ : DictEntry) = e from rfl, push_mput hi]

/-- a new pair set by its key: what dictSet does with small ints -/
theorem set_good {d : Addr} {o : Obj} {es : List DictEntry} {n : Nat} {k v : Int} {t u : Tok} {Q : Unit → Shared → Prop} (ho : s.heap.get? d = some o) (hd : o.data = .dict es.toArray n) (G : Good es) (hk : 0 ≤ k ∧ k < 4) (hv : 0 ≤ v ∧ v < 5)
    (h : ∀ h' n', Heap.SameBut d s.heap h' → h'.get? d = some (withEs o (mput es ⟨hashInt k, .int k t, .int v u⟩) n') → Q () { s with heap := h', toks := s.toks + 1 }) :
    wpAny (model prog w) A (dictSet d (.int k t) (.int v u)) Q E s := by
  unfold dictSet
  try with_reducible refine wpAny_holding ?_
  refine wpAny_bind (wpAny_pyHash_int ?_)
  exact setHashed_good (s := { s with toks := s.toks + 1 }) (e := ⟨hashInt k, .int k t, .int v u⟩) ho hd G ⟨k, t, v, u, hk.1, hk.2, hv.1, hv.2, rfl⟩ h
end
end Mine
end

section
open PySem PySem.W PyProof.Rows PySem.Calls
set_option maxRecDepth 100000
namespace Mine

theorem mrg_take_succ (a b : List DictEntry) (i : Nat) (e : DictEntry) (h : b[i]? = some e) : mrg a (b.take (i + 1)) = mput (mrg a (b.take i)) e := by
  simp [mrg, List.take_add_one, h, List.foldl_append]
theorem Good.take {es : List DictEntry} (G : Good es) (i : Nat) : Good (es.take i) :=
  ⟨fun e he => G.1 e (List.mem_of_mem_take he), by rw [List.map_take]; exact List.Sublist.nodup (List.take_sublist ..) G.2⟩

section
variable {prog : Program} {w : World} {A : Around} {E : Value → Shared → Prop} {s : Shared}

theorem few_good {es : List DictEntry} (G : Good es) : (decide (es.toArray.size ≤ 8) && es.toArray.all fun e => (keyPart e.key).isSome) = true := by
  rw [Bool.and_eq_true]
  refine ⟨decide_eq_true (by rw [List.size_toArray]; exact Nat.le_trans G.len (by decide)), ?_⟩
  rw [List.all_toArray, List.all_eq_true]
  intro e he
  obtain ⟨k, t, v, u, _, _, _, _, rfl⟩ := G.1 e he
  rfl

theorem mergeDict_good {nm : String} {d o : Addr} {od oo : Obj} {es more : List DictEntry} {n m : Nat} {Q : Unit → Shared → Prop} (hdo : d ≠ o) (hoS : (o == sysModules) = false)
    (hod : s.heap.get? d = some od) (hdd : od.data = .dict es.toArray n) (G : Good es) (hoo : s.heap.get? o = some oo) (hdo' : oo.data = .dict more.toArray m) (H : Good more)
    (h : ∀ h' n', Heap.SameBut d s.heap h' → h'.get? d = some (withEs od (mrg es more) n') → Q () { s with heap := h' }) :
    wpAny (model prog w) A (Builtin.Dict.mergeDict nm d o) Q E s := by
  unfold Builtin.Dict.mergeDict
  rw [if_neg (by simpa using hdo)]
  unfold Builtin.Dict.showsAll
  rw [if_neg (by rw [hoS]; exact Bool.false_ne_true)]
  refine wpAny_bind (wpAny_pure ?_)
  refine wpAny_bind (wpAny_dictEntries hoo hdo' ?_)
  dsimp only
  rw [if_neg (by rw [few_good H]; decide)]
  refine wpAny_bind (wpAny_dictEpoch hoo hdo' ?_)
  refine wpAny_bind (wpAny_dictEntries hoo hdo' ?_)
  refine wpAny_bind ?_
  rw [Std.Legacy.Range.forIn_eq_forIn_range']
  simp only [Std.Legacy.Range.size, Nat.sub_zero, Nat.add_sub_cancel, Nat.div_one]
  refine wpAny_forIn_list _
    (fun rest _ s' => ∃ h' i n', s' = { s with heap := h' } ∧ rest = List.range' i (more.length - i) ∧ i ≤ more.length ∧ h'.get? d = some (withEs od (mrg es (more.take i)) n') ∧ h'.get? o = some oo ∧ Heap.SameBut d s.heap h')
    _ ?_ ?_ _ _ ⟨s.heap, 0, n, rfl, by simp, Nat.zero_le _, by
      simp only [List.take_zero, mrg_nil]
      obtain ⟨c, dd, dt, sl⟩ := od
      simp only at hdd; subst hdd; exact hod, hoo, Heap.SameBut.refl _ _⟩
  · rintro x rest b s' ⟨h', i, n', rfl, hr, hi, hd', hoo', hs'⟩
    have hlt : i < more.length := by
      rcases Nat.lt_or_ge i more.length with h | h
      · exact h
      · rw [Nat.sub_eq_zero_of_le h] at hr; simp at hr
    obtain ⟨rfl, hrest⟩ : x = i ∧ rest = List.range' (i + 1) (more.length - (i + 1)) := by
      have e : more.length - i = (more.length - (i + 1)) + 1 := by omega
      rw [e, List.range'_succ] at hr
      injection hr with h1 h2
      exact ⟨h1, h2⟩
    refine wpAny_bind (wpAny_dictEntries hoo' hdo' ?_)
    rw [List.getElem?_toArray, List.getElem?_eq_getElem hlt]
    show wpAny _ _ (holding [more[x].key, more[x].val] (dictSetHashed d more[x].key more[x].hash more[x].val) >>= _) _ _ _
    refine wpAny_bind (wpAny_holding (setHashed_good (s := { s with heap := h' }) hd' rfl (G.mrg (H.take x)) (H.1 _ (List.getElem_mem hlt)) fun h'' n'' hs'' hd'' => ?_))
    have hoo'' : h''.get? o = some oo := (hs''.2 o (Ne.symm hdo)).trans hoo'
    refine wpAny_bind (wpAny_dictEpoch hoo'' hdo' ?_)
    rw [if_neg (by simp)]
    exact wpAny_pure ⟨h'', x + 1, n'', rfl, hrest, hlt, by rw [mrg_take_succ es more x _ (List.getElem?_eq_getElem hlt)]; exact hd'', hoo'', hs'.trans hs''⟩
  · rintro b s' ⟨h', i, n', rfl, hr, hi, hd', hoo', hs'⟩
    have hin : i = more.length := by
      rcases Nat.lt_or_ge i more.length with h | h
      · have e : more.length - i = (more.length - (i + 1)) + 1 := by omega
        rw [e, List.range'_succ] at hr; exact nomatch hr
      · exact Nat.le_antisymm hi h
    rw [hin, List.take_length] at hd'
    exact wpAny_pure (h h' n' hs' hd')
end
end Mine
end

section
open PySem PySem.W PyProof.Rows PySem.Calls
set_option maxRecDepth 100000
namespace Mine
section
variable (p : Params)
theorem f_ga : findIn (hd.heap_39 p) (.ref 145) "__getattribute__" = some (some (.builtin "dict.__getattribute__")) := by kernel_rfl
theorem f_iter : findIn (hd.heap_39 p) (.ref 145) "__iter__" = some (some (.builtin "dict.__iter__")) := by kernel_rfl
theorem f_len : findIn (hd.heap_39 p) (.ref 145) "__len__" = some (some (.builtin "dict.__len__")) := by kernel_rfl
theorem f_bool : findIn (hd.heap_39 p) (.ref 145) "__bool__" = some none := by kernel_rfl
theorem f_getattr : findIn (hd.heap_39 p) (.ref 145) "__getattr__" = some none := by kernel_rfl
theorem f_mroD : mroIn (hd.heap_39 p) 145 (.type "dict") = some true := by kernel_rfl
theorem f_mroO : mroIn (hd.heap_39 p) 145 (.type "collections.OrderedDict") = some false := by kernel_rfl
theorem f_mroI : mroIn (hd.heap_39 p) 145 (.ref 145) = some true := by kernel_rfl
end

/-- an immutable dict of the text -/
abbrev immO (dx : Addr) (es : List DictEntry) (n : Nat) : Obj := { cls := .ref 145, dict := some dx, data := .dict es.toArray n }

theorem imm_inst {h : Heap} {x dx : Addr} {es : List DictEntry} {n : Nat} (hx : h.get? x = some (immO dx es n)) (hd : h.get? dx = some (dictOf [] 0)) : InstAt h x (immO dx es n) 145 (some (dictOf [] 0)) :=
  ⟨hx, rfl, rfl, hd⟩

/-- what is asked of a value that is read as a dict -/
structure DL (M : Model) (h : Heap) (x : Addr) (es : List DictEntry) : Prop where
  obj : ∃ o n, h.get? x = some o ∧ o.data = .dict es.toArray n
  ty : ∃ T, Looks M h (typeOf (.ref x)) T ∧ (T = .type "dict" ∨ T = .ref 145)
  isD : Looks M h (isInstance (.ref x) (.type "dict")) true
  notO : Looks M h (isInstance (.ref x) (.type "collections.OrderedDict")) false
  iter : Looks M h (specialOf (.ref x) "__iter__") (some (.builtin "dict.__iter__"))
  len : Looks M h (specialOf (.ref x) "__len__") (some (.builtin "dict.__len__"))
  noBool : Looks M h (specialOf (.ref x) "__bool__") none
  good : Good es
  low : 2 < x

theorem DL.keeps {M : Model} {h h' : Heap} {x : Addr} {es : List DictEntry} (D : DL M h x es) (k : ∀ b o, h.get? b = some o → h'.get? b = some o) : DL M h' x es :=
  ⟨let ⟨o, n, a, b⟩ := D.obj; ⟨o, n, k _ _ a, b⟩, let ⟨T, a, b⟩ := D.ty; ⟨T, a.keeps k, b⟩, D.isD.keeps k, D.notO.keeps k, D.iter.keeps k, D.len.keeps k, D.noBool.keeps k, D.good, D.low⟩

theorem looks_special {M : Model} {h : Heap} {v : Value} {T : Value} {name : Str} {r : Option Value} (a : Looks M h (typeOf v) T) (b : Looks M h (typeLookup T name) r) : Looks M h (specialOf v name) r := a.andThen b
theorem looks_isInst {M : Model} {h : Heap} {v T U : Value} {r : Bool} (a : Looks M h (typeOf v) T) (b : Looks M h (isSubtype T U) r) : Looks M h (isInstance v U) r := a.andThen b

theorem sub_dict_ord : isSubtype (.type "dict") (.type "collections.OrderedDict") = pure false := by rw [isSubtype_type]; kernel_rfl
theorem look_dict_bool : typeLookup (.type "dict") "__bool__" = pure none := by rw [typeLookup_type, builtinLookup_eq_fast]; kernel_rfl
theorem sub_dict_dict : isSubtype (.type "dict") (.type "dict") = pure true := by rw [isSubtype_type]; kernel_rfl

theorem looks_type {M : Model} {h : Heap} {x : Addr} {o : Obj} (hx : h.get? x = some o) : Looks M h (typeOf (.ref x)) o.cls := (Looks.ld (part := some headPart) hx).andThen .now

theorem DL.ofDict {M : Model} {h : Heap} {x : Addr} {es : List DictEntry} {n : Nat} (hx : h.get? x = some (dictOf es n)) (G : Good es) (l : 2 < x) : DL M h x es :=
  have T : Looks M h (typeOf (.ref x)) (.type "dict") := looks_type hx
  ⟨⟨_, n, hx, rfl⟩, ⟨_, T, .inl rfl⟩, looks_isInst T (.of_pure sub_dict_dict), looks_isInst T (.of_pure sub_dict_ord), looks_special T (.of_pure PySem.F.slot_dict_iter.lookup), looks_special T (.of_pure PySem.F.slot_dict_len.lookup), looks_special T (.of_pure look_dict_bool), G, l⟩
theorem DL.ofImm {M : Model} {h : Heap} {x dx : Addr} {es : List DictEntry} {n : Nat} {P : Params} (X : (hd.heap_39 P).In h) (hx : h.get? x = some (immO dx es n)) (G : Good es) (l : 2 < x) : DL M h x es :=
  have T : Looks M h (typeOf (.ref x)) (.ref 145) := looks_type hx
  ⟨⟨_, n, hx, rfl⟩, ⟨_, T, .inr rfl⟩, looks_isInst T (looks_mroIn X (f_mroD P)), looks_isInst T (looks_mroIn X (f_mroO P)), looks_special T (looks_findIn X (f_iter P)), looks_special T (looks_findIn X (f_len P)), looks_special T (looks_findIn X (f_bool P)), G, l⟩

section
variable {prog : Program} {w : World} {A : Around} {E : Value → Shared → Prop} {s : Shared}

/-- a built-in method of dict's, its self any kind of dict -/
theorem check_dict {M : Model} {id n : String} {self : Value} {rest : List Value} {Q : Unit → Shared → Prop} (hsplit : splitId id = some ("dict", n))
    (hkind : (Manifest.find? "dict").bind (·.attrs.lookup n) = some .slot ∨ (Manifest.find? "dict").bind (·.attrs.lookup n) = some .method)
    (hi : Looks M s.heap (isInstance self (.type "dict")) true) (ha : argsOk id ⟨self :: rest, []⟩) (h : Q () s) : wpAny M A (checkBuiltinCall id ⟨self :: rest, []⟩) Q E s := by
  have hk : builtinKind id = (Manifest.find? "dict").bind (·.attrs.lookup n) := by simp only [builtinKind, hsplit]
  rcases hkind with h' | h' <;>
  · simp only [checkBuiltinCall, hk, h', hsplit]
    refine wpAny_bind (hi.here ?_)
    simp only [Bool.not_true, Bool.false_eq_true, if_false]
    cases hsig : Manifest.signature? id with
    | none => exact wpAny_pure h
    | some sig =>
      simp only [argsOk, hsig] at ha
      have h2 : Bind.checkArgs id sig ⟨self :: rest, []⟩ = pure () := ha
      show wpAny M A (Bind.checkArgs id sig ⟨self :: rest, []⟩) Q E s
      rw [h2]; exact wpAny_pure h

theorem code_dict_builtin {id n : String} {b : Builtin} {self : Value} {rest : List Value} {R : Result → Shared → Prop} (hsplit : splitId id = some ("dict", n))
    (hkind : (Manifest.find? "dict").bind (·.attrs.lookup n) = some .slot ∨ (Manifest.find? "dict").bind (·.attrs.lookup n) = some .method) (hp : plainId id = true)
    (hb : entryFor table id = some b) (hi : Looks (model prog w) s.heap (isInstance self (.type "dict")) true) (ha : argsOk id ⟨self :: rest, []⟩)
    (hc : wpAny (model prog w) A.in1 (b ⟨self :: rest, []⟩) (fun fin s' => ∃ v, fin = .done (.ret v) ∧ R (.ok (.ret v)) s') (fun e s' => R (.error e) s') s) : codeAny (model prog w) A (.call (.builtin id) ⟨self :: rest, []⟩) R s := by
  refine codeAny_call_builtin hp hb (check_dict hsplit hkind hi ha (wpAny_mono hc (fun fin s' h' => ?_) fun _ _ h' => h'))
  obtain ⟨v, rfl, hv⟩ := h'; exact hv
theorem call_dict_builtin {id n : String} {b : Builtin} {self : Value} {rest : List Value} {Q : Value → Shared → Prop} (hsplit : splitId id = some ("dict", n))
    (hkind : (Manifest.find? "dict").bind (·.attrs.lookup n) = some .slot ∨ (Manifest.find? "dict").bind (·.attrs.lookup n) = some .method) (hp : plainId id = true)
    (hb : entryFor table id = some b) (hi : Looks (model prog w) s.heap (isInstance self (.type "dict")) true) (ha : argsOk id ⟨self :: rest, []⟩)
    (hc : wpAny (model prog w) A.in1 (b ⟨self :: rest, []⟩) (fun fin s' => ∃ v, fin = .done (.ret v) ∧ Q v s') E s) : wpAny (model prog w) A (call (.builtin id) (self :: rest)) Q E s :=
  wpAny_call (code_dict_builtin hsplit hkind hp hb hi ha hc)

theorem notOrdered_DL {name : String} {x : Addr} {es : List DictEntry} {rest : List Value} {Q : Unit → Shared → Prop} (D : DL (model prog w) s.heap x es) (h : Q () s) :
    wpAny (model prog w) A (Builtin.Dict.notOrdered name ⟨.ref x :: rest, []⟩) Q E s := by
  unfold Builtin.Dict.notOrdered
  refine wpAny_ite_split (fun _ => ?_) (fun _ => wpAny_pure h)
  obtain ⟨T, hT, hT'⟩ := D.ty
  refine wpAny_bind (hT.here ?_)
  refine wpAny_ite_split (fun _ => ?_) (fun _ => wpAny_pure h)
  refine wpAny_bind (D.notO.here ?_)
  exact wpAny_pure h
theorem sp_len : splitId "dict.__len__" = some ("dict", "__len__") := by decide +kernel
theorem kd_len : (Manifest.find? "dict").bind (·.attrs.lookup "__len__") = some .slot ∨ (Manifest.find? "dict").bind (·.attrs.lookup "__len__") = some .method := by
  first | exact .inl (by decide +kernel) | exact .inr (by decide +kernel)
end
end Mine
end

section
open PySem PySem.W PyProof.Rows PySem.Calls
set_option maxRecDepth 100000
namespace Mine
section
variable {prog : Program} {w : World} {A : Around} {E : Value → Shared → Prop} {s : Shared}

theorem isEmpty_of {es : List DictEntry} : (((es.length : Nat) : Int) != 0) = !es.isEmpty := by
  cases es with
  | nil => rfl
  | cons e es => simp; omega

theorem low_ne {x : Addr} (h : 2 < x) : (x == sysModules) = false := by
  exact beq_eq_false_iff_ne.mpr (Nat.ne_of_gt (Nat.lt_trans (by decide) h))

theorem entry_len : entryFor table "len" = some Builtin.«len» := entryFor_of_tree (by kernel_rfl)

theorem dlen_DL {x : Addr} {es : List DictEntry} {Q : Value → Shared → Prop} (D : DL (model prog w) s.heap x es)
    (h : Q (.int es.length s.toks) { s with toks := s.toks + 1 }) : wpAny (model prog w) A (call (.builtin "dict.__len__") [.ref x]) Q E s := by
  refine call_dict_builtin sp_len kd_len (by decide +kernel) PySem.F.entry_dict_len D.isD (PySem.F.args_dict_len_1 _) ?_
  obtain ⟨o, n, hx, hd⟩ := D.obj
  have hlow := D.low
  unfold Builtin.«dict.__len__»
  refine wpAny_bind (wpAny_bind (notOrdered_DL D ?_))
  refine wpAny_bind (wpAny_pure ?_)
  refine wpAny_pure ?_
  refine wpAny_bind (wpAny_pure ?_)
  refine wpAny_bind (wpAny_bind (wpAny_dictEntries hx hd (wpAny_pure ?_)))
  refine wpAny_bind ?_
  unfold Builtin.Dict.pendingCount
  rw [if_neg (by rw [low_ne hlow]; exact Bool.false_ne_true)]
  refine wpAny_pure ?_
  unfold retInt
  refine wpAny_bind (wpAny_mkInt ?_)
  refine wpAny_pure ⟨_, rfl, ?_⟩
  simpa using h

theorem truthy_DL {x : Addr} {es : List DictEntry} {Q : Bool → Shared → Prop} (D : DL (model prog w) s.heap x es)
    (h : ∀ tk, Q (!es.isEmpty) { s with toks := tk }) : wpAny (model prog w) A (truthy (.ref x)) Q E s := by
  obtain ⟨hp, g, d, tk, os⟩ := s
  have hl := D.good.len
  unfold truthy
  refine wpAny_bind (wpAny_bind (D.noBool.at (wpAny_pure ?_)))
  refine wpAny_bind (D.len.at ?_)
  rw [if_neg (by simp)]
  refine wpAny_bind (wpAny_runValue (codeAny_builtin entry_len ?_))
  unfold Builtin.«len»
  refine wpAny_bind (wpAny_pure ?_)
  refine wpAny_bind (wpAny_bind (D.len.at ?_))
  refine wpAny_holding (wpAny_bind (wpAny_of_eq (PySem.F.slot_dict_len.bind (.ref x)) ?_))
  refine wpAny_bind (dlen_DL (A := _) D ?_)
  refine wpAny_pure ?_
  dsimp only
  refine wpAny_bind (wpAny_holding ?_)
  unfold asIndex
  refine wpAny_bind (wpAny_pure ?_)
  refine wpAny_pure ?_
  refine wpAny_bind ?_
  unfold letGo
  refine wpAny_bind (wpAny_holding (wpAny_point ?_))
  unfold letGo
  refine wpAny_pure ?_
  rw [if_neg (by omega)]
  rw [if_neg (by omega)]
  unfold retInt
  refine wpAny_bind (wpAny_mkInt ?_)
  refine wpAny_pure ?_
  dsimp only
  refine wpAny_pure ?_
  rw [isEmpty_of]
  exact h _
end
end Mine
end

section
open PySem PySem.W PyProof.Rows PySem.Calls
set_option maxRecDepth 100000
namespace Mine

/-- x is read as a dict whose entries are es, its keys' epoch ep -/
def EsAt (h : Heap) (x : Addr) (es : List DictEntry) (ep : Nat) : Prop := ∃ o, h.get? x = some o ∧ o.data = .dict es.toArray ep
theorem EsAt.keep {h h' : Heap} {x : Addr} {es : List DictEntry} {ep : Nat} (e : EsAt h x es ep) (k : ∀ o, h.get? x = some o → h'.get? x = some o) : EsAt h' x es ep := let ⟨o, a, b⟩ := e; ⟨o, k o a, b⟩

abbrev itO (f0 f1 : Value) (x : Addr) (i n ep : Nat) (k v : Value) : Obj := { cls := .type "dict_itemiterator", data := .fields #[f0, f1, .ref x, .int i 0, .int n 0, .int ep 0, k, v] }
/-- an items iterator at its i-th place: its own tuple is not yet made, or is alive -/
def ItAt (h : Heap) (it x : Addr) (i n ep : Nat) : Prop := ∃ f0 f1 k v, h.get? it = some (itO f0 f1 x i n ep k v) ∧ (f0 = .none ∨ ∃ a o, f0 = rawInt (a : Nat) ∧ h.get? a = some o ∧ a ≠ it)

abbrev pairO (e : DictEntry) : Obj := { cls := .type "tuple", data := .seq #[e.key, e.val] }

section
variable {prog : Program} {w : World} {A : Around} {E : Value → Shared → Prop} {s : Shared}

theorem alive_here {a : Addr} {o : Obj} {Q : Option Obj → Shared → Prop} (ho : s.heap.get? a = some o) (h : Q (some o) s) : wpAny (model prog w) A (loadIfAlive a) Q E s := by
  have h' : Q (s.heap.get? a) s := by rw [ho]; exact h
  exact fun _ _ _ => h'

theorem it_next {it x : Addr} {i ep : Nat} {es : List DictEntry} {e : DictEntry} {Q : Option Value → Shared → Prop} (hit : ItAt s.heap it x i es.length ep) (hx : EsAt s.heap x es ep) (he : es[i]? = some e)
    (hQ : ∀ h', ItAt h' it x (i + 1) es.length ep → h'.get? s.heap.objs.size = some (pairO e) → Heap.ExtBut it s.heap h' → s.heap.objs.size < h'.objs.size → Q (some (.ref s.heap.objs.size)) { s with heap := h' }) :
    wpAny (model prog w) A (pyNext (.ref it)) Q E s := by
  obtain ⟨hp, g, dr, tk, os⟩ := s
  obtain ⟨f0, f1, k, v, hI, hf⟩ := hit
  obtain ⟨ox, hox, hod⟩ := hx
  have hlt : i < es.length := by
    rcases Nat.lt_or_ge i es.length with h | h
    · exact h
    · rw [List.getElem?_eq_none h] at he; cases he
  have hT : Shared.TypeIs ⟨hp, g, dr, tk, os⟩ (.ref it) "dict_itemiterator" := ⟨_, hI, rfl⟩
  unfold pyNext
  refine wpAny_bind (wpAny_attempt (wpAny_callSpecial?_slot (name := Str.ofString "__next__") hT PySem.F.slot_dict_itemiterator_next
    (wpAny_call_entry PySem.F.slot_dict_itemiterator_next hT PySem.F.entry_dict_itemiterator_next ?_ (PySem.F.args_dict_itemiterator_next_1 _))))
  dsimp only at hI hf hox hQ ⊢
  obtain ⟨oc, od, oda, osl⟩ := ox
  simp only at hod; subst hod
  unfold Builtin.«dict_itemiterator.__next__»
  wp_walk
  rw [show (if (i : Int) < 0 then none else es.toArray[(i : Int).toNat]?) = some e from by rw [if_neg (by omega)]; simpa using he]
  dsimp only
  have hown : Builtin.Dict_items.ownsTuple "dict_itemiterator" = true := by decide
  refine wpAny_bind (wpAny_bind (wpAny_typeNameOfWhole_itemiter hT (wpAny_pure ?_)))
  refine wpAny_bind (wpAny_isOneOf_itemiter hT ?_)
  simp only [hown, if_true]
  rw [if_neg (by decide)]
  refine wpAny_bind (wpAny_setField_rec hI (by simp) fun h₁ he₁ hs₁ => ?_)
  replace hs₁ : Heap.SameBut it hp h₁ := hs₁
  replace he₁ : h₁.get? it = some (itO f0 f1 x (i + 1) es.length ep k v) := by
    have e : ((i + 1 : Nat) : Int) = (i : Int) + 1 := by omega
    unfold itO; rw [e]; simpa [rawInt] using he₁
  have hT₁ : Shared.TypeIs ⟨h₁, g, dr, tk, os⟩ (.ref it) "dict_itemiterator" := ⟨_, he₁, rfl⟩
  refine wpAny_bind (wpAny_holding ?_)
  refine wpAny_bind (wpAny_isOneOf_itemiter hT₁ ?_)
  rw [if_neg (by decide)]
  refine wpAny_bind (wpAny_isOneOf_itemiter hT₁ ?_)
  rw [if_neg (by decide)]
  unfold Builtin.Dict_items.pairFromOwner
  refine wpAny_bind (wpAny_newTuple ?_)
  have hz₁ : h₁.objs.size = hp.objs.size := hs₁.1
  have hil : it < hp.objs.size := Heap.lt_size hI
  have he₂ : (h₁.push (pairO e)).get? it = some (itO f0 f1 x (i + 1) es.length ep k v) := Heap.get?_push_of_some _ he₁
  have ht₂ : (h₁.push (pairO e)).get? hp.objs.size = some (pairO e) := by rw [← hz₁]; exact Heap.get?_push_size _ rfl
  have hz₂ : hp.objs.size < (h₁.push (pairO e)).objs.size := by rw [Heap.size_push, hz₁]; exact Nat.lt_succ_self _
  have hk₂ : Heap.ExtBut it hp (h₁.push (pairO e)) := hs₁.extBut.push _
  show wpAny _ _ (Builtin.Dict_items.ownedTupleIsFree (.ref it) >>= _) _ _ ⟨h₁.push (pairO e), g, dr, tk, os⟩
  rw [hz₁]
  generalize h₁.push (pairO e) = h₂ at he₂ ht₂ hz₂ hk₂ ⊢
  clear he₁ hs₁ hT₁ hz₁
  have fin : ∀ h₃ : Heap, ItAt h₃ it x (i + 1) es.length ep → Heap.SameBut it h₂ h₃ → Q (some (.ref hp.objs.size)) ⟨h₃, g, dr, tk, os⟩ := fun h₃ e₃ s₃ =>
    hQ h₃ e₃ (s₃.extBut _ _ (Nat.ne_of_gt hil) ht₂) (hk₂.trans s₃.extBut) (by rw [s₃.1]; exact hz₂)
  rcases hf with rfl | ⟨a, o, rfl, ha, hai⟩
  · refine wpAny_bind ?_
    unfold Builtin.Dict_items.ownedTupleIsFree
    refine wpAny_bind (wpAny_field he₂ rfl (x := .none) rfl ?_)
    refine wpAny_pure ?_
    simp only [if_true]
    refine wpAny_bind (wpAny_field he₂ rfl (x := k) rfl ?_)
    refine wpAny_bind (wpAny_field he₂ rfl (x := v) rfl ?_)
    refine wpAny_bind (wpAny_setField_rec he₂ (by simp) fun h₃ he₃ hs₃ => ?_)
    replace hs₃ : Heap.SameBut it h₂ h₃ := hs₃
    refine wpAny_bind (wpAny_setField_rec he₃ (by simp) fun h₄ he₄ hs₄ => ?_)
    replace hs₄ : Heap.SameBut it h₃ h₄ := hs₄
    refine wpAny_bind (wpAny_setField_rec he₄ (by simp) fun h₅ he₅ hs₅ => ?_)
    replace hs₅ : Heap.SameBut it h₄ h₅ := hs₅
    refine wpAny_bind (wpAny_setField_rec he₅ (by simp) fun h₆ he₆ hs₆ => ?_)
    replace hs₆ : Heap.SameBut it h₅ h₆ := hs₆
    refine wpAny_bind (wpAny_letGo ?_)
    refine wpAny_pure (wpAny_pure ⟨_, rfl, wpAny_pure (fin h₆ ?_ (((hs₃.trans hs₄).trans hs₅).trans hs₆))⟩)
    refine ⟨_, _, _, _, he₆, .inr ⟨_, pairO e, rfl, ?_, Nat.ne_of_gt hil⟩⟩
    exact (((hs₃.trans hs₄).trans hs₅).trans hs₆).extBut _ _ (Nat.ne_of_gt hil) ht₂
  · refine wpAny_bind ?_
    unfold Builtin.Dict_items.ownedTupleIsFree
    refine wpAny_bind (wpAny_field he₂ rfl (x := rawInt (a : Nat)) rfl ?_)
    show wpAny _ _ (loadIfAlive ((a : Int).toNat) >>= _) _ _ _
    rw [Int.toNat_natCast]
    have ha₂ : h₂.get? a = some o := hk₂ a o hai ha
    refine wpAny_bind (alive_here ha₂ ?_)
    simp only [Option.isNone_some, Bool.false_eq_true, if_false]
    refine wpAny_bind (wpAny_field he₂ rfl (x := f1) rfl ?_)
    refine wpAny_ite_split (fun _ => ?_) (fun _ => ?_)
    · refine wpAny_bind (wpAny_setField_rec he₂ (by simp) fun h₃ he₃ hs₃ => ?_)
      replace hs₃ : Heap.SameBut it h₂ h₃ := hs₃
      refine wpAny_pure ?_
      simp only [Bool.false_eq_true, if_false]
      exact wpAny_pure (wpAny_pure ⟨_, rfl, wpAny_pure (fin h₃ ⟨_, _, _, _, he₃, .inr ⟨a, o, rfl, hs₃.extBut _ _ hai ha₂, hai⟩⟩ hs₃)⟩)
    · refine wpAny_pure ?_
      simp only [Bool.false_eq_true, if_false]
      exact wpAny_pure (wpAny_pure ⟨_, rfl, wpAny_pure (fin h₂ ⟨_, _, _, _, he₂, .inr ⟨a, o, rfl, ha₂, hai⟩⟩ (Heap.SameBut.refl _ _))⟩)
end
end Mine
end

section
open PySem PySem.W PyProof.Rows PySem.Calls
set_option maxRecDepth 100000
namespace Mine
section
variable {prog : Program} {w : World} {A : Around} {E : Value → Shared → Prop} {s : Shared}

theorem it_end {it x : Addr} {i ep : Nat} {es : List DictEntry} {Q : Option Value → Shared → Prop} (hh : A.handled = none) (hit : ItAt s.heap it x i es.length ep) (hx : EsAt s.heap x es ep) (he : es[i]? = none)
    (hQ : ∀ h', Heap.ExtBut it s.heap h' → Q none { s with heap := h' }) :
    wpAny (model prog w) A (pyNext (.ref it)) Q E s := by
  obtain ⟨hp, g, dr, tk, os⟩ := s
  obtain ⟨f0, f1, k, v, hI, hf⟩ := hit
  obtain ⟨ox, hox, hod⟩ := hx
  have hT : Shared.TypeIs ⟨hp, g, dr, tk, os⟩ (.ref it) "dict_itemiterator" := ⟨_, hI, rfl⟩
  unfold pyNext
  refine wpAny_bind (wpAny_attempt (wpAny_callSpecial?_slot (name := Str.ofString "__next__") hT PySem.F.slot_dict_itemiterator_next
    (wpAny_call_entry PySem.F.slot_dict_itemiterator_next hT PySem.F.entry_dict_itemiterator_next ?_ (PySem.F.args_dict_itemiterator_next_1 _))))
  dsimp only at hI hf hox hQ ⊢
  obtain ⟨oc, od, oda, osl⟩ := ox
  simp only at hod; subst hod
  unfold Builtin.«dict_itemiterator.__next__»
  wp_walk
  rw [show (if (i : Int) < 0 then none else es.toArray[(i : Int).toNat]?) = none from by rw [if_neg (by omega)]; simpa using he]
  dsimp only
  have hown : Builtin.Dict_items.ownsTuple "dict_itemiterator" = true := by decide
  refine wpAny_bind (wpAny_bind (wpAny_typeNameOfWhole_itemiter hT (wpAny_pure ?_)))
  simp only [hown, if_true]
  refine wpAny_bind (wpAny_setField hI rfl (by simp) ?_)
  show wpAny _ _ (newExc (.type "StopIteration") [] >>= _) _ _ _
  refine wpAny_bind ?_
  simp only [newExc, newTuple]
  refine wpAny_bind (wpAny_newObj_type ?_ (by size_fits))
  refine wpAny_bind (m := firstArgMember _ _) (wpAny_of_eq (a := Value.none) (by first | rfl | (simp only [firstArgMember]; rfl)) ?_)
  refine wpAny_newObj_type ?_ (by size_fits)
  simp only [raiseNew]
  refine wpAny_bind (wpAny_handled ?_)
  rw [show A.in1.handled = none from hh]
  refine wpAny_bind (wpAny_pure (wpAny_throw ?_))
  refine wpAny_bind (wpAny_isInstance (T := "StopIteration") (b := true) ⟨_, Heap.get?_push_size _ rfl, rfl⟩ isSubtype_stop ?_)
  exact wpAny_pure (hQ _ (((Heap.SameBut.update ..).extBut.push _).push _))

abbrev viewO (x : Addr) : Obj := { cls := .type "dict_items", data := .fields #[.ref x] }

theorem view_iter {v x : Addr} {es : List DictEntry} {ep : Nat} {Q : Value → Shared → Prop} (hv : s.heap.get? v = some (viewO x)) (hx : EsAt s.heap x es ep)
    (hQ : Q (.ref s.heap.objs.size) { s with heap := s.heap.push (itO .none (.bool false) x 0 es.length ep .none .none) }) : wpAny (model prog w) A (pyIter (.ref v)) Q E s := by
  obtain ⟨o, ho, hdat⟩ := id hx
  have hT : s.TypeIs (.ref v) "dict_items" := ⟨_, hv, rfl⟩
  refine wpAny_pyIter_slot hT PySem.F.slot_dict_items_iter (wpAny_call_entry PySem.F.slot_dict_items_iter hT PySem.F.entry_dict_items_iter ?_ (PySem.F.args_dict_items_iter_1 _))
  unfold Builtin.«dict_items.__iter__»
  refine wpAny_bind (wpAny_pure ?_)
  refine wpAny_bind ?_
  unfold Builtin.Dict_items.dictOf
  refine wpAny_bind (wpAny_field hv rfl (x := .ref x) rfl (wpAny_pure ?_))
  refine wpAny_bind ?_
  unfold Builtin.Dict_items.newIterator
  refine wpAny_bind (wpAny_dictEntries ho hdat ?_)
  refine wpAny_bind (wpAny_dictEpoch ho hdat ?_)
  have hown : Builtin.Dict_items.ownsTuple "dict_itemiterator" = true := by decide
  simp only [hown, if_true]
  refine wpAny_newObj_type (wpAny_pure ⟨_, rfl, "dict_itemiterator", _, ⟨_, Heap.get?_push_size _ rfl, rfl⟩, PySem.F.slot_dict_itemiterator_next.lookup, ?_⟩)
    (by simp only [sizeOk, Builtin.Dict_items.ownedTupleFields, List.size_toArray, List.length_append, List.length_cons, List.length_nil, sizeLine_eq]; omega)
  simpa [rawInt, Builtin.Dict_items.ownedTupleFields, itO] using hQ

/-- the tuples of a dict's pairs, in their order -/
def PairsAt (h : Heap) (as : List Addr) (es : List DictEntry) : Prop := as.length = es.length ∧ ∀ (j : Nat) (a : Addr), as[j]? = some a → ∃ e, es[j]? = some e ∧ h.get? a = some (pairO e)
theorem PairsAt.keeps {h h' : Heap} {as : List Addr} {es : List DictEntry} (P : PairsAt h as es) (k : ∀ b o, h.get? b = some o → h'.get? b = some o) : PairsAt h' as es :=
  ⟨P.1, fun j a hj => let ⟨e, a1, a2⟩ := P.2 j a hj; ⟨e, a1, k _ _ a2⟩⟩

theorem items_loop {S I x : Addr} {es : List DictEntry} {ep : Nat} {R : Result → Shared → Prop} {h₁ : Heap} (res : Value) (hh : A.handled = none) (hSI : S ≠ I) (hxS : x ≠ S) (hxI : x ≠ I) (hlen : es.length ≤ 4)
    (hR : ∀ h' tk acc c as, (∀ b o, b ≠ S → b ≠ I → h₁.get? b = some o → h'.get? b = some o) → h'.get? S = some { cls := .type "list", data := .seq acc c } → PairsAt h' as es → acc.toList = as.map Value.ref →
      R (.ok (.ret res)) { s with heap := h', toks := tk }) :
    ∀ (k i : Nat) (h : Heap) (tk c : Nat) (acc : Array Value) (as : List Addr), es.length - i = k → i ≤ es.length → ItAt h I x i es.length ep → EsAt h x es ep → (∀ b o, b ≠ S → b ≠ I → h₁.get? b = some o → h.get? b = some o) →
      h.get? S = some { cls := .type "list", data := .seq acc c } → acc.toList = as.map Value.ref → as.length = i → (∀ (j : Nat) (a : Addr), as[j]? = some a → (∃ e, es[j]? = some e ∧ h.get? a = some (pairO e)) ∧ a ≠ S ∧ a ≠ I) →
      codeAny (model prog w) A (.builtin "list.extend.loop" ⟨[.ref S, .ref I, res], []⟩) R { s with heap := h, toks := tk } := by
  intro k
  induction k with
  | zero =>
    intro i h tk c acc as hk hi hst hD hkeep hS hacc hal hG
    refine codeAny_builtin PySem.F.entry_extend_loop ?_
    rw [Around.under_plainId PySem.F.plain_extend_loop _]
    show wpAny _ A.in1 (pyNext (.ref I) >>= _) _ _ _
    refine wpAny_bind (it_end (s := { s with heap := h, toks := tk }) (A := A.in1) hh hst hD (List.getElem?_eq_none (by omega)) fun h' he => ?_)
    refine wpAny_pure (hR h' tk acc c as (fun b o h1 h2 e => he b o h2 (hkeep b o h1 h2 e)) (he S _ hSI hS) ⟨by omega, fun j a hj => ?_⟩ hacc)
    obtain ⟨⟨e, e1, e2⟩, e3, e4⟩ := hG j a hj
    exact ⟨e, e1, he a _ e4 e2⟩
  | succ k ih =>
    intro i h tk c acc as hk hi hst hD hkeep hS hacc hal hG
    have hlt : i < es.length := by omega
    refine codeAny_builtin PySem.F.entry_extend_loop ?_
    rw [Around.under_plainId PySem.F.plain_extend_loop _]
    show wpAny _ A.in1 (pyNext (.ref I) >>= _) _ _ _
    refine wpAny_bind (it_next (s := { s with heap := h, toks := tk }) (A := A.in1) hst hD (List.getElem?_eq_getElem hlt) fun h' hst' ht he hsz => ?_)
    have hS' := he S _ hSI hS
    have hIl : I < h.objs.size := by obtain ⟨_, _, _, _, q, _⟩ := hst; exact Heap.lt_size q
    have hSl : S < h.objs.size := Heap.lt_size hS
    have accl : acc.size = i := by
      have := congrArg List.length hacc
      simpa [hal] using this
    show wpAny _ _ (updateSeq S (·.push (.ref h.objs.size)) >>= _) _ _ _
    refine wpAny_bind (wpAny_updateSeq (hz := by rw [accl]; exact Nat.le_trans (show i ≤ 4 by omega) (by decide)) hS' rfl ?_)
    have hu := Heap.SameBut.update h' S (Obj.mapSeq (·.push (Value.ref h.objs.size)))
    have hS₂ := Heap.get?_update_self (Obj.mapSeq (·.push (Value.ref h.objs.size))) hS' rfl
    refine wpAny_pure ⟨plainId_quiet PySem.F.plain_extend_loop _, ?_⟩
    refine ih (i + 1) (h'.update S (Obj.mapSeq (·.push (Value.ref h.objs.size)))) tk (c + 1) (acc.push (.ref h.objs.size)) (as ++ [h.objs.size]) (by omega) (by omega) ?_ ?_ ?_ ?_ ?_ ?_ ?_
    · obtain ⟨f0, f1, kk, vv, q, r⟩ := hst'
      refine ⟨f0, f1, kk, vv, hu.extBut _ _ (Ne.symm hSI) q, ?_⟩
      rcases r with r | ⟨a, o, r1, r2, r3⟩
      · exact .inl r
      · by_cases haS : a = S
        · subst haS; exact .inr ⟨a, _, r1, hS₂, r3⟩
        · exact .inr ⟨a, o, r1, hu.extBut _ _ haS r2, r3⟩
    · exact (hD.keep fun o q => he x o hxI q).keep fun o q => hu.extBut _ _ hxS q
    · exact fun b o h1 h2 q => hu.extBut _ _ h1 (he b o h2 (hkeep b o h1 h2 q))
    · rw [hS₂]
      simp only [Obj.mapSeq, Array.size_push]
      rw [if_neg (by simp)]
    · rw [Array.toList_push, hacc, List.map_append]; rfl
    · rw [List.length_append, List.length_singleton, hal]
    · intro j a hj
      rcases Nat.lt_or_ge j as.length with hj' | hj'
      · rw [List.getElem?_append_left hj'] at hj
        obtain ⟨⟨e, e1, e2⟩, e3, e4⟩ := hG j a hj
        exact ⟨⟨e, e1, hu.extBut _ _ e3 (he a _ e4 e2)⟩, e3, e4⟩
      · have hj2 : j = as.length := by
          have : j < (as ++ [h.objs.size]).length := (List.getElem?_eq_some_iff.mp hj).1
          simp at this; omega
        subst hj2
        simp at hj
        subst hj
        rw [hal]
        exact ⟨⟨es[i], List.getElem?_eq_getElem hlt, hu.extBut _ _ (Nat.ne_of_gt hSl) ht⟩, Nat.ne_of_gt hSl, Nat.ne_of_gt hIl⟩

theorem items_extend {R : Result → Shared → Prop} {r x : Addr} {es : List DictEntry} {ep : Nat} (hh : A.handled = none) (hv : s.heap.get? r = some (viewO x)) (hx : EsAt s.heap x es ep) (hlen : es.length ≤ 4) (S : Addr) (hSr : S ≠ r) (hxS : x ≠ S) (res : Value) (c₀ : Nat) (hS : s.heap.get? S = some { cls := .type "list", data := .seq #[] c₀ })
    (hR : ∀ h' tk acc c as, (∀ b o, b ≠ S → s.heap.get? b = some o → h'.get? b = some o) → h'.get? S = some { cls := .type "list", data := .seq acc c } → PairsAt h' as es → acc.toList = as.map Value.ref →
      R (.ok (.ret res)) { s with heap := h', toks := tk }) :
    wpAny (model prog w) A.in1 (Builtin.List.listExtendWith (.ref S) (.ref r) res)
      (fun fin s' => match fin with | .done f => R (.ok f) s' | .again c' => c'.quiet = true ∧ codeAny (model prog w) A c' R s') (fun e s' => R (.error e) s') s := by
  have hSI : S < s.heap.objs.size := Heap.lt_size hS
  have hxl : x < s.heap.objs.size := let ⟨_, q, _⟩ := hx; Heap.lt_size q
  have hT : s.TypeIs (.ref r) "dict_items" := ⟨_, hv, rfl⟩
  have key : ∀ (h : Heap) (c₁ tk : Nat), (∀ b o, b ≠ S → (s.heap.push (itO .none (.bool false) x 0 es.length ep .none .none)).get? b = some o → h.get? b = some o) →
      h.get? S = some { cls := .type "list", data := .seq #[] c₁ } → codeAny (model prog w) A (.builtin "list.extend.loop" ⟨[.ref S, .ref s.heap.objs.size, res], []⟩) R { s with heap := h, toks := tk } := by
    intro h c₁ tk hk hS₁
    have hI := hk s.heap.objs.size _ (Nat.ne_of_gt hSI) (Heap.get?_push_size _ rfl)
    exact items_loop (s := s) (h₁ := s.heap) res hh (Nat.ne_of_lt hSI) hxS (Nat.ne_of_lt hxl) hlen (fun h' tk' acc c as k1 k2 k3 k4 => hR h' tk' acc c as (fun b o hb e => k1 b o hb (Nat.ne_of_lt (Heap.lt_size e)) e) k2 k3 k4)
      es.length 0 h tk c₁ #[] [] (Nat.sub_zero _) (Nat.zero_le _) ⟨_, _, _, _, hI, .inl rfl⟩ (hx.keep fun o e => hk x o hxS (Heap.get?_push_of_some _ e)) (fun b o hb _ e => hk b o hb (Heap.get?_push_of_some _ e)) hS₁ rfl rfl
      (fun j a hj => by simp at hj)
  unfold Builtin.List.listExtendWith
  refine wpAny_bind (wpAny_typeOf (T := "dict_items") hT ?_)
  have h1 : Builtin.List.listSameRef (.ref S) (.ref r) = false := by simp [Builtin.List.listSameRef, hSr]
  have h2 : (Value.type "dict_items" == Value.type "list") = false := by decide
  have h3 : (Value.type "dict_items" == Value.type "tuple") = false := by decide
  simp only [h1, h2, h3, Bool.or_false, Bool.false_eq_true, if_false]
  refine wpAny_bind (view_iter hv hx ?_)
  have hS₁ := Heap.get?_push_of_some (itO .none (.bool false) x 0 es.length ep .none .none) hS
  refine wpAny_bind (wpAny_holding (kdx_hint ⟨_, Heap.get?_push_of_some _ hv, rfl⟩ ?_))
  refine wpAny_ite_split (fun _ => ?_) (fun _ => wpAny_pure ⟨plainId_quiet PySem.F.plain_extend_loop _, key _ c₀ _ (fun b o _ e => e) hS₁⟩)
  refine wpAny_bind (wpAny_rule ?_)
  refine wpAny_bind ?_
  show wpAny _ _ (updateSeq S (·.push .none) >>= fun _ => updateSeq S (·.pop)) _ _ _
  refine wpAny_bind (wpAny_updateSeq hS₁ rfl ?_)
  have hS₂ := Heap.get?_update_self (Obj.mapSeq (·.push Value.none)) hS₁ rfl
  refine wpAny_updateSeq (hz := by seq_fits) hS₂ rfl ?_
  have hS₃ := Heap.get?_update_self (Obj.mapSeq (·.pop)) hS₂ rfl
  refine wpAny_pure ⟨plainId_quiet PySem.F.plain_extend_loop _, key _ _ _ (fun b o hb e => ?_) hS₃⟩
  exact (Heap.get?_update_other _ _ (Ne.symm hb)).trans ((Heap.get?_update_other _ _ (Ne.symm hb)).trans e)

theorem items_init {R : Result → Shared → Prop} {r x : Addr} {es : List DictEntry} {ep : Nat} (hh : A.handled = none) (hv : s.heap.get? r = some (viewO x)) (hx : EsAt s.heap x es ep) (hlen : es.length ≤ 4) (S : Addr) (hSr : S ≠ r) (hxS : x ≠ S) (hS : s.heap.get? S = some { cls := .type "list", data := .seq #[] })
    (hR : ∀ h' tk acc c as, (∀ b o, b ≠ S → s.heap.get? b = some o → h'.get? b = some o) → h'.get? S = some { cls := .type "list", data := .seq acc c } → PairsAt h' as es → acc.toList = as.map Value.ref →
      R (.ok (.ret .none)) { s with heap := h', toks := tk }) :
    wpAny (model prog w) A.in1 (Builtin.«list.__init__» ⟨[.ref S, .ref r], []⟩)
      (fun fin s' => match fin with | .done f => R (.ok f) s' | .again c' => c'.quiet = true ∧ codeAny (model prog w) A c' R s') (fun e s' => R (.error e) s') s := by
  show wpAny _ _ (do let old ← Builtin.List.listItems (.ref S); Builtin.List.listUpdate (.ref S) (fun _ => #[]); letGo old.toList.reverse; Builtin.List.listExtendWith (.ref S) (.ref r) .none) _ _ s
  refine wpAny_bind ?_
  unfold Builtin.List.listItems
  refine wpAny_bind (wpAny_seqItems hS rfl (wpAny_pure ?_))
  show wpAny _ _ (updateSeq S (fun _ => #[]) >>= fun _ => letGo (#[] : Array Value).toList.reverse >>= fun _ => Builtin.List.listExtendWith (.ref S) (.ref r) .none) _ _ s
  refine wpAny_bind (wpAny_updateSeq hS rfl ?_)
  have hS₂ := Heap.get?_update_self (Obj.mapSeq (fun _ => (#[] : Array Value))) hS rfl
  have oth : ∀ b o, b ≠ S → s.heap.get? b = some o → (s.heap.update S (Obj.mapSeq (fun _ => (#[] : Array Value)))).get? b = some o :=
    fun b o hb e => (Heap.get?_update_other _ _ (Ne.symm hb)).trans e
  refine wpAny_bind (wpAny_letGo ?_)
  refine items_extend hh (oth r _ hSr.symm hv) (hx.keep fun o e => oth x o hxS e) hlen S hSr hxS .none _ hS₂ (fun h' tk acc c as k1 k2 k3 k4 => ?_)
  exact hR h' tk acc c as (fun b o hb e => k1 b o hb (oth b o hb e)) k2 k3 k4

/-- list(view) of a dict's items -/
theorem items_list {Q : Value → Shared → Prop} {r x : Addr} {es : List DictEntry} {ep : Nat} (hh : A.handled = none) (hv : s.heap.get? r = some (viewO x)) (hx : EsAt s.heap x es ep) (hlen : es.length ≤ 4)
    (hQ : ∀ h' tk c as, (∀ b o, s.heap.get? b = some o → h'.get? b = some o) → h'.get? s.heap.objs.size = some (listOf (as.map Value.ref).toArray c) → PairsAt h' as es → Q (.ref s.heap.objs.size) { s with heap := h', toks := tk }) :
    wpAny (model prog w) A (call (.type "list") [.ref r]) Q E s := by
  refine callType_codes (Q₁ := fun obj s₁ => obj = .ref s.heap.objs.size ∧ s₁ = { s with heap := s.heap.push { cls := .type "list", data := .seq #[] } }) PySem.F.called_list (PySem.F.typeCall_list_1 _) PySem.F.entry_list_init
    (code_list_new _ ⟨rfl, rfl⟩) fun obj s₁ h₁ => ?_
  obtain ⟨rfl, rfl⟩ := h₁
  have hS : (s.heap.push { cls := .type "list", data := .seq #[] }).get? s.heap.objs.size = some { cls := .type "list", data := .seq #[] } := Heap.get?_push_size _ rfl
  have hr : r < s.heap.objs.size := Heap.lt_size hv
  have hxl : x < s.heap.objs.size := let ⟨_, q, _⟩ := hx; Heap.lt_size q
  refine ⟨⟨_, hS, rfl⟩, PySem.F.args_list_init_2 _ _, items_init (A := A.in1) hh (Heap.get?_push_of_some _ hv) (hx.keep fun o e => Heap.get?_push_of_some _ e) hlen _ (Nat.ne_of_gt hr) (Nat.ne_of_lt hxl) hS (fun h' tk acc c as k1 k2 k3 k4 => ?_)⟩
  have e : acc = (as.map Value.ref).toArray := by apply Array.ext'; simpa using k4
  subst e
  exact ⟨rfl, hQ h' tk c as (fun b o e => k1 b o (Nat.ne_of_lt (Heap.lt_size e)) (Heap.get?_push_of_some _ e)) k2 k3⟩

theorem sp_items : splitId "dict.items" = some ("dict", "items") := by decide +kernel
theorem kd_items : (Manifest.find? "dict").bind (·.attrs.lookup "items") = some .slot ∨ (Manifest.find? "dict").bind (·.attrs.lookup "items") = some .method := by
  first | exact .inl (by decide +kernel) | exact .inr (by decide +kernel)
theorem items_call {x : Addr} {es : List DictEntry} {Q : Value → Shared → Prop} (D : DL (model prog w) s.heap x es)
    (h : Q (.ref s.heap.objs.size) { s with heap := s.heap.push (viewO x) }) : wpAny (model prog w) A (call (.builtin "dict.items") [.ref x]) Q E s := by
  refine call_dict_builtin sp_items kd_items (by decide +kernel) PySem.F.entry_dict_items D.isD (PySem.F.args_dict_items_1 _) ?_
  refine wpAny_bind ?_
  unfold Builtin.Dict.noArgs
  refine wpAny_bind (notOrdered_DL D ?_)
  show wpAny _ _ (pure x) _ _ s
  refine wpAny_pure ?_
  show wpAny _ _ (Builtin.Dict.showsAll x >>= _) _ _ s
  unfold Builtin.Dict.showsAll
  rw [if_neg (by rw [low_ne D.low]; exact Bool.false_ne_true)]
  refine wpAny_bind (wpAny_pure ?_)
  exact wpAny_bind (wpAny_newObj_type (wpAny_pure ⟨_, rfl, h⟩))
end
end Mine
end

section
open PySem PySem.W PyProof.Rows PySem.Calls
set_option maxRecDepth 100000
namespace Mine
/-- a pair's data -/
def dPair (e : DictEntry) : PyData := .tuple [.int (keyI e.key), .int (keyI e.val)]
def dItems (es : List DictEntry) : PyData := .list (es.map dPair)

theorem canLay_items : ∀ es : List DictEntry, PyData.canLayAll0 (es.map dPair) = true
  | [] => rfl
  | e :: es => by
    have := canLay_items es
    simp only [List.map_cons, PyData.canLayAll0, this, Bool.and_true, dPair, PyData.canLay0]
theorem depth_items : ∀ es : List DictEntry, PyData.depthAll (es.map dPair) ≤ 1
  | [] => Nat.zero_le _
  | e :: es => by
    have := depth_items es
    simp only [List.map_cons, PyData.depthAll, dPair, PyData.depth]
    omega
theorem shaped_items (es : List DictEntry) : SeqAt.shaped (dItems es) = true := by
  unfold SeqAt.shaped dItems
  rw [Bool.and_eq_true]
  refine ⟨canLay_items es, decide_eq_true ?_⟩
  have := depth_items es
  simp only [PyData.depth]; omega
theorem eqv_items (es : List DictEntry) : PyData.eqv (dItems es) (dItems es) = true := by
  unfold dItems
  rw [PyData.eqv]
  have : ∀ l : List DictEntry, PyData.eqvAll (l.map dPair) (l.map dPair) = true := by
    intro l
    induction l with
    | nil => rfl
    | cons e l ih => rw [List.map_cons, PyData.eqvAll, ih, Bool.and_true]; simp [dPair, PyData.eqv, PyData.eqvAll]
  exact this es

theorem reads_pairs {h : Heap} : ∀ {es : List DictEntry} {as : List Addr}, PairsAt h as es → (∀ e ∈ es, GE e) → ∃ bs, ReadsAll h (as.map Value.ref) (es.map dPair) bs
  | [], as, P, _ => by
    have : as = [] := List.length_eq_zero_iff.mp (by simpa using P.1)
    subst this; exact ⟨_, .nil⟩
  | e :: es, as, P, G => by
    cases as with
    | nil => have := P.1; simp at this
    | cons a as =>
      obtain ⟨bs, r⟩ := reads_pairs (es := es) (as := as) ⟨by have := P.1; simpa using this, fun j b hj => by
        obtain ⟨e', q1, q2⟩ := P.2 (j + 1) b (by simpa using hj)
        exact ⟨e', by simpa using q1, q2⟩⟩ fun x hx => G x (.tail _ hx)
      obtain ⟨e', q1, q2⟩ := P.2 0 a rfl
      obtain rfl : e = e' := by simpa using q1
      obtain ⟨k, t, v, u, _, _, _, _, rfl⟩ := G e (.head _)
      exact ⟨_, .cons (.tuple q2 rfl rfl (.cons (.int _ _) (.cons (.int _ _) .nil))) r⟩

theorem reads_items {h : Heap} {l : Addr} {as : List Addr} {es : List DictEntry} {c : Nat} (hl : h.get? l = some (listOf (as.map Value.ref).toArray c)) (P : PairsAt h as es) (G : Good es) : ∃ bs, Reads h (.ref l) (dItems es) bs := by
  obtain ⟨bs, r⟩ := reads_pairs P G.1
  exact ⟨_, .list hl rfl rfl r⟩

section
variable {prog : Program} {w : World} {A : Around} {E : Value → Shared → Prop} {s : Shared} {l₁ l₂ : Addr} {as bs : List Addr} {es : List DictEntry} {c d : Nat} {Q : Value → Shared → Prop}
theorem items_ne (h1 : s.heap.get? l₁ = some (listOf (as.map Value.ref).toArray c)) (P1 : PairsAt s.heap as es) (h2 : s.heap.get? l₂ = some (listOf (bs.map Value.ref).toArray d)) (P2 : PairsAt s.heap bs es) (G : Good es) (hu : A.units + 64 < cLine)
    (h : Q (.bool false) s) : wpAny (model prog w) A (compareOp .NotEq (.ref l₁) (.ref l₂)) Q E s := by
  obtain ⟨_, r1⟩ := reads_items h1 P1 G
  obtain ⟨_, r2⟩ := reads_items h2 P2 G
  exact ne_dataH r1 r2 (shaped_items es) (shaped_items es) hu (by rw [eqv_items]; exact h)
theorem items_eq (h1 : s.heap.get? l₁ = some (listOf (as.map Value.ref).toArray c)) (P1 : PairsAt s.heap as es) (h2 : s.heap.get? l₂ = some (listOf (bs.map Value.ref).toArray d)) (P2 : PairsAt s.heap bs es) (G : Good es) (hu : A.units + 64 < cLine)
    (h : Q (.bool true) s) : wpAny (model prog w) A (compareOp .Eq (.ref l₁) (.ref l₂)) Q E s := by
  obtain ⟨_, r1⟩ := reads_items h1 P1 G
  obtain ⟨_, r2⟩ := reads_items h2 P2 G
  exact eq_dataH r1 r2 (shaped_items es) (shaped_items es) hu (by rw [eqv_items]; exact h)
end
end Mine
end

section
open PySem PySem.W PyProof.Rows PySem.Calls
set_option maxRecDepth 100000
namespace Mine
section
variable (p : Params)
theorem f_keys : findObj (hd.heap_39 p) 145 (some (dictOf [] 0)) "keys" = some (.bind (.builtin "method_descriptor.__get__") (.builtin "dict.keys")) := by kernel_rfl
theorem f_class : findObj (hd.heap_39 p) 145 (some (dictOf [] 0)) "__class__" = some (.bind (.builtin "getset_descriptor.__get__") (.builtin "object.__class__")) := by kernel_rfl
end
theorem entry_dict_ga : entryFor table "dict.__getattribute__" = some Builtin.«object.__getattribute__» :=
  entryFor_alias (id' := "object.__getattribute__") (by kernel_rfl) (by decide +kernel) (by decide +kernel) (by kernel_rfl)
theorem sp_ga : splitId "dict.__getattribute__" = some ("dict", "__getattribute__") := by decide +kernel
theorem kd_ga : (Manifest.find? "dict").bind (·.attrs.lookup "__getattribute__") = some .slot ∨ (Manifest.find? "dict").bind (·.attrs.lookup "__getattribute__") = some .method := by
  first | exact .inl (by decide +kernel) | exact .inr (by decide +kernel)

section
variable {prog : Program} {w : World} {A : Around} {E : Value → Shared → Prop} {s : Shared}

theorem getattrBy_imm {x dx : Addr} {es : List DictEntry} {n : Nat} {name : Str} {t : Tok} {fill expr : Bool} {g a : Value} {Q : Value → Shared → Prop} {P : Params} (X : (hd.heap_39 P).In s.heap)
    (hx : s.heap.get? x = some (immO dx es n)) (hdx : s.heap.get? dx = some (dictOf [] 0)) (hf : findObj (hd.heap_39 P) 145 (some (dictOf [] 0)) name = some (.bind g a))
    (h : wpAny (model prog w) A.in1 (call g [a, .ref x, .ref 145]) (fun v s' => wpAny (model prog w) A (handedOut v) Q E s') (fun _ _ => False) s) :
    wpAny (model prog w) A (getAttrBy (.ref x) (.str name t) fill expr) Q E s := by
  obtain ⟨hp, gg, d, tk, os⟩ := s
  have I := imm_inst hx hdx
  have L0 := I.type (M := model prog w)
  have L1 := looks_findIn (M := model prog w) X (f_ga P)
  have L2 := looks_findIn (M := model prog w) X (f_getattr P)
  have L3 := looks_find (M := model prog w) X I hf
  have L4 : Looks (model prog w) hp (isInstance (.ref x) (.type "dict")) true := looks_isInst L0 (looks_mroIn X (f_mroD P))
  unfold getAttrBy
  refine wpAny_holding (wpAny_bind (L0.at (wpAny_bind (L1.at ?_))))
  show wpAny _ _ (getAttrByItsOwn _ _ _ _ _ _) _ _ _
  unfold getAttrByItsOwn
  refine wpAny_bind ((show Looks (model prog w) hp (hookBefore (.ref 145)) none from L2).at ?_)
  refine wpAny_bind (wpAny_attempt (wpAny_holding ?_))
  rw [show callGetattribute (.ref x) (.str name t) (.builtin "dict.__getattribute__") expr = boundAndCalled (.builtin "dict.__getattribute__") (.ref x) (.str name t) from by unfold callGetattribute; rw [if_neg (by simp [onTheHeap])]]
  unfold boundAndCalled
  refine wpAny_bind (wpAny_of_eq (PySem.F.slot_dict_getattribute.bind (.ref x)) ?_)
  refine call_dict_builtin sp_ga kd_ga (by decide +kernel) entry_dict_ga L4 (PySem.F.args_dict_getattribute_2 _ _) ?_
  unfold Builtin.«object.__getattribute__»
  refine wpAny_bind (wpAny_pure ?_)
  refine wpAny_bind (wpAny_pure ?_)
  refine wpAny_bind (L0.at ?_)
  refine wpAny_bind (L3.at ?_)
  show wpAny _ _ (holding [a] (call g [a, .ref x, .ref 145]) >>= ret) _ _ _
  refine wpAny_bind (wpAny_holding (wpAny_mono h (fun v s' z => wpAny_pure ⟨v, rfl, z⟩) fun _ _ z => z.elim))

theorem entry_md_get : entryFor table "method_descriptor.__get__" = some Builtin.«method_descriptor.__get__» := entryFor_of_tree (by kernel_rfl)

theorem slot_md : Slot "method_descriptor" "__get__" "method_descriptor.__get__" :=
  .of (owner := "method_descriptor") (n := "__get__") (by rw [typeLookup_type, builtinLookup_eq_fast]; kernel_rfl) (by decide +kernel) (by decide +kernel) (by decide +kernel)
    (by first | exact .inl (by decide +kernel) | exact .inr (by decide +kernel)) (by rw [isSubtype_type]; kernel_rfl)
theorem args_md (a b c : Value) : argsOk "method_descriptor.__get__" ⟨[a, b, c], []⟩ := by unfold argsOk; kernel_rfl
theorem type_keys : typeOf (.builtin "dict.keys") = pure (.type "method_descriptor") := by show builtinType _ = _; rw [builtinType_eq_fast]; kernel_rfl
theorem getattr_keys {x dx : Addr} {es : List DictEntry} {n : Nat} {Q : Option Value → Shared → Prop} {P : Params} (X : (hd.heap_39 P).In s.heap)
    (hx : s.heap.get? x = some (immO dx es n)) (hdx : s.heap.get? dx = some (dictOf [] 0))
    (h : ∀ v h' tk, (∀ b o, s.heap.get? b = some o → h'.get? b = some o) → Q (some v) { s with heap := h', toks := tk }) : wpAny (model prog w) A (getAttr? (.ref x) "keys") Q E s := by
  unfold getAttr? getAttrBy?
  refine wpAny_bind (wpAny_mkText (wpAny_bind (wpAny_attempt ?_)))
  refine getattrBy_imm X hx hdx (f_keys P) ?_
  refine wpAny_call (codeAny_call_builtin slot_md.plain entry_md_get (slot_md.check _ _ _ _ _ _ _ _ type_keys (args_md _ _ _) ?_))
  unfold Builtin.«method_descriptor.__get__»
  have I := imm_inst hx hdx
  have L0 := I.type (M := model prog w)
  have L4 : Looks (model prog w) s.heap (isInstance (.ref x) (.type "dict")) true := looks_isInst L0 (looks_mroIn X (f_mroD P))
  refine wpAny_bind (wpAny_pure ?_)
  have e1 : (Value.ref x == Value.none) = false := rfl
  have e2 : (Value.ref 145 == Value.none) = false := rfl
  simp only [e1, e2, Bool.false_eq_true, if_false, show Manifest.toldItsClass.contains "dict.keys" = false by decide +kernel]
  refine wpAny_bind (wpAny_bind (wpAny_of_eq (a := (("keys" : Str), Value.type "dict")) (by kernel_rfl) ?_))
  refine wpAny_bind (L4.at ?_)
  refine wpAny_pure ?_
  refine wpAny_bind (wpAny_newObj_type (wpAny_pure ?_))
  dsimp only
  exact wpAny_pure (wpAny_pure (h _ _ _ fun b o e => Heap.get?_push_of_some _ e))
end
end Mine
end

section
open PySem PySem.W PyProof.Rows PySem.Calls
set_option maxRecDepth 100000
namespace Mine

/-- a dict of the law's: a plain one, or an immutable one -/
inductive DArg (h : Heap) (a : Addr) (es : List DictEntry) : Prop
  | dic {n : Nat} : h.get? a = some (dictOf es n) → Good es → 2 < a → DArg h a es
  | imm {dx : Addr} {n : Nat} : h.get? a = some (immO dx es n) → h.get? dx = some (dictOf [] 0) → Good es → 2 < a → DArg h a es
theorem DArg.keeps {h h' : Heap} {a : Addr} {es : List DictEntry} (D : DArg h a es) (k : ∀ b o, h.get? b = some o → h'.get? b = some o) : DArg h' a es := by
  cases D with
  | dic e G l => exact .dic (k _ _ e) G l
  | imm e e' G l => exact .imm (k _ _ e) (k _ _ e') G l
theorem DArg.dl {M : Model} {h : Heap} {a : Addr} {es : List DictEntry} {P : Params} (X : (hd.heap_39 P).In h) (D : DArg h a es) : DL M h a es := by
  cases D with
  | dic e G l => exact DL.ofDict e G l
  | imm e e' G l => exact DL.ofImm X e G l
theorem DArg.good {h : Heap} {a : Addr} {es : List DictEntry} (D : DArg h a es) : Good es := by cases D <;> assumption
theorem DArg.low {h : Heap} {a : Addr} {es : List DictEntry} (D : DArg h a es) : 2 < a := by cases D <;> assumption
theorem DArg.esAt {h : Heap} {a : Addr} {es : List DictEntry} (D : DArg h a es) : ∃ ep, EsAt h a es ep := by
  cases D with
  | dic e => exact ⟨_, _, e, rfl⟩
  | imm e => exact ⟨_, _, e, rfl⟩

section
variable {prog : Program} {w : World} {A : Around} {E : Value → Shared → Prop} {s : Shared}

theorem readDirectly_D {M : Model} {h : Heap} {a : Addr} {es : List DictEntry} (D : DL M h a es) : Looks M h (Builtin.Dict.readDirectly (.ref a)) true := by
  unfold Builtin.Dict.readDirectly
  refine D.isD.andThen ?_
  simp only [Bool.not_true, Bool.false_eq_true, if_false]
  exact D.iter.andThen .now

theorem updateFrom_D {id : String} {d a : Addr} {od : Obj} {esd es : List DictEntry} {n : Nat} {res : Value} {Q : Fin → Shared → Prop} {P : Params} (X : (hd.heap_39 P).In s.heap)
    (hod : s.heap.get? d = some od) (hdd : od.data = .dict esd.toArray n) (G : Good esd) (hda : d ≠ a) (D : DArg s.heap a es)
    (h : ∀ h' tk n', (∀ b o, b ≠ d → s.heap.get? b = some o → h'.get? b = some o) → h'.get? d = some (withEs od (mrg esd es) n') → Q (.done (.ret res)) { s with heap := h', toks := tk }) :
    wpAny (model prog w) A (Builtin.Dict.updateFrom id d (.ref a) [] res) Q E s := by
  have rest : ∀ (h₁ : Heap) (tk₁ : Nat), (∀ b o, s.heap.get? b = some o → h₁.get? b = some o) →
      wpAny (model prog w) A (Builtin.Dict.merge id d (.ref a) >>= fun _ => Builtin.Dict.addKeywords d [] >>= fun _ => ret res) Q E { s with heap := h₁, toks := tk₁ } := by
    intro h₁ tk₁ k
    have L := readDirectly_D (DArg.dl (M := model prog w) (X.keeps k) (D.keeps k))
    obtain ⟨m, oo, hoo, hdo⟩ := D.esAt
    refine wpAny_bind ?_
    unfold Builtin.Dict.merge
    refine wpAny_bind (L.at ?_)
    simp only [if_true]
    refine wpAny_bind (wpAny_pure ?_)
    refine mergeDict_good (s := { s with heap := h₁, toks := tk₁ }) hda (low_ne D.low) (k _ _ hod) hdd G (k _ _ hoo) hdo D.good fun h' n' hs' hd' => ?_
    unfold Builtin.Dict.addKeywords
    refine wpAny_bind (wpAny_pure ?_)
    exact wpAny_pure (h h' tk₁ n' (fun b o hb e => hs'.extBut b o hb (k b o e)) hd')
  unfold Builtin.Dict.updateFrom
  cases D with
  | dic e H l =>
    refine wpAny_bind ((looks_type (M := model prog w) e).here ?_)
    rw [if_neg (show ¬ ((Value.type "dict" != Value.type "dict") = true) by decide)]
    exact rest s.heap s.toks fun _ _ e => e
  | imm e e' H l =>
    refine wpAny_bind ((looks_type (M := model prog w) e).here ?_)
    rw [if_pos (show ((Value.ref 145 != Value.type "dict") = true) by decide)]
    refine wpAny_bind (getattr_keys X e e' fun v h' tk k => ?_)
    simp only [Option.isNone_some, Bool.false_eq_true, if_false]
    exact rest h' tk k

theorem sp_update : splitId "dict.update" = some ("dict", "update") := by decide +kernel
theorem kd_update : (Manifest.find? "dict").bind (·.attrs.lookup "update") = some .slot ∨ (Manifest.find? "dict").bind (·.attrs.lookup "update") = some .method := by
  first | exact .inl (by decide +kernel) | exact .inr (by decide +kernel)

/-- dict.update(d, a) -/
theorem update_D {d a : Addr} {esd es : List DictEntry} {dx : Addr} {n : Nat} {Q : Value → Shared → Prop} {P : Params} (X : (hd.heap_39 P).In s.heap)
    (hod : s.heap.get? d = some (immO dx esd n)) (G : Good esd) (l : 2 < d) (hda : d ≠ a) (D : DArg s.heap a es)
    (h : ∀ h' tk n', Heap.ExtBut d s.heap h' → h'.get? d = some (immO dx (mrg esd es) n') → Q .none { s with heap := h', toks := tk }) :
    wpAny (model prog w) A (call (.builtin "dict.update") [.ref d, .ref a]) Q E s := by
  have T : DL (model prog w) s.heap d esd := DL.ofImm X hod G l
  refine call_dict_builtin sp_update kd_update (by decide +kernel) PySem.F.entry_dict_update T.isD (PySem.F.args_dict_update_2 _ _) ?_
  unfold Builtin.«dict.update»
  refine wpAny_bind (wpAny_bind (notOrdered_DL T ?_))
  refine wpAny_bind (wpAny_pure ?_)
  refine wpAny_pure ?_
  show wpAny _ _ (Builtin.Dict.updateFrom "dict.update" d (.ref a) [] .none) _ _ s
  exact updateFrom_D X hod rfl G hda D fun h' tk n' k e => ⟨_, rfl, h h' tk n' k e⟩
end
end Mine
end

section
open PySem PySem.W PyProof.Rows PySem.Calls
set_option maxRecDepth 100000
namespace Mine
section
variable {M : Model} {h : Heap}
theorem p_made (X : (hd.heap_39 M.w.params).In h) : Looks M h (Bind.madeBy (.ref 145)) (some "dict.__new__") := Looks.of_peek X (by kernel_rfl)
theorem p_check (X : (hd.heap_39 M.w.params).In h) (a : Value) : Looks M h (checkBuiltinCall "dict.__new__" ⟨[.ref 145, a], []⟩) () := Looks.of_peek X (by kernel_rfl)
theorem p_check0 (X : (hd.heap_39 M.w.params).In h) : Looks M h (checkBuiltinCall "dict.__new__" ⟨[.ref 145], []⟩) () := Looks.of_peek X (by kernel_rfl)
theorem p_isType (X : (hd.heap_39 M.w.params).In h) : Looks M h (isType (.ref 145)) true := Looks.of_peek X (by kernel_rfl)
theorem p_sub (X : (hd.heap_39 M.w.params).In h) : Looks M h (isSubtype (.ref 145) (.type "dict")) true := Looks.of_peek X (by kernel_rfl)
theorem p_mro (X : (hd.heap_39 M.w.params).In h) : Looks M h (mroOf (.ref 145)) [.ref 145, .type "dict", .type "object"] := Looks.of_peek X (by kernel_rfl)
theorem p_hasDel (X : (hd.heap_39 M.w.params).In h) : Looks M h (classHasDel 145) false := Looks.of_peek X (by kernel_rfl)
theorem p_call (X : (hd.heap_39 M.w.params).In h) : Looks M h (specialOf (.ref 145) "__call__") (some (.builtin "type.__call__")) := Looks.of_peek X (by kernel_rfl)
theorem p_inst (X : (hd.heap_39 M.w.params).In h) : Looks M h (isInstance (.ref 145) (.type "type")) true := Looks.of_peek X (by kernel_rfl)
theorem p_init (X : (hd.heap_39 M.w.params).In h) : Looks M h (typeLookup (.ref 145) "__init__") (some (.builtin "dict.__init__")) := Looks.of_peek X (by kernel_rfl)
theorem p_self (X : (hd.heap_39 M.w.params).In h) : Looks M h (isSubtype (.ref 145) (.ref 145)) true := Looks.of_peek X (by kernel_rfl)
end

section
variable {prog : Program} {w : World} {A : Around} {R : Result → Shared → Prop} {h : Heap} {g : Array GenState} {d : Drawn} {t : Nat} {os : OsState}

theorem dn_entry : entryFor table "dict.__new__" = some Builtin.«dict.__new__» := entryFor_of_tree (by kernel_rfl)
theorem dn_plain : plainId "dict.__new__" = true := by decide +kernel

theorem new_imm {rest : List Value} (X : (hd.heap_39 w.params).In h) (hc : Looks (model prog w) h (checkBuiltinCall "dict.__new__" ⟨.ref 145 :: rest, []⟩) ())
    (hq : R (.ok (.ret (.ref (h.objs.size + 1)))) ⟨(h.push emptyDict).push (immO h.objs.size [] 0), g, d, t, os⟩) :
    codeAny (model prog w) A (.call (.builtin "dict.__new__") ⟨.ref 145 :: rest, []⟩) R ⟨h, g, d, t, os⟩ := by
  refine codeAny_call_builtin dn_plain dn_entry (hc.at ?_)
  have L1 := p_isType (M := model prog w) X
  have L2 := p_sub (M := model prog w) X
  have L3 := p_mro (M := model prog w) X
  have L4 := p_hasDel (M := model prog w) X
  unfold Builtin.«dict.__new__»
  refine wpAny_bind (L1.at ?_)
  simp only [Bool.not_true, Bool.false_eq_true, if_false]
  refine wpAny_bind (L2.at ?_)
  simp only [Bool.not_true, Bool.false_eq_true, if_false]
  refine wpAny_bind (L3.at ?_)
  rw [if_neg (by decide)]
  refine wpAny_bind (wpAny_alloc (wpAny_bind ?_))
  show wpAny _ _ (newObjAsIs _ _ _) _ _ _
  unfold newObjAsIs
  refine wpAny_bind (wpAny_alloc (wpAny_bind (L4.keeps (fun b o e => Heap.get?_push_of_some _ (Heap.get?_push_of_some _ e)) |>.at ?_)))
  simp only [Bool.false_eq_true, if_false]
  refine wpAny_pure (wpAny_pure ?_)
  rw [Heap.size_push]
  exact hq

end
end Mine
end

section
open PySem PySem.W PyProof.Rows PySem.Calls
set_option maxRecDepth 100000
namespace Mine
section
variable {prog : Program} {w : World} {A : Around} {R : Result → Shared → Prop} {h : Heap} {g : Array GenState} {d : Drawn} {t : Nat} {os : OsState}
theorem make_imm {rest : List Value} (X : (hd.heap_39 w.params).In h) (hc : Looks (model prog w) h (checkBuiltinCall "dict.__new__" ⟨.ref 145 :: rest, []⟩) ())
    (hq : codeAny (model prog w) (A.under (.builtin "type.__call__" ⟨.ref 145 :: rest, []⟩)) (.call (.builtin "dict.__init__") ⟨.ref (h.objs.size + 1) :: rest, []⟩) (InitBack (h.objs.size + 1) R) ⟨(h.push emptyDict).push (immO h.objs.size [] 0), g, d, t, os⟩) :
    codeAny (model prog w) A (.call (.ref 145) ⟨rest, []⟩) R ⟨h, g, d, t, os⟩ := by
  refine codeAny_of_tree ?_
  show wpAny _ _ (callAny (.ref 145) _) _ _ _
  refine nd_load (X 145 _ rfl) ?_
  show wpAny _ _ (callAny.viaDunder (.ref 145) _) _ _ _
  unfold callAny.viaDunder
  refine wpAny_bind ((p_call (M := model prog w) X).at ?_)
  dsimp only
  rw [tc_bind]
  refine wpAny_bind (wpAny_pure (wpAny_bind (wpAny_pure ?_)))
  refine wpAny_pure (a := Fin.again (.call (.builtin "type.__call__") ⟨.ref 145 :: rest, []⟩)) (And.intro rfl ?_)
  refine codeAny_call_builtin_at (Code.quiet_builtin _ (by decide +kernel)) entry_typeCall (W.check_slot tc_kind tc_split (p_inst (M := model prog w) X) (tc_args _ _ _) ?_)
  unfold Builtin.«type.__call__»
  dsimp only
  rw [if_neg (by decide)]
  refine wpAny_bind ((p_mro (M := model prog w) X).at ?_)
  rw [if_neg (by decide)]
  refine wpAny_bind ((p_made (M := model prog w) X).at ?_)
  dsimp only
  refine wpAny_bind (wpAny_pure ?_)
  refine wpAny_bind (wpAny_holding (wpAny_call (new_imm X hc ?_)))
  have k : ∀ b o, h.get? b = some o → ((h.push emptyDict).push (immO h.objs.size [] 0)).get? b = some o := fun b o e => Heap.get?_push_of_some _ (Heap.get?_push_of_some _ e)
  have hx : ((h.push emptyDict).push (immO h.objs.size [] 0)).get? (h.objs.size + 1) = some (immO h.objs.size [] 0) := by heap_get
  have T : Looks (model prog w) ((h.push emptyDict).push (immO h.objs.size [] 0)) (typeOf (.ref (h.objs.size + 1))) (.ref 145) := looks_type hx
  refine wpAny_bind ((looks_isInst T (p_self (M := model prog w) (X.keeps k))).at ?_)
  simp only [Bool.not_true, Bool.false_eq_true, if_false]
  refine wpAny_bind (wpAny_holding ?_)
  unfold callSpecial?
  refine wpAny_bind ((looks_special T (p_init (M := model prog w) (X.keeps k))).at ?_)
  refine wpAny_holding (wpAny_bind (wpAny_of_eq (PySem.F.slot_dict_init.bind _) ?_))
  refine wpAny_bind (wpAny_call ?_)
  refine codeAny_mono hq fun r s' z => ?_
  rcases r with e | (v | _ | _ | _) <;> first | exact z | exact z.elim | skip
  obtain ⟨rfl, z⟩ := z
  exact wpAny_pure (wpAny_pure z)
end
end Mine
end

section
open PySem PySem.W PyProof.Rows PySem.Calls
set_option maxRecDepth 100000
namespace Mine
section
variable {prog : Program} {w : World} {A : Around} {E : Value → Shared → Prop} {s : Shared}

theorem sp_init : splitId "dict.__init__" = some ("dict", "__init__") := by decide +kernel
theorem kd_init : (Manifest.find? "dict").bind (·.attrs.lookup "__init__") = some .slot ∨ (Manifest.find? "dict").bind (·.attrs.lookup "__init__") = some .method := by
  first | exact .inl (by decide +kernel) | exact .inr (by decide +kernel)
theorem pl_init : plainId "dict.__init__" = true := by decide +kernel

theorem low_size {h : Heap} (x : h.NoLimit) : 2 < h.objs.size := let ⟨_, hn, _⟩ := x; hn.lt

/-- immutabledict(a) of a plain dict or an immutable one -/
theorem imm_of {a : Addr} {es : List DictEntry} {Q : Value → Shared → Prop} (X : (hd.heap_39 w.params).In s.heap) (hl : s.heap.NoLimit) (D : DArg s.heap a es)
    (h : ∀ h' tk x dx n, (∀ b o, s.heap.get? b = some o → h'.get? b = some o) → h'.get? x = some (immO dx es n) → h'.get? dx = some (dictOf [] 0) → s.heap.objs.size ≤ x → s.heap.objs.size ≤ dx → Q (.ref x) { s with heap := h', toks := tk }) :
    wpAny (model prog w) A (call (.ref 145) [.ref a]) Q E s := by
  obtain ⟨hp, g, d, tk, os⟩ := s
  refine wpAny_call (make_imm X (p_check (M := model prog w) X (.ref a)) ?_)
  have k : ∀ b o, hp.get? b = some o → ((hp.push emptyDict).push (immO hp.objs.size [] 0)).get? b = some o := fun b o e => Heap.get?_push_of_some _ (Heap.get?_push_of_some _ e)
  have hx : ((hp.push emptyDict).push (immO hp.objs.size [] 0)).get? (hp.objs.size + 1) = some (immO hp.objs.size [] 0) := by heap_get
  have hdx : ((hp.push emptyDict).push (immO hp.objs.size [] 0)).get? hp.objs.size = some (dictOf [] 0) := Heap.get?_push_of_some _ (Heap.get?_push_size _ rfl)
  have low : 2 < hp.objs.size := low_size hl
  have T : DL (model prog w) ((hp.push emptyDict).push (immO hp.objs.size [] 0)) (hp.objs.size + 1) [] := DL.ofImm (X.keeps k) hx Good.nil (Nat.lt_succ_of_lt low)
  have hal : a < hp.objs.size := let ⟨_, _, q, _⟩ := D.esAt; Heap.lt_size q
  refine code_dict_builtin sp_init kd_init pl_init PySem.F.entry_dict_init T.isD (PySem.F.args_dict_init_2 _ _) ?_
  unfold Builtin.«dict.__init__»
  refine wpAny_bind (wpAny_bind (notOrdered_DL T ?_))
  refine wpAny_bind (wpAny_pure ?_)
  refine wpAny_pure ?_
  show wpAny _ _ (Builtin.Dict.updateFrom "dict.__init__" (hp.objs.size + 1) (.ref a) [] .none) _ _ _
  refine updateFrom_D (X.keeps k) hx rfl Good.nil (Nat.ne_of_gt (Nat.lt_succ_of_lt hal)) (D.keeps k) fun h' tk' n' kk e => ⟨_, rfl, ?_⟩
  rw [mrg_nil_left D.good] at e
  refine ⟨rfl, h h' tk' (hp.objs.size + 1) hp.objs.size n' (fun b o q => kk b o ?_ (k b o q)) e (kk _ _ ?_ hdx) (Nat.le_succ _) (Nat.le_refl _)⟩
  · exact Nat.ne_of_lt (Nat.lt_succ_of_lt (Heap.lt_size q))
  · exact Nat.ne_of_lt (Nat.lt_succ_self _)

/-- immutabledict() -/
theorem imm_new {Q : Value → Shared → Prop} (X : (hd.heap_39 w.params).In s.heap) (hl : s.heap.NoLimit)
    (h : Q (.ref (s.heap.objs.size + 1)) { s with heap := (s.heap.push emptyDict).push (immO s.heap.objs.size [] 0) }) :
    wpAny (model prog w) A (call (.ref 145) []) Q E s := by
  obtain ⟨hp, g, d, tk, os⟩ := s
  refine wpAny_call (make_imm X (p_check0 (M := model prog w) X) ?_)
  have k : ∀ b o, hp.get? b = some o → ((hp.push emptyDict).push (immO hp.objs.size [] 0)).get? b = some o := fun b o e => Heap.get?_push_of_some _ (Heap.get?_push_of_some _ e)
  have hx : ((hp.push emptyDict).push (immO hp.objs.size [] 0)).get? (hp.objs.size + 1) = some (immO hp.objs.size [] 0) := by heap_get
  have low : 2 < hp.objs.size := low_size hl
  have T : DL (model prog w) ((hp.push emptyDict).push (immO hp.objs.size [] 0)) (hp.objs.size + 1) [] := DL.ofImm (X.keeps k) hx Good.nil (Nat.lt_succ_of_lt low)
  refine code_dict_builtin sp_init kd_init pl_init PySem.F.entry_dict_init T.isD (PySem.F.args_dict_init_1 _) ?_
  unfold Builtin.«dict.__init__»
  refine wpAny_bind (wpAny_bind (notOrdered_DL T ?_))
  refine wpAny_bind (wpAny_pure ?_)
  refine wpAny_pure ?_
  show wpAny _ _ (Builtin.Dict.addKeywords (hp.objs.size + 1) [] >>= fun _ => ret .none) _ _ _
  unfold Builtin.Dict.addKeywords
  refine wpAny_bind (wpAny_pure ?_)
  exact wpAny_pure ⟨_, rfl, rfl, h⟩

/-- dict(a) of a plain dict -/
theorem dict_of {a : Addr} {es : List DictEntry} {n₀ : Nat} {Q : Value → Shared → Prop} (hl : s.heap.NoLimit) (X : (hd.heap_39 w.params).In s.heap) (ha : s.heap.get? a = some (dictOf es n₀)) (G : Good es) (la : 2 < a)
    (h : ∀ h' tk n, (∀ b o, s.heap.get? b = some o → h'.get? b = some o) → h'.get? s.heap.objs.size = some (dictOf es n) → Q (.ref s.heap.objs.size) { s with heap := h', toks := tk }) :
    wpAny (model prog w) A (call (.type "dict") [.ref a]) Q E s := by
  refine callType_codes (Q₁ := fun obj s₁ => obj = .ref s.heap.objs.size ∧ s₁ = { s with heap := s.heap.push { cls := .type "dict", data := .dict #[] } }) PySem.F.kt_called_dict (PySem.F.kt_typeCall_dict_1 _) PySem.F.entry_dict_init
    (kt_code_dict_new _ ⟨rfl, rfl⟩) fun obj s₁ h₁ => ?_
  obtain ⟨rfl, rfl⟩ := h₁
  have k : ∀ b o, s.heap.get? b = some o → (s.heap.push emptyDict).get? b = some o := fun b o e => Heap.get?_push_of_some _ e
  have hx : (s.heap.push emptyDict).get? s.heap.objs.size = some (dictOf [] 0) := Heap.get?_push_size _ rfl
  have low : 2 < s.heap.objs.size := low_size hl
  have T : DL (model prog w) (s.heap.push emptyDict) s.heap.objs.size [] := DL.ofDict hx Good.nil low
  have hal : a < s.heap.objs.size := Heap.lt_size ha
  refine ⟨⟨_, hx, rfl⟩, PySem.F.args_dict_init_2 _ _, ?_⟩
  unfold Builtin.«dict.__init__»
  refine wpAny_bind (wpAny_bind (notOrdered_DL T ?_))
  refine wpAny_bind (wpAny_pure ?_)
  refine wpAny_pure ?_
  show wpAny _ _ (Builtin.Dict.updateFrom "dict.__init__" s.heap.objs.size (.ref a) [] .none) _ _ _
  refine updateFrom_D (s := { s with heap := s.heap.push emptyDict }) (X.keeps k) hx rfl Good.nil (Nat.ne_of_gt hal) (.dic (k _ _ ha) G la) fun h' tk' n' kk e => ⟨rfl, ?_⟩
  rw [mrg_nil_left G] at e
  exact h h' tk' n' (fun b o q => kk b o (Nat.ne_of_lt (Heap.lt_size q)) (k b o q)) e
end
end Mine
end

section
open PySem PySem.W PyProof.Rows PySem.Calls
set_option maxRecDepth 100000
namespace Mine
section
variable {prog : Program} {w : World} {A : Around} {E : Value → Shared → Prop} {s : Shared}

theorem toArray_isEmpty (es : List DictEntry) : es.toArray.isEmpty = es.isEmpty := by cases es <;> rfl

theorem copy_D {id : String} {a : Addr} {es : List DictEntry} {Q : Value → Shared → Prop} (X : (hd.heap_39 w.params).In s.heap) (D : DArg s.heap a es)
    (h : Q (.ref s.heap.objs.size) { s with heap := s.heap.push (dictOf es 0) }) : wpAny (model prog w) A (Builtin.Dict.copyOf id (.ref a)) Q E s := by
  have L := readDirectly_D (DArg.dl (M := model prog w) X D)
  obtain ⟨ep, o, ho, hdo⟩ := D.esAt
  unfold Builtin.Dict.copyOf
  refine wpAny_bind (wpAny_pure ?_)
  refine wpAny_bind ?_
  unfold Builtin.Dict.showsAll
  rw [if_neg (by rw [low_ne D.low]; exact Bool.false_ne_true)]
  refine wpAny_pure ?_
  refine wpAny_bind (wpAny_dictEntries ho hdo ?_)
  refine wpAny_ite_split (fun he => ?_) (fun _ => ?_)
  · rw [toArray_isEmpty] at he
    obtain rfl : es = [] := List.isEmpty_iff.mp he
    refine wpAny_bind (wpAny_rule ?_)
    exact wpAny_newObj_type h
  · refine wpAny_bind (L.here ?_)
    simp only [if_true]
    refine wpAny_bind (wpAny_entriesForEmpty (knd := intKind prog w) ho hdo (keysOf_good D.good) ?_)
    exact wpAny_newObj_type h (by show es.toArray.size ≤ sizeLine + 1; rw [List.size_toArray]; exact Nat.le_succ_of_le (size4 D.good.len))

theorem orOf_D {id : String} {l r : Addr} {el er : List DictEntry} {Q : Fin → Shared → Prop} (X : (hd.heap_39 w.params).In s.heap) (hl : s.heap.NoLimit) (Dl : DArg s.heap l el) (Dr : DArg s.heap r er)
    (h : ∀ h' tk n, (∀ b o, s.heap.get? b = some o → h'.get? b = some o) → h'.get? s.heap.objs.size = some (dictOf (mrg el er) n) → Q (.done (.ret (.ref s.heap.objs.size))) { s with heap := h', toks := tk }) :
    wpAny (model prog w) A (do
      if !(← isInstance (.ref l) (.type "dict") <&&> isInstance (.ref r) (.type "dict")) then rule s!"{id}.not-a-dict"; return ← ret .notImplemented
      let new ← Builtin.Dict.copyOf id (.ref l)
      holding [new] (Builtin.Dict.updateFrom id (← Builtin.Dict.addrOf new) (.ref r) [] new)) Q E s := by
  have L1 := (DArg.dl (M := model prog w) X Dl).isD
  have L2 := (DArg.dl (M := model prog w) X Dr).isD
  refine wpAny_bind ?_
  refine wpAny_bind (L1.here ?_)
  refine L2.here ?_
  simp only [Bool.not_true, Bool.false_eq_true, if_false]
  refine wpAny_bind (copy_D X Dl ?_)
  refine wpAny_bind (wpAny_pure ?_)
  have k : ∀ b o, s.heap.get? b = some o → (s.heap.push (dictOf el 0)).get? b = some o := fun b o e => Heap.get?_push_of_some _ e
  have hr : r < s.heap.objs.size := let ⟨_, _, q, _⟩ := Dr.esAt; Heap.lt_size q
  refine wpAny_holding (updateFrom_D (s := { s with heap := s.heap.push (dictOf el 0) }) (X.keeps k) (Heap.get?_push_size _ rfl) rfl Dl.good (Nat.ne_of_gt hr) (Dr.keeps k) fun h' tk n kk e => ?_)
  exact h h' tk n (fun b o q => kk b o (Nat.ne_of_lt (Heap.lt_size q)) (k b o q)) e

theorem sp_or : splitId "dict.__or__" = some ("dict", "__or__") := by decide +kernel
theorem kd_or : (Manifest.find? "dict").bind (·.attrs.lookup "__or__") = some .slot ∨ (Manifest.find? "dict").bind (·.attrs.lookup "__or__") = some .method := by
  first | exact .inl (by decide +kernel) | exact .inr (by decide +kernel)
theorem sp_ror : splitId "dict.__ror__" = some ("dict", "__ror__") := by decide +kernel
theorem kd_ror : (Manifest.find? "dict").bind (·.attrs.lookup "__ror__") = some .slot ∨ (Manifest.find? "dict").bind (·.attrs.lookup "__ror__") = some .method := by
  first | exact .inl (by decide +kernel) | exact .inr (by decide +kernel)

theorem or_call {l r : Addr} {el er : List DictEntry} {Q : Value → Shared → Prop} (X : (hd.heap_39 w.params).In s.heap) (hl : s.heap.NoLimit) (Dl : DArg s.heap l el) (Dr : DArg s.heap r er)
    (h : ∀ h' tk n, (∀ b o, s.heap.get? b = some o → h'.get? b = some o) → h'.get? s.heap.objs.size = some (dictOf (mrg el er) n) → Q (.ref s.heap.objs.size) { s with heap := h', toks := tk }) :
    wpAny (model prog w) A (call (.builtin "dict.__or__") [.ref l, .ref r]) Q E s := by
  refine call_dict_builtin sp_or kd_or (by decide +kernel) PySem.F.entry_dict_or (DArg.dl (M := model prog w) X Dl).isD (PySem.F.args_dict_or_2 _ _) ?_
  unfold Builtin.«dict.__or__»
  refine wpAny_bind (wpAny_bind (notOrdered_DL (DArg.dl (M := model prog w) X Dl) ?_))
  refine wpAny_bind (wpAny_pure ?_)
  refine wpAny_pure ?_
  exact orOf_D X hl Dl Dr fun h' tk n k e => ⟨_, rfl, h h' tk n k e⟩
theorem ror_call {l r : Addr} {el er : List DictEntry} {Q : Value → Shared → Prop} (X : (hd.heap_39 w.params).In s.heap) (hl : s.heap.NoLimit) (Dl : DArg s.heap l el) (Dr : DArg s.heap r er)
    (h : ∀ h' tk n, (∀ b o, s.heap.get? b = some o → h'.get? b = some o) → h'.get? s.heap.objs.size = some (dictOf (mrg el er) n) → Q (.ref s.heap.objs.size) { s with heap := h', toks := tk }) :
    wpAny (model prog w) A (call (.builtin "dict.__ror__") [.ref r, .ref l]) Q E s := by
  refine call_dict_builtin sp_ror kd_ror (by decide +kernel) PySem.F.entry_dict_ror (DArg.dl (M := model prog w) X Dr).isD (PySem.F.args_dict_ror_2 _ _) ?_
  unfold Builtin.«dict.__ror__»
  refine wpAny_bind (wpAny_bind (notOrdered_DL (DArg.dl (M := model prog w) X Dr) ?_))
  refine wpAny_bind (wpAny_pure ?_)
  refine wpAny_pure ?_
  exact orOf_D X hl Dl Dr fun h' tk n k e => ⟨_, rfl, h h' tk n k e⟩
end
end Mine
end

section
open PySem PySem.W PyProof.Rows PySem.Calls
set_option maxRecDepth 100000
namespace Mine
section
variable {prog : Program} {w : World} {A : Around} {E : Value → Shared → Prop} {s : Shared}

theorem mergeMapping_D {d a : Addr} {od : Obj} {esd es : List DictEntry} {n : Nat} {Q : Unit → Shared → Prop} {P : Params} (X : (hd.heap_39 P).In s.heap)
    (hod : s.heap.get? d = some od) (hdd : od.data = .dict esd.toArray n) (G : Good esd) (hda : d ≠ a) (D : DArg s.heap a es)
    (h : ∀ h' n', Heap.SameBut d s.heap h' → h'.get? d = some (withEs od (mrg esd es) n') → Q () { s with heap := h' }) :
    wpAny (model prog w) A (mergeMapping d (.ref a) false) Q E s := by
  have L := DArg.dl (M := model prog w) X D
  obtain ⟨m, oo, hoo, hdo⟩ := D.esAt
  have H := D.good
  unfold mergeMapping
  refine wpAny_bind (L.isD.here ?_)
  simp only [if_true]
  refine wpAny_bind (L.iter.here ?_)
  refine wpAny_bind (wpAny_pure ?_)
  simp only [beq_self_eq_true]
  rw [if_neg (by rw [low_ne D.low]; exact Bool.false_ne_true)]
  refine wpAny_bind (wpAny_dictEntries hod hdd ?_)
  have rest : wpAny (model prog w) A (do
      let size := (← dictEntries a).size
      let epoch ← dictEpoch a
      for i in List.range size do
        let some e := (← dictEntries a)[i]? | unsupported "dict.changed-during-merge"
        holding [e.key, e.val] do
          if false then
            if (← dictFind d e.key e.hash).isSome then rule "dict.merge.duplicate-key"; raiseNew (← newExc (.type "KeyError") [e.key])
          dictPut d e.hash e.key e.val
        if (← dictEpoch a) != epoch then unsupported "dict.changed-during-merge") Q E s := by
    refine wpAny_bind (wpAny_dictEntries hoo hdo ?_)
    refine wpAny_bind (wpAny_dictEpoch hoo hdo ?_)
    refine wpAny_bind ?_
    refine wpAny_forIn_list _
      (fun rest _ s' => ∃ h' i n', s' = { s with heap := h' } ∧ rest = List.range' i (es.length - i) ∧ i ≤ es.length ∧ h'.get? d = some (withEs od (mrg esd (es.take i)) n') ∧ h'.get? a = some oo ∧ Heap.SameBut d s.heap h')
      _ ?_ ?_ _ _ ⟨s.heap, 0, n, rfl, by simp [List.range_eq_range'], Nat.zero_le _, by
        simp only [List.take_zero, mrg_nil]
        obtain ⟨c, dd, dt, sl⟩ := od
        simp only at hdd; subst hdd; exact hod, hoo, Heap.SameBut.refl _ _⟩
    · rintro x rest b s' ⟨h', i, n', rfl, hr, hi, hd', hoo', hs'⟩
      have hlt : i < es.length := by
        rcases Nat.lt_or_ge i es.length with h | h
        · exact h
        · rw [Nat.sub_eq_zero_of_le h] at hr; simp at hr
      obtain ⟨rfl, hrest⟩ : x = i ∧ rest = List.range' (i + 1) (es.length - (i + 1)) := by
        have e : es.length - i = (es.length - (i + 1)) + 1 := by omega
        rw [e, List.range'_succ] at hr
        injection hr with h1 h2
        exact ⟨h1, h2⟩
      refine wpAny_bind (wpAny_dictEntries hoo' hdo ?_)
      rw [List.getElem?_toArray, List.getElem?_eq_getElem hlt]
      refine wpAny_bind (wpAny_holding ?_)
      simp only [Bool.false_eq_true, if_false]
      refine put_good (s := { s with heap := h' }) hd' rfl (G.mrg (H.take x)) (H.1 _ (List.getElem_mem hlt)) fun h'' n'' hs'' hd'' => ?_
      have hoo'' : h''.get? a = some oo := (hs''.2 a (Ne.symm hda)).trans hoo'
      refine wpAny_bind (wpAny_dictEpoch hoo'' hdo ?_)
      rw [if_neg (by simp)]
      exact wpAny_pure ⟨h'', x + 1, n'', rfl, hrest, hlt, by rw [mrg_take_succ esd es x _ (List.getElem?_eq_getElem hlt)]; exact hd'', hoo'', hs'.trans hs''⟩
    · rintro b s' ⟨h', i, n', rfl, hr, hi, hd', hoo', hs'⟩
      have hin : i = es.length := by
        rcases Nat.lt_or_ge i es.length with h | h
        · have e : es.length - i = (es.length - (i + 1)) + 1 := by omega
          rw [e, List.range'_succ] at hr; exact nomatch hr
        · exact Nat.le_antisymm hi h
      rw [hin, List.take_length] at hd'
      exact wpAny_pure (h h' n' hs' hd')
  refine wpAny_ite_split (fun _ => ?_) (fun _ => rest)
  refine wpAny_bind (wpAny_dictEntries hoo hdo ?_)
  refine wpAny_bind ?_
  rw [← Array.forIn_toList]
  refine wpAny_forIn_list _ (fun rest _ s' => s' = s ∧ ∀ e ∈ rest, GE e) _ ?_ ?_ _ _ ⟨rfl, by simpa using H.1⟩
  · rintro e r b s' ⟨rfl, hr⟩
    obtain ⟨k, t, v, u, _, _, _, _, rfl⟩ := hr e (.head _)
    exact wpAny_pure ⟨rfl, fun x hx => hr x (.tail _ hx)⟩
  · rintro b s' ⟨rfl, _⟩
    exact rest

/-- {**a, **b} -/
theorem display_two {t₁ t₂ : Sem Value} {Q : Value → Shared → Prop}
    (h : wpAny (model prog w) A t₁ (fun m₁ s₁ => wpAny (model prog w) A (mergeMapping s.heap.objs.size m₁ false) (fun _ s₂ => wpAny (model prog w) A t₂ (fun m₂ s₃ => wpAny (model prog w) A (mergeMapping s.heap.objs.size m₂ false) (fun _ s₄ => Q (.ref s.heap.objs.size) s₄) (fun _ _ => False) s₃) (fun _ _ => False) s₂) (fun _ _ => False) s₁) (fun _ _ => False)
      { s with heap := s.heap.push emptyDict }) :
    wpAny (model prog w) A (dictDisplay [(none, t₁), (none, t₂)]) Q E s := by
  unfold dictDisplay
  simp only [List.forIn_cons, List.forIn_nil]
  have lift : ∀ {m : Value} {s₁ : Shared} {Q' : Unit → Shared → Prop} {d : Addr} {c₁ c₂ : Value → Sem Unit} {c₃ : Value → Sem Unit},
      wpAny (model prog w) A (mergeMapping d m false) Q' (fun _ _ => False) s₁ →
      wpAny (model prog w) A ((((holding [Value.ref d, m] (mergeMapping d m false)).onRaise c₁).tryCatch c₃).onRaise c₂) Q' E s₁ := by
    intro m s₁ Q' d c₁ c₂ c₃ hm
    exact wpAny_onRaise (wpAny_tryCatch (wpAny_onRaise (wpAny_holding (wpAny_mono hm (fun _ _ z => z) fun _ _ z => z.elim))))
  refine wpAny_bind (wpAny_bind (wpAny_bind ?_))
  rw [if_pos (show ([] : List (Sem Value × Sem Value)).isEmpty = true from rfl)]
  refine wpAny_pure ?_
  dsimp only
  refine wpAny_bind (wpAny_alloc (wpAny_bind (wpAny_holding (wpAny_mono h (fun m₁ s₁ h₁ => ?_) fun _ _ z => z.elim))))
  refine wpAny_bind (lift (wpAny_mono h₁ (fun _ s₂ h₂ => ?_) fun _ _ z => z))
  refine wpAny_pure ?_
  dsimp only
  refine wpAny_bind (wpAny_bind ?_)
  rw [if_pos (show ([] : List (Sem Value × Sem Value)).isEmpty = true from rfl)]
  refine wpAny_pure ?_
  dsimp only
  refine wpAny_bind (wpAny_pure ?_)
  refine wpAny_bind (wpAny_holding (wpAny_mono h₂ (fun m₂ s₃ h₃ => ?_) fun _ _ z => z.elim))
  refine wpAny_bind (lift (wpAny_mono h₃ (fun _ s₄ h₄ => ?_) fun _ _ z => z))
  refine wpAny_pure ?_
  dsimp only
  refine wpAny_pure ?_
  refine wpAny_bind ?_
  rw [if_pos (show ([] : List (Sem Value × Sem Value)).isEmpty = true from rfl)]
  refine wpAny_pure ?_
  exact wpAny_pure h₄
end
end Mine
end

section
open PySem PySem.W PyProof.Rows PySem.Calls Builtin Builtin.ObjectAttr Builtin.Getset_descriptor
set_option maxRecDepth 100000
namespace Mine
section
variable {prog : Program} {w : World} {A : Around} {E : Value → Shared → Prop} {s : Shared}
theorem canon_ga : (Manifest.canonical "dict.__getattribute__" != "object.__getattribute__") = false := by decide +kernel

theorem ns_empty {h : Heap} {dx : Addr} (e : h.get? dx = some (dictOf [] 0)) : h.Ns dx fun _ => none :=
  ⟨_, #[], 0, e, rfl, fun x hx => by simp at hx, fun _ => rfl⟩

theorem getMethod_imm {x dx : Addr} {es : List DictEntry} {n : Nat} {name : Str} {f T : Value} {pl : Sem Bool} {Q : Value × List Value → Shared → Prop} {P : Params} (X : (hd.heap_39 P).In s.heap)
    (hx : s.heap.get? x = some (immO dx es n)) (hdx : s.heap.get? dx = some (dictOf [] 0)) (hs : findIn (hd.heap_39 P) (.ref 145) name = some (some f)) (ht : typeIn (hd.heap_39 P) f = some T)
    (hT : (T != .type "function" && T != .type "method_descriptor" && T != .type "wrapper_descriptor") = false) (h : Q (f, [.ref x]) s) : wpAny (model prog w) A (getMethod (.ref x) name pl) Q E s := by
  have L0 : Looks (model prog w) s.heap (typeOf (.ref x)) (.ref 145) := looks_type hx
  have L1 := looks_special L0 (looks_findIn (M := model prog w) X (f_ga P))
  have L2 := looks_special L0 (looks_findIn (M := model prog w) X (f_getattr P))
  have L3 := looks_special L0 (looks_findIn (M := model prog w) X hs)
  have L4 := looks_typeIn (M := model prog w) X ht
  unfold getMethod
  refine wpAny_bind (L1.here ?_)
  dsimp only
  rw [if_neg (by rw [canon_ga]; exact Bool.false_ne_true)]
  refine wpAny_bind (L2.here ?_)
  rw [if_neg (by simp)]
  refine wpAny_bind (L3.here ?_)
  dsimp only
  refine wpAny_bind (L4.here ?_)
  rw [if_neg (by rw [hT]; exact Bool.false_ne_true)]
  refine wpAny_bind (wpAny_loadPart hx ?_)
  dsimp only
  refine wpAny_bind (wpAny_nsGet (ns_empty hdx) ?_)
  rw [if_neg (by simp)]
  exact wpAny_bind (wpAny_rule (wpAny_pure h))

theorem f_mroObj (p : Params) : mroIn (hd.heap_39 p) 145 (.type "object") = some true := by kernel_rfl
theorem getAttr_class {x dx : Addr} {es : List DictEntry} {n : Nat} {expr : Bool} {Q : Value → Shared → Prop} {P : Params} (X : (hd.heap_39 P).In s.heap)
    (hx : s.heap.get? x = some (immO dx es n)) (hdx : s.heap.get? dx = some (dictOf [] 0)) (h : Q (.ref 145) { s with toks := s.toks + 1 }) :
    wpAny (model prog w) A (getAttr (.ref x) "__class__" expr) Q E s := by
  unfold getAttr
  refine wpAny_bind (wpAny_mkText ?_)
  refine getattrBy_imm (s := { s with toks := s.toks + 1 }) X hx hdx (f_class P) ?_
  exact wpAny_call (class_get (s := { s with toks := s.toks + 1 }) X (imm_inst hx hdx) (f_mroObj P) (handed_on rfl h))

theorem f_nameF (p : Params) : findCls (hd.heap_39 p) (.ref 145) (.type "type") "__name__" = some (.get (.builtin "getset_descriptor.__get__") (.builtin "type.__name__") (.ref 145) (.type "type")) := by kernel_rfl
theorem f_reads (p : Params) : readsIn (hd.heap_39 p) 145 (.type "type") = true := by kernel_rfl
theorem f_slot {M : Model} {h : Heap} (X : (hd.heap_39 M.w.params).In h) : Looks M h (slotAt 145 2) (some (.str (Str.ofString "immutabledict") 196)) := Looks.of_peek X (by kernel_rfl)

theorem name_get {R : Result → Shared → Prop} (X : (hd.heap_39 w.params).In s.heap) (h : R (.ok (.ret (.str (Str.ofString "immutabledict") 196))) s) :
    codeAny (model prog w) A (.call (.builtin "getset_descriptor.__get__") ⟨[.builtin "type.__name__", .ref 145, .type "type"], []⟩) R s := by
  obtain ⟨hh, g, dr, t, os⟩ := s
  have L0 : Looks (model prog w) hh (isInstance (.ref 145) (.type "type")) true := p_inst X
  have L1 : Looks (model prog w) hh (slotAt 145 2) _ := f_slot X
  refine codeAny_call_builtin KF.slot_gs.plain KF.entry_gs (KF.slot_gs.check _ _ _ _ _ _ _ _ ktyn_type (KF.args_gs _ _ _) ?_)
  unfold Builtin.«getset_descriptor.__get__» descrGet
  rw [dga_obj]
  refine wpAny_bind (wpAny_pure ?_)
  unfold descrGetter descrCheckInstance descrNameAndClass
  simp only [ktyn_owner]
  refine wpAny_bind (wpAny_bind (wpAny_pure (wpAny_bind (L0.at ?_))))
  simp only [Bool.not_true, Bool.false_eq_true, if_false]
  refine wpAny_pure (wpAny_pure ?_)
  refine ⟨Code.quiet_builtin _ (by decide +kernel), codeAny_builtin ktyn_entry ?_⟩
  unfold Builtin.«type.__name__»
  dsimp only
  unfold keptObject
  refine wpAny_bind (L1.at ?_)
  exact wpAny_pure h

theorem getAttr_name {expr : Bool} {Q : Value → Shared → Prop} (X : (hd.heap_39 w.params).In s.heap) (h : Q (.str (Str.ofString "immutabledict") 196) { s with toks := s.toks + 1 }) :
    wpAny (model prog w) A (getAttr (.ref 145) "__name__" expr) Q E s :=
  cls_bind X (f_reads w.params) (f_nameF w.params) (wpAny_call (name_get (s := { s with toks := s.toks + 1 }) X (handed_on rfl h)))
end
end Mine
end

section
open PySem PySem.W PyProof.Rows PySem.Calls
set_option maxRecDepth 100000
namespace Mine
/-- one object of the ledger is changed, all else is kept or grows -/
theorem led_upd {h₀ h h' : Heap} {L a : Addr} {m : Str → Option Value} {news : List (Addr × Obj)} {gg : Obj → List (Addr × Obj)} {o o' : Obj} (F : Fr h₀ L h m) (N : News h₀ L h news) (U : UpdF a o news gg)
    (hE : Heap.ExtBut a h h') (ho : h'.get? a = some o') : Fr h₀ L h' m ∧ News h₀ L h' (gg o') := by
  obtain ⟨pre, post, rfl, hg, h1, h2⟩ := U.split
  have hm := N (a, o) (List.mem_append_right _ (.head _))
  refine ⟨⟨F.ns.extBut hE (Ne.symm hm.2.1), fun b ob e => hE b ob (fun q => ?_) (F.keep b ob e), F.above⟩, ?_⟩
  · rw [q] at e; exact absurd (hm.2.2.symm.trans e) (by simp)
  · rw [hg o']
    intro p hp
    rcases List.mem_append.mp hp with hp | hp
    · have P := N p (List.mem_append_left _ hp); exact ⟨hE _ _ (h1 p hp) P.1, P.2⟩
    · rcases List.mem_cons.mp hp with rfl | hp
      · exact ⟨ho, hm.2⟩
      · have P := N p (List.mem_append_right _ (.tail _ hp)); exact ⟨hE _ _ (h2 p hp) P.1, P.2⟩
theorem updF_mem {a : Addr} {o : Obj} {news : List (Addr × Obj)} {gg : Obj → List (Addr × Obj)} (U : UpdF a o news gg) : (a, o) ∈ news := by
  obtain ⟨pre, post, rfl, _⟩ := U.split; exact List.mem_append_right _ (.head _)

/-- the heap grows by objects that are put on the ledger -/
theorem led_grow {h₀ h h' : Heap} {L : Addr} {m : Str → Option Value} {news more : List (Addr × Obj)} (F : Fr h₀ L h m) (N : News h₀ L h news) (k : ∀ b o, h.get? b = some o → h'.get? b = some o)
    (hm : ∀ p ∈ more, h'.get? p.1 = some p.2 ∧ h.objs.size ≤ p.1) : Fr h₀ L h' m ∧ News h₀ L h' (more ++ news) := by
  refine ⟨⟨F.ns.keeps k, fun b o e => k b o (F.keep b o e), F.above⟩, fun p hp => ?_⟩
  rcases List.mem_append.mp hp with hp | hp
  · obtain ⟨e1, e2⟩ := hm p hp
    refine ⟨e1, Nat.ne_of_gt (Nat.lt_of_lt_of_le F.ns.lt e2), ?_⟩
    cases q : h₀.get? p.1 with
    | none => rfl
    | some o => exact absurd (Heap.lt_size (F.keep _ _ q)) (Nat.not_lt.mpr e2)
  · exact ⟨k _ _ (N p hp).1, (N p hp).2⟩
theorem led_lt {h₀ h : Heap} {L d : Addr} {news : List (Addr × Obj)} (N : News h₀ L h news) (hd : h.objs.size ≤ d) : ∀ p ∈ news, p.1 < d := fun p hp => Nat.lt_of_lt_of_le (Heap.lt_size (N p hp).1) hd
end Mine
end

section
open PySem PySem.W PyProof.Rows PySem.Calls
set_option maxRecDepth 100000
namespace Mine

theorem raw_next {w : World} {A : Around} {s : Shared} {h₀ : Heap} {mg mb : Str → Option Value} {loose : List Str} {mean : ExcName → Option Value} {E : Value → Shared → Prop} {Q : Value → Shared → Prop}
   (X : (hd.heap_39 w.params).In h₀) (T : Top hd.view_39 loose mean mg mb h₀) (keep : ∀ b o, h₀.get? b = some o → s.heap.get? b = some o)
   {a sl : Addr} {i sd many : Int} {ti td tm : Tok} {vs : List Value} {ns : List Int} {n1 : Nat}
   (ha : s.heap.get? a = some (listOf #[.ref sl, .int i ti, .int sd td] n1)) (hsl : s.heap.IsList sl vs.toArray) (hns : IntsAre vs ns)
   (ha0 : h₀.get? a = none) (hne : sl ≠ a) (hi : 0 ≤ i) (hroom : A.depth < 460) (hm : 2 ≤ many ∧ many ≤ 8)
   (hlen : ns.length ≤ 63)
   (h : ∀ h' tk r tr i' ti' sd' td', 0 ≤ r → r < many → 0 ≤ i' → Heap.ExtBut a s.heap h' → h'.get? a = some (listOf #[.ref sl, .int i' ti', .int sd' td'] n1) → Q (.int r tr) { s with heap := h', toks := tk }) :
   wpAny (model Challenge.rw_eu0031_01.row.prog w) A (call (.ref 156) [.ref a, .int many tm]) Q E s := by
  w_top off
  revert X; k_fill; intro X
  have hst : h₀.StaysIn (hideAll s.heap [a]) := stays_hideAll keep (by simpa using ha0)
  have X1 := X.keeps hst
  have T1 := T.keeps hst
  have hsl1 : (hideAll s.heap [a]).IsList sl vs.toArray := let ⟨o, q, r⟩ := hsl; ⟨o, hideAll_get _ q (by simpa using hne), r⟩
  refine wpAny_call (code_raw [a] [(a, listOf #[.ref sl, .int i ti, .int sd td] n1)] rfl (by simpa using ha) (T.nolimit.keeps keep) (keep _ _ (X 156 _ (by k_is))) rfl (codeRec_of (X.keeps keep) (by k_is)) (Nat.lt_trans hroom (by decide)) (BindsTo.of_eq rfl) (locs rfl) (by decide) (fun h₁ F N => ?_))
  dsimp only [List.map_cons, List.map_nil] at F N ⊢
  k_fold
  k_steps
  all_goals (with_reducible rename News _ _ _ _ => kN)
  all_goals (with_reducible rename Fr _ _ _ _ => kF)
  all_goals (show Q (Value.int _ _) _; exact h _ _ _ _ _ _ _ _ (fm_lo _ hm) (fm_hi _ hm) (by omega) (extBut_of kF) (News.get kN (List.Mem.head _)))

theorem led_next {w : World} {A : Around} {s : Shared} {g : Heap} {L : Addr} {m : Str → Option Value} {news : List (Addr × Obj)} {gg : Obj → List (Addr × Obj)} {mg mb : Str → Option Value} {loose : List Str} {mean : ExcName → Option Value} {E : Value → Shared → Prop} {Q : Value → Shared → Prop}
   {a sl : Addr} {i sd many : Int} {ti td tm : Tok} {vs : List Value} {ns : List Int} {n1 : Nat}
   (X : (hd.heap_39 w.params).In g) (T : Top hd.view_39 loose mean mg mb g) (F : Fr g L s.heap m) (N : News g L s.heap news) (U : UpdF a (listOf #[.ref sl, .int i ti, .int sd td] n1) news gg)
   (hsl : s.heap.IsList sl vs.toArray) (hns : IntsAre vs ns) (hne : sl ≠ a) (hi : 0 ≤ i) (hroom : A.depth < 460) (hm : 2 ≤ many ∧ many ≤ 8) (hlen : ns.length ≤ 63)
   (h : ∀ h' tk r tr i' ti' sd' td', 0 ≤ r → r < many → 0 ≤ i' → Fr g L h' m → News g L h' (gg (listOf #[.ref sl, .int i' ti', .int sd' td'] n1)) → Q (.int r tr) { s with heap := h', toks := tk }) :
   wpAny (model Challenge.rw_eu0031_01.row.prog w) A (call (.ref 156) [.ref a, .int many tm]) Q E s := by
  have hmem := N _ (updF_mem U)
  refine raw_next X T F.keep hmem.1 hsl hns hmem.2.2 hne hi hroom hm hlen fun h' tk r tr i' ti' sd' td' r0 r1 i0 hE ho => ?_
  obtain ⟨F', N'⟩ := led_upd F N U hE ho
  exact h h' tk r tr i' ti' sd' td' r0 r1 i0 F' N'
end Mine
end

section
open PySem PySem.W PyProof.Rows PySem.Calls
set_option maxRecDepth 100000
namespace Mine
theorem dh {A : Around} {env : Env} (h : A.handled = none) : (A.deeper env).handled = none := h
local macro_rules | `(tactic| walk_at "call ref") => `(tactic| (k_here; (with_reducible show wpAny _ _ (call (Value.ref 156) _) _ _ _); k_dflt (refine' led_next ?X ?T ?F ?N ?U ?sl ?ns ?ne ?i ?room ?m ?len ?_; (case X => k_asm); (case T => k_asm); (case F => k_asm); (case N => k_asm); (case U => k_updF); (case sl => is_list); (case ns => k_asm); (case ne => k_asm); (case i => k_asm); (case room => (simp only [depth_deeper]; omega)); (case m => decide); (case len => k_asm); k_whole); intro h' tk' r' tr' i' ti' sd' td' r0 r1 i0 F' N'; (try dsimp only at N'); (try k_sweep)))
theorem raw_rows {w : World} {A : Around} {s : Shared} {h₀ : Heap} {mg mb : Str → Option Value} {loose : List Str} {mean : ExcName → Option Value} {E : Value → Shared → Prop} {Q : Value → Shared → Prop}
   (X : (hd.heap_39 w.params).In h₀) (T : Top hd.view_39 loose mean mg mb h₀) (keep : ∀ b o, h₀.get? b = some o → s.heap.get? b = some o)
   {a sl : Addr} {i sd : Int} {ti td : Tok} {vs : List Value} {ns : List Int} {n1 : Nat}
   (ha : s.heap.get? a = some (listOf #[.ref sl, .int i ti, .int sd td] n1)) (hsl : s.heap.IsList sl vs.toArray) (hns : IntsAre vs ns)
   (ha0 : h₀.get? a = none) (hne : sl ≠ a) (hi : 0 ≤ i) (hroom : A.depth < 450) (hh : A.handled = none)
   (hlen : ns.length ≤ 63)
   (h : ∀ h' tk d n es i' ti' sd' td', Good es → 0 ≤ i' → Heap.ExtBut a s.heap h' → h'.get? a = some (listOf #[.ref sl, .int i' ti', .int sd' td'] n1) → h'.get? d = some (dictOf es n) → s.heap.objs.size ≤ d → Q (.ref d) { s with heap := h', toks := tk }) :
   wpAny (model Challenge.rw_eu0031_01.row.prog w) A (call (.ref 161) [.ref a]) Q E s := by
  w_top off
  revert X; k_fill; intro X
  have hal := ltN (Heap.lt_size ha)
  have hst : h₀.StaysIn (hideAll s.heap [a]) := stays_hideAll keep (by simpa using ha0)
  have X1 := X.keeps hst
  have T1 := T.keeps hst
  have hsl1 : (hideAll s.heap [a]).IsList sl vs.toArray := let ⟨o, q, r⟩ := hsl; ⟨o, hideAll_get _ q (by simpa using hne), r⟩
  refine wpAny_call (code_rawC [a] [(a, listOf #[.ref sl, .int i ti, .int sd td] n1)] rfl (by simpa using ha) (T.nolimit.keeps keep) (keep _ _ (X 161 _ (by k_is))) rfl (codeRec_of (X.keeps keep) (by k_is)) (Nat.lt_trans hroom (by decide)) (BindsTo.of_eq rfl) rfl (by decide +kernel) (fun h₁ tk cells F N Y => ?_))
  k_cells Y
  rename_i oc hoc
  simp only [List.cons_append, List.nil_append] at N
  dsimp only
  (with_reducible show wpAny _ _ _ _ _ _)
  k_fold
  refine wpAny_execs_cons (wpAny_Return_some ?_)
  rw [arm_eval_DictComp]
  refine wpAny_comprehension_free (cl := [(Str.ofString "state", s.heap.objs.size + 1)]) (use := none) rfl (by intro _; rfl) rfl rfl (by decide) ?_
  dsimp only [firstIter]
  (with_reducible show wpAny _ _ _ _ _ _)
  k_fold
  k_steps
  rename_i l1 hh1 tk' r' tr' i' ti' sd' td' r0 r1 i0 F' N' t2 h2 tk2 t₁ u₁ v₁ hR F2 N2 hk2
  have hnn : ∃ n : Nat, n ≤ 3 ∧ ([0, 1, 3] : List Int).getD r'.toNat 0 = (n : Int) := by
    obtain rfl | rfl | rfl : r' = 0 ∨ r' = 1 ∨ r' = 2 := by omega
    · exact ⟨0, by decide, rfl⟩
    · exact ⟨1, by decide, rfl⟩
    · exact ⟨3, by decide, rfl⟩
  obtain ⟨n, hn3, hn⟩ := hnn
  rw [hn] at hR
  have hsz : Builtin.Range.rangeSize 0 (n : Int) 1 = (n : Int) := by
    obtain rfl | rfl | rfl | rfl : n = 0 ∨ n = 1 ∨ n = 2 ∨ n = 3 := by omega
    all_goals decide
  refine wpAny_pyIter_range hR (by obtain rfl | rfl | rfl | rfl : n = 0 ∨ n = 1 ∨ n = 2 ∨ n = 3 := by omega
                                   all_goals decide) ?_
  rw [hsz]
  clear hk2 F' N' hh1 hR hn hsz
  refine wpAny_newObj_type (wpAny_newFunctionEnv (by decide) (by intro y hy; simp at hy) (fun h3 hns3 hsb3 => ?_) rfl)
  dsimp only at hns3 hsb3 F2 N2 ⊢
  show codeAny _ _ (.compStart _ 0 _ _ (compEnvC _ _ _ _)) (compPost _ _ _ _ _ _ _) _
  simp only [Heap.size_push] at hns3 hsb3 ⊢
  generalize hI : h2.objs.size = I at hns3 hsb3 ⊢
  have hIl : ∀ {b : Addr} {o : Obj}, h2.get? b = some o → b < I := fun e => hI ▸ Heap.lt_size e
  have kp : ∀ b o, h2.get? b = some o → h3.get? b = some o := fun b o e => hsb3.extBut b o (Nat.ne_of_lt (Nat.lt_of_lt_of_le (hIl e) (Nat.le_add_right _ 2))) (Heap.get?_push_of_some _ (Heap.get?_push_of_some _ (Heap.get?_push_of_some _ e)))
  have gI : h3.get? I = some { cls := .type "range_iterator", data := .fields #[rawInt 0, rawInt (n : Int), rawInt 1] } :=
    hsb3.extBut I _ (Nat.ne_of_lt (Nat.lt_add_of_pos_right (by decide : 0 < 2))) (Heap.get?_push_of_some _ (Heap.get?_push_of_some _ (hI ▸ Heap.get?_push_size h2 rfl)))
  have gD : h3.get? (I + 1) = some (dictOf [] 0) := by
    refine hsb3.extBut (I + 1) _ (Nat.ne_of_lt (Nat.lt_succ_self _)) (Heap.get?_push_of_some _ ?_)
    have := Heap.get?_push_size (h2.push { cls := .type "range_iterator", data := .fields #[rawInt 0, rawInt (n : Int), rawInt 1] }) (o := dictOf [] 0) rfl
    rwa [Heap.size_push, hI] at this
  obtain ⟨oC, esC, epC, gC, rC⟩ := id hns3
  obtain ⟨F3, N3⟩ := led_grow (more := [(I + 1 + 1, oC), (I + 1, dictOf [] 0), (I, { cls := .type "range_iterator", data := .fields #[rawInt 0, rawInt (n : Int), rawInt 1] })]) F2 N2 kp (by
    intro p hp
    simp only [List.mem_cons, List.not_mem_nil, or_false] at hp
    rcases hp with rfl | rfl | rfl
    · exact ⟨gC, by rw [hI]; exact Nat.le_add_right I 2⟩
    · exact ⟨gD, by rw [hI]; exact Nat.le_add_right I 1⟩
    · exact ⟨gI, Nat.le_of_eq hI⟩)
  have hcI : s.heap.objs.size + 1 < I := hIl (N2 _ (.tail _ (.head _))).1
  have haI : a < I := hIl (N2 _ (.tail _ (.tail _ (.head _)))).1
  have N4 : News (hideAll s.heap [a]) s.heap.objs.size h3 [(I + 1 + 1, oC), (I + 1, dictOf [] 0), (I, { cls := .type "range_iterator", data := .fields #[rawInt 0, rawInt (n : Int), rawInt 1] }), (s.heap.objs.size + 1, oc), (a, listOf #[.ref sl, .int i' ti', .int sd' td'] n1)] := fun p hp => N3 p (by
    simp only [List.mem_append, List.mem_cons, List.not_mem_nil, or_false] at hp ⊢
    rcases hp with h | h | h | h | h <;> simp [h])
  clear N3 N2 F2
  refine (fun key => codeAny_compStart_dict key ((Walks.range (dh hh) I 0 1 n).self 0 _ _ _ (by simpa using gI) key)) ?_
  refine codeAny_compLoop_testsD (fun k s' => ∃ h tk oC es nD i'' ti'' sd'' td'' j mC, s' = { s with heap := h, toks := tk } ∧ j ≤ n ∧ k = n + 1 - j ∧ Fr (hideAll s.heap [a]) s.heap.objs.size h _ ∧
      News (hideAll s.heap [a]) s.heap.objs.size h [(I + 1 + 1, oC), (I + 1, dictOf es nD), (I, { cls := .type "range_iterator", data := .fields #[rawInt ((0 : Int) + (j : Nat) * 1), rawInt ((n : Int) - (j : Nat)), rawInt 1] }), (s.heap.objs.size + 1, oc), (a, listOf #[.ref sl, .int i'' ti'', .int sd'' td''] n1)] ∧
      h.Ns (I + 1 + 1) mC ∧ Good es ∧ 0 ≤ i'') ?_ (n + 1) ⟨h3, _, oC, [], 0, i', ti', sd', td', 0, _, rfl, Nat.zero_le _, rfl, F3, by simpa using N4, hns3, Good.nil, i0⟩ (by intro _; rfl)
  rintro k s' ⟨h4, tk4, oC4, es, nD, i4, ti4, sd4, td4, j, mC, rfl, hj, rfl, F4, N5, hC4, G, hi4⟩
  have sI : IsRangeIter h4 I ((0 : Int) + (j : Nat) * 1) ((n : Int) - (j : Nat)) 1 := (N5 _ (.tail _ (.tail _ (.head _)))).1
  by_cases hlt : j < n
  · refine (Walks.range (dh hh) I 0 1 n).item j _ _ _ hlt sI (fun v h5 tk5 hv st5 k5 => ?_)
    obtain ⟨t5, rfl⟩ := hv
    have e5 : Heap.ExtBut I h4 h5 := fun b o hb e => k5 b o (by simpa using hb) e
    obtain ⟨F5, N6⟩ := led_upd (a := I) F4 N5 (by k_updF) e5 st5
    have hC5 : h5.Ns (I + 1 + 1) mC := hC4.at' fun o e => e5 _ _ (Nat.ne_of_gt (Nat.lt_add_of_pos_right (by decide : 0 < 2))) e
    refine wpAny_assign_Name (wpAny_storeName_local (by rfl) hC5 (fun h6 hn6 hs6 => ?_) (by rfl))
    obtain ⟨oC6, esC6, epC6, gC6, rC6⟩ := id hn6
    obtain ⟨F6, N7⟩ := led_upd (a := I + 1 + 1) F5 N6 (by k_updF) hs6.extBut gC6
    rw [List.forIn_nil]
    refine wpAny_pure ?_
    rw [if_pos rfl]
    dsimp only at F6 N7 ⊢
    k_fold
    clear N6 N5 F5 F4
    k_steps
    rename_i hA tkA rA trA iA tiA sdA tdA rA0 rA1 iA0 cE hB tkB rB trB iB tiB sdB tdB rB0 rB1 iB0 FB NB
    have gD8 := (NB _ (.tail _ (.head _))).1
    refine set_good gD8 rfl G ⟨rA0, rA1⟩ ⟨rB0, rB1⟩ (fun h9 n9 sb9 e9 => ?_)
    obtain ⟨F9, N9⟩ := led_upd (a := I + 1) FB NB (by k_updF) sb9.extBut e9
    exact ⟨n + 1 - (j + 1), by omega, h9, _, oC6, mput es _, n9, iB, tiB, sdB, tdB, j + 1, _, rfl, hlt, rfl, F9, N9, ⟨oC6, esC6, epC6, (N9 _ (.head _)).1, rC6⟩, G.mput ⟨rA, trA, rB, _, rA0, rA1, rB0, rB1, rfl⟩, iB0⟩
  · have hjn : j = n := by omega
    subst hjn
    refine (Walks.range (dh hh) I 0 1 j).done _ _ _ sI (fun h5 tk5 k5 => ?_)
    refine ⟨mC, hC4.at' fun o e => k5 _ _ (fun q => Nat.ne_of_gt (Nat.lt_add_of_pos_right (by decide : 0 < 2)) (List.mem_singleton.mp q)) e, fun h6 hs6 => ?_⟩
    show Q (Value.ref (I + 1)) _
    have up : ∀ {b : Addr} {o : Obj}, b ≠ I → b ≠ I + 1 + 1 → h4.get? b = some o → h6.get? b = some o := fun h1 h2 e => hs6.extBut _ _ h2 (k5 _ _ (fun q => h1 (List.mem_singleton.mp q)) e)
    have aI : s.heap.objs.size < I := Nat.lt_of_succ_lt hcI
    refine h h6 _ (I + 1) nD es i4 ti4 sd4 td4 G hi4 (fun b o hb e => up (Nat.ne_of_lt (Nat.lt_trans (Heap.lt_size e) aI)) (Nat.ne_of_lt (Nat.lt_trans (Heap.lt_size e) (Nat.lt_trans aI (Nat.lt_add_of_pos_right (by decide : 0 < 2))))) (extBut_of F4 b o hb e))
      (up (Nat.ne_of_lt haI) (Nat.ne_of_lt (Nat.lt_trans haI (Nat.lt_add_of_pos_right (by decide : 0 < 2)))) (N5 _ (.tail _ (.tail _ (.tail _ (.tail _ (.head _)))))).1)
      (up (Nat.ne_of_gt (Nat.lt_succ_self _)) (Nat.ne_of_lt (Nat.lt_succ_self _)) (N5 _ (.tail _ (.head _))).1) (Nat.le_succ_of_le (Nat.le_of_lt aI))
end Mine
end

section
open PySem PySem.W PyProof.Rows PySem.Calls
set_option maxRecDepth 100000
namespace Mine
section
variable {prog : Program} {w : World} {A : Around} {E : Value → Shared → Prop} {s : Shared}
theorem eval_join {env : Env} {e₁ e₂ : PySem.Expr} {pos : Pos} {a₁ a₂ : Addr} {es₁ es₂ : List DictEntry} {Q : Value → Shared → Prop} {P : Params} (X : (hd.heap_39 P).In s.heap) (hl : s.heap.NoLimit)
    (D₁ : DArg s.heap a₁ es₁) (D₂ : DArg s.heap a₂ es₂)
    (h₁ : ∀ s' : Shared, (∀ b o, s.heap.get? b = some o → s'.heap.get? b = some o) → ∀ Q' : Value → Shared → Prop, Q' (.ref a₁) s' → wpAny (model prog w) A (eval e₁ env) Q' (fun _ _ => False) s')
    (h₂ : ∀ s' : Shared, (∀ b o, s.heap.get? b = some o → s'.heap.get? b = some o) → ∀ Q' : Value → Shared → Prop, Q' (.ref a₂) s' → wpAny (model prog w) A (eval e₂ env) Q' (fun _ _ => False) s')
    (h : ∀ h' n, (∀ b o, s.heap.get? b = some o → h'.get? b = some o) → h'.get? s.heap.objs.size = some (dictOf (mrg es₁ es₂) n) → Q (.ref s.heap.objs.size) { s with heap := h' }) :
    wpAny (model prog w) A (eval (.Dict [none, none] [e₁, e₂] pos) env) Q E s := by
  show wpAny _ _ (standAt pos >>= fun _ => dictDisplay [(none, do let x ← eval e₁ env; standAt pos; pure x), (none, do let x ← eval e₂ env; standAt pos; pure x)]) Q E s
  refine wpAny_bind (wpAny_standAt (display_two ?_))
  have k₀ : ∀ b o, s.heap.get? b = some o → (s.heap.push emptyDict).get? b = some o := fun b o e => Heap.get?_push_of_some _ e
  have q₀ : (s.heap.push emptyDict).get? s.heap.objs.size = some (dictOf [] 0) := Heap.get?_push_size _ rfl
  have l₁ : a₁ < s.heap.objs.size := let ⟨_, _, q, _⟩ := D₁.esAt; Heap.lt_size q
  have l₂ : a₂ < s.heap.objs.size := let ⟨_, _, q, _⟩ := D₂.esAt; Heap.lt_size q
  refine wpAny_bind (h₁ _ k₀ _ (wpAny_bind (wpAny_standAt (wpAny_pure ?_))))
  refine mergeMapping_D (s := { s with heap := s.heap.push emptyDict }) (X.keeps k₀) q₀ rfl Good.nil (Nat.ne_of_gt l₁) (D₁.keeps k₀) fun h' n' sb e => ?_
  rw [mrg_nil_left D₁.good] at e
  have k₁ : ∀ b o, s.heap.get? b = some o → h'.get? b = some o := fun b o q => sb.extBut b o (Nat.ne_of_lt (Heap.lt_size q)) (k₀ b o q)
  refine wpAny_bind (h₂ _ k₁ _ (wpAny_bind (wpAny_standAt (wpAny_pure ?_))))
  refine mergeMapping_D (s := { s with heap := h' }) (X.keeps k₁) e rfl D₁.good (Nat.ne_of_gt l₂) (D₂.keeps k₁) fun h'' n'' sb' e' => ?_
  exact h h'' n'' (fun b o q => sb'.extBut b o (Nat.ne_of_lt (Heap.lt_size q)) (k₁ b o q)) e'
end

theorem raw_joined {w : World} {A : Around} {s : Shared} {h₀ : Heap} {mg mb : Str → Option Value} {loose : List Str} {mean : ExcName → Option Value} {E : Value → Shared → Prop} {Q : Value → Shared → Prop}
   (X : (hd.heap_39 w.params).In h₀) (T : Top hd.view_39 loose mean mg mb h₀) (keep : ∀ b o, h₀.get? b = some o → s.heap.get? b = some o)
   {d₁ d₂ : Addr} {es₁ es₂ : List DictEntry} (D₁ : DArg s.heap d₁ es₁) (D₂ : DArg s.heap d₂ es₂) (hroom : A.depth < 460)
   (h : ∀ h' tk d n, (∀ b o, s.heap.get? b = some o → h'.get? b = some o) → h'.get? d = some (dictOf (mrg es₁ es₂) n) → s.heap.objs.size ≤ d → Q (.ref d) { s with heap := h', toks := tk }) :
   wpAny (model Challenge.rw_eu0031_01.row.prog w) A (call (.ref 168) [.ref d₁, .ref d₂]) Q E s := by
  w_top off
  revert X; k_fill; intro X
  have X1 := X.keeps keep
  have T1 := T.keeps keep
  refine wpAny_call (code_raw [] [] rfl (by simp) T1.nolimit (X1 168 _ (by k_is)) rfl (codeRec_of X1 (by k_is)) (Nat.lt_trans hroom (by decide)) (BindsTo.of_eq rfl) (locs rfl) (by decide) (fun h₁ F N => ?_))
  dsimp only
  k_fold
  k_steps
  have kF : ∀ b o, s.heap.get? b = some o → h₁.get? b = some o := F.keep
  have Fk : ∀ {s' : Shared}, (∀ b o, h₁.get? b = some o → s'.heap.get? b = some o) → Fr (hideAll s.heap []) s.heap.objs.size s'.heap _ := fun k => ⟨F.ns.keeps k, fun b o e => k b o (F.keep b o e), F.above⟩
  refine eval_join (X1.keeps kF) (T1.nolimit.keeps kF) (D₁.keeps kF) (D₂.keeps kF) (fun s' k Q' q => ?_) (fun s' k Q' q => ?_) (fun h' n k e => ?_)
  · exact nameX_L (Fk k) rfl q
  · exact nameX_L (Fk k) rfl q
  · exact h h' _ _ n (fun b o q => k b o (kF b o q)) e (Nat.le_of_lt F.ns.lt)
end Mine
end

section
open PySem PySem.W PyProof.Rows PySem.Calls
set_option maxRecDepth 100000
namespace Mine
local macro_rules | `(tactic| walk_at "getMethod ref") => `(tactic| (k_here; k_dflt (refine' getMethod_imm ?X ?x ?d ?s ?t ?T ?_; (case X => k_in); (case x => exact News.get (by k_asm) (by k_mem)); (case d => exact News.get (by k_asm) (by k_mem)); (case s => k_is); (case t => k_is); (case T => decide +kernel); k_whole)))
local macro_rules | `(tactic| walk_at "getAttr ref") => `(tactic| (k_here; (with_reducible show wpAny _ _ (getAttr (Value.ref _) (PySem.Str.ofString "__class__") _) _ _ _); k_dflt (refine' getAttr_class ?X ?x ?d ?_; (case X => k_in); (case x => exact News.get (by k_asm) (by k_mem)); (case d => exact News.get (by k_asm) (by k_mem)); k_whole)))
local macro_rules | `(tactic| walk_at "getAttr ref") => `(tactic| (k_here; (with_reducible show wpAny _ _ (getAttr (Value.ref 145) (PySem.Str.ofString "__name__") _) _ _ _); k_dflt (refine' getAttr_name ?X ?_; (case X => k_in); k_whole)))

theorem delItem_imm {M : Model} {A : Around} {E : Value → Shared → Prop} {s : Shared} {K : Frag} {x C L f : Addr} {h₀ : Heap} {m : Str → Option Value} {ox : Obj} {od : Option Obj} {i : Value} {Q : Unit → Shared → Prop} (F : Fr h₀ L s.heap m) (X₀ : K.In h₀) (I : InstAt s.heap x ox C od) (hq : noSeq K C = true) (hs : findIn K (.ref C) "__delitem__" = some (some (.ref f))) (hf : isFn K (.ref f) = true)
    (h : wpAny M A (call (.ref f) [.ref x, i]) (fun _ s' => Q () s') E s) : wpAny M A (delItem (.ref x) i) Q E s := by
  have X := X₀.keeps F.keep
  unfold delItem sequenceKey
  refine wpAny_holding (wpAny_bind (wpAny_bind (I.type.here ?_)))
  refine wpAny_bind ((anyM_none X hq).here ?_)
  rw [if_pos (show (!false) = true from rfl)]
  exact wpAny_pure (wpAny_bind (special_fn X I hs (beq_iff_eq.mp hf) (wpAny_mono h (fun _ _ z => wpAny_pure z) fun _ _ z => z)))
local macro_rules | `(tactic| walk_at "setItem ref") => `(tactic| (k_here; (with_reducible show wpAny _ _ (setItem (Value.ref _) _ _) _ _ _); k_dflt (refine' ksp_setItem ?F ?X ?I ?hQ ?hS ?hF ?_; (case F => k_asm); (case X => k_asm); (case I => exact imm_inst (News.get (by k_asm) (by k_mem)) (News.get (by k_asm) (by k_mem))); (case hS => k_is); (case hF => k_is); (case hQ => k_is); k_whole)))
local macro_rules | `(tactic| walk_at "delItem ref") => `(tactic| (k_here; (with_reducible show wpAny _ _ (delItem (Value.ref _) _) _ _ _); k_dflt (refine' delItem_imm ?F ?X ?I ?hQ ?hS ?hF ?_; (case F => k_asm); (case X => k_asm); (case I => exact imm_inst (News.get (by k_asm) (by k_mem)) (News.get (by k_asm) (by k_mem))); (case hS => k_is); (case hF => k_is); (case hQ => k_is); k_whole)))
local macro_rules | `(tactic| walk_at "inplaceOp BitOr ref") => `(tactic| (k_here; (with_reducible show wpAny _ _ (inplaceOp Operator.BitOr (Value.ref _) _) _ _ _); k_dflt (refine' ksp_inplace ?F ?X ?I ?hC ?hS ?hF ?_; (case F => k_asm); (case X => k_asm); (case I => exact imm_inst (News.get (by k_asm) (by k_mem)) (News.get (by k_asm) (by k_mem))); (case hS => k_is); (case hF => k_is); (case hC => k_is); k_whole)))
local macro_rules | `(tactic| walk_at "exec Raise some none") => `(tactic| (with_reducible refine Raise_new rfl ?_))
set_option maxHeartbeats 4000000 in
theorem raw_refused {w : World} {s : Shared} {h₀ : Heap} {env : Env} {L : Addr} {m : Str → Option Value} {mg mb : Str → Option Value} {loose : List Str} {mean : ExcName → Option Value} {E : Value → Shared → Prop} {Q : Value → Shared → Prop}
   (X : (hd.heap_39 w.params).In h₀) (T : Top hd.view_39 loose mean mg mb h₀) (keep : ∀ b o, h₀.get? b = some o → s.heap.get? b = some o)
   (hf : env.frame = some L) (hke : env.scope.kind = .function) (hL0 : h₀.get? L = none) (hns : s.heap.Ns L m)
   {x dx : Addr} {es : List DictEntry} {n : Nat} {k : Int} {t : Tok}
   (hx : s.heap.get? x = some (immO dx es n)) (hdx : s.heap.get? dx = some (dictOf [] 0)) (hx0 : h₀.get? x = none) (hdx0 : h₀.get? dx = none) (hxL : x ≠ L) (hdxL : dx ≠ L) (hk : 0 ≤ k ∧ k < 8)
   (h : ∀ h' tk, h'.Ns L m → Heap.ExtBut L s.heap h' → Q (.bool true) { s with heap := h', toks := tk }) :
   wpAny (model Challenge.rw_eu0031_01.row.prog w) (callerA.deeper env) (call (.ref 175) [.int k t, .ref x]) Q E s := by
  w_top off
  revert X; k_fill; intro X
  have hst : h₀.StaysIn (hideAll s.heap [x, dx]) := stays_hideAll keep (by simp [hx0, hdx0])
  obtain ⟨oL, esL, epL, hL, hLd, hLk, hLf⟩ := id hns
  have hLg : (hideAll s.heap [x, dx]).get? L = some oL := hideAll_get _ hL (by simp [Ne.symm hxL, Ne.symm hdxL])
  have B : Below (callerA.deeper env) h₀ [env] (hideAll s.heap [x, dx]) :=
    ⟨rfl, fun b o e => hst b o e, Heap.FunFrames.cons (by rw [hke]; decide) hf ⟨oL, esL, epL, hLg, hLd, hLk, hLf⟩ hL0 trivial⟩
  have D : KtsDicts ([env].filterMap (·.frame)) (hideAll s.heap [x, dx]) := fun b hb => by
    rw [show [env].filterMap (·.frame) = [L] by simp [hf]] at hb
    obtain rfl := List.mem_singleton.mp hb
    exact ⟨oL, esL, epL, hLg, hLd⟩
  have X1 := X.keeps hst
  have T1 := T.keeps hst
  have fin : ∀ (g' : Heap) (L' : Addr) (m' : Str → Option Value) (h' : Heap) (tk : Nat) (news : List (Addr × Obj)), KtsTurn ([env].filterMap (·.frame)) (hideAll s.heap [x, dx]) g' → Fr g' L' h' m' → News g' L' h' news → (x, immO dx es n) ∈ news → (dx, dictOf [] 0) ∈ news → Q (.bool true) { s with heap := h', toks := tk } := by
    intro g' L' m' h' tk news TT FF NN NX ND
    obtain ⟨sl, hs⟩ := TT.up hLg
    have hs' := FF.keep _ _ hs
    refine h h' tk ⟨_, esL, epL, hs', hLd, hLk, hLf⟩ fun b o hb e => ?_
    by_cases q : b = x
    · subst q; rw [hx] at e; cases e; exact (NN _ NX).1
    · by_cases q2 : b = dx
      · subst q2; rw [hdx] at e; cases e; exact (NN _ ND).1
      · exact FF.keep b o (TT.other b o (hideAll_get _ e (by simp [q, q2])) (by simp [hf]; exact fun z => hb z))
  refine wpAny_call (code_raw [x, dx] [(x, immO dx es n), (dx, dictOf [] 0)] rfl (by simp [hx, hdx]) (T.nolimit.keeps keep) (keep _ _ (X 175 _ (by k_is))) rfl (codeRec_of (X.keeps keep) (by k_is)) (by k_room) (BindsTo.of_eq rfl) (locs rfl) (by decide) (fun h₁ F N => ?_))
  dsimp only
  rw [show envX (Str.ofString "_law_is_refused") _ s.heap.objs.size 175 (Value.ref 174) [] = envOf (Str.ofString "_law_is_refused") _ s.heap.objs.size 175 (Value.ref 174) from rfl]
  obtain rfl | rfl | rfl | rfl | rfl | rfl | rfl | rfl : k = 0 ∨ k = 1 ∨ k = 2 ∨ k = 3 ∨ k = 4 ∨ k = 5 ∨ k = 6 ∨ k = 7 := by omega
  all_goals
    (with_reducible show wpAny _ _ _ _ _ _)
    k_fold
    k_steps
    refine fin _ _ _ _ _ _ (by assumption) (by assumption) (by assumption) ?_ ?_
    all_goals repeat' (first | exact List.mem_cons_self | refine List.mem_cons_of_mem _ ?_)
end Mine
end

section
open PySem PySem.W PyProof.Rows PySem.Calls
set_option maxRecDepth 100000
namespace Mine
section
variable {prog : Program} {w : World} {A : Around} {E : Value → Shared → Prop} {s : Shared} {g : Heap} {L : Addr} {m : Str → Option Value} {news : List (Addr × Obj)}

theorem low_L {P : Params} {h : Heap} (X : (hd.heap_39 P).In g) (F : Fr g L h m) : 2 < L :=
  Nat.lt_of_lt_of_le (Nat.lt_trans (by decide : 2 < 145) (Heap.lt_size (X 145 _ rfl))) F.above

structure Fresh2 (L x d : Addr) : Prop where
  lx : L < x
  ld : L < d
theorem led_imm_new {Q : Value → Shared → Prop} (X : (hd.heap_39 w.params).In g) (hl : g.NoLimit) (F : Fr g L s.heap m) (N : News g L s.heap news)
    (h : ∀ h' x dx, Fr g L h' m → News g L h' ((x, immO dx [] 0) :: (dx, dictOf [] 0) :: news) → (∀ p ∈ (dx, dictOf [] 0) :: news, p.1 < x) → (∀ p ∈ news, p.1 < dx) → 2 < x → Fresh2 L x dx → Q (.ref x) { s with heap := h' }) :
    wpAny (model prog w) A (call (.ref 145) []) Q E s := by
  have X' := X.keeps F.keep
  refine imm_new X' (hl.keeps F.keep) ?_
  have k : ∀ b o, s.heap.get? b = some o → ((s.heap.push emptyDict).push (immO s.heap.objs.size [] 0)).get? b = some o := fun b o e => Heap.get?_push_of_some _ (Heap.get?_push_of_some _ e)
  have hx : ((s.heap.push emptyDict).push (immO s.heap.objs.size [] 0)).get? (s.heap.objs.size + 1) = some (immO s.heap.objs.size [] 0) := by
    have := Heap.get?_push_size (s.heap.push emptyDict) (o := immO s.heap.objs.size [] 0) rfl
    rwa [Heap.size_push] at this
  have hd' : ((s.heap.push emptyDict).push (immO s.heap.objs.size [] 0)).get? s.heap.objs.size = some (dictOf [] 0) := Heap.get?_push_of_some _ (Heap.get?_push_size _ rfl)
  obtain ⟨F', N'⟩ := led_grow (more := [(s.heap.objs.size + 1, immO s.heap.objs.size [] 0), (s.heap.objs.size, dictOf [] 0)]) F N k (by
    intro p hp
    simp only [List.mem_cons, List.not_mem_nil, or_false] at hp
    rcases hp with rfl | rfl
    · exact ⟨hx, Nat.le_succ _⟩
    · exact ⟨hd', Nat.le_refl _⟩)
  have lt : ∀ p ∈ news, p.1 < s.heap.objs.size := fun p hp => Heap.lt_size (N p hp).1
  refine h _ _ _ F' N' (fun p hp => ?_) lt (Nat.lt_of_lt_of_le (low_L X F) (Nat.le_of_lt (Nat.lt_succ_of_lt F.ns.lt))) ⟨Nat.lt_succ_of_lt F.ns.lt, F.ns.lt⟩
  rcases List.mem_cons.mp hp with rfl | hp
  · exact Nat.lt_succ_self _
  · exact Nat.lt_succ_of_lt (lt p hp)

theorem led_update {d a dx : Addr} {esd es : List DictEntry} {n : Nat} {gg : Obj → List (Addr × Obj)} {Q : Value → Shared → Prop} (X : (hd.heap_39 w.params).In g) (F : Fr g L s.heap m) (N : News g L s.heap news)
    (U : UpdF d (immO dx esd n) news gg) (G : Good esd) (l : 2 < d) (hda : d ≠ a) (D : DArg s.heap a es)
    (h : ∀ h' tk n', Fr g L h' m → News g L h' (gg (immO dx (mrg esd es) n')) → Q .none { s with heap := h', toks := tk }) :
    wpAny (model prog w) A (call (.builtin "dict.update") [.ref d, .ref a]) Q E s := by
  have hm := N _ (updF_mem U)
  refine update_D (X.keeps F.keep) hm.1 G l hda D fun h' tk n' e1 e2 => ?_
  obtain ⟨F', N'⟩ := led_upd F N U e1 e2
  exact h h' tk n' F' N'

/-- an object of the others -/
structure Oth where
  v : Value
  es : List DictEntry
  im : Bool
inductive OthAt (h : Heap) : Oth → Prop
  | none : OthAt h ⟨.none, [], false⟩
  | dic {a : Addr} {es : List DictEntry} {n : Nat} : h.get? a = some (dictOf es n) → Good es → 2 < a → OthAt h ⟨.ref a, es, false⟩
  | imm {a dx : Addr} {es : List DictEntry} {n : Nat} : h.get? a = some (immO dx es n) → h.get? dx = some (dictOf [] 0) → Good es → 2 < a → OthAt h ⟨.ref a, es, true⟩
theorem OthAt.keeps {h h' : Heap} {o : Oth} (D : OthAt h o) (k : ∀ b o, h.get? b = some o → h'.get? b = some o) : OthAt h' o := by
  cases D with
  | none => exact .none
  | dic e G l => exact .dic (k _ _ e) G l
  | imm e e' G l => exact .imm (k _ _ e) (k _ _ e') G l
theorem OthAt.dArg {h : Heap} {a : Addr} {es : List DictEntry} {im : Bool} (D : OthAt h ⟨.ref a, es, im⟩) : DArg h a es := by
  cases D with
  | dic e G l => exact .dic e G l
  | imm e e' G l => exact .imm e e' G l
theorem OthAt.split {h : Heap} {v : Value} {es : List DictEntry} {im : Bool} (D : OthAt h ⟨v, es, im⟩) : (v = .none ∧ es = [] ∧ im = false) ∨ ∃ a, v = .ref a ∧ DArg h a es := by
  cases D with
  | none => exact .inl ⟨rfl, rfl, rfl⟩
  | dic e G l => exact .inr ⟨_, rfl, .dic e G l⟩
  | imm e e' G l => exact .inr ⟨_, rfl, .imm e e' G l⟩
theorem OthAt.good {h : Heap} {o : Oth} (D : OthAt h o) : Good o.es := by
  cases D with
  | none => exact Good.nil
  | dic e G l => exact G
  | imm e e' G l => exact G
def scan : Value → List Oth → Value
  | v, [] => v
  | v, o :: r => if o.es = [] then scan v r else if v = .bool false ∧ o.im = true then scan o.v r else .none

theorem truthy_Oth {o : Oth} {Q : Bool → Shared → Prop} (X : (hd.heap_39 w.params).In s.heap) (D : OthAt s.heap o) (h : ∀ tk, Q (!o.es.isEmpty) { s with toks := tk }) : wpAny (model prog w) A (truthy o.v) Q E s := by
  cases D with
  | none => exact wpAny_pure (h s.toks)
  | dic e G l => exact truthy_DL (DL.ofDict e G l) h
  | imm e e' G l => exact truthy_DL (DL.ofImm X e G l) h

theorem len_tup {t : Addr} {vs : List Value} {Q : Value → Shared → Prop} (ht : IsTup s.heap t vs.toArray) (hfit : vs.length ≤ 63)
    (h : Q (.int vs.length (s.toks + 1)) { s with toks := s.toks + 1 + 1 }) : wpAny (model prog w) A (call (.builtin "len") [.ref t]) Q E s := by
  refine len_tuple ht (by rw [List.size_toArray]; omega) ?_
  rw [List.size_toArray]; exact h
theorem item_tup {value slice : PySem.Expr} {t : Addr} {vs : List Value} {i : Nat} {u : Tok} {x : Value} {Q : Value → Shared → Prop} (ht : IsTup s.heap t vs.toArray) (hfit : vs.length ≤ 63) (hx : vs[i]? = some x)
    (h : Q x s) (hs : subscripted slice false (.ref t) (.int i u) = operate [.ref t, .int i u] (getItem (.ref t) (.int i u)) := by with_unfolding_all rfl) :
    wpAny (model prog w) A (subscriptTail value slice (.ref t) (.int i u)) Q E s := by
  have hi : i < vs.length := (List.getElem?_eq_some_iff.mp hx).1
  refine tail_any ht.typeIs slot_tuple_getitem.lookup (getItem_tuple (j := i) ht (by omega) (by omega) ?_ (by simpa using hx) h) hs
  rw [List.size_toArray]
  unfold seqIndex?
  have h0 : ¬ ((i : Int) < 0) := by omega
  simp only [h0, if_false]
  have h1 : ((0 : Int) ≤ (i : Int) && decide ((i : Int) < (vs.length : Int))) = true := by
    rw [Bool.and_eq_true]; exact ⟨decide_eq_true (by omega), decide_eq_true (by omega)⟩
  rw [if_pos h1]
  rfl

theorem meta_dict : typeOf (.type "dict") = pure (.type "type") := by kernel_rfl
theorem f_not (p : Params) : isNotIn (hd.heap_39 p) "dict" 145 = true := by kernel_rfl
theorem f_is (p : Params) : isIn (hd.heap_39 p) (.ref 145) 145 = true := by kernel_rfl
theorem isi_imm {a dx : Addr} {es : List DictEntry} {n : Nat} {Q : Value → Shared → Prop} (X : (hd.heap_39 w.params).In s.heap) (hx : s.heap.get? a = some (immO dx es n)) (h : Q (.bool true) s) :
    wpAny (model prog w) A (call (.builtin "isinstance") [.ref a, .ref 145]) Q E s :=
  isi_call X (fun M => looks_type hx) (f_is _) (by intro e; cases e) h
theorem isi_dic {a : Addr} {es : List DictEntry} {n : Nat} {Q : Value → Shared → Prop} (X : (hd.heap_39 w.params).In s.heap) (hx : s.heap.get? a = some (dictOf es n)) (h : Q (.bool false) { s with toks := s.toks + 1 }) :
    wpAny (model prog w) A (call (.builtin "isinstance") [.ref a, .ref 145]) Q E s :=
  isn_call X (fun M => looks_type hx) (f_not _) (by intro e; cases e) (P := fun h => ∃ o, h.get? a = some o ∧ o.cls = .type "dict") ⟨_, hx, rfl⟩ dict_cls h
theorem isi_Oth {a : Addr} {es : List DictEntry} {im : Bool} {Q : Value → Shared → Prop} (X : (hd.heap_39 w.params).In s.heap) (D : OthAt s.heap ⟨.ref a, es, im⟩) (h : ∀ tk, Q (.bool im) { s with toks := tk }) :
    wpAny (model prog w) A (call (.builtin "isinstance") [.ref a, .ref 145]) Q E s := by
  cases D with
  | dic e G l => exact isi_dic X e (h _)
  | imm e e' G l => exact isi_imm X e (h s.toks)
theorem isi_dict {a : Addr} {es : List DictEntry} {Q : Value → Shared → Prop} (X : (hd.heap_39 w.params).In s.heap) (D : DArg s.heap a es) (h : Q (.bool true) s) :
    wpAny (model prog w) A (call (.builtin "isinstance") [.ref a, .type "dict"]) Q E s := by
  have L2 := (DArg.dl (M := model prog w) X D).isD
  cases D with
  | dic e G l => exact call_isinstance_yes (Tx := "dict") ⟨_, e, rfl⟩ meta_dict (by rw [isSubtype_type]; kernel_rfl) h
  | imm e e' G l =>
    refine call_isinstance_of ?_ (by intro q; cases q)
    unfold Builtin.«isinstance.nested»
    refine wpAny_bind ((looks_type (M := model prog w) e).here ?_)
    rw [if_neg (show ¬ ((Value.ref 145 == Value.type "dict") = true) by decide)]
    refine wpAny_bind (m := typeOf (.type "dict")) (wpAny_of_eq meta_dict ?_)
    rw [if_pos (show (Value.type "type" == Value.type "type") = true by decide)]
    refine wpAny_bind (wpAny_bind (m := isType (.type "dict")) (wpAny_pure (a := true) ?_))
    refine wpAny_bind (m := isInstance (.ref a) (.type "dict")) (L2.here ?_)
    exact wpAny_pure (a := true) (wpAny_pure h)
end
end Mine
end

section
open PySem PySem.W PyProof.Rows PySem.Calls
set_option maxRecDepth 100000
namespace Mine
theorem fc_update (p : Params) : findCls (hd.heap_39 p) (.type "dict") (.type "type") "update" = some (.val (.builtin "dict.update")) := by kernel_rfl
theorem fc_or (p : Params) : findCls (hd.heap_39 p) (.type "dict") (.type "type") "__or__" = some (.val (.builtin "dict.__or__")) := by kernel_rfl
theorem fc_ror (p : Params) : findCls (hd.heap_39 p) (.type "dict") (.type "type") "__ror__" = some (.val (.builtin "dict.__ror__")) := by kernel_rfl
theorem fc_repr (p : Params) : findCls (hd.heap_39 p) (.type "dict") (.type "type") "__repr__" = some (.val (.builtin "dict.__repr__")) := by kernel_rfl
section
variable {prog : Program} {w : World} {A : Around} {E : Value → Shared → Prop} {s : Shared} {g : Heap} {L : Addr} {m : Str → Option Value} {news : List (Addr × Obj)}
theorem dict_attr {name : Str} {id : String} {pl : Sem Bool} {Q : Value × List Value → Shared → Prop} (X : (hd.heap_39 w.params).In s.heap)
    (e : findCls (hd.heap_39 w.params) (.type "dict") (.type "type") name = some (.val (.builtin id))) (hh : handedIn (.builtin id) = true) (h : Q (.builtin id, []) { s with toks := s.toks + 1 }) :
    wpAny (model prog w) A (getMethod (.type "dict") name pl) Q E s := by
  have hstub : opaqueClassAbove (.type "dict") = pure none := by unfold opaqueClassAbove; dsimp only; rw [show Manifest.isStub "dict" = false by decide +kernel]; rfl
  have L0 : Looks (model prog w) s.heap (typeOf (.type "dict")) (.type "type") := Looks.of_pure meta_dict
  have hg : findIn (hd.heap_39 w.params) (.type "type") "__getattribute__" = some (some (.builtin "type.__getattribute__")) := type_tga
  unfold getMethod specialOf
  refine wpAny_bind (wpAny_bind (L0.here ((looks_findIn X hg).here ?_)))
  dsimp only
  rw [if_pos canon_tga]
  refine wpAny_bind (wpAny_mono (Q := fun v => Q (v, [])) (E := E) ?_ (fun _ _ z => wpAny_pure z) fun _ _ z => z)
  have LO : Looks (model prog w) s.heap (opaqueClassAbove (.type "dict")) none := Looks.of_pure hstub
  refine cls_open X LO L0 hg (looks_hook X (r := none) (by rfl)) (by show subIn _ _ _ = _; rfl) e ?_
  exact wpAny_pure (handed_on hh h)
theorem getm_update {pl : Sem Bool} {Q : Value × List Value → Shared → Prop} (X : (hd.heap_39 w.params).In s.heap) (h : Q (.builtin "dict.update", []) { s with toks := s.toks + 1 }) :
    wpAny (model prog w) A (getMethod (.type "dict") "update" pl) Q E s := by with_reducible exact dict_attr X (fc_update w.params) (by decide +kernel) h
theorem getm_or {pl : Sem Bool} {Q : Value × List Value → Shared → Prop} (X : (hd.heap_39 w.params).In s.heap) (h : Q (.builtin "dict.__or__", []) { s with toks := s.toks + 1 }) :
    wpAny (model prog w) A (getMethod (.type "dict") "__or__" pl) Q E s := by with_reducible exact dict_attr X (fc_or w.params) (by decide +kernel) h
theorem getm_ror {pl : Sem Bool} {Q : Value × List Value → Shared → Prop} (X : (hd.heap_39 w.params).In s.heap) (h : Q (.builtin "dict.__ror__", []) { s with toks := s.toks + 1 }) :
    wpAny (model prog w) A (getMethod (.type "dict") "__ror__" pl) Q E s := by with_reducible exact dict_attr X (fc_ror w.params) (by decide +kernel) h
theorem getm_repr {pl : Sem Bool} {Q : Value × List Value → Shared → Prop} (X : (hd.heap_39 w.params).In s.heap) (h : Q (.builtin "dict.__repr__", []) { s with toks := s.toks + 1 }) :
    wpAny (model prog w) A (getMethod (.type "dict") "__repr__" pl) Q E s := by with_reducible exact dict_attr X (fc_repr w.params) (by decide +kernel) h
end
end Mine
end

section
open PySem PySem.W PyProof.Rows PySem.Calls
set_option maxRecDepth 100000
namespace Mine
theorem scan_cons {v : Value} {os : List Oth} {i : Nat} {o : Oth} (h : os[i]? = some o) : scan v (os.drop i) = if o.es = [] then scan v (os.drop (i + 1)) else if v = .bool false ∧ o.im = true then scan o.v (os.drop (i + 1)) else .none := by
  obtain ⟨hi, rfl⟩ := List.getElem?_eq_some_iff.mp h
  rw [List.drop_eq_getElem_cons hi]
  rfl
theorem inv_end {h₀ h : Heap} {L : Addr} {J : (Str → Option Value) → List (Addr × Obj) → Prop} {own nx : List (Addr × Obj)} {adr : List Addr} {s₁ : Shared} {tk : Nat} {m : Str → Option Value} {news : List (Addr × Obj)}
    (F : Fr h₀ L h m) (N : News h₀ L h news) (h1 : ∀ p ∈ nx, p ∈ news) (h2 : ∀ p ∈ own, p ∈ news) (h3 : nx.map (·.1) = adr) (j : J m nx) : InvEndN h₀ L J own adr s₁ { s₁ with heap := h, toks := tk } :=
  ⟨h, tk, m, news, nx, rfl, F, N, h1, h2, h3, j⟩
theorem map_shape {m₀ m : Str → Option Value} {ks : List Str} (h : ∀ z, z ∉ ks → m z = m₀ z) : m = fun z => if z ∈ ks then m z else m₀ z := by
  funext z
  by_cases q : z ∈ ks
  · simp [q]
  · simp only [if_neg q]; exact h z q

def scanKs : List Str := [Str.ofString "only_one", Str.ofString "i", Str.ofString "d"]
def Vok (v : Value) : Prop := v = .bool false ∨ ∃ a, v = .ref a
def ScanJ (v0 : Value) (os : List Oth) (m₀ : Str → Option Value) (i : Nat) (m : Str → Option Value) (nx : List (Addr × Obj)) : Prop :=
  nx = [] ∧ ∃ v, Vok v ∧ m (Str.ofString "only_one") = some v ∧ (∀ z, z ∉ scanKs → m z = m₀ z) ∧ scan v (os.drop i) = scan v0 os
theorem scan_shape {m₀ m₁ : Str → Option Value} {v : Value} (hv : m₁ (Str.ofString "only_one") = some v) (hm : ∀ z, z ∉ scanKs → m₁ z = m₀ z) :
    m₁ = (fun y => if y = Str.ofString "only_one" then some v else if y = Str.ofString "i" then m₁ y else if y = Str.ofString "d" then m₁ y else m₀ y) := by
  funext y
  by_cases q2 : y = Str.ofString "only_one"
  · simp only [if_pos q2]; rw [q2]; exact hv
  · simp only [if_neg q2]
    by_cases q1 : y = Str.ofString "i"
    · simp only [if_pos q1]
    · simp only [if_neg q1]
      by_cases q3 : y = Str.ofString "d"
      · simp only [if_pos q3]
      · simp only [if_neg q3]
        exact hm y (by unfold scanKs; simp [q1, q2, q3])
theorem scan_loop {prog : Program} {w : World} {A : Around} {E : Value → Shared → Prop} {s : Shared} {env : Env} {h₀ : Heap} {body : List Stmt} {Q : Flow → Shared → Prop}
    {r : Addr} {t₀ u₀ v₀ : Tok} {n : Nat} {m₀ : Str → Option Value} {v0 : Value} {os : List Oth}
    (hh : A.handled = none) (hr : IsRange s.heap r 0 (n : Int) 1 t₀ u₀ v₀) (hn : n = os.length) (hn2 : n ≤ 63) (F : Fr h₀ env.locals s.heap m₀) (N : News h₀ env.locals s.heap []) (h0 : m₀ (Str.ofString "only_one") = some v0) (hv0 : Vok v0)
    (turn : ∀ (i : Nat) t v o (m₁ : Str → Option Value) h tk own (Q' : Flow → Shared → Prop), os[i]? = some o → Vok v → scan v (os.drop i) = scan v0 os → Fr h₀ env.locals h (fun y => if y = Str.ofString "i" then some (.int i t) else if y = Str.ofString "only_one" then some v else if y = Str.ofString "d" then m₁ y else m₀ y) → News h₀ env.locals h own →
      (∀ m' h' tk', Fr h₀ env.locals h' m' → m' (Str.ofString "only_one") = some .none → (∀ z, z ∉ scanKs → m' z = m₀ z) → scan v0 os = .none → Q' .next { s with heap := h', toks := tk' }) →
      wpAny (model prog w) A (execs body env) (InvPostN h₀ env.locals (ScanJ v0 os m₀ (i + 1)) own [] { s with heap := h, toks := tk } Q') E { s with heap := h, toks := tk })
    (after : ∀ (m₁ : Str → Option Value) h tk, (scan v0 os = .none ∨ Vok (scan v0 os)) → Fr h₀ env.locals h (fun y => if y = Str.ofString "only_one" then some (scan v0 os) else if y = Str.ofString "i" then m₁ y else if y = Str.ofString "d" then m₁ y else m₀ y) → News h₀ env.locals h [] → Q .next { s with heap := h, toks := tk }) :
    wpAny (model prog w) A (pyIter (.ref r)) (fun it s₂ => LoopAtV prog w A h₀ env (Str.ofString "i") body Q E it s₂) E s := by
  have hsz : Builtin.Range.rangeSize 0 (n : Int) 1 = (n : Int) := by
    unfold Builtin.Range.rangeSize
    rw [if_pos (by decide)]
    by_cases q : (0 : Int) < n
    · rw [if_pos q]; omega
    · rw [if_neg q]; omega
  have hsm : Builtin.Range.small 0 (n : Int) 1 = true := by
    unfold Builtin.Range.small
    rw [hsz]
    unfold Builtin.Range.rangeFitsLong
    simp
    omega
  refine kpr_invN (ScanJ v0 os m₀) hh hr hsm hsz F N ⟨rfl, v0, hv0, h0, fun _ _ => rfl, rfl⟩ ?_ ?_
  · rintro i k t m₁ nx h tk own hk hoff ⟨rfl, v, vok, hv, hm, hs⟩ F₁ N₁
    have hi : i < n := by have := (List.getElem?_eq_some_iff.mp hk).1; rwa [rangeKs_length] at this
    have hki : k = (i : Int) := by
      have := hk
      simp [rangeKs, hi] at this
      exact this.symm
    subst hki
    obtain ⟨o, ho⟩ : ∃ o, os[i]? = some o := ⟨os[i]'(hn ▸ hi), List.getElem?_eq_getElem _⟩
    refine turn i t v o m₁ h tk own Q ho vok hs ?_ (by simpa using N₁) (fun m' h' tk' F' e1 e2 e3 => after m' h' tk' (.inl e3) (by
      rw [e3, ← scan_shape e1 e2]; exact F') (News.nil))
    have e : (fun y => if y = Str.ofString "i" then some (Value.int i t) else m₁ y) = (fun y => if y = Str.ofString "i" then some (.int i t) else if y = Str.ofString "only_one" then some v else if y = Str.ofString "d" then m₁ y else m₀ y) := by
      funext y
      by_cases q1 : y = Str.ofString "i"
      · simp only [if_pos q1]
      · simp only [if_neg q1]
        have := congrFun (scan_shape hv hm) y
        rw [this]
        simp only [if_neg q1]
        by_cases q2 : y = Str.ofString "only_one"
        · simp only [if_pos q2]
        · simp only [if_neg q2]
          by_cases q3 : y = Str.ofString "d"
          · simp only [if_pos q3]
          · simp only [if_neg q3]
    rw [← e]; exact F₁
  · rintro m₁ nx h tk ⟨rfl, v, vok, hv, hm, hs⟩ F₁ N₁
    rw [rangeKs_length, hn, List.drop_length] at hs
    have hs' : v = scan v0 os := hs
    subst hs'
    refine after m₁ h tk (.inr vok) ?_ N₁
    rw [← scan_shape hv hm]; exact F₁

theorem not_scanKs {z : Str} (h : z ∉ scanKs) : ¬ z = Str.ofString "only_one" ∧ ¬ z = Str.ofString "i" ∧ ¬ z = Str.ofString "d" := by
  unfold scanKs at h
  simp only [List.mem_cons, List.not_mem_nil, or_false, not_or] at h
  exact h
theorem ne_nil_of {es : List DictEntry} (e : es.isEmpty = false) : ¬ es = [] := by intro q; rw [q] at e; cases e
theorem news_es {g h : Heap} {L x d : Addr} {es : List DictEntry} (he : es = []) (N : News g L h [(x, immO d [] 0), (d, dictOf [] 0)]) : News g L h [(x, immO d es 0), (d, dictOf [] 0)] := by rw [he]; exact N
theorem news_mrg {g h : Heap} {L x d : Addr} {es : List DictEntry} {n : Nat} (G : Good es) (N : News g L h [(x, immO d (mrg [] es) n), (d, dictOf [] 0)]) : News g L h [(x, immO d es n), (d, dictOf [] 0)] := by rw [mrg_nil_left G] at N; exact N
def uStart (es : List DictEntry) (x : Addr) : Value := if es.isEmpty = true then .bool false else .ref x
def uAll (es : List DictEntry) (os : List Oth) : List DictEntry := os.foldl (fun a o => mrg a o.es) es
theorem uAll_succ {es : List DictEntry} {os : List Oth} {i : Nat} {o : Oth} (h : os[i]? = some o) : uAll es (os.take (i + 1)) = mrg (uAll es (os.take i)) o.es := by
  unfold uAll
  rw [List.take_add_one, h]
  simp
theorem uAll_good {h : Heap} {es : List DictEntry} {os : List Oth} (G : Good es) (ho : ∀ o ∈ os, OthAt h o) : Good (uAll es os) := by
  unfold uAll
  induction os generalizing es with
  | nil => exact G
  | cons o r ih => exact ih (G.mrg (ho o (.head _)).good) fun q hq => ho q (.tail _ hq)
def UpdJ (r dr : Addr) (es : List DictEntry) (os : List Oth) (m₀ : Str → Option Value) (i : Nat) (m : Str → Option Value) (nx : List (Addr × Obj)) : Prop :=
  (∃ n, nx = [(r, immO dr (uAll es (os.take i)) n), (dr, dictOf [] 0)]) ∧ ∀ z, ¬ z = Str.ofString "i" → ¬ z = Str.ofString "d" → m z = m₀ z
theorem upd_shape {m₀ m₁ : Str → Option Value} (hm : ∀ z, ¬ z = Str.ofString "i" → ¬ z = Str.ofString "d" → m₁ z = m₀ z) :
    m₁ = (fun y => if y = Str.ofString "i" then m₁ y else if y = Str.ofString "d" then m₁ y else m₀ y) := by
  funext y
  by_cases q1 : y = Str.ofString "i"
  · simp only [if_pos q1]
  · simp only [if_neg q1]
    by_cases q3 : y = Str.ofString "d"
    · simp only [if_pos q3]
    · simp only [if_neg q3]
      exact hm y q1 q3
theorem upd_sub {r dr : Addr} {a b : List DictEntry} {n : Nat} {own : List (Addr × Obj)} (e : b = a) : ∀ p ∈ [(r, immO dr b n), (dr, dictOf [] 0)], p ∈ (r, immO dr a n) :: (dr, dictOf [] 0) :: own := by
  subst e
  intro p hp
  simp only [List.mem_cons, List.not_mem_nil, or_false] at hp ⊢
  rcases hp with h | h <;> simp [h]
theorem upd_loop {prog : Program} {w : World} {A : Around} {E : Value → Shared → Prop} {s : Shared} {env : Env} {h₀ : Heap} {body : List Stmt} {Q : Flow → Shared → Prop}
    {r rr dr : Addr} {t₀ u₀ v₀ : Tok} {n n' : Nat} {m₀ : Str → Option Value} {es : List DictEntry} {os : List Oth}
    (hh : A.handled = none) (hr : IsRange s.heap rr 0 (n : Int) 1 t₀ u₀ v₀) (hn : n = os.length) (hn2 : n ≤ 63) (F : Fr h₀ env.locals s.heap m₀) (N : News h₀ env.locals s.heap [(r, immO dr es n'), (dr, dictOf [] 0)])
    (turn : ∀ (i : Nat) t o (m₁ : Str → Option Value) h tk own n', os[i]? = some o → OwnOff own [r, dr] → Fr h₀ env.locals h (fun y => if y = Str.ofString "i" then some (.int i t) else if y = Str.ofString "d" then m₁ y else m₀ y) → News h₀ env.locals h ((r, immO dr (uAll es (os.take i)) n') :: (dr, dictOf [] 0) :: own) →
      wpAny (model prog w) A (execs body env) (InvPostN h₀ env.locals (UpdJ r dr es os m₀ (i + 1)) own [r, dr] { s with heap := h, toks := tk } Q) E { s with heap := h, toks := tk })
    (after : ∀ (m₁ : Str → Option Value) h tk n', Fr h₀ env.locals h (fun y => if y = Str.ofString "i" then m₁ y else if y = Str.ofString "d" then m₁ y else m₀ y) → News h₀ env.locals h [(r, immO dr (uAll es os) n'), (dr, dictOf [] 0)] → Q .next { s with heap := h, toks := tk }) :
    wpAny (model prog w) A (pyIter (.ref rr)) (fun it s₂ => LoopAtV prog w A h₀ env (Str.ofString "i") body Q E it s₂) E s := by
  have hsz : Builtin.Range.rangeSize 0 (n : Int) 1 = (n : Int) := by
    unfold Builtin.Range.rangeSize
    rw [if_pos (by decide)]
    by_cases q : (0 : Int) < n
    · rw [if_pos q]; omega
    · rw [if_neg q]; omega
  have hsm : Builtin.Range.small 0 (n : Int) 1 = true := by
    unfold Builtin.Range.small
    rw [hsz]
    unfold Builtin.Range.rangeFitsLong
    simp
    omega
  refine kpr_invN (UpdJ r dr es os m₀) hh hr hsm hsz F N ⟨⟨n', rfl⟩, fun _ _ _ => rfl⟩ ?_ ?_
  · rintro i k t m₁ nx h tk own hk hoff ⟨⟨n₁, rfl⟩, hm⟩ F₁ N₁
    have hi : i < n := by have := (List.getElem?_eq_some_iff.mp hk).1; rwa [rangeKs_length] at this
    have hki : k = (i : Int) := by
      have := hk
      simp [rangeKs, hi] at this
      exact this.symm
    subst hki
    obtain ⟨o, ho⟩ : ∃ o, os[i]? = some o := ⟨os[i]'(hn ▸ hi), List.getElem?_eq_getElem _⟩
    refine turn i t o m₁ h tk own n₁ ho hoff ?_ N₁
    have e : (fun y => if y = Str.ofString "i" then some (Value.int i t) else m₁ y) = (fun y => if y = Str.ofString "i" then some (.int i t) else if y = Str.ofString "d" then m₁ y else m₀ y) := by
      funext y
      by_cases q1 : y = Str.ofString "i"
      · simp only [if_pos q1]
      · simp only [if_neg q1]
        by_cases q3 : y = Str.ofString "d"
        · simp only [if_pos q3]
        · simp only [if_neg q3]; exact hm y q1 q3
    rw [← e]; exact F₁
  · rintro m₁ nx h tk ⟨⟨n₁, rfl⟩, hm⟩ F₁ N₁
    rw [rangeKs_length, hn, List.take_length] at N₁
    refine after m₁ h tk n₁ ?_ N₁
    rw [← upd_shape hm]; exact F₁
theorem fresh_ne {g h : Heap} {L r a : Addr} {o : Obj} {news : List (Addr × Obj)} {es : List DictEntry} (N : News g L h news) (hm : (r, o) ∈ news) (D : DArg g a es) : r ≠ a := by
  rintro rfl
  obtain ⟨ep, o', ho, _⟩ := D.esAt
  rw [(N _ hm).2.2] at ho; cases ho
local macro_rules | `(tactic| walk_at "truthy ref") => `(tactic| (k_here; k_dflt (refine' truthy_DL (DArg.dl (P := World.params _) ?X ?D) ?_; (case X => first | with_reducible assumption | exact Frag.In.keeps (by with_reducible assumption) (Fr.keep (by with_reducible assumption))); (case D => exact DArg.keeps (by assumption) (Fr.keep (by k_asm))); k_whole); intro tk'))
local macro_rules | `(tactic| walk_at "call builtin:len") => `(tactic| (k_here; k_dflt (refine' len_tup ?T ?l ?_; (case T => exact IsTup.keeps (by assumption) (Fr.keep (by k_asm))); (case l => assumption); k_whole)))
local macro_rules | `(tactic| walk_at "subscriptTail Name Name ref int") => `(tactic| (k_here; k_dflt (refine' item_tup ?T ?l ?hx ?_; (case T => exact IsTup.keeps (by assumption) (Fr.keep (by k_asm))); (case l => assumption); (case hx => assumption); k_whole)))
local macro_rules | `(tactic| walk_at "call builtin:isinstance") => `(tactic| (k_here; (with_reducible show wpAny _ _ (call _ [Value.ref _, Value.ref 145]) _ _ _); k_dflt (refine' isi_Oth ?X ?D ?_; (case X => first | with_reducible assumption | exact Frag.In.keeps (by with_reducible assumption) (Fr.keep (by with_reducible assumption))); (case D => exact OthAt.keeps (by assumption) (Fr.keep (by k_asm))); k_whole); intro tk'))
local macro_rules | `(tactic| walk_at "call ref") => `(tactic| (k_here; (with_reducible show wpAny _ _ (call (Value.ref 145) ([] ++ [])) _ _ _); (show wpAny _ _ (call (Value.ref 145) []) _ _ _); k_dflt (refine' led_imm_new ?X ?T ?F ?N ?_; (case X => k_asm); (case T => exact Top.nolimit (by k_asm)); (case F => k_asm); (case N => k_asm); k_whole); intro h' x' d' F' N' l1 l2 l3 l4; (try k_lt l1); (try k_lt l2); (try k_sweep)))
local macro_rules | `(tactic| walk_at "call builtin:dict.update") => `(tactic| (k_here; k_dflt (refine' led_update ?X ?F ?N ?U ?G ?l ?n ?D ?_; (case X => k_asm); (case F => k_asm); (case N => k_asm); (case U => k_updF); (case G => first | exact Good.nil | assumption); (case l => assumption); (case D => exact DArg.keeps (by assumption) (Fr.keep (by k_asm))); (case n => exact fresh_ne (by k_asm) (by k_mem) (by assumption)); k_whole); intro h' tk' n' F' N'; (try dsimp only at N'); (try k_sweep)))
local macro_rules | `(tactic| walk_at "call builtin:isinstance") => `(tactic| (k_here; (with_reducible show wpAny _ _ (call _ [Value.ref _, Value.type _]) _ _ _); k_dflt (refine' isi_dict ?X ?D ?_; (case X => first | with_reducible assumption | exact Frag.In.keeps (by with_reducible assumption) (Fr.keep (by with_reducible assumption))); (case D => exact DArg.keeps (by assumption) (Fr.keep (by k_asm))); k_whole)))
local macro_rules | `(tactic| walk_at "getMethod type:dict") => `(tactic| (k_here; (with_reducible show wpAny _ _ (getMethod _ (PySem.Str.ofString "update") _) _ _ _); (with_reducible refine' getm_update ?X ?_); (case X => first | with_reducible assumption | exact Frag.In.keeps (by with_reducible assumption) (Fr.keep (by with_reducible assumption))); k_whole))
local macro_rules | `(tactic| walk_at "InvEndN") => `(tactic| (refine stop ?_))
local macro_rules | `(tactic| walk_at "pyIter ref") => `(tactic| (k_here; (with_reducible show wpAny _ _ (pyIter _) (fun _ _ => LoopAtV _ _ _ _ _ _ _ _ _ _ _) _ _); refine stop ?_))
set_option maxHeartbeats 4000000 in
theorem raw_union {w : World} {A : Around} {s : Shared} {h₀ : Heap} {mg mb : Str → Option Value} {loose : List Str} {mean : ExcName → Option Value} {E : Value → Shared → Prop} {Q : Value → Shared → Prop}
   (X : (hd.heap_39 w.params).In h₀) (T : Top hd.view_39 loose mean mg mb h₀) (keep : ∀ b o, h₀.get? b = some o → s.heap.get? b = some o)
   {x dx tup : Addr} {es : List DictEntry} {n : Nat} {os : List Oth} (hx : s.heap.get? x = some (immO dx es n)) (hdx : s.heap.get? dx = some (dictOf [] 0)) (G : Good es) (hx2 : 2 < x)
   (ht : IsTup s.heap tup (os.map (·.v)).toArray) (ho : ∀ o ∈ os, OthAt s.heap o) (hlen : os.length ≤ 63) (hroom : A.depth < 460) (hh : A.handled = none)
   (h0 : scan (uStart es x) os = .bool false → ∀ h' tk, (∀ b o, s.heap.get? b = some o → h'.get? b = some o) → Q (.ref x) { s with heap := h', toks := tk })
   (h1 : ∀ a, scan (uStart es x) os = .ref a → ∀ h' tk, (∀ b o, s.heap.get? b = some o → h'.get? b = some o) → Q (.ref a) { s with heap := h', toks := tk })
   (h2 : scan (uStart es x) os = .none → ∀ h' tk r dr n', (∀ b o, s.heap.get? b = some o → h'.get? b = some o) → h'.get? r = some (immO dr (uAll es os) n') → h'.get? dr = some (dictOf [] 0) → s.heap.objs.size < r → s.heap.objs.size < dr → Q (.ref r) { s with heap := h', toks := tk }) :
   wpAny (model Challenge.rw_eu0031_01.row.prog w) A (call (.ref 114) [.ref x, .ref tup]) Q E s := by
  w_top off
  revert X; k_fill; intro X
  have X1 := X.keeps keep
  have T1 := T.keeps keep
  have D0 : DArg s.heap x es := .imm hx hdx G hx2
  have hl2 : (os.map (·.v)).length ≤ 63 := by simpa using hlen
  refine wpAny_call (code_raw [] [] rfl (by simp) T1.nolimit (X1 114 _ (by k_is)) rfl (codeRec_of X1 (by k_is)) (Nat.lt_trans hroom (by decide)) (BindsTo.of_eq rfl) (locs rfl) (by decide) (fun h₁ F N => ?_))
  dsimp only
  (with_reducible show wpAny _ _ _ _ _ _)
  k_fold
  change Fr s.heap _ _ _ at F
  change News s.heap _ _ _ at N
  k_steps
  · have e0 : os = [] := by
      have e1 : ((os.map (·.v)).length : Int) = 0 := by assumption
      simpa using e1
    subst e0
    with_reducible rename Fr _ _ _ _ => kF
    by_cases he : es.isEmpty = true
    · exact h0 (by simp [uStart, scan, he]) _ _ kF.keep
    · exact h1 x (by simp [uStart, scan, he]) _ _ kF.keep
  all_goals
    (with_reducible rename IsRange _ _ _ _ _ _ _ _ => hR)
    (with_reducible rename Fr _ _ _ _ => kF)
    (with_reducible rename News _ _ _ _ => kN)
    refine scan_loop (os := os) hh hR (by simp) hl2 kF kN rfl (by first | exact .inl rfl | exact .inr ⟨_, rfl⟩) (fun i t v o m₁ h tk own Q' hi hv hs F₁ N₁ brk => ?_) (fun m₁ h tk hc F₁ N₁ => ?_)
  · have D := ho o (List.mem_of_getElem? hi)
    obtain ⟨ov, oes, oim⟩ := o
    have hx' : (os.map (·.v))[i]? = some ov := by simp [hi]
    rw [scan_cons hi] at hs
    dsimp only at hs
    rcases OthAt.split D with ⟨rfl, rfl, rfl⟩ | ⟨a, rfl, DA⟩
    · rw [if_pos rfl] at hs
      k_steps
      exact inv_end (by assumption) (by assumption) (by simp) (fun p hp => hp) rfl ⟨rfl, _, hv, rfl, by (intro z hz; obtain ⟨h1, h2, h3⟩ := not_scanKs hz; simp only [if_neg h1, if_neg h2, if_neg h3]), hs⟩
    · rcases hv with rfl | ⟨b, rfl⟩
      · k_steps
        · rw [if_pos (List.isEmpty_iff.mp (by assumption))] at hs
          exact inv_end (by assumption) (by assumption) (by simp) (fun p hp => hp) rfl ⟨rfl, _, .inl rfl, rfl, by (intro z hz; obtain ⟨h1, h2, h3⟩ := not_scanKs hz; simp only [if_neg h1, if_neg h2, if_neg h3]), hs⟩
        · rw [if_neg (ne_nil_of (by assumption)), if_pos ⟨rfl, by assumption⟩] at hs
          exact inv_end (by assumption) (by assumption) (by simp) (fun p hp => hp) rfl ⟨rfl, _, .inr ⟨_, rfl⟩, rfl, by (intro z hz; obtain ⟨h1, h2, h3⟩ := not_scanKs hz; simp only [if_neg h1, if_neg h2, if_neg h3]), hs⟩
        · rw [if_neg (ne_nil_of (by assumption)), if_neg (fun q => by have := q.2; simp_all)] at hs
          exact brk _ _ _ (by assumption) rfl (by (intro z hz; obtain ⟨h1, h2, h3⟩ := not_scanKs hz; simp only [if_neg h1, if_neg h2, if_neg h3])) hs.symm
      · k_steps
        · rw [if_pos (List.isEmpty_iff.mp (by assumption))] at hs
          exact inv_end (by assumption) (by assumption) (by simp) (fun p hp => hp) rfl ⟨rfl, _, .inr ⟨_, rfl⟩, rfl, by (intro z hz; obtain ⟨h1, h2, h3⟩ := not_scanKs hz; simp only [if_neg h1, if_neg h2, if_neg h3]), hs⟩
        · rw [if_neg (ne_nil_of (by assumption)), if_neg (fun q => by cases q.1)] at hs
          exact brk _ _ _ (by assumption) rfl (by (intro z hz; obtain ⟨h1, h2, h3⟩ := not_scanKs hz; simp only [if_neg h1, if_neg h2, if_neg h3])) hs.symm
  · have e0 : uStart es x = .bool false := by unfold uStart; simp only [(by assumption : es.isEmpty = true)]; rfl
    generalize hr : scan (.bool false) os = r at F₁ hc
    rw [← e0] at hr
    (with_reducible show wpAny _ _ _ _ _ _)
    rcases hc with rfl | rfl | ⟨b, rfl⟩
    · clear hR
      k_steps
      with_reducible rename IsRange _ _ _ _ _ _ _ _ => hR
      with_reducible rename Fr _ _ _ _ => kF
      with_reducible rename News _ _ _ _ => kN
      replace kN := news_es (es := es) (List.isEmpty_iff.mp (by assumption)) kN
      refine upd_loop (os := os) (es := es) hh hR (by simp) hl2 kF kN (fun i t o m₁ h tk own n' hi hoff F₁ N₁ => ?_) (fun m₁ h tk n' F₁ N₁ => ?_)
      · clear kF kN
        have D := ho o (List.mem_of_getElem? hi)
        obtain ⟨ov, oes, oim⟩ := o
        have hx' : (os.map (·.v))[i]? = some ov := by simp [hi]
        have Gi := uAll_good (es := es) (os := os.take i) G (fun q hq => ho q (List.mem_of_mem_take hq))
        have hu := uAll_succ (es := es) hi
        dsimp only at hu
        rcases OthAt.split D with ⟨rfl, rfl, rfl⟩ | ⟨a, rfl, DA⟩
        · k_steps
          exact inv_end (by assumption) (by assumption) (upd_sub (by rw [hu, mrg_nil])) (fun p hp => .tail _ (.tail _ hp)) rfl ⟨⟨_, rfl⟩, by (intro z h1 h2; simp only [if_neg h1, if_neg h2])⟩
        · k_steps
          · have hz : oes = [] := List.isEmpty_iff.mp (by assumption)
            exact inv_end (by assumption) (by assumption) (upd_sub (by rw [hu, hz, mrg_nil])) (fun p hp => .tail _ (.tail _ hp)) rfl ⟨⟨_, rfl⟩, by (intro z h1 h2; simp only [if_neg h1, if_neg h2])⟩
          · exact inv_end (by assumption) (by assumption) (upd_sub hu) (fun p hp => .tail _ (.tail _ hp)) rfl ⟨⟨_, rfl⟩, by (intro z h1 h2; simp only [if_neg h1, if_neg h2])⟩
      · clear kF kN
        (with_reducible show wpAny _ _ _ _ _ _)
        k_steps
        with_reducible rename Fr _ _ _ _ => kF
        with_reducible rename News _ _ _ _ => kN
        with_reducible rename Fresh2 _ _ _ => ab
        exact h2 hr _ _ _ _ _ kF.keep (kN.get (.head _)) (kN.get (.tail _ (.head _))) ab.lx ab.ld
    · k_steps
      with_reducible rename Fr _ _ _ _ => kF
      exact h0 hr _ _ kF.keep
    · k_steps
      with_reducible rename Fr _ _ _ _ => kF
      exact h1 _ hr _ _ kF.keep
  · have D := ho o (List.mem_of_getElem? hi)
    obtain ⟨ov, oes, oim⟩ := o
    have hx' : (os.map (·.v))[i]? = some ov := by simp [hi]
    rw [scan_cons hi] at hs
    dsimp only at hs
    rcases OthAt.split D with ⟨rfl, rfl, rfl⟩ | ⟨a, rfl, DA⟩
    · rw [if_pos rfl] at hs
      k_steps
      exact inv_end (by assumption) (by assumption) (by simp) (fun p hp => hp) rfl ⟨rfl, _, hv, rfl, by (intro z hz; obtain ⟨h1, h2, h3⟩ := not_scanKs hz; simp only [if_neg h1, if_neg h2, if_neg h3]), hs⟩
    · rcases hv with rfl | ⟨b, rfl⟩
      · k_steps
        · rw [if_pos (List.isEmpty_iff.mp (by assumption))] at hs
          exact inv_end (by assumption) (by assumption) (by simp) (fun p hp => hp) rfl ⟨rfl, _, .inl rfl, rfl, by (intro z hz; obtain ⟨h1, h2, h3⟩ := not_scanKs hz; simp only [if_neg h1, if_neg h2, if_neg h3]), hs⟩
        · rw [if_neg (ne_nil_of (by assumption)), if_pos ⟨rfl, by assumption⟩] at hs
          exact inv_end (by assumption) (by assumption) (by simp) (fun p hp => hp) rfl ⟨rfl, _, .inr ⟨_, rfl⟩, rfl, by (intro z hz; obtain ⟨h1, h2, h3⟩ := not_scanKs hz; simp only [if_neg h1, if_neg h2, if_neg h3]), hs⟩
        · rw [if_neg (ne_nil_of (by assumption)), if_neg (fun q => by have := q.2; simp_all)] at hs
          exact brk _ _ _ (by assumption) rfl (by (intro z hz; obtain ⟨h1, h2, h3⟩ := not_scanKs hz; simp only [if_neg h1, if_neg h2, if_neg h3])) hs.symm
      · k_steps
        · rw [if_pos (List.isEmpty_iff.mp (by assumption))] at hs
          exact inv_end (by assumption) (by assumption) (by simp) (fun p hp => hp) rfl ⟨rfl, _, .inr ⟨_, rfl⟩, rfl, by (intro z hz; obtain ⟨h1, h2, h3⟩ := not_scanKs hz; simp only [if_neg h1, if_neg h2, if_neg h3]), hs⟩
        · rw [if_neg (ne_nil_of (by assumption)), if_neg (fun q => by cases q.1)] at hs
          exact brk _ _ _ (by assumption) rfl (by (intro z hz; obtain ⟨h1, h2, h3⟩ := not_scanKs hz; simp only [if_neg h1, if_neg h2, if_neg h3])) hs.symm
  · have e0 : uStart es x = .ref x := by unfold uStart; simp only [(by assumption : es.isEmpty = false)]; rfl
    generalize hr : scan (.ref x) os = r at F₁ hc
    rw [← e0] at hr
    (with_reducible show wpAny _ _ _ _ _ _)
    rcases hc with rfl | rfl | ⟨b, rfl⟩
    · clear hR
      k_steps
      with_reducible rename IsRange _ _ _ _ _ _ _ _ => hR
      with_reducible rename Fr _ _ _ _ => kF
      with_reducible rename News _ _ _ _ => kN
      replace kN := news_mrg G kN
      refine upd_loop (os := os) (es := es) hh hR (by simp) hl2 kF kN (fun i t o m₁ h tk own n' hi hoff F₁ N₁ => ?_) (fun m₁ h tk n' F₁ N₁ => ?_)
      · clear kF kN
        have D := ho o (List.mem_of_getElem? hi)
        obtain ⟨ov, oes, oim⟩ := o
        have hx' : (os.map (·.v))[i]? = some ov := by simp [hi]
        have Gi := uAll_good (es := es) (os := os.take i) G (fun q hq => ho q (List.mem_of_mem_take hq))
        have hu := uAll_succ (es := es) hi
        dsimp only at hu
        rcases OthAt.split D with ⟨rfl, rfl, rfl⟩ | ⟨a, rfl, DA⟩
        · k_steps
          exact inv_end (by assumption) (by assumption) (upd_sub (by rw [hu, mrg_nil])) (fun p hp => .tail _ (.tail _ hp)) rfl ⟨⟨_, rfl⟩, by (intro z h1 h2; simp only [if_neg h1, if_neg h2])⟩
        · k_steps
          · have hz : oes = [] := List.isEmpty_iff.mp (by assumption)
            exact inv_end (by assumption) (by assumption) (upd_sub (by rw [hu, hz, mrg_nil])) (fun p hp => .tail _ (.tail _ hp)) rfl ⟨⟨_, rfl⟩, by (intro z h1 h2; simp only [if_neg h1, if_neg h2])⟩
          · exact inv_end (by assumption) (by assumption) (upd_sub hu) (fun p hp => .tail _ (.tail _ hp)) rfl ⟨⟨_, rfl⟩, by (intro z h1 h2; simp only [if_neg h1, if_neg h2])⟩
      · clear kF kN
        (with_reducible show wpAny _ _ _ _ _ _)
        k_steps
        with_reducible rename Fr _ _ _ _ => kF
        with_reducible rename News _ _ _ _ => kN
        with_reducible rename Fresh2 _ _ _ => ab
        exact h2 hr _ _ _ _ _ kF.keep (kN.get (.head _)) (kN.get (.tail _ (.head _))) ab.lx ab.ld
    · k_steps
      with_reducible rename Fr _ _ _ _ => kF
      exact h0 hr _ _ kF.keep
    · k_steps
      with_reducible rename Fr _ _ _ _ => kF
      exact h1 _ hr _ _ kF.keep
end Mine
end

section
open PySem PySem.W PyProof.Rows PySem.Calls
set_option maxRecDepth 100000
namespace Mine
/-- a def of the text that gathers its further arguments in a tuple -/
theorem code_rawV {prog : Program} {w : World} {A : Around} {s : Shared} {R : Result → Shared → Prop} {name qual : Str} {params : Arguments} {body : List Stmt} {scope : Scope} {dV kV doc pm cdv ct : Value} {an : Option Addr} {fo : Obj} {f : Addr} {args : Args} {vs : List Value} {binds : Value → List (Str × Value)}
    (hlim : s.heap.NoLimit)
    (ho : s.heap.get? f = some fo) (hd : fo.data = .func (fnX name qual params body scope [] dV kV doc pm an cdv ct)) (hcd : s.heap.CodeRec cdv qual) (hroom : A.depth < recursionLimit)
    (hbind : bindArgs (fnX name qual params body scope [] dV kV doc pm an cdv ct) args = (newTuple vs >>= fun t => pure (binds t))) (hvs : vs.length ≤ 63) (hloc : ∀ t, ∀ y ∈ binds t, scope.names.lookup y.1 = some .local)
    (hcell : ∀ x ∈ scope.names, x.2 ≠ .cell)
    (h : ∀ g h₁ L' tk, g = s.heap.push { cls := .type "tuple", data := .seq vs.toArray } → L' = g.objs.size → Fr g L' h₁ (fun y => (binds (.ref s.heap.objs.size)).reverse.lookup y) →
      wpAny (model prog w) (A.deeper (envX qual scope L' f cdv [])) (execs body (envX qual scope L' f cdv []))
        (fun fl s' => R (.ok (.ret (match fl with | .ret v => v | _ => .none))) s')
        (fun e s' => wpAny (model prog w) (A.deeper (envX qual scope L' f cdv [])) (leaving (envX qual scope L' f cdv []) e) (fun _ s'' => R (.error e) s'') (fun e' s'' => R (.error e') s'') s')
        { s with heap := h₁, toks := tk })
    (hco : scope.isCoroutine = false := by rfl) (hgen : scope.isGenerator = false := by rfl) (hk : scope.kind = .function := by rfl) : codeAny (model prog w) A (.call (.ref f) args) R s := by
  refine codeAny_call_function hroom ho hd hco hgen rfl hcd ?_
  rw [hbind]
  refine wpAny_bind (wpAny_newTuple (wpAny_pure ?_) (by size_fits))
  refine wpAny_newFunctionEnv hcell (hloc _) (fun h₁ hns hsb => ?_) hk
  have kp : ∀ b o, (s.heap.push { cls := .type "tuple", data := .seq vs.toArray }).get? b = some o → h₁.get? b = some o := fun b o e => hsb.extBut b o (Nat.ne_of_lt (Heap.lt_size e)) (Heap.get?_push_of_some _ e)
  refine ⟨hlim.keeps fun b o e => kp b o (Heap.get?_push_of_some _ e), codeAny_func ?_⟩
  exact h _ h₁ _ _ rfl rfl ⟨hns, kp, Nat.le_refl _⟩

local macro_rules | `(tactic| walk_at "getMethod ref") => `(tactic| (k_here; k_dflt (refine' getMethod_imm ?X ?x ?d ?s ?t ?T ?_; (case X => k_in); (case x => exact Fr.keep (by k_asm) _ _ (by assumption)); (case d => exact Fr.keep (by k_asm) _ _ (by assumption)); (case s => k_is); (case t => k_is); (case T => decide +kernel); k_whole)))
local macro_rules | `(tactic| walk_at "call ref") => `(tactic| (k_here; (with_reducible show wpAny _ _ (call (Value.ref 114) _) _ _ _); k_dflt (refine' raw_union ?X ?T ?k ?x ?d ?G ?l ?t ?o ?n ?r ?h ?_ ?_ ?_; (case X => k_asm); (case T => k_asm); (case k => exact Fr.keep (by k_asm)); (case x => exact Fr.keep (by k_asm) _ _ (by assumption)); (case d => exact Fr.keep (by k_asm) _ _ (by assumption)); (case G => assumption); (case l => assumption); (case t => exact IsTup.keeps (by assumption) (Fr.keep (by k_asm))); (case o => exact fun o ho => OthAt.keeps ((by assumption : ∀ o ∈ _, OthAt _ o) o ho) (Fr.keep (by k_asm))); (case n => assumption); (case r => (simp only [depth_deeper]; omega)); (case h => assumption)); intro hs h' tk'))
set_option maxHeartbeats 4000000 in
theorem raw_unionC {w : World} {A : Around} {s : Shared} {h₀ : Heap} {mg mb : Str → Option Value} {loose : List Str} {mean : ExcName → Option Value} {E : Value → Shared → Prop} {Q : Value → Shared → Prop}
   (X : (hd.heap_39 w.params).In h₀) (T : Top hd.view_39 loose mean mg mb h₀) (keep : ∀ b o, h₀.get? b = some o → s.heap.get? b = some o)
   {x dx F : Addr} {es : List DictEntry} {n : Nat} {os : List Oth} (hF : F = 100 ∨ F = 107) (hx : s.heap.get? x = some (immO dx es n)) (hdx : s.heap.get? dx = some (dictOf [] 0)) (G : Good es) (hx2 : 2 < x)
   (ho : ∀ o ∈ os, OthAt s.heap o) (hlen : os.length ≤ 63) (hroom : A.depth < 450) (hh : A.handled = none)
   (h0 : scan (uStart es x) os = .bool false → ∀ h' tk, (∀ b o, s.heap.get? b = some o → h'.get? b = some o) → Q (.ref x) { s with heap := h', toks := tk })
   (h1 : ∀ a, scan (uStart es x) os = .ref a → ∀ h' tk, (∀ b o, s.heap.get? b = some o → h'.get? b = some o) → Q (.ref a) { s with heap := h', toks := tk })
   (h2 : scan (uStart es x) os = .none → ∀ h' tk r dr n', (∀ b o, s.heap.get? b = some o → h'.get? b = some o) → h'.get? r = some (immO dr (uAll es os) n') → h'.get? dr = some (dictOf [] 0) → s.heap.objs.size < r → s.heap.objs.size < dr → Q (.ref r) { s with heap := h', toks := tk }) :
   codeAny (model Challenge.rw_eu0031_01.row.prog w) A (.call (.ref F) ⟨.ref x :: os.map (·.v), []⟩) (fun r s' => match r with | .ok (.ret v) => Q v s' | .ok _ => False | .error e => E e s') s := by
  w_top off
  revert X; k_fill; intro X
  rcases hF with rfl | rfl
  all_goals
    refine (code_rawV (vs := os.map (·.v)) (binds := fun t => [(Str.ofString "self", .ref x), (Str.ofString "dicts", t)]) (T.nolimit.keeps keep) (keep _ _ (X _ _ (by k_is))) rfl (codeRec_of (X.keeps keep) (by k_is)) (Nat.lt_trans hroom (by decide)) ?_ (by simpa using hlen) (fun _ => locs rfl) (by decide) (fun g h₁ L' tk hg hL F => ?_))
    · rcases os with _ | ⟨o1, os⟩ <;> rfl
    have kg : ∀ b o, s.heap.get? b = some o → g.get? b = some o := fun b o e => hg ▸ Heap.get?_push_of_some _ e
    have X1 := X.keeps (fun b o e => kg b o (keep b o e))
    have T1 := T.keeps (fun b o e => kg b o (keep b o e))
    have hx1 := kg _ _ hx
    have hdx1 := kg _ _ hdx
    have ht1 : IsTup g s.heap.objs.size (os.map (·.v)).toArray := hg ▸ IsTup.new s.heap _
    have ho1 : ∀ o ∈ os, OthAt g o := fun o q => (ho o q).keeps kg
    have N : News g L' h₁ [] := News.nil
    dsimp only
    (with_reducible show wpAny _ _ _ _ _ _)
    k_fold
    have hsz : s.heap.objs.size < h₁.objs.size := Nat.lt_of_le_of_lt (by rw [hL, hg, Heap.size_push]; exact Nat.le_succ _) F.ns.lt
    k_steps
    · rename_i hs _ _ kk
      exact h0 hs _ _ fun b o e => kk b o (F.keep b o (kg b o e))
    · rename_i hs _ _ kk
      exact h1 _ hs _ _ fun b o e => kk b o (F.keep b o (kg b o e))
    · rename_i hs _ _ _ _ _ kk a1 a2 a3 a4
      exact h2 hs _ _ _ _ _ (fun b o e => kk b o (F.keep b o (kg b o e))) a1 a2 (Nat.lt_trans hsz a3) (Nat.lt_trans hsz a4)
end Mine
end

section
open PySem PySem.W PyProof.Rows PySem.Calls
set_option maxRecDepth 100000
namespace Mine
section
variable {w : World} {A : Around} {E : Value → Shared → Prop} {s : Shared} {g : Heap} {L : Addr} {m : Str → Option Value} {news : List (Addr × Obj)} {mg mb : Str → Option Value} {loose : List Str} {mean : ExcName → Option Value}

theorem above_lt {h : Heap} (N : News g L h news) {d : Nat} (hd : h.objs.size ≤ d) : ∀ p ∈ news, p.1 < d := fun p hp => Nat.lt_of_lt_of_le (Heap.lt_size (N p hp).1) hd
theorem fresh_at {h : Heap} (F : Fr g L h m) {d : Addr} (hd : h.objs.size ≤ d) : d ≠ L ∧ g.get? d = none := by
  refine ⟨Nat.ne_of_gt (Nat.lt_of_lt_of_le F.ns.lt hd), ?_⟩
  cases q : g.get? d with
  | none => rfl
  | some o => exact absurd (Heap.lt_size (F.keep _ _ q)) (Nat.not_lt.mpr hd)
theorem low_at {P : Params} {h : Heap} (X : (hd.heap_39 P).In g) (F : Fr g L h m) {d : Addr} (hd : h.objs.size ≤ d) : 2 < d := Nat.lt_of_lt_of_le (low_L X F) (Nat.le_of_lt (Nat.lt_of_lt_of_le F.ns.lt hd))

theorem led_rows {Q : Value → Shared → Prop} {gg : Obj → List (Addr × Obj)} {a sl : Addr} {i sd : Int} {ti td : Tok} {vs : List Value} {ns : List Int} {n1 : Nat}
   (X : (hd.heap_39 w.params).In g) (T : Top hd.view_39 loose mean mg mb g) (F : Fr g L s.heap m) (N : News g L s.heap news) (U : UpdF a (listOf #[.ref sl, .int i ti, .int sd td] n1) news gg)
   (hsl : s.heap.IsList sl vs.toArray) (hns : IntsAre vs ns) (hne : sl ≠ a) (hi : 0 ≤ i) (hroom : A.depth < 450) (hh : A.handled = none) (hlen : ns.length ≤ 63)
   (h : ∀ h' tk d n es i' ti' sd' td', Good es → 0 ≤ i' → Fr g L h' m → News g L h' ((d, dictOf es n) :: gg (listOf #[.ref sl, .int i' ti', .int sd' td'] n1)) → (∀ p ∈ news, p.1 < d) → 2 < d → Q (.ref d) { s with heap := h', toks := tk }) :
   wpAny (model Challenge.rw_eu0031_01.row.prog w) A (call (.ref 161) [.ref a]) Q E s := by
  have hmem := N _ (updF_mem U)
  refine raw_rows X T F.keep hmem.1 hsl hns hmem.2.2 hne hi hroom hh hlen fun h' tk d n es i' ti' sd' td' G i0 hE ho hd' hle => ?_
  obtain ⟨F', N'⟩ := led_upd F N U hE ho
  refine h h' tk d n es i' ti' sd' td' G i0 F' (fun p hp => ?_) (above_lt N hle) (low_at X F hle)
  rcases List.mem_cons.mp hp with rfl | hp
  · exact ⟨hd', fresh_at F hle⟩
  · exact N' p hp

theorem led_dict_of {Q : Value → Shared → Prop} {a : Addr} {es : List DictEntry} {n₀ : Nat} (X : (hd.heap_39 w.params).In g) (hl : g.NoLimit) (F : Fr g L s.heap m) (N : News g L s.heap news) (hm : (a, dictOf es n₀) ∈ news) (G : Good es) (la : 2 < a)
    (h : ∀ h' tk d n, Fr g L h' m → News g L h' ((d, dictOf es n) :: news) → (∀ p ∈ news, p.1 < d) → 2 < d → Q (.ref d) { s with heap := h', toks := tk }) :
    wpAny (model Challenge.rw_eu0031_01.row.prog w) A (call (.type "dict") [.ref a]) Q E s := by
  refine dict_of (hl.keeps F.keep) (X.keeps F.keep) (N _ hm).1 G la fun h' tk n k e => ?_
  obtain ⟨F', N'⟩ := led_grow (more := [(s.heap.objs.size, dictOf es n)]) F N k (by
    intro p hp
    obtain rfl := List.mem_singleton.mp hp
    exact ⟨e, Nat.le_refl _⟩)
  exact h h' tk _ n F' N' (above_lt N (Nat.le_refl _)) (low_at X F (Nat.le_refl _))

theorem led_imm_of {Q : Value → Shared → Prop} {a : Addr} {es : List DictEntry} (X : (hd.heap_39 w.params).In g) (hl : g.NoLimit) (F : Fr g L s.heap m) (N : News g L s.heap news) (D : DArg s.heap a es)
    (h : ∀ h' tk x dx n, Fr g L h' m → News g L h' ((x, immO dx es n) :: (dx, dictOf [] 0) :: news) → (∀ p ∈ news, p.1 < x) → (∀ p ∈ news, p.1 < dx) → @Ne Nat dx x → 2 < x → Q (.ref x) { s with heap := h', toks := tk }) :
    wpAny (model Challenge.rw_eu0031_01.row.prog w) A (call (.ref 145) [.ref a]) Q E s := by
  refine imm_of (X.keeps F.keep) (hl.keeps F.keep) D fun h' tk x dx n k e1 e2 l1 l2 => ?_
  obtain ⟨F', N'⟩ := led_grow (more := [(x, immO dx es n), (dx, dictOf [] 0)]) F N k (by
    intro p hp
    simp only [List.mem_cons, List.not_mem_nil, or_false] at hp
    rcases hp with rfl | rfl
    · exact ⟨e1, l1⟩
    · exact ⟨e2, l2⟩)
  refine h h' tk x dx n F' N' (above_lt N l1) (above_lt N l2) ?_ (low_at X F l1)
  rintro rfl
  rw [e1] at e2
  have := congrArg Obj.cls (Option.some.inj e2)
  cases this

theorem led_empty {prog : Program} {env : Env} {pos : Pos} {E : Value → Shared → Prop} {Q : Value → Shared → Prop} (X : (hd.heap_39 w.params).In g) (F : Fr g L s.heap m) (N : News g L s.heap news)
    (h : ∀ h' d, Fr g L h' m → News g L h' ((d, dictOf [] 0) :: news) → (∀ p ∈ news, p.1 < d) → 2 < d → Good [] → Q (.ref d) { s with heap := h' }) :
    wpAny (model prog w) A (eval (.Dict [] [] pos) env) Q E s := by
  show wpAny _ _ (standAt pos >>= fun _ => dictDisplay []) Q E s
  refine wpAny_bind (wpAny_standAt ?_)
  unfold dictDisplay
  simp only [List.forIn_nil]
  refine wpAny_bind (wpAny_pure ?_)
  dsimp only
  refine wpAny_bind ?_
  rw [if_pos (show ([] : List (Sem Value × Sem Value)).isEmpty = true from rfl)]
  refine wpAny_pure ?_
  have k : ∀ b o, s.heap.get? b = some o → (s.heap.push emptyDict).get? b = some o := fun b o e => Heap.get?_push_of_some _ e
  obtain ⟨F', N'⟩ := led_grow (more := [(s.heap.objs.size, dictOf [] 0)]) F N k (by
    intro p hp
    obtain rfl := List.mem_singleton.mp hp
    exact ⟨Heap.get?_push_size _ rfl, Nat.le_refl _⟩)
  first
  | exact wpAny_bind (wpAny_alloc (wpAny_pure (h _ _ F' N' (above_lt N (Nat.le_refl _)) (low_at X F (Nat.le_refl _)) Good.nil)))
  | exact wpAny_newObj_type (h _ _ F' N' (above_lt N (Nat.le_refl _)) (low_at X F (Nat.le_refl _)) Good.nil)
  | exact wpAny_bind (wpAny_newObj_type (wpAny_pure (h _ _ F' N' (above_lt N (Nat.le_refl _)) (low_at X F (Nat.le_refl _)) Good.nil)))
theorem led_joined {Q : Value → Shared → Prop} {d₁ d₂ : Addr} {es₁ es₂ : List DictEntry} (X : (hd.heap_39 w.params).In g) (T : Top hd.view_39 loose mean mg mb g) (F : Fr g L s.heap m) (N : News g L s.heap news)
   (D₁ : DArg s.heap d₁ es₁) (D₂ : DArg s.heap d₂ es₂) (hroom : A.depth < 460)
   (h : ∀ h' tk d n, Fr g L h' m → News g L h' ((d, dictOf (mrg es₁ es₂) n) :: news) → (∀ p ∈ news, p.1 < d) → 2 < d → Good (mrg es₁ es₂) → Q (.ref d) { s with heap := h', toks := tk }) :
   wpAny (model Challenge.rw_eu0031_01.row.prog w) A (call (.ref 168) [.ref d₁, .ref d₂]) Q E s := by
  refine raw_joined X T F.keep D₁ D₂ hroom fun h' tk d n k e l => ?_
  obtain ⟨F', N'⟩ := led_grow (more := [(d, dictOf (mrg es₁ es₂) n)]) F N k (by
    intro p hp
    obtain rfl := List.mem_singleton.mp hp
    exact ⟨e, l⟩)
  exact h h' tk d n F' N' (above_lt N l) (low_at X F l) (D₁.good.mrg D₂.good)
end
end Mine
end

section
open PySem PySem.W PyProof.Rows PySem.Calls
set_option maxRecDepth 100000
namespace Mine
/-- the end of one turn of a loop whose ledger may grow -/
def GEnd (h₀ : Heap) (L I : Addr) (J : (Str → Option Value) → List (Addr × Obj) → Prop) (own : List (Addr × Obj)) (s₁ s₂ : Shared) : Prop :=
  ∃ h' tk m' nx, s₂ = { s₁ with heap := h', toks := tk } ∧ Fr h₀ L h' m' ∧ News h₀ L h' (nx ++ own) ∧ (∀ p ∈ nx, p.1 ≠ I) ∧ J m' nx
def GPost (h₀ : Heap) (L I : Addr) (J : (Str → Option Value) → List (Addr × Obj) → Prop) (own : List (Addr × Obj)) (s₁ : Shared) (Q : Flow → Shared → Prop) (f : Flow) (s₂ : Shared) : Prop :=
  match f with
  | .ret v => Q (.ret v) s₂
  | .brk => Q .next s₂
  | _ => GEnd h₀ L I J own s₁ s₂
theorem loopG {prog : Program} {w : World} {A : Around} {E : Value → Shared → Prop} {s : Shared} {env : Env} {h₀ : Heap} {x : Str} {body : List Stmt} {Q : Flow → Shared → Prop} {I : Addr} {n : Nat} {P : Nat → Value → Prop} {St : Nat → Heap → Prop} {m₀ : Str → Option Value} {news : List (Addr × Obj)}
    (J : Nat → (Str → Option Value) → List (Addr × Obj) → Prop) (W : Walks prog w A I [I] [I] n P St) (hLf : env.locals ≠ I) (hwr : h₀.get? I = none) (hnw : ∀ p ∈ news, p.1 ≠ I) (hst : St 0 s.heap) (hSt : ∀ i h, St i h → ∃ o, h.get? I = some o) (F : Fr h₀ env.locals s.heap m₀) (N : News h₀ env.locals s.heap news) (hj : J 0 m₀ news)
    (turn : ∀ i v m₁ nx h tk own, i < n → P i v → J i m₁ nx → (∀ p ∈ nx, p.1 ≠ I) → (∀ p ∈ own, p.1 = I) → (∃ o, (I, o) ∈ own) → Fr h₀ env.locals h (fun y => if y = x then some v else m₁ y) → News h₀ env.locals h (nx ++ own) →
      wpAny (model prog w) A (execs body env) (GPost h₀ env.locals I (J (i + 1)) own { s with heap := h, toks := tk } Q) E { s with heap := h, toks := tk })
    (done : ∀ m₁ nx h tk, J n m₁ nx → Fr h₀ env.locals h m₁ → News h₀ env.locals h nx → Q .next { s with heap := h, toks := tk }) :
    LoopAtV prog w A h₀ env x body Q E (.ref I) s := by
  refine ⟨I, [I], [I], n, P, St, m₀, news, J, rfl, W, by simpa using hLf, by simpa using hwr, by simpa using hnw, hst, F, N, hj, ?_, ?_⟩
  · rintro i v m₁ nx s₁ own ⟨hh', tk', rfl⟩ hin hP hJ hoff hown _ hall hst' F₁ N₁
    have hex : ∃ o, (I, o) ∈ own := by
      obtain ⟨o, ho⟩ := hSt _ _ hst'
      exact ⟨o, hall I (List.mem_singleton.mpr rfl) hwr o ho⟩
    have N₂ : News h₀ env.locals hh' (nx ++ own) := fun p hp => N₁ p ((List.mem_append.mp hp).elim (fun h => List.mem_append.mpr (.inr h)) fun h => List.mem_append.mpr (.inl h))
    refine wpAny_mono (turn i v m₁ nx hh' tk' own hin hP hJ (fun p hp => by simpa using hoff p hp) (fun p hp => by simpa using hown p hp) hex F₁ N₂) (fun f s₂ p => ?_) fun _ _ e => e
    have fin : GEnd h₀ env.locals I (J (i + 1)) own { s with heap := hh', toks := tk' } s₂ → LoopStepU h₀ env.locals [I] own (J (i + 1)) { s with heap := hh', toks := tk' } .next s₂ := by
      rintro ⟨h', tk, m', nx', e, F', N', hn, hm⟩
      exact ⟨rfl, h', tk, m', nx', e, F', fun p hp => N' p ((List.mem_append.mp hp).elim (fun h => List.mem_append.mpr (.inr h)) fun h => List.mem_append.mpr (.inl h)), fun p hp => by simpa using hn p hp, hm⟩
    cases f with
    | ret v => exact .ret p
    | brk => exact .brk p
    | next => exact .next (fin p)
    | cont => exact .cont (fin p)
  · rintro h' tk m' news' F' N' _ hJ
    exact done m' news' h' tk hJ F' N'
theorem range_loopG {prog : Program} {w : World} {A : Around} {E : Value → Shared → Prop} {s : Shared} {env : Env} {h₀ : Heap} {x : Str} {body : List Stmt} {Q : Flow → Shared → Prop} {r : Addr} {t₀ u₀ v₀ : Tok} {b : Int} {n : Nat} {m₀ : Str → Option Value} {news : List (Addr × Obj)}
    (J : Addr → Nat → (Str → Option Value) → List (Addr × Obj) → Prop) (hh : A.handled = none) (hr : IsRange s.heap r 0 b 1 t₀ u₀ v₀) (hb : b = (n : Int)) (hn2 : n ≤ 63) (F : Fr h₀ env.locals s.heap m₀) (N : News h₀ env.locals s.heap news) (hj : ∀ I, (∀ p ∈ news, p.1 < I) → J I 0 m₀ news)
    (turn : ∀ I i t m₁ nx h tk own, i < n → J I i m₁ nx → (∀ p ∈ nx, p.1 ≠ I) → (∀ p ∈ own, p.1 = I) → (∃ o, (I, o) ∈ own) → Fr h₀ env.locals h (fun y => if y = x then some (.int i t) else m₁ y) → News h₀ env.locals h (nx ++ own) →
      wpAny (model prog w) A (execs body env) (GPost h₀ env.locals I (J I (i + 1)) own { s with heap := h, toks := tk } Q) E { s with heap := h, toks := tk })
    (done : ∀ I m₁ nx h tk, J I n m₁ nx → Fr h₀ env.locals h m₁ → News h₀ env.locals h nx → Q .next { s with heap := h, toks := tk }) :
    wpAny (model prog w) A (pyIter (.ref r)) (fun it s₂ => LoopAtV prog w A h₀ env x body Q E it s₂) E s := by
  subst hb
  have hsz : Builtin.Range.rangeSize 0 (n : Int) 1 = (n : Int) := by
    unfold Builtin.Range.rangeSize
    rw [if_pos (by decide)]
    by_cases q : (0 : Int) < n
    · rw [if_pos q]; omega
    · rw [if_neg q]; omega
  have hsm : Builtin.Range.small 0 (n : Int) 1 = true := by
    unfold Builtin.Range.small
    rw [hsz]
    unfold Builtin.Range.rangeFitsLong
    simp
    omega
  refine wpAny_pyIter_range hr hsm ?_
  have W : Walks prog w A s.heap.objs.size [s.heap.objs.size] [s.heap.objs.size] n (fun i v => i < n ∧ ∃ t, v = .int (0 + i * 1) t)
      (fun i h => IsRangeIter h s.heap.objs.size (0 + (i : Nat) * 1) ((n : Int) - (i : Nat)) 1) := (Walks.range hh _ 0 1 n).bound
  have ltI : ∀ p ∈ news, p.1 < s.heap.objs.size := fun p hp => Heap.lt_size (N p hp).1
  refine loopG (J s.heap.objs.size) W (Nat.ne_of_lt F.ns.lt) (next_is_new F) (fun p hp => Nat.ne_of_lt (ltI p hp)) (by show IsRangeIter _ _ _ _ _; rw [hsz]; simpa using Heap.get?_push_size _ rfl) (fun i h q => ⟨_, q⟩) (F.push _) (fun p hp => ⟨Heap.get?_push_of_some _ (N p hp).1, (N p hp).2⟩) (hj _ ltI) ?_ ?_
  · rintro i v m₁ nx h tk own hi ⟨_, t, rfl⟩ hJ h1 h2 h3 F' N'
    simp only [Int.mul_one, Int.zero_add] at F'
    exact turn _ i t m₁ nx h tk own hi hJ h1 h2 h3 F' N'
  · intro m₁ nx h tk hJ F₁ N₁
    exact done _ m₁ nx h tk hJ F₁ N₁

inductive OthIn (nx : List (Addr × Obj)) : Oth → Prop
  | none : OthIn nx ⟨.none, [], false⟩
  | dic {a : Addr} {es : List DictEntry} {n : Nat} : (a, dictOf es n) ∈ nx → Good es → 2 < a → OthIn nx ⟨.ref a, es, false⟩
  | imm {a dx : Addr} {es : List DictEntry} {n : Nat} : (a, immO dx es n) ∈ nx → (dx, dictOf [] 0) ∈ nx → Good es → 2 < a → OthIn nx ⟨.ref a, es, true⟩
theorem OthIn.mono {nx nx' : List (Addr × Obj)} {o : Oth} (D : OthIn nx o) (k : ∀ p ∈ nx, p ∈ nx') : OthIn nx' o := by
  cases D with
  | none => exact .none
  | dic e G l => exact .dic (k _ e) G l
  | imm e e' G l => exact .imm (k _ e) (k _ e') G l
theorem OthIn.at {g h : Heap} {L : Addr} {nx : List (Addr × Obj)} {o : Oth} (D : OthIn nx o) (N : News g L h nx) : OthAt h o := by
  cases D with
  | none => exact .none
  | dic e G l => exact .dic (N _ e).1 G l
  | imm e e' G l => exact .imm (N _ e).1 (N _ e').1 G l
def PlIn (nx : List (Addr × Obj)) (p : Addr) (es : List DictEntry) : Prop := ∃ n, (p, dictOf es n) ∈ nx ∧ Good es ∧ 2 < p
theorem PlIn.mono {nx nx' : List (Addr × Obj)} {p : Addr} {es : List DictEntry} (D : PlIn nx p es) (k : ∀ p ∈ nx, p ∈ nx') : PlIn nx' p es :=
  let ⟨n, a, b, c⟩ := D; ⟨n, k _ a, b, c⟩

structure LoopV where
  cell : Addr
  oc : Obj
  sl : Addr
  ws : List Value
  nsl : Nat
  st : Addr
  ot : Addr
  pl : Addr
  rows : Addr
  es : List DictEntry
  nr : Nat
  first : Addr
  fdx : Addr
  nf : Nat
def LoopV.led (v : LoopV) (i : Int) (ti : Tok) (sd : Int) (td : Tok) (n1 : Nat) (os : List Oth) (no : Nat) (ps : List Addr) (np : Nat) (due : Addr) (nd : Nat) (rest : List (Addr × Obj)) : List (Addr × Obj) :=
  (v.st, listOf #[.ref v.sl, .int i ti, .int sd td] n1) :: (v.ot, listOf (os.map (·.v)).toArray no) :: (v.pl, listOf (ps.map Value.ref).toArray np) :: (due, dictOf (uAll v.es os) nd) ::
    (v.cell, v.oc) :: (v.sl, listOf v.ws.toArray v.nsl) :: (v.rows, dictOf v.es v.nr) :: (v.first, immO v.fdx v.es v.nf) :: (v.fdx, dictOf [] 0) :: rest
def loopKs : List Str := [Str.ofString "due", Str.ofString "_", Str.ofString "way", Str.ofString "row"]
structure LJ (v : LoopV) (m₀ : Str → Option Value) (I : Addr) (k : Nat) (m : Str → Option Value) (nx : List (Addr × Obj)) (i : Int) (ti : Tok) (sd : Int) (td : Tok) (n1 : Nat) (os : List Oth) (no : Nat) (ps : List Addr) (np : Nat) (due : Addr) (nd : Nat) (rest : List (Addr × Obj)) : Prop where
  hnx : nx = v.led i ti sd td n1 os no ps np due nd rest
  i0 : 0 ≤ i
  lo : os.length = k
  lp : ps.length = k
  oth : ∀ o ∈ os, OthIn rest o
  pls : ∀ (j : Nat) (p : Addr) (o : Oth), ps[j]? = some p → os[j]? = some o → PlIn rest p o.es
  hrest : ∀ p ∈ rest, I < p.1
  low : 2 < due
  hdue : due = v.rows ∨ I < due
  nm : m (Str.ofString "due") = some (.ref due)
  hm : ∀ z, z ∉ loopKs → m z = m₀ z
def LJx (v : LoopV) (m₀ : Str → Option Value) (I : Addr) (k : Nat) (m : Str → Option Value) (nx : List (Addr × Obj)) : Prop :=
  (v.st < I ∧ v.ot < I ∧ v.pl < I ∧ v.cell < I ∧ v.sl < I ∧ v.rows < I ∧ v.first < I ∧ v.fdx < I) ∧ ∃ i ti sd td n1 os no ps np due nd rest, LJ v m₀ I k m nx i ti sd td n1 os no ps np due nd rest
theorem loop_shape {m₀ m₁ : Str → Option Value} {due : Addr} (hv : m₁ (Str.ofString "due") = some (.ref due)) (hm : ∀ z, z ∉ loopKs → m₁ z = m₀ z) :
    m₁ = (fun y => if y = Str.ofString "due" then some (.ref due) else if y = Str.ofString "_" then m₁ y else if y = Str.ofString "way" then m₁ y else if y = Str.ofString "row" then m₁ y else m₀ y) := by
  funext y
  by_cases q2 : y = Str.ofString "due"
  · simp only [if_pos q2]; rw [q2]; exact hv
  · simp only [if_neg q2]
    by_cases q1 : y = Str.ofString "_"
    · simp only [if_pos q1]
    · simp only [if_neg q1]
      by_cases q3 : y = Str.ofString "way"
      · simp only [if_pos q3]
      · simp only [if_neg q3]
        by_cases q4 : y = Str.ofString "row"
        · simp only [if_pos q4]
        · simp only [if_neg q4]
          exact hm y (by unfold loopKs; simp [q1, q2, q3, q4])
end Mine
end

section
open PySem PySem.W PyProof.Rows PySem.Calls
set_option maxRecDepth 100000
namespace Mine
structure LawOrd (cell sl st rows first fdx ot pl : Nat) : Prop where
  o1 : cell < sl
  o2 : sl < st
  o3 : st < rows
  o4 : rows < first
  o5 : rows < fdx
  o6 : first < ot
  o7 : fdx < ot
  o8 : ot < pl
  o9 : fdx ≠ first
theorem fit63 {vs : List Value} (h : vs.length ≤ 63) : vs.toArray.size ≤ sizeLine := by rw [List.size_toArray]; size_fits
def Far (tl : List (Addr × Obj)) (I : Nat) : Prop := ∀ p ∈ tl, @LE.le Nat _ I p.1
theorem far {tl : List (Addr × Obj)} {I d : Nat} (h : Far tl I) (hd : d < I) : ∀ p ∈ tl, p.1 ≠ d := fun p hp => Nat.ne_of_gt (Nat.lt_of_lt_of_le hd (h p hp))
structure LawC (v : LoopV) (I k : Nat) (os : List Oth) (ps : List Addr) (rest own tl : List (Addr × Obj)) : Prop where
  b : v.st < I ∧ v.ot < I ∧ v.pl < I ∧ v.cell < I ∧ v.sl < I ∧ v.rows < I ∧ v.first < I ∧ v.fdx < I
  lo : os.length = k
  lp : ps.length = k
  oth : ∀ o ∈ os, OthIn rest o
  pls : ∀ (j : Nat) (p : Addr) (o : Oth), ps[j]? = some p → os[j]? = some o → PlIn rest p o.es
  hrest : ∀ p ∈ rest, I < p.1
  hown : ∀ p ∈ own, p.1 = I
  htl : tl = rest ++ own

theorem law_end {v : LoopV} {m₀ : Str → Option Value} {I : Addr} {k : Nat} {os : List Oth} {ps : List Addr} {rest own tl : List (Addr × Obj)} {g : Heap} {L : Addr} {s₁ : Shared} {h' : Heap} {tk' : Nat} {m' : Str → Option Value}
    {i' : Int} {ti' : Tok} {sd' : Int} {td' : Tok} {n1' no' np' nd' : Nat} {o : Oth} {p due' : Addr} {all : List (Addr × Obj)} {vo : Array Value} {po : Array Value}
    (C : LawC v I k os ps rest own tl) (F' : Fr g L h' m') (N' : News g L h' all) (new : List (Addr × Obj)) (hnew : ∀ q ∈ new, q ∈ all ∧ I < q.1)
    (evo : vo = ((os ++ [o]).map (·.v)).toArray) (epo : po = ((ps ++ [p]).map Value.ref).toArray)
    (h1 : (v.st, listOf #[.ref v.sl, .int i' ti', .int sd' td'] n1') ∈ all) (h2 : (v.ot, listOf vo no') ∈ all) (h3 : (v.pl, listOf po np') ∈ all)
    (h4 : (v.cell, v.oc) ∈ all) (h5 : (v.sl, listOf v.ws.toArray v.nsl) ∈ all) (h6 : (v.rows, dictOf v.es v.nr) ∈ all) (h7 : (v.first, immO v.fdx v.es v.nf) ∈ all) (h8 : (v.fdx, dictOf [] 0) ∈ all) (h9 : ∀ q ∈ tl, q ∈ all)
    (ho : OthIn new o) (hp : PlIn new p o.es) (hd : (due', dictOf (mrg (uAll v.es os) o.es) nd') ∈ new) (hm1 : m' (Str.ofString "due") = some (.ref due')) (hm2 : ∀ z, z ∉ loopKs → m' z = m₀ z) (i0 : 0 ≤ i') (hdl : 2 < due') :
    GEnd g L I (LJx v m₀ I (k + 1)) own s₁ { s₁ with heap := h', toks := tk' } := by
  subst evo epo
  have hu : uAll v.es (os ++ [o]) = mrg (uAll v.es os) o.es := by unfold uAll; simp
  refine ⟨h', tk', m', v.led i' ti' sd' td' n1' (os ++ [o]) no' (ps ++ [p]) np' due' nd' (new ++ rest), rfl, F', fun q hq => N' q ?_, fun q hq => ?_, C.b, i', ti', sd', td', n1', os ++ [o], no', ps ++ [p], np', due', nd', new ++ rest, ⟨rfl, i0, by simp [C.lo], by simp [C.lp], ?_, ?_, ?_, hdl, ?_, hm1, hm2⟩⟩
  · unfold LoopV.led at hq
    rw [hu] at hq
    simp only [List.cons_append, List.mem_cons, List.mem_append] at hq
    rcases hq with rfl | rfl | rfl | rfl | rfl | rfl | rfl | rfl | rfl | (hq | hq) | hq
    · exact h1
    · exact h2
    · exact h3
    · exact (hnew _ hd).1
    · exact h4
    · exact h5
    · exact h6
    · exact h7
    · exact h8
    · exact (hnew _ hq).1
    · exact h9 _ (C.htl ▸ List.mem_append_left _ hq)
    · exact h9 _ (C.htl ▸ List.mem_append_right _ hq)
  · unfold LoopV.led at hq
    obtain ⟨b1, b2, b3, b4, b5, b6, b7, b8⟩ := C.b
    simp only [List.mem_cons, List.mem_append] at hq
    rcases hq with rfl | rfl | rfl | rfl | rfl | rfl | rfl | rfl | rfl | hq | hq
    · exact Nat.ne_of_lt b1
    · exact Nat.ne_of_lt b2
    · exact Nat.ne_of_lt b3
    · exact Nat.ne_of_gt (hnew _ hd).2
    · exact Nat.ne_of_lt b4
    · exact Nat.ne_of_lt b5
    · exact Nat.ne_of_lt b6
    · exact Nat.ne_of_lt b7
    · exact Nat.ne_of_lt b8
    · exact Nat.ne_of_gt (hnew _ hq).2
    · exact Nat.ne_of_gt (C.hrest _ hq)
  · intro q hq
    rcases List.mem_append.mp hq with hq | hq
    · exact (C.oth q hq).mono fun p hp => List.mem_append_right _ hp
    · rw [List.mem_singleton.mp hq]; exact ho.mono fun p hp => List.mem_append_left _ hp
  · intro j p' o' hp' ho'
    have lo := C.lo
    have lp := C.lp
    by_cases hj : j < k
    · rw [List.getElem?_append_left (by omega)] at hp' ho'
      exact (C.pls j p' o' hp' ho').mono fun p hp => List.mem_append_right _ hp
    · have hj' : j < (ps ++ [p]).length := (List.getElem?_eq_some_iff.mp hp').1
      rw [List.length_append, lp] at hj'
      simp only [List.length_cons, List.length_nil] at hj'
      have : j = k := by omega
      subst this
      rw [List.getElem?_append_right (by omega)] at hp' ho'
      rw [lp, Nat.sub_self] at hp'
      rw [lo, Nat.sub_self] at ho'
      cases hp'
      cases ho'
      exact hp.mono fun p hp => List.mem_append_left _ hp
  · intro q hq
    rcases List.mem_append.mp hq with hq | hq
    · exact (hnew _ hq).2
    · exact C.hrest _ hq
  · exact .inr (hnew _ hd).2

theorem OthIn.good {nx : List (Addr × Obj)} {o : Oth} (D : OthIn nx o) : Good o.es := by
  cases D with
  | none => exact Good.nil
  | dic e G l => exact G
  | imm e e' G l => exact G
theorem uAll_goodIn {es : List DictEntry} {os : List Oth} {rest : List (Addr × Obj)} (G : Good es) (h : ∀ o ∈ os, OthIn rest o) : Good (uAll es os) := by
  unfold uAll
  induction os generalizing es with
  | nil => exact G
  | cons o r ih => exact ih (G.mrg (h o (.head _)).good) fun q hq => h q (.tail _ hq)
theorem loop_shape2 {m₀ m₁ : Str → Option Value} {due : Addr} {v : Value} (hv : m₁ (Str.ofString "due") = some (.ref due)) (hm : ∀ z, z ∉ loopKs → m₁ z = m₀ z) :
    (fun y => if y = Str.ofString "_" then some v else m₁ y) = (fun y => if y = Str.ofString "_" then some v else if y = Str.ofString "due" then some (.ref due) else if y = Str.ofString "way" then m₁ y else if y = Str.ofString "row" then m₁ y else m₀ y) := by
  funext y
  by_cases q1 : y = Str.ofString "_"
  · simp only [if_pos q1]
  · simp only [if_neg q1]
    have := congrFun (loop_shape hv hm) y
    rw [this]
    simp only [if_neg q1]
    by_cases q2 : y = Str.ofString "due"
    · simp only [if_pos q2]
    · simp only [if_neg q2]
      by_cases q3 : y = Str.ofString "way"
      · simp only [if_pos q3]
      · simp only [if_neg q3]
        by_cases q4 : y = Str.ofString "row"
        · simp only [if_pos q4]
        · simp only [if_neg q4]

theorem turn_mem {a1 a2 a3 a4 a5 a6 a7 a8 a9 q : Addr × Obj} {I : Addr} {oI : Obj} {rest own : List (Addr × Obj)} (hin : (I, oI) ∈ own) (hq : q ∈ a1 :: a2 :: a3 :: a4 :: a5 :: a6 :: a7 :: a8 :: a9 :: (I, oI) :: (rest ++ own)) :
    q ∈ (a1 :: a2 :: a3 :: a4 :: a5 :: a6 :: a7 :: a8 :: a9 :: rest) ++ own := by
  simp only [List.mem_cons, List.mem_append] at hq ⊢
  rcases hq with h | h | h | h | h | h | h | h | h | h | h | h
  all_goals first | (rw [h]; simp; done) | skip
  · subst h; simp [hin]
  · simp [h]
  · simp [h]
theorem law_loop {prog : Program} {w : World} {A : Around} {E : Value → Shared → Prop} {s : Shared} {env : Env} {g : Heap} {body : List Stmt} {Q : Flow → Shared → Prop} {r : Addr} {t₀ u₀ v₀ : Tok} {b : Int} {m₀ : Str → Option Value}
    {T D pl ot first fdx rows st sl cell : Addr} {oT oc : Obj} {es : List DictEntry} {npl not nf nD nr n1 nsl : Nat} {i sd : Int} {ti td : Tok} {ws : List Value}
    (hh : A.handled = none) (hr : IsRange s.heap r 0 b 1 t₀ u₀ v₀) (hb0 : 0 ≤ b) (hb4 : b < 4) (F : Fr g env.locals s.heap m₀)
    (N : News g env.locals s.heap [(T, oT), (pl, listOf #[] npl), (ot, listOf #[] not), (first, immO fdx es nf), (fdx, dictOf [] 0), (D, dictOf es nD), (rows, dictOf es nr), (st, listOf #[.ref sl, .int i ti, .int sd td] n1), (sl, listOf ws.toArray nsl), (cell, oc)])
    (G : Good es) (i0 : 0 ≤ i) (hrow : 2 < rows) (hdue : m₀ (Str.ofString "due") = some (.ref rows)) (hne : @Ne Nat rows st ∧ @Ne Nat rows ot ∧ @Ne Nat rows pl) (ord : LawOrd cell sl st rows first fdx ot pl)
    (turn : ∀ (I k : Nat) t i ti sd td n1 (os : List Oth) no (ps : List Addr) np (due : Addr) nd rest own tl (oI : Obj) (m₁ : Str → Option Value) h tk, LawC ⟨cell, oc, sl, ws, nsl, st, ot, pl, rows, es, nr, first, fdx, nf⟩ I k os ps rest own tl → A.handled = none → k < 3 → 0 ≤ i → os.length = k → ps.length = k → Good (uAll es os) → 2 < due → (@Ne Nat due st ∧ @Ne Nat due ot ∧ @Ne Nat due pl) → Far tl I →
      LawOrd cell sl st rows first fdx ot pl → @LT.lt Nat _ pl I →
      Fr g env.locals h (fun y => if y = Str.ofString "_" then some (.int k t) else if y = Str.ofString "due" then some (.ref due) else if y = Str.ofString "way" then m₁ y else if y = Str.ofString "row" then m₁ y else m₀ y) →
      News g env.locals h ((st, listOf #[.ref sl, .int i ti, .int sd td] n1) :: (ot, listOf (os.map (·.v)).toArray no) :: (pl, listOf (ps.map Value.ref).toArray np) :: (due, dictOf (uAll es os) nd) ::
        (cell, oc) :: (sl, listOf ws.toArray nsl) :: (rows, dictOf es nr) :: (first, immO fdx es nf) :: (fdx, dictOf [] 0) :: (I, oI) :: tl) →
      wpAny (model prog w) A (execs body env) (GPost g env.locals I (LJx ⟨cell, oc, sl, ws, nsl, st, ot, pl, rows, es, nr, first, fdx, nf⟩ m₀ I (k + 1)) own { s with heap := h, toks := tk } Q) E { s with heap := h, toks := tk })
    (done : ∀ (I : Nat) i ti sd td n1 (os : List Oth) no (ps : List Addr) np (due : Addr) nd rest (m₁ : Str → Option Value) h tk, LawC ⟨cell, oc, sl, ws, nsl, st, ot, pl, rows, es, nr, first, fdx, nf⟩ I b.toNat os ps rest [] rest → A.handled = none → 0 ≤ i → os.length ≤ 3 → ps.length = os.length → Good (uAll es os) → 2 < due → (@Ne Nat due st ∧ @Ne Nat due ot ∧ @Ne Nat due pl) → Far rest I →
      LawOrd cell sl st rows first fdx ot pl → @LT.lt Nat _ pl I →
      Fr g env.locals h (fun y => if y = Str.ofString "due" then some (.ref due) else if y = Str.ofString "_" then m₁ y else if y = Str.ofString "way" then m₁ y else if y = Str.ofString "row" then m₁ y else m₀ y) →
      News g env.locals h ((st, listOf #[.ref sl, .int i ti, .int sd td] n1) :: (ot, listOf (os.map (·.v)).toArray no) :: (pl, listOf (ps.map Value.ref).toArray np) :: (due, dictOf (uAll es os) nd) ::
        (cell, oc) :: (sl, listOf ws.toArray nsl) :: (rows, dictOf es nr) :: (first, immO fdx es nf) :: (fdx, dictOf [] 0) :: rest) → Q .next { s with heap := h, toks := tk }) :
    wpAny (model prog w) A (pyIter (.ref r)) (fun it s₂ => LoopAtV prog w A g env (Str.ofString "_") body Q E it s₂) E s := by
  have N2 : News g env.locals s.heap (LoopV.led ⟨cell, oc, sl, ws, nsl, st, ot, pl, rows, es, nr, first, fdx, nf⟩ i ti sd td n1 [] not [] npl rows nr []) := by
    intro q hq
    unfold LoopV.led at hq
    simp only [List.mem_cons, List.not_mem_nil, or_false] at hq
    refine N q ?_
    simp only [List.mem_cons, List.not_mem_nil, or_false]
    rcases hq with h | h | h | h | h | h | h | h | h <;> (first | (rw [h]; simp [uAll]; done) | (subst h; simp [uAll]))
  obtain ⟨n, rfl⟩ := Int.eq_ofNat_of_zero_le hb0
  have goodU : ∀ {os : List Oth} {rest : List (Addr × Obj)}, (∀ o ∈ os, OthIn rest o) → Good (uAll es os) := fun h => uAll_goodIn G h
  refine range_loopG (n := n) (LJx ⟨cell, oc, sl, ws, nsl, st, ot, pl, rows, es, nr, first, fdx, nf⟩ m₀) hh hr rfl (by omega) F N2 (fun I hI => ?_) ?_ ?_
  · refine ⟨⟨?_, ?_, ?_, ?_, ?_, ?_, ?_, ?_⟩, i, ti, sd, td, n1, [], not, [], npl, rows, nr, [], rfl, i0, rfl, rfl, by simp, by simp, by simp, hrow, .inl rfl, hdue, fun _ _ => rfl⟩
    · exact hI _ (.head _)
    · exact hI _ (.tail _ (.head _))
    · exact hI _ (.tail _ (.tail _ (.head _)))
    · exact hI _ (.tail _ (.tail _ (.tail _ (.tail _ (.head _)))))
    · exact hI _ (.tail _ (.tail _ (.tail _ (.tail _ (.tail _ (.head _))))))
    · exact hI _ (.tail _ (.tail _ (.tail _ (.tail _ (.tail _ (.tail _ (.head _)))))))
    · exact hI _ (.tail _ (.tail _ (.tail _ (.tail _ (.tail _ (.tail _ (.tail _ (.head _))))))))
    · exact hI _ (.tail _ (.tail _ (.tail _ (.tail _ (.tail _ (.tail _ (.tail _ (.tail _ (.head _)))))))))
  · rintro I k t m₁ nx h tk own hk ⟨hb, i', ti', sd', td', n1', os, no, ps, np, due, nd, rest, J⟩ hoff hown ⟨oI, hin⟩ F₁ N₁
    obtain ⟨hnx, j0, lo, lp, oth, pls, hrest, hlow, hdu, nm, hm⟩ := J
    subst hnx
    have hne' : @Ne Nat due st ∧ @Ne Nat due ot ∧ @Ne Nat due pl := by
      rcases hdu with rfl | hd
      · exact hne
      · obtain ⟨b1, b2, b3, _⟩ := hb
        exact ⟨Nat.ne_of_gt (Nat.lt_trans b1 hd), Nat.ne_of_gt (Nat.lt_trans b2 hd), Nat.ne_of_gt (Nat.lt_trans b3 hd)⟩
    refine turn I k t i' ti' sd' td' n1' os no ps np due nd rest own (rest ++ own) oI m₁ h tk ⟨hb, lo, lp, oth, pls, hrest, hown, rfl⟩ hh (by omega) j0 lo lp (goodU oth) hlow hne' (fun p hp => ?_) ord hb.2.2.1 ?_ (fun q hq => N₁ q (turn_mem hin hq))
    · rcases List.mem_append.mp hp with hp | hp
      · exact Nat.le_of_lt (hrest p hp)
      · exact Nat.le_of_eq (hown p hp).symm
    · rw [← loop_shape2 nm hm]; exact F₁
  · rintro I m₁ nx h tk ⟨hb, i', ti', sd', td', n1', os, no, ps, np, due, nd, rest, J⟩ F₁ N₁
    obtain ⟨hnx, j0, lo, lp, oth, pls, hrest, hlow, hdu, nm, hm⟩ := J
    subst hnx
    have hne' : @Ne Nat due st ∧ @Ne Nat due ot ∧ @Ne Nat due pl := by
      rcases hdu with rfl | hd
      · exact hne
      · obtain ⟨b1, b2, b3, _⟩ := hb
        exact ⟨Nat.ne_of_gt (Nat.lt_trans b1 hd), Nat.ne_of_gt (Nat.lt_trans b2 hd), Nat.ne_of_gt (Nat.lt_trans b3 hd)⟩
    refine done I i' ti' sd' td' n1' os no ps np due nd rest m₁ h tk ⟨hb, lo, lp, oth, pls, hrest, by simp, by simp⟩ hh j0 (by rw [lo]; omega) (by rw [lo, lp]) (goodU oth) hlow hne' (fun p hp => Nat.le_of_lt (hrest p hp)) ord hb.2.2.1 ?_ N₁
    rw [← loop_shape nm hm]; exact F₁
end Mine
end

section
open PySem PySem.W PyProof.Rows PySem.Calls
set_option maxRecDepth 100000
namespace Mine
section
variable {prog : Program} {w : World} {A : Around} {E : Value → Shared → Prop} {s : Shared}
theorem item_pos {value slice : PySem.Expr} {l : Addr} {vs : Array Value} {k : Int} {u : Tok} {x : Value} {Q : Value → Shared → Prop} (hl : s.heap.IsList l vs) (h0 : 0 ≤ k) (hk : k ≤ 63) (hx : vs[k.toNat]? = some x)
    (h : Q x s) (hs : subscripted slice false (.ref l) (.int k u) = operate [.ref l, .int k u] (getItem (.ref l) (.int k u)) := by with_unfolding_all rfl) :
    wpAny (model prog w) A (subscriptTail value slice (.ref l) (.int k u)) Q E s :=
  tail_any hl.typeIs slot_list_getitem.lookup (wpAny_getItem_list hl h0 (by omega) hx h) hs
theorem not_loopKs {z : Str} (h : z ∉ loopKs) : ¬ z = Str.ofString "due" ∧ ¬ z = Str.ofString "_" ∧ ¬ z = Str.ofString "way" ∧ ¬ z = Str.ofString "row" := by
  unfold loopKs at h
  simp only [List.mem_cons, List.not_mem_nil, or_false, not_or] at h
  exact h
theorem push_ref (ps : List Addr) (p : Addr) : (ps.map Value.ref).toArray.push (.ref p) = ((ps ++ [p]).map Value.ref).toArray := by simp
theorem push_oth (os : List Oth) (o : Oth) : (os.map (·.v)).toArray.push o.v = ((os ++ [o]).map (·.v)).toArray := by simp
theorem item_three {value slice : PySem.Expr} {l : Addr} {v0 v1 v2 : Value} {k : Int} {u : Tok} {Q : Value → Shared → Prop} (hl : s.heap.IsList l #[v0, v1, v2]) (h0 : 0 ≤ k) (hk : k < 3) (q0 : k = 0 → Q v0 s) (q1 : k = 1 → Q v1 s) (q2 : k = 2 → Q v2 s)
    (hs : subscripted slice false (.ref l) (.int k u) = operate [.ref l, .int k u] (getItem (.ref l) (.int k u)) := by with_unfolding_all rfl) :
    wpAny (model prog w) A (subscriptTail value slice (.ref l) (.int k u)) Q E s := by
  obtain rfl | rfl | rfl : k = 0 ∨ k = 1 ∨ k = 2 := by omega
  · exact item_pos hl (by decide) (by decide) rfl (q0 rfl) hs
  · exact item_pos hl (by decide) (by decide) rfl (q1 rfl) hs
  · exact item_pos hl (by decide) (by decide) rfl (q2 rfl) hs
theorem item_back {value slice : PySem.Expr} {l : Addr} {vs : Array Value} {u : Tok} {x : Value} {Q : Value → Shared → Prop} (hl : s.heap.IsList l (vs.push x)) 
    (h : Q x s) (hs : subscripted slice false (.ref l) (.int (-1) u) = operate [.ref l, .int (-1) u] (getItem (.ref l) (.int (-1) u)) := by with_unfolding_all rfl) :
    wpAny (model prog w) A (subscriptTail value slice (.ref l) (.int (-1) u)) Q E s := by
  refine tail_any hl.typeIs slot_list_getitem.lookup (wpAny_getItem_list_neg hl (by decide) (by rw [Array.size_push]; omega) (by decide) ?_ h) hs
  rw [Array.size_push, show ((-1 : Int) + ((vs.size + 1 : Nat) : Int)).toNat = vs.size by omega]
  simp
theorem law_end0 {v : LoopV} {m₀ : Str → Option Value} {I : Addr} {k : Nat} {os : List Oth} {ps : List Addr} {rest own tl : List (Addr × Obj)} {g : Heap} {L : Addr} {s₁ : Shared} {h' : Heap} {tk' : Nat} {m' : Str → Option Value}
    {i' : Int} {ti' : Tok} {sd' : Int} {td' : Tok} {n1' no' np' nd' : Nat} {p due' : Addr} {all : List (Addr × Obj)} {n2 : Nat}
    (C : LawC v I k os ps rest own tl) (F' : Fr g L h' m') (N' : News g L h' all) (h1 : (v.st, listOf #[.ref v.sl, .int i' ti', .int sd' td'] n1') ∈ all) (h3 : (v.pl, listOf ((ps.map Value.ref).toArray.push (.ref p)) np') ∈ all)
    (h4 : (v.cell, v.oc) ∈ all) (h5 : (v.sl, listOf v.ws.toArray v.nsl) ∈ all) (h6 : (v.rows, dictOf v.es v.nr) ∈ all) (h7 : (v.first, immO v.fdx v.es v.nf) ∈ all) (h8 : (v.fdx, dictOf [] 0) ∈ all) (h9 : ∀ q ∈ tl, q ∈ all)
    (hm1 : m' (Str.ofString "due") = some (.ref due')) (hm2 : ∀ z, z ∉ loopKs → m' z = m₀ z) (i0 : 0 ≤ i') (hdl : 2 < due') (hpl : 2 < p) (ip : @LT.lt Nat _ I p) (idu : @LT.lt Nat _ I due')
    (h2 : (v.ot, listOf ((os.map (·.v)).toArray.push .none) no') ∈ all) (hp : (p, dictOf [] n2) ∈ all) (hd : (due', dictOf (mrg (uAll v.es os) []) nd') ∈ all) :
    GEnd g L I (LJx v m₀ I (k + 1)) own s₁ { s₁ with heap := h', toks := tk' } :=
  law_end (o := ⟨.none, [], false⟩) C F' N' [(p, dictOf [] n2), (due', dictOf (mrg (uAll v.es os) []) nd')] (by
    intro q hq
    simp only [List.mem_cons, List.not_mem_nil, or_false] at hq
    rcases hq with rfl | rfl
    · exact ⟨hp, ip⟩
    · exact ⟨hd, idu⟩) (push_oth os ⟨.none, [], false⟩) (push_ref _ _) h1 h2 h3 h4 h5 h6 h7 h8 h9 .none ⟨n2, .head _, Good.nil, hpl⟩ (.tail _ (.head _)) hm1 hm2 i0 hdl
theorem law_end1 {v : LoopV} {m₀ : Str → Option Value} {I : Addr} {k : Nat} {os : List Oth} {ps : List Addr} {rest own tl : List (Addr × Obj)} {g : Heap} {L : Addr} {s₁ : Shared} {h' : Heap} {tk' : Nat} {m' : Str → Option Value}
    {i' : Int} {ti' : Tok} {sd' : Int} {td' : Tok} {n1' no' np' nd' : Nat} {p due' : Addr} {all : List (Addr × Obj)} {n2 : Nat} {a : Addr} {e : List DictEntry} {n3 : Nat}
    (C : LawC v I k os ps rest own tl) (F' : Fr g L h' m') (N' : News g L h' all) (h1 : (v.st, listOf #[.ref v.sl, .int i' ti', .int sd' td'] n1') ∈ all) (h3 : (v.pl, listOf ((ps.map Value.ref).toArray.push (.ref p)) np') ∈ all)
    (h4 : (v.cell, v.oc) ∈ all) (h5 : (v.sl, listOf v.ws.toArray v.nsl) ∈ all) (h6 : (v.rows, dictOf v.es v.nr) ∈ all) (h7 : (v.first, immO v.fdx v.es v.nf) ∈ all) (h8 : (v.fdx, dictOf [] 0) ∈ all) (h9 : ∀ q ∈ tl, q ∈ all)
    (hm1 : m' (Str.ofString "due") = some (.ref due')) (hm2 : ∀ z, z ∉ loopKs → m' z = m₀ z) (i0 : 0 ≤ i') (hdl : 2 < due') (hpl : 2 < p) (ip : @LT.lt Nat _ I p) (idu : @LT.lt Nat _ I due')
    (h2 : (v.ot, listOf ((os.map (·.v)).toArray.push (.ref a)) no') ∈ all) (hp : (p, dictOf e n2) ∈ all) (hd : (due', dictOf (mrg (uAll v.es os) e) nd') ∈ all) (ha : (a, dictOf e n3) ∈ all) (ga : Good e) (hal : 2 < a) (ia : @LT.lt Nat _ I a) :
    GEnd g L I (LJx v m₀ I (k + 1)) own s₁ { s₁ with heap := h', toks := tk' } :=
  law_end (o := ⟨.ref a, e, false⟩) C F' N' [(a, dictOf e n3), (p, dictOf e n2), (due', dictOf (mrg (uAll v.es os) e) nd')] (by
    intro q hq
    simp only [List.mem_cons, List.not_mem_nil, or_false] at hq
    rcases hq with rfl | rfl | rfl
    · exact ⟨ha, ia⟩
    · exact ⟨hp, ip⟩
    · exact ⟨hd, idu⟩) (push_oth os ⟨.ref a, e, false⟩) (push_ref _ _) h1 h2 h3 h4 h5 h6 h7 h8 h9 (.dic (.head _) ga hal) ⟨n2, .tail _ (.head _), ga, hpl⟩ (.tail _ (.tail _ (.head _))) hm1 hm2 i0 hdl
theorem law_end2 {v : LoopV} {m₀ : Str → Option Value} {I : Addr} {k : Nat} {os : List Oth} {ps : List Addr} {rest own tl : List (Addr × Obj)} {g : Heap} {L : Addr} {s₁ : Shared} {h' : Heap} {tk' : Nat} {m' : Str → Option Value}
    {i' : Int} {ti' : Tok} {sd' : Int} {td' : Tok} {n1' no' np' nd' : Nat} {p due' : Addr} {all : List (Addr × Obj)} {n2 : Nat} {a dx : Addr} {e : List DictEntry} {n3 : Nat}
    (C : LawC v I k os ps rest own tl) (F' : Fr g L h' m') (N' : News g L h' all) (h1 : (v.st, listOf #[.ref v.sl, .int i' ti', .int sd' td'] n1') ∈ all) (h3 : (v.pl, listOf ((ps.map Value.ref).toArray.push (.ref p)) np') ∈ all)
    (h4 : (v.cell, v.oc) ∈ all) (h5 : (v.sl, listOf v.ws.toArray v.nsl) ∈ all) (h6 : (v.rows, dictOf v.es v.nr) ∈ all) (h7 : (v.first, immO v.fdx v.es v.nf) ∈ all) (h8 : (v.fdx, dictOf [] 0) ∈ all) (h9 : ∀ q ∈ tl, q ∈ all)
    (hm1 : m' (Str.ofString "due") = some (.ref due')) (hm2 : ∀ z, z ∉ loopKs → m' z = m₀ z) (i0 : 0 ≤ i') (hdl : 2 < due') (hpl : 2 < p) (ip : @LT.lt Nat _ I p) (idu : @LT.lt Nat _ I due')
    (h2 : (v.ot, listOf ((os.map (·.v)).toArray.push (.ref a)) no') ∈ all) (hp : (p, dictOf e n2) ∈ all) (hd : (due', dictOf (mrg (uAll v.es os) e) nd') ∈ all) (ha : (a, immO dx e n3) ∈ all) (hdx : (dx, dictOf [] 0) ∈ all) (ga : Good e) (hal : 2 < a) (ia : @LT.lt Nat _ I a) (idx : @LT.lt Nat _ I dx) :
    GEnd g L I (LJx v m₀ I (k + 1)) own s₁ { s₁ with heap := h', toks := tk' } :=
  law_end (o := ⟨.ref a, e, true⟩) C F' N' [(a, immO dx e n3), (dx, dictOf [] 0), (p, dictOf e n2), (due', dictOf (mrg (uAll v.es os) e) nd')] (by
    intro q hq
    simp only [List.mem_cons, List.not_mem_nil, or_false] at hq
    rcases hq with rfl | rfl | rfl | rfl
    · exact ⟨ha, ia⟩
    · exact ⟨hdx, idx⟩
    · exact ⟨hp, ip⟩
    · exact ⟨hd, idu⟩) (push_oth os ⟨.ref a, e, true⟩) (push_ref _ _) h1 h2 h3 h4 h5 h6 h7 h8 h9 (.imm (.head _) (.tail _ (.head _)) ga hal) ⟨n2, .tail _ (.tail _ (.head _)), ga, hpl⟩ (.tail _ (.tail _ (.tail _ (.head _)))) hm1 hm2 i0 hdl
end
end Mine
end

section
open PySem PySem.W PyProof.Rows PySem.Calls
set_option maxRecDepth 100000
namespace Mine
theorem news_ne {g h : Heap} {L a b : Addr} {o o' : Obj} {news : List (Addr × Obj)} (N : News g L h news) (ha : (a, o) ∈ news) (hb : (b, o') ∈ news) (hd : o.data ≠ o'.data) : @Ne Nat a b := by
  intro e
  have h1 := (N _ ha).1
  have h2 := (N _ hb).1
  dsimp only at h1 h2
  rw [show a = b from e, h2] at h1
  exact hd (by rw [Option.some.inj h1])

/-- what union answers: which object it is -/
structure UId (es : List DictEntry) (os : List Oth) (first u : Addr) (news : List (Addr × Obj)) : Prop where
  same : scan (uStart es first) os = .bool false → u = first
  one : ∀ a, scan (uStart es first) os = .ref a → u = a
  new : scan (uStart es first) os = .none → ∀ p ∈ news, p.1 ≠ u

theorem scan_false_all {os : List Oth} : ∀ {v : Value}, scan v os = .bool false → (∀ o ∈ os, ∀ a, o.v = .bool a → False) → v = .bool false ∧ ∀ o ∈ os, o.es = [] := by
  induction os with
  | nil => intro v h _; exact ⟨h, by simp⟩
  | cons o r ih =>
    intro v h hv
    unfold scan at h
    by_cases he : o.es = []
    · rw [if_pos he] at h
      obtain ⟨a, b⟩ := ih h fun q hq => hv q (.tail _ hq)
      exact ⟨a, fun q hq => by rcases List.mem_cons.mp hq with rfl | hq; exact he; exact b q hq⟩
    · rw [if_neg he] at h
      by_cases hf : v = .bool false ∧ o.im = true
      · rw [if_pos hf] at h
        obtain ⟨a, _⟩ := ih h fun q hq => hv q (.tail _ hq)
        exact (hv o (.head _) _ a).elim
      · rw [if_neg hf] at h; cases h
theorem uAll_empty {es : List DictEntry} : ∀ {os : List Oth}, (∀ o ∈ os, o.es = []) → uAll es os = es := by
  intro os
  unfold uAll
  induction os generalizing es with
  | nil => intro _; rfl
  | cons o r ih =>
    intro h
    rw [List.foldl_cons, h o (.head _), mrg_nil]
    exact ih fun q hq => h q (.tail _ hq)
theorem scan_ref {os : List Oth} {a : Addr} : ∀ {v : Value}, scan v os = .ref a → (∀ o ∈ os, ∀ b, o.v = .bool b → False) →
    (v = .ref a ∧ ∀ o ∈ os, o.es = []) ∨ (v = .bool false ∧ ∃ pre o post, os = pre ++ o :: post ∧ (∀ q ∈ pre, q.es = []) ∧ o.es ≠ [] ∧ o.im = true ∧ o.v = .ref a ∧ ∀ q ∈ post, q.es = []) := by
  induction os with
  | nil => intro v h _; exact .inl ⟨h, by simp⟩
  | cons o r ih =>
    intro v h hv
    unfold scan at h
    by_cases he : o.es = []
    · rw [if_pos he] at h
      rcases ih h fun q hq => hv q (.tail _ hq) with ⟨e1, e2⟩ | ⟨e1, pre, o', post, e2, e3, e4, e5, e6, e7⟩
      · exact .inl ⟨e1, fun q hq => by rcases List.mem_cons.mp hq with rfl | hq; exact he; exact e2 q hq⟩
      · exact .inr ⟨e1, o :: pre, o', post, by rw [e2]; rfl, fun q hq => by rcases List.mem_cons.mp hq with rfl | hq; exact he; exact e3 q hq, e4, e5, e6, e7⟩
    · rw [if_neg he] at h
      by_cases hf : v = .bool false ∧ o.im = true
      · rw [if_pos hf] at h
        rcases ih h fun q hq => hv q (.tail _ hq) with ⟨e1, e2⟩ | ⟨e1, _⟩
        · exact .inr ⟨hf.1, [], o, r, rfl, by simp, he, hf.2, e1, e2⟩
        · exact (hv o (.head _) _ e1).elim
      · rw [if_neg hf] at h; cases h
theorem OthIn.notBool {nx : List (Addr × Obj)} {o : Oth} (D : OthIn nx o) : ∀ b, o.v = .bool b → False := by
  cases D <;> intro b h <;> cases h
theorem uAll_one {pre post : List Oth} {o : Oth} (h1 : ∀ q ∈ pre, q.es = []) (h2 : ∀ q ∈ post, q.es = []) (G : Good o.es) : uAll [] (pre ++ o :: post) = o.es := by
  have e1 := uAll_empty (es := []) h1
  have e2 := uAll_empty (es := o.es) h2
  unfold uAll at e1 e2 ⊢
  rw [List.foldl_append, e1, List.foldl_cons, mrg_nil_left G, e2]

section
variable {w : World} {A : Around} {E : Value → Shared → Prop} {s : Shared} {g : Heap} {L : Addr} {m : Str → Option Value} {news : List (Addr × Obj)} {mg mb : Str → Option Value} {loose : List Str} {mean : ExcName → Option Value}
theorem led_union {Q : Value → Shared → Prop} {f first fdx st cell : Addr} {es : List DictEntry} {nf n1 : Nat} {os : List Oth} {vs : Array Value} {oc : Obj} {cv : Option Value} {args : List Value}
    (X : (hd.heap_39 w.params).In g) (T : Top hd.view_39 loose mean mg mb g) (F : Fr g L s.heap m) (N : News g L s.heap news) (hf : f = 100 ∨ f = 107) (ha : args = .ref first :: os.map (·.v))
    (hm : (first, immO fdx es nf) ∈ news) (hmd : (fdx, dictOf [] 0) ∈ news) (G : Good es) (lf : 2 < first) (ho : ∀ o ∈ os, OthIn news o) (hlen : os.length ≤ 63) (hroom : A.depth < 450) (hh : A.handled = none)
    (hst : (st, listOf vs n1) ∈ news) (hcell : (cell, oc) ∈ news) (hoc : oc.data = .cell cv)
    (h : ∀ h' tk u udx nu, Fr g L h' m → News g L h' ((u, immO udx (uAll es os) nu) :: (udx, dictOf [] 0) :: news) → UId es os first u news → 2 < u → Good (uAll es os) → (@Ne Nat u st ∧ @Ne Nat udx st ∧ @Ne Nat u cell ∧ @Ne Nat udx cell) → Q (.ref u) { s with heap := h', toks := tk }) :
    codeAny (model Challenge.rw_eu0031_01.row.prog w) A (.call (.ref f) ⟨args, []⟩) (fun r s' => match r with | .ok (.ret v) => Q v s' | .ok _ => False | .error e => E e s') s := by
  subst ha
  have G2 : Good (uAll es os) := uAll_goodIn G ho
  have nb : ∀ o ∈ os, ∀ b, o.v = .bool b → False := fun o q => (ho o q).notBool
  have go : ∀ h' tk u udx nu, (∀ b o, s.heap.get? b = some o → h'.get? b = some o) → News g L h' ((u, immO udx (uAll es os) nu) :: (udx, dictOf [] 0) :: news) → UId es os first u news → 2 < u → Q (.ref u) { s with heap := h', toks := tk } := by
    intro h' tk u udx nu k N' U lu
    refine h h' tk u udx nu ⟨F.ns.keeps k, fun b o e => k b o (F.keep b o e), F.above⟩ N' U lu G2 ⟨?_, ?_, ?_, ?_⟩
    · exact news_ne N' (.head _) (.tail _ (.tail _ hst)) (by intro e; cases e)
    · exact news_ne N' (.tail _ (.head _)) (.tail _ (.tail _ hst)) (by intro e; cases e)
    · exact news_ne N' (.head _) (.tail _ (.tail _ hcell)) (by rw [hoc]; intro e; cases e)
    · exact news_ne N' (.tail _ (.head _)) (.tail _ (.tail _ hcell)) (by rw [hoc]; intro e; cases e)
  have old : ∀ {h' : Heap} {u udx : Addr} {e : List DictEntry} {nu : Nat}, (∀ b o, s.heap.get? b = some o → h'.get? b = some o) → (u, immO udx e nu) ∈ news → (udx, dictOf [] 0) ∈ news → News g L h' ((u, immO udx e nu) :: (udx, dictOf [] 0) :: news) := by
    intro h' u udx e nu k e1 e2 p hp
    have hp' : p ∈ news := by
      rcases List.mem_cons.mp hp with rfl | hp
      · exact e1
      · rcases List.mem_cons.mp hp with rfl | hp
        · exact e2
        · exact hp
    exact ⟨k _ _ (N p hp').1, (N p hp').2⟩
  refine raw_unionC X T F.keep hf (N _ hm).1 (N _ hmd).1 G lf (fun o q => (ho o q).at N) hlen hroom hh ?_ ?_ ?_
  · intro hs h' tk k
    obtain ⟨_, e⟩ := scan_false_all hs nb
    have eu : uAll es os = es := uAll_empty e
    refine go h' tk first fdx nf k (by rw [eu]; exact old k hm hmd) ⟨fun _ => rfl, fun a q => (by rw [hs] at q; cases q), fun q => (by rw [hs] at q; cases q)⟩ lf
  · intro a hs h' tk k
    rcases scan_ref hs nb with ⟨e1, e2⟩ | ⟨e1, pre, o, post, e2, e3, e4, e5, e6, e7⟩
    · have hfa : first = a := by
        unfold uStart at e1
        by_cases q : es.isEmpty = true
        · rw [if_pos q] at e1; cases e1
        · rw [if_neg q] at e1; cases e1; rfl
      subst hfa
      have eu : uAll es os = es := uAll_empty e2
      exact go h' tk first fdx nf k (by rw [eu]; exact old k hm hmd) ⟨fun _ => rfl, fun a q => (Value.ref.inj (hs.symm.trans q)), fun q => (by rw [hs] at q; cases q)⟩ lf
    · have hes : es = [] := by
        unfold uStart at e1
        by_cases q : es.isEmpty = true
        · exact List.isEmpty_iff.mp q
        · rw [if_neg q] at e1; cases e1
      have Do := ho o (by rw [e2]; simp)
      have eu : uAll es os = o.es := by rw [hes, e2]; exact uAll_one e3 e7 Do.good
      obtain ⟨ov, oes, oim⟩ := o
      dsimp only at e5 e6 eu
      subst e5 e6
      cases Do with
      | imm d1 d2 d3 d4 =>
        exact go h' tk a _ _ k (by rw [eu]; exact old k d1 d2) ⟨fun q => (by rw [hs] at q; cases q), fun a q => (by rw [hs] at q; cases q; rfl), fun q => (by rw [hs] at q; cases q)⟩ d4
  · intro hs h' tk r dr n' k e1 e2 l1 l2
    obtain ⟨F', N'⟩ := led_grow (more := [(r, immO dr (uAll es os) n'), (dr, dictOf [] 0)]) F N k (by
      intro p hp
      simp only [List.mem_cons, List.not_mem_nil, or_false] at hp
      rcases hp with rfl | rfl
      · exact ⟨e1, Nat.le_of_lt l1⟩
      · exact ⟨e2, Nat.le_of_lt l2⟩)
    exact go h' tk r dr n' k N' ⟨fun q => (by rw [hs] at q; cases q), fun a q => (by rw [hs] at q; cases q), fun _ p hp => Nat.ne_of_lt (Nat.lt_trans (Heap.lt_size (N p hp).1) l1)⟩ (low_at X F (Nat.le_of_lt l1))
end
end Mine
end

section
open PySem PySem.W PyProof.Rows PySem.Calls Builtin Builtin.ObjectAttr
set_option maxRecDepth 100000
namespace Mine
theorem fo_union (p : Params) : findObj (hd.heap_39 p) 145 (some (dictOf [] 0)) "union" = some (.bind (.builtin "function.__get__") (.ref 100)) := by kernel_rfl
theorem fo_merge (p : Params) : findObj (hd.heap_39 p) 145 (some (dictOf [] 0)) "merge_with" = some (.bind (.builtin "function.__get__") (.ref 107)) := by kernel_rfl
theorem tf_union (p : Params) : typeIn (hd.heap_39 p) (.ref 100) = some (.type "function") := by kernel_rfl
theorem tf_merge (p : Params) : typeIn (hd.heap_39 p) (.ref 107) = some (.type "function") := by kernel_rfl
section
variable {prog : Program} {w : World} {A : Around} {E : Value → Shared → Prop} {s : Shared} {g : Heap} {L : Addr} {m : Str → Option Value} {news : List (Addr × Obj)}
theorem led_bound {x dx f : Addr} {es : List DictEntry} {n : Nat} {name : Str} {expr : Bool} {Q : Value → Shared → Prop} (X : (hd.heap_39 w.params).In g) (F : Fr g L s.heap m) (N : News g L s.heap news)
    (hx : (x, immO dx es n) ∈ news) (hdx : (dx, dictOf [] 0) ∈ news) (hf : findObj (hd.heap_39 w.params) 145 (some (dictOf [] 0)) name = some (.bind (.builtin "function.__get__") (.ref f))) (ht : typeIn (hd.heap_39 w.params) (.ref f) = some (.type "function"))
    (h : ∀ q h', Fr g L h' m → News g L h' ((q, methodObj (.ref f) (.ref x)) :: news) → (∀ p ∈ news, p.1 < q) → Q (.ref q) { s with heap := h', toks := s.toks + 1 }) :
    wpAny (model prog w) A (getAttr (.ref x) name expr) Q E s := by
  unfold getAttr
  refine wpAny_bind (wpAny_mkText ?_)
  refine getattrBy_imm (s := { s with toks := s.toks + 1 }) (X.keeps F.keep) (N _ hx).1 (N _ hdx).1 hf ?_
  exact wpAny_call (fn_get (s := { s with toks := s.toks + 1 }) (X.keeps F.keep) ht (handed_on rfl (h s.heap.objs.size _ (F.push _) (N.push F _) fun p hp => Heap.lt_size (N p hp).1)))
end
end Mine
end

section
open PySem PySem.W PyProof.Rows PySem.Calls PyProof.Rows.LCg PyProof.Rows.LCt
set_option maxRecDepth 100000
namespace Mine
section
variable {M : Model} {A : Around} {E : Value → Shared → Prop} {s : Shared} {env : Env}
theorem star_meth {o a : PySem.Expr} {name : Str} {apos pos p : Pos} {Q : Value → Shared → Prop}
    (h : wpAny M A (eval o env) (fun ov s₁ => wpAny M A (getAttr ov name true) (fun f s₂ => wpAny M A (callWith pos f [] (backTo pos (starEach [.Starred a p] env)) []) Q E s₂) E s₁) E s)
    (hb : attributeBase o name env (eval o env) = eval o env := by rfl) : wpAny M A (eval (.Call (.Attribute o name apos) [.Starred a p] [] pos) env) Q E s := by
  rw [arm_eval_Call, hb]
  refine wpAny_bind (wpAny_mono h (fun ov s₁ h₁ => wpAny_bind (wpAny_standAt ?_)) fun _ _ x => x)
  unfold methodCall
  have e : methodCallForm ([PySem.Expr.Starred a p].length + ([] : List Keyword).length) (backTo pos (starEach [.Starred a p] env)) (backToKw pos (keywordEach [] env)) = false := by rfl
  rw [e]
  unfold calleeOf methodCallPos
  simp only [Bool.false_eq_true, if_false, Bool.not_false, Bool.true_or, if_true]
  refine wpAny_bind (wpAny_holding (wpAny_bind (wpAny_mono h₁ (fun f s₂ h₂ => wpAny_pure ?_) fun _ _ x => x)))
  exact wpAny_bind (wpAny_pure h₂)
end

section
variable {prog : Program} {w : World} {A : Around} {E : Value → Shared → Prop} {s : Shared} {h₀ : Heap} {L : Addr} {m : Str → Option Value} {env : Env}
/-- a list comprehension with one test, its element the loop's own name, over a list that is not written -/
theorem rest_filter {ct : PySem.Expr} {x : Str} {px : Pos} {scope : Scope} {cl : List (Str × Addr)} {S : List (Addr × Obj) → Prop} {Fin : List Value → List (Addr × Obj) → Prop} {its : Array Value} {news : List (Addr × Obj)} (p : Value → Bool) (hS : S news)
    (turn : ∀ v I oI C oC D m₂ h tk ys (E' : Value → Shared → Prop) (Q' : Bool → Shared → Prop), v ∈ its.toList → NsObj oC m₂ → m₂ x = some v → Fr h₀ L h m → News h₀ L h ((I, oI) :: (C, oC) :: (D, lst ys) :: news) →
      (∀ tk', Q' (p v) { s with heap := h, toks := tk' }) → wpAny (model prog w) A (isTrue ct (compEnvC scope cl C env) (eval ct (compEnvC scope cl C env))) Q' E' { s with heap := h, toks := tk })
    (hk : ∀ C, (compEnvC scope cl C env).scope.kind = .function) (hl : ∀ C, (compEnvC scope cl C env).kindOf x = some .local) (hd : (x == ("__debug__" : Str)) = false)
    (fin : Fin (its.toList.filter p) news) :
    CompRestT prog w A h₀ L m env ct (.Name x px) x scope cl s S (fun i v => its[i]? = some v) Fin its.size 0 [] news := by
  have key : ∀ k i ys, its.size - i = k → i ≤ its.size → ys = (its.toList.take i).filter p → CompRestT prog w A h₀ L m env ct (.Name x px) x scope cl s S (fun i v => its[i]? = some v) Fin k i ys news := by
    intro k
    induction k with
    | zero =>
      intro i ys hk hi hy
      have : i = its.toList.length := by rw [Array.length_toList]; omega
      rw [this, List.take_length] at hy
      rw [hy]
      exact CompRestT.zero fin
    | succ k ih =>
      intro i ys hki hi hy
      refine CompRestT.succ ?_
      intro v I oI C oC D m₂ h tk E' hv hC hx F N off ne
      have hlt : i < its.toList.length := by rw [Array.length_toList]; omega
      have hv' : its.toList[i]? = some v := by rw [← hv]; simp
      have hm : v ∈ its.toList := List.mem_of_getElem? hv'
      have htake : (its.toList.take (i + 1)).filter p = ys ++ (if p v = true then [v] else []) := by
        rw [List.take_add_one, hv', List.filter_append, ← hy]
        congr 1
        simp only [Option.toList_some, List.filter_cons, List.filter_nil]
      refine turn v I oI C oC D m₂ h tk ys E' _ hm hC hx F N fun tk' => ?_
      cases hp : p v with
      | true =>
        simp only [if_true]
        refine LCgL.ld_own N (.tail _ (.head _)) hC hx ?_ (hk C) (hl C) hd
        exact CompEnd.intro F N news (fun q hq => hq) off hS (ih (i + 1) _ (by omega) (by omega) (by rw [htake, hp]; rfl))
      | false =>
        simp only [Bool.false_eq_true, if_false]
        exact CompEnd.intro F N news (fun q hq => hq) off hS (ih (i + 1) _ (by omega) (by omega) (by rw [htake, hp]; simp))
  exact key _ 0 [] (Nat.sub_zero _) (Nat.zero_le _) (by simp)
end
section
variable {w : World} {A : Around} {E : Value → Shared → Prop} {s : Shared} {g : Heap} {L : Addr} {m : Str → Option Value} {news : List (Addr × Obj)} {mg mb : Str → Option Value} {loose : List Str} {mean : ExcName → Option Value}
theorem led_meth {Q : Value → Shared → Prop} {q f first fdx st cell : Addr} {es : List DictEntry} {nf n1 : Nat} {os : List Oth} {vs : Array Value} {oc : Obj} {cv : Option Value}
    (X : (hd.heap_39 w.params).In g) (T : Top hd.view_39 loose mean mg mb g) (F : Fr g L s.heap m) (N : News g L s.heap news) (hq : (q, methodObj (.ref f) (.ref first)) ∈ news) (hf : f = 100 ∨ f = 107)
    (hm : (first, immO fdx es nf) ∈ news) (hmd : (fdx, dictOf [] 0) ∈ news) (G : Good es) (lf : 2 < first) (ho : ∀ o ∈ os, OthIn news o) (hlen : os.length ≤ 63) (hroom : A.depth < 450) (hh : A.handled = none)
    (hst : (st, listOf vs n1) ∈ news) (hcell : (cell, oc) ∈ news) (hoc : oc.data = .cell cv)
    (h : ∀ h' tk u udx nu, Fr g L h' m → News g L h' ((u, immO udx (uAll es os) nu) :: (udx, dictOf [] 0) :: news) → UId es os first u news → 2 < u → Good (uAll es os) → (@Ne Nat u st ∧ @Ne Nat udx st ∧ @Ne Nat u cell ∧ @Ne Nat udx cell) → Q (.ref u) { s with heap := h', toks := tk }) :
    wpAny (model Challenge.rw_eu0031_01.row.prog w) A (call (.ref q) (os.map (·.v))) Q E s :=
  call_meth N hq (led_union X T F N hf rfl hm hmd G lf ho hlen hroom hh hst hcell hoc h)
theorem led_drop {h : Heap} {p q r : Addr × Obj} {l : List (Addr × Obj)} (N : News g L h (p :: q :: r :: l)) : News g L h (p :: q :: l) := fun x hx => N x (by
  simp only [List.mem_cons] at hx ⊢
  rcases hx with h | h | h <;> simp [h])
theorem star_union {Q : Value → Shared → Prop} {env : Env} {o a : PySem.Expr} {name : Str} {apos pos p : Pos} {f first fdx st cell ot : Addr} {es : List DictEntry} {nf n1 no : Nat} {os : List Oth} {vs : Array Value} {oc : Obj} {cv : Option Value}
    (X : (hd.heap_39 w.params).In g) (T : Top hd.view_39 loose mean mg mb g) (F : Fr g L s.heap m) (N : News g L s.heap news)
    (hfo : findObj (hd.heap_39 w.params) 145 (some (dictOf [] 0)) name = some (.bind (.builtin "function.__get__") (.ref f))) (htf : typeIn (hd.heap_39 w.params) (.ref f) = some (.type "function")) (hfn : fnIn (hd.heap_39 w.params) f = true) (hf : f = 100 ∨ f = 107)
    (hm : (first, immO fdx es nf) ∈ news) (hmd : (fdx, dictOf [] 0) ∈ news) (hot : (ot, listOf (os.map (·.v)).toArray no) ∈ news) (G : Good es) (lf : 2 < first) (hlen : os.length ≤ 63) (ho : ∀ o ∈ os, OthIn news o) (hroom : A.depth < 450) (hh : A.handled = none)
    (hst : (st, listOf vs n1) ∈ news) (hcell : (cell, oc) ∈ news) (hoc : oc.data = .cell cv)
    (eo : ∀ Q' : Value → Shared → Prop, Q' (.ref first) s → wpAny (model Challenge.rw_eu0031_01.row.prog w) A (eval o env) Q' E s)
    (ea : ∀ (s' : Shared) (Q' : Value → Shared → Prop), Fr g L s'.heap m → Q' (.ref ot) s' → wpAny (model Challenge.rw_eu0031_01.row.prog w) A (eval a env) Q' E s')
    (h : ∀ h' tk u udx nu, Fr g L h' m → News g L h' ((u, immO udx (uAll es os) nu) :: (udx, dictOf [] 0) :: news) → UId es os first u news → 2 < u → Good (uAll es os) → (@Ne Nat u st ∧ @Ne Nat udx st ∧ @Ne Nat u cell ∧ @Ne Nat udx cell) → Q (.ref u) { s with heap := h', toks := tk })
    (hb : attributeBase o name env (eval o env) = eval o env := by rfl) :
    wpAny (model Challenge.rw_eu0031_01.row.prog w) A (eval (.Call (.Attribute o name apos) [.Starred a p] [] pos) env) Q E s := by
  refine star_meth (eo _ ?_) hb
  refine led_bound X F N hm hmd hfo htf fun q h' F' N' lt => ?_
  have he : starEach [PySem.Expr.Starred a p] env = [(true, eval a env)] := by rfl
  rw [he]
  refine ks_call (P := MethP (hd.heap_39 w.params) q f (.ref first)) rfl (keeps_M hfn) (ks_lone (ea _ _ F' ?_))
  refine star_seq F' N' (.tail _ hot) rfl rfl (.inl rfl) (ws := os.map (·.v)) (by simp) (fit63 (by simpa using hlen)) fun h'' F'' N'' => ?_
  refine ⟨⟨(N'' _ (.head _)).1, X.keeps F''.keep⟩, ?_⟩
  refine led_meth X T F'' N'' (.head _) hf (.tail _ hm) (.tail _ hmd) G lf (fun o' q => (ho o' q).mono fun _ z => .tail _ z) hlen hroom hh (.tail _ hst) (.tail _ hcell) hoc fun h3 tk u udx nu F3 N3 U lu G2 ne => ?_
  exact h h3 tk u udx nu F3 (led_drop N3) ⟨U.same, U.one, fun q p hp => U.new q p (.tail _ hp)⟩ lu G2 ne
end
end Mine
end

section
open PySem PySem.W PyProof.Rows PySem.Calls
set_option maxRecDepth 100000
namespace Mine
/-- the state has grown: objects may have been made, none was changed -/
def Gro (s s' : Shared) : Prop := ∃ h' tk, s' = { s with heap := h', toks := tk } ∧ ∀ b o, s.heap.get? b = some o → h'.get? b = some o
theorem Gro.refl (s : Shared) : Gro s s := ⟨s.heap, s.toks, rfl, fun _ _ e => e⟩
theorem Gro.mk' {s : Shared} {h' : Heap} {tk : Nat} (k : ∀ b o, s.heap.get? b = some o → h'.get? b = some o) : Gro s { s with heap := h', toks := tk } := ⟨h', tk, rfl, k⟩
theorem Gro.trans {s s' s'' : Shared} (a : Gro s s') (b : Gro s' s'') : Gro s s'' := by
  obtain ⟨h', tk, rfl, k⟩ := a
  obtain ⟨h'', tk', rfl, k'⟩ := b
  exact ⟨h'', tk', rfl, fun b o e => k' b o (k b o e)⟩
theorem Gro.keep {s s' : Shared} (a : Gro s s') : ∀ b o, s.heap.get? b = some o → s'.heap.get? b = some o := by
  obtain ⟨h', tk, rfl, k⟩ := a
  exact k
theorem fi_items (p : Params) : findIn (hd.heap_39 p) (.ref 145) "items" = some (some (.builtin "dict.items")) := by kernel_rfl
theorem ti_items (p : Params) : typeIn (hd.heap_39 p) (.builtin "dict.items") = some (.type "method_descriptor") := by kernel_rfl
section
variable {prog : Program} {w : World} {A : Around} {E : Value → Shared → Prop} {s : Shared} {g : Heap} {L : Addr} {m : Str → Option Value} {news : List (Addr × Obj)} {env : Env}
theorem getm_items {a : Addr} {es : List DictEntry} {pl : Sem Bool} {Q : Value × List Value → Shared → Prop} (X : (hd.heap_39 w.params).In s.heap) (D : DArg s.heap a es) (h : Q (.builtin "dict.items", [.ref a]) s) :
    wpAny (model prog w) A (getMethod (.ref a) "items" pl) Q E s := by
  cases D with
  | dic e G l => exact getMethod_builtin ⟨_, e, rfl⟩ PySem.F.plainAttrs_dict PySem.F.slot_dict_items PySem.F.type_dict_items (fun b q => by cases q; exact ⟨_, e, rfl⟩) h
  | imm e e' G l => exact getMethod_imm X e e' (fi_items _) (ti_items _) (by decide +kernel) h

theorem list_items {pl : Sem Bool} {e1 : PySem.Expr} {pn ap p1 p2 : Pos} {es : List DictEntry} {Q : Value → Shared → Prop} (X : (hd.heap_39 w.params).In g) (F : Fr g L s.heap m) (hh : A.handled = none)
    (hn : ∀ (s' : Shared) (Q' : Value → Shared → Prop), Fr g L s'.heap m → Q' (.type "list") s' → wpAny (model prog w) A (eval (.Name "list" pn) env) Q' E s')
    (h1 : ∀ (s' : Shared) (Q' : Value → Shared → Prop), Gro s s' → (∀ s'' x, Gro s s'' → DArg s''.heap x es → Q' (.ref x) s'') → wpAny (model prog w) A (eval e1 env) Q' E s')
    (h : ∀ s' l c as, Gro s s' → s'.heap.get? l = some (listOf (as.map Value.ref).toArray c) → PairsAt s'.heap as es → Q (.ref l) s')
    (he : ∀ Q' s', wpAny (model prog w) A (eval e1 env) (fun v s₁ => wpAny (model prog w) A (getMethod v "items" pl) (fun fx s₂ => wpAny (model prog w) A (callWith p1 fx.1 fx.2 (backTo p1 (starEach [] env)) []) Q' E s₂) E s₁) E s' → wpAny (model prog w) A (eval (.Call (.Attribute e1 "items" ap) [] [] p1) env) Q' E s') :
    wpAny (model prog w) A (eval (.Call (.Name "list" pn) [.Call (.Attribute e1 "items" ap) [] [] p1] [] p2) env) Q E s := by
  refine Call_ (hn s _ F ?_)
  refine callWith_type1 (args_cons (he _ _ ?_))
  refine h1 s _ (Gro.refl s) fun s' x g1 D => ?_
  have X' := X.keeps fun b o e => g1.keep b o (F.keep b o e)
  refine getm_items X' D ?_
  refine callWith_method0 ?_
  refine items_call (DArg.dl (P := w.params) X' D) ?_
  refine args_nil ?_
  obtain ⟨ep, he⟩ := D.esAt
  have kp : ∀ b o, s'.heap.get? b = some o → (s'.heap.push (viewO x)).get? b = some o := fun b o e => Heap.get?_push_of_some _ e
  refine items_list hh (Heap.get?_push_size _ rfl) (he.keep (kp x)) D.good.len fun h' tk c as k el P => ?_
  exact h _ _ c as (g1.trans (Gro.mk' fun b o e => k b o (kp b o e))) el P

/-- both sides show the same rows: `list(a.items()) != list(b.items())` -/
theorem cmp_items {pl1 pl2 : Sem Bool} {e1 e2 : PySem.Expr} {pn ap p1 p2 qn aq q1 q2 : Pos} {es : List DictEntry} {op : CmpOp} {Q : Value → Shared → Prop} (X : (hd.heap_39 w.params).In g) (F : Fr g L s.heap m) (N : News g L s.heap news) (hh : A.handled = none) (hu : A.units + 64 < cLine)
    (hn : ∀ (pn : Pos) (s' : Shared) (Q' : Value → Shared → Prop), Fr g L s'.heap m → Q' (.type "list") s' → wpAny (model prog w) A (eval (.Name "list" pn) env) Q' E s')
    (h1 : ∀ (s' : Shared) (Q' : Value → Shared → Prop), Gro s s' → Fr g L s'.heap m → News g L s'.heap news → (∀ s'' x, Gro s s'' → DArg s''.heap x es → Q' (.ref x) s'') → wpAny (model prog w) A (eval e1 env) Q' E s')
    (h2 : ∀ (s' : Shared) (Q' : Value → Shared → Prop), Gro s s' → Fr g L s'.heap m → News g L s'.heap news → (∀ s'' x, Gro s' s'' → DArg s''.heap x es → Q' (.ref x) s'') → wpAny (model prog w) A (eval e2 env) Q' E s')
    (h : ∀ h' tk, Fr g L h' m → News g L h' news → Q (.bool (match op with | .NotEq => false | _ => true)) { s with heap := h', toks := tk })
    (hop : op = .NotEq ∨ op = .Eq) (G : Good es)
    (he1 : ∀ Q' s', wpAny (model prog w) A (eval e1 env) (fun v s₁ => wpAny (model prog w) A (getMethod v "items" pl1) (fun fx s₂ => wpAny (model prog w) A (callWith p1 fx.1 fx.2 (backTo p1 (starEach [] env)) []) Q' E s₂) E s₁) E s' → wpAny (model prog w) A (eval (.Call (.Attribute e1 "items" ap) [] [] p1) env) Q' E s')
    (he2 : ∀ Q' s', wpAny (model prog w) A (eval e2 env) (fun v s₁ => wpAny (model prog w) A (getMethod v "items" pl2) (fun fx s₂ => wpAny (model prog w) A (callWith q1 fx.1 fx.2 (backTo q1 (starEach [] env)) []) Q' E s₂) E s₁) E s' → wpAny (model prog w) A (eval (.Call (.Attribute e2 "items" aq) [] [] q1) env) Q' E s') :
    wpAny (model prog w) A (eval (.Call (.Name "list" pn) [.Call (.Attribute e1 "items" ap) [] [] p1] [] p2) env)
      (fun a s₁ => wpAny (model prog w) A (eval (.Call (.Name "list" qn) [.Call (.Attribute e2 "items" aq) [] [] q1] [] q2) env) (fun b s₂ => wpAny (model prog w) A (compareOp op a b) Q E s₂) E s₁) E s := by
  have Fk : ∀ {s' : Shared}, Gro s s' → Fr g L s'.heap m := fun gr => F.keeps gr.keep
  have Nk : ∀ {s' : Shared}, Gro s s' → News g L s'.heap news := fun gr p hp => ⟨gr.keep _ _ (N p hp).1, (N p hp).2⟩
  refine list_items X F hh (hn pn) (fun s' Q' gr q => h1 s' Q' gr (Fk gr) (Nk gr) q) (fun s1 l1 c1 as g1 el1 P1 => ?_) he1
  refine list_items (s := s1) X (Fk g1) hh (hn qn) (fun s' Q' gr q => h2 s' Q' (g1.trans gr) (Fk (g1.trans gr)) (Nk (g1.trans gr)) fun s'' x gr' D => q s'' x (gr.trans gr') D) (fun s2 l2 c2 bs g2 el2 P2 => ?_) he2
  have el1' := g2.keep _ _ el1
  have P1' := P1.keeps g2.keep
  have gr := g1.trans g2
  obtain ⟨h', tk, rfl, k⟩ := gr
  have fin := h h' tk (F.keeps k) (fun p hp => ⟨k _ _ (N p hp).1, (N p hp).2⟩)
  rcases hop with rfl | rfl
  · exact items_ne el1' P1' el2 P2 G hu fin
  · exact items_eq el1' P1' el2 P2 G hu fin

theorem eval_joined {A : Around} {env : Env} {mg mb : Str → Option Value} {loose : List Str} {mean : ExcName → Option Value} {e1 e2 : PySem.Expr} {pn p : Pos} {d₁ d₂ : Addr} {es₁ es₂ : List DictEntry} {Q : Value → Shared → Prop} (X : (hd.heap_39 w.params).In g) (T : Top hd.view_39 loose mean mg mb g) (F : Fr g L s.heap m)
    (D₁ : DArg s.heap d₁ es₁) (D₂ : DArg s.heap d₂ es₂) (hroom : A.depth < 460)
    (hn : ∀ Q' : Value → Shared → Prop, Q' (.ref 168) s → wpAny (model Challenge.rw_eu0031_01.row.prog w) A (eval (.Name "_law_joined" pn) env) Q' E s)
    (h1 : ∀ Q' : Value → Shared → Prop, Q' (.ref d₁) s → wpAny (model Challenge.rw_eu0031_01.row.prog w) A (eval e1 env) Q' E s) (h2 : ∀ Q' : Value → Shared → Prop, Q' (.ref d₂) s → wpAny (model Challenge.rw_eu0031_01.row.prog w) A (eval e2 env) Q' E s)
    (h : ∀ s' d, Gro s s' → DArg s'.heap d (mrg es₁ es₂) → Q (.ref d) s')
    (he1 : starEach [e1, e2] env = (false, eval e1 env) :: starEach [e2] env := by rfl) (he2 : starEach [e2] env = (false, eval e2 env) :: starEach [] env := by rfl) :
    wpAny (model Challenge.rw_eu0031_01.row.prog w) A (eval (.Call (.Name "_law_joined" pn) [e1, e2] [] p) env) Q E s := by
  refine Call_ (hn _ ?_)
  refine callWith_K (K := hd.heap_39 w.params) (first := []) X (by rfl) (args_cons (h1 _ (args_cons (h2 _ (args_nil ?_)) he2)) he1) he1 (by rw [he2]; rfl)
  refine ⟨X.keeps F.keep, ?_⟩
  refine raw_joined X T F.keep D₁ D₂ hroom fun h' tk d n k e l => ?_
  exact h _ d (Gro.mk' k) (.dic e (D₁.good.mrg D₂.good) (low_at X F l))
end
end Mine
end

section
open PySem PySem.W PyProof.Rows PySem.Calls
set_option maxRecDepth 100000
namespace Mine
section
variable {prog : Program} {w : World} {A : Around} {E : Value → Shared → Prop} {s : Shared} {a b : Addr} {vs : List Value} {es : List DictEntry} {n n2 : Nat} {Q : Value → Shared → Prop}
theorem eq_nilL (hl : s.heap.get? a = some (listOf vs.toArray n)) (hb : s.heap.get? b = some (listOf #[] n2)) (hu : A.units + 64 < cLine) (h : Q (.bool vs.isEmpty) s) : wpAny (model prog w) A (compareOp .Eq (.ref a) (.ref b)) Q E s := by
  cases vs with
  | nil => exact ke_eq_ints (xs := []) (ys := []) (ns := []) (ms := []) ⟨_, hl, rfl, _, rfl⟩ ⟨_, hb, rfl, _, rfl⟩ .nil .nil hu h
  | cons v vs => exact P.eq_list_lengths hl hb (by simp) (by omega) h
theorem ne_nilL (hl : s.heap.get? a = some (listOf vs.toArray n)) (hb : s.heap.get? b = some (listOf #[] n2)) (hu : A.units + 64 < cLine) (h : Q (.bool (!vs.isEmpty)) s) : wpAny (model prog w) A (compareOp .NotEq (.ref a) (.ref b)) Q E s := by
  cases vs with
  | nil => exact ke_ne_ints (xs := []) (ys := []) (ns := []) (ms := []) ⟨_, hl, rfl, _, rfl⟩ ⟨_, hb, rfl, _, rfl⟩ .nil .nil hu h
  | cons v vs =>
    exact richCompare_meets_room (op := .NotEq) ⟨_, hl, rfl⟩ ⟨_, hb, rfl⟩ PySem.F.slot_list_ne PySem.F.entry_list_ne (PySem.F.args_list_ne_2 _ _) (SeqAt.list_ne_lengthsAt a b _ _ n n2 _ _ _ _ (by simp))
      ⟨hl, hb, show Value.bool true ≠ Value.notImplemented ∧ Q (.bool true) s from ⟨(fun x => nomatch x), h⟩⟩ (by omega)
theorem same_nilD {nm : String} {Q : Bool → Shared → Prop} (la : 2 < a) (lb : 2 < b) (ha : s.heap.get? a = some (dictOf es n)) (hb : s.heap.get? b = some (dictOf [] n2)) (h : Q es.isEmpty s) : wpAny (model prog w) A (Builtin.Dict.samePairs nm a b) Q E s := by
  unfold Builtin.Dict.samePairs Builtin.Dict.showsAll
  rw [if_neg (show ¬ (a == sysModules) = true by rw [low_ne la]; exact Bool.false_ne_true), if_neg (show ¬ (b == sysModules) = true by rw [low_ne lb]; exact Bool.false_ne_true)]
  refine wpAny_bind (wpAny_pure (wpAny_bind (wpAny_pure ?_)))
  refine wpAny_bind (wpAny_dictEntries ha rfl ?_)
  dsimp only
  refine wpAny_bind (wpAny_dictEntries hb rfl ?_)
  cases es with
  | cons e es =>
    rw [if_pos (by simp)]
    exact wpAny_bind (wpAny_rule (wpAny_pure h))
  | nil =>
    rw [if_neg (by simp)]
    refine wpAny_bind (wpAny_dictEpoch ha rfl ?_)
    refine wpAny_bind ?_
    rw [Std.Legacy.Range.forIn_eq_forIn_range']
    simp only [Std.Legacy.Range.size, Nat.sub_zero, Nat.add_sub_cancel, Nat.div_one]
    refine wpAny_forIn_list _ (fun rest q s' => s' = s ∧ q = (none, ()) ∧ rest = []) _ ?_ ?_ _ _ ⟨rfl, rfl, by simp⟩
    · rintro x rest q s' ⟨_, _, hr⟩
      cases hr
    · rintro q s' ⟨rfl, rfl, _⟩
      exact wpAny_pure h
theorem eq_nilD (la : 2 < a) (lb : 2 < b) (ha : s.heap.get? a = some (dictOf es n)) (hb : s.heap.get? b = some (dictOf [] n2)) (hu : A.units + 64 < cLine) (h : Q (.bool es.isEmpty) s) : wpAny (model prog w) A (compareOp .Eq (.ref a) (.ref b)) Q E s := by
  have ta : s.TypeIs (.ref a) "dict" := ⟨_, ha, rfl⟩
  have tb : s.TypeIs (.ref b) "dict" := ⟨_, hb, rfl⟩
  refine wpAny_richCompare_same_room (op := .Eq) ta tb PySem.F.slot_dict_eq (wpAny_call_entry PySem.F.slot_dict_eq ta PySem.F.entry_dict_eq ?_ (PySem.F.args_dict_eq_2 _ _)) (by omega)
  show wpAny _ _ (Builtin.Dict.dictSlotArgs "__eq__" ⟨[.ref a, .ref b], []⟩ >>= _) _ _ s
  refine wpAny_bind ?_
  unfold Builtin.Dict.dictSlotArgs
  refine wpAny_bind (wpAny_notOrdered_dict ta ?_)
  show wpAny _ _ (pure (Value.ref a, Value.ref b)) _ _ s
  refine wpAny_pure ?_
  refine wpAny_bind (wpAny_isInstance (T := "dict") tb PySem.F.sub_dict_dict ?_)
  simp only [Bool.not_true, Bool.false_eq_true, if_false]
  refine wpAny_bind (wpAny_pure (wpAny_bind (wpAny_pure ?_)))
  refine wpAny_bind (same_nilD la lb ha hb ?_)
  refine wpAny_pure ⟨_, rfl, ?_, ?_⟩
  · exact fun x => nomatch x
  · simpa using h
theorem ne_nilD (la : 2 < a) (lb : 2 < b) (ha : s.heap.get? a = some (dictOf es n)) (hb : s.heap.get? b = some (dictOf [] n2)) (hu : A.units + 64 < cLine) (h : Q (.bool (!es.isEmpty)) s) : wpAny (model prog w) A (compareOp .NotEq (.ref a) (.ref b)) Q E s := by
  have ta : s.TypeIs (.ref a) "dict" := ⟨_, ha, rfl⟩
  have tb : s.TypeIs (.ref b) "dict" := ⟨_, hb, rfl⟩
  refine wpAny_richCompare_same_room (op := .NotEq) ta tb PySem.F.slot_dict_ne (wpAny_call_entry PySem.F.slot_dict_ne ta PySem.F.entry_dict_ne ?_ (PySem.F.args_dict_ne_2 _ _)) (by omega)
  show wpAny _ _ (Builtin.Dict.dictSlotArgs "__ne__" ⟨[.ref a, .ref b], []⟩ >>= _) _ _ s
  refine wpAny_bind ?_
  unfold Builtin.Dict.dictSlotArgs
  refine wpAny_bind (wpAny_notOrdered_dict ta ?_)
  show wpAny _ _ (pure (Value.ref a, Value.ref b)) _ _ s
  refine wpAny_pure ?_
  refine wpAny_bind (wpAny_isInstance (T := "dict") tb PySem.F.sub_dict_dict ?_)
  simp only [Bool.not_true, Bool.false_eq_true, if_false]
  refine wpAny_bind (wpAny_pure (wpAny_bind (wpAny_pure ?_)))
  refine wpAny_bind (same_nilD la lb ha hb ?_)
  refine wpAny_pure ⟨_, rfl, ?_, ?_⟩
  · exact fun x => nomatch x
  · simpa using h
end
end Mine
end

section
open PySem PySem.W PyProof.Rows PySem.Calls
set_option maxRecDepth 100000
namespace Mine
section
variable {w : World} {A : Around} {E : Value → Shared → Prop} {s : Shared} {g : Heap} {L : Addr} {m : Str → Option Value} {news : List (Addr × Obj)}
theorem led_or {prog : Program} {Q : Value → Shared → Prop} {l r : Addr} {el er : List DictEntry} (X : (hd.heap_39 w.params).In g) (hl : g.NoLimit) (F : Fr g L s.heap m) (N : News g L s.heap news) (Dl : DArg s.heap l el) (Dr : DArg s.heap r er)
    (h : ∀ h' tk d n, Fr g L h' m → News g L h' ((d, dictOf (mrg el er) n) :: news) → (∀ p ∈ news, p.1 < d) → 2 < d → Good (mrg el er) → Q (.ref d) { s with heap := h', toks := tk }) :
    wpAny (model prog w) A (call (.builtin "dict.__or__") [.ref l, .ref r]) Q E s := by
  refine or_call (X.keeps F.keep) (hl.keeps F.keep) Dl Dr fun h' tk n k e => ?_
  obtain ⟨F', N'⟩ := led_grow (more := [(s.heap.objs.size, dictOf (mrg el er) n)]) F N k (by
    intro p hp
    obtain rfl := List.mem_singleton.mp hp
    exact ⟨e, Nat.le_refl _⟩)
  exact h h' tk _ n F' N' (above_lt N (Nat.le_refl _)) (low_at X F (Nat.le_refl _)) (Dl.good.mrg Dr.good)
theorem led_ror {prog : Program} {Q : Value → Shared → Prop} {l r : Addr} {el er : List DictEntry} (X : (hd.heap_39 w.params).In g) (hl : g.NoLimit) (F : Fr g L s.heap m) (N : News g L s.heap news) (Dl : DArg s.heap l el) (Dr : DArg s.heap r er)
    (h : ∀ h' tk d n, Fr g L h' m → News g L h' ((d, dictOf (mrg el er) n) :: news) → (∀ p ∈ news, p.1 < d) → 2 < d → Good (mrg el er) → Q (.ref d) { s with heap := h', toks := tk }) :
    wpAny (model prog w) A (call (.builtin "dict.__ror__") [.ref r, .ref l]) Q E s := by
  refine ror_call (X.keeps F.keep) (hl.keeps F.keep) Dl Dr fun h' tk n k e => ?_
  obtain ⟨F', N'⟩ := led_grow (more := [(s.heap.objs.size, dictOf (mrg el er) n)]) F N k (by
    intro p hp
    obtain rfl := List.mem_singleton.mp hp
    exact ⟨e, Nat.le_refl _⟩)
  exact h h' tk _ n F' N' (above_lt N (Nat.le_refl _)) (low_at X F (Nat.le_refl _)) (Dl.good.mrg Dr.good)
end
local macro_rules | `(tactic| walk_at "getMethod type:dict") => `(tactic| (k_here; (with_reducible show wpAny _ _ (getMethod _ (PySem.Str.ofString "__or__") _) _ _ _); (with_reducible refine' getm_or ?X ?_); (case X => first | with_reducible assumption | exact Frag.In.keeps (by with_reducible assumption) (Fr.keep (by with_reducible assumption))); k_whole))
local macro_rules | `(tactic| walk_at "getMethod type:dict") => `(tactic| (k_here; (with_reducible show wpAny _ _ (getMethod _ (PySem.Str.ofString "__ror__") _) _ _ _); (with_reducible refine' getm_ror ?X ?_); (case X => first | with_reducible assumption | exact Frag.In.keeps (by with_reducible assumption) (Fr.keep (by with_reducible assumption))); k_whole))
local macro_rules | `(tactic| walk_at "call builtin:dict.__or__") => `(tactic| (k_here; k_dflt (refine' led_or ?k1 ?k2 ?k3 ?k4 ?k5 ?k6 ?_; (case k1 => k_asm); (case k2 => exact Top.nolimit (by k_asm)); (case k3 => k_asm); (case k4 => k_asm); (case k5 => exact DArg.keeps (by assumption) (Fr.keep (by k_asm))); (case k6 => exact DArg.keeps (by assumption) (Fr.keep (by k_asm))); k_whole); intro h' tk' d' n' F' N' l1 l2 l3; (try k_lt l1); (try k_sweep)))
local macro_rules | `(tactic| walk_at "call builtin:dict.__ror__") => `(tactic| (k_here; k_dflt (refine' led_ror ?k1 ?k2 ?k3 ?k4 ?k5 ?k6 ?_; (case k1 => k_asm); (case k2 => exact Top.nolimit (by k_asm)); (case k3 => k_asm); (case k4 => k_asm); (case k5 => exact DArg.keeps (by assumption) (Fr.keep (by k_asm))); (case k6 => exact DArg.keeps (by assumption) (Fr.keep (by k_asm))); k_whole); intro h' tk' d' n' F' N' l1 l2 l3; (try k_lt l1); (try k_sweep)))
local macro_rules | `(tactic| walk_at "call ref") => `(tactic| (k_here; (with_reducible show wpAny _ _ (call (Value.ref 145) [Value.ref _]) _ _ _); k_dflt (refine' led_imm_of ?X ?T ?F ?N ?D ?_; (case X => k_asm); (case T => exact Top.nolimit (by k_asm)); (case F => k_asm); (case N => k_asm); (case D => exact DArg.dic (News.get (by k_asm) (by k_mem)) (by assumption) (by assumption)); k_whole); intro h' tk' x' dx' n' F' N' l1 l2 l3 l4; (try k_lt l1); (try k_lt l2); (try k_sweep)))
set_option maxHeartbeats 4000000 in
theorem raw_or {w : World} {A : Around} {s : Shared} {h₀ : Heap} {mg mb : Str → Option Value} {loose : List Str} {mean : ExcName → Option Value} {E : Value → Shared → Prop} {Q : Value → Shared → Prop}
   (X : (hd.heap_39 w.params).In h₀) (T : Top hd.view_39 loose mean mg mb h₀) (keep : ∀ b o, h₀.get? b = some o → s.heap.get? b = some o)
   {l r : Addr} {el er : List DictEntry} (Dl : DArg s.heap l el) (Dr : DArg s.heap r er) (hroom : A.depth < 460)
   (h : ∀ h' tk x dx n, (∀ b o, s.heap.get? b = some o → h'.get? b = some o) → h'.get? x = some (immO dx (mrg el er) n) → h'.get? dx = some (dictOf [] 0) → s.heap.get? x = none → s.heap.get? dx = none → 2 < x → Q (.ref x) { s with heap := h', toks := tk }) :
   wpAny (model Challenge.rw_eu0031_01.row.prog w) A (call (.ref 135) [.ref l, .ref r]) Q E s := by
  w_top off
  revert X; k_fill; intro X
  have X1 := X.keeps keep
  have T1 := T.keeps keep
  refine wpAny_call (code_raw [] [] rfl (by simp) T1.nolimit (X1 135 _ (by k_is)) rfl (codeRec_of X1 (by k_is)) (Nat.lt_trans hroom (by decide)) (BindsTo.of_eq rfl) (locs rfl) (by decide) (fun h₁ F N => ?_))
  dsimp only
  (with_reducible show wpAny _ _ _ _ _ _)
  k_fold
  change Fr s.heap _ _ _ at F
  change News s.heap _ _ _ at N
  k_steps
  with_reducible rename Fr _ _ _ _ => kF
  with_reducible rename News _ _ _ _ => kN
  exact h _ _ _ _ _ kF.keep (kN.get (.head _)) (kN.get (.tail _ (.head _))) (kN _ (.head _)).2.2 (kN _ (.tail _ (.head _))).2.2 (by assumption)
set_option maxHeartbeats 4000000 in
theorem raw_ror {w : World} {A : Around} {s : Shared} {h₀ : Heap} {mg mb : Str → Option Value} {loose : List Str} {mean : ExcName → Option Value} {E : Value → Shared → Prop} {Q : Value → Shared → Prop}
   (X : (hd.heap_39 w.params).In h₀) (T : Top hd.view_39 loose mean mg mb h₀) (keep : ∀ b o, h₀.get? b = some o → s.heap.get? b = some o)
   {l r : Addr} {el er : List DictEntry} (Dl : DArg s.heap l el) (Dr : DArg s.heap r er) (hroom : A.depth < 460)
   (h : ∀ h' tk x dx n, (∀ b o, s.heap.get? b = some o → h'.get? b = some o) → h'.get? x = some (immO dx (mrg el er) n) → h'.get? dx = some (dictOf [] 0) → s.heap.get? x = none → s.heap.get? dx = none → 2 < x → Q (.ref x) { s with heap := h', toks := tk }) :
   wpAny (model Challenge.rw_eu0031_01.row.prog w) A (call (.ref 142) [.ref r, .ref l]) Q E s := by
  w_top off
  revert X; k_fill; intro X
  have X1 := X.keeps keep
  have T1 := T.keeps keep
  refine wpAny_call (code_raw [] [] rfl (by simp) T1.nolimit (X1 142 _ (by k_is)) rfl (codeRec_of X1 (by k_is)) (Nat.lt_trans hroom (by decide)) (BindsTo.of_eq rfl) (locs rfl) (by decide) (fun h₁ F N => ?_))
  dsimp only
  (with_reducible show wpAny _ _ _ _ _ _)
  k_fold
  change Fr s.heap _ _ _ at F
  change News s.heap _ _ _ at N
  k_steps
  with_reducible rename Fr _ _ _ _ => kF
  with_reducible rename News _ _ _ _ => kN
  exact h _ _ _ _ _ kF.keep (kN.get (.head _)) (kN.get (.tail _ (.head _))) (kN _ (.head _)).2.2 (kN _ (.tail _ (.head _))).2.2 (by assumption)
end Mine
end

section
open PySem PySem.W PyProof.Rows PySem.Calls
set_option maxRecDepth 100000
namespace Mine
section
variable {M : Model} {h : Heap}
theorem q_fill (X : (hd.heap_39 M.w.params).In h) : Looks M h (fillsNumberSlot (.ref 145) "or") true := Looks.of_peek X (by kernel_rfl)
theorem q_fillD (X : (hd.heap_39 M.w.params).In h) : Looks M h (fillsNumberSlot (.type "dict") "or") true := Looks.of_peek X (by kernel_rfl)
theorem q_sub (X : (hd.heap_39 M.w.params).In h) : Looks M h (isSubtype (.type "dict") (.ref 145)) false := Looks.of_peek X (by kernel_rfl)
theorem q_sub2 (X : (hd.heap_39 M.w.params).In h) : Looks M h (isSubtype (.ref 145) (.type "dict")) true := Looks.of_peek X (by kernel_rfl)
theorem q_inPy (X : (hd.heap_39 M.w.params).In h) : Looks M h (numberSlotInPython (.ref 145) "or") true := Looks.of_peek X (by kernel_rfl)
theorem q_inPyD (X : (hd.heap_39 M.w.params).In h) : Looks M h (numberSlotInPython (.type "dict") "or") false := Looks.of_peek X (by kernel_rfl)
theorem q_ror (X : (hd.heap_39 M.w.params).In h) : Looks M h (typeLookup (.type "dict") (dunderR "or")) (some (.builtin "dict.__ror__")) := Looks.of_peek X (by kernel_rfl)
theorem q_refl (X : (hd.heap_39 M.w.params).In h) : Looks M h (reflectedDiffers (.type "dict") (.ref 145) "or") true := Looks.of_peek X (by kernel_rfl)
end
theorem fi_or (p : Params) : findIn (hd.heap_39 p) (.ref 145) (PySem.dunder "or") = some (some (.ref 135)) := by kernel_rfl
theorem fi_ror (p : Params) : findIn (hd.heap_39 p) (.ref 145) (dunderR "or") = some (some (.ref 142)) := by kernel_rfl
theorem fn_or (p : Params) : isFn (hd.heap_39 p) (.ref 135) = true := by kernel_rfl
theorem fn_ror (p : Params) : isFn (hd.heap_39 p) (.ref 142) = true := by kernel_rfl
section
variable {w : World} {A : Around} {E : Value → Shared → Prop} {s : Shared} {g : Heap} {mg mb : Str → Option Value} {loose : List Str} {mean : ExcName → Option Value} {Q : Value → Shared → Prop}
theorem bitor_left {l dl r : Addr} {el er : List DictEntry} {nl : Nat} (X : (hd.heap_39 w.params).In g) (T : Top hd.view_39 loose mean mg mb g) (keep : ∀ b o, g.get? b = some o → s.heap.get? b = some o)
    (hl : s.heap.get? l = some (immO dl el nl)) (hdl : s.heap.get? dl = some (dictOf [] 0)) (Gl : Good el) (ll : 2 < l) (Dr : DArg s.heap r er) (hroom : A.depth < 460)
    (h : ∀ h' tk x dx n, (∀ b o, s.heap.get? b = some o → h'.get? b = some o) → h'.get? x = some (immO dx (mrg el er) n) → h'.get? dx = some (dictOf [] 0) → s.heap.get? x = none → s.heap.get? dx = none → 2 < x → Q (.ref x) { s with heap := h', toks := tk }) :
    wpAny (model Challenge.rw_eu0031_01.row.prog w) A (binaryOp .BitOr (.ref l) (.ref r)) Q E s := by
  have one := ksp_try (M := model Challenge.rw_eu0031_01.row.prog w) (A := A) (E := E) (b := .ref r) (Q := Q) (X.keeps keep) (imm_inst hl hdl) (fi_or _) (by exact beq_iff_eq.mp (beq_iff_eq.mpr (fn_or _))) (raw_or X T keep (.imm hl hdl Gl ll) Dr hroom h)
  have X' := X.keeps keep
  have Lb : ∃ T, Looks (model Challenge.rw_eu0031_01.row.prog w) s.heap (typeOf (.ref r)) T ∧ (T = .type "dict" ∨ T = .ref 145) := (DArg.dl (P := w.params) X' Dr).ty
  obtain ⟨hh, gg, d, tt, os⟩ := s
  have L1 : Looks (model Challenge.rw_eu0031_01.row.prog w) hh (typeOf (.ref l)) (.ref 145) := looks_type hl
  obtain ⟨T', L2, hT⟩ := Lb
  have L3 := q_fill (M := model Challenge.rw_eu0031_01.row.prog w) X'
  have L4 := q_fillD (M := model Challenge.rw_eu0031_01.row.prog w) X'
  have L5 := q_sub (M := model Challenge.rw_eu0031_01.row.prog w) X'
  have L6 := q_inPy (M := model Challenge.rw_eu0031_01.row.prog w) X'
  have L7 := q_inPyD (M := model Challenge.rw_eu0031_01.row.prog w) X'
  have L8 := q_ror (M := model Challenge.rw_eu0031_01.row.prog w) X'
  simp only [binaryOp, Operator.info]
  refine wpAny_holding (wpAny_bind ?_)
  unfold binaryOp1
  refine wpAny_bind (L1.at (wpAny_bind (L2.at (wpAny_bind (L3.at ?_)))))
  rcases hT with rfl | rfl
  · have hne : (Value.ref 145 == Value.type "dict") = false := by decide
    simp only [hne, Bool.false_eq_true, if_false]
    ksp_lk
    refine wpAny_mono one (fun r s' hr' => ?_) fun _ _ e => e
    obtain ⟨v, rfl, hq⟩ := hr'
    ksp_lk
    exact hq
  · have hne : (Value.ref 145 == Value.ref 145) = true := by decide
    simp only [hne, if_true]
    ksp_lk
    refine wpAny_mono one (fun r s' hr' => ?_) fun _ _ e => e
    obtain ⟨v, rfl, hq⟩ := hr'
    ksp_lk
    exact hq
theorem bitor_right {l r dr : Addr} {el er : List DictEntry} {nl nr : Nat} (X : (hd.heap_39 w.params).In g) (T : Top hd.view_39 loose mean mg mb g) (keep : ∀ b o, g.get? b = some o → s.heap.get? b = some o)
    (hl : s.heap.get? l = some (dictOf el nl)) (Gl : Good el) (ll : 2 < l) (hr : s.heap.get? r = some (immO dr er nr)) (hdr : s.heap.get? dr = some (dictOf [] 0)) (Gr : Good er) (lr : 2 < r) (hroom : A.depth < 460)
    (h : ∀ h' tk x dx n, (∀ b o, s.heap.get? b = some o → h'.get? b = some o) → h'.get? x = some (immO dx (mrg el er) n) → h'.get? dx = some (dictOf [] 0) → s.heap.get? x = none → s.heap.get? dx = none → 2 < x → Q (.ref x) { s with heap := h', toks := tk }) :
    wpAny (model Challenge.rw_eu0031_01.row.prog w) A (binaryOp .BitOr (.ref l) (.ref r)) Q E s := by
  have one := ksp_try (M := model Challenge.rw_eu0031_01.row.prog w) (A := A) (E := E) (b := .ref l) (Q := Q) (X.keeps keep) (imm_inst hr hdr) (fi_ror _) (by exact beq_iff_eq.mp (beq_iff_eq.mpr (fn_ror _))) (raw_ror X T keep (.dic hl Gl ll) (.imm hr hdr Gr lr) hroom h)
  have X' := X.keeps keep
  obtain ⟨hh, gg, d, tt, os⟩ := s
  have L1 : Looks (model Challenge.rw_eu0031_01.row.prog w) hh (typeOf (.ref l)) (.type "dict") := looks_type hl
  have L2 : Looks (model Challenge.rw_eu0031_01.row.prog w) hh (typeOf (.ref r)) (.ref 145) := looks_type hr
  have L3 := q_fill (M := model Challenge.rw_eu0031_01.row.prog w) X'
  have L4 := q_fillD (M := model Challenge.rw_eu0031_01.row.prog w) X'
  have L5 := q_sub2 (M := model Challenge.rw_eu0031_01.row.prog w) X'
  have L6 := q_refl (M := model Challenge.rw_eu0031_01.row.prog w) X'
  simp only [binaryOp, Operator.info]
  refine wpAny_holding (wpAny_bind ?_)
  unfold binaryOp1
  refine wpAny_bind (L1.at (wpAny_bind (L2.at (wpAny_bind (L4.at ?_)))))
  have hne : (Value.type "dict" == Value.ref 145) = false := by decide
  simp only [hne, Bool.false_eq_true, if_false]
  ksp_lk
  refine wpAny_mono one (fun r s' hr' => ?_) fun _ _ e => e
  obtain ⟨v, rfl, hq⟩ := hr'
  ksp_lk
  exact hq
end
end Mine
end

section
open PySem PySem.W PyProof.Rows PySem.Calls
set_option maxRecDepth 100000
namespace Mine
theorem allObj_of : ∀ {ws : List (Addr × String)} {kk : List (Addr × Obj) → Prop}, (∀ its, Objs ws its → kk its) → AllObj ws kk
  | [], k, h => h [] trivial
  | w :: r, k, h => fun o ho => allObj_of (ws := r) (kk := fun its => k ((w.1, o) :: its)) fun its hi => h ((w.1, o) :: its) ⟨⟨rfl, ho⟩, hi⟩
section
variable {prog : Program} {w : World} {A : Around} {E : Value → Shared → Prop} {s : Shared} {env : Env} {h₀ : Heap} {body : List Stmt} {Q : Flow → Shared → Prop}
theorem rest_pairs {target : PySem.Expr} {ws : List (Addr × String)} {keep news : List (Addr × Obj)} {m₀ : Str → Option Value} (ks : List Str) (hk : SubL keep news) (hd : ∀ its, Objs ws its → ∀ p ∈ news, ∀ q ∈ its, p.1 ≠ q.1)
    (fin : ∀ m h tk, (∀ z, z ∉ ks → m z = m₀ z) → Fr h₀ env.locals h m → News h₀ env.locals h news → Q .next { s with heap := h, toks := tk }) :
    ∀ (xs ys : List Value) (m : Str → Option Value)
    (_ : ∀ x y (i : Nat), xs[i]? = some x → ys[i]? = some y → ∀ T h tk m its (R : Flow → Shared → Prop), IsTup h T #[x, y] → (∀ z, z ∉ ks → m z = m₀ z) → Fr h₀ env.locals h m → Objs ws its → News h₀ env.locals h (its ++ news) →
      (∀ m' h' tk', Fr h₀ env.locals h' m' → News h₀ env.locals h' (its ++ news) → (∀ z, z ∉ ks → m' z = m₀ z) → R .next { s with heap := h', toks := tk' }) →
      wpAny (model prog w) A (assign target env (.ref T)) (fun _ s₂ => wpAny (model prog w) A (execs body env) R E s₂) E { s with heap := h, toks := tk }),
    (∀ z, z ∉ ks → m z = m₀ z) → ItemsRest prog w A E h₀ env target body Q s ws keep (zipItems xs ys) m news := by
  intro xs
  induction xs with
  | nil =>
    intro ys m _ hm
    exact ItemsRest.zero fun h tk F N => fin m h tk hm F N
  | cons x xs ih =>
    intro ys m turn hm
    cases ys with
    | nil => exact ItemsRest.zero fun h tk F N => fin m h tk hm F N
    | cons y ys =>
      refine ItemsRest.pair fun T t h tk ht F => allObj_of fun its hi N => ?_
      refine turn x y 0 rfl rfl T h tk m its _ ht hm F hi N fun m' h' tk' F' N' hm' => ?_
      exact ⟨h', tk', m', news, rfl, F', N', hd its hi, hk, ih ys m' (fun x' y' i hx hy => turn x' y' (i + 1) (by simpa using hx) (by simpa using hy)) hm'⟩

theorem objs_five {I : Nat} {its : List (Addr × Obj)} {c1 c2 c3 c4 c5 : String} (h : Objs [((I + 4 : Nat), c1), ((I + 2 : Nat), c2), ((I + 3 : Nat), c3), (I, c4), ((I + 1 : Nat), c5)] its) :
    ∃ o1 o2 o3 o4 o5 : Obj, its = [((I + 4 : Nat), o1), ((I + 2 : Nat), o2), ((I + 3 : Nat), o3), (I, o4), ((I + 1 : Nat), o5)] := by
  have e := h.map
  obtain ⟨x1, r1, rfl, e1, e⟩ := List.map_eq_cons_iff.mp e
  obtain ⟨x2, r2, rfl, e2, e⟩ := List.map_eq_cons_iff.mp e
  obtain ⟨x3, r3, rfl, e3, e⟩ := List.map_eq_cons_iff.mp e
  obtain ⟨x4, r4, rfl, e4, e⟩ := List.map_eq_cons_iff.mp e
  obtain ⟨x5, r5, rfl, e5, e⟩ := List.map_eq_cons_iff.mp e
  obtain rfl := List.map_eq_nil_iff.mp e
  obtain ⟨a1, o1⟩ := x1
  obtain ⟨a2, o2⟩ := x2
  obtain ⟨a3, o3⟩ := x3
  obtain ⟨a4, o4⟩ := x4
  obtain ⟨a5, o5⟩ := x5
  dsimp only at e1 e2 e3 e4 e5
  subst e1 e2 e3 e4 e5
  exact ⟨o1, o2, o3, o4, o5, rfl⟩

theorem zip_loop {elts : List PySem.Expr} {k : Nat} {pos : Pos} {l1 l2 : Addr} {xs ys : List Value} {n1 n2 : Nat} {m₀ : Str → Option Value} {news : List (Addr × Obj)} (ks : List Str)
    (hh : A.handled = none) (F : Fr h₀ env.locals s.heap m₀) (N : News h₀ env.locals s.heap news) (hm1 : (l1, listOf xs.toArray n1) ∈ news) (hm2 : (l2, listOf ys.toArray n2) ∈ news)
    (turn : ∀ (I : Nat) x y (i : Nat), xs[i]? = some x → ys[i]? = some y → ∀ T h tk m o1 o2 o3 o4 o5 (R : Flow → Shared → Prop), IsTup h T #[x, y] → (∀ z, z ∉ ks → m z = m₀ z) → Fr h₀ env.locals h m →
      News h₀ env.locals h (((I + 4 : Nat), o1) :: ((I + 2 : Nat), o2) :: ((I + 3 : Nat), o3) :: (I, o4) :: ((I + 1 : Nat), o5) :: news) →
      (∀ m' h' tk', Fr h₀ env.locals h' m' → News h₀ env.locals h' (((I + 4 : Nat), o1) :: ((I + 2 : Nat), o2) :: ((I + 3 : Nat), o3) :: (I, o4) :: ((I + 1 : Nat), o5) :: news) → (∀ z, z ∉ ks → m' z = m₀ z) → R .next { s with heap := h', toks := tk' }) →
      wpAny (model prog w) A (assign (.Tuple elts k pos) env (.ref T)) (fun _ s₂ => wpAny (model prog w) A (execs body env) R E s₂) E { s with heap := h, toks := tk })
    (fin : ∀ m h tk, (∀ z, z ∉ ks → m z = m₀ z) → Fr h₀ env.locals h m → News h₀ env.locals h news → Q .next { s with heap := h, toks := tk }) :
    wpAny (model prog w) A (call (.type "zip") [.ref l1, .ref l2]) (fun xv s₁ => wpAny (model prog w) A (pyIter xv) (fun it s₂ => TurnsAt prog w A h₀ env (.Tuple elts k pos) body Q E it s₂) E s₁) E s := by
  refine ktu_zip hh F N hm1 rfl rfl hm2 rfl rfl fun I hI => ?_
  refine rest_pairs ks (show SubL [(l1, listOf xs.toArray n1), (l2, listOf ys.toArray n2)] news from And.intro hm1 (And.intro hm2 trivial)) (fun its hi p hp q hq => ?_) fin xs ys m₀ (fun x y i hx hy T h tk m its R ht hm F' hi N' END => ?_) fun _ _ => rfl
  · obtain ⟨o1, o2, o3, o4, o5, rfl⟩ := objs_five hi
    have hl := hI p hp
    have hI' : ∀ j : Nat, @Ne Nat p.1 (I + j) := fun j => Nat.ne_of_lt (Nat.lt_of_lt_of_le hl (Nat.le_add_right _ _))
    simp only [List.mem_cons, List.not_mem_nil, or_false] at hq
    rcases hq with rfl | rfl | rfl | rfl | rfl
    · exact hI' 4
    · exact hI' 2
    · exact hI' 3
    · exact hI' 0
    · exact hI' 1
  · obtain ⟨o1, o2, o3, o4, o5, rfl⟩ := objs_five hi
    exact turn I x y i hx hy T h tk m o1 o2 o3 o4 o5 R ht hm F' N' END
end
end Mine
end

section
open PySem PySem.W PyProof.Rows PySem.Calls
set_option maxRecDepth 100000
namespace Mine
def iTxt (i : Int) : Str := toString i
def pTxt (e : DictEntry) : Str := iTxt (keyI e.key) ++ ": " ++ iTxt (keyI e.val)
def esTxt (es : List DictEntry) : Str := dictText (es.map pTxt)
theorem iTxt_len {i : Int} (h : 0 ≤ i) (h' : i < 5) : (iTxt i).length = 1 := by
  obtain rfl | rfl | rfl | rfl | rfl : i = 0 ∨ i = 1 ∨ i = 2 ∨ i = 3 ∨ i = 4 := by omega
  all_goals decide +kernel
theorem join_len : ∀ (ts : List Str), (∀ t ∈ ts, t.length = 4) → (Str.join ", " ts).length ≤ 6 * ts.length
  | [], _ => by decide +kernel
  | t :: ts, h => by
    have e := join_length_add (t :: ts) (by simp)
    have e2 : ∀ l : List Str, (∀ t ∈ l, t.length = 4) → piled l = 6 * l.length := by
      intro l
      induction l with
      | nil => intro _; rfl
      | cons a l ih =>
        intro hl
        have h1 := ih fun x hx => hl x (.tail _ hx)
        have h2 := hl a (.head _)
        simp only [piled, List.length_cons]
        simp only [piled] at h1
        first | omega | (simp [List.foldr] at h1 ⊢; omega) | (simp at h1 ⊢; omega)
    rw [e2 _ h] at e
    omega
theorem pTxt_len {e : DictEntry} (h : GE e) : (pTxt e).length = 4 := by
  obtain ⟨k, t, v, u, a1, a2, a3, a4, rfl⟩ := h
  unfold pTxt
  rw [strLen_append, strLen_append]
  simp only [keyI]
  rw [iTxt_len a1 (by omega), iTxt_len a3 a4]
  rfl
theorem esTxt_len {es : List DictEntry} (G : Good es) : (esTxt es).length ≤ 26 := by
  unfold esTxt dictText
  rw [strLen_append, strLen_append]
  have h1 := join_len (es.map pTxt) (by
    intro t ht
    obtain ⟨e, he, rfl⟩ := List.mem_map.mp ht
    exact pTxt_len (G.1 e he))
  rw [List.length_map] at h1
  have h2 := G.len
  have e1 : (("{" : Str)).length = 1 := by decide +kernel
  have e2 : (("}" : Str)).length = 1 := by decide +kernel
  omega
theorem sizeLine_big {n : Nat} (h : n ≤ 1000) : n ≤ sizeLine := Nat.le_trans h (by decide +kernel)

section
variable {prog : Program} {w : World} {A : Around} {E : Value → Shared → Prop} {s : Shared}
theorem own_repr {x : Addr} {es : List DictEntry} {R : Result → Shared → Prop} (hg : A.guards = some []) (D : DL (model prog w) s.heap x es)
    (h : ∀ u tk, R (.ok (.ret (.str (esTxt es) u))) { s with toks := tk }) :
    wpOwn (model prog w) A (.builtin "dict.__repr__" ⟨[.ref x], []⟩) (Builtin.dictReprAt 0 ⟨[.ref x], []⟩) (fun fin s' => match fin with | .done f => R (.ok f) s' | .again c' => c'.quiet = true ∧ codeAny (model prog w) A c' R s') (fun e s' => R (.error e) s') s := by
  obtain ⟨o, n, hx, hd⟩ := D.obj
  have G := D.good
  unfold Builtin.dictReprAt
  refine wpOwn_bind (wpOwn_of_wpAny ?_)
  unfold Builtin.Dict.dictSlotNone
  refine wpAny_bind (notOrdered_DL D ?_)
  show wpAny _ _ (pure (Value.ref x)) _ _ s
  refine wpAny_pure ?_
  rw [dictReprRunning_eq]
  refine wpOwn_bind (wpOwn_stackTailAny hg (dictGuardF_off _) (dictGuardF_pos _) ?_)
  refine wpOwn_of_wpAny ?_
  show wpAny _ _ (Builtin.Dict.addrOf (.ref x) >>= _) _ _ s
  refine wpAny_bind (wpAny_pure ?_)
  show wpAny _ _ (Builtin.Dict.showsAll x >>= _) _ _ s
  unfold Builtin.Dict.showsAll
  rw [if_neg (by rw [low_ne D.low]; exact Bool.false_ne_true)]
  refine wpAny_bind (wpAny_pure ?_)
  refine wpAny_bind (wpAny_dictEpoch hx hd ?_)
  refine wpAny_bind (wpAny_dictEntries hx hd ?_)
  refine wpAny_bind ?_
  rw [Std.Legacy.Range.forIn_eq_forIn_range']
  simp only [Std.Legacy.Range.size, Nat.sub_zero, Nat.add_sub_cancel, Nat.div_one]
  refine wpAny_forIn_list _
    (fun rest r s' => ∃ i tk, rest = List.range' i (es.length - i) ∧ i ≤ es.length ∧ r = (⟨((es.take i).map pTxt).toArray, 6 * i⟩ : (Array Str × Nat)) ∧ s' = { s with toks := tk })
    _ ?_ ?_ _ _ ⟨0, s.toks, by simp, Nat.zero_le _, by simp, rfl⟩
  · rintro j rest _ s' ⟨i, tk, hr, hi, rfl, rfl⟩
    have hlt : i < es.length := by
      rcases Nat.lt_or_ge i es.length with h | h
      · exact h
      · rw [Nat.sub_eq_zero_of_le h] at hr; simp at hr
    obtain ⟨rfl, hrest⟩ : j = i ∧ rest = List.range' (i + 1) (es.length - (i + 1)) := by
      have e : es.length - i = (es.length - (i + 1)) + 1 := by omega
      rw [e, List.range'_succ] at hr
      injection hr with h1 h2
      exact ⟨h1, h2⟩
    have hle := G.len
    have ge := G.1 es[j] (List.getElem_mem hlt)
    have hpush : ((es.take j).map pTxt).toArray.push (pTxt es[j]) = ((es.take (j + 1)).map pTxt).toArray := by
      rw [List.push_toArray, List.take_add_one, List.getElem?_eq_getElem hlt, List.map_append]
      rfl
    refine wpAny_bind (wpAny_dictEntries hx hd ?_)
    rw [List.getElem?_toArray, List.getElem?_eq_getElem hlt]
    obtain ⟨k, t, v, u, a1, a2, a3, a4, eq⟩ := ge
    have eP : pTxt es[j] = iTxt k ++ ": " ++ iTxt v := by rw [eq]; rfl
    rw [eP] at hpush
    simp only [eq]
    have lk : (iTxt k).length = 1 := iTxt_len a1 (by omega)
    have lv : (iTxt v).length = 1 := iTxt_len a3 a4
    have nk : k.natAbs.log2 < 1920 := by
      have : k.natAbs < 4 := by omega
      generalize k.natAbs = q at this
      obtain rfl | rfl | rfl | rfl : q = 0 ∨ q = 1 ∨ q = 2 ∨ q = 3 := by omega
      all_goals decide
    have nv : v.natAbs.log2 < 1920 := by
      have : v.natAbs < 5 := by omega
      generalize v.natAbs = q at this
      obtain rfl | rfl | rfl | rfl | rfl : q = 0 ∨ q = 1 ∨ q = 2 ∨ q = 3 ∨ q = 4 := by omega
      all_goals decide
    refine wpAny_bind (wpAny_holding (wpAny_bind (ReprIs.int t nk (6 * j + 1) (by show _ + (iTxt k).length ≤ _; rw [lk]; exact sizeLine_big (by omega)) _ _ _ _ fun tk1 =>
      wpAny_bind (ReprIs.int u nv (6 * j + ((iTxt k).length + 3)) (by show _ + (iTxt v).length ≤ _; rw [lk, lv]; exact sizeLine_big (by omega)) _ _ _ _ fun tk2 => wpAny_pure ?_))))
    refine wpAny_bind (wpAny_dictEpoch hx hd ?_)
    rw [if_neg (by simp)]
    refine wpAny_pure ⟨j + 1, tk2, hrest, hlt, ?_, rfl⟩
    show ((_ : Array Str), (_ : Nat)) = _
    refine Prod.ext ?_ ?_
    · exact hpush
    · show 6 * j + ((iTxt k).length + (iTxt v).length + 4) = 6 * (j + 1)
      omega
  · rintro _ s' ⟨i, tk, hr, hi, rfl, rfl⟩
    have hin : i = es.length := by
      rcases Nat.lt_or_ge i es.length with h | h
      · have e : es.length - i = (es.length - (i + 1)) + 1 := by omega
        rw [e, List.range'_succ] at hr; exact nomatch hr
      · exact Nat.le_antisymm hi h
    rw [hin, List.take_length]
    have hl := esTxt_len G
    refine wpAny_bind (wpAny_mkStr (wpAny_pure ?_) (by
      have : (("{" : Str) ++ Str.join ", " (es.map pTxt).toArray.toList ++ "}") = esTxt es := by simp [esTxt, dictText]
      rw [this]
      exact sizeLine_big (by omega)))
    have h1 := h tk (tk + 1)
    simpa [esTxt, dictText] using h1
theorem sp_repr : splitId "dict.__repr__" = some ("dict", "__repr__") := by decide +kernel
theorem kd_repr : (Manifest.find? "dict").bind (·.attrs.lookup "__repr__") = some .slot ∨ (Manifest.find? "dict").bind (·.attrs.lookup "__repr__") = some .method := by
  first | exact .inl (by decide +kernel) | exact .inr (by decide +kernel)
/-- dict.__repr__(d) of a plain dict or an immutable one -/
theorem repr_D {x : Addr} {es : List DictEntry} {Q : Value → Shared → Prop} (hg : A.guards = some []) (D : DL (model prog w) s.heap x es) (h : ∀ u tk, Q (.str (esTxt es) u) { s with toks := tk }) :
    wpAny (model prog w) A (call (.builtin "dict.__repr__") [.ref x]) Q E s :=
  wpAny_call (codeAny_call_builtin_own (Code.quiet_builtin _ (by decide +kernel)) PySem.F.entry_dict_repr (check_dict sp_repr kd_repr D.isD (PySem.F.args_dict_repr_1 _) (own_repr (R := callEnd Q E) hg D h)))
end
end Mine
end

section
open PySem PySem.W PyProof.Rows PySem.Calls
set_option maxRecDepth 100000
namespace Mine
local macro_rules | `(tactic| walk_at "getMethod type:dict") => `(tactic| (k_here; (with_reducible show wpAny _ _ (getMethod _ (PySem.Str.ofString "__repr__") _) _ _ _); (with_reducible refine' getm_repr ?X ?_); (case X => first | with_reducible assumption | exact Frag.In.keeps (by with_reducible assumption) (Fr.keep (by with_reducible assumption))); k_whole))
local macro_rules | `(tactic| walk_at "call builtin:dict.__repr__") => `(tactic| (k_here; k_dflt (refine' repr_D ?k1 ?k2 ?_; (case k1 => assumption); (case k2 => exact DArg.dl (P := World.params _) (by k_in) (DArg.keeps (by assumption) (Fr.keep (by k_asm)))); k_whole); intro u' tk'))
theorem empty_app (a b c : Str) : Str.empty ++ a ++ b ++ c = a ++ b ++ c := by
  rw [Str.empty_append]
set_option maxHeartbeats 4000000 in
theorem raw_repr {w : World} {A : Around} {s : Shared} {h₀ : Heap} {mg mb : Str → Option Value} {loose : List Str} {mean : ExcName → Option Value} {E : Value → Shared → Prop} {Q : Value → Shared → Prop}
   (X : (hd.heap_39 w.params).In h₀) (T : Top hd.view_39 loose mean mg mb h₀) (keep : ∀ b o, h₀.get? b = some o → s.heap.get? b = some o)
   {x : Addr} {es : List DictEntry} (D : DArg s.heap x es) (hroom : A.depth < 460) (hg : A.guards = some [])
   (h : ∀ h' tk u, (∀ b o, s.heap.get? b = some o → h'.get? b = some o) → Q (.str (("immutabledict(" : Str) ++ esTxt es ++ (")" : Str)) u) { s with heap := h', toks := tk }) :
   wpAny (model Challenge.rw_eu0031_01.row.prog w) A (call (.ref 93) [.ref x]) Q E s := by
  w_top off
  revert X; k_fill; intro X
  have X1 := X.keeps keep
  have T1 := T.keeps keep
  have hlen := esTxt_len D.good
  refine wpAny_call (code_raw [] [] rfl (by simp) T1.nolimit (X1 93 _ (by k_is)) rfl (codeRec_of X1 (by k_is)) (Nat.lt_trans hroom (by decide)) (BindsTo.of_eq rfl) (locs rfl) (by decide) (fun h₁ F N => ?_))
  dsimp only
  (with_reducible show wpAny _ _ _ _ _ _)
  k_fold
  change Fr s.heap _ _ _ at F
  change News s.heap _ _ _ at N
  have hg1 : ∀ env : Env, (A.deeper env).guards = some [] := fun env => hg
  k_steps
  with_reducible rename Fr _ _ _ _ => kF
  rw [empty_app]
  exact h _ _ _ kF.keep
theorem fi_repr (p : Params) : findIn (hd.heap_39 p) (.ref 145) "__repr__" = some (some (.ref 93)) := by kernel_rfl
theorem fn_repr (p : Params) : isFn (hd.heap_39 p) (.ref 93) = true := by kernel_rfl
section
variable {w : World} {A : Around} {E : Value → Shared → Prop} {s : Shared} {g : Heap} {mg mb : Str → Option Value} {loose : List Str} {mean : ExcName → Option Value} {Q : Value → Shared → Prop}
theorem repr_imm {x dx : Addr} {es : List DictEntry} {n : Nat} (X : (hd.heap_39 w.params).In g) (T : Top hd.view_39 loose mean mg mb g) (keep : ∀ b o, g.get? b = some o → s.heap.get? b = some o)
    (hx : s.heap.get? x = some (immO dx es n)) (hdx : s.heap.get? dx = some (dictOf [] 0)) (G : Good es) (l : 2 < x) (hroom : A.depth < 450) (hg : A.guards = some []) (hu : A.units + 64 < cLine)
    (h : ∀ h' tk u, (∀ b o, s.heap.get? b = some o → h'.get? b = some o) → Q (.str (("immutabledict(" : Str) ++ esTxt es ++ (")" : Str)) u) { s with heap := h', toks := tk }) :
    wpAny (model Challenge.rw_eu0031_01.row.prog w) A (call (.builtin "repr") [.ref x]) Q E s := by
  have X' := X.keeps keep
  have I := imm_inst hx hdx
  have L := looks_special (M := model Challenge.rw_eu0031_01.row.prog w) I.type (looks_findIn X' (fi_repr _))
  refine Calls.call_function_entry PySem.F.kind_repr PySem.F.plain_repr PySem.F.entry_repr (PySem.F.args_repr1 _) ?_
  unfold Builtin.«repr»
  refine wpAny_bind (m := oneArg "repr" _) (wpAny_pure ?_)
  refine wpAny_bind (m := cRoomFor _ _) (wpAny_cRoomFor (by show A.units + 1 < cLine; omega) ?_)
  refine wpAny_bind (L.here ?_)
  rw [if_neg (by simp)]
  refine wpAny_bind (ifBound_K X' I (fi_repr _) (fn_repr _) (raw_repr X T keep (.imm hx hdx G l) (by show A.depth < 460; omega) hg fun h' tk u k => ?_))
  refine wpAny_bind (wpAny_isInstance (T := "str") (b := true) rfl isSubtype_str_str ?_)
  exact wpAny_pure ⟨_, rfl, h h' tk u k⟩
theorem repr_dic {prog : Program} {x : Addr} {es : List DictEntry} {n : Nat} (hx : s.heap.get? x = some (dictOf es n)) (G : Good es) (l : 2 < x) (hg : A.guards = some []) (hu : A.units + 64 < cLine)
    (h : ∀ tk u, Q (.str (esTxt es) u) { s with toks := tk }) : wpAny (model prog w) A (call (.builtin "repr") [.ref x]) Q E s :=
  call_repr_slot (by omega) ⟨_, hx, rfl⟩ PySem.F.slot_dict_repr (repr_D hg (DL.ofDict hx G l) fun u tk => ⟨_, _, rfl, h tk u⟩)
end
end Mine
end

section
open PySem PySem.W PyProof.Rows PySem.Calls
set_option maxRecDepth 100000
namespace Mine
set_option maxHeartbeats 4000000 in
theorem raw_copy {w : World} {A : Around} {s : Shared} {h₀ : Heap} {mg mb : Str → Option Value} {loose : List Str} {mean : ExcName → Option Value} {E : Value → Shared → Prop} {Q : Value → Shared → Prop}
   (X : (hd.heap_39 w.params).In h₀) (T : Top hd.view_39 loose mean mg mb h₀) (keep : ∀ b o, h₀.get? b = some o → s.heap.get? b = some o)
   {x : Addr} (hroom : A.depth < 460)
   (h : ∀ h' tk, (∀ b o, s.heap.get? b = some o → h'.get? b = some o) → Q (.ref x) { s with heap := h', toks := tk }) :
   wpAny (model Challenge.rw_eu0031_01.row.prog w) A (call (.ref 121) [.ref x]) Q E s := by
  w_top off
  revert X; k_fill; intro X
  have X1 := X.keeps keep
  have T1 := T.keeps keep
  refine wpAny_call (code_raw [] [] rfl (by simp) T1.nolimit (X1 121 _ (by k_is)) rfl (codeRec_of X1 (by k_is)) (Nat.lt_trans hroom (by decide)) (BindsTo.of_eq rfl) (locs rfl) (by decide) (fun h₁ F N => ?_))
  dsimp only
  (with_reducible show wpAny _ _ _ _ _ _)
  k_fold
  change Fr s.heap _ _ _ at F
  change News s.heap _ _ _ at N
  k_steps
  with_reducible rename Fr _ _ _ _ => kF
  exact h _ _ kF.keep
/-- the law's own text -/
def lawOf : List Stmt → List Stmt × Scope
  | [.FunctionDef _ _ body _ _ _ scope _ _ _] => (body, scope)
  | _ :: r => lawOf r
  | [] => ([], Challenge.rw_eu0031_01.row.prog.main.scope)
def lawPart : List Stmt × Scope := lawOf Challenge.rw_eu0031_01.row.prog.main.body
def lawTail (n : Nat) : List Stmt := lawPart.1.drop n
def lawEnv (L fa : Addr) (cd : Value) : Env := envOfC (Str.ofString "law") lawPart.2 L fa cd
example : (lawTail 12).length = 1 := by decide +kernel
end Mine
end

section
open PySem PySem.W PyProof.Rows PySem.Calls
set_option maxRecDepth 100000
namespace Mine
structure TS (es : List DictEntry) (os : List Oth) (ps : List Addr) (rest : List (Addr × Obj)) (rows first due : Addr) : Prop where
  G : Good es
  GU : Good (uAll es os)
  lo : os.length ≤ 3
  lp : ps.length = os.length
  oth : ∀ o ∈ os, OthIn rest o
  pls : ∀ (j : Nat) (p : Addr) (o : Oth), ps[j]? = some p → os[j]? = some o → PlIn rest p o.es
  rows2 : 2 < rows
  first2 : 2 < first
  due2 : 2 < due
theorem frm {g h : Heap} {L : Addr} {m m' : Str → Option Value} (F : Fr g L h m) (e : m = m') : Fr g L h m' := e ▸ F
structure LawN (st rows first ot pl due : Addr) (m : Str → Option Value) : Prop where
  n1 : m (Str.ofString "first") = some (.ref first)
  n2 : m (Str.ofString "others") = some (.ref ot)
  n3 : m (Str.ofString "plain") = some (.ref pl)
  n4 : m (Str.ofString "due") = some (.ref due)
  n5 : m (Str.ofString "rows") = some (.ref rows)
  n6 : m (Str.ofString "state") = some (.ref st)
theorem LawN.eq {st rows first ot pl due : Addr} {m : Str → Option Value} (h : LawN st rows first ot pl due m) : m = fun y =>
  if y = Str.ofString "first" then some (.ref first) else if y = Str.ofString "others" then some (.ref ot) else if y = Str.ofString "plain" then some (.ref pl) else
    if y = Str.ofString "due" then some (.ref due) else if y = Str.ofString "rows" then some (.ref rows) else if y = Str.ofString "state" then some (.ref st) else m y := by
  obtain ⟨h1, h2, h3, h4, h5, h6⟩ := h
  funext y
  by_cases q1 : y = Str.ofString "first"
  · simp only [if_pos q1]; rw [q1]; exact h1
  simp only [if_neg q1]
  by_cases q2 : y = Str.ofString "others"
  · simp only [if_pos q2]; rw [q2]; exact h2
  simp only [if_neg q2]
  by_cases q3 : y = Str.ofString "plain"
  · simp only [if_pos q3]; rw [q3]; exact h3
  simp only [if_neg q3]
  by_cases q4 : y = Str.ofString "due"
  · simp only [if_pos q4]; rw [q4]; exact h4
  simp only [if_neg q4]
  by_cases q5 : y = Str.ofString "rows"
  · simp only [if_pos q5]; rw [q5]; exact h5
  simp only [if_neg q5]
  by_cases q6 : y = Str.ofString "state"
  · simp only [if_pos q6]; rw [q6]; exact h6
  simp only [if_neg q6]
theorem setm {m : Str → Option Value} {k : Str} {v : Value} (h : m k = some v) : m = fun y => if y = k then some v else m y := by
  funext y
  by_cases q : y = k
  · simp only [if_pos q]; rw [q]; exact h
  · simp only [if_neg q]
theorem ex_tail (n : Nat) {M : Model} {A : Around} {env : Env} {Q : Flow → Shared → Prop} {E : Value → Shared → Prop} {s : Shared} {st : Stmt} (e : lawTail n = st :: lawTail (n + 1))
    (h : ∀ Q₁ : Flow → Shared → Prop, (∀ s', wpAny M A (execs (lawTail (n + 1)) env) Q E s' → Q₁ .next s') → (∀ v s', Q (.ret v) s' → Q₁ (.ret v) s') → wpAny M A (exec st env) Q₁ E s) : wpAny M A (execs (lawTail n) env) Q E s := by
  rw [e]; exact wpAny_execs_cons (h _ (fun _ z => z) fun _ _ z => z)
/-- what the law has made when told and merged stand -/
structure LC where
  st : Nat
  ot : Nat
  pl : Nat
  due : Nat
  sl : Nat
  rows : Nat
  first : Nat
  fdx : Nat
  u : Nat
  udx : Nat
  u2 : Nat
  udx2 : Nat
  I : Nat
  os : List Oth
  ps : List Addr
  es : List DictEntry
  rest : List (Addr × Obj)
  i : Int
  sd : Int
  ti : Tok
  td : Tok
  n1 : Nat
  no : Nat
  np : Nat
  nd : Nat
  nsl : Nat
  nr : Nat
  nf : Nat
  nu : Nat
  nu2 : Nat
  ws : List Value
  oc : Obj
def LC.led (c : LC) (L : Nat) : List (Addr × Obj) :=
  (c.u, immO c.udx (uAll c.es c.os) c.nu) :: (c.udx, dictOf [] 0) :: (c.u2, immO c.udx2 (uAll c.es c.os) c.nu2) :: (c.udx2, dictOf [] 0) :: (c.st, listOf #[.ref c.sl, .int c.i c.ti, .int c.sd c.td] c.n1) ::
    (c.ot, listOf (c.os.map (·.v)).toArray c.no) :: (c.pl, listOf (c.ps.map Value.ref).toArray c.np) :: (c.due, dictOf (uAll c.es c.os) c.nd) :: ((L + 1 : Nat), c.oc) :: (c.sl, listOf c.ws.toArray c.nsl) :: (c.rows, dictOf c.es c.nr) ::
    (c.first, immO c.fdx c.es c.nf) :: (c.fdx, dictOf [] 0) :: c.rest
/-- the static facts -/
structure LF (c : LC) (L : Nat) : Prop where
  Z : TS c.es c.os c.ps c.rest c.rows c.first c.due
  hoc : c.oc.data = .cell (some (.ref c.u))
  far : Far c.rest c.I
  ord : LawOrd (L + 1) c.sl c.st c.rows c.first c.fdx c.ot c.pl
  hI : c.pl < c.I
  hdst : c.due ≠ c.st
  u2s : 2 < c.u
  u22s : 2 < c.u2
  ne : c.u ≠ c.st ∧ c.udx ≠ c.st ∧ c.u2 ≠ c.st ∧ c.udx2 ≠ c.st
  same : scan (uStart c.es c.first) c.os = .bool false → c.u = c.first
  one : ∀ a : Addr, scan (uStart c.es c.first) c.os = .ref a → c.u = a
  new : scan (uStart c.es c.first) c.os = .none → (∀ o ∈ c.os, o.v ≠ .ref c.u) ∧ c.first ≠ c.u
  i0 : 0 ≤ c.i
  hws : ∃ ns, IntsAre c.ws ns ∧ ns.length ≤ 63
/-- the frame's names -/
structure LN (c : LC) (m : Str → Option Value) : Prop where
  b : LawN c.st c.rows c.first c.ot c.pl c.due m
  n7 : m (Str.ofString "merged") = some (.ref c.u2)
theorem OthIn.addr {rest : List (Addr × Obj)} {o : Oth} (D : OthIn rest o) {a : Addr} (h : o.v = .ref a) : ∃ ob, (a, ob) ∈ rest := by
  cases D with
  | none => cases h
  | dic e => cases h; exact ⟨_, e⟩
  | imm e => cases h; exact ⟨_, e⟩
theorem TS.keep {es : List DictEntry} {os : List Oth} {ps : List Addr} {rest : List (Addr × Obj)} {rows first due : Addr} (Z : TS es os ps rest rows first due) {u : Addr} {news : List (Addr × Obj)} (hr : ∀ p ∈ rest, p ∈ news) {of : Obj} (hf : (first, of) ∈ news) (h : ∀ p ∈ news, p.1 ≠ u) :
    (∀ o ∈ os, o.v ≠ .ref u) ∧ first ≠ u := by
  refine ⟨fun o ho e => ?_, h _ hf⟩
  obtain ⟨ob, hob⟩ := (Z.oth o ho).addr e
  exact h _ (hr _ hob) rfl
end Mine
end

section
open PySem PySem.W PyProof.Rows PySem.Calls
set_option maxRecDepth 100000
namespace Mine
theorem off1 {m m₀ : Str → Option Value} {k : Str} (h : ∀ z, z ∉ [k] → m z = m₀ z) : m = fun y => if y = k then m y else m₀ y := by
  funext y
  by_cases q : y = k
  · simp only [if_pos q]
  · simp only [if_neg q]; exact h y (by simpa using q)
section
variable {prog : Program} {w : World} {A : Around} {E : Value → Shared → Prop} {s : Shared} {env : Env} {h₀ : Heap} {body : List Stmt} {Q : Flow → Shared → Prop}
theorem rest_vals {target : PySem.Expr} {ws : List (Addr × String)} {keep news : List (Addr × Obj)} {m₀ : Str → Option Value} (ks : List Str) (hk : SubL keep news) (hd : ∀ its, Objs ws its → ∀ p ∈ news, ∀ q ∈ its, p.1 ≠ q.1)
    (fin : ∀ m h tk, (∀ z, z ∉ ks → m z = m₀ z) → Fr h₀ env.locals h m → News h₀ env.locals h news → Q .next { s with heap := h, toks := tk }) :
    ∀ (xs : List Value) (m : Str → Option Value)
    (_ : ∀ x (i : Nat), xs[i]? = some x → ∀ h tk m its (R : Flow → Shared → Prop), (∀ z, z ∉ ks → m z = m₀ z) → Fr h₀ env.locals h m → Objs ws its → News h₀ env.locals h (its ++ news) →
      (∀ m' h' tk', Fr h₀ env.locals h' m' → News h₀ env.locals h' (its ++ news) → (∀ z, z ∉ ks → m' z = m₀ z) → R .next { s with heap := h', toks := tk' }) →
      wpAny (model prog w) A (assign target env x) (fun _ s₂ => wpAny (model prog w) A (execs body env) R E s₂) E { s with heap := h, toks := tk }),
    (∀ z, z ∉ ks → m z = m₀ z) → ItemsRest prog w A E h₀ env target body Q s ws keep (xs.map Itm.val) m news := by
  intro xs
  induction xs with
  | nil =>
    intro m _ hm
    exact ItemsRest.zero fun h tk F N => fin m h tk hm F N
  | cons x xs ih =>
    intro m turn hm
    refine ItemsRest.val fun h tk F => allObj_of fun its hi N => ?_
    refine turn x 0 rfl h tk m its _ hm F hi N fun m' h' tk' F' N' hm' => ?_
    exact ⟨h', tk', m', news, rfl, F', N', hd its hi, hk, ih m' (fun x' i hx => turn x' (i + 1) (by simpa using hx)) hm'⟩
theorem objs_one {I : Nat} {its : List (Addr × Obj)} {c1 : String} (h : Objs [(I, c1)] its) : ∃ o1 : Obj, its = [(I, o1)] := by
  have e := h.map
  obtain ⟨x1, r1, rfl, e1, e⟩ := List.map_eq_cons_iff.mp e
  obtain rfl := List.map_eq_nil_iff.mp e
  obtain ⟨a1, o1⟩ := x1
  dsimp only at e1
  subst e1
  exact ⟨o1, rfl⟩
theorem tup_loop {target : PySem.Expr} {ax : Addr} {k : Nat} {vs : List Value} {m₀ : Str → Option Value} {news : List (Addr × Obj)} (ks : List Str)
    (hh : A.handled = none) (F : Fr h₀ env.locals s.heap m₀) (N : News h₀ env.locals s.heap news) (hm1 : (ax, { cls := .type "tuple", data := .seq vs.toArray k }) ∈ news)
    (turn : ∀ (I : Nat) x (i : Nat), vs[i]? = some x → ∀ h tk m o1 (R : Flow → Shared → Prop), (∀ z, z ∉ ks → m z = m₀ z) → Fr h₀ env.locals h m → News h₀ env.locals h ((I, o1) :: news) →
      (∀ m' h' tk', Fr h₀ env.locals h' m' → News h₀ env.locals h' ((I, o1) :: news) → (∀ z, z ∉ ks → m' z = m₀ z) → R .next { s with heap := h', toks := tk' }) →
      wpAny (model prog w) A (assign target env x) (fun _ s₂ => wpAny (model prog w) A (execs body env) R E s₂) E { s with heap := h, toks := tk })
    (fin : ∀ m h tk, (∀ z, z ∉ ks → m z = m₀ z) → Fr h₀ env.locals h m → News h₀ env.locals h news → Q .next { s with heap := h, toks := tk }) :
    wpAny (model prog w) A (pyIter (.ref ax)) (fun it s₂ => TurnsAt prog w A h₀ env target body Q E it s₂) E s := by
  refine iter_tupTurns hh F N hm1 rfl rfl fun I hI => ?_
  refine rest_vals ks (show SubL [(ax, ({ cls := .type "tuple", data := .seq vs.toArray k } : Obj))] news from And.intro hm1 trivial) (fun its hi p hp q hq => ?_) fin vs m₀ (fun x i hx h tk m its R hm F' hi N' END => ?_) fun _ _ => rfl
  · obtain ⟨o1, rfl⟩ := objs_one hi
    rw [List.mem_singleton.mp hq]
    exact Nat.ne_of_lt (hI p hp)
  · obtain ⟨o1, rfl⟩ := objs_one hi
    exact turn I x i hx h tk m o1 R hm F' N' END
end
section
open PyProof.Rows.LCg PyProof.Rows.LCt
variable {prog : Program} {w : World} {A : Around} {E : Value → Shared → Prop} {s : Shared} {h₀ : Heap} {L : Addr} {m : Str → Option Value} {env : Env}
theorem rest_filterX {α : Type} {ct : PySem.Expr} {x : Str} {px : Pos} {scope : Scope} {cl : List (Str × Addr)} {S : List (Addr × Obj) → Prop} {Fin : List Value → List (Addr × Obj) → Prop} {xs : List α} {f : α → Value} {news : List (Addr × Obj)} (p : α → Bool) (hS : S news)
    (turn : ∀ a I oI C oC D m₂ h tk ys (E' : Value → Shared → Prop) (Q' : Bool → Shared → Prop), a ∈ xs → NsObj oC m₂ → m₂ x = some (f a) → Fr h₀ L h m → News h₀ L h ((I, oI) :: (C, oC) :: (D, lst ys) :: news) →
      (∀ tk', Q' (p a) { s with heap := h, toks := tk' }) → wpAny (model prog w) A (isTrue ct (compEnvC scope cl C env) (eval ct (compEnvC scope cl C env))) Q' E' { s with heap := h, toks := tk })
    (hk : ∀ C, (compEnvC scope cl C env).scope.kind = .function) (hl : ∀ C, (compEnvC scope cl C env).kindOf x = some .local) (hd : (x == ("__debug__" : Str)) = false)
    (fin : Fin ((xs.filter p).map f) news) :
    CompRestT prog w A h₀ L m env ct (.Name x px) x scope cl s S (fun i v => (xs.map f).toArray[i]? = some v) Fin (xs.map f).toArray.size 0 [] news := by
  have hsz : (xs.map f).toArray.size = xs.length := by simp
  rw [hsz]
  have key : ∀ k i ys, xs.length - i = k → i ≤ xs.length → ys = ((xs.take i).filter p).map f → CompRestT prog w A h₀ L m env ct (.Name x px) x scope cl s S (fun i v => (xs.map f).toArray[i]? = some v) Fin k i ys news := by
    intro k
    induction k with
    | zero =>
      intro i ys hk hi hy
      have : i = xs.length := by omega
      rw [this, List.take_length] at hy
      rw [hy]
      exact CompRestT.zero fin
    | succ k ih =>
      intro i ys hki hi hy
      refine CompRestT.succ ?_
      intro v I oI C oC D m₂ h tk E' hv hC hx F N off ne
      have hlt : i < xs.length := by omega
      have hv' : xs[i]? = some xs[i] := List.getElem?_eq_getElem hlt
      have hfv : v = f xs[i] := by
        simp [hlt] at hv
        exact hv.symm
      subst hfv
      have htake : ((xs.take (i + 1)).filter p).map f = ys ++ (if p xs[i] = true then [f xs[i]] else []) := by
        rw [List.take_add_one, hv', List.filter_append, List.map_append, ← hy]
        congr 1
        simp only [Option.toList_some, List.filter_cons, List.filter_nil]
        split <;> rfl
      refine turn xs[i] I oI C oC D m₂ h tk ys E' _ (List.getElem_mem hlt) hC hx F N fun tk' => ?_
      cases hp : p xs[i] with
      | true =>
        simp only [if_true]
        refine LCgL.ld_own N (.tail _ (.head _)) hC hx ?_ (hk C) (hl C) hd
        exact CompEnd.intro F N news (fun q hq => hq) off hS (ih (i + 1) _ (by omega) (by omega) (by rw [htake, hp]; rfl))
      | false =>
        simp only [Bool.false_eq_true, if_false]
        exact CompEnd.intro F N news (fun q hq => hq) off hS (ih (i + 1) _ (by omega) (by omega) (by rw [htake, hp]; simp))
  exact key _ 0 [] (Nat.sub_zero _) (Nat.zero_le _) (by simp)
end
end Mine
end

section
open PySem PySem.W PyProof.Rows PySem.Calls
set_option maxRecDepth 100000
namespace Mine
/-- the others that have rows -/
def fullOf (os : List Oth) : List Value := (os.filter fun o => !o.es.isEmpty).map (·.v)
theorem full_cons_nil {o : Oth} {r : List Oth} (h : o.es = []) : fullOf (o :: r) = fullOf r := by
  simp [fullOf, List.filter_cons, h]
theorem full_cons {o : Oth} {r : List Oth} (h : ¬ o.es = []) : fullOf (o :: r) = o.v :: fullOf r := by
  simp [fullOf, List.filter_cons, h]
theorem scan_none : ∀ {os : List Oth} {v : Value}, fullOf os = [] → scan v os = v
  | [], _, _ => rfl
  | o :: r, v, h => by
    by_cases he : o.es = []
    · rw [full_cons_nil he] at h
      unfold scan
      rw [if_pos he]
      exact scan_none h
    · rw [full_cons he] at h; cases h
theorem scan_some : ∀ {os : List Oth} {v : Value}, v ≠ .bool false → fullOf os ≠ [] → scan v os = .none
  | [], _, _, h => absurd rfl h
  | o :: r, v, hv, h => by
    unfold scan
    by_cases he : o.es = []
    · rw [full_cons_nil he] at h
      rw [if_pos he]
      exact scan_some hv h
    · rw [if_neg he, if_neg fun q => hv q.1]
theorem scan_two : ∀ {os : List Oth} {v : Value}, (∀ o ∈ os, o.v ≠ .bool false) → 2 ≤ (fullOf os).length → scan v os = .none
  | [], _, _, h => by simp [fullOf] at h
  | o :: r, v, hv, h => by
    unfold scan
    by_cases he : o.es = []
    · rw [full_cons_nil he] at h
      rw [if_pos he]
      exact scan_two (fun q hq => hv q (.tail _ hq)) h
    · rw [full_cons he] at h
      rw [if_neg he]
      split
      · refine scan_some (hv o (.head _)) ?_
        intro q
        rw [q] at h
        simp at h
      · rfl
theorem scan_one : ∀ {os : List Oth} {x : Value}, fullOf os = [x] → ∃ o ∈ os, o.v = x ∧ o.es ≠ [] ∧ (o.im = true → scan (.bool false) os = x)
  | [], _, h => by simp [fullOf] at h
  | o :: r, x, h => by
    by_cases he : o.es = []
    · rw [full_cons_nil he] at h
      obtain ⟨o', h1, h2, h3, h4⟩ := scan_one h
      refine ⟨o', .tail _ h1, h2, h3, fun q => ?_⟩
      unfold scan
      rw [if_pos he]
      exact h4 q
    · rw [full_cons he] at h
      injection h with h1 h2
      refine ⟨o, .head _, h1, he, fun q => ?_⟩
      unfold scan
      rw [if_neg he, if_pos ⟨rfl, q⟩, scan_none h2, h1]
theorem LF.nb {c : LC} {L : Nat} (D : LF c L) : ∀ o ∈ c.os, o.v ≠ .bool false := fun o ho e => (D.Z.oth o ho).notBool _ e
theorem LF.first_of {c : LC} {L : Nat} (D : LF c L) (h : fullOf c.os = []) : c.u = c.first := by
  by_cases q : c.es.isEmpty = true
  · refine D.same ?_
    rw [scan_none h]; unfold uStart; rw [if_pos q]
  · refine D.one _ ?_
    rw [scan_none h]; unfold uStart; rw [if_neg q]
theorem LF.fresh1 {c : LC} {L : Nat} (D : LF c L) (h : fullOf c.os ≠ []) (he : c.es.isEmpty = false) : (∀ o ∈ c.os, o.v ≠ .ref c.u) ∧ c.first ≠ c.u := by
  refine D.new (scan_some ?_ h)
  unfold uStart; rw [if_neg (by rw [he]; exact Bool.false_ne_true)]
  intro e; cases e
theorem LF.fresh2 {c : LC} {L : Nat} (D : LF c L) (h : 2 ≤ (fullOf c.os).length) : (∀ o ∈ c.os, o.v ≠ .ref c.u) ∧ c.first ≠ c.u := D.new (scan_two D.nb h)
theorem LF.only {c : LC} {L : Nat} (D : LF c L) {x : Value} (h : fullOf c.os = [x]) (he : c.es.isEmpty = true) : ∃ (o : Oth) (a : Addr), o ∈ c.os ∧ o.v = .ref a ∧ x = .ref a ∧ (o.im = true → c.u = a) := by
  obtain ⟨o, h1, h2, h3, h4⟩ := scan_one h
  have Do := D.Z.oth o h1
  have : ∃ a : Addr, o.v = .ref a := by
    cases Do with
    | none => exact absurd rfl h3
    | dic => exact ⟨_, rfl⟩
    | imm => exact ⟨_, rfl⟩
  obtain ⟨a, ha⟩ := this
  refine ⟨o, a, h1, ha, by rw [← h2, ha], fun q => D.one a ?_⟩
  unfold uStart
  rw [if_pos he, h4 q, ← h2, ha]
section
variable {prog : Program} {w : World} {A : Around} {E : Value → Shared → Prop} {s : Shared} {a b : Addr} {vs : List Value} {es : List DictEntry} {n n2 : Nat} {Q : Value → Shared → Prop} {x : Bool}
theorem eq_nilL2 (hl : s.heap.get? a = some (listOf vs.toArray n)) (hb : s.heap.get? b = some (listOf #[] n2)) (hu : A.units + 64 < cLine) (e : vs.isEmpty = x) (h : Q (.bool x) s) : wpAny (model prog w) A (compareOp .Eq (.ref a) (.ref b)) Q E s := eq_nilL hl hb hu (e ▸ h)
theorem ne_nilL2 (hl : s.heap.get? a = some (listOf vs.toArray n)) (hb : s.heap.get? b = some (listOf #[] n2)) (hu : A.units + 64 < cLine) (e : vs.isEmpty = x) (h : Q (.bool (!x)) s) : wpAny (model prog w) A (compareOp .NotEq (.ref a) (.ref b)) Q E s := ne_nilL hl hb hu (e ▸ h)
theorem eq_nilD2 (la : 2 < a) (lb : 2 < b) (ha : s.heap.get? a = some (dictOf es n)) (hb : s.heap.get? b = some (dictOf [] n2)) (hu : A.units + 64 < cLine) (e : es.isEmpty = x) (h : Q (.bool x) s) : wpAny (model prog w) A (compareOp .Eq (.ref a) (.ref b)) Q E s := eq_nilD la lb ha hb hu (e ▸ h)
theorem ne_nilD2 (la : 2 < a) (lb : 2 < b) (ha : s.heap.get? a = some (dictOf es n)) (hb : s.heap.get? b = some (dictOf [] n2)) (hu : A.units + 64 < cLine) (e : es.isEmpty = x) (h : Q (.bool (!x)) s) : wpAny (model prog w) A (compareOp .NotEq (.ref a) (.ref b)) Q E s := ne_nilD la lb ha hb hu (e ▸ h)
end
end Mine
end

section
open PySem PySem.W PyProof.Rows PySem.Calls
set_option maxRecDepth 100000
namespace Mine
section
variable {w : World} {A : Around} {E : Value → Shared → Prop} {s : Shared} {g : Heap} {L : Addr} {m : Str → Option Value} {news : List (Addr × Obj)} {mg mb : Str → Option Value} {loose : List Str} {mean : ExcName → Option Value} {Q : Value → Shared → Prop}
theorem led_more {h h' : Heap} {more : List (Addr × Obj)} (F : Fr g L h m) (N : News g L h news) (k : ∀ b o, h.get? b = some o → h'.get? b = some o) (hm : ∀ p ∈ more, h'.get? p.1 = some p.2 ∧ h.get? p.1 = none) : Fr g L h' m ∧ News g L h' (more ++ news) := by
  refine ⟨⟨F.ns.keeps k, fun b o e => k b o (F.keep b o e), F.above⟩, fun p hp => ?_⟩
  rcases List.mem_append.mp hp with hp | hp
  · obtain ⟨e1, e2⟩ := hm p hp
    refine ⟨e1, ?_, ?_⟩
    · intro q
      obtain ⟨o, _, _, ho, _⟩ := F.ns
      rw [q, ho] at e2; cases e2
    · cases q : g.get? p.1 with
      | none => rfl
      | some o => rw [F.keep _ _ q] at e2; cases e2
  · exact ⟨k _ _ (N p hp).1, (N p hp).2⟩
theorem led_bitl {l dl r : Addr} {el er : List DictEntry} {nl : Nat} (X : (hd.heap_39 w.params).In g) (T : Top hd.view_39 loose mean mg mb g) (F : Fr g L s.heap m) (N : News g L s.heap news)
    (hl : (l, immO dl el nl) ∈ news) (hdl : (dl, dictOf [] 0) ∈ news) (Gl : Good el) (ll : 2 < l) (Dr : DArg s.heap r er) (hroom : A.depth < 460)
    (h : ∀ h' tk x dx n, Fr g L h' m → News g L h' ((x, immO dx (mrg el er) n) :: (dx, dictOf [] 0) :: news) → Good (mrg el er) → 2 < x → Q (.ref x) { s with heap := h', toks := tk }) :
    wpAny (model Challenge.rw_eu0031_01.row.prog w) A (binaryOp .BitOr (.ref l) (.ref r)) Q E s := by
  refine bitor_left X T F.keep (N _ hl).1 (N _ hdl).1 Gl ll Dr hroom fun h' tk x dx n k e1 e2 f1 f2 lx => ?_
  obtain ⟨F', N'⟩ := led_more (more := [(x, immO dx (mrg el er) n), (dx, dictOf [] 0)]) F N k (by
    intro p hp
    simp only [List.mem_cons, List.not_mem_nil, or_false] at hp
    rcases hp with rfl | rfl
    · exact ⟨e1, f1⟩
    · exact ⟨e2, f2⟩)
  exact h h' tk x dx n F' N' (Gl.mrg Dr.good) lx
theorem led_bitr {l r dr : Addr} {el er : List DictEntry} {nl nr : Nat} (X : (hd.heap_39 w.params).In g) (T : Top hd.view_39 loose mean mg mb g) (F : Fr g L s.heap m) (N : News g L s.heap news)
    (hl : (l, dictOf el nl) ∈ news) (Gl : Good el) (ll : 2 < l) (hr : (r, immO dr er nr) ∈ news) (hdr : (dr, dictOf [] 0) ∈ news) (Gr : Good er) (lr : 2 < r) (hroom : A.depth < 460)
    (h : ∀ h' tk x dx n, Fr g L h' m → News g L h' ((x, immO dx (mrg el er) n) :: (dx, dictOf [] 0) :: news) → Good (mrg el er) → 2 < x → Q (.ref x) { s with heap := h', toks := tk }) :
    wpAny (model Challenge.rw_eu0031_01.row.prog w) A (binaryOp .BitOr (.ref l) (.ref r)) Q E s := by
  refine bitor_right X T F.keep (N _ hl).1 Gl ll (N _ hr).1 (N _ hdr).1 Gr lr hroom fun h' tk x dx n k e1 e2 f1 f2 lx => ?_
  obtain ⟨F', N'⟩ := led_more (more := [(x, immO dx (mrg el er) n), (dx, dictOf [] 0)]) F N k (by
    intro p hp
    simp only [List.mem_cons, List.not_mem_nil, or_false] at hp
    rcases hp with rfl | rfl
    · exact ⟨e1, f1⟩
    · exact ⟨e2, f2⟩)
  exact h h' tk x dx n F' N' (Gl.mrg Gr) lx
end
def zipKs : List Str := [Str.ofString "one", Str.ofString "row", Str.ofString "ahead", Str.ofString "behind"]
theorem off4 {m m₀ : Str → Option Value} (h : ∀ z, z ∉ zipKs → m z = m₀ z) : m = fun y => if y = Str.ofString "one" then m y else if y = Str.ofString "row" then m y else if y = Str.ofString "ahead" then m y else if y = Str.ofString "behind" then m y else m₀ y := by
  funext y
  by_cases q1 : y = Str.ofString "one"
  · simp only [if_pos q1]
  simp only [if_neg q1]
  by_cases q2 : y = Str.ofString "row"
  · simp only [if_pos q2]
  simp only [if_neg q2]
  by_cases q3 : y = Str.ofString "ahead"
  · simp only [if_pos q3]
  simp only [if_neg q3]
  by_cases q4 : y = Str.ofString "behind"
  · simp only [if_pos q4]
  simp only [if_neg q4]
  exact h y (by unfold zipKs; simp [q1, q2, q3, q4])
theorem not_zipKs {z : Str} (h : z ∉ zipKs) : ¬ z = Str.ofString "one" ∧ ¬ z = Str.ofString "row" ∧ ¬ z = Str.ofString "ahead" ∧ ¬ z = Str.ofString "behind" := by
  unfold zipKs at h
  simp only [List.mem_cons, List.not_mem_nil, or_false, not_or] at h
  exact h
end Mine
end

section
open PySem PySem.W PyProof.Rows PySem.Calls
set_option maxRecDepth 100000
namespace Mine
theorem fi_copy (p : Params) : findIn (hd.heap_39 p) (.ref 145) "copy" = some (some (.ref 121)) := by kernel_rfl
section
variable {w : World} {E : Value → Shared → Prop} {s : Shared} {g : Heap} {L : Addr} {m : Str → Option Value} {news : List (Addr × Obj)} {mg mb : Str → Option Value} {loose : List Str} {mean : ExcName → Option Value} {Q : Value → Shared → Prop}
theorem led_refused {env : Env} {x dx : Addr} {es : List DictEntry} {n : Nat} {k : Int} {t : Tok} (X : (hd.heap_39 w.params).In g) (T : Top hd.view_39 loose mean mg mb g) (F : Fr g L s.heap m) (N : News g L s.heap news)
   (hf : env.frame = some L) (hke : env.scope.kind = .function) (hx : (x, immO dx es n) ∈ news) (hdx : (dx, dictOf [] 0) ∈ news) (hk0 : 0 ≤ k) (hk8 : k < 8)
   (h : ∀ h' tk, Fr g L h' m → News g L h' news → Q (.bool true) { s with heap := h', toks := tk }) :
   wpAny (model Challenge.rw_eu0031_01.row.prog w) (callerA.deeper env) (call (.ref 175) [.int k t, .ref x]) Q E s := by
  have hL0 : g.get? L = none := Heap.get?_none_of_le F.above
  refine raw_refused X T F.keep hf hke hL0 F.ns (N _ hx).1 (N _ hdx).1 (N _ hx).2.2 (N _ hdx).2.2 (N _ hx).2.1 (N _ hdx).2.1 ⟨hk0, hk8⟩ fun h' tk ns ext => ?_
  refine h h' tk ⟨ns, fun b o e => ext b o ?_ (F.keep b o e), F.above⟩ fun p hp => ⟨ext _ _ (N p hp).2.1 (N p hp).1, (N p hp).2⟩
  rintro rfl
  rw [hL0] at e; cases e
theorem led_copy {A : Around} {x : Addr} (X : (hd.heap_39 w.params).In g) (T : Top hd.view_39 loose mean mg mb g) (F : Fr g L s.heap m) (N : News g L s.heap news) (hroom : A.depth < 460)
   (h : ∀ h' tk, Fr g L h' m → News g L h' news → Q (.ref x) { s with heap := h', toks := tk }) :
   wpAny (model Challenge.rw_eu0031_01.row.prog w) A (call (.ref 121) [.ref x]) Q E s := by
  refine raw_copy X T F.keep hroom fun h' tk k => ?_
  exact h h' tk (F.keeps k) fun p hp => ⟨k _ _ (N p hp).1, (N p hp).2⟩
end
end Mine
end

section
open PySem PySem.W PyProof.Rows PySem.Calls
set_option maxRecDepth 100000
namespace Mine
theorem led_perm {g h : Heap} {L : Addr} {a b c d e : Addr × Obj} {l : List (Addr × Obj)} (N : News g L h (d :: a :: b :: c :: e :: l)) : News g L h (c :: e :: a :: b :: l) := fun x hx => N x (by
  simp only [List.mem_cons] at hx ⊢
  rcases hx with h | h | h | h | h <;> simp [h])
local macro_rules | `(tactic| walk_at "eval Call Attribute") => `(tactic| (k_here; (with_reducible show wpAny _ _ (eval (PySem.Expr.Call (PySem.Expr.Attribute _ (PySem.Str.ofString "union") _) [PySem.Expr.Starred _ _] _ _) _) _ _ _); k_dflt (refine' star_union ?k1 ?k2 ?k3 ?k4 (fo_union _) (tf_union _) ?k5 (.inl rfl) ?k6 ?k7 ?k8 ?k9 ?k10 ?k11 ?k12 ?k13 ?k14 ?k15 ?k16 ?k17 ?k18 ?k19 ?_ ?k20; (case k1 => k_asm); (case k2 => k_asm); (case k3 => k_asm); (case k4 => k_asm); (case k5 => k_is); (case k18 => (intro Q' hQ'; walk1; exact hQ')); (case k19 => (intro s' Q' kF' hQ'; walk1; exact hQ')); (case k6 => k_mem); (case k7 => k_mem); (case k8 => k_mem); (case k9 => assumption); (case k10 => assumption); (case k11 => omega); (case k12 => exact fun o ho => OthIn.mono ((by assumption : ∀ o ∈ _, OthIn _ o) o ho) fun p hp => (by (repeat (first | exact hp | apply List.Mem.tail)))); (case k13 => (simp only [depth_deeper]; decide)); (case k14 => exact dh rfl); (case k17 => assumption); (case k15 => k_mem); (case k16 => k_mem); (case k20 => exact rfl); k_whole); intro h' tk' u' udx' nu' F' N' U' lu' Gu' ne'; obtain ⟨ne1, ne2, ne3, ne4⟩ := ne'))
local macro_rules | `(tactic| walk_at "eval Call Attribute") => `(tactic| (k_here; (with_reducible show wpAny _ _ (eval (PySem.Expr.Call (PySem.Expr.Attribute _ (PySem.Str.ofString "merge_with") _) [PySem.Expr.Starred _ _] _ _) _) _ _ _); k_dflt (refine' star_union ?k1 ?k2 ?k3 ?k4 (fo_merge _) (tf_merge _) ?k5 (.inr rfl) ?k6 ?k7 ?k8 ?k9 ?k10 ?k11 ?k12 ?k13 ?k14 ?k15 ?k16 ?k17 ?k18 ?k19 ?_ ?k20; (case k1 => k_asm); (case k2 => k_asm); (case k3 => k_asm); (case k4 => k_asm); (case k5 => k_is); (case k18 => (intro Q' hQ'; walk1; exact hQ')); (case k19 => (intro s' Q' kF' hQ'; walk1; exact hQ')); (case k6 => k_mem); (case k7 => k_mem); (case k8 => k_mem); (case k9 => assumption); (case k10 => assumption); (case k11 => omega); (case k12 => exact fun o ho => OthIn.mono ((by assumption : ∀ o ∈ _, OthIn _ o) o ho) fun p hp => (by (repeat (first | exact hp | apply List.Mem.tail)))); (case k13 => (simp only [depth_deeper]; decide)); (case k14 => exact dh rfl); (case k17 => assumption); (case k15 => k_mem); (case k16 => k_mem); (case k20 => exact rfl); k_whole); intro h' tk' u' udx' nu' F' N' U' lu' Gu' ne'; clear U'; obtain ⟨ne1, ne2, ne3, ne4⟩ := ne'))
local macro_rules | `(tactic| k_all) => `(tactic| (refine' far ?k1 ?k2; (case k1 => assumption); (case k2 => omega)))
set_option maxHeartbeats 4000000 in
theorem tail4 {w : World} {s : Shared} {g : Heap} {L fa : Addr} {cd : Value} {m mg mb : Str → Option Value} {loose : List Str} {mean : ExcName → Option Value} {E : Value → Shared → Prop} {Q : Flow → Shared → Prop}
    {st ot pl due cell sl rows first fdx I : Nat} {os : List Oth} {ps : List Addr} {es : List DictEntry} {rest : List (Addr × Obj)} {i sd : Int} {ti td : Tok} {n1 no np nd nsl nr nf : Nat} {ws : List Value} {oc : Obj} {cv : Option Value}
    (X : (hd.heap_39 w.params).In g) (T : Top hd.view_39 loose mean mg mb g) (F : Fr g L s.heap m)
    (N : News g L s.heap ((st, listOf #[.ref sl, .int i ti, .int sd td] n1) :: (ot, listOf (os.map (·.v)).toArray no) :: (pl, listOf (ps.map Value.ref).toArray np) :: (due, dictOf (uAll es os) nd) :: (cell, oc) :: (sl, listOf ws.toArray nsl) :: (rows, dictOf es nr) :: (first, immO fdx es nf) :: (fdx, dictOf [] 0) :: rest))
    (Z : TS es os ps rest rows first due) (hoc : oc.data = .cell cv) (htl : Far rest I) (ord : LawOrd cell sl st rows first fdx ot pl) (hI : pl < I) (hdst : @Ne Nat due st) (hdc : @Ne Nat due cell)
    (hcl : cell = L + 1)
    (hm : LawN st rows first ot pl due m) (i0 : 0 ≤ i) (hws : ∃ ns, IntsAre ws ns ∧ ns.length ≤ 63)
    (next : ∀ (c : LC) (h' : Heap) (tk : Nat) (m' : Str → Option Value), LF c L → LN c m' → Fr g L h' m' → News g L h' (c.led L) → wpAny (model Challenge.rw_eu0031_01.row.prog w) (callerA.deeper (lawEnv L fa cd)) (execs (lawTail 5) (lawEnv L fa cd)) Q E { s with heap := h', toks := tk }) :
    wpAny (model Challenge.rw_eu0031_01.row.prog w) (callerA.deeper (lawEnv L fa cd)) (execs (lawTail 4) (lawEnv L fa cd)) Q E s := by
  w_top off
  revert X; k_fill; intro X
  have Z' := Z
  have ord' := ord
  obtain ⟨G, GU, lo, lp, oth, pls, r2, f2, d2⟩ := Z
  subst hcl
  obtain ⟨o1, o2, o3, o4, o5, o6, o7, o8, o9⟩ := ord
  replace F := frm F hm.eq
  refine ex_tail 4 rfl fun Q₁ hn hr => ?_
  (with_reducible show wpAny _ _ _ _ _ _)
  k_steps
  with_reducible rename Fr _ _ _ _ => kF
  with_reducible rename News _ _ _ _ => kN
  with_reducible rename UId _ _ _ _ _ => hU
  have hnw := fun q => Z'.keep (u := _) (fun p hp => (by (repeat (first | exact hp | apply List.Mem.tail)))) (by k_mem) (hU.new q)
  refine hn _ (next ⟨st, ot, pl, due, sl, rows, first, fdx, _, _, _, _, I, os, ps, es, rest, i, sd, ti, td, n1, no, np, nd, nsl, nr, nf, _, _, ws, _⟩ _ _ _ ?LF ⟨⟨rfl, rfl, rfl, rfl, rfl, rfl⟩, rfl⟩ kF (led_perm kN))
  exact ⟨Z', by assumption, htl, ord', hI, hdst, by assumption, by assumption, ⟨by assumption, by assumption, by assumption, by assumption⟩, hU.same, hU.one, hnw, i0, hws⟩
end Mine
end

section
open PySem PySem.W PyProof.Rows PySem.Calls
set_option maxRecDepth 100000
namespace Mine
local macro_rules | `(tactic| walk_at "no such step") => `(tactic| skip)
local macro_rules | `(tactic| passes_own) => `(tactic| assumption)
local macro_rules | `(tactic| walk_at "eval Call Name") => `(tactic| (k_here; (with_reducible show wpAny _ _ (eval (PySem.Expr.Call (PySem.Expr.Name (PySem.Str.ofString "list") _) [PySem.Expr.Call (PySem.Expr.Attribute _ (PySem.Str.ofString "items") _) [] [] _] [] _) _) (fun a s₁ => wpAny _ _ (eval _ _) (fun b s₂ => wpAny _ _ (compareOp _ a b) _ _ s₂) _ s₁) _ _); k_dflt (refine' cmp_items ?k1 ?k2 ?k3 ?k4 ?k5 ?k6 ?k7 ?k8 ?_ ?k10 ?k11 ?k12 ?k13; (case k1 => k_asm); (case k2 => k_asm); (case k3 => k_asm); (case k4 => exact dh rfl); (case k5 => ke_room); (case k6 => (intro pn' s' Q' kF' hQ'; walk1; exact hQ')); (case k7 => (intro s' Q' gr' kF' kN' hQ'; walk1; first | exact hQ' _ _ gr' (DArg.dic (News.get kN' (by k_mem)) (by assumption) (by assumption)) | exact hQ' _ _ gr' (DArg.imm (News.get kN' (by k_mem)) (News.get kN' (by k_mem)) (by assumption) (by assumption)))); (case k8 => (intro s' Q' gr' kF' kN' hQ'; walk1; first | exact hQ' _ _ (Gro.refl _) (DArg.dic (News.get kN' (by k_mem)) (by assumption) (by assumption)) | exact hQ' _ _ (Gro.refl _) (DArg.imm (News.get kN' (by k_mem)) (News.get kN' (by k_mem)) (by assumption) (by assumption)))); (case k10 => first | exact .inl rfl | exact .inr rfl); (case k11 => assumption); (case k12 => exact fun Q' s' h => MethodCall_ h); (case k13 => exact fun Q' s' h => MethodCall_ h); k_whole); intro h' tk' F' N'; (try dsimp only); (try k_sweep)))
local macro_rules | `(tactic| walk_at "call builtin:isinstance") => `(tactic| (k_here; (with_reducible show wpAny _ _ (call _ [Value.ref _, Value.ref 145]) _ _ _); k_dflt (refine' isi_imm ?k1 ?k2 ?_; (case k1 => k_in); (case k2 => exact News.get (by k_asm) (by k_mem)); k_whole)))
set_option maxHeartbeats 4000000 in
theorem tail5 {w : World} {s : Shared} {g : Heap} {L fa : Addr} {cd : Value} {m mg mb : Str → Option Value} {loose : List Str} {mean : ExcName → Option Value} {E : Value → Shared → Prop} {Q : Flow → Shared → Prop} {c : LC}
    (X : (hd.heap_39 w.params).In g) (T : Top hd.view_39 loose mean mg mb g) (F : Fr g L s.heap m) (N : News g L s.heap (c.led L)) (D : LF c L) (hm : LN c m) (hE : PassesOwn (model Challenge.rw_eu0031_01.row.prog w) (callerA.deeper (lawEnv L fa cd)) (lawEnv L fa cd) E)
    (next : ∀ (h' : Heap) (tk : Nat) (m' : Str → Option Value), LN c m' → Fr g L h' m' → News g L h' (c.led L) → wpAny (model Challenge.rw_eu0031_01.row.prog w) (callerA.deeper (lawEnv L fa cd)) (execs (lawTail 6) (lawEnv L fa cd)) Q E { s with heap := h', toks := tk }) :
    wpAny (model Challenge.rw_eu0031_01.row.prog w) (callerA.deeper (lawEnv L fa cd)) (execs (lawTail 5) (lawEnv L fa cd)) Q E s := by
  w_top off
  revert X; k_fill; intro X
  obtain ⟨st, ot, pl, due, sl, rows, first, fdx, u, udx, u2, udx2, I, os, ps, es, rest, i, sd, ti, td, n1, no, np, nd, nsl, nr, nf, nu, nu2, ws, oc⟩ := c
  obtain ⟨⟨G, GU, lo, lp, oth, pls, r2, f2, d2⟩, hoc, far', ord, hI, hdst, u2s, u22s, ne, same, one, new, i0, hws⟩ := D
  obtain ⟨hmb, hm7⟩ := hm
  (try dsimp only at *)
  unfold LC.led at N
  (try dsimp only at N)
  replace F := frm F (setm hm7)
  replace F := frm F (congrArg (fun f : Str → Option Value => fun y => if y = Str.ofString "merged" then some (Value.ref u2) else f y) hmb.eq)
  (try dsimp only at F)
  refine ex_tail 5 rfl fun Q₁ hn hr => ?_
  (with_reducible show wpAny _ _ _ _ _ _)
  k_steps
  with_reducible rename Fr _ _ _ _ => kF
  with_reducible rename News _ _ _ _ => kN
  refine tup_loop (vs := [.ref u, .ref u2]) [Str.ofString "one"] (dh rfl) kF kN (by k_mem) (fun I x i hx h tk m₁ o1 R hm₁ F₁ N₁ END => ?_) (fun m₁ h tk hm₁ F₁ N₁ => ?_)
  · clear kF kN
    replace F₁ := frm F₁ (off1 hm₁)
    (try dsimp only at F₁)
    change Fr g L _ _ at F₁
    change News g L _ _ at N₁
    have hx' : x = .ref u ∨ x = .ref u2 := by
      have := List.mem_of_getElem? hx
      simpa using this
    rcases hx' with rfl | rfl
    all_goals
      (with_reducible show wpAny _ _ _ _ _ _)
      k_steps
      with_reducible rename Fr _ _ _ _ => kF'
      with_reducible rename News _ _ _ _ => kN'
      refine END _ _ _ kF' kN' ?_
      intro z hz
      have hz' : ¬ z = Str.ofString "one" := by simpa using hz
      simp only [if_neg hz']
  · refine hn _ (next _ _ _ ⟨⟨?_, ?_, ?_, ?_, ?_, ?_⟩, ?_⟩ F₁ fun p hp => N₁ p (.tail _ hp))
    all_goals exact (hm₁ _ (by decide)).trans rfl
end Mine
end

section
open PySem PySem.W PyProof.Rows PySem.Calls
set_option maxRecDepth 100000
namespace Mine
local macro_rules | `(tactic| passes_own) => `(tactic| assumption)
set_option maxHeartbeats 4000000 in
theorem tail6 {w : World} {s : Shared} {g : Heap} {L fa : Addr} {cd : Value} {m mg mb : Str → Option Value} {loose : List Str} {mean : ExcName → Option Value} {E : Value → Shared → Prop} {Q : Flow → Shared → Prop} {c : LC}
    (X : (hd.heap_39 w.params).In g) (T : Top hd.view_39 loose mean mg mb g) (F : Fr g L s.heap m) (N : News g L s.heap (c.led L)) (D : LF c L) (hm : LN c m) (hE : PassesOwn (model Challenge.rw_eu0031_01.row.prog w) (callerA.deeper (lawEnv L fa cd)) (lawEnv L fa cd) E)
    (next : ∀ (h' : Heap) (tk : Nat) (m' : Str → Option Value) (fl : Nat), LN c m' → m' (Str.ofString "full") = some (.ref fl) → Fr g L h' m' → News g L h' ((fl, listOf (fullOf c.os).toArray (fullOf c.os).length) :: c.led L) → wpAny (model Challenge.rw_eu0031_01.row.prog w) (callerA.deeper (lawEnv L fa cd)) (execs (lawTail 7) (lawEnv L fa cd)) Q E { s with heap := h', toks := tk }) :
    wpAny (model Challenge.rw_eu0031_01.row.prog w) (callerA.deeper (lawEnv L fa cd)) (execs (lawTail 6) (lawEnv L fa cd)) Q E s := by
  w_top off
  revert X; k_fill; intro X
  obtain ⟨st, ot, pl, due, sl, rows, first, fdx, u, udx, u2, udx2, I, os, ps, es, rest, i, sd, ti, td, n1, no, np, nd, nsl, nr, nf, nu, nu2, ws, oc⟩ := c
  obtain ⟨⟨G, GU, lo, lp, oth, pls, r2, f2, d2⟩, hoc, far', ord, hI, hdst, u2s, u22s, ne, same, one, new, i0, hws⟩ := D
  obtain ⟨hmb, hm7⟩ := hm
  (try dsimp only at *)
  unfold LC.led at N
  (try dsimp only at N)
  replace F := frm F (setm hm7)
  replace F := frm F (congrArg (fun f : Str → Option Value => fun y => if y = Str.ofString "merged" then some (Value.ref u2) else f y) hmb.eq)
  (try dsimp only at F)
  refine ex_tail 6 rfl fun Q₁ hn hr => ?_
  (with_reducible show wpAny _ _ _ _ _ _)
  k_dflt (refine LCt.Assign_ListComp_T (F₀ := F) (by rfl) (by with_unfolding_all rfl) (by with_unfolding_all rfl) (by decide) (by rfl) (by decide) (by rfl) (by rfl) (by rfl) ?_)
  walk1
  refine LCt.CompSrcT.ledger (dh rfl) F N (by k_mem) (fit63 (by rw [List.length_map]; omega)) fun g' => ?_
  refine rest_filterX (f := fun o : Oth => o.v) (fun o => !o.es.isEmpty) (.inr ⟨_, by k_mem, rfl, _, rfl⟩) (fun o I' oI C oC D' m₂ h tk ys E' Q' ho hC hx F' N' q => ?_) (fun _ => rfl) (fun _ => rfl) (by decide) ?_
  · refine isTrue_plain (LCgL.ld_own N' (.tail _ (.head _)) hC hx ?_ rfl rfl)
    have NN : News g L h rest := fun p hp => N' p (by (repeat (first | exact hp | apply List.Mem.tail)))
    exact truthy_Oth (X.keeps F'.keep) ((oth o ho).at NN) q
  · intro fl h tk F' N' off
    refine hn _ (next _ _ _ fl ⟨⟨rfl, rfl, rfl, rfl, rfl, rfl⟩, rfl⟩ rfl F' N')
end Mine
end

section
open PySem PySem.W PyProof.Rows PySem.Calls
set_option maxRecDepth 100000
namespace Mine
local macro_rules | `(tactic| passes_own) => `(tactic| assumption)
local macro_rules | `(tactic| walk_at "compareOp Eq ref ref") => `(tactic| (k_here; (with_reducible show wpAny _ _ (compareOp CmpOp.Eq (Value.ref _) (Value.ref _)) _ _ _); k_dflt (refine' eq_nilL2 ?k1 ?k2 ?k3 ?k4 ?_; (case k1 => exact News.get (by k_asm) (by k_mem)); (case k2 => exact News.get (by k_asm) (by k_mem)); (case k3 => ke_room); (case k4 => assumption); k_whole)))
local macro_rules | `(tactic| walk_at "compareOp NotEq ref ref") => `(tactic| (k_here; (with_reducible show wpAny _ _ (compareOp CmpOp.NotEq (Value.ref _) (Value.ref _)) _ _ _); k_dflt (refine' ne_nilL2 ?k1 ?k2 ?k3 ?k4 ?_; (case k1 => exact News.get (by k_asm) (by k_mem)); (case k2 => exact News.get (by k_asm) (by k_mem)); (case k3 => ke_room); (case k4 => assumption); (try dsimp only [Bool.not_true, Bool.not_false]); k_whole)))
set_option maxHeartbeats 4000000 in
theorem tail7 {w : World} {s : Shared} {g : Heap} {L fa : Addr} {cd : Value} {m mg mb : Str → Option Value} {loose : List Str} {mean : ExcName → Option Value} {E : Value → Shared → Prop} {Q : Flow → Shared → Prop} {c : LC} {fl : Nat}
    (X : (hd.heap_39 w.params).In g) (T : Top hd.view_39 loose mean mg mb g) (F : Fr g L s.heap m) (N : News g L s.heap ((fl, listOf (fullOf c.os).toArray (fullOf c.os).length) :: c.led L)) (D : LF c L) (hm : LN c m) (hE : PassesOwn (model Challenge.rw_eu0031_01.row.prog w) (callerA.deeper (lawEnv L fa cd)) (lawEnv L fa cd) E) (hmf : m (Str.ofString "full") = some (.ref fl))
    (next : ∀ (h' : Heap) (tk : Nat) (m' : Str → Option Value), LN c m' → m' (Str.ofString "full") = some (.ref fl) → Fr g L h' m' → News g L h' ((fl, listOf (fullOf c.os).toArray (fullOf c.os).length) :: c.led L) → wpAny (model Challenge.rw_eu0031_01.row.prog w) (callerA.deeper (lawEnv L fa cd)) (execs (lawTail 8) (lawEnv L fa cd)) Q E { s with heap := h', toks := tk }) :
    wpAny (model Challenge.rw_eu0031_01.row.prog w) (callerA.deeper (lawEnv L fa cd)) (execs (lawTail 7) (lawEnv L fa cd)) Q E s := by
  w_top off
  revert X; k_fill; intro X
  obtain ⟨st, ot, pl, due, sl, rows, first, fdx, u, udx, u2, udx2, I, os, ps, es, rest, i, sd, ti, td, n1, no, np, nd, nsl, nr, nf, nu, nu2, ws, oc⟩ := c
  have D' := D
  obtain ⟨⟨G, GU, lo, lp, oth, pls, r2, f2, d2⟩, hoc, far', ord, hI, hdst, u2s, u22s, ne, same, one, new, i0, hws⟩ := D
  obtain ⟨hmb, hm7⟩ := hm
  unfold LC.led at N
  (try dsimp only at *)
  replace F := frm F (setm hmf)
  replace F := frm F (congrArg (fun f : Str → Option Value => fun y => if y = Str.ofString "full" then some (Value.ref fl) else f y) (setm hm7))
  replace F := frm F (congrArg (fun f : Str → Option Value => fun y => if y = Str.ofString "full" then some (Value.ref fl) else if y = Str.ofString "merged" then some (Value.ref u2) else f y) hmb.eq)
  (try dsimp only at F)
  refine ex_tail 7 rfl fun Q₁ hn hr => ?_
  by_cases hf : fullOf os = []
  · have hu : u = first := D'.first_of hf
    have hb : (fullOf os).isEmpty = true := by rw [hf]; rfl
    subst hu
    (with_reducible show wpAny _ _ _ _ _ _)
    k_steps
    with_reducible rename Fr _ _ _ _ => kF
    with_reducible rename News _ _ _ _ => kN
    exact hn _ (next _ _ _ ⟨⟨rfl, rfl, rfl, rfl, rfl, rfl⟩, rfl⟩ rfl kF fun p hp => kN p (.tail _ hp))
  · have hb : (fullOf os).isEmpty = false := by simpa using hf
    (with_reducible show wpAny _ _ _ _ _ _)
    k_steps
    with_reducible rename Fr _ _ _ _ => kF
    with_reducible rename News _ _ _ _ => kN
    exact hn _ (next _ _ _ ⟨⟨rfl, rfl, rfl, rfl, rfl, rfl⟩, rfl⟩ rfl kF fun p hp => kN p (.tail _ hp))
end Mine
end

section
open PySem PySem.W PyProof.Rows PySem.Calls
set_option maxRecDepth 100000
namespace Mine
local macro_rules | `(tactic| passes_own) => `(tactic| assumption)
section
variable {prog : Program} {w : World} {A : Around} {E : Value → Shared → Prop} {s : Shared} {l : Addr} {vs : List Value} {n : Nat} {Q : Value → Shared → Prop} {k : Int}
theorem led_len (hl : s.heap.get? l = some (listOf vs.toArray n)) (e : (vs.length : Int) = k) (hk : k < 2 ^ 63) (h : Q (.int k (s.toks + 1)) { s with toks := s.toks + 1 + 1 }) : wpAny (model prog w) A (call (.builtin "len") [.ref l]) Q E s := by
  subst e
  refine len_list ⟨_, hl, rfl, _, rfl⟩ (by simpa using hk) ?_
  simpa using h
end
theorem item_full {os : List Oth} {x : Value} (h : fullOf os = [x]) : (fullOf os).toArray[(0 : Int).toNat]? = some x := by rw [h]; rfl
theorem full_le (os : List Oth) : (fullOf os).length ≤ os.length := by
  unfold fullOf
  rw [List.length_map]
  exact List.length_filter_le _ _
local macro_rules | `(tactic| walk_at "compareOp Eq ref ref") => `(tactic| (k_here; (with_reducible show wpAny _ _ (compareOp CmpOp.Eq (Value.ref _) (Value.ref _)) _ _ _); k_dflt (refine' eq_nilD2 ?k5 ?k6 ?k1 ?k2 ?k3 ?k4 ?_; (case k1 => exact News.get (by k_asm) (by k_mem)); (case k2 => exact News.get (by k_asm) (by k_mem)); (case k3 => ke_room); (case k4 => assumption); (case k5 => assumption); (case k6 => assumption); k_whole)))
local macro_rules | `(tactic| walk_at "compareOp NotEq ref ref") => `(tactic| (k_here; (with_reducible show wpAny _ _ (compareOp CmpOp.NotEq (Value.ref _) (Value.ref _)) _ _ _); k_dflt (refine' ne_nilD2 ?k5 ?k6 ?k1 ?k2 ?k3 ?k4 ?_; (case k1 => exact News.get (by k_asm) (by k_mem)); (case k2 => exact News.get (by k_asm) (by k_mem)); (case k3 => ke_room); (case k4 => assumption); (case k5 => assumption); (case k6 => assumption); (try dsimp only [Bool.not_true, Bool.not_false]); k_whole)))
local macro_rules | `(tactic| walk_at "eval Dict nil nil") => `(tactic| (k_here; k_dflt (refine' led_empty ?k1 ?k2 ?k3 ?_; (case k1 => k_asm); (case k2 => k_asm); (case k3 => k_asm); k_whole); intro h' d' F' N' l1 l2 l3; clear l3; (try k_lt l1); (try k_sweep)))
local macro_rules | `(tactic| walk_at "call builtin:len") => `(tactic| (k_here; k_dflt (refine' led_len ?k1 ?k2 ?k3 ?_; (case k1 => exact News.get (by k_asm) (by k_mem)); (case k2 => assumption); (case k3 => decide); k_whole)))
local macro_rules | `(tactic| walk_at "subscriptTail Name Constant ref int") => `(tactic| (k_here; (with_reducible show wpAny _ _ (subscriptTail (PySem.Expr.Name _ _) (PySem.Expr.Constant _ _ _) (Value.ref _) (Value.int _ _)) _ _ _); k_dflt (refine' item_pos ?k1 ?k2 ?k3 ?k4 ?_; (case k1 => exact News.isList (by k_asm) (by k_mem)); (case k2 => decide); (case k3 => decide); (case k4 => first | exact item_full (by assumption) | exact rfl); k_whole)))
local macro_rules | `(tactic| walk_at "call builtin:isinstance") => `(tactic| (k_here; (with_reducible show wpAny _ _ (call _ [Value.ref _, Value.ref 145]) _ _ _); k_dflt (refine' isi_imm ?k1 ?k2 ?_; (case k1 => k_in); (case k2 => exact News.get (by k_asm) (by (repeat (first | assumption | apply List.Mem.tail)))); k_whole)))
local macro_rules | `(tactic| walk_at "call builtin:isinstance") => `(tactic| (k_here; (with_reducible show wpAny _ _ (call _ [Value.ref _, Value.ref 145]) _ _ _); k_dflt (refine' isi_dic ?k1 ?k2 ?_; (case k1 => k_in); (case k2 => exact News.get (by k_asm) (by (repeat (first | assumption | apply List.Mem.tail)))); k_whole)))
set_option maxHeartbeats 4000000 in
theorem tail8 {w : World} {s : Shared} {g : Heap} {L fa : Addr} {cd : Value} {m mg mb : Str → Option Value} {loose : List Str} {mean : ExcName → Option Value} {E : Value → Shared → Prop} {Q : Flow → Shared → Prop} {c : LC} {fl : Nat}
    (X : (hd.heap_39 w.params).In g) (T : Top hd.view_39 loose mean mg mb g) (F : Fr g L s.heap m) (N : News g L s.heap ((fl, listOf (fullOf c.os).toArray (fullOf c.os).length) :: c.led L)) (D : LF c L) (hm : LN c m) (hE : PassesOwn (model Challenge.rw_eu0031_01.row.prog w) (callerA.deeper (lawEnv L fa cd)) (lawEnv L fa cd) E) (hmf : m (Str.ofString "full") = some (.ref fl))
    (next : ∀ (h' : Heap) (tk : Nat) (m' : Str → Option Value), LN c m' → m' (Str.ofString "full") = some (.ref fl) → Fr g L h' m' → News g L h' ((fl, listOf (fullOf c.os).toArray (fullOf c.os).length) :: c.led L) → wpAny (model Challenge.rw_eu0031_01.row.prog w) (callerA.deeper (lawEnv L fa cd)) (execs (lawTail 9) (lawEnv L fa cd)) Q E { s with heap := h', toks := tk }) :
    wpAny (model Challenge.rw_eu0031_01.row.prog w) (callerA.deeper (lawEnv L fa cd)) (execs (lawTail 8) (lawEnv L fa cd)) Q E s := by
  w_top off
  revert X; k_fill; intro X
  obtain ⟨st, ot, pl, due, sl, rows, first, fdx, u, udx, u2, udx2, I, os, ps, es, rest, i, sd, ti, td, n1, no, np, nd, nsl, nr, nf, nu, nu2, ws, oc⟩ := c
  have D' := D
  obtain ⟨⟨G, GU, lo, lp, oth, pls, r2, f2, d2⟩, hoc, far', ord, hI, hdst, u2s, u22s, ne, same, one, new, i0, hws⟩ := D
  obtain ⟨hmb, hm7⟩ := hm
  unfold LC.led at N
  (try dsimp only at *)
  replace F := frm F (setm hmf)
  replace F := frm F (congrArg (fun f : Str → Option Value => fun y => if y = Str.ofString "full" then some (Value.ref fl) else f y) (setm hm7))
  replace F := frm F (congrArg (fun f : Str → Option Value => fun y => if y = Str.ofString "full" then some (Value.ref fl) else if y = Str.ofString "merged" then some (Value.ref u2) else f y) hmb.eq)
  (try dsimp only at F)
  refine ex_tail 8 rfl fun Q₁ hn hr => ?_
  have hle := full_le os
  have hc : ((fullOf os).length : Int) = 0 ∨ ((fullOf os).length : Int) = 1 ∨ ((fullOf os).length : Int) = 2 ∨ ((fullOf os).length : Int) = 3 := by omega
  rcases hc with hl | hl | hl | hl
  · (with_reducible show wpAny _ _ _ _ _ _)
    k_steps
    with_reducible rename Fr _ _ _ _ => kF
    with_reducible rename News _ _ _ _ => kN
    exact hn _ (next _ _ _ ⟨⟨rfl, rfl, rfl, rfl, rfl, rfl⟩, rfl⟩ rfl kF fun p hp => kN p hp)
  · obtain ⟨x, hx⟩ : ∃ x, fullOf os = [x] := List.length_eq_one_iff.mp (by omega)
    by_cases he : es = []
    · have heb : es.isEmpty = true := by rw [he]; rfl
      obtain ⟨o, a, ho, hov, rfl, hu⟩ := D'.only hx heb
      have Do := oth o ho
      obtain ⟨ov, oes, oim⟩ := o
      dsimp only at hov hu Do
      subst hov
      cases Do with
      | dic e G' l' =>
        clear hu
        (with_reducible show wpAny _ _ _ _ _ _)
        k_steps
        with_reducible rename Fr _ _ _ _ => kF
        with_reducible rename News _ _ _ _ => kN
        exact hn _ (next _ _ _ ⟨⟨rfl, rfl, rfl, rfl, rfl, rfl⟩, rfl⟩ rfl kF fun p hp => kN p (.tail _ hp))
      | imm e e' G' l' =>
        have hu := hu rfl
        subst hu
        (with_reducible show wpAny _ _ _ _ _ _)
        k_steps
        with_reducible rename Fr _ _ _ _ => kF
        with_reducible rename News _ _ _ _ => kN
        exact hn _ (next _ _ _ ⟨⟨rfl, rfl, rfl, rfl, rfl, rfl⟩, rfl⟩ rfl kF fun p hp => kN p (.tail _ hp))
    · have heb : es.isEmpty = false := by simpa using he
      (with_reducible show wpAny _ _ _ _ _ _)
      k_steps
      with_reducible rename Fr _ _ _ _ => kF
      with_reducible rename News _ _ _ _ => kN
      exact hn _ (next _ _ _ ⟨⟨rfl, rfl, rfl, rfl, rfl, rfl⟩, rfl⟩ rfl kF fun p hp => kN p (.tail _ hp))
  · (with_reducible show wpAny _ _ _ _ _ _)
    k_steps
    with_reducible rename Fr _ _ _ _ => kF
    with_reducible rename News _ _ _ _ => kN
    exact hn _ (next _ _ _ ⟨⟨rfl, rfl, rfl, rfl, rfl, rfl⟩, rfl⟩ rfl kF fun p hp => kN p hp)
  · (with_reducible show wpAny _ _ _ _ _ _)
    k_steps
    with_reducible rename Fr _ _ _ _ => kF
    with_reducible rename News _ _ _ _ => kN
    exact hn _ (next _ _ _ ⟨⟨rfl, rfl, rfl, rfl, rfl, rfl⟩, rfl⟩ rfl kF fun p hp => kN p hp)
end Mine
end

section
open PySem PySem.W PyProof.Rows PySem.Calls
set_option maxRecDepth 100000
namespace Mine
local macro_rules | `(tactic| passes_own) => `(tactic| assumption)
local macro_rules | `(tactic| walk_at "compareOp Eq ref ref") => `(tactic| (k_here; (with_reducible show wpAny _ _ (compareOp CmpOp.Eq (Value.ref _) (Value.ref _)) _ _ _); k_dflt (refine' eq_nilD2 ?k5 ?k6 ?k1 ?k2 ?k3 ?k4 ?_; (case k1 => exact News.get (by k_asm) (by k_mem)); (case k2 => exact News.get (by k_asm) (by k_mem)); (case k3 => ke_room); (case k4 => assumption); (case k5 => assumption); (case k6 => assumption); k_whole)))
local macro_rules | `(tactic| walk_at "compareOp NotEq ref ref") => `(tactic| (k_here; (with_reducible show wpAny _ _ (compareOp CmpOp.NotEq (Value.ref _) (Value.ref _)) _ _ _); k_dflt (refine' ne_nilD2 ?k5 ?k6 ?k1 ?k2 ?k3 ?k4 ?_; (case k1 => exact News.get (by k_asm) (by k_mem)); (case k2 => exact News.get (by k_asm) (by k_mem)); (case k3 => ke_room); (case k4 => assumption); (case k5 => assumption); (case k6 => assumption); (try dsimp only [Bool.not_true, Bool.not_false]); k_whole)))
local macro_rules | `(tactic| walk_at "compareOp Eq ref ref") => `(tactic| (k_here; (with_reducible show wpAny _ _ (compareOp CmpOp.Eq (Value.ref _) (Value.ref _)) _ _ _); k_dflt (refine' eq_nilL2 ?k1 ?k2 ?k3 ?k4 ?_; (case k1 => exact News.get (by k_asm) (by k_mem)); (case k2 => exact News.get (by k_asm) (by k_mem)); (case k3 => ke_room); (case k4 => assumption); k_whole)))
local macro_rules | `(tactic| walk_at "compareOp NotEq ref ref") => `(tactic| (k_here; (with_reducible show wpAny _ _ (compareOp CmpOp.NotEq (Value.ref _) (Value.ref _)) _ _ _); k_dflt (refine' ne_nilL2 ?k1 ?k2 ?k3 ?k4 ?_; (case k1 => exact News.get (by k_asm) (by k_mem)); (case k2 => exact News.get (by k_asm) (by k_mem)); (case k3 => ke_room); (case k4 => assumption); (try dsimp only [Bool.not_true, Bool.not_false]); k_whole)))
local macro_rules | `(tactic| walk_at "eval Dict nil nil") => `(tactic| (k_here; k_dflt (refine' led_empty ?k1 ?k2 ?k3 ?_; (case k1 => k_asm); (case k2 => k_asm); (case k3 => k_asm); k_whole); intro h' d' F' N' l1 l2 l3; clear l3; (try k_lt l1); (try k_sweep)))
local macro_rules | `(tactic| walk_at "call builtin:len") => `(tactic| (k_here; k_dflt (refine' led_len ?k1 ?k2 ?k3 ?_; (case k1 => exact News.get (by k_asm) (by k_mem)); (case k2 => assumption); (case k3 => decide); k_whole)))
local macro_rules | `(tactic| walk_at "eval ListComp") => `(tactic| (k_here; (with_reducible show wpAny _ _ (eval (PySem.Expr.ListComp _ _ _ _) _) _ _ _); refine stop ?_))
local macro_rules | `(tactic| walk_at "CompSrcT") => `(tactic| (k_here; refine stop ?_))
local macro_rules | `(tactic| walk_at "binaryOp Add ref ref") => `(tactic| (k_here; k_dflt (refine' add_lists ?k1 ?k2 ?k3 ?k4 ?_ ?k5; (case k1 => k_asm); (case k2 => k_asm); (case k3 => exact News.isList (by k_asm) (by k_mem)); (case k4 => exact News.isList (by k_asm) (by k_mem)); (case k5 => (rw [List.length_map]; exact Nat.le_trans (Nat.add_le_add (by assumption) (Nat.le_refl _)) (by decide))); k_whole); intro h' F' N'; (try k_sweep)))
theorem told_apart {os : List Oth} {rest news : List (Addr × Obj)} {first u : Addr} {of : Obj} {v : Value} (oth : ∀ o ∈ os, OthIn rest o) (hr : ∀ p ∈ rest, p ∈ news) (hf : (first, of) ∈ news) (fr : (∀ o ∈ os, o.v ≠ .ref u) ∧ first ≠ u) (hv : (∃ o ∈ os, o.v = v) ∨ v = .ref first) :
    v = .none ∨ ∃ (a : Addr) (ob : Obj), v = .ref a ∧ a ≠ u ∧ (a, ob) ∈ news := by
  rcases hv with ⟨o, ho, rfl⟩ | rfl
  · have h1 := fr.1 o ho
    cases oth o ho with
    | none => exact .inl rfl
    | dic e => exact .inr ⟨_, _, rfl, fun e => h1 (by rw [e]), hr _ e⟩
    | imm e => exact .inr ⟨_, _, rfl, fun e => h1 (by rw [e]), hr _ e⟩
  · exact .inr ⟨_, _, rfl, fr.2, hf⟩
local macro_rules | `(tactic| walk_at "compareOp Is ref ref") => `(tactic| (k_here; k_dflt (refine' wpAny_is_ref_other ?k1 ?k2 ?k3 ?k4 ?_; (case k1 => exact Ne.symm (by assumption)); (case k2 => exact News.get (by k_asm) (by k_mem)); (case k3 => exact News.get (by k_asm) (by (repeat (first | assumption | apply List.Mem.tail)))); (case k4 => (intro z; cases z)); k_whole)))
set_option maxHeartbeats 4000000 in
theorem tail9 {w : World} {s : Shared} {g : Heap} {L fa : Addr} {cd : Value} {m mg mb : Str → Option Value} {loose : List Str} {mean : ExcName → Option Value} {E : Value → Shared → Prop} {Q : Flow → Shared → Prop} {c : LC} {fl : Nat}
    (X : (hd.heap_39 w.params).In g) (T : Top hd.view_39 loose mean mg mb g) (F : Fr g L s.heap m) (N : News g L s.heap ((fl, listOf (fullOf c.os).toArray (fullOf c.os).length) :: c.led L)) (D : LF c L) (hm : LN c m) (hE : PassesOwn (model Challenge.rw_eu0031_01.row.prog w) (callerA.deeper (lawEnv L fa cd)) (lawEnv L fa cd) E) (hmf : m (Str.ofString "full") = some (.ref fl))
    (next : ∀ (h' : Heap) (tk : Nat) (m' : Str → Option Value), LN c m' → Fr g L h' m' → News g L h' (c.led L) → wpAny (model Challenge.rw_eu0031_01.row.prog w) (callerA.deeper (lawEnv L fa cd)) (execs (lawTail 10) (lawEnv L fa cd)) Q E { s with heap := h', toks := tk }) :
    wpAny (model Challenge.rw_eu0031_01.row.prog w) (callerA.deeper (lawEnv L fa cd)) (execs (lawTail 9) (lawEnv L fa cd)) Q E s := by
  w_top off
  revert X; k_fill; intro X
  obtain ⟨st, ot, pl, due, sl, rows, first, fdx, u, udx, u2, udx2, I, os, ps, es, rest, i, sd, ti, td, n1, no, np, nd, nsl, nr, nf, nu, nu2, ws, oc⟩ := c
  have D' := D
  obtain ⟨⟨G, GU, lo, lp, oth, pls, r2, f2, d2⟩, hoc, far', ord, hI, hdst, u2s, u22s, ne, same, one, new, i0, hws⟩ := D
  obtain ⟨hmb, hm7⟩ := hm
  unfold LC.led at N
  (try dsimp only at *)
  replace F := frm F (setm hmf)
  replace F := frm F (congrArg (fun f : Str → Option Value => fun y => if y = Str.ofString "full" then some (Value.ref fl) else f y) (setm hm7))
  replace F := frm F (congrArg (fun f : Str → Option Value => fun y => if y = Str.ofString "full" then some (Value.ref fl) else if y = Str.ofString "merged" then some (Value.ref u2) else f y) hmb.eq)
  (try dsimp only at F)
  refine ex_tail 9 rfl fun Q₁ hn hr => ?_
  have hle := full_le os
  have hc : ((fullOf os).length : Int) = 0 ∨ ((fullOf os).length : Int) = 1 ∨ ((fullOf os).length : Int) = 2 ∨ ((fullOf os).length : Int) = 3 := by omega
  have he : es.isEmpty = true ∨ es.isEmpty = false := by cases es.isEmpty <;> simp
  have hne : (fullOf os).isEmpty = false ∨ fullOf os = [] := by cases fullOf os <;> simp
  rcases hne with hb | hb
  rotate_left
  · rw [hb] at hc
    have hl : ((fullOf os).length : Int) = 0 := by rw [hb]; rfl
    have hb : (fullOf os).isEmpty = true := by rw [hb]; rfl
    (with_reducible show wpAny _ _ _ _ _ _)
    k_steps
    with_reducible rename Fr _ _ _ _ => kF
    with_reducible rename News _ _ _ _ => kN
    exact hn _ (next _ _ _ ⟨⟨rfl, rfl, rfl, rfl, rfl, rfl⟩, rfl⟩ kF fun p hp => kN p (by (repeat (first | exact hp | apply List.Mem.tail))))
  rcases hc with hl | hl | hl | hl
  · have : fullOf os = [] := List.length_eq_zero_iff.mp (by omega)
    rw [this] at hb; cases hb
  · rcases he with he | he
    · skip
      (with_reducible show wpAny _ _ _ _ _ _)
      k_steps
      with_reducible rename Fr _ _ _ _ => kF
      with_reducible rename News _ _ _ _ => kN
      exact hn _ (next _ _ _ ⟨⟨rfl, rfl, rfl, rfl, rfl, rfl⟩, rfl⟩ kF fun p hp => kN p (by (repeat (first | exact hp | apply List.Mem.tail))))
    · have fr := D'.fresh1 (by intro q; rw [show fullOf os = [] from q] at hb; cases hb) he
      dsimp only at fr
      (with_reducible show wpAny _ _ _ _ _ _)
      k_steps
      with_reducible rename Fr _ _ _ _ => kF
      with_reducible rename News _ _ _ _ => kN
      unfold Stop
      k_dflt (refine LCt.ListComp_T (F₀ := kF) (by with_unfolding_all rfl) (by decide) (by rfl) (by decide) (by rfl) ?_)
      (with_reducible show wpAny _ _ _ _ _ _)
      k_steps
      with_reducible rename Fr _ _ _ _ => kF2
      with_reducible rename News _ _ _ _ => kN2
      unfold Stop
      refine LCt.CompSrcT.ledger (dh rfl) kF2 kN2 (by k_mem) (fit63 (by simp; omega)) fun g' => ?_
      refine rest_filter (fun _ => false) (.inr ⟨_, by k_mem, rfl, _, rfl⟩) (fun v I' oI C oC D₁ m₂ h tk ys E' Q' hv hC hx F' N' q => ?_) (fun _ => rfl) (fun _ => rfl) (by decide) ?_
      · clear kF2 kN2
        have hv2 := told_apart (news := (first, immO fdx es nf) :: (fdx, dictOf [] 0) :: rest) oth (fun p hp => .tail _ (.tail _ hp)) (.head _) fr (by simpa using hv)
        change wpAny _ _ _ _ _ _
        rcases hv2 with rfl | ⟨a, ob, rfl, ha, hab⟩
        · k_steps
          exact q _
        · k_steps
          exact q _
      · clear kF2 kN2
        intro lf h tk F' N' off
        have hz : (List.filter (fun _ => false) (List.map (fun x : Oth => x.v) os ++ [Value.ref first]).toArray.toList).isEmpty = true := by simp
        (try dsimp only)
        k_steps
        with_reducible rename Fr _ _ _ _ => kF
        with_reducible rename News _ _ _ _ => kN
        exact hn _ (next _ _ _ ⟨⟨rfl, rfl, rfl, rfl, rfl, rfl⟩, rfl⟩ kF fun p hp => kN p (by (repeat (first | exact hp | apply List.Mem.tail))))
  · have fr := D'.fresh2 (by show 2 ≤ (fullOf os).length; omega)
    dsimp only at fr
    rcases he with he | he
    · skip
      (with_reducible show wpAny _ _ _ _ _ _)
      k_steps
      with_reducible rename Fr _ _ _ _ => kF
      with_reducible rename News _ _ _ _ => kN
      unfold Stop
      k_dflt (refine LCt.ListComp_T (F₀ := kF) (by with_unfolding_all rfl) (by decide) (by rfl) (by decide) (by rfl) ?_)
      (with_reducible show wpAny _ _ _ _ _ _)
      k_steps
      with_reducible rename Fr _ _ _ _ => kF2
      with_reducible rename News _ _ _ _ => kN2
      unfold Stop
      refine LCt.CompSrcT.ledger (dh rfl) kF2 kN2 (by k_mem) (fit63 (by simp; omega)) fun g' => ?_
      refine rest_filter (fun _ => false) (.inr ⟨_, by k_mem, rfl, _, rfl⟩) (fun v I' oI C oC D₁ m₂ h tk ys E' Q' hv hC hx F' N' q => ?_) (fun _ => rfl) (fun _ => rfl) (by decide) ?_
      · clear kF2 kN2
        have hv2 := told_apart (news := (first, immO fdx es nf) :: (fdx, dictOf [] 0) :: rest) oth (fun p hp => .tail _ (.tail _ hp)) (.head _) fr (by simpa using hv)
        change wpAny _ _ _ _ _ _
        rcases hv2 with rfl | ⟨a, ob, rfl, ha, hab⟩
        · k_steps
          exact q _
        · k_steps
          exact q _
      · clear kF2 kN2
        intro lf h tk F' N' off
        have hz : (List.filter (fun _ => false) (List.map (fun x : Oth => x.v) os ++ [Value.ref first]).toArray.toList).isEmpty = true := by simp
        (try dsimp only)
        k_steps
        with_reducible rename Fr _ _ _ _ => kF
        with_reducible rename News _ _ _ _ => kN
        exact hn _ (next _ _ _ ⟨⟨rfl, rfl, rfl, rfl, rfl, rfl⟩, rfl⟩ kF fun p hp => kN p (by (repeat (first | exact hp | apply List.Mem.tail))))
    · skip
      (with_reducible show wpAny _ _ _ _ _ _)
      k_steps
      with_reducible rename Fr _ _ _ _ => kF
      with_reducible rename News _ _ _ _ => kN
      unfold Stop
      k_dflt (refine LCt.ListComp_T (F₀ := kF) (by with_unfolding_all rfl) (by decide) (by rfl) (by decide) (by rfl) ?_)
      (with_reducible show wpAny _ _ _ _ _ _)
      k_steps
      with_reducible rename Fr _ _ _ _ => kF2
      with_reducible rename News _ _ _ _ => kN2
      unfold Stop
      refine LCt.CompSrcT.ledger (dh rfl) kF2 kN2 (by k_mem) (fit63 (by simp; omega)) fun g' => ?_
      refine rest_filter (fun _ => false) (.inr ⟨_, by k_mem, rfl, _, rfl⟩) (fun v I' oI C oC D₁ m₂ h tk ys E' Q' hv hC hx F' N' q => ?_) (fun _ => rfl) (fun _ => rfl) (by decide) ?_
      · clear kF2 kN2
        have hv2 := told_apart (news := (first, immO fdx es nf) :: (fdx, dictOf [] 0) :: rest) oth (fun p hp => .tail _ (.tail _ hp)) (.head _) fr (by simpa using hv)
        change wpAny _ _ _ _ _ _
        rcases hv2 with rfl | ⟨a, ob, rfl, ha, hab⟩
        · k_steps
          exact q _
        · k_steps
          exact q _
      · clear kF2 kN2
        intro lf h tk F' N' off
        have hz : (List.filter (fun _ => false) (List.map (fun x : Oth => x.v) os ++ [Value.ref first]).toArray.toList).isEmpty = true := by simp
        (try dsimp only)
        k_steps
        with_reducible rename Fr _ _ _ _ => kF
        with_reducible rename News _ _ _ _ => kN
        exact hn _ (next _ _ _ ⟨⟨rfl, rfl, rfl, rfl, rfl, rfl⟩, rfl⟩ kF fun p hp => kN p (by (repeat (first | exact hp | apply List.Mem.tail))))
  · have fr := D'.fresh2 (by show 2 ≤ (fullOf os).length; omega)
    dsimp only at fr
    rcases he with he | he
    · skip
      (with_reducible show wpAny _ _ _ _ _ _)
      k_steps
      with_reducible rename Fr _ _ _ _ => kF
      with_reducible rename News _ _ _ _ => kN
      unfold Stop
      k_dflt (refine LCt.ListComp_T (F₀ := kF) (by with_unfolding_all rfl) (by decide) (by rfl) (by decide) (by rfl) ?_)
      (with_reducible show wpAny _ _ _ _ _ _)
      k_steps
      with_reducible rename Fr _ _ _ _ => kF2
      with_reducible rename News _ _ _ _ => kN2
      unfold Stop
      refine LCt.CompSrcT.ledger (dh rfl) kF2 kN2 (by k_mem) (fit63 (by simp; omega)) fun g' => ?_
      refine rest_filter (fun _ => false) (.inr ⟨_, by k_mem, rfl, _, rfl⟩) (fun v I' oI C oC D₁ m₂ h tk ys E' Q' hv hC hx F' N' q => ?_) (fun _ => rfl) (fun _ => rfl) (by decide) ?_
      · clear kF2 kN2
        have hv2 := told_apart (news := (first, immO fdx es nf) :: (fdx, dictOf [] 0) :: rest) oth (fun p hp => .tail _ (.tail _ hp)) (.head _) fr (by simpa using hv)
        change wpAny _ _ _ _ _ _
        rcases hv2 with rfl | ⟨a, ob, rfl, ha, hab⟩
        · k_steps
          exact q _
        · k_steps
          exact q _
      · clear kF2 kN2
        intro lf h tk F' N' off
        have hz : (List.filter (fun _ => false) (List.map (fun x : Oth => x.v) os ++ [Value.ref first]).toArray.toList).isEmpty = true := by simp
        (try dsimp only)
        k_steps
        with_reducible rename Fr _ _ _ _ => kF
        with_reducible rename News _ _ _ _ => kN
        exact hn _ (next _ _ _ ⟨⟨rfl, rfl, rfl, rfl, rfl, rfl⟩, rfl⟩ kF fun p hp => kN p (by (repeat (first | exact hp | apply List.Mem.tail))))
    · skip
      (with_reducible show wpAny _ _ _ _ _ _)
      k_steps
      with_reducible rename Fr _ _ _ _ => kF
      with_reducible rename News _ _ _ _ => kN
      unfold Stop
      k_dflt (refine LCt.ListComp_T (F₀ := kF) (by with_unfolding_all rfl) (by decide) (by rfl) (by decide) (by rfl) ?_)
      (with_reducible show wpAny _ _ _ _ _ _)
      k_steps
      with_reducible rename Fr _ _ _ _ => kF2
      with_reducible rename News _ _ _ _ => kN2
      unfold Stop
      refine LCt.CompSrcT.ledger (dh rfl) kF2 kN2 (by k_mem) (fit63 (by simp; omega)) fun g' => ?_
      refine rest_filter (fun _ => false) (.inr ⟨_, by k_mem, rfl, _, rfl⟩) (fun v I' oI C oC D₁ m₂ h tk ys E' Q' hv hC hx F' N' q => ?_) (fun _ => rfl) (fun _ => rfl) (by decide) ?_
      · clear kF2 kN2
        have hv2 := told_apart (news := (first, immO fdx es nf) :: (fdx, dictOf [] 0) :: rest) oth (fun p hp => .tail _ (.tail _ hp)) (.head _) fr (by simpa using hv)
        change wpAny _ _ _ _ _ _
        rcases hv2 with rfl | ⟨a, ob, rfl, ha, hab⟩
        · k_steps
          exact q _
        · k_steps
          exact q _
      · clear kF2 kN2
        intro lf h tk F' N' off
        have hz : (List.filter (fun _ => false) (List.map (fun x : Oth => x.v) os ++ [Value.ref first]).toArray.toList).isEmpty = true := by simp
        (try dsimp only)
        k_steps
        with_reducible rename Fr _ _ _ _ => kF
        with_reducible rename News _ _ _ _ => kN
        exact hn _ (next _ _ _ ⟨⟨rfl, rfl, rfl, rfl, rfl, rfl⟩, rfl⟩ kF fun p hp => kN p (by (repeat (first | exact hp | apply List.Mem.tail))))
end Mine
end

section
open PySem PySem.W PyProof.Rows PySem.Calls
set_option maxRecDepth 100000
namespace Mine
local macro_rules | `(tactic| passes_own) => `(tactic| assumption)
local macro_rules | `(tactic| walk_at "eval Call Name") => `(tactic| (k_here; (with_reducible show wpAny _ _ (eval (PySem.Expr.Call (PySem.Expr.Name (PySem.Str.ofString "list") _) [PySem.Expr.Call (PySem.Expr.Attribute _ (PySem.Str.ofString "items") _) [] [] _] [] _) _) (fun a s₁ => wpAny _ _ (eval _ _) (fun b s₂ => wpAny _ _ (compareOp _ a b) _ _ s₂) _ s₁) _ _); k_dflt (refine' cmp_items ?k1 ?k2 ?k3 ?k4 ?k5 ?k6 ?k7 ?k8 ?_ ?k10 ?k11 ?k12 ?k13; (case k1 => k_asm); (case k2 => k_asm); (case k3 => k_asm); (case k4 => exact dh rfl); (case k5 => ke_room); (case k6 => (intro pn' s' Q' kF' hQ'; walk1; exact hQ')); (case k7 => (intro s' Q' gr' kF' kN' hQ'; walk1; exact hQ' _ _ gr' (by first | exact DArg.dic (News.get kN' (by (repeat (first | assumption | exact List.Mem.head _ | apply List.Mem.tail)))) (by assumption) (by assumption) | exact DArg.imm (News.get kN' (by (repeat (first | assumption | exact List.Mem.head _ | apply List.Mem.tail)))) (News.get kN' (by (repeat (first | assumption | exact List.Mem.head _ | apply List.Mem.tail)))) (by assumption) (by assumption)))); (case k8 => first | (intro s' Q' gr' kF' kN' hQ'; walk1; exact hQ' _ _ (Gro.refl _) (by first | exact DArg.dic (News.get kN' (by (repeat (first | assumption | exact List.Mem.head _ | apply List.Mem.tail)))) (by assumption) (by assumption) | exact DArg.imm (News.get kN' (by (repeat (first | assumption | exact List.Mem.head _ | apply List.Mem.tail)))) (News.get kN' (by (repeat (first | assumption | exact List.Mem.head _ | apply List.Mem.tail)))) (by assumption) (by assumption))) | (intro s' Q' gr' kF' kN' hQ'; refine' eval_joined ?a1 ?a2 kF' ?a4 ?a5 ?a6 ?a7 ?a8 ?a9 ?a10 ?a11 ?a12; (case a11 => exact rfl); (case a12 => exact rfl); (case a1 => k_asm); (case a2 => k_asm); (case a6 => (simp only [depth_deeper]; decide)); (case a7 => (intro Q' q'; walk1; exact q')); (case a8 => (intro Q' q'; walk1; exact q')); (case a9 => (intro Q' q'; walk1; exact q')); (case a4 => exact (by first | exact DArg.dic (News.get kN' (by (repeat (first | assumption | exact List.Mem.head _ | apply List.Mem.tail)))) (by assumption) (by assumption) | exact DArg.imm (News.get kN' (by (repeat (first | assumption | exact List.Mem.head _ | apply List.Mem.tail)))) (News.get kN' (by (repeat (first | assumption | exact List.Mem.head _ | apply List.Mem.tail)))) (by assumption) (by assumption))); (case a5 => exact (by first | exact DArg.dic (News.get kN' (by (repeat (first | assumption | exact List.Mem.head _ | apply List.Mem.tail)))) (by assumption) (by assumption) | exact DArg.imm (News.get kN' (by (repeat (first | assumption | exact List.Mem.head _ | apply List.Mem.tail)))) (News.get kN' (by (repeat (first | assumption | exact List.Mem.head _ | apply List.Mem.tail)))) (by assumption) (by assumption))); (case a10 => exact fun s'' d' gr'' D' => hQ' _ _ gr'' D'))); (case k10 => first | exact .inl rfl | exact .inr rfl); (case k11 => assumption); (case k12 => exact fun Q' s' h => MethodCall_ h); (case k13 => exact fun Q' s' h => MethodCall_ h); k_whole); intro h' tk' F' N'; (try dsimp only); (try k_sweep)))
local macro_rules | `(tactic| walk_at "call builtin:isinstance") => `(tactic| (k_here; (with_reducible show wpAny _ _ (call _ [Value.ref _, Value.ref 145]) _ _ _); k_dflt (refine' isi_imm ?k1 ?k2 ?_; (case k1 => k_in); (case k2 => exact News.get (by k_asm) (by k_mem)); k_whole)))
local macro_rules | `(tactic| walk_at "binaryOp BitOr ref ref") => `(tactic| (k_here; k_dflt (refine' led_bitr ?k1 ?k2 ?k3 ?k4 ?k5 ?k6 ?k7 ?k8 ?k9 ?k10 ?k11 ?k12 ?_; (case k1 => k_asm); (case k2 => k_asm); (case k3 => k_asm); (case k4 => k_asm); (case k5 => (repeat (first | assumption | exact List.Mem.head _ | apply List.Mem.tail))); (case k6 => assumption); (case k7 => assumption); (case k8 => (repeat (first | assumption | exact List.Mem.head _ | apply List.Mem.tail))); (case k9 => (repeat (first | assumption | exact List.Mem.head _ | apply List.Mem.tail))); (case k10 => assumption); (case k11 => assumption); (case k12 => (simp only [depth_deeper]; decide)); k_whole); intro h' tk' x' dx' n' F' N' G' l1; (try k_sweep)))
local macro_rules | `(tactic| walk_at "binaryOp BitOr ref ref") => `(tactic| (k_here; k_dflt (refine' led_bitl ?k1 ?k2 ?k3 ?k4 ?k5 ?k6 ?k7 ?k8 ?k9 ?k10 ?_; (case k1 => k_asm); (case k2 => k_asm); (case k3 => k_asm); (case k4 => k_asm); (case k5 => (repeat (first | assumption | exact List.Mem.head _ | apply List.Mem.tail))); (case k6 => (repeat (first | assumption | exact List.Mem.head _ | apply List.Mem.tail))); (case k7 => assumption); (case k8 => assumption); (case k9 => first | exact DArg.dic (News.get (by k_asm) (by (repeat (first | assumption | exact List.Mem.head _ | apply List.Mem.tail)))) (by assumption) (by assumption) | exact DArg.imm (News.get (by k_asm) (by (repeat (first | assumption | exact List.Mem.head _ | apply List.Mem.tail)))) (News.get (by k_asm) (by (repeat (first | assumption | exact List.Mem.head _ | apply List.Mem.tail)))) (by assumption) (by assumption)); (case k10 => (simp only [depth_deeper]; decide)); k_whole); intro h' tk' x' dx' n' F' N' G' l1; (try k_sweep)))
set_option maxHeartbeats 4000000 in
theorem tail10 {w : World} {s : Shared} {g : Heap} {L fa : Addr} {cd : Value} {m mg mb : Str → Option Value} {loose : List Str} {mean : ExcName → Option Value} {E : Value → Shared → Prop} {Q : Flow → Shared → Prop} {c : LC}
    (X : (hd.heap_39 w.params).In g) (T : Top hd.view_39 loose mean mg mb g) (F : Fr g L s.heap m) (N : News g L s.heap (c.led L)) (D : LF c L) (hm : LN c m) (hE : PassesOwn (model Challenge.rw_eu0031_01.row.prog w) (callerA.deeper (lawEnv L fa cd)) (lawEnv L fa cd) E)
    (next : ∀ (h' : Heap) (tk : Nat) (m' : Str → Option Value), LN c m' → Fr g L h' m' → News g L h' (c.led L) → wpAny (model Challenge.rw_eu0031_01.row.prog w) (callerA.deeper (lawEnv L fa cd)) (execs (lawTail 11) (lawEnv L fa cd)) Q E { s with heap := h', toks := tk }) :
    wpAny (model Challenge.rw_eu0031_01.row.prog w) (callerA.deeper (lawEnv L fa cd)) (execs (lawTail 10) (lawEnv L fa cd)) Q E s := by
  w_top off
  revert X; k_fill; intro X
  obtain ⟨st, ot, pl, due, sl, rows, first, fdx, u, udx, u2, udx2, I, os, ps, es, rest, i, sd, ti, td, n1, no, np, nd, nsl, nr, nf, nu, nu2, ws, oc⟩ := c
  have D' := D
  obtain ⟨⟨G, GU, lo, lp, oth, pls, r2, f2, d2⟩, hoc, far', ord, hI, hdst, u2s, u22s, ne, same, one, new, i0, hws⟩ := D
  obtain ⟨hmb, hm7⟩ := hm
  unfold LC.led at N
  (try dsimp only at *)
  replace F := frm F (setm hm7)
  replace F := frm F (congrArg (fun f : Str → Option Value => fun y => if y = Str.ofString "merged" then some (Value.ref u2) else f y) hmb.eq)
  (try dsimp only at F)
  refine ex_tail 10 rfl fun Q₁ hn hr => ?_
  refine For_turns F ?_ (by intro _; rfl) hE
  (with_reducible show wpAny _ _ _ _ _ _)
  k_steps
  refine zip_loop zipKs (dh rfl) F N (by k_mem) (by k_mem) (fun I' x y j hx hy T' h tk m₁ o1 o2 o3 o4 o5 R hT' hm₁ F₁ N₁ END => ?_) (fun m₁ h tk hm₁ F₁ N₁ => ?_)
  · clear F N
    replace F₁ := frm F₁ (off4 hm₁)
    (try dsimp only at F₁)
    change Fr g L _ _ at F₁
    change News g L _ _ at N₁
    obtain ⟨o, ho, rfl⟩ : ∃ o, os[j]? = some o ∧ o.v = x := by simpa using hx
    obtain ⟨p, hp, rfl⟩ : ∃ p, ps[j]? = some p ∧ Value.ref p = y := by simpa using hy
    obtain ⟨np', hp1, hp2, hp3⟩ := pls j p o hp ho
    have Do := oth o (List.mem_of_getElem? ho)
    obtain ⟨ov, oes, oim⟩ := o
    dsimp only at hp1 hp2 hp3 Do hT' hx
    clear hx hy
    cases Do with
    | none =>
      (with_reducible show wpAny _ _ _ _ _ _)
      k_steps
      with_reducible rename Fr _ _ _ _ => kF'
      with_reducible rename News _ _ _ _ => kN'
      refine END _ _ _ kF' (fun p hp => kN' p (by (repeat (first | exact hp | apply List.Mem.tail)))) ?_
      intro z hz
      obtain ⟨z1, z2, z3, z4⟩ := not_zipKs hz
      simp only [if_neg z1, if_neg z2, if_neg z3, if_neg z4]
    | dic e1 e2 e3 =>
      (with_reducible show wpAny _ _ _ _ _ _)
      k_steps
      with_reducible rename Fr _ _ _ _ => kF'
      with_reducible rename News _ _ _ _ => kN'
      refine END _ _ _ kF' (fun p hp => kN' p (by (repeat (first | exact hp | apply List.Mem.tail)))) ?_
      intro z hz
      obtain ⟨z1, z2, z3, z4⟩ := not_zipKs hz
      simp only [if_neg z1, if_neg z2, if_neg z3, if_neg z4]
    | imm e1 e2 e3 e4 =>
      (with_reducible show wpAny _ _ _ _ _ _)
      k_steps
      with_reducible rename Fr _ _ _ _ => kF'
      with_reducible rename News _ _ _ _ => kN'
      refine END _ _ _ kF' (fun p hp => kN' p (by (repeat (first | exact hp | apply List.Mem.tail)))) ?_
      intro z hz
      obtain ⟨z1, z2, z3, z4⟩ := not_zipKs hz
      simp only [if_neg z1, if_neg z2, if_neg z3, if_neg z4]
  · refine hn _ (next _ _ _ ⟨⟨?_, ?_, ?_, ?_, ?_, ?_⟩, ?_⟩ F₁ N₁)
    all_goals exact (hm₁ _ (by decide)).trans rfl
end Mine
end

section
open PySem PySem.W PyProof.Rows PySem.Calls
set_option maxRecDepth 100000
namespace Mine
local macro_rules | `(tactic| walk_at "no such step") => `(tactic| skip)
local macro_rules | `(tactic| passes_own) => `(tactic| assumption)
local macro_rules | `(tactic| k_all) => `(tactic| (refine' far ?k1 ?k2; (case k1 => assumption); (case k2 => omega)))
local macro_rules | `(tactic| walk_at "call ref") => `(tactic| (k_here; (with_reducible show wpAny _ _ (call (Value.ref 156) _) _ _ _); k_dflt (refine' led_next ?k1 ?k2 ?k3 ?k4 ?k5 ?k6 ?k7 ?k8 ?k9 ?k10 ?k11 ?k12 ?_; (case k1 => k_asm); (case k2 => k_asm); (case k3 => k_asm); (case k4 => k_asm); (case k5 => k_updF); (case k7 => k_asm); (case k6 => exact News.isList (by k_asm) (by k_mem)); (case k8 => (refine neN ?_; omega)); (case k9 => assumption); (case k10 => (simp only [depth_deeper]; decide)); (case k11 => decide); (case k12 => assumption); k_whole); intro h' tk' r' tr' i' ti' sd' td' r0 r1 i0 F' N'; (try dsimp only at N'); (try k_sweep)))
local macro_rules | `(tactic| walk_at "call ref") => `(tactic| (k_here; (with_reducible show wpAny _ _ (call (Value.ref 175) _) _ _ _); k_dflt (refine' led_refused ?k1 ?k2 ?k3 ?k4 ?k5 ?k6 ?k7 ?k8 ?k9 ?k10 ?_; (case k1 => k_asm); (case k2 => k_asm); (case k3 => k_asm); (case k4 => k_asm); (case k5 => exact rfl); (case k6 => exact rfl); (case k7 => k_mem); (case k8 => k_mem); (case k9 => assumption); (case k10 => assumption); k_whole); intro h' tk' F' N'; (try k_sweep)))
local macro_rules | `(tactic| walk_at "call ref") => `(tactic| (k_here; (with_reducible show wpAny _ _ (call (Value.ref 121) _) _ _ _); k_dflt (refine' led_copy ?k1 ?k2 ?k3 ?k4 ?k5 ?_; (case k1 => k_asm); (case k2 => k_asm); (case k3 => k_asm); (case k4 => k_asm); (case k5 => (simp only [depth_deeper]; decide)); k_whole); intro h' tk' F' N'; (try k_sweep)))
local macro_rules | `(tactic| walk_at "getMethod ref") => `(tactic| (k_here; k_dflt (refine' getMethod_imm ?k1 ?k2 ?k3 ?k4 ?k5 ?k6 ?_; (case k1 => k_in); (case k2 => exact News.get (by k_asm) (by k_mem)); (case k3 => exact News.get (by k_asm) (by k_mem)); (case k4 => k_is); (case k5 => k_is); (case k6 => decide +kernel); k_whole)))
set_option maxHeartbeats 4000000 in
theorem tail11 {w : World} {s : Shared} {g : Heap} {L fa : Addr} {cd : Value} {m mg mb : Str → Option Value} {loose : List Str} {mean : ExcName → Option Value} {E : Value → Shared → Prop} {Q : Flow → Shared → Prop} {c : LC}
    (X : (hd.heap_39 w.params).In g) (T : Top hd.view_39 loose mean mg mb g) (F : Fr g L s.heap m) (N : News g L s.heap (c.led L)) (D : LF c L) (hm : LN c m) (hE : PassesOwn (model Challenge.rw_eu0031_01.row.prog w) (callerA.deeper (lawEnv L fa cd)) (lawEnv L fa cd) E)
    (next : ∀ (h' : Heap) (tk : Nat) (m' : Str → Option Value), LN c m' → Fr g L h' m' → News g L h' ((c.u, immO c.udx (uAll c.es c.os) c.nu) :: (c.udx, dictOf [] 0) :: (c.due, dictOf (uAll c.es c.os) c.nd) :: ((L + 1 : Nat), c.oc) :: (c.rows, dictOf c.es c.nr) :: (c.first, immO c.fdx c.es c.nf) :: (c.fdx, dictOf [] 0) :: c.rest) → wpAny (model Challenge.rw_eu0031_01.row.prog w) (callerA.deeper (lawEnv L fa cd)) (execs (lawTail 12) (lawEnv L fa cd)) Q E { s with heap := h', toks := tk }) :
    wpAny (model Challenge.rw_eu0031_01.row.prog w) (callerA.deeper (lawEnv L fa cd)) (execs (lawTail 11) (lawEnv L fa cd)) Q E s := by
  w_top off
  revert X; k_fill; intro X
  obtain ⟨st, ot, pl, due, sl, rows, first, fdx, u, udx, u2, udx2, I, os, ps, es, rest, i, sd, ti, td, n1, no, np, nd, nsl, nr, nf, nu, nu2, ws, oc⟩ := c
  have D' := D
  obtain ⟨⟨G, GU, lo, lp, oth, pls, r2, f2, d2⟩, hoc, far', ord, hI, hdst, u2s, u22s, ne, same, one, new, i0, hws⟩ := D
  obtain ⟨hmb, hm7⟩ := hm
  unfold LC.led at N
  (try dsimp only at *)
  replace F := frm F (setm hm7)
  replace F := frm F (congrArg (fun f : Str → Option Value => fun y => if y = Str.ofString "merged" then some (Value.ref u2) else f y) hmb.eq)
  (try dsimp only at F)
  obtain ⟨o1, o2, o3, o4, o5, o6, o7, o8, o9⟩ := ord
  obtain ⟨e1, e2, e3, e4⟩ := ne
  obtain ⟨ns, hns, hns63⟩ := hws
  refine ex_tail 11 rfl fun Q₁ hn hr => ?_
  (with_reducible show wpAny _ _ _ _ _ _)
  k_steps
  with_reducible rename Fr _ _ _ _ => kF
  with_reducible rename News _ _ _ _ => kN
  exact hn _ (next _ _ _ ⟨⟨rfl, rfl, rfl, rfl, rfl, rfl⟩, rfl⟩ kF fun p hp => kN p (by
    simp only [List.mem_cons] at hp ⊢
    rcases hp with h | h | h | h | h | h | h | h <;> simp [h]))
end Mine
end

section
open PySem PySem.W PyProof.Rows PySem.Calls
set_option maxRecDepth 100000
namespace Mine
local macro_rules | `(tactic| passes_own) => `(tactic| assumption)
local macro_rules | `(tactic| walk_at "eval Call Name") => `(tactic| (k_here; (with_reducible show wpAny _ _ (eval (PySem.Expr.Call (PySem.Expr.Name (PySem.Str.ofString "list") _) [PySem.Expr.Call (PySem.Expr.Attribute _ (PySem.Str.ofString "items") _) [] [] _] [] _) _) (fun a s₁ => wpAny _ _ (eval _ _) (fun b s₂ => wpAny _ _ (compareOp _ a b) _ _ s₂) _ s₁) _ _); k_dflt (refine' cmp_items ?k1 ?k2 ?k3 ?k4 ?k5 ?k6 ?k7 ?k8 ?_ ?k10 ?k11 ?k12 ?k13; (case k1 => k_asm); (case k2 => k_asm); (case k3 => k_asm); (case k4 => exact dh rfl); (case k5 => ke_room); (case k6 => (intro pn' s' Q' kF' hQ'; walk1; exact hQ')); (case k7 => (intro s' Q' gr' kF' kN' hQ'; walk1; first | exact hQ' _ _ gr' (DArg.dic (News.get kN' (by k_mem)) (by assumption) (by assumption)) | exact hQ' _ _ gr' (DArg.imm (News.get kN' (by k_mem)) (News.get kN' (by k_mem)) (by assumption) (by assumption)))); (case k8 => (intro s' Q' gr' kF' kN' hQ'; walk1; first | exact hQ' _ _ (Gro.refl _) (DArg.dic (News.get kN' (by k_mem)) (by assumption) (by assumption)) | exact hQ' _ _ (Gro.refl _) (DArg.imm (News.get kN' (by k_mem)) (News.get kN' (by k_mem)) (by assumption) (by assumption)))); (case k10 => first | exact .inl rfl | exact .inr rfl); (case k11 => assumption); (case k12 => exact fun Q' s' h => MethodCall_ h); (case k13 => exact fun Q' s' h => MethodCall_ h); k_whole); intro h' tk' F' N'; (try dsimp only); (try k_sweep)))
theorem led_repr {w : World} {A : Around} {E : Value → Shared → Prop} {s : Shared} {g : Heap} {L : Addr} {m : Str → Option Value} {news : List (Addr × Obj)} {mg mb : Str → Option Value} {loose : List Str} {mean : ExcName → Option Value} {Q : Value → Shared → Prop} {x dx : Addr} {es : List DictEntry} {n : Nat} (X : (hd.heap_39 w.params).In g) (T : Top hd.view_39 loose mean mg mb g) (F : Fr g L s.heap m) (N : News g L s.heap news)
    (hx : (x, immO dx es n) ∈ news) (hdx : (dx, dictOf [] 0) ∈ news) (G : Good es) (l : 2 < x) (hroom : A.depth < 450) (hg : A.guards = some []) (hu : A.units + 64 < cLine)
    (h : ∀ h' tk u, Fr g L h' m → News g L h' news → Q (.str (("immutabledict(" : Str) ++ esTxt es ++ (")" : Str)) u) { s with heap := h', toks := tk }) :
    wpAny (model Challenge.rw_eu0031_01.row.prog w) A (call (.builtin "repr") [.ref x]) Q E s :=
  repr_imm X T F.keep (N _ hx).1 (N _ hdx).1 G l hroom hg hu fun h' tk u k => h h' tk u (F.keeps k) fun p hp => ⟨k _ _ (N p hp).1, (N p hp).2⟩
local macro_rules | `(tactic| walk_at "call builtin:repr") => `(tactic| (k_here; k_dflt (refine' led_repr ?k1 ?k2 ?k3 ?k11 ?k4 ?k5 ?k6 ?k7 ?k8 ?k9 ?k10 ?_; (case k1 => k_asm); (case k2 => k_asm); (case k3 => k_asm); (case k11 => k_asm); (case k4 => k_mem); (case k5 => k_mem); (case k6 => assumption); (case k7 => assumption); (case k8 => (simp only [depth_deeper]; decide)); (case k9 => exact rfl); (case k10 => ke_room); k_whole); intro h' tk' u' F' N'; (try k_sweep)))
local macro_rules | `(tactic| walk_at "call builtin:repr") => `(tactic| (k_here; k_dflt (refine' repr_dic ?k4 ?k6 ?k7 ?k9 ?k10 ?_; (case k4 => exact News.get (by k_asm) (by k_mem)); (case k6 => assumption); (case k7 => assumption); (case k9 => exact rfl); (case k10 => ke_room); k_whole); intro tk' u'))
set_option maxHeartbeats 4000000 in
theorem tail12 {w : World} {s : Shared} {g : Heap} {L fa : Addr} {cd : Value} {m mg mb : Str → Option Value} {loose : List Str} {mean : ExcName → Option Value} {E : Value → Shared → Prop} {Q : Flow → Shared → Prop} {c : LC}
    (X : (hd.heap_39 w.params).In g) (T : Top hd.view_39 loose mean mg mb g) (F : Fr g L s.heap m) (N : News g L s.heap ((c.u, immO c.udx (uAll c.es c.os) c.nu) :: (c.udx, dictOf [] 0) :: (c.due, dictOf (uAll c.es c.os) c.nd) :: ((L + 1 : Nat), c.oc) :: (c.rows, dictOf c.es c.nr) :: (c.first, immO c.fdx c.es c.nf) :: (c.fdx, dictOf [] 0) :: c.rest)) (D : LF c L) (hm : LN c m) (hE : PassesOwn (model Challenge.rw_eu0031_01.row.prog w) (callerA.deeper (lawEnv L fa cd)) (lawEnv L fa cd) E)
    (fin : ∀ (h' : Heap) (tk : Nat) (m' : Str → Option Value), Fr g L h' m' → Q (.ret (.bool true)) { s with heap := h', toks := tk }) :
    wpAny (model Challenge.rw_eu0031_01.row.prog w) (callerA.deeper (lawEnv L fa cd)) (execs (lawTail 12) (lawEnv L fa cd)) Q E s := by
  w_top off
  revert X; k_fill; intro X
  obtain ⟨st, ot, pl, due, sl, rows, first, fdx, u, udx, u2, udx2, I, os, ps, es, rest, i, sd, ti, td, n1, no, np, nd, nsl, nr, nf, nu, nu2, ws, oc⟩ := c
  have D' := D
  obtain ⟨⟨G, GU, lo, lp, oth, pls, r2, f2, d2⟩, hoc, far', ord, hI, hdst, u2s, u22s, ne, same, one, new, i0, hws⟩ := D
  obtain ⟨hmb, hm7⟩ := hm
  (try dsimp only at *)
  replace F := frm F (setm hm7)
  replace F := frm F (congrArg (fun f : Str → Option Value => fun y => if y = Str.ofString "merged" then some (Value.ref u2) else f y) hmb.eq)
  (try dsimp only at F)
  have hlen := esTxt_len GU
  refine wpAny_execs_cons (rest := []) ?_
  (with_reducible show wpAny _ _ _ _ _ _)
  k_steps
  rw [beq_self_eq_true]
  with_reducible rename Fr _ _ _ _ => kF
  exact fin _ _ _ kF
end Mine
end

section
open PySem PySem.W PyProof.Rows PySem.Calls
set_option maxRecDepth 100000
namespace Mine
theorem tail {w : World} {s : Shared} {g : Heap} {L fa : Addr} {cd : Value} {m mg mb : Str → Option Value} {loose : List Str} {mean : ExcName → Option Value} {E : Value → Shared → Prop} {Q : Flow → Shared → Prop}
    {st ot pl due cell sl rows first fdx I : Nat} {os : List Oth} {ps : List Addr} {es : List DictEntry} {rest : List (Addr × Obj)} {i sd : Int} {ti td : Tok} {n1 no np nd nsl nr nf : Nat} {ws : List Value} {oc : Obj} {cv : Option Value}
    (X : (hd.heap_39 w.params).In g) (T : Top hd.view_39 loose mean mg mb g) (F : Fr g L s.heap m)
    (N : News g L s.heap ((st, listOf #[.ref sl, .int i ti, .int sd td] n1) :: (ot, listOf (os.map (·.v)).toArray no) :: (pl, listOf (ps.map Value.ref).toArray np) :: (due, dictOf (uAll es os) nd) :: (cell, oc) :: (sl, listOf ws.toArray nsl) :: (rows, dictOf es nr) :: (first, immO fdx es nf) :: (fdx, dictOf [] 0) :: rest))
    (Z : TS es os ps rest rows first due) (hoc : oc.data = .cell cv) (htl : Far rest I) (ord : LawOrd cell sl st rows first fdx ot pl) (hI : pl < I) (hdst : @Ne Nat due st) (hdc : @Ne Nat due cell)
    (hcl : cell = L + 1) (hm : LawN st rows first ot pl due m) (i0 : 0 ≤ i) (hws : ∃ ns, IntsAre ws ns ∧ ns.length ≤ 63) (hE : PassesOwn (model Challenge.rw_eu0031_01.row.prog w) (callerA.deeper (lawEnv L fa cd)) (lawEnv L fa cd) E)
    (fin : ∀ (h' : Heap) (tk : Nat) (m' : Str → Option Value), Fr g L h' m' → Q (.ret (.bool true)) { s with heap := h', toks := tk }) :
    wpAny (model Challenge.rw_eu0031_01.row.prog w) (callerA.deeper (lawEnv L fa cd)) (execs (lawTail 4) (lawEnv L fa cd)) Q E s := by
  refine tail4 X T F N Z hoc htl ord hI hdst hdc hcl hm i0 hws fun c h4 t4 m4 D hn4 F4 N4 => ?_
  refine tail5 X T F4 N4 D hn4 hE fun h5 t5 m5 hn5 F5 N5 => ?_
  refine tail6 X T F5 N5 D hn5 hE fun h6 t6 m6 fl hn6 hf6 F6 N6 => ?_
  refine tail7 X T F6 N6 D hn6 hE hf6 fun h7 t7 m7 hn7 hf7 F7 N7 => ?_
  refine tail8 X T F7 N7 D hn7 hE hf7 fun h8 t8 m8 hn8 hf8 F8 N8 => ?_
  refine tail9 X T F8 N8 D hn8 hE hf8 fun h9 t9 m9 hn9 F9 N9 => ?_
  refine tail10 X T F9 N9 D hn9 hE fun h10 t10 m10 hn10 F10 N10 => ?_
  refine tail11 X T F10 N10 D hn10 hE fun h11 t11 m11 hn11 F11 N11 => ?_
  exact tail12 X T F11 N11 D hn11 hE fun h12 t12 m12 F12 => fin h12 t12 m12 F12
end Mine
end

section
open PySem PySem.W PyProof.Rows PySem.Calls
namespace Mine
local macro_rules | `(tactic| walk_at "call ref") => `(tactic| (k_here; (with_reducible show wpAny _ _ (call (Value.ref 156) _) _ _ _); k_dflt (refine' led_next ?X ?T ?F ?N ?U ?sl ?ns ?ne ?i ?room ?m ?len ?_; (case X => k_asm); (case T => k_asm); (case F => k_asm); (case N => k_asm); (case U => k_updF); (case ns => k_asm); (case sl => exact News.isList (by k_asm) (by k_mem)); (case ne => (first | assumption | (refine neN ?_; omega) | omega)); (case i => (first | assumption | (refine neN ?_; omega) | omega)); (case room => (simp only [depth_deeper]; decide)); (case m => decide); (case len => (first | assumption | (refine neN ?_; omega) | omega)); k_whole); intro h' tk' r' tr' i' ti' sd' td' r0 r1 i0 F' N'; (try dsimp only at N'); (try k_sweep)))
local macro_rules | `(tactic| walk_at "call ref") => `(tactic| (k_here; (with_reducible show wpAny _ _ (call (Value.ref 161) _) _ _ _); k_dflt (refine' led_rows ?X ?T ?F ?N ?U ?sl ?ns ?ne ?i ?room ?hh ?len ?_; (case X => k_asm); (case T => k_asm); (case F => k_asm); (case N => k_asm); (case U => k_updF); (case ns => k_asm); (case sl => exact News.isList (by k_asm) (by k_mem)); (case ne => (first | assumption | (refine neN ?_; omega) | omega)); (case i => (first | assumption | (refine neN ?_; omega) | omega)); (case room => (simp only [depth_deeper]; decide)); (case hh => first | assumption | exact dh rfl); (case len => (first | assumption | (refine neN ?_; omega) | omega)); k_whole); intro h' tk' d' n' es' i' ti' sd' td' G' i0 F' N' l1 l2; (try k_lt l1); (try dsimp only at N'); (try k_sweep)))
local macro_rules | `(tactic| walk_at "call ref") => `(tactic| (k_here; (with_reducible show wpAny _ _ (call (Value.ref 168) _) _ _ _); k_dflt (refine' led_joined ?k1 ?k2 ?k3 ?k4 ?k5 ?k6 ?k7 ?_; (case k1 => k_asm); (case k2 => k_asm); (case k3 => k_asm); (case k4 => k_asm); (case k5 => (first | exact DArg.dic (News.get (by k_asm) (by k_mem)) (by assumption) (by assumption) | exact DArg.imm (News.get (by k_asm) (by k_mem)) (News.get (by k_asm) (by k_mem)) (by assumption) (by assumption))); (case k6 => (first | exact DArg.dic (News.get (by k_asm) (by k_mem)) (by assumption) (by assumption) | exact DArg.imm (News.get (by k_asm) (by k_mem)) (News.get (by k_asm) (by k_mem)) (by assumption) (by assumption))); (case k7 => (simp only [depth_deeper]; decide)); k_whole); intro h' tk' d' n' F' N' l1 l2 l3; (try k_lt l1); (try k_sweep)))
local macro_rules | `(tactic| walk_at "call type:dict") => `(tactic| (k_here; (with_reducible show wpAny _ _ (call (Value.type "dict") [Value.ref _]) _ _ _); k_dflt (refine' led_dict_of ?X ?T ?F ?N ?m ?G ?l ?_; (case X => k_asm); (case T => exact Top.nolimit (by k_asm)); (case F => k_asm); (case N => k_asm); (case m => k_mem); (case G => assumption); (case l => assumption); k_whole); intro h' tk' d' n' F' N' l1 l2; (try k_lt l1); (try k_sweep)))
local macro_rules | `(tactic| walk_at "call ref") => `(tactic| (k_here; (with_reducible show wpAny _ _ (call (Value.ref 145) [Value.ref _]) _ _ _); k_dflt (refine' led_imm_of ?X ?T ?F ?N ?D ?_; (case X => k_asm); (case T => exact Top.nolimit (by k_asm)); (case F => k_asm); (case N => k_asm); (case D => (first | exact DArg.dic (News.get (by k_asm) (by k_mem)) (by assumption) (by assumption) | exact DArg.imm (News.get (by k_asm) (by k_mem)) (News.get (by k_asm) (by k_mem)) (by assumption) (by assumption))); k_whole); intro h' tk' x' dx' n' F' N' l1 l2 l3 l4; (try k_lt l1); (try k_lt l2); (try k_sweep)))
local macro_rules | `(tactic| walk_at "call type:range") => `(tactic| (k_here; k_dflt (refine' range1_rows ?F ?N ?_; (case F => k_asm); (case N => k_asm); k_whole); intro h' tk' t1 u1 v1 hR F' N' k'; (try k_sweep)))
local macro_rules | `(tactic| walk_at "pyIter ref") => `(tactic| (k_here; (with_reducible show wpAny _ _ (pyIter _) (fun _ _ => LoopAtV _ _ _ _ _ _ _ _ _ _ _) _ _); refine stop ?_))
local macro_rules | `(tactic| k_all) => `(tactic| (refine' far ?k1 ?k2; (case k1 => assumption); (case k2 => omega)))
local macro_rules | `(tactic| walk_at "call ref") => `(tactic| (k_here; (with_reducible show wpAny _ _ (call (Value.ref 156) [_, Value.int 3 _]) _ _ _); (k_dflt (refine' led_next ?X ?T ?F ?N ?U ?sl ?ns ?ne ?i ?room ?m ?len ?_; (case X => k_asm); (case T => k_asm); (case F => k_asm); (case N => k_asm); (case U => k_updF); (case ns => k_asm); (case sl => exact News.isList (by k_asm) (by k_mem)); (case ne => (first | assumption | (refine neN ?_; omega) | omega)); (case i => (first | assumption | (refine neN ?_; omega) | omega)); (case room => (simp only [depth_deeper]; decide)); (case m => decide); (case len => (first | assumption | (refine neN ?_; omega) | omega)); k_whole); intro h' tk' r' tr' i' ti' sd' td' r0 r1 i0 F' N'; (try dsimp only at N'); (try k_sweep); obtain rfl | rfl | rfl : r' = 0 ∨ r' = 1 ∨ r' = 2 := by omega)))
local macro_rules | `(tactic| walk_at "eval Dict nil nil") => `(tactic| (k_here; k_dflt (refine' led_empty ?X ?F ?N ?_; (case X => k_asm); (case F => k_asm); (case N => k_asm); k_whole); intro h' d' F' N' l1 l2 GE'; (try k_lt l1); (try k_sweep)))
local macro_rules | `(tactic| walk_at "call builtin:list.append") => `(tactic| (k_here; (with_reducible show wpAny _ _ (call (Value.builtin _) [Value.ref _, _]) _ _ _); k_dflt (refine' append_K ?k1 ?k2 ?k3 ?_ ?z; (case k1 => k_asm); (case k2 => k_asm); (case k3 => k_upd); (case z => exact fit63 (by rw [List.length_map]; omega)); k_whole); intro h' F' N'; (try k_sweep)))
local macro_rules | `(tactic| walk_at "subscriptTail") => `(tactic| (k_here; (with_reducible show wpAny _ _ (subscriptTail (PySem.Expr.List _ _) (PySem.Expr.Name _ _) (Value.ref _) (Value.int _ _)) _ _ _); k_dflt (refine' item_three ?k1 ?k2 ?k3 ?_ ?_ ?_; (case k1 => exact News.isList (by k_asm) (by k_mem)); (case k2 => assumption); (case k3 => assumption); k_whole); all_goals (intro hk; first | (exfalso; omega) | skip)))
local macro_rules | `(tactic| walk_at "subscriptTail Name UnaryOp ref int") => `(tactic| (k_here; (with_reducible show wpAny _ _ (subscriptTail (PySem.Expr.Name _ _) (PySem.Expr.UnaryOp _ _ _) (Value.ref _) (Value.int _ _)) _ _ _); k_dflt (refine' item_back ?k1 ?_; (case k1 => exact News.isList (by k_asm) (by k_mem)); k_whole)))
set_option maxRecDepth 100000 in
set_option maxHeartbeats 8000000 in
theorem main : PySem.Challenge.rw_eu0031_01.Holds := hd (by
  w_strict (
    k_go0
    k_fold
    k_steps
    (with_reducible rename IsRange _ _ _ _ _ _ _ _ => hR)
    (with_reducible rename Fr _ _ _ _ => kF)
    (with_reducible rename News _ _ _ _ => kN)
    (with_reducible rename Good _ => kG)
    unfold Stop
    refine law_loop (by exact dh rfl) hR (by assumption) (by assumption) kF kN kG (by assumption) (by assumption) rfl ⟨by omega, by omega, by omega⟩ ⟨by omega, by omega, by omega, by omega, by omega, by omega, by omega, by omega, by assumption⟩ ?_ ?_
    · intro I k t i ti sd td n1 os no ps np due nd rest own tl oI m₁ h tk C hh0 hk i0 lo lp GU hdl hdne htl ord hI F₁ N₁
      clear kF kN hR
      iterate 20 (try (with_reducible rename @LT.lt Nat _ _ _ ∧ _ => lx; clear lx))
      obtain ⟨o1, o2, o3, o4, o5, o6, o7, o8, o9⟩ := ord
      obtain ⟨d1, d2, d3⟩ := hdne
      (with_reducible show wpAny _ _ _ _ _ _)
      change Fr _ _ _ _ at F₁
      k_fold
      k_steps
      · refine' law_end0 C ?k_F ?k_N ?k_h1 ?k_h3 ?k_h4 ?k_h5 ?k_h6 ?k_h7 ?k_h8 ?k_h9 ?k_hm1 ?k_hm2 ?k_i0 ?k_hdl ?k_hpl ?k_ip ?k_idu ?k_h2 ?k_hp ?k_hd
        case k_F => assumption
        case k_N => assumption
        case k_h1 => (repeat (first | exact List.Mem.head _ | apply List.Mem.tail))
        case k_h3 => (repeat (first | exact List.Mem.head _ | apply List.Mem.tail))
        case k_h4 => (repeat (first | exact List.Mem.head _ | apply List.Mem.tail))
        case k_h5 => (repeat (first | exact List.Mem.head _ | apply List.Mem.tail))
        case k_h6 => (repeat (first | exact List.Mem.head _ | apply List.Mem.tail))
        case k_h7 => (repeat (first | exact List.Mem.head _ | apply List.Mem.tail))
        case k_h8 => (repeat (first | exact List.Mem.head _ | apply List.Mem.tail))
        case k_h2 => (repeat (first | exact List.Mem.head _ | apply List.Mem.tail))
        case k_hm1 => exact rfl
        case k_hp => (repeat (first | exact List.Mem.head _ | apply List.Mem.tail))
        case k_hd => (repeat (first | exact List.Mem.head _ | apply List.Mem.tail))
        case k_h9 => (intro q hq; repeat (first | exact hq | apply List.Mem.tail))
        case k_hm2 =>
          intro z hz
          obtain ⟨z1, z2, z3, z4⟩ := not_loopKs hz
          simp only [if_neg z1, if_neg z2, if_neg z3, if_neg z4]
        case k_i0 => assumption
        case k_hdl => assumption
        case k_hpl => assumption
        case k_ip => omega
        case k_idu => omega
      · refine' law_end1 C ?k_F ?k_N ?k_h1 ?k_h3 ?k_h4 ?k_h5 ?k_h6 ?k_h7 ?k_h8 ?k_h9 ?k_hm1 ?k_hm2 ?k_i0 ?k_hdl ?k_hpl ?k_ip ?k_idu ?k_h2 ?k_hp ?k_hd ?k_ha ?k_ga ?k_hal ?k_ia
        case k_F => assumption
        case k_N => assumption
        case k_h1 => (repeat (first | exact List.Mem.head _ | apply List.Mem.tail))
        case k_h3 => (repeat (first | exact List.Mem.head _ | apply List.Mem.tail))
        case k_h4 => (repeat (first | exact List.Mem.head _ | apply List.Mem.tail))
        case k_h5 => (repeat (first | exact List.Mem.head _ | apply List.Mem.tail))
        case k_h6 => (repeat (first | exact List.Mem.head _ | apply List.Mem.tail))
        case k_h7 => (repeat (first | exact List.Mem.head _ | apply List.Mem.tail))
        case k_h8 => (repeat (first | exact List.Mem.head _ | apply List.Mem.tail))
        case k_h2 => (repeat (first | exact List.Mem.head _ | apply List.Mem.tail))
        case k_hm1 => exact rfl
        case k_hp => (repeat (first | exact List.Mem.head _ | apply List.Mem.tail))
        case k_hd => (repeat (first | exact List.Mem.head _ | apply List.Mem.tail))
        case k_ha => (repeat (first | exact List.Mem.head _ | apply List.Mem.tail))
        case k_h9 => (intro q hq; repeat (first | exact hq | apply List.Mem.tail))
        case k_hm2 =>
          intro z hz
          obtain ⟨z1, z2, z3, z4⟩ := not_loopKs hz
          simp only [if_neg z1, if_neg z2, if_neg z3, if_neg z4]
        case k_i0 => assumption
        case k_hdl => assumption
        case k_hpl => assumption
        case k_hal => assumption
        case k_ga => assumption
        case k_ip => omega
        case k_idu => omega
        case k_ia => omega
      · refine' law_end2 C ?k_F ?k_N ?k_h1 ?k_h3 ?k_h4 ?k_h5 ?k_h6 ?k_h7 ?k_h8 ?k_h9 ?k_hm1 ?k_hm2 ?k_i0 ?k_hdl ?k_hpl ?k_ip ?k_idu ?k_h2 ?k_hp ?k_hd ?k_ha ?k_hdx ?k_ga ?k_hal ?k_ia ?k_idx
        case k_F => assumption
        case k_N => assumption
        case k_h1 => (repeat (first | exact List.Mem.head _ | apply List.Mem.tail))
        case k_h3 => (repeat (first | exact List.Mem.head _ | apply List.Mem.tail))
        case k_h4 => (repeat (first | exact List.Mem.head _ | apply List.Mem.tail))
        case k_h5 => (repeat (first | exact List.Mem.head _ | apply List.Mem.tail))
        case k_h6 => (repeat (first | exact List.Mem.head _ | apply List.Mem.tail))
        case k_h7 => (repeat (first | exact List.Mem.head _ | apply List.Mem.tail))
        case k_h8 => (repeat (first | exact List.Mem.head _ | apply List.Mem.tail))
        case k_h2 => (repeat (first | exact List.Mem.head _ | apply List.Mem.tail))
        case k_hm1 => exact rfl
        case k_hp => (repeat (first | exact List.Mem.head _ | apply List.Mem.tail))
        case k_hd => (repeat (first | exact List.Mem.head _ | apply List.Mem.tail))
        case k_ha => (repeat (first | exact List.Mem.head _ | apply List.Mem.tail))
        case k_hdx => (repeat (first | exact List.Mem.head _ | apply List.Mem.tail))
        case k_h9 => (intro q hq; repeat (first | exact hq | apply List.Mem.tail))
        case k_hm2 =>
          intro z hz
          obtain ⟨z1, z2, z3, z4⟩ := not_loopKs hz
          simp only [if_neg z1, if_neg z2, if_neg z3, if_neg z4]
        case k_i0 => assumption
        case k_hdl => assumption
        case k_hpl => assumption
        case k_hal => assumption
        case k_ga => assumption
        case k_ip => omega
        case k_idu => omega
        case k_ia => omega
        case k_idx => omega
    · intro I i ti sd td n1 os no ps np due nd rest m₁ h tk C hh0 i0 lo lp GU hdl hdne htl ord hI F₁ N₁
      clear kF kN hR
      iterate 20 (try (with_reducible rename @LT.lt Nat _ _ _ ∧ _ => lx; clear lx))
      obtain ⟨d1, d2, d3⟩ := hdne
      change Fr _ _ _ _ at F₁
      (with_reducible show wpAny _ _ _ _ _ _)
      refine tail (cv := _) (by assumption) (by assumption) F₁ N₁ ⟨kG, GU, lo, lp, C.oth, C.pls, by assumption, by assumption, hdl⟩ (by assumption) htl ord hI d1 ?hdc rfl ⟨rfl, rfl, rfl, rfl, rfl, rfl⟩ i0 ⟨_, by assumption, by omega⟩ ?hE ?fin
      case hdc =>
        refine news_ne N₁ (.tail _ (.tail _ (.tail _ (.head _)))) (.tail _ (.tail _ (.tail _ (.tail _ (.head _))))) ?_
        intro e
        have hoc := (by assumption : Obj.data _ = Data.cell _)
        have e' := e.trans hoc
        cases e'
      case hE => passes_own
      case fin =>
        intro h' tk' m' F'
        k_steps
      ))
end Mine
end

theorem PySem.Challenge.cw_eu0031_01_holds : PySem.Challenge.rw_eu0031_01.Holds :=
  Mine.main
