import PyProof.Rows.All
import Wide.All
import OpenK.AllK
import Wide.FinOn
import PySem.Challenge.RW_lg0020_01
set_option Elab.async false

section
open PySem PySem.W PyProof.Rows
namespace Mine
set_option maxRecDepth 100000 in
set_option maxHeartbeats 8000000 in
open_top hd for PySem.Challenge.rw_lg0020_01
end Mine

end

section
open PySem
namespace Mine

def skey : Value → Int
  | .int n _ => n
  | .bool b => if b then 1 else 0
  | _ => 0

section gen
variable {α : Type} (key : α → Int) (next : α → List α)

def hasK (met : List α) (k : Int) : Bool := met.any fun y => key y == k

inductive Bfs : List α → List α → List α → Prop
  | done {met} : Bfs met [] met
  | skip {met x q T} : hasK key met (key x) = true → Bfs met q T → Bfs met (x :: q) T
  | take {met x q T} : hasK key met (key x) = false → Bfs (met ++ [x]) (q ++ next x) T → Bfs met (x :: q) T

variable {key next}

theorem Bfs.det {met q T : List α} (h : Bfs key next met q T) : ∀ {T'}, Bfs key next met q T' → T = T' := by
  induction h with
  | done => intro T' h'; cases h'; rfl
  | skip hs _ ih =>
    intro T' h'
    cases h' with
    | skip _ h'' => exact ih h''
    | take ht _ => rw [hs] at ht; cases ht
  | take ht _ ih =>
    intro T' h'
    cases h' with
    | skip hs _ => rw [hs] at ht; cases ht
    | take _ h'' => exact ih h''

variable (key)
def off : List α → List α → List α
  | _, [] => []
  | met, x :: q => if hasK key met (key x) then off met q else x :: off (met ++ [x]) q
variable {key}

theorem Bfs.batch : ∀ (q met r T : List α), Bfs key next (met ++ off key met q) (r ++ (off key met q).flatMap next) T → Bfs key next met (q ++ r) T
  | [], met, r, T, h => by simpa [off] using h
  | x :: q, met, r, T, h => by
    unfold off at h
    by_cases hx : hasK key met (key x) = true
    · rw [if_pos hx] at h
      exact .skip hx (Bfs.batch q met r T h)
    · rw [if_neg hx] at h
      have hx' : hasK key met (key x) = false := by simpa using hx
      refine .take hx' ?_
      show Bfs key next (met ++ [x]) ((q ++ r) ++ next x) T
      rw [List.append_assoc]
      refine Bfs.batch q (met ++ [x]) (r ++ next x) T ?_
      simpa [List.append_assoc] using h

theorem hasK_append (a b : List α) (k : Int) : hasK key (a ++ b) k = (hasK key a k || hasK key b k) := by
  simp [hasK, List.any_append]
theorem hasK_cons (x : α) (b : List α) (k : Int) : hasK key (x :: b) k = (key x == k || hasK key b k) := by
  simp [hasK]

theorem hasK_off : ∀ (q met : List α) (k : Int), hasK key (met ++ off key met q) k = (hasK key met k || hasK key q k)
  | [], met, k => by simp [off, hasK]
  | x :: q, met, k => by
    unfold off
    by_cases hx : hasK key met (key x) = true
    · rw [if_pos hx, hasK_off q met k, hasK_cons]
      by_cases hk : key x = k
      · subst hk; simp [hx]
      · have : (key x == k) = false := by simpa using hk
        simp [this]
    · rw [if_neg hx]
      have e : met ++ x :: off key (met ++ [x]) q = (met ++ [x]) ++ off key (met ++ [x]) q := by simp
      rw [e, hasK_off q (met ++ [x]) k, hasK_append, hasK_cons, hasK_cons]
      simp [hasK, Bool.or_assoc]

theorem off_append : ∀ (a b met : List α), off key met (a ++ b) = off key met a ++ off key (met ++ off key met a) b
  | [], b, met => by simp [off]
  | x :: a, b, met => by
    simp only [List.cons_append]
    rw [off, off]
    by_cases hx : hasK key met (key x) = true
    · simp only [hx, if_true]; exact off_append a b met
    · simp only [hx]
      rw [if_neg (by simp), if_neg (by simp), off_append a b (met ++ [x])]
      simp [List.append_assoc]

theorem off_snoc (q met : List α) (x : α) : off key met (q ++ [x]) = off key met q ++ (if hasK key met (key x) || hasK key q (key x) then [] else [x]) := by
  rw [off_append]
  congr 1
  rw [off, hasK_off]
  split <;> simp [off]

theorem off_sub : ∀ (q met : List α), ∀ x ∈ off key met q, x ∈ q
  | [], _, x, h => by simp [off] at h
  | y :: q, met, x, h => by
    unfold off at h
    split at h
    · exact .tail _ (off_sub q met x h)
    · rcases List.mem_cons.mp h with rfl | h
      · exact .head _
      · exact .tail _ (off_sub q _ x h)

def KNodup (key : α → Int) (l : List α) : Prop := (l.map key).Nodup

theorem hasK_false {l : List α} {k : Int} : hasK key l k = false ↔ k ∉ l.map key := by
  simp only [hasK, List.any_eq_false, beq_iff_eq, List.mem_map, not_exists, not_and]
theorem hasK_true {l : List α} {k : Int} : hasK key l k = true ↔ k ∈ l.map key := by
  simp only [hasK, List.any_eq_true, beq_iff_eq, List.mem_map]

theorem KNodup.snoc {l : List α} {x : α} (h : KNodup key l) (hx : hasK key l (key x) = false) : KNodup key (l ++ [x]) := by
  unfold KNodup at *
  rw [List.map_append, List.nodup_append]
  refine ⟨h, by simp, ?_⟩
  intro a ha b hb e
  simp only [List.map_cons, List.map_nil, List.mem_singleton] at hb
  subst e; subst hb
  exact hasK_false.mp hx ha

theorem KNodup.off : ∀ (q met : List α), KNodup key met → KNodup key (met ++ off key met q)
  | [], met, h => by simpa [Mine.off] using h
  | x :: q, met, h => by
    unfold Mine.off
    by_cases hx : hasK key met (key x) = true
    · rw [if_pos hx]; exact KNodup.off q met h
    · rw [if_neg hx]
      have := KNodup.off q (met ++ [x]) (h.snoc (by simpa using hx))
      simpa using this

end gen

theorem nodup_len {β : Type} [DecidableEq β] : ∀ (a b : List β), a.Nodup → (∀ x ∈ a, x ∈ b) → a.length ≤ b.length
  | [], b, _, _ => Nat.zero_le _
  | x :: a, b, h, hs => by
    have hx : x ∈ b := hs x (.head _)
    have h1 := List.nodup_cons.mp h
    have : a.length ≤ (b.erase x).length := nodup_len a (b.erase x) h1.2 fun y hy => by
      have hne : y ≠ x := fun e => h1.1 (e ▸ hy)
      exact (List.mem_erase_of_ne hne).mpr (hs y (.tail _ hy))
    rw [List.length_erase_of_mem hx] at this
    have : 0 < b.length := List.length_pos_of_mem hx
    simp only [List.length_cons]; omega

theorem KNodup.le {α : Type} {key : α → Int} {l b : List α} (h : KNodup key l) (hs : ∀ x ∈ l, ∃ y ∈ b, key y = key x) : l.length ≤ b.length := by
  have := nodup_len (l.map key) (b.map key) h fun k hk => by
    obtain ⟨x, hx, rfl⟩ := List.mem_map.mp hk
    obtain ⟨y, hy, e⟩ := hs x hx
    exact List.mem_map.mpr ⟨y, hy, e⟩
  simpa using this

abbrev has (l : List Value) (x : Value) : Bool := hasK skey l (skey x)

def aft (ws : List Value) (s : Value) : List Value :=
  ((List.range (ws.length - 1)).filter fun i => skey (ws.getD i .none) == skey s).map fun i => ws.getD (i + 1) .none

theorem aft_sub {ws : List Value} {s x : Value} (h : x ∈ aft ws s) : x ∈ ws := by
  unfold aft at h
  obtain ⟨i, hi, rfl⟩ := List.mem_map.mp h
  have hi' := List.mem_range.mp (List.mem_filter.mp hi).1
  have hlt : i + 1 < ws.length := by omega
  rw [List.getD_eq_getElem?_getD, List.getElem?_eq_getElem hlt]
  exact List.getElem_mem hlt
theorem aft_len (ws : List Value) (s : Value) : (aft ws s).length ≤ ws.length := by
  unfold aft
  rw [List.length_map]
  refine Nat.le_trans (List.length_filter_le _ _) ?_
  rw [List.length_range]; omega

def offI (met near : List Value) : List Value :=
  ((List.range near.length).filter fun k => !(has (near.take k) (near.getD k .none)) && !(has met (near.getD k .none))).map fun k => near.getD k .none

theorem filter_congr' {β : Type} {p q : β → Bool} {l : List β} (h : ∀ x ∈ l, p x = q x) : l.filter p = l.filter q := by
  induction l with
  | nil => rfl
  | cons x l ih =>
    simp only [List.filter_cons, h x (.head _), ih fun y hy => h y (.tail _ hy)]

theorem offI_snoc (met near : List Value) (x : Value) : offI met (near ++ [x]) = offI met near ++ (if has met x || has near x then [] else [x]) := by
  unfold offI
  rw [List.length_append, List.length_singleton, List.range_succ, List.filter_append, List.map_append]
  have h1 : ∀ k ∈ List.range near.length, (near ++ [x]).getD k .none = near.getD k .none := fun k hk => by
    have hk' := List.mem_range.mp hk
    simp [List.getD_eq_getElem?_getD, List.getElem?_append_left hk']
  have h2 : ∀ k ∈ List.range near.length, (near ++ [x]).take k = near.take k := fun k hk => by
    have hk' := List.mem_range.mp hk
    rw [List.take_append_of_le_length (Nat.le_of_lt hk')]
  have e1 : (List.range near.length).filter (fun k => !(has ((near ++ [x]).take k) ((near ++ [x]).getD k .none)) && !(has met ((near ++ [x]).getD k .none))) =
      (List.range near.length).filter (fun k => !(has (near.take k) (near.getD k .none)) && !(has met (near.getD k .none))) :=
    filter_congr' fun k hk => by rw [h1 k hk, h2 k hk]
  rw [e1]
  congr 1
  · refine List.map_congr_left fun k hk => h1 k (List.mem_filter.mp hk).1
  · have hx : (near ++ [x]).getD near.length .none = x := by simp [List.getD_eq_getElem?_getD]
    have ht : (near ++ [x]).take near.length = near := by simp
    simp only [List.filter_cons, List.filter_nil, hx, ht]
    cases has met x <;> cases has near x <;> simp

theorem snoc_ind {β : Type} {P : List β → Prop} (h0 : P []) (h1 : ∀ l x, P l → P (l ++ [x])) (l : List β) : P l := by
  have : ∀ r : List β, P r.reverse := by
    intro r
    induction r with
    | nil => exact h0
    | cons x r ih => rw [List.reverse_cons]; exact h1 _ _ ih
  simpa using this l.reverse

theorem offI_eq (met near : List Value) : offI met near = off skey met near := by
  refine snoc_ind (P := fun near => offI met near = off skey met near) rfl (fun l x ih => ?_) near
  rw [offI_snoc, off_snoc, ih]

/-! the walk with rows -/

theorem Bfs.project {α β : Type} {key : α → Int} {next : α → List α} {key' : β → Int} {next' : β → List β} (f : α → β)
    (hk : ∀ x, key' (f x) = key x) (hn : ∀ x, (next x).map f = next' (f x)) {met q T : List α} (h : Bfs key next met q T) : Bfs key' next' (met.map f) (q.map f) (T.map f) := by
  have hh : ∀ (l : List α) (k : Int), hasK key' (l.map f) k = hasK key l k := fun l k => by
    induction l with
    | nil => rfl
    | cons x l ih => rw [List.map_cons, hasK_cons, hasK_cons, hk, ih]
  induction h with
  | done => exact .done
  | skip hs _ ih => exact .skip (by rw [hh, hk]; exact hs) ih
  | take ht _ ih =>
    refine .take (by rw [hh, hk]; exact ht) ?_
    simpa [hn] using ih

def pkey (p : Value × Value) : Int := skey p.1
def blk (ws : List Value) (p : Value × Value) : List (Value × Value) := (aft ws p.1).map fun a => (a, p.1)

theorem blk_fst (ws : List Value) (p : Value × Value) : (blk ws p).map Prod.fst = aft ws p.1 := by
  unfold blk; rw [List.map_map]
  have e : (Prod.fst ∘ fun a : Value => (a, p.1)) = id := rfl
  rw [e, List.map_id]

theorem flatMap_split {α β : Type} {f : α → List β} : ∀ {l : List α} {pre : List β} {x : β} {post : List β}, l.flatMap f = pre ++ x :: post →
    ∃ a u b c d, l = a ++ u :: b ∧ f u = c ++ x :: d ∧ pre = a.flatMap f ++ c
  | [], pre, x, post, h => by simp at h
  | y :: l, pre, x, post, h => by
    rw [List.flatMap_cons] at h
    rcases List.append_eq_append_iff.mp h with ⟨as, h1, h2⟩ | ⟨bs, h1, h2⟩
    · obtain ⟨a, u, b, c, d, rfl, h4, h5⟩ := flatMap_split h2
      exact ⟨y :: a, u, b, c, d, rfl, h4, by rw [h1, h5, List.flatMap_cons, List.append_assoc]⟩
    · cases bs with
      | nil =>
        simp only [List.nil_append] at h2
        obtain ⟨a, u, b, c, d, rfl, h4, h5⟩ := flatMap_split (pre := []) h2.symm
        refine ⟨y :: a, u, b, c, d, rfl, h4, ?_⟩
        simp only [List.append_nil] at h1
        rw [List.flatMap_cons, List.append_assoc, ← h5, List.append_nil, h1]
      | cons z bs =>
        simp only [List.cons_append, List.cons.injEq] at h2
        obtain ⟨rfl, rfl⟩ := h2
        exact ⟨[], y, l, pre, bs, rfl, h1, by simp⟩

/-- where a told row was reached from -/
def From (ws : List Value) (told : List (Value × Value)) (p : Value × Value) : Prop :=
  ∃ l u r, told = l ++ u :: r ∧ p.2 = u.1 ∧ has (aft ws u.1) p.1 = true ∧ ∀ v ∈ l, has (aft ws v.1) p.1 = false

def Told (ws : List Value) (w0 : Value) (told : List (Value × Value)) : Prop :=
  told = [] ∨ ∃ rest, told = (w0, .none) :: rest ∧ ∀ p ∈ rest, From ws told p

theorem From.grow {ws told p} (x : Value × Value) (h : From ws told p) : From ws (told ++ [x]) p := by
  obtain ⟨l, u, r, rfl, h1, h2, h3⟩ := h
  exact ⟨l, u, r ++ [x], by simp, h1, h2, h3⟩

theorem Bfs.told {ws : List Value} {w0 : Value} {met q T : List (Value × Value)} (h : Bfs pkey (blk ws) met q T) :
    Told ws w0 met → (∃ pre, pre ++ q = (w0, Value.none) :: met.flatMap (blk ws) ∧ ∀ x ∈ pre, hasK pkey met (pkey x) = true) → Told ws w0 T := by
  induction h with
  | done => intro hm _; exact hm
  | skip hs _ ih =>
    rename_i met x q T _
    rintro hm ⟨pre, hp, hk⟩
    refine ih hm ⟨pre ++ [x], by simpa using hp, fun y hy => ?_⟩
    rcases List.mem_append.mp hy with hy | hy
    · exact hk y hy
    · rw [List.mem_singleton.mp hy]; exact hs
  | take ht _ ih =>
    rename_i met x q T _
    rintro hm ⟨pre, hp, hk⟩
    refine ih ?_ ⟨pre ++ [x], ?_, fun y hy => ?_⟩
    · rcases hm with rfl | ⟨rest, rfl, hr⟩
      · right
        have hpre : pre = [] := by
          cases pre with
          | nil => rfl
          | cons y pre => exact absurd (hk y (.head _)) (by simp [hasK])
        subst hpre
        simp only [List.nil_append, List.flatMap_nil, List.cons.injEq] at hp
        obtain ⟨rfl, rfl⟩ := hp
        exact ⟨[], rfl, fun p hp => nomatch hp⟩
      · right
        refine ⟨rest ++ [x], by simp, fun p hp' => ?_⟩
        rcases List.mem_append.mp hp' with hp' | hp'
        · exact (hr p hp').grow x
        · rw [List.mem_singleton.mp hp']
          cases pre with
          | nil =>
            simp only [List.nil_append, List.cons.injEq] at hp
            obtain ⟨rfl, _⟩ := hp
            rw [hasK_cons] at ht
            simp at ht
          | cons y pre =>
            simp only [List.cons_append, List.cons.injEq] at hp
            obtain ⟨rfl, hp⟩ := hp
            obtain ⟨a, u, b, c, d, hl, hf, hpre⟩ := flatMap_split hp.symm
            refine From.grow x ⟨a, u, b, hl, ?_, ?_, ?_⟩
            · have : x ∈ blk ws u := by rw [hf]; simp
              unfold blk at this
              obtain ⟨t, _, rfl⟩ := List.mem_map.mp this
              rfl
            · have : x ∈ blk ws u := by rw [hf]; simp
              unfold blk at this
              obtain ⟨t, ht', rfl⟩ := List.mem_map.mp this
              exact hasK_true.mpr (List.mem_map.mpr ⟨t, ht', rfl⟩)
            · intro v hv
              refine hasK_false.mpr fun hm => ?_
              obtain ⟨t, ht', e⟩ := List.mem_map.mp hm
              have hin : (t, v.1) ∈ pre := by
                rw [hpre]
                exact List.mem_append_left _ (List.mem_flatMap.mpr ⟨v, hv, List.mem_map.mpr ⟨t, ht', rfl⟩⟩)
              have h1 := hk (t, v.1) (.tail _ hin)
              have h2 : pkey (t, v.1) = pkey x := e
              rw [h2, ht] at h1; cases h1
    · simpa [List.flatMap_append] using congrArg (· ++ blk ws x) hp
    · rw [hasK_append]
      rcases List.mem_append.mp hy with hy | hy
      · rw [hk y hy]; rfl
      · rw [List.mem_singleton.mp hy]; simp [hasK]

def whenceOf (ws due : List Value) (late : Value) : Value := (due.filter fun d => has (aft ws d) late).headD .none

theorem From.whence {ws : List Value} {told : List (Value × Value)} {p : Value × Value} (h : From ws told p) :
    (told.map Prod.fst).filter (fun d => has (aft ws d) p.1) ≠ [] ∧ whenceOf ws (told.map Prod.fst) p.1 = p.2 := by
  obtain ⟨l, u, r, rfl, h1, h2, h3⟩ := h
  have e : (l.map Prod.fst).filter (fun d => has (aft ws d) p.1) = [] := by
    rw [List.filter_eq_nil_iff]
    intro d hd
    obtain ⟨v, hv, rfl⟩ := List.mem_map.mp hd
    rw [h3 v hv]; exact Bool.false_ne_true
  unfold whenceOf
  rw [List.map_append, List.filter_append, e, List.map_cons, List.filter_cons, if_pos h2]
  exact ⟨by simp, by simp [h1]⟩

/-- the whole of the plain law -/
theorem plain {ws : List Value} {w0 : Value} {T : List Value} {T2 : List (Value × Value)} (h1 : Bfs skey (aft ws) [] [w0] T) (h2 : Bfs pkey (blk ws) [] [(w0, Value.none)] T2) :
    ∃ rest, T = w0 :: rest ∧ (∀ late ∈ rest, T.filter (fun d => has (aft ws d) late) ≠ []) ∧ T2 = (w0, .none) :: rest.map fun late => (late, whenceOf ws T late) := by
  have hp := Bfs.project (key' := skey) (next' := aft ws) Prod.fst (fun _ => rfl) (blk_fst ws) h2
  have e : T = T2.map Prod.fst := h1.det hp
  have ht : Told ws w0 T2 := h2.told (.inl rfl) ⟨[], rfl, fun _ hx => nomatch hx⟩
  rcases ht with rfl | ⟨rest, rfl, hr⟩
  · exfalso
    subst e
    cases h1 with
    | skip hs _ => simp [hasK] at hs
    | take _ h =>
      have : ∀ {met q T : List Value}, Bfs skey (aft ws) met q T → met.length ≤ T.length := by
        intro met q T h
        induction h with
        | done => exact Nat.le_refl _
        | skip _ _ ih => exact ih
        | take _ _ ih => rw [List.length_append] at ih; exact Nat.le_of_succ_le ih
      have := this h
      simp at this
  · refine ⟨rest.map Prod.fst, e, ?_, ?_⟩
    · intro late hl
      obtain ⟨p, hp, rfl⟩ := List.mem_map.mp hl
      rw [e]
      exact (hr p hp).whence.1
    · rw [List.map_map]
      congr 1
      refine (List.map_id rest).symm.trans (List.map_congr_left fun p hp => ?_)
      have := (hr p hp).whence.2
      rw [← e] at this
      show p = (p.1, whenceOf ws T p.1)
      rw [this]

end Mine
end

noncomputable section
open PySem PySem.W PySem.Calls PyProof.Rows
namespace Mine

abbrev Kf (w : World) : Frag := hd.heap_39 w.params
abbrev Keep (h h' : Heap) : Prop := ∀ b o, h.get? b = some o → h'.get? b = some o

theorem Keep.refl (h : Heap) : Keep h h := fun _ _ e => e
theorem Keep.trans {a b c : Heap} (x : Keep a b) (y : Keep b c) : Keep a c := fun _ _ e => y _ _ (x _ _ e)

/-- what the whole walk knows of the top -/
structure Gd (w : World) (h : Heap) : Prop where
  k : (Kf w).In h
  b : ∃ mb, h.Ns builtinsNs mb ∧ ∀ x : Str, x ≠ "__name__" → mb x = bootBuiltins x
  nl : h.NoLimit

theorem Gd.keeps {w : World} {h h' : Heap} (x : Gd w h) (k : Keep h h') : Gd w h' :=
  ⟨x.k.keeps k, let ⟨mb, a, b⟩ := x.b; ⟨mb, a.keeps k, b⟩, x.nl.keeps k⟩

def objAt (w : World) (a : Addr) : Obj := ((Kf w).lookup a).getD default
def fnAt (w : World) (a : Addr) : FuncData := match (objAt w a).data with | .func fd => fd | _ => default
def fnBody (w : World) (a : Addr) : List Stmt := match (fnAt w a).body with | .stmts b => b | _ => []

def mgOf (w : World) (x : Str) : Option Value := match (objAt w 3).data with
  | .dict es _ => nsFind es x
  | _ => none

def allStrKeys (es : List DictEntry) : Bool := es.all fun e => match e.key with | .str .. => true | _ => false
theorem strKeys_of {es : Array DictEntry} (h : allStrKeys es.toList = true) : StrKeys es := by
  intro e he
  have := List.all_eq_true.mp h e (Array.mem_toList_iff.mpr he)
  cases hk : e.key with
  | str n t => exact ⟨n, t, rfl⟩
  | _ => rw [hk] at this; cases this

theorem Gd.glob {w : World} {h : Heap} (G : Gd w h) : h.Ns mainGlobals (mgOf w) := by
  refine ⟨objAt w 3, _, _, G.k 3 _ rfl, rfl, strKeys_of rfl, fun _ => rfl⟩

theorem mg_after (w : World) : mgOf w "_law_after" = some (.ref 71) := rfl
theorem mg_len (w : World) : mgOf w "len" = none := rfl
end Mine
end

noncomputable section
open PySem PySem.W PySem.Calls PyProof.Rows
namespace Mine

def IsStop (v : Value) : Prop := (∃ n t, v = .int n t ∧ 0 ≤ n ∧ n < 16) ∨ ∃ b, v = .bool b

section
variable {prog : Program} {w : World} {A : Around} {E : Value → Shared → Prop} {s : Shared}

theorem eqAt_stop {u v : Value} (hu : IsStop u) (hv : IsStop v) : SeqAt.EqAt A s u v (skey u == skey v) := by
  rcases hu with ⟨n, t, rfl, _⟩ | ⟨a, rfl⟩ <;> rcases hv with ⟨m, t', rfl, _⟩ | ⟨b, rfl⟩
  · exact SeqAt.EqAt.int_int n t m t'
  · exact SeqAt.EqAt.int_bool n t b
  · exact SeqAt.EqAt.bool_int a m t'
  · have : (skey (.bool a) == skey (.bool b)) = (a == b) := by cases a <;> cases b <;> rfl
    rw [this]; exact SeqAt.EqAt.bool_bool a b
theorem eqGives_stop {u v : Value} (hu : IsStop u) (hv : IsStop v) : MeetsSeq.EqGives u v (skey u == skey v) := fun _ _ _ E _ _ h => eqAt_stop hu hv _ _ E _ h

theorem eq_stop {u v : Value} (hu : IsStop u) (hv : IsStop v) {Q : Value → Shared → Prop} (h : Q (.bool (skey u == skey v)) s) : wpAny (model prog w) A (compareOp .Eq u v) Q E s := by
  rcases hu with ⟨n, t, rfl, _⟩ | ⟨a, rfl⟩ <;> rcases hv with ⟨m, t', rfl, _⟩ | ⟨b, rfl⟩
  · exact SeqAt.RcAt.int_int n t m t' prog w E Q h
  · exact SeqAt.RcAt.int_bool n t b prog w E Q h
  · exact SeqAt.RcAt.bool_int a m t' prog w E Q h
  · have : (skey (.bool a) == skey (.bool b)) = (a == b) := by cases a <;> cases b <;> rfl
    rw [this] at h
    exact SeqAt.RcAt.bool_bool a b prog w E Q h

theorem any_has (xs : List Value) (v : Value) : (xs.toArray.any fun y => skey y == skey v) = has xs v := by
  simp [has, hasK]

theorem in_stops {l : Addr} {xs : List Value} {v : Value} (hx : ∀ y ∈ xs, IsStop y) (hv : IsStop v) (hl : s.heap.IsList l xs.toArray) {Q : Value → Shared → Prop} (h : Q (.bool (has xs v)) s) :
    wpAny (model prog w) A (compareOp .In v (.ref l)) Q E s :=
  SeqInW.in_listW (fun y => skey y == skey v) (fun y hy => eqGives_stop (hx y (by simpa using hy)) hv) hl (by rw [any_has]; exact h)
theorem notIn_stops {l : Addr} {xs : List Value} {v : Value} (hx : ∀ y ∈ xs, IsStop y) (hv : IsStop v) (hl : s.heap.IsList l xs.toArray) {Q : Value → Shared → Prop} (h : Q (.bool (!has xs v)) s) :
    wpAny (model prog w) A (compareOp .NotIn v (.ref l)) Q E s :=
  SeqInW.notIn_listW (fun y => skey y == skey v) (fun y hy => eqGives_stop (hx y (by simpa using hy)) hv) hl (by rw [any_has]; exact h)

/-! the call of a def of the top -/
theorem call_fn {R : Result → Shared → Prop} {f : Addr} {vals : List Value} {binds : List (Str × Value)} (G : Gd w s.heap) (hroom : A.depth < recursionLimit)
    (ho : (Kf w).lookup f = some (objAt w f)) (hd : (objAt w f).data = .func (fnAt w f)) (hc : codeIn (Kf w) (fnAt w f).code (fnAt w f).qualname = true)
    (hb : (fnAt w f).body = .stmts (fnBody w f)) (hclo : (fnAt w f).closure = []) (hbind : bindArgs (fnAt w f) ⟨vals, []⟩ = pure binds)
    (hkind : (binds.all fun y => (fnAt w f).scope.names.lookup y.1 == some .local || (fnAt w f).scope.names.lookup y.1 == some .cell) = true)
    (h : ∀ h₁ tk, Fr s.heap s.heap.objs.size h₁ (bindL (callEnvC (fnAt w f) s.heap.objs.size f).kindOf binds fun _ => none) →
      Cl s.heap.objs.size (callEnvC (fnAt w f) s.heap.objs.size f).cells h₁ (bindC (callEnvC (fnAt w f) s.heap.objs.size f).kindOf binds fun _ => none) → Gd w h₁ →
      wpAny (model prog w) (A.deeper (callEnvC (fnAt w f) s.heap.objs.size f)) (execs (fnBody w f) (callEnvC (fnAt w f) s.heap.objs.size f))
        (fun fl s' => R (.ok (.ret (match fl with | .ret v => v | _ => .none))) s') (fun _ _ => False) { s with heap := h₁, toks := tk })
    (hco : (fnAt w f).scope.isCoroutine = false := by rfl) (hgen : (fnAt w f).scope.isGenerator = false := by rfl) (hk : (fnAt w f).scope.kind = .function := by rfl) :
    codeAny (model prog w) A (.call (.ref f) ⟨vals, []⟩) R s := by
  refine codeAny_call_cells (fd := fnAt w f) hroom (G.k _ _ ho) hd G.nl (codeRec_of G.k hc) hb hbind hclo (kindsX hkind _) (fun s₁ X => ?_) hco hgen hk
  obtain ⟨h₁, tk, rfl, hk₁⟩ := X.done
  exact wpAny_mono (h h₁ tk ⟨X.toInCall.ns, X.toInCall.keep, X.toInCall.fresh⟩ ⟨X.cell, X.apart, X.above⟩ (G.keeps hk₁)) (fun _ _ x => x) fun _ _ x => x.elim

/-! names -/
variable {env : Env} {x : Str} {pos : Pos} {Q : Value → Shared → Prop}

theorem nm_global {v : Value} (G : Gd w s.heap) (hg : env.globals = mainGlobals) (hk : env.scope.kind = .function) (hx : env.kindOf x = some .globalImplicit) (hv : mgOf w x = some v) (h : Q v s)
    (hd : (x == ("__debug__" : Str)) = false := by decide) : wpAny (model prog w) A (eval (.Name x pos) env) Q E s :=
  Name_function_global hk hx (loadGlobal_global (hg ▸ G.glob) hv h) hd
theorem nm_builtin {v : Value} (G : Gd w s.heap) (hg : env.globals = mainGlobals) (hb : env.builtins = builtinsNs) (hk : env.scope.kind = .function) (hx : env.kindOf x = some .globalImplicit) (hv : mgOf w x = none)
    (hm : bootBuiltins x = some v) (h : Q v s) (hn : x ≠ "__name__" := by decide) (hd : (x == ("__debug__" : Str)) = false := by decide) : wpAny (model prog w) A (eval (.Name x pos) env) Q E s := by
  obtain ⟨mb, hmb, he⟩ := G.b
  exact Name_function_global hk hx (loadGlobal_builtin (hg ▸ G.glob) hv (hb ▸ hmb) ((he x hn).trans hm) h) hd
theorem nm_local {v : Value} {m : Str → Option Value} (hn : s.heap.Ns env.locals m) (hk : env.scope.kind = .function) (hx : env.kindOf x = some .local) (hv : m x = some v) (h : Q v s)
    (hd : (x == ("__debug__" : Str)) = false := by decide) : wpAny (model prog w) A (eval (.Name x pos) env) Q E s := wpAny_Name (wpAny_loadName_local hk hx hn hv h) hd
theorem nm_cell {v : Value} {c : Addr} (hc : s.heap.IsCell c (some v)) (hk : env.scope.kind = .function) (hx : env.kindOf x = some .cell) (hl : env.cells.lookup x = some c) (h : Q v s)
    (hd : (x == ("__debug__" : Str)) = false := by decide) : wpAny (model prog w) A (eval (.Name x pos) env) Q E s := wpAny_Name (wpAny_loadName_cell hk hx hl hc h) hd

theorem eval_call {f : Expr} {args : List Expr} {kws : List Keyword} (hna : ∀ o n p, f ≠ .Attribute o n p)
    (h : wpAny (model prog w) A (eval f env) (fun v s₁ => wpAny (model prog w) A (callWith pos v [] (backTo pos (starEach args env)) (backToKw pos (keywordEach kws env))) Q E s₁) E s) :
    wpAny (model prog w) A (eval (.Call f args kws pos) env) Q E s := by
  cases f with
  | Attribute o n p => exact absurd rfl (hna o n p)
  | _ => exact wpAny_bind h
end

section
variable {prog : Program} {w : World} {A : Around} {E : Value → Shared → Prop} {s : Shared}
def stopIs (k : Int) (v : Value) : Bool := match v with
  | .int i _ => i == k
  | .bool b => (if b then 1 else 0) == k
  | _ => false
theorem stopIs_shape {k : Int} {v : Value} (h : stopIs k v = true) : (∃ t, v = .int k t) ∨ ∃ b, v = .bool b ∧ (if b then 1 else 0) = k := by
  cases v with
  | int i t => left; exact ⟨t, by rw [beq_iff_eq.mp h]⟩
  | bool b => right; exact ⟨b, rfl, by simpa [stopIs] using h⟩
  | _ => cases h
theorem stopIs_of {v : Value} (h : IsStop v) : stopIs (skey v) v = true := by
  rcases h with ⟨n, t, rfl, _⟩ | ⟨b, rfl⟩ <;> simp [stopIs, skey]

theorem pyHash_bool {b : Bool} {Q : Int → Shared → Prop} (h : Q (hashInt (if b then 1 else 0)) { s with toks := s.toks + 1 }) :
    wpAny (model prog w) A (pyHash (.bool b)) Q E s := by
  have hr := rawHash_range (if b then 1 else 0)
  have hT : s.TypeIs (.bool b) "bool" := rfl
  unfold pyHash
  have hv : [Value.bool b].any Value.onHeap = false := rfl
  refine wpAny_bind ?_
  rw [cRoomFor, if_neg (by rw [hv]; exact Bool.false_ne_true)]; refine wpAny_pure ?_
  refine wpAny_bind (wpAny_specialOf hT F.slot_bool_hash.lookup ?_)
  show wpAny _ _ (if (some (Value.builtin "int.__hash__") == some Value.none) = true then _ else _) Q E s
  rw [if_neg (by rw [beq_builtin_none]; exact Bool.false_ne_true)]
  refine wpAny_bind (wpAny_specialOf hT F.slot_bool_hash.lookup ?_)
  show wpAny _ _ (callSpecialIfBoundUnlessNone? (.bool b) "__hash__" _ >>= _) Q E s
  refine wpAny_bind (wpAny_callSpecialIfBoundUnlessNone?_slot hT F.slot_bool_hash
    (wpAny_call_entry F.slot_bool_hash hT entry_int_hash
      (show wpAny _ _ (do ret (← mkInt (rawHash (if b then 1 else 0)))) _ _ s from wpAny_ret_mkInt ?_) (args_int_hash _)))
  show wpAny _ _ (if (decide (-(2 : Int) ^ 63 ≤ rawHash (if b then 1 else 0)) && decide (rawHash (if b then 1 else 0) < 2 ^ 63)) = true then _ else _) Q E _
  rw [if_pos (by rw [decide_eq_true hr.1, decide_eq_true hr.2]; rfl)]
  exact wpAny_pure h
end

theorem eqAt_is {A : Around} {s : Shared} {a b : Int} {u v : Value} (hu : stopIs a u = true) (hv : stopIs b v = true) : SeqAt.EqAt A s u v (decide (a = b)) := by
  rcases stopIs_shape hu with ⟨t, rfl⟩ | ⟨c, rfl, h1⟩ <;> rcases stopIs_shape hv with ⟨t', rfl⟩ | ⟨c', rfl, h2⟩
  · exact SeqAt.EqAt.int_int a t b t'
  · subst h2; exact SeqAt.EqAt.int_bool a t c'
  · subst h1; exact SeqAt.EqAt.bool_int c b t'
  · subst h1; subst h2
    have : decide ((if c then (1 : Int) else 0) = if c' then 1 else 0) = (c == c') := by cases c <;> cases c' <;> rfl
    rw [this]; exact SeqAt.EqAt.bool_bool c c'

def stopKind (prog : Program) (w : World) : KeyKind prog w Int where
  is := stopIs
  hash := hashInt
  inj := fun v a b ha hb => by
    rcases stopIs_shape ha with ⟨t, rfl⟩ | ⟨c, rfl, h1⟩
    · simpa [stopIs] using hb
    · rw [← h1]; simpa [stopIs] using hb
  byValue := fun k v h => by rcases stopIs_shape h with ⟨t, rfl⟩ | ⟨c, rfl, h1⟩ <;> rfl
  pyHash := fun hv h => by
    rcases stopIs_shape hv with ⟨t, rfl⟩ | ⟨c, rfl, h1⟩
    · exact wpAny_pyHash_int h
    · exact pyHash_bool (by rw [h1]; exact h)
  eqBool := fun hu hv h => eqAt_is hu hv _ _ _ _ h
  «strs» := fun k x t v h => by cases h

end Mine
end

noncomputable section
open PySem PySem.W PySem.Calls PyProof.Rows
namespace Mine

theorem isList_keeps {h h' : Heap} {l : Addr} {xs : Array Value} (x : h.IsList l xs) (k : Keep h h') : h'.IsList l xs := let ⟨o, ho, r⟩ := x; ⟨o, k _ _ ho, r⟩
theorem plain_keeps {h h' : Heap} {l : Addr} {xs : Array Value} (x : h.PlainList l xs) (k : Keep h h') : h'.PlainList l xs := let ⟨n, ho⟩ := x; ⟨n, k _ _ ho⟩

theorem Keeps.same {s : Shared} (tk : Nat) : Keeps s { s with toks := tk } := ⟨s.heap, tk, rfl, fun _ _ e => e⟩
theorem Keeps.of {s : Shared} {h' : Heap} (tk : Nat) (k : Keep s.heap h') : Keeps s { s with heap := h', toks := tk } := ⟨h', tk, rfl, k⟩

def RangeObj (h : Heap) (r : Addr) (n : Nat) : Prop := ∃ k t u v, IsRange h r 0 k 1 t u v ∧ k.toNat = n ∧ -10000 ≤ k ∧ k ≤ 10000

section
variable {prog : Program} {w : World} {A : Around} {E : Value → Shared → Prop} {s : Shared}

theorem call_range {k : Int} {t : Tok} {Q : Value → Shared → Prop} (h1 : -10000 ≤ k) (h2 : k ≤ 10000)
    (h : ∀ r h' tk, Keep s.heap h' → s.heap.get? r = none → RangeObj h' r k.toNat → Q (.ref r) { s with heap := h', toks := tk }) :
    wpAny (model prog w) A (call (.type "range") [.int k t]) Q E s := by
  refine call_range_1 ?_
  exact h _ _ _ (fun b o e => Heap.get?_push_of_some _ e) (Heap.get?_none_of_le (Nat.le_refl _)) ⟨k, _, _, _, IsRange.new _ _ _ _ _ _ _, rfl, h1, h2⟩

theorem iter_rangeObj {r : Addr} {n : Nat} {Q : Value → Shared → Prop} (hr : RangeObj s.heap r n)
    (h : ∀ I H, Keep s.heap H → s.heap.objs.size ≤ I → I < H.objs.size → IsRangeIter H I 0 n 1 → Q (.ref I) { s with heap := H }) :
    wpAny (model prog w) A (pyIter (.ref r)) Q E s := by
  obtain ⟨k, t, u, v, hr, rfl, h1, h2⟩ := hr
  refine wpAny_pyIter_range hr (small_one (by decide) (by decide) (Int.le_trans (by decide) h1) (Int.lt_of_le_of_lt h2 (by decide))) ?_
  have hsz : Builtin.Range.rangeSize 0 k 1 = (k.toNat : Int) := by
    rw [rangeSize_one]; split <;> omega
  rw [hsz]
  exact h _ _ (fun b o e => Heap.get?_push_of_some _ e) (Nat.le_refl _) (by rw [Heap.size_push]; exact Nat.lt_succ_self _) (Heap.get?_push_size _ rfl)
end

theorem paired_range {p : Nat → Bool} {f : Nat → Value} {pv : Value → Bool} {F : Value → Value → Prop} (hp : ∀ (i : Nat) t, pv (Value.int (i : Int) t) = p i) (hF : ∀ (i : Nat) t y, F (Value.int (i : Int) t) y → y = f i) :
    ∀ (vs : List Value) (k : Nat), (∀ j v, vs[j]? = some v → ∃ t, v = Value.int ((k + j : Nat) : Int) t) → ∀ ys, Paired F (vs.filter pv) ys →
      ys = ((List.range' k vs.length).filter p).map f
  | [], k, _, ys, h => by cases h; rfl
  | v :: vs, k, hv, ys, h => by
    obtain ⟨t, rfl⟩ := hv 0 v rfl
    simp only [Nat.add_zero] at h
    have hv' : ∀ j v, vs[j]? = some v → ∃ t, v = Value.int ((k + 1 + j : Nat) : Int) t := fun j v' hj => by
      obtain ⟨t', e⟩ := hv (j + 1) v' (by simpa using hj)
      exact ⟨t', by rw [e]; congr 1; omega⟩
    rw [List.length_cons, List.range'_succ]
    rw [List.filter_cons, hp] at h
    rw [List.filter_cons]
    by_cases hc : p k = true
    · rw [if_pos hc] at h ⊢
      cases h with
      | cons h1 h2 =>
        rw [List.map_cons, ← paired_range hp hF vs (k + 1) hv' _ h2, hF _ _ _ h1]
    · rw [if_neg hc] at h ⊢
      exact paired_range hp hF vs (k + 1) hv' _ h

section
variable {prog : Program} {w : World} {A : Around} {E : Value → Shared → Prop} {env : Env}

def pvOf (p : Nat → Bool) : Value → Bool
  | .int i _ => p i.toNat
  | _ => false
def fvOf (f : Nat → Value) : Value → Value → Prop
  | .int i _, y => y = f i.toNat
  | _, _ => False

abbrev testsOf (prog : Program) (w : World) (A : Around) (ifs : List Expr) (cenv : Env) (Q : Bool → Shared → Prop) (s : Shared) : Prop :=
  wpAny (model prog w) A (forIn ifs true fun c r => if r = true then do let ok ← isTrue c cenv (eval c cenv); pure (ForInStep.yield ok) else pure (ForInStep.yield r)) Q (fun _ _ => False) s

theorem comp_range {s : Shared} {elt iter : Expr} {x : Str} {px : Pos} {ifs : List Expr} {scope : Scope} {cl : List (Str × Addr)} {pos : Pos} {Q : Value → Shared → Prop} (p : Nat → Bool) (f : Nat → Value)
    (hclos : closureFor scope env = pure cl) (hcell : ∀ y ∈ scope.names, y.2 ≠ .cell) (hkind : scope.kind = .function)
    (hnames : ∀ y ∈ scope.names, y.2 = .local → scope.names.lookup y.1 = some .local) (hx : scope.names.lookup x = some .local) (hh : A.handled = none)
    (h : wpAny (model prog w) A (eval iter env) (fun xv s₁ => ∃ r n, xv = .ref r ∧ RangeObj s₁.heap r n ∧ n ≤ 10000 ∧
      (∀ C i t s₃ m₃, s₁.heap.objs.size ≤ C → i < n → s₃.heap.Ns C m₃ → m₃ x = some (.int (i : Nat) t) → Keep s₁.heap s₃.heap →
        testsOf prog w A ifs (compEnvC scope cl C env) (fun ok s₄ => ok = p i ∧ Keeps s₃ s₄) s₃) ∧
      (∀ C i t s₃ m₃, s₁.heap.objs.size ≤ C → i < n → p i = true → s₃.heap.Ns C m₃ → m₃ x = some (.int (i : Nat) t) → Keep s₁.heap s₃.heap →
        wpAny (model prog w) A (eval elt (compEnvC scope cl C env)) (fun y s₄ => y = f i ∧ Keeps s₃ s₄) (fun _ _ => False) s₃) ∧
      (∀ D h' tk, s₁.heap.get? D = none → h'.PlainList D (((List.range n).filter p).map f).toArray → Keep s₁.heap h' → Q (.ref D) { s₁ with heap := h', toks := tk })) E s)
    (hs : ∀ x, foldedSetIterable iter env x = pure x := by intro _; rfl) :
    wpAny (model prog w) A (eval (.ListComp elt [⟨.Name x px, iter, ifs, 0⟩] scope pos) env) Q E s := by
  refine wpAny_ListComp_free (pvOf p) (fvOf f) hclos hcell hkind hnames hx (wpAny_mono h (fun xv s₁ h₁ => ?_) fun _ _ e => e) hs
  obtain ⟨r, n, rfl, hr, hn, ht, he, hQ⟩ := h₁
  refine iter_rangeObj hr fun I H kH hIsz hIlt hit => ?_
  have hI : s₁.heap.get? I = none := Heap.get?_none_of_le hIsz
  have W := (Walks.range (prog := prog) (w := w) (A := A) hh I 0 1 n).bound
  have up : ∀ {s₃ : Shared}, (∀ b o, b ∉ [I] → H.get? b = some o → s₃.heap.get? b = some o) → Keep s₁.heap s₃.heap := fun hk b o e =>
    hk b o (fun hm => by rw [List.mem_singleton.mp hm] at e; rw [hI] at e; cases e) (kH b o e)
  have hC : ∀ C, H.objs.size ≤ C → s₁.heap.objs.size ≤ C := fun C hc => by
    exact Nat.le_trans hIsz (Nat.le_trans (Nat.le_of_lt hIlt) hc)
  refine ⟨I, [I], [I], n, _, _, rfl, W, ?_, by simpa using hit, fun b hb => by rw [List.mem_singleton.mp hb]; exact hIlt, ⟨?_, ?_⟩, ?_⟩
  · rw [sizeLine_eq]; omega
  · rintro C i v s₃ m₃ E' hc ⟨hi, t, rfl⟩ hns hm hk htk
    have e1 : (0 : Int) + (i : Int) * 1 = (i : Int) := by omega
    rw [e1] at hm ⊢
    refine wpAny_mono (ht C i t s₃ m₃ (hC C hc) hi hns hm (up hk)) (fun ok s₄ hq => ?_) fun _ _ e => e.elim
    exact ⟨hq.1.trans (by simp [pvOf]), hq.2⟩
  · rintro C i v s₃ m₃ E' hc ⟨hi, t, rfl⟩ hpv hns hm hk htk
    have e1 : (0 : Int) + (i : Int) * 1 = (i : Int) := by omega
    rw [e1] at hm hpv ⊢
    refine wpAny_mono (he C i t s₃ m₃ (hC C hc) hi (by simpa [pvOf] using hpv) hns hm (up hk)) (fun y s₄ hq => ?_) fun _ _ e => e.elim
    exact ⟨by simpa [fvOf] using hq.1, hq.2⟩
  · intro D h' tk ys vs hD hl hpl hlen hP hF hk
    have hys : ys.toList = ((List.range n).filter p).map f := by
      have := paired_range (p := p) (f := f) (pv := pvOf p) (F := fvOf f) (fun i t => by simp [pvOf]) (fun i t y hy => by simpa [fvOf] using hy) vs 0
        (fun j v hj => by obtain ⟨_, t, e⟩ := hP j v hj; exact ⟨t, by rw [e]; congr 1; omega⟩) _ hF
      rw [this, hlen, List.range_eq_range']
    have hys' : ys = (((List.range n).filter p).map f).toArray := by rw [← hys]
    have hD' : s₁.heap.get? D = none := by
      cases e : s₁.heap.get? D with
      | none => rfl
      | some o => rw [kH D o e] at hD; cases hD
    exact hQ D h' tk hD' (hys' ▸ hpl) fun b o e => hk b o (fun hm => by rw [List.mem_singleton.mp hm] at e; rw [hI] at e; cases e) (kH b o e)
end
end Mine
end

noncomputable section
open PySem PySem.W PySem.Calls PyProof.Rows
namespace Mine

/-- each of the values `ys` is a list that holds what is said -/
def RowIs (h : Heap) (xs : List Value) (y : Value) : Prop := ∃ a, y = .ref a ∧ h.IsList a xs.toArray
theorem RowIs.keeps {h h' : Heap} {xs : List Value} {y : Value} (x : RowIs h xs y) (k : Keep h h') : RowIs h' xs y := let ⟨a, e, hl⟩ := x; ⟨a, e, isList_keeps hl k⟩
/-- new since h₀ -/
def FreshRow (h₀ h : Heap) (xs : List Value) (y : Value) : Prop := ∃ a, y = .ref a ∧ h₀.get? a = none ∧ h.IsList a xs.toArray

def Rows (h₀ h : Heap) (g : List (List Value)) (ys : List Value) : Prop := Paired (fun xs y => FreshRow h₀ h xs y) g ys

theorem Rows.keeps {h₀ h h' : Heap} {g : List (List Value)} {ys : List Value} (x : Rows h₀ h g ys) (k : Keep h h') : Rows h₀ h' g ys := x.mono fun _ _ ⟨a, e, h1, h2⟩ => ⟨a, e, h1, isList_keeps h2 k⟩
theorem Rows.extBut {h₀ h h' : Heap} {g : List (List Value)} {ys : List Value} {q : Addr} (x : Rows h₀ h g ys) (k : Heap.ExtBut q h h') (hq : h₀.get? q ≠ none) : Rows h₀ h' g ys :=
  x.mono fun _ _ ⟨a, e, h1, h2⟩ => ⟨a, e, h1, h2.extBut k fun ea => hq (ea ▸ h1)⟩
theorem none_older {h₀ h₀' : Heap} {a : Addr} (k : Keep h₀' h₀) (h1 : h₀.get? a = none) : h₀'.get? a = none := by
  cases q : h₀'.get? a with
  | none => rfl
  | some o => rw [k a o q] at h1; cases h1
theorem Rows.older {h₀ h₀' h : Heap} {g : List (List Value)} {ys : List Value} (x : Rows h₀ h g ys) (k : Keep h₀' h₀) : Rows h₀' h g ys := x.mono fun _ _ ⟨a, e, h1, h2⟩ => ⟨a, e, none_older k h1, h2⟩
theorem Rows.append {h₀ h : Heap} {g g' : List (List Value)} {ys ys' : List Value} (x : Rows h₀ h g ys) (y : Rows h₀ h g' ys') : Rows h₀ h (g ++ g') (ys ++ ys') := by
  unfold Rows at *
  induction x with
  | nil => exact y
  | cons a _ ih => exact .cons a ih
theorem Rows.length {h₀ h : Heap} {g : List (List Value)} {ys : List Value} (x : Rows h₀ h g ys) : g.length = ys.length := (Paired.length x).symm ▸ rfl

theorem Rows.at {h₀ h : Heap} {g : List (List Value)} {ys : List Value} (x : Rows h₀ h g ys) {i : Nat} {y : Value} (hy : ys[i]? = some y) : ∃ xs, g[i]? = some xs ∧ FreshRow h₀ h xs y := by
  unfold Rows at x
  induction x generalizing i with
  | nil => simp at hy
  | cons a _ ih =>
    cases i with
    | zero => simp at hy; subst hy; exact ⟨_, rfl, a⟩
    | succ i => simp only [List.getElem?_cons_succ] at hy ⊢; exact ih hy

theorem rows_of_paired {h₀ h₁ h : Heap} {g : Value → List Value} (k : Keep h₀ h₁) : ∀ {vs ys : List Value}, Paired (LstIs h₁ (fun v its => its = (g v).toArray) h) vs ys → Rows h₀ h (vs.map g) ys
  | _, _, .nil => .nil
  | _, _, .cons ⟨T, its, e, h1, hl, hG⟩ r => .cons ⟨T, e, none_older k h1, hG ▸ hl⟩ (rows_of_paired k r)

end Mine
end

noncomputable section
open PySem PySem.W PySem.Calls PyProof.Rows
namespace Mine
section
variable {prog : Program} {w : World} {A : Around} {E : Value → Shared → Prop} {env : Env}

/-- over a list, values for elements -/
theorem comp_list {s : Shared} {elt iter : Expr} {x : Str} {px : Pos} {scope : Scope} {cl : List (Str × Addr)} {pos : Pos} {Q : Value → Shared → Prop} (F : Value → Value → Prop)
    (hclos : closureFor scope env = pure cl) (hcell : ∀ y ∈ scope.names, y.2 ≠ .cell) (hkind : scope.kind = .function)
    (hnames : ∀ y ∈ scope.names, y.2 = .local → scope.names.lookup y.1 = some .local) (hx : scope.names.lookup x = some .local) (hh : A.handled = none)
    (h : wpAny (model prog w) A (eval iter env) (fun xv s₁ => ∃ (l : Addr) (xs : List Value), xv = .ref l ∧ s₁.heap.IsList l xs.toArray ∧ xs.length ≤ 10000 ∧
      (∀ (C i : Nat) (v : Value) s₃ m₃, s₁.heap.objs.size ≤ C → xs[i]? = some v → s₃.heap.Ns C m₃ → m₃ x = some v → Keep s₁.heap s₃.heap →
        wpAny (model prog w) A (eval elt (compEnvC scope cl C env)) (fun y s₄ => F v y ∧ Keeps s₃ s₄) (fun _ _ => False) s₃) ∧
      (∀ D h' tk ys, s₁.heap.get? D = none → h'.PlainList D ys.toArray → Paired F xs ys → Keep s₁.heap h' → Q (.ref D) { s₁ with heap := h', toks := tk })) E s)
    (hs : ∀ x, foldedSetIterable iter env x = pure x := by intro _; rfl) :
    wpAny (model prog w) A (eval (.ListComp elt [⟨.Name x px, iter, [], 0⟩] scope pos) env) Q E s := by
  refine wpAny_ListComp_free (fun _ => true) F hclos hcell hkind hnames hx (wpAny_mono h (fun xv s₁ h₁ => ?_) fun _ _ e => e) hs
  obtain ⟨l, xs, rfl, hl, hn, he, hQ⟩ := h₁
  refine wpAny_pyIter_list hl ?_
  have kH : Keep s₁.heap (s₁.heap.push { cls := .type "list_iterator", data := .fields #[.ref l, .int 0 0] }) := fun b o e => Heap.get?_push_of_some _ e
  have hlI : l ≠ s₁.heap.objs.size := let ⟨_, ho, _⟩ := hl; Nat.ne_of_lt (Heap.lt_size ho)
  have W := Walks.list (prog := prog) (w := w) (A := A) hh s₁.heap.objs.size l hlI xs.toArray
  have up : ∀ {s₃ : Shared}, (∀ b o, b ∉ [s₁.heap.objs.size] → (s₁.heap.push { cls := .type "list_iterator", data := .fields #[.ref l, .int 0 0] }).get? b = some o → s₃.heap.get? b = some o) → Keep s₁.heap s₃.heap := fun hk b o e =>
    hk b o (fun hm => by rw [List.mem_singleton.mp hm] at e; exact absurd (Heap.lt_size e) (Nat.lt_irrefl _)) (kH b o e)
  refine ⟨_, _, _, _, _, _, rfl, W, ?_, ⟨⟨_, Heap.get?_push_size _ rfl, rfl, rfl⟩, hl.push _⟩, ?_, ⟨?_, ?_⟩, ?_⟩
  · rw [sizeLine_eq]; simp; omega
  · intro b hb
    have : b = s₁.heap.objs.size ∨ b = l := by simpa using hb
    rw [Heap.size_push]
    rcases this with rfl | rfl
    · exact Nat.lt_succ_self _
    · exact Nat.lt_succ_of_lt (let ⟨_, ho, _⟩ := hl; Heap.lt_size ho)
  · intro C i v s₃ m₃ E' hc hv hns hm hk htk
    exact wpAny_tests_nil ⟨rfl, ⟨s₃.heap, s₃.toks, rfl, fun _ _ e => e⟩⟩
  · intro C i v s₃ m₃ E' hc hv hpv hns hm hk htk
    exact wpAny_mono (he C i v s₃ m₃ (Nat.le_trans (by rw [Heap.size_push]; exact Nat.le_succ _) hc) (by simpa using hv) hns hm (up hk)) (fun y s₄ hq => hq) fun _ _ e => e.elim
  · intro D h' tk ys vs hD hl' hpl hlen hP hF hk
    have hD' : s₁.heap.get? D = none := by
      cases e : s₁.heap.get? D with
      | none => rfl
      | some o => rw [kH D o e] at hD; cases hD
    have hvs : vs = xs := by
      refine List.ext_getElem? fun j => ?_
      by_cases hj : j < vs.length
      · have := hP j vs[j] (List.getElem?_eq_getElem hj)
        rw [List.getElem?_eq_getElem hj]
        simpa using this.symm
      · have hx' : xs.length ≤ j := by simp at hlen; omega
        rw [List.getElem?_eq_none (by omega), List.getElem?_eq_none hx']
    subst hvs
    rw [List.filter_eq_self.mpr (fun _ _ => rfl)] at hF
    exact hQ D h' tk ys.toList hD' (by simpa using hpl) hF (up (s₃ := { s₁ with heap := h' }) hk)

/-- over a list, a new list for each -/
theorem comp_listO {s : Shared} {elt iter : Expr} {x : Str} {px : Pos} {scope : Scope} {cl : List (Str × Addr)} {pos : Pos} {Q : Value → Shared → Prop} (g : Value → List Value)
    (hclos : closureFor scope env = pure cl) (hcell : ∀ y ∈ scope.names, y.2 ≠ .cell) (hkind : scope.kind = .function)
    (hnames : ∀ y ∈ scope.names, y.2 = .local → scope.names.lookup y.1 = some .local) (hx : scope.names.lookup x = some .local) (hh : A.handled = none)
    (h : wpAny (model prog w) A (eval iter env) (fun xv s₁ => ∃ (l : Addr) (xs : List Value), xv = .ref l ∧ s₁.heap.IsList l xs.toArray ∧ xs.length ≤ 10000 ∧
      (∀ (C i : Nat) (v : Value) s₃ m₃, s₁.heap.objs.size ≤ C → xs[i]? = some v → s₃.heap.Ns C m₃ → m₃ x = some v → Keep s₁.heap s₃.heap →
        wpAny (model prog w) A (eval elt (compEnvC scope cl C env)) (fun y s₄ => FreshRow s₃.heap s₄.heap (g v) y ∧ Keeps s₃ s₄) (fun _ _ => False) s₃) ∧
      (∀ D h' tk ys, s₁.heap.get? D = none → h'.PlainList D ys.toArray → Rows s₁.heap h' (xs.map g) ys → Keep s₁.heap h' → Q (.ref D) { s₁ with heap := h', toks := tk })) E s)
    (hs : ∀ x, foldedSetIterable iter env x = pure x := by intro _; rfl) :
    wpAny (model prog w) A (eval (.ListComp elt [⟨.Name x px, iter, [], 0⟩] scope pos) env) Q E s := by
  refine wpAny_ListComp_freeO (fun _ => true) (fun v its => its = (g v).toArray) hclos hcell hkind hnames hx (wpAny_mono h (fun xv s₁ h₁ => ?_) fun _ _ e => e) hs
  obtain ⟨l, xs, rfl, hl, hn, he, hQ⟩ := h₁
  refine wpAny_pyIter_list hl ?_
  have kH : Keep s₁.heap (s₁.heap.push { cls := .type "list_iterator", data := .fields #[.ref l, .int 0 0] }) := fun b o e => Heap.get?_push_of_some _ e
  have hlI : l ≠ s₁.heap.objs.size := let ⟨_, ho, _⟩ := hl; Nat.ne_of_lt (Heap.lt_size ho)
  have W := Walks.list (prog := prog) (w := w) (A := A) hh s₁.heap.objs.size l hlI xs.toArray
  have up : ∀ {s₃ : Shared}, (∀ b o, b ∉ [s₁.heap.objs.size] → (s₁.heap.push { cls := .type "list_iterator", data := .fields #[.ref l, .int 0 0] }).get? b = some o → s₃.heap.get? b = some o) → Keep s₁.heap s₃.heap := fun hk b o e =>
    hk b o (fun hm => by rw [List.mem_singleton.mp hm] at e; exact absurd (Heap.lt_size e) (Nat.lt_irrefl _)) (kH b o e)
  refine ⟨_, _, _, _, _, _, rfl, W, ?_, ?_, ⟨⟨_, Heap.get?_push_size _ rfl, rfl, rfl⟩, hl.push _⟩, ?_, ⟨?_, ?_⟩, ?_⟩
  · rw [sizeLine_eq]; simp; omega
  · rintro i h ⟨⟨o, ho, _⟩, _⟩ b hb
    rw [List.mem_singleton.mp hb]; exact ⟨o, ho⟩
  · intro b hb
    have : b = s₁.heap.objs.size ∨ b = l := by simpa using hb
    rw [Heap.size_push]
    rcases this with rfl | rfl
    · exact Nat.lt_succ_self _
    · exact Nat.lt_succ_of_lt (let ⟨_, ho, _⟩ := hl; Heap.lt_size ho)
  · intro C i v s₃ m₃ E' hc hv hns hm hk htk
    exact wpAny_tests_nil ⟨rfl, ⟨s₃.heap, s₃.toks, rfl, fun _ _ e => e⟩⟩
  · intro C i v s₃ m₃ E' hc hv hpv hns hm hk htk
    refine wpAny_mono (he C i v s₃ m₃ (Nat.le_trans (by rw [Heap.size_push]; exact Nat.le_succ _) hc) (by simpa using hv) hns hm (up hk)) (fun y s₄ hq => ?_) fun _ _ e => e.elim
    obtain ⟨⟨a, rfl, h1, h2⟩, hk'⟩ := hq
    exact ⟨⟨a, _, rfl, h1, h2, rfl⟩, hk'⟩
  · intro D h' tk ys vs hD hl' hpl hlen hP hF hnd hyD hk
    have hD' : s₁.heap.get? D = none := by
      cases e : s₁.heap.get? D with
      | none => rfl
      | some o => rw [kH D o e] at hD; cases hD
    have hvs : vs = xs := by
      refine List.ext_getElem? fun j => ?_
      by_cases hj : j < vs.length
      · have := hP j vs[j] (List.getElem?_eq_getElem hj)
        rw [List.getElem?_eq_getElem hj]
        simpa using this.symm
      · have hx' : xs.length ≤ j := by simp at hlen; omega
        rw [List.getElem?_eq_none (by omega), List.getElem?_eq_none hx']
    subst hvs
    rw [List.filter_eq_self.mpr (fun _ _ => rfl)] at hF
    exact hQ D h' tk ys.toList hD' (by simpa using hpl) (rows_of_paired kH hF) (up (s₃ := { s₁ with heap := h' }) hk)

/-- over a range, a new list for each -/
theorem comp_rangeO {s : Shared} {elt iter : Expr} {x : Str} {px : Pos} {scope : Scope} {cl : List (Str × Addr)} {pos : Pos} {Q : Value → Shared → Prop} (g : Nat → List Value)
    (hclos : closureFor scope env = pure cl) (hcell : ∀ y ∈ scope.names, y.2 ≠ .cell) (hkind : scope.kind = .function)
    (hnames : ∀ y ∈ scope.names, y.2 = .local → scope.names.lookup y.1 = some .local) (hx : scope.names.lookup x = some .local) (hh : A.handled = none)
    (h : wpAny (model prog w) A (eval iter env) (fun xv s₁ => ∃ r n, xv = .ref r ∧ RangeObj s₁.heap r n ∧ n ≤ 10000 ∧
      (∀ C i t s₃ m₃, s₁.heap.objs.size ≤ C → i < n → s₃.heap.Ns C m₃ → m₃ x = some (.int (i : Nat) t) → Keep s₁.heap s₃.heap →
        wpAny (model prog w) A (eval elt (compEnvC scope cl C env)) (fun y s₄ => FreshRow s₃.heap s₄.heap (g i) y ∧ Keeps s₃ s₄) (fun _ _ => False) s₃) ∧
      (∀ D h' tk ys, s₁.heap.get? D = none → h'.PlainList D ys.toArray → Rows s₁.heap h' ((List.range n).map g) ys → Keep s₁.heap h' → Q (.ref D) { s₁ with heap := h', toks := tk })) E s)
    (hs : ∀ x, foldedSetIterable iter env x = pure x := by intro _; rfl) :
    wpAny (model prog w) A (eval (.ListComp elt [⟨.Name x px, iter, [], 0⟩] scope pos) env) Q E s := by
  refine wpAny_ListComp_freeO (fun _ => true) (fun v its => its = (match v with | .int i _ => g i.toNat | _ => []).toArray) hclos hcell hkind hnames hx (wpAny_mono h (fun xv s₁ h₁ => ?_) fun _ _ e => e) hs
  obtain ⟨r, n, rfl, hr, hn, he, hQ⟩ := h₁
  refine iter_rangeObj hr fun I H kH hIsz hIlt hit => ?_
  have hI : s₁.heap.get? I = none := Heap.get?_none_of_le hIsz
  have W := (Walks.range (prog := prog) (w := w) (A := A) hh I 0 1 n).bound
  have up : ∀ {s₃ : Shared}, (∀ b o, b ∉ [I] → H.get? b = some o → s₃.heap.get? b = some o) → Keep s₁.heap s₃.heap := fun hk b o e =>
    hk b o (fun hm => by rw [List.mem_singleton.mp hm] at e; rw [hI] at e; cases e) (kH b o e)
  have hC : ∀ C, H.objs.size ≤ C → s₁.heap.objs.size ≤ C := fun C hc => Nat.le_trans hIsz (Nat.le_trans (Nat.le_of_lt hIlt) hc)
  refine ⟨I, [I], [I], n, _, _, rfl, W, ?_, ?_, by simpa using hit, fun b hb => by rw [List.mem_singleton.mp hb]; exact hIlt, ⟨?_, ?_⟩, ?_⟩
  · rw [sizeLine_eq]; omega
  · intro i h hi b hb
    rw [List.mem_singleton.mp hb]; exact ⟨_, hi⟩
  · intro C i v s₃ m₃ E' hc hv hns hm hk htk
    exact wpAny_tests_nil ⟨rfl, ⟨s₃.heap, s₃.toks, rfl, fun _ _ e => e⟩⟩
  · rintro C i v s₃ m₃ E' hc ⟨hi, t, rfl⟩ hpv hns hm hk htk
    have e1 : (0 : Int) + (i : Int) * 1 = (i : Int) := by omega
    rw [e1] at hm ⊢
    refine wpAny_mono (he C i t s₃ m₃ (hC C hc) hi hns hm (up hk)) (fun y s₄ hq => ?_) fun _ _ e => e.elim
    obtain ⟨⟨a, rfl, h1, h2⟩, hk'⟩ := hq
    exact ⟨⟨a, _, rfl, h1, h2, by simp⟩, hk'⟩
  · intro D h' tk ys vs hD hl' hpl hlen hP hF hnd hyD hk
    have hD' : s₁.heap.get? D = none := by
      cases e : s₁.heap.get? D with
      | none => rfl
      | some o => rw [kH D o e] at hD; cases hD
    rw [List.filter_eq_self.mpr (fun _ _ => rfl)] at hF
    have hR := rows_of_paired (g := fun v => match v with | .int i _ => g i.toNat | _ => []) kH hF
    have e : vs.map (fun v => match v with | .int i _ => g i.toNat | _ => []) = (List.range n).map g := by
      refine List.ext_getElem? fun j => ?_
      rw [List.getElem?_map, List.getElem?_map]
      by_cases hj : j < vs.length
      · obtain ⟨_, t, e⟩ := hP j vs[j] (List.getElem?_eq_getElem hj)
        rw [List.getElem?_eq_getElem hj, List.getElem?_eq_getElem (by simp; omega), e]
        have : ((0 : Int) + (j : Int) * 1).toNat = j := by omega
        simp only [Option.map_some, List.getElem_range, this]
      · rw [List.getElem?_eq_none (by omega), List.getElem?_eq_none (by simp; omega)]; rfl
    rw [e] at hR
    exact hQ D h' tk ys.toList hD' (by simpa using hpl) hR (up (s₃ := { s₁ with heap := h' }) hk)
end
end Mine
end

noncomputable section
open PySem PySem.W PySem.Calls PyProof.Rows
namespace Mine

section
variable {prog : Program} {w : World} {A : Around} {E : Value → Shared → Prop} {s : Shared}

theorem getD_of {ws : List Value} {i : Nat} (h : i < ws.length) : ws.toArray[i]? = some (ws.getD i .none) := by
  simp [List.getD_eq_getElem?_getD, List.getElem?_eq_getElem h]
theorem getD_mem {ws : List Value} {i : Nat} (h : i < ws.length) : ws.getD i .none ∈ ws := by
  rw [List.getD_eq_getElem?_getD, List.getElem?_eq_getElem h]; exact List.getElem_mem h
theorem not_ref_stop {v : Value} (h : IsStop v) (a : Addr) : v ≠ .ref a := by
  rcases h with ⟨n, t, rfl, _⟩ | ⟨b, rfl⟩ <;> exact nofun

/-- an item of a list by a small index -/
theorem item_list {value slice : Expr} {l : Addr} {ws : List Value} {k : Nat} {i : Int} {u : Tok} {Q : Value → Shared → Prop} (hl : s.heap.IsList l ws.toArray) (hk : k < ws.length) (he : i = (k : Int)) (hb : ws.length ≤ 10000)
    (h : Q (ws.getD k .none) s) (hs : subscripted slice false (.ref l) (.int i u) = operate [.ref l, .int i u] (getItem (.ref l) (.int i u)) := by with_unfolding_all rfl)
    (hg : ∀ r, letTemporaryGo value (.ref l) r = pure () := by intro _; with_unfolding_all rfl) :
    wpAny (model prog w) A (subscriptTail value slice (.ref l) (.int i u)) Q E s := by
  subst he
  exact subscriptTail_builtin hl.typeIs slot_list_getitem.lookup (wpAny_getItem_list hl (by omega) (by omega) (by simpa using getD_of hk) h) hs hg

theorem after_spec {R : Result → Shared → Prop} {l : Addr} {ws : List Value} {st : Value} (G : Gd w s.heap) (hh : A.handled = none) (hroom : A.depth < 900) (hl : s.heap.IsList l ws.toArray)
    (h1 : 1 ≤ ws.length) (h2 : ws.length ≤ 25) (hw : ∀ v ∈ ws, IsStop v) (hst : IsStop st)
    (h : ∀ h' tk a, Keep s.heap h' → s.heap.get? a = none → h'.PlainList a (aft ws st).toArray → R (.ok (.ret (.ref a))) { s with heap := h', toks := tk }) :
    codeAny (model prog w) A (.call (.ref 71) ⟨[.ref l, st], []⟩) R s := by
  refine call_fn (binds := [("walk", .ref l), ("stop", st)]) G (Nat.lt_trans hroom (by decide)) rfl rfl rfl rfl rfl rfl rfl (fun h₁ tk F X G₁ => ?_)
  refine wpAny_execs_cons ?_
  refine wpAny_Return_some ?_
  have c1 : h₁.IsCell (s.heap.objs.size + 1) (some (.ref l)) := X.cell "walk" _ rfl
  have c2 : h₁.IsCell (s.heap.objs.size + 1 + 1) (some st) := X.cell "stop" _ rfl
  have hl₁ : h₁.IsList l ws.toArray := isList_keeps hl F.keep
  generalize hL : s.heap.objs.size = L at *
  refine comp_range (cl := [("walk", L + 1), ("stop", L + 1 + 1)]) (fun i => skey (ws.getD i .none) == skey st) (fun i => ws.getD (i + 1) .none)
    rfl (by decide) rfl (by decide) rfl hh ?_
  refine eval_call nofun ?_
  refine nm_builtin (v := .type "range") G₁ rfl rfl rfl rfl rfl rfl ?_
  refine PyProof.Rows.callWith_type1 ?_
  refine args_cons ?_
  refine wpAny_BinOp ?_
  refine eval_call nofun ?_
  refine nm_builtin (v := .builtin "len") G₁ rfl rfl rfl rfl rfl rfl ?_
  refine PyProof.Rows.callWith_builtin1 ?_
  refine args_cons ?_
  refine nm_cell c1 rfl rfl rfl ?_
  refine args_nil ?_
  refine call_len_list hl₁ (by simp; omega) ?_
  refine wpAny_Constant_int ?_
  refine PyProof.Rows.sub_int ?_
  refine args_nil ?_
  refine call_range (by simp; omega) (by simp; omega) fun r H tk' kH hr hR => ?_
  have hn : ((ws.toArray.size : Int) - 1).toNat = ws.length - 1 := by simp
  rw [hn] at hR
  refine ⟨r, ws.length - 1, rfl, hR, by omega, ?_, ?_, ?_⟩
  · intro C i t s₃ m₃ hC hi hns hm hk
    have kk : Keep h₁ s₃.heap := Keep.trans kH hk
    refine wpAny_tests_one ?_
    refine wpAny_isTrue_Compare1 ?_
    refine Subscript_ ?_
    refine nm_cell (c1.keeps kk) rfl rfl rfl ?_
    refine nm_local hns rfl rfl hm ?_
    refine item_list (isList_keeps hl₁ kk) (k := i) (by omega) rfl (by omega) ?_
    refine nm_cell (c2.keeps kk) rfl rfl rfl ?_
    refine eq_stop (hw _ (getD_mem (by omega))) hst ?_
    refine wpAny_truthy_bool ?_
    exact ⟨rfl, s₃.heap, s₃.toks, rfl, fun _ _ e => e⟩
  · intro C i t s₃ m₃ hC hi hp hns hm hk
    have kk : Keep h₁ s₃.heap := Keep.trans kH hk
    refine Subscript_ ?_
    refine nm_cell (c1.keeps kk) rfl rfl rfl ?_
    refine wpAny_BinOp ?_
    refine nm_local hns rfl rfl hm ?_
    refine wpAny_Constant_int ?_
    refine PyProof.Rows.add_int ?_
    refine item_list (s := { s₃ with toks := s₃.toks + 1 + 1 }) (isList_keeps hl₁ kk) (k := i + 1) (by omega) (by omega) (by omega) ?_
    exact ⟨rfl, s₃.heap, _, rfl, fun _ _ e => e⟩
  · intro D h' tk'' hD hpl hk
    have kk : Keep s.heap h' := Keep.trans F.keep (Keep.trans kH hk)
    refine h h' tk'' D kk (none_older (Keep.trans F.keep kH) hD) ?_
    exact hpl
end
end Mine
end

noncomputable section
open PySem PySem.W PySem.Calls PyProof.Rows
namespace Mine

section
variable {prog : Program} {w : World} {A : Around} {E : Value → Shared → Prop} {s : Shared}

theorem stop_spec {R : Result → Shared → Prop} {n : Int} {t : Tok} (G : Gd w s.heap) (hh : A.handled = none) (hroom : A.depth < 900)
    (h : ∀ h' tk v, Keep s.heap h' → IsStop v → R (.ok (.ret v)) { s with heap := h', toks := tk }) :
    codeAny (model prog w) A (.call (.ref 66) ⟨[.int n t], []⟩) R s := by
  refine call_fn (binds := [("x", .int n t)]) G (Nat.lt_trans hroom (by decide)) rfl rfl rfl rfl rfl rfl rfl (fun h₁ tk F X G₁ => ?_)
  have hx : ∀ {E Q} {s' : Shared} {pos}, s'.heap = h₁ → Q (.int n t) s' → wpAny (model prog w) (A.deeper (callEnvC (fnAt w 66) s.heap.objs.size 66)) (eval (.Name "x" pos) (callEnvC (fnAt w 66) s.heap.objs.size 66)) Q E s' := fun e hq => nm_local (e ▸ F.ns) rfl rfl rfl hq
  have hend : ∀ tk v, IsStop v → R (.ok (.ret v)) { s with heap := h₁, toks := tk } := fun tk v hv => h _ _ _ F.keep hv
  have hr := Int.emod_nonneg n (show (16 : Int) ≠ 0 by decide)
  have hr2 := Int.emod_lt_of_pos n (show (0 : Int) < 16 by decide)
  have hfm : n.fmod 16 = n % 16 := Int.fmod_eq_emod_of_nonneg n (by decide)
  refine wpAny_execs_cons ?_
  refine wpAny_If ?_
  refine wpAny_isTrue_BoolOp ?_
  refine wpAny_allTrue_And_cons ?_
  refine wpAny_isTrue_Compare1 ?_
  refine wpAny_BinOp ?_
  refine hx rfl ?_
  refine wpAny_Constant_int ?_
  refine PyProof.Rows.mod_int (by decide) ?_
  refine wpAny_Constant_int ?_
  refine PyProof.Rows.lt_int ?_
  refine wpAny_truthy_bool ?_
  by_cases c1 : decide (n.fmod 16 < 2) = true
  · rw [if_pos c1]
    refine wpAny_allTrue_And_cons ?_
    refine wpAny_isTrue_Compare1 ?_
    refine wpAny_BinOp ?_
    refine wpAny_BinOp ?_
    refine hx rfl ?_
    refine wpAny_Constant_int ?_
    refine PyProof.Rows.floordiv_int (by decide) ?_
    refine wpAny_Constant_int ?_
    refine PyProof.Rows.mod_int (by decide) ?_
    refine wpAny_Constant_int ?_
    refine PyProof.Rows.eq_int ?_
    refine wpAny_truthy_bool ?_
    by_cases c2 : ((n.fdiv 16).fmod 2 == 1) = true
    · rw [if_pos c2]
      refine wpAny_allTrue_And_nil ?_
      rw [if_pos rfl]
      refine wpAny_execs_cons ?_
      refine wpAny_Return_some ?_
      refine wpAny_Compare1 ?_
      refine wpAny_BinOp ?_
      refine hx rfl ?_
      refine wpAny_Constant_int ?_
      refine PyProof.Rows.mod_int (by decide) ?_
      refine wpAny_Constant_int ?_
      refine PyProof.Rows.eq_int ?_
      exact hend _ _ (.inr ⟨_, rfl⟩)
    · rw [if_neg c2, if_neg Bool.false_ne_true]
      refine wpAny_execs_nil ?_
      refine wpAny_execs_cons ?_
      refine wpAny_Return_some ?_
      refine wpAny_BinOp ?_
      refine hx rfl ?_
      refine wpAny_Constant_int ?_
      refine PyProof.Rows.mod_int (by decide) ?_
      exact hend _ _ (.inl ⟨_, _, rfl, by omega, by omega⟩)
  · rw [if_neg c1, if_neg Bool.false_ne_true]
    refine wpAny_execs_nil ?_
    refine wpAny_execs_cons ?_
    refine wpAny_Return_some ?_
    refine wpAny_BinOp ?_
    refine hx rfl ?_
    refine wpAny_Constant_int ?_
    refine PyProof.Rows.mod_int (by decide) ?_
    exact hend _ _ (.inl ⟨_, _, rfl, by omega, by omega⟩)
end
end Mine
end

noncomputable section
open PySem PySem.W PySem.Calls PyProof.Rows
namespace Mine

section
variable {prog : Program} {w : World} {A : Around} {E : Value → Shared → Prop} {s : Shared} {env : Env}

theorem call_extend {l b : Addr} {xs ys : List Value} {Q : Value → Shared → Prop} (hl : s.heap.PlainList l xs.toArray) (hb : s.heap.PlainList b ys.toArray) (h1 : xs.length ≤ 100000) (h2 : ys.length ≤ 100000)
    (hQ : ∀ h', h'.PlainList l (xs ++ ys).toArray → Heap.SameBut l s.heap h' → Q .none { s with heap := h' }) :
    wpAny (model prog w) A (call (.builtin "list.extend") [.ref l, .ref b]) Q E s := by
  obtain ⟨n, hl⟩ := hl
  obtain ⟨n2, hb⟩ := hb
  refine call_meets F.slot_list_extend ⟨_, hl, rfl⟩ F.entry_list_extend (F.args_list_extend_2 _ _) (AutoSeq1.list_extend_list_list_0 l xs.toArray n b ys.toArray n2 ?_ ?_ ?_) ⟨hl, hb, ?_⟩
  · have : Builtin.List.listTooLong (xs.toArray.size + ys.toArray.size) = false := by
      unfold Builtin.List.listTooLong; rw [sizeLine_eq]; simp; omega
    rw [this]; simp
  · rw [sizeLine_eq]; simp; omega
  · rw [sizeLine_eq]; simp; omega
  · have := IsL.update (h := s.heap) (l := l) hl (fun x => x ++ ys.toArray)
    rw [show xs.toArray ++ ys.toArray = (xs ++ ys).toArray by simp] at this
    exact hQ _ ⟨_, this⟩ (Heap.SameBut.update ..)

theorem call_append {l : Addr} {xs : List Value} {v : Value} {Q : Value → Shared → Prop} (hl : s.heap.PlainList l xs.toArray) (h1 : xs.length ≤ 100000)
    (hQ : ∀ h', h'.PlainList l (xs ++ [v]).toArray → Heap.SameBut l s.heap h' → Q .none { s with heap := h' }) :
    wpAny (model prog w) A (call (.builtin "list.append") [.ref l, v]) Q E s :=
  wpAny_list_append_plain hl (fun h' hp hs => hQ h' (by simpa using hp) hs) (by rw [sizeLine_eq]; simp; omega)

/-- a statement o.append(e) -/
theorem stmt_append {o e : Expr} {apos pos pos' : Pos} {Q : Flow → Shared → Prop}
    (h : wpAny (model prog w) A (eval o env) (fun ov s₁ => ∃ l xs, ov = .ref l ∧ s₁.heap.PlainList l xs ∧
      wpAny (model prog w) A (eval e env) (fun v s₂ => ∃ ys : List Value, s₂.heap.PlainList l ys.toArray ∧ ys.length ≤ 100000 ∧
        ∀ h', h'.PlainList l (ys ++ [v]).toArray → Heap.SameBut l s₂.heap h' → Q .next { s₂ with heap := h' }) E s₁) E s)
    (hbase : attributeBase o "append" env (eval o env) = eval o env := by rfl)
    (hfew : ((backTo pos (starEach [e] env)).all (fun x => !x.1) && (backToKw pos (keywordEach [] env)).all (fun x => x.1.isSome)
      && decide ([e].length + ([] : List Keyword).length + (if ([] : List Keyword).isEmpty then 0 else 1) < 30)) = true := by rfl)
    (hline : (apos.endLine == pos.line) = true := by rfl) (he : starEach [e] env = (false, eval e env) :: starEach [] env := by rfl)
    (hi : interactive env = false := by rfl) (hsw : swapsWith (.Call (.Attribute o "append" apos) [e] [] pos) none pos'.line env = pure false := by rfl) :
    wpAny (model prog w) A (exec (.Expr (.Call (.Attribute o "append" apos) [e] [] pos) pos') env) Q E s := by
  refine wpAny_Expr ?_ hi hsw
  refine wpAny_Call_method (T := "list") (id := "list.append") hbase hfew hline F.plainAttrs_list F.slot_list_append F.type_list_append (wpAny_mono h (fun ov s₁ h₁ => ?_) fun _ _ x => x)
  obtain ⟨l, xs, rfl, ⟨n, hl⟩, h₁⟩ := h₁
  refine ⟨⟨_, hl, rfl⟩, fun a ea => by cases ea; exact ⟨_, hl, rfl⟩, ?_⟩
  refine PyProof.Rows.callWith_method1 (args_cons (wpAny_mono h₁ (fun v s₂ h₂ => args_nil ?_) (fun _ _ x => x)) he) he rfl
  obtain ⟨ys, hl₂, hsz, hQ⟩ := h₂
  exact call_append hl₂ hsz fun h' hp hs => hQ h' hp hs

/-- a statement o.extend(e) -/
theorem stmt_extend {o e : Expr} {apos pos pos' : Pos} {Q : Flow → Shared → Prop}
    (h : wpAny (model prog w) A (eval o env) (fun ov s₁ => ∃ l xs, ov = .ref l ∧ s₁.heap.PlainList l xs ∧
      wpAny (model prog w) A (eval e env) (fun v s₂ => ∃ (b : Addr) (xs ys : List Value), v = .ref b ∧ s₂.heap.PlainList l xs.toArray ∧ s₂.heap.PlainList b ys.toArray ∧ xs.length ≤ 100000 ∧ ys.length ≤ 100000 ∧
        ∀ h', h'.PlainList l (xs ++ ys).toArray → Heap.SameBut l s₂.heap h' → Q .next { s₂ with heap := h' }) E s₁) E s)
    (hbase : attributeBase o "extend" env (eval o env) = eval o env := by rfl)
    (hfew : ((backTo pos (starEach [e] env)).all (fun x => !x.1) && (backToKw pos (keywordEach [] env)).all (fun x => x.1.isSome)
      && decide ([e].length + ([] : List Keyword).length + (if ([] : List Keyword).isEmpty then 0 else 1) < 30)) = true := by rfl)
    (hline : (apos.endLine == pos.line) = true := by rfl) (he : starEach [e] env = (false, eval e env) :: starEach [] env := by rfl)
    (hi : interactive env = false := by rfl) (hsw : swapsWith (.Call (.Attribute o "extend" apos) [e] [] pos) none pos'.line env = pure false := by rfl) :
    wpAny (model prog w) A (exec (.Expr (.Call (.Attribute o "extend" apos) [e] [] pos) pos') env) Q E s := by
  refine wpAny_Expr ?_ hi hsw
  refine wpAny_Call_method (T := "list") (id := "list.extend") hbase hfew hline F.plainAttrs_list F.slot_list_extend F.type_list_extend (wpAny_mono h (fun ov s₁ h₁ => ?_) fun _ _ x => x)
  obtain ⟨l, xs, rfl, ⟨n, hl⟩, h₁⟩ := h₁
  refine ⟨⟨_, hl, rfl⟩, fun a ea => by cases ea; exact ⟨_, hl, rfl⟩, ?_⟩
  refine PyProof.Rows.callWith_method1 (args_cons (wpAny_mono h₁ (fun v s₂ h₂ => args_nil ?_) (fun _ _ x => x)) he) he rfl
  obtain ⟨b, xs, ys, rfl, hl₂, hb₂, hs1, hs2, hQ⟩ := h₂
  exact call_extend hl₂ hb₂ hs1 hs2 fun h' hp hs => hQ h' hp hs

/-- a call f(e..) of a def of the top -/
theorem callWith_top {pos : Pos} {f : Addr} {e : Expr} {rest : List Expr} {Q : Value → Shared → Prop} (hd : (objAt w f).data = .func (fnAt w f)) (ho : (Kf w).lookup f = some (objAt w f))
    (h : wpAny (model prog w) A (spliced (backTo pos (starEach (e :: rest) env))) (fun vs s₁ => Gd w s₁.heap ∧ wpAny (model prog w) A (call (.ref f) vs) Q E s₁) E s)
    (he : starEach (e :: rest) env = (false, eval e env) :: starEach rest env := by rfl) :
    wpAny (model prog w) A (callWith pos (.ref f) [] (backTo pos (starEach (e :: rest) env)) []) Q E s :=
  PyProof.Rows.callWith_def hd (wpAny_mono h (fun _ _ x => ⟨x.1.k _ _ ho, x.2⟩) fun _ _ x => x) he

theorem new_list {vs : List Value} {Q : Value → Shared → Prop} (hn : vs.length ≤ 100000)
    (h : ∀ D h', D = s.heap.objs.size → h'.objs.size = s.heap.objs.size + 1 → Keep s.heap h' → h'.PlainList D vs.toArray → Q (.ref D) { s with heap := h' }) :
    wpAny (model prog w) A (newList vs) Q E s :=
  wpAny_newObj_type (h _ _ rfl (Heap.size_push ..) (fun _ _ e => Heap.get?_push_of_some _ e) ⟨0, Heap.get?_push_size _ rfl⟩) (by show vs.toArray.size ≤ sizeLine; rw [sizeLine_eq]; simp; omega)
end
end Mine
end

noncomputable section
open PySem PySem.W PySem.Calls PyProof.Rows
namespace Mine

theorem ne_list_ns {h : Heap} {a L : Addr} {xs : Array Value} {m : Str → Option Value} (x : h.IsList a xs) (n : h.Ns L m) : a ≠ L := by
  rintro rfl
  obtain ⟨o, ho, _, k, hd⟩ := x
  obtain ⟨o', es, ep, ho', hd', _⟩ := n
  rw [ho] at ho'; cases ho'; rw [hd] at hd'; cases hd'
theorem ne_list_cell {h : Heap} {a c : Addr} {xs : Array Value} {v : Option Value} (x : h.IsList a xs) (n : h.IsCell c v) : a ≠ c := by
  rintro rfl
  obtain ⟨o, ho, _, k, hd⟩ := x
  obtain ⟨o', ho', hd'⟩ := n
  rw [ho] at ho'; cases ho'; rw [hd] at hd'; cases hd'
theorem ne_ns_cell {h : Heap} {L c : Addr} {m : Str → Option Value} {v : Option Value} (x : h.Ns L m) (n : h.IsCell c v) : L ≠ c := by
  rintro rfl
  obtain ⟨o, es, ep, ho, hd, _⟩ := x
  obtain ⟨o', ho', hd'⟩ := n
  rw [ho] at ho'; cases ho'; rw [hd] at hd'; cases hd'
theorem ne_none {h : Heap} {a b : Addr} {o : Obj} (x : h.get? a = some o) (n : h.get? b = none) : a ≠ b := by
  rintro rfl; rw [x] at n; cases n
theorem ne_list_iter {h : Heap} {a I l : Addr} {i : Nat} {xs : Array Value} (x : h.IsList a xs) (n : h.IsListIter I l i) : a ≠ I := by
  rintro rfl
  obtain ⟨o, ho, _, k, hd⟩ := x
  obtain ⟨o', ho', _, hd'⟩ := n
  rw [ho] at ho'; cases ho'; rw [hd] at hd'; cases hd'
theorem ne_ns_iter {h : Heap} {L I l : Addr} {i : Nat} {m : Str → Option Value} (x : h.Ns L m) (n : h.IsListIter I l i) : L ≠ I := by
  rintro rfl
  obtain ⟨o, es, ep, ho, hd, _⟩ := x
  obtain ⟨o', ho', _, hd'⟩ := n
  rw [ho] at ho'; cases ho'; rw [hd] at hd'; cases hd'
theorem ne_cell_iter {h : Heap} {c I l : Addr} {i : Nat} {v : Option Value} (x : h.IsCell c v) (n : h.IsListIter I l i) : c ≠ I := by
  rintro rfl
  obtain ⟨o, ho, hd⟩ := x
  obtain ⟨o', ho', _, hd'⟩ := n
  rw [ho] at ho'; cases ho'; rw [hd] at hd'; cases hd'
theorem iter_keeps {h h' : Heap} {I l : Addr} {i : Nat} (x : h.IsListIter I l i) (k : Keep h h') : h'.IsListIter I l i := let ⟨o, ho, r⟩ := x; ⟨o, k _ _ ho, r⟩
theorem isList_get {h : Heap} {a : Addr} {xs : Array Value} (x : h.IsList a xs) : ∃ o, h.get? a = some o := let ⟨o, ho, _⟩ := x; ⟨o, ho⟩
theorem ne_list_none {h : Heap} {a b : Addr} {xs : Array Value} (x : h.IsList a xs) (n : h.get? b = none) : a ≠ b := let ⟨_, ho⟩ := isList_get x; ne_none ho n
theorem cell_extBut {h h' : Heap} {a c : Addr} {v : Option Value} (x : h.IsCell c v) (hs : Heap.ExtBut a h h') (hca : c ≠ a) : h'.IsCell c v :=
  let ⟨o, ho, hd⟩ := x; ⟨o, hs c o hca ho, hd⟩
theorem keep_but {s h h' : Heap} {q : Addr} (k : Keep s h) (hs : Heap.ExtBut q h h') (hq : s.get? q = none) : Keep s h' := fun b o e => hs b o (ne_none e hq) (k b o e)
theorem none_of_ge {h : Heap} {a : Addr} (x : h.objs.size ≤ a) : h.get? a = none := Heap.get?_none_of_le x

section
variable {prog : Program} {w : World} {A : Around} {E : Value → Shared → Prop} {env : Env} {s : Shared}

theorem slice_list {value : Expr} {lower upper : Option Expr} {p pos : Pos} {Q : Value → Shared → Prop}
    (h : wpAny (model prog w) A (eval value env) (fun o s₁ => wpAny (model prog w) A (evalPart lower env) (fun vl s₂ => wpAny (model prog w) A (evalPart upper env) (fun vu s₃ =>
      ∃ (l : Addr) (xs zs : List Value) (lo hi : Option Int), o = .ref l ∧ s₃.heap.IsList l xs.toArray ∧ xs.length ≤ 100000 ∧ IsPart vl lo ∧ IsPart vu hi ∧ slicePick xs.toArray lo hi none = zs.toArray ∧
        ∀ D h', Keep s₃.heap h' → s₃.heap.get? D = none → h'.PlainList D zs.toArray → Q (.ref D) { s₃ with heap := h' }) E s₂) E s₁) E s)
    (ht : ∀ o r, letTemporaryGo value o r = pure () := by intro _ _; rfl) :
    wpAny (model prog w) A (eval (.Subscript value (.Slice lower upper none p) pos) env) Q E s := by
  refine wpAny_Subscript_list_slice (wpAny_mono h (fun o s₁ h₁ => wpAny_mono h₁ (fun vl s₂ h₂ => wpAny_mono h₂ (fun vu s₃ h₃ => ?_) fun _ _ e => e) fun _ _ e => e) fun _ _ e => e) ht
  obtain ⟨l, xs, zs, lo, hi, rfl, hl, hn, pl, pu, hz, hQ⟩ := h₃
  refine ⟨l, xs.toArray, lo, hi, rfl, hl, by rw [sizeLine_eq]; simp; omega, pl, pu, ?_⟩
  rw [hz]
  refine hQ _ _ (fun b o e => Heap.get?_push_of_some _ (Heap.get?_push_of_some _ e)) (none_of_ge (Nat.le_succ _)) ⟨0, ?_⟩
  have := Heap.get?_push_size (s₃.heap.push { cls := .type "slice", data := .fields #[vl, vu, .none] }) (o := { cls := .type "list", data := .seq zs.toArray }) rfl
  rw [Heap.size_push] at this
  exact this

/-- y = [.. for x in range ..], the stores exchanged -/
theorem assign_comp_range {elt iter : Expr} {x y : Str} {px py : Pos} {ifs : List Expr} {scope : Scope} {cl : List (Str × Addr)} {pos spos : Pos} {Q : Flow → Shared → Prop} (p : Nat → Bool) (f : Nat → Value)
    (hsw : swapsWith (.ListComp elt [⟨.Name x px, iter, ifs, 0⟩] scope pos) (some (.Name y py)) spos.line env = pure true)
    (hclos : closureFor scope env = pure cl) (hcell : ∀ z ∈ scope.names, z.2 ≠ .cell) (hkind : scope.kind = .function)
    (hnames : ∀ z ∈ scope.names, z.2 = .local → scope.names.lookup z.1 = some .local) (hx : scope.names.lookup x = some .local)
    (hy : env.kindOf y = some .local) (hp : (env.scope.kind == .class || (env.scope.kind == .module && env.locals != env.globals)) = false) (hh : A.handled = none)
    (h : wpAny (model prog w) A (eval iter env) (fun xv s₁ => ∃ r n m, xv = .ref r ∧ RangeObj s₁.heap r n ∧ n ≤ 10000 ∧ s₁.heap.Ns env.locals m ∧
      (∀ C i t s₃ m₃, s₁.heap.objs.size ≤ C → i < n → s₃.heap.Ns C m₃ → m₃ x = some (.int (i : Nat) t) → Keep s₁.heap s₃.heap →
        testsOf prog w A ifs (compEnvC scope cl C env) (fun ok s₄ => ok = p i ∧ Keeps s₃ s₄) s₃) ∧
      (∀ C i t s₃ m₃, s₁.heap.objs.size ≤ C → i < n → p i = true → s₃.heap.Ns C m₃ → m₃ x = some (.int (i : Nat) t) → Keep s₁.heap s₃.heap →
        wpAny (model prog w) A (eval elt (compEnvC scope cl C env)) (fun y s₄ => y = f i ∧ Keeps s₃ s₄) (fun _ _ => False) s₃) ∧
      (∀ D h' tk, s₁.heap.get? D = none → h'.PlainList D (((List.range n).filter p).map f).toArray → h'.Ns env.locals (fun z => if z = y then some (.ref D) else m z) →
        Heap.ExtBut env.locals s₁.heap h' → Q .next { s₁ with heap := h', toks := tk })) E s)
    (hs : ∀ x, foldedSetIterable iter env x = pure x := by intro _; rfl) :
    wpAny (model prog w) A (exec (.Assign [.Name y py] (.ListComp elt [⟨.Name x px, iter, ifs, 0⟩] scope pos) spos) env) Q E s := by
  refine wpAny_Assign_ListComp_free (pvOf p) (fvOf f) hsw hclos hcell hkind hnames hx hy hp (wpAny_mono h (fun xv s₁ h₁ => ?_) fun _ _ e => e) hs
  obtain ⟨r, n, m, rfl, hr, hn, hns₀, ht, he, hQ⟩ := h₁
  refine iter_rangeObj hr fun I H kH hIsz hIlt hit => ?_
  have hI : s₁.heap.get? I = none := Heap.get?_none_of_le hIsz
  have W := (Walks.range (prog := prog) (w := w) (A := A) hh I 0 1 n).bound
  have up : ∀ {s₃ : Shared}, (∀ b o, b ∉ [I] → H.get? b = some o → s₃.heap.get? b = some o) → Keep s₁.heap s₃.heap := fun hk b o e =>
    hk b o (fun hm => by rw [List.mem_singleton.mp hm] at e; rw [hI] at e; cases e) (kH b o e)
  have hC : ∀ C, H.objs.size ≤ C → s₁.heap.objs.size ≤ C := fun C hc => Nat.le_trans hIsz (Nat.le_trans (Nat.le_of_lt hIlt) hc)
  have hLI : env.locals ≠ I := by
    obtain ⟨o, _, _, ho, _⟩ := hns₀
    exact ne_none ho hI
  refine ⟨I, [I], [I], n, _, _, m, rfl, W, ?_, by simpa using hit, fun b hb => by rw [List.mem_singleton.mp hb]; exact hIlt, by simpa using hLI, hns₀.keeps kH, ⟨?_, ?_⟩, ?_⟩
  · rw [sizeLine_eq]; omega
  · rintro C i v s₃ m₃ E' hc ⟨hi, t, rfl⟩ hns hm hk htk
    have e1 : (0 : Int) + (i : Int) * 1 = (i : Int) := by omega
    rw [e1] at hm ⊢
    refine wpAny_mono (ht C i t s₃ m₃ (hC C hc) hi hns hm (up hk)) (fun ok s₄ hq => ?_) fun _ _ e => e.elim
    exact ⟨hq.1.trans (by simp [pvOf]), hq.2⟩
  · rintro C i v s₃ m₃ E' hc ⟨hi, t, rfl⟩ hpv hns hm hk htk
    have e1 : (0 : Int) + (i : Int) * 1 = (i : Int) := by omega
    rw [e1] at hm hpv ⊢
    refine wpAny_mono (he C i t s₃ m₃ (hC C hc) hi (by simpa [pvOf] using hpv) hns hm (up hk)) (fun y s₄ hq => ?_) fun _ _ e => e.elim
    exact ⟨by simpa [fvOf] using hq.1, hq.2⟩
  · intro D h' tk ys vs hD hl hpl hlen hP hF hns' hk
    have hys : ys.toList = ((List.range n).filter p).map f := by
      have := paired_range (p := p) (f := f) (pv := pvOf p) (F := fvOf f) (fun i t => by simp [pvOf]) (fun i t y hy => by simpa [fvOf] using hy) vs 0
        (fun j v hj => by obtain ⟨_, t, e⟩ := hP j v hj; exact ⟨t, by rw [e]; congr 1; omega⟩) _ hF
      rw [this, hlen, List.range_eq_range']
    have hys' : ys = (((List.range n).filter p).map f).toArray := by rw [← hys]
    exact hQ D h' tk (none_older kH hD) (hys' ▸ hpl) hns' fun b o hb e => hk b o hb (fun hm => by rw [List.mem_singleton.mp hm] at e; rw [hI] at e; cases e) (kH b o e)
end
end Mine
end

noncomputable section
open PySem PySem.W PySem.Calls PyProof.Rows
namespace Mine

section
variable {prog : Program} {w : World} {A : Around} {E : Value → Shared → Prop} {s : Shared}

theorem st_local {env : Env} {x : Str} {v : Value} {L : Addr} {m : Str → Option Value} {Q : Unit → Shared → Prop} (hn : s.heap.Ns L m) (hl : env.kindOf x = some .local)
    (h : ∀ h', h'.Ns L (fun y => if y = x then some v else m y) → Heap.SameBut L s.heap h' → Q () { s with heap := h', toks := s.toks + 1 }) (hL : env.locals = L := by rfl) (hk : env.scope.kind = .function := by rfl) :
    wpAny (model prog w) A (storeName env x v) Q E s := by
  subst hL
  exact wpAny_storeName_local hl hn h (by rw [hk]; rfl)

structure RingSt (s : Shared) (l M ra : Addr) (L : Addr) (met ring : List Value) (vn : Option Value) (h : Heap) (m : Str → Option Value) : Prop where
  ns : h.Ns L m
  mw : m "walk" = some (.ref l)
  mr : m "ring" = some (.ref ra)
  c1 : h.IsCell (L + 1) (some (.ref M))
  c2 : h.IsCell (L + 1 + 1) vn
  met : h.PlainList M met.toArray
  rng : h.PlainList ra ring.toArray
  keep : Keep s.heap h
  ne : M ≠ ra
  fresh : s.heap.get? M = none

theorem RingSt.step {s : Shared} {l M ra L q : Addr} {met ring : List Value} {vn : Option Value} {h h' : Heap} {m : Str → Option Value} (S : RingSt s l M ra L met ring vn h m) (hs : Heap.ExtBut q h h')
    (h1 : L ≠ q) (h2 : L + 1 ≠ q) (h3 : L + 1 + 1 ≠ q) (h4 : M ≠ q) (h5 : ra ≠ q) (h6 : s.heap.get? q = none) : RingSt s l M ra L met ring vn h' m :=
  { ns := S.ns.extBut hs h1, mw := S.mw, mr := S.mr, c1 := cell_extBut S.c1 hs h2, c2 := cell_extBut S.c2 hs h3, met := S.met.extBut hs h4, rng := S.rng.extBut hs h5, keep := keep_but S.keep hs h6, ne := S.ne, fresh := S.fresh }
theorem RingSt.keeps {s : Shared} {l M ra L : Addr} {met ring : List Value} {vn : Option Value} {h h' : Heap} {m : Str → Option Value} (S : RingSt s l M ra L met ring vn h m) (k : Keep h h') : RingSt s l M ra L met ring vn h' m :=
  { ns := S.ns.keeps k, mw := S.mw, mr := S.mr, c1 := S.c1.keeps k, c2 := S.c2.keeps k, met := plain_keeps S.met k, rng := plain_keeps S.rng k, keep := Keep.trans S.keep k, ne := S.ne, fresh := S.fresh }
theorem RingSt.iter {s : Shared} {l M ra L I l' : Addr} {i : Nat} {met ring : List Value} {vn : Option Value} {h h' : Heap} {m : Str → Option Value} (S : RingSt s l M ra L met ring vn h m) (hs : Heap.ExtBut I h h') (hit : h.IsListIter I l' i)
    (h6 : s.heap.get? I = none) : RingSt s l M ra L met ring vn h' m :=
  S.step hs (ne_ns_iter S.ns hit) (ne_cell_iter S.c1 hit) (ne_cell_iter S.c2 hit) (ne_list_iter S.met.isList hit) (ne_list_iter S.rng.isList hit) h6
theorem RingSt.list {s : Shared} {l M ra L a : Addr} {xs : Array Value} {met ring : List Value} {vn : Option Value} {h h' : Heap} {m : Str → Option Value} (S : RingSt s l M ra L met ring vn h m) (hs : Heap.ExtBut a h h') (hl : h.IsList a xs)
    (h1 : M ≠ a) (h2 : ra ≠ a) (h6 : s.heap.get? a = none) : RingSt s l M ra L met ring vn h' m :=
  S.step hs (Ne.symm (ne_list_ns hl S.ns)) (Ne.symm (ne_list_cell hl S.c1)) (Ne.symm (ne_list_cell hl S.c2)) h1 h2 h6
theorem RingSt.local {s : Shared} {l M ra L : Addr} {met ring : List Value} {vn : Option Value} {h h' : Heap} {m m' : Str → Option Value} (S : RingSt s l M ra L met ring vn h m) (hs : Heap.ExtBut L h h') (hn : h'.Ns L m')
    (hw : m' "walk" = m "walk") (hr : m' "ring" = m "ring") (hL : s.heap.get? L = none) : RingSt s l M ra L met ring vn h' m' :=
  { ns := hn, mw := hw.trans S.mw, mr := hr.trans S.mr, c1 := cell_extBut S.c1 hs (Ne.symm (ne_ns_cell S.ns S.c1)), c2 := cell_extBut S.c2 hs (Ne.symm (ne_ns_cell S.ns S.c2)), met := S.met.extBut hs (ne_list_ns S.met.isList S.ns),
    rng := S.rng.extBut hs (ne_list_ns S.rng.isList S.ns), keep := keep_but S.keep hs hL, ne := S.ne, fresh := S.fresh }

structure RingMath (ws met ring : List Value) : Prop where
  sub : ∀ v ∈ met, v ∈ ws
  rsub : ∀ v ∈ ring, v ∈ met
  nodup : KNodup skey met
  rlen : ring.length ≤ met.length
  bfs : ∀ T, Bfs skey (aft ws) met (ring.flatMap (aft ws)) T → Bfs skey (aft ws) [] [ws.getD 0 .none] T

theorem RingMath.le {ws met ring : List Value} (x : RingMath ws met ring) : met.length ≤ ws.length := x.nodup.le fun v hv => ⟨v, x.sub v hv, rfl⟩

theorem RingMath.next {ws met ring : List Value} (x : RingMath ws met ring) : RingMath ws (met ++ off skey met (ring.flatMap (aft ws))) (off skey met (ring.flatMap (aft ws))) where
  sub := fun v hv => by
    rcases List.mem_append.mp hv with hv | hv
    · exact x.sub v hv
    · obtain ⟨u, _, hu⟩ := List.mem_flatMap.mp (off_sub _ _ v hv)
      exact aft_sub hu
  rsub := fun v hv => List.mem_append_right _ hv
  nodup := KNodup.off _ _ x.nodup
  rlen := by rw [List.length_append]; omega
  bfs := fun T h => x.bfs T (by
    have := Bfs.batch (ring.flatMap (aft ws)) met [] T (by simpa using h)
    simpa using this)

theorem flatMap_len {ws : List Value} : ∀ (r : List Value), (r.flatMap (aft ws)).length ≤ r.length * ws.length
  | [] => by simp
  | x :: r => by
    rw [List.flatMap_cons, List.length_append, List.length_cons, Nat.succ_mul]
    have := flatMap_len (ws := ws) r
    have := aft_len ws x
    omega

set_option maxHeartbeats 4000000 in
theorem ring_spec {R : Result → Shared → Prop} {l : Addr} {ws : List Value} (G : Gd w s.heap) (hh : A.handled = none) (hroom : A.depth < 800) (hu : A.units < 5000) (hl : s.heap.IsList l ws.toArray)
    (h1 : 1 ≤ ws.length) (h2 : ws.length ≤ 25) (hw : ∀ v ∈ ws, IsStop v)
    (h : ∀ h' tk a T, Keep s.heap h' → s.heap.get? a = none → h'.PlainList a T.toArray → Bfs skey (aft ws) [] [ws.getD 0 .none] T → (∀ v ∈ T, v ∈ ws) → T.length ≤ ws.length →
      R (.ok (.ret (.ref a))) { s with heap := h', toks := tk }) :
    codeAny (model prog w) A (.call (.ref 76) ⟨[.ref l], []⟩) R s := by
  refine call_fn (binds := [("walk", .ref l)]) G (Nat.lt_trans hroom (by decide)) rfl rfl rfl rfl rfl rfl rfl (fun h₁ tk F X G₁ => ?_)
  have c1 : h₁.IsCell (s.heap.objs.size + 1) none := X.cell "met" _ rfl
  have c2 : h₁.IsCell (s.heap.objs.size + 1 + 1) none := X.cell "near" _ rfl
  have hl₁ : h₁.IsList l ws.toArray := isList_keeps hl F.keep
  have hw0 : ws.getD 0 .none ∈ ws := getD_mem (by omega)
  have ns₁ := F.ns
  have k₁ : Keep s.heap h₁ := F.keep
  have hsL : s.heap.get? s.heap.objs.size = none := none_of_ge (Nat.le_refl _)
  have hsL1 : s.heap.get? (s.heap.objs.size + 1) = none := none_of_ge (Nat.le_succ _)
  have hsL2 : s.heap.get? (s.heap.objs.size + 1 + 1) = none := none_of_ge (by omega)
  generalize hL : s.heap.objs.size = L at *
  -- met = [walk[0]]
  refine wpAny_execs_cons ?_
  refine wpAny_Assign_Name ?_
  refine PyProof.Rows.List_ ?_
  refine args_cons ?_
  refine Subscript_ ?_
  refine nm_local ns₁ rfl rfl rfl ?_
  refine wpAny_Constant_int ?_
  refine item_list hl₁ (k := 0) (by omega) rfl (by omega) ?_
  refine args_nil ?_
  refine new_list (by simp) fun M h₂ hM hsz₂ k₂ hMl => ?_
  have hMn : h₁.get? M = none := none_of_ge (Nat.le_of_eq hM.symm)
  refine wpAny_storeName_cell (c := L + 1) rfl rfl rfl (c1.keeps k₂) fun h₃ c1' hs₃ => ?_
  have hML1 : M ≠ L + 1 := ne_list_cell hMl.isList (c1.keeps k₂)
  have ns₃ := (ns₁.keeps k₂).sameBut hs₃ (ne_ns_cell (ns₁.keeps k₂) (c1.keeps k₂))
  have c2₃ : h₃.IsCell (L + 1 + 1) none := (c2.keeps k₂).sameBut hs₃ (neN (by omega))
  have hMl₃ : h₃.PlainList M [ws.getD 0 .none].toArray := hMl.extBut hs₃.extBut hML1
  have k₃ : Keep s.heap h₃ := keep_but (Keep.trans k₁ k₂) hs₃.extBut hsL1
  have hl₃ := isList_keeps hl k₃
  have G₃ := G.keeps k₃
  have hMs : s.heap.get? M = none := none_older k₁ hMn
  -- ring = [walk[0]]
  refine wpAny_execs_cons ?_
  refine wpAny_Assign_Name ?_
  refine PyProof.Rows.List_ ?_
  refine args_cons ?_
  refine Subscript_ ?_
  refine nm_local ns₃ rfl rfl rfl ?_
  refine wpAny_Constant_int ?_
  refine item_list hl₃ (k := 0) (by omega) rfl (by omega) ?_
  refine args_nil ?_
  refine new_list (by simp) fun ra h₄ hra hsz₄ k₄ hral => ?_
  have hrn : h₃.get? ra = none := none_of_ge (Nat.le_of_eq hra.symm)
  refine st_local (L := L) (ns₃.keeps k₄) rfl fun h₅ ns₅ hs₅ => ?_
  have hMr : M ≠ ra := ne_list_none hMl₃.isList hrn
  have hsv : RingSt s l M ra L [ws.getD 0 .none] [ws.getD 0 .none] none h₅ _ :=
    { ns := ns₅, mw := rfl, mr := rfl, c1 := (c1'.keeps k₄).sameBut hs₅ (neN (by omega)), c2 := (c2₃.keeps k₄).sameBut hs₅ (neN (by omega))
      met := (plain_keeps hMl₃ k₄).extBut hs₅.extBut (ne_list_ns (plain_keeps hMl₃ k₄).isList (ns₃.keeps k₄))
      rng := hral.extBut hs₅.extBut (ne_list_ns hral.isList (ns₃.keeps k₄))
      keep := keep_but (Keep.trans k₃ k₄) hs₅.extBut hsL, ne := hMr, fresh := hMs }
  have hm0 : RingMath ws [ws.getD 0 .none] [ws.getD 0 .none] :=
    { sub := fun v hv => by rw [List.mem_singleton.mp hv]; exact hw0, rsub := fun v hv => hv, nodup := by simp [KNodup], rlen := Nat.le_refl _
      bfs := fun T hT => .take rfl (by simpa using hT) }
  -- the while
  refine wpAny_execs_cons ?_
  refine wpAny_While ?_
  refine codeAny_whileLoop (fun n s' => ∃ h' tk' m met ring ra vn, s' = { s with heap := h', toks := tk' } ∧ RingSt s l M ra L met ring vn h' m ∧ RingMath ws met ring ∧
    n = 2 * (ws.length - met.length) + (if ring = [] then 0 else 1)) ?_ _ ⟨h₅, _, _, _, _, ra, none, rfl, hsv, hm0, rfl⟩
  · rintro n s' ⟨h', tk', m, met, ring, ra, vn, rfl, S, Mt, rfl⟩
    have Gx := G.keeps S.keep
    have hlx := isList_keeps hl S.keep
    have hsz : met.length ≤ 25 := Nat.le_trans Mt.le h2
    refine wpAny_isTrue_Compare1 ?_
    refine nm_local S.ns rfl rfl S.mr ?_
    refine PyProof.Rows.List_ ?_
    refine args_nil ?_
    refine new_list (by simp) fun e0 hq he0 _ kq hel => ?_
    by_cases hr : ring = []
    · subst hr
      refine SeqAt.RcNeAt.lists (e := fun _ => true) (isList_keeps S.rng.isList kq) hel.isList rfl (by show A.units + 3 < cLine; unfold cLine; omega) (fun j h1 _ => absurd h1 (by simp)) _ _ _ _ ?_
      refine wpAny_truthy_bool ?_
      rw [if_neg (by simp)]
      refine wpAny_execs_nil ?_
      refine wpAny_execs_cons ?_
      refine wpAny_Return_some ?_
      refine nm_cell (S.c1.keeps kq) rfl rfl rfl ?_
      exact h _ _ _ met (Keep.trans S.keep kq) S.fresh (plain_keeps S.met kq) (Mt.bfs met (by simpa using Bfs.done)) Mt.sub Mt.le
    · have hr0 := hr
      refine SeqAt.RcNeAt.lists_lengths (isList_keeps S.rng.isList kq) hel.isList (by cases ring with | nil => exact absurd rfl hr | cons a r => simp) (by show A.units + 3 < cLine; unfold cLine; omega) _ _ _ _ ?_
      refine wpAny_truthy_bool ?_
      rw [if_pos rfl]
      -- near = []
      refine wpAny_execs_cons ?_
      refine wpAny_Assign_Name ?_
      refine PyProof.Rows.List_ ?_
      refine args_nil ?_
      refine new_list (by simp) fun na h₆ hna _ k₆ hnal => ?_
      have hnan : hq.get? na = none := none_of_ge (Nat.le_of_eq hna.symm)
      have kx := Keep.trans kq k₆
      refine wpAny_storeName_cell (c := L + 1 + 1) rfl rfl rfl (S.c2.keeps kx) fun h₇ c2' hs₇ => ?_
      have Sx := S.keeps kx
      have S₇ : RingSt s l M ra L met ring (some (.ref na)) h₇ m :=
        { ns := Sx.ns.sameBut hs₇ (ne_ns_cell Sx.ns Sx.c2), mw := Sx.mw, mr := Sx.mr, c1 := Sx.c1.sameBut hs₇ (neN (by omega)), c2 := c2', met := Sx.met.extBut hs₇.extBut (ne_list_cell Sx.met.isList Sx.c2)
          rng := Sx.rng.extBut hs₇.extBut (ne_list_cell Sx.rng.isList Sx.c2), keep := keep_but Sx.keep hs₇.extBut hsL2, ne := Sx.ne, fresh := Sx.fresh }
      have hna₇ : h₇.PlainList na ([] : List Value).toArray := hnal.extBut hs₇.extBut (ne_list_cell hnal.isList Sx.c2)
      have hMna : M ≠ na := ne_list_none (plain_keeps S.met kq).isList hnan
      have hrna : ra ≠ na := ne_list_none (plain_keeps S.rng kq).isList hnan
      have hnas : s.heap.get? na = none := none_older (Keep.trans S.keep kq) hnan
      -- the for
      refine wpAny_execs_cons ?_
      refine wpAny_For ?_
      refine nm_local S₇.ns rfl rfl S₇.mr ?_
      refine wpAny_pyIter_list S₇.rng.isList ?_
      have kI : Keep h₇ (h₇.push { cls := .type "list_iterator", data := .fields #[.ref ra, .int 0 0] }) := fun b o e => Heap.get?_push_of_some _ e
      have hI₀ : (h₇.push { cls := .type "list_iterator", data := .fields #[.ref ra, .int 0 0] }).IsListIter h₇.objs.size ra 0 := ⟨_, Heap.get?_push_size _ rfl, rfl, rfl⟩
      have hIs : s.heap.get? h₇.objs.size = none := none_older S₇.keep (none_of_ge (Nat.le_refl _))
      generalize h₇.objs.size = I at *
      refine codeAny_forLoop (fun k s'' => ∃ h'' tk'' m'' i, s'' = { s with heap := h'', toks := tk'' } ∧ RingSt s l M ra L met ring (some (.ref na)) h'' m'' ∧ h''.IsListIter I ra i ∧
        h''.PlainList na ((ring.take i).flatMap (aft ws)).toArray ∧ i ≤ ring.length ∧ k = ring.length + 1 - i) ?_ _
        ⟨_, _, m, 0, rfl, S₇.keeps kI, hI₀, plain_keeps hna₇ kI, Nat.zero_le _, rfl⟩
      rintro k s'' ⟨h'', tk'', m'', i, rfl, S'', hit, hnl, hi, rfl⟩
      cases hv : ring[i]? with
      | some v =>
        have hlt : i < ring.length := (List.getElem?_eq_some_iff.mp hv).1
        have hvm : v ∈ ring := List.mem_of_getElem? hv
        have hvs : IsStop v := hw _ (Mt.sub _ (Mt.rsub _ hvm))
        refine wpAny_pyNext_list_item hit S''.rng.isList (x := v) (by simpa using hv) fun ha hit' hsI => ?_
        have Sa := S''.iter hsI.extBut hit hIs
        have hna' := hnl.extBut hsI.extBut (ne_list_iter hnl.isList hit)
        refine wpAny_assign_Name (st_local (L := L) Sa.ns rfl fun hb nsb hsb => ?_)
        have Sb := Sa.local hsb.extBut nsb (by rfl) (by rfl) hsL
        have hnb := hna'.extBut hsb.extBut (ne_list_ns hna'.isList Sa.ns)
        have hitb : hb.IsListIter I ra (i + 1) := hit'.extBut hsb.extBut (Ne.symm (ne_ns_iter Sa.ns hit'))
        refine wpAny_execs_cons ?_
        refine stmt_extend ?_
        refine nm_cell Sb.c2 rfl rfl rfl ?_
        refine ⟨na, _, rfl, hnb, ?_⟩
        have Gb := G.keeps Sb.keep
        refine eval_call nofun ?_
        refine nm_global (v := .ref 71) Gb rfl rfl rfl rfl ?_
        refine callWith_top rfl rfl ?_
        refine args_cons ?_
        refine nm_local Sb.ns rfl rfl Sb.mw ?_
        refine args_cons ?_
        refine nm_local Sb.ns rfl rfl rfl ?_
        refine args_nil ?_
        refine ⟨Gb, wpAny_call (after_spec Gb hh (by show A.depth + 1 < 900; omega) (isList_keeps hl Sb.keep) h1 h2 hw hvs fun hc tkc a kc han hal => ?_)⟩
        have Sc := Sb.keeps kc
        refine ⟨a, _, _, rfl, plain_keeps hnb kc, hal, ?_, ?_, fun hd hpd hsd => ?_⟩
        · have e1 := flatMap_len (ws := ws) (ring.take i)
          have e2 : (ring.take i).length ≤ 25 := Nat.le_trans (List.length_take_le' _ _) (Nat.le_trans Mt.rlen hsz)
          have e3 : (ring.take i).length * ws.length ≤ 25 * 25 := Nat.mul_le_mul e2 h2
          omega
        · have := aft_len ws v
          omega
        · refine wpAny_execs_nil ?_
          have hnbc := plain_keeps hnb kc
          have hitc := iter_keeps hitb kc
          have Sd := Sc.list hsd.extBut hnbc.isList hMna hrna hnas
          have hitd : hd.IsListIter I ra (i + 1) := hitc.extBut hsd.extBut (Ne.symm (ne_list_iter hnbc.isList hitc))
          refine ⟨ring.length + 1 - (i + 1), by omega, hd, _, _, i + 1, rfl, Sd, hitd, ?_, hlt, rfl⟩
          have e : ring.take (i + 1) = ring.take i ++ [v] := by rw [List.take_add_one, hv]; rfl
          rw [e, List.flatMap_append]
          simpa using hpd
      | none =>
        have hie : i = ring.length := by
          have := List.getElem?_eq_none_iff.mp hv
          omega
        subst hie
        rw [List.take_length] at hnl
        refine wpAny_pyNext_list_end hh hit S''.rng.isList (by simpa using hv) fun ha heI => ?_
        have Sa := S''.iter heI hit hIs
        have hna' := hnl.extBut heI (ne_list_iter hnl.isList hit)
        have hnlen : (ring.flatMap (aft ws)).length ≤ 625 := by
          have e1 := flatMap_len (ws := ws) ring
          have e3 : ring.length * ws.length ≤ 25 * 25 := Nat.mul_le_mul (Nat.le_trans Mt.rlen hsz) h2
          omega
        have hnst : ∀ v ∈ ring.flatMap (aft ws), IsStop v := fun v hv => by
          obtain ⟨u, _, hu⟩ := List.mem_flatMap.mp hv
          exact hw v (aft_sub hu)
        generalize hnear : ring.flatMap (aft ws) = near at *
        refine wpAny_execs_nil ?_
        -- ring = [..]
        refine wpAny_execs_cons ?_
        refine assign_comp_range (cl := [("near", L + 1 + 1), ("met", L + 1)]) (fun k => !(has (near.take k) (near.getD k .none)) && !(has met (near.getD k .none))) (fun k => near.getD k .none)
          rfl rfl (by decide) rfl (by decide) rfl rfl rfl hh ?_
        have Ga := G.keeps Sa.keep
        refine eval_call nofun ?_
        refine nm_builtin (v := .type "range") Ga rfl rfl rfl rfl rfl rfl ?_
        refine PyProof.Rows.callWith_type1 ?_
        refine args_cons ?_
        refine eval_call nofun ?_
        refine nm_builtin (v := .builtin "len") Ga rfl rfl rfl rfl rfl rfl ?_
        refine PyProof.Rows.callWith_builtin1 ?_
        refine args_cons ?_
        refine nm_cell Sa.c2 rfl rfl rfl ?_
        refine args_nil ?_
        refine call_len_list hna'.isList (by simp; omega) ?_
        refine args_nil ?_
        refine call_range (Int.le_trans (by decide) (Int.natCast_nonneg _)) (by simp; omega) fun r H tk' kH hr hR => ?_
        simp only [List.size_toArray, Int.toNat_natCast] at hR
        have Sh := Sa.keeps kH
        have hnH := plain_keeps hna' kH
        refine ⟨r, near.length, _, rfl, hR, by omega, Sh.ns, ?_, ?_, ?_⟩
        · intro C k t s₃ m₃ hC hk hns hm hkp
          have S3 := Sh.keeps hkp
          have hn3 := isList_keeps hnH.isList hkp
          have hkst : IsStop (near.getD k .none) := hnst _ (getD_mem hk)
          refine wpAny_tests_one ?_
          refine wpAny_isTrue_BoolOp ?_
          refine wpAny_allTrue_And_cons ?_
          refine wpAny_isTrue_Compare1 ?_
          refine Subscript_ ?_
          refine nm_cell S3.c2 rfl rfl rfl ?_
          refine nm_local hns rfl rfl hm ?_
          refine item_list hn3 hk rfl (by omega) ?_
          refine slice_list ?_
          refine nm_cell S3.c2 rfl rfl rfl ?_
          rw [evalPart_none]
          refine wpAny_pure ?_
          rw [evalPart_some]
          refine nm_local hns rfl rfl hm ?_
          refine ⟨na, near, near.take k, none, some (k : Int), rfl, hn3, by omega, .none, .int _ _, slicePick_upto' _ _, fun D h4 k4 hD hDl => ?_⟩
          refine notIn_stops (fun y hy => hnst y (List.mem_of_mem_take hy)) hkst hDl.isList ?_
          refine wpAny_truthy_bool ?_
          by_cases c1 : (!(has (near.take k) (near.getD k .none))) = true
          · rw [if_pos c1]
            refine wpAny_allTrue_And_cons ?_
            refine wpAny_isTrue_Compare1 ?_
            have S4 := S3.keeps k4
            refine Subscript_ ?_
            refine nm_cell S4.c2 rfl rfl rfl ?_
            refine nm_local (hns.keeps k4) rfl rfl hm ?_
            refine item_list (isList_keeps hn3 k4) hk rfl (by omega) ?_
            refine nm_cell S4.c1 rfl rfl rfl ?_
            refine notIn_stops (fun y hy => hw y (Mt.sub y hy)) hkst S4.met.isList ?_
            refine wpAny_truthy_bool ?_
            by_cases c2 : (!(has met (near.getD k .none))) = true
            · rw [if_pos c2]
              refine wpAny_allTrue_And_nil ?_
              exact ⟨by rw [c1, c2]; rfl, h4, _, rfl, k4⟩
            · rw [if_neg c2]
              exact ⟨by rw [c1, Bool.not_eq_true _ |>.mp c2]; rfl, h4, _, rfl, k4⟩
          · rw [if_neg c1]
            exact ⟨by rw [Bool.not_eq_true _ |>.mp c1]; rfl, h4, _, rfl, k4⟩
        · intro C k t s₃ m₃ hC hk hp hns hm hkp
          have S3 := Sh.keeps hkp
          have hn3 := isList_keeps hnH.isList hkp
          refine Subscript_ ?_
          refine nm_cell S3.c2 rfl rfl rfl ?_
          refine nm_local hns rfl rfl hm ?_
          refine item_list hn3 hk rfl (by omega) ?_
          exact ⟨rfl, s₃.heap, _, rfl, fun _ _ e => e⟩
        · intro D h4 tk4 hD hDl hns4 he4
          have hoff : (((List.range near.length).filter (fun k => !(has (near.take k) (near.getD k .none)) && !(has met (near.getD k .none)))).map fun k => near.getD k .none) = off skey met near := offI_eq met near
          rw [hoff] at hDl
          have hDM : M ≠ D := ne_list_none Sh.met.isList hD
          have hDs : s.heap.get? D = none := none_older Sh.keep hD
          have Mt' := Mt.next
          rw [hnear] at Mt'
          have S4 : RingSt s l M D L met (off skey met near) (some (.ref na)) h4 _ :=
            { ns := hns4, mw := Sh.mw, mr := rfl, c1 := cell_extBut Sh.c1 he4 (Ne.symm (ne_ns_cell Sh.ns Sh.c1)), c2 := cell_extBut Sh.c2 he4 (Ne.symm (ne_ns_cell Sh.ns Sh.c2)), met := Sh.met.extBut he4 (ne_list_ns Sh.met.isList Sh.ns)
              rng := hDl, keep := keep_but Sh.keep he4 hsL, ne := hDM, fresh := Sh.fresh }
          refine wpAny_execs_cons ?_
          refine stmt_extend ?_
          refine nm_cell S4.c1 rfl rfl rfl ?_
          refine ⟨M, _, rfl, S4.met, ?_⟩
          refine nm_local S4.ns rfl rfl S4.mr ?_
          refine ⟨D, met, off skey met near, rfl, S4.met, S4.rng, by omega, ?_, fun h6 hp6 hs6 => ?_⟩
          · have := Mt'.rlen; have := Mt'.le; omega
          · refine wpAny_execs_nil ?_
            have S6 : RingSt s l M D L (met ++ off skey met near) (off skey met near) (some (.ref na)) h6 _ :=
              { ns := S4.ns.sameBut hs6 (Ne.symm (ne_list_ns S4.met.isList S4.ns)), mw := S4.mw, mr := S4.mr, c1 := S4.c1.sameBut hs6 (Ne.symm (ne_list_cell S4.met.isList S4.c1)), c2 := S4.c2.sameBut hs6 (Ne.symm (ne_list_cell S4.met.isList S4.c2))
                met := hp6, rng := S4.rng.extBut hs6.extBut (Ne.symm hDM), keep := keep_but S4.keep hs6.extBut S4.fresh, ne := hDM, fresh := S4.fresh }
            refine ⟨_, ?_, h6, _, _, _, _, D, _, rfl, S6, Mt', rfl⟩
            have l1 := Mt'.le
            rw [List.length_append] at l1 ⊢
            rw [if_neg hr0]
            split
            · omega
            · rename_i hne
              have : 0 < (off skey met near).length := List.length_pos_iff.mpr hne
              omega
end
end Mine
end

noncomputable section
open PySem PySem.W PySem.Calls PyProof.Rows
set_option maxRecDepth 100000
namespace Mine

theorem slot_md_get : Slot "method_descriptor" "__get__" "method_descriptor.__get__" :=
  .of (owner := "method_descriptor") (n := "__get__") (by rw [typeLookup_type, builtinLookup_eq_fast]; kernel_rfl) (by decide +kernel) (by decide +kernel) (by decide +kernel)
    (by first | exact .inl (by decide +kernel) | exact .inr (by decide +kernel)) (by rw [isSubtype_type]; kernel_rfl)
theorem entry_md_get : entryFor table "method_descriptor.__get__" = some Builtin.«method_descriptor.__get__» := entryFor_of_tree (by kernel_rfl)
theorem args_md_get (a b c : Value) : argsOk "method_descriptor.__get__" ⟨[a, b, c], []⟩ := by unfold argsOk; kernel_rfl
theorem md_set : typeLookup (.type "method_descriptor") "__set__" = pure none := by rw [typeLookup_type, builtinLookup_eq_fast]; kernel_rfl
theorem md_delete : typeLookup (.type "method_descriptor") "__delete__" = pure none := by rw [typeLookup_type, builtinLookup_eq_fast]; kernel_rfl
theorem ty_add : typeOf (.builtin "set.add") = pure (.type "method_descriptor") := by show builtinType _ = _; rw [builtinType_eq_fast]; kernel_rfl
theorem ty_contains : typeOf (.builtin "set.__contains__") = pure (.type "method_descriptor") := by show builtinType _ = _; rw [builtinType_eq_fast]; kernel_rfl
theorem own_add : (kfb_private% "nameAndClass") (.builtin "set.add") = pure (Str.ofString "add", .type "set") := by first | rfl | kernel_rfl
theorem own_contains : (kfb_private% "nameAndClass") (.builtin "set.__contains__") = pure (Str.ofString "__contains__", .type "set") := by first | rfl | kernel_rfl
theorem told_add : Manifest.toldItsClass.contains "set.add" = false := by decide +kernel
theorem told_contains : Manifest.toldItsClass.contains "set.__contains__" = false := by decide +kernel
theorem set_no_getattr : typeLookup (.type "set") "__getattr__" = pure none := by rw [typeLookup_type, builtinLookup_eq_fast]; kernel_rfl
def boundOf (i : String) (a : Addr) : Obj := { cls := .type "builtin_function_or_method", data := .fields #[.builtin i, .ref a] }
theorem sub_set : isSubtype (.type "set") (.type "set") = pure true := sub_set_self

section
variable {prog : Program} {w : World} {A : Around} {E : Value → Shared → Prop} {h : Heap} {g : Array GenState} {d : Drawn} {t : Nat} {os : OsState} {a : Addr} {o : Obj}

theorem md_get {R : Result → Shared → Prop} {i : String} {nn : Str} (hty : typeOf (.builtin i) = pure (.type "method_descriptor")) (hown : (kfb_private% "nameAndClass") (.builtin i) = pure (nn, .type "set")) (htold : Manifest.toldItsClass.contains i = false)
    (hx : h.get? a = some o) (hc : o.cls = .type "set") (hq : R (.ok (.ret (.ref h.objs.size))) ⟨h.push (boundOf i a), g, d, t, os⟩) :
    codeAny (model prog w) A (.call (.builtin "method_descriptor.__get__") ⟨[.builtin i, .ref a, .type "set"], []⟩) R ⟨h, g, d, t, os⟩ := by
  have hT : (⟨h, g, d, t, os⟩ : Shared).TypeIs (.ref a) "set" := ⟨_, hx, hc⟩
  refine codeAny_call_builtin slot_md_get.plain entry_md_get (slot_md_get.check _ _ _ _ _ _ _ _ (show (⟨h, g, d, t, os⟩ : Shared).TypeIs (.builtin i) "method_descriptor" from hty) (args_md_get _ _ _) ?_)
  unfold Builtin.«method_descriptor.__get__»
  refine wpAny_bind (wpAny_of_eq (a := (.builtin i, some (.ref a), some (.type "set"))) (by first | rfl | kernel_rfl) ?_)
  dsimp only
  rw [htold]
  have hsub := sub_set_self
  refine wpAny_bind (wpAny_bind (wpAny_of_eq hown ?_))
  refine wpAny_bind (wpAny_isInstance (b := true) hT hsub ?_)
  refine wpAny_pure ?_
  exact wpAny_bind (wpAny_newObj_type (wpAny_pure hq))

theorem set_ga_run {i : String} {nn : Str} {name : Str} {tk : Tok} {Q : Fin → Shared → Prop} (hty : typeOf (.builtin i) = pure (.type "method_descriptor")) (hown : (kfb_private% "nameAndClass") (.builtin i) = pure (nn, .type "set")) (htold : Manifest.toldItsClass.contains i = false)
    (hlk : typeLookup (.type "set") name = pure (some (.builtin i))) (hcop : (["__module__", "__name__", "__qualname__", "__doc__", "__annotations__"] : List Str).contains name = false)
    (hx : h.get? a = some o) (hc : o.cls = .type "set") {es : Array (Int × Value)} {ep : Nat} {st : SetTable} (hdat : o.data = .set es ep st) (hd : o.dict = none) (hq : Q (.done (.ret (.ref h.objs.size))) ⟨h.push (boundOf i a), g, d, t, os⟩) :
    wpAny (model prog w) A (Builtin.«object.__getattribute__» ⟨[.ref a, .str name tk], []⟩) Q E ⟨h, g, d, t, os⟩ := by
  have hT : (⟨h, g, d, t, os⟩ : Shared).TypeIs (.ref a) "set" := ⟨_, hx, hc⟩
  have f6 := slot_md_get.lookup
  have f7 := md_set
  have f8 := md_delete
  obtain ⟨oc, od, oda, osl⟩ := o
  dsimp only at hc hd hdat
  subst hc hd hdat
  unfold Builtin.«object.__getattribute__»
  repeat (any_goals (first | assumption | wp_step))
  simp only [hcop, Bool.false_eq_true, if_false]
  repeat (any_goals (first | assumption | wp_step))
  refine md_get hty hown htold hx rfl ?_
  repeat (any_goals (first | assumption | wp_step))

theorem getAttr_set {i : String} {nn : Str} {name : Str} {ex : Bool} {Q : Value → Shared → Prop} (hty : typeOf (.builtin i) = pure (.type "method_descriptor")) (hown : (kfb_private% "nameAndClass") (.builtin i) = pure (nn, .type "set")) (htold : Manifest.toldItsClass.contains i = false)
    (hlk : typeLookup (.type "set") name = pure (some (.builtin i))) (hcop : (["__module__", "__name__", "__qualname__", "__doc__", "__annotations__"] : List Str).contains name = false)
    (hx : h.get? a = some o) (hc : o.cls = .type "set") {es : Array (Int × Value)} {ep : Nat} {st : SetTable} (hdat : o.data = .set es ep st) (hd : o.dict = none)
    (hq : Q (.ref h.objs.size) ⟨h.push (boundOf i a), g, d, t + 1, os⟩) :
    wpAny (model prog w) A (getAttr (.ref a) name ex) Q E ⟨h, g, d, t, os⟩ := by
  obtain ⟨oc, od, oda, osl⟩ := o
  dsimp only at hc hd hdat
  subst hc hd hdat
  have hT : ∀ tk', (⟨h, g, d, tk', os⟩ : Shared).TypeIs (.ref a) "set" := fun _ => ⟨_, hx, rfl⟩
  have f3 := F.slot_set_getattribute.lookup
  have f4 := F.slot_set_getattribute.bind (.ref a)
  have f5 := set_no_getattr
  unfold getAttr getAttrBy
  repeat (any_goals (first | assumption | exact hT _ | wp_step))
  rw [show (ex && onTheHeap (Value.builtin "set.__getattribute__")) = false from Bool.and_false _, if_neg (by decide)]
  unfold boundAndCalled
  repeat (any_goals (first | assumption | exact hT _ | wp_step))
  refine codeAny_call_builtin F.slot_set_getattribute.plain F.entry_set_ga (F.slot_set_getattribute.check _ _ _ _ _ _ _ _ (hT _) (F.args_set_getattribute_2 _ _) (set_ga_run hty hown htold hlk hcop hx rfl rfl rfl ?_))
  exact wpAny_pure hq

theorem getAttr_add {ex : Bool} {Q : Value → Shared → Prop} (hx : h.get? a = some o) (hc : o.cls = .type "set") {es : Array (Int × Value)} {ep : Nat} {st : SetTable} (hdat : o.data = .set es ep st) (hd : o.dict = none)
    (hq : Q (.ref h.objs.size) ⟨h.push (boundOf "set.add" a), g, d, t + 1, os⟩) : wpAny (model prog w) A (getAttr (.ref a) "add" ex) Q E ⟨h, g, d, t, os⟩ :=
  getAttr_set ty_add own_add told_add F.slot_set_add.lookup (by decide +kernel) hx hc hdat hd hq
theorem getAttr_contains {ex : Bool} {Q : Value → Shared → Prop} (hx : h.get? a = some o) (hc : o.cls = .type "set") {es : Array (Int × Value)} {ep : Nat} {st : SetTable} (hdat : o.data = .set es ep st) (hd : o.dict = none)
    (hq : Q (.ref h.objs.size) ⟨h.push (boundOf "set.__contains__" a), g, d, t + 1, os⟩) : wpAny (model prog w) A (getAttr (.ref a) "__contains__" ex) Q E ⟨h, g, d, t, os⟩ :=
  getAttr_set ty_contains own_contains told_contains F.slot_set_contains.lookup (by decide +kernel) hx hc hdat hd hq
end

section
variable {prog : Program} {w : World} {A : Around} {E : Value → Shared → Prop} {s : Shared} {a x : Addr} {S : Int → Bool} {n : Nat} {v : Value}

theorem scan_stop {v : Value} (h : IsStop v) : v.scannable = true := by
  rcases h with ⟨n, t, rfl, _⟩ | ⟨b, rfl⟩ <;> rfl

abbrev sigOne (i n : String) : Manifest.Signature := ⟨.oneArg, i, n, .self, [⟨"object", .posOnly, true⟩]⟩
theorem sig_add : Manifest.signature? "set.add" = some (sigOne "set.add" "add") := by
  rw [signature?_of (id := "set.add") (n := ['d', 'd', 'a']) (o := ['t', 'e', 's']) (by kernel_rfl) F.owner_set]; kernel_rfl
theorem sig_contains : Manifest.signature? "set.__contains__" = some (sigOne "set.__contains__" "__contains__") := by
  rw [signature?_of (id := "set.__contains__") (n := ['_', '_', 's', 'n', 'i', 'a', 't', 'n', 'o', 'c', '_', '_']) (o := ['t', 'e', 's']) (by kernel_rfl) F.owner_set]; kernel_rfl
theorem kind_add : builtinKind "set.add" = some .method := by kernel_rfl
theorem kind_contains : builtinKind "set.__contains__" = some .method := by kernel_rfl
theorem sub_set_module : isSubtype (.type "set") (.type "module") = pure false := by rw [isSubtype_type]; kernel_rfl
theorem sub_set_type : isSubtype (.type "set") (.type "type") = pure false := by rw [isSubtype_type]; kernel_rfl
theorem va_add : Manifest.varargsMethods.contains "set.add" = false := by decide +kernel
theorem va_contains : Manifest.varargsMethods.contains "set.__contains__" = false := by decide +kernel
theorem ca_add (v self : Value) : Bind.checkArgs "set.add" { sigOne "set.add" "add" with full := s!"{Bind.lastOf "set"}.{Bind.lastOf "set.add"}" } ⟨[self, v], []⟩ = pure () := by kernel_rfl
theorem ca_contains (v self : Value) : Bind.checkArgs "set.__contains__" { sigOne "set.__contains__" "__contains__" with full := s!"{Bind.lastOf "set"}.{Bind.lastOf "set.__contains__"}" } ⟨[self, v], []⟩ = pure () := by kernel_rfl

theorem chk_of {M : Model} {A : Around} {E : Value → Shared → Prop} {s : Shared} {i : String} {sig : Manifest.Signature} {Q : Unit → Shared → Prop} {a : Addr} {v : Value} (h1 : Manifest.signature? i = some sig) (h2 : builtinKind i = some .method) (h3 : Manifest.varargsMethods.contains i = false)
    (h4 : Bind.checkArgs i { sig with full := s!"{Bind.lastOf "set"}.{Bind.lastOf i}" } ⟨[.ref a, v], []⟩ = pure ()) {o : Obj} (ho : s.heap.get? a = some o) (hc : o.cls = .type "set") {es : Array (Int × Value)} {ep : Nat} {st : SetTable} (hdat : o.data = .set es ep st) (h : Q () s) :
    wpAny M A (checkBoundCall i ⟨[.ref a, v], []⟩) Q E s := by
  unfold checkBoundCall
  rw [h1, h2]
  dsimp only
  rw [if_neg (by decide)]
  refine wpAny_bind (wpAny_isInstance (b := false) (show s.TypeIs (.ref a) "set" from ⟨o, ho, hc⟩) sub_set_module ?_)
  rw [h3, if_neg (by decide)]
  refine wpAny_bind (wpAny_bind (m := isType (.ref a)) ?_)
  unfold isType
  refine wpAny_bind (m := loadHead a) (wpAny_loadPart ho ?_)
  rw [hdat]
  refine wpAny_pure (wpAny_pure ?_)
  refine KFB.if_not rfl ?_
  refine wpAny_bind (wpAny_bind (m := loadHead a) (wpAny_loadPart ho (wpAny_pure ?_)))
  rw [hc]
  dsimp only
  rw [h4]
  exact wpAny_pure h
theorem quiet_add {as : Args} : (Code.builtin "set.add" as).quiet = true := Code.quiet_builtin _ (by decide +kernel)
theorem quiet_contains {as : Args} : (Code.builtin "set.__contains__" as).quiet = true := Code.quiet_builtin _ (by decide +kernel)

theorem run_add {Q : Value → Shared → Prop} (hv : IsStop v) (hS : s.heap.SetOf (stopKind prog w) a S n) (hroom : n + 1 < 4096)
    (h : ∀ h', Heap.SameBut a s.heap h' → h'.SetOf (stopKind prog w) a (fun k' => S k' || decide (k' = skey v)) (if S (skey v) then n else n + 1) → Q .none { s with heap := h', toks := s.toks + 1 }) :
    wpAny (model prog w) A (Builtin.«set.add» ⟨[.ref a, v], []⟩) (fun fin s' => ∃ r, fin = .done (.ret r) ∧ Q r s') E s := by
  unfold Builtin.«set.add» Builtin.Frozenset.oneOther
  simp only [List.isEmpty_nil, bind_assoc]
  unfold Builtin.Frozenset.addrOf setAdd
  refine wpAny_bind (wpAny_pure ?_)
  try dsimp only
  refine wpAny_bind (wpAny_pure ?_)
  try dsimp only
  refine wpAny_bind ?_
  refine wpAny_holding ?_
  refine wpAny_bind ((stopKind prog w).pyHash (k := skey v) (stopIs_of hv) ?_)
  refine wpAny_setAddHashed_of (s := { s with toks := s.toks + 1 }) (k := skey v) (stopIs_of hv) (scan_stop hv) hS hroom fun h' hsb hS' => ?_
  show wpAny _ _ (ret Value.none) _ _ _
  exact wpAny_pure ⟨_, rfl, h h' hsb hS'⟩

theorem run_contains {Q : Value → Shared → Prop} (hv : IsStop v) (hS : s.heap.SetOf (stopKind prog w) a S n)
    (h : Q (.bool (S (skey v))) { s with toks := s.toks + 1 }) :
    wpAny (model prog w) A (Builtin.«frozenset.__contains__» ⟨[.ref a, v], []⟩) (fun fin s' => ∃ r, fin = .done (.ret r) ∧ Q r s') E s := by
  unfold Builtin.«frozenset.__contains__» Builtin.Frozenset.oneOther
  simp only [List.isEmpty_nil, bind_assoc]
  unfold Builtin.Frozenset.addrOf Builtin.Frozenset.withSetAsKey setContains
  refine wpAny_bind (wpAny_pure ?_)
  try dsimp only
  refine wpAny_bind (wpAny_pure ?_)
  try dsimp only
  refine wpAny_bind (wpAny_tryCatch ?_)
  refine wpAny_holding ?_
  refine wpAny_bind ((stopKind prog w).pyHash (k := skey v) (stopIs_of hv) ?_)
  refine wpAny_bind (wpAny_setFind_of (s := { s with toks := s.toks + 1 }) (k := skey v) (stopIs_of hv) (scan_stop hv) hS fun r hr => ?_)
  refine wpAny_pure ?_
  show wpAny _ _ (ret (Value.bool r.isSome)) _ _ _
  rw [hr]
  exact wpAny_pure ⟨_, rfl, h⟩

theorem call_bound {i : String} {b : Builtin} {Q : Value → Shared → Prop} (hx : s.heap.get? x = some (boundOf i a)) (hq : ∀ as, (Code.builtin i as).quiet = true) (he : entryFor table i = some b)
    (hchk : ∀ (A' : Around) (E' : Value → Shared → Prop) (Q' : Unit → Shared → Prop), Q' () s → wpAny (model prog w) A' (checkBoundCall i ⟨[.ref a, v], []⟩) Q' E' s)
    (h : ∀ A', wpAny (model prog w) A' (b ⟨[.ref a, v], []⟩) (fun fin s' => ∃ r, fin = .done (.ret r) ∧ Q r s') (fun _ _ => False) s) : wpAny (model prog w) A (call (.ref x) [v]) Q E s := by
  refine wpAny_call (codeAny_of_tree ?_)
  show wpAny _ A.in1 (callAny (.ref x) ⟨[v], []⟩) _ _ s
  simp only [callAny]
  refine wpAny_bind (wpAny_load hx ?_)
  simp only [boundOf, show (Value.type "builtin_function_or_method" == Value.type "method" || Value.type "builtin_function_or_method" == Value.type "builtin_function_or_method" || Value.type "builtin_function_or_method" == Value.type "method-wrapper") = true by decide, if_true]
  refine KFB.if_so (by decide) ?_
  refine wpAny_bind (hchk _ _ _ ?_)
  refine wpAny_bind (wpAny_pure (wpAny_pure ?_))
  refine ⟨hq _, codeAny_builtin he (wpAny_mono (h _) (fun fin s' hf => ?_) fun _ _ z => z.elim)⟩
  obtain ⟨r, rfl, hr⟩ := hf
  exact hr

theorem chk_set {i : String} {sig : Manifest.Signature} (h1 : Manifest.signature? i = some sig) (h2 : builtinKind i = some .method) (h3 : Manifest.varargsMethods.contains i = false)
    (h4 : Bind.checkArgs i { sig with full := s!"{Bind.lastOf "set"}.{Bind.lastOf i}" } ⟨[.ref a, v], []⟩ = pure ()) (hS : s.heap.SetOf (stopKind prog w) a S n) :
    ∀ (A' : Around) (E' : Value → Shared → Prop) (Q' : Unit → Shared → Prop), Q' () s → wpAny (model prog w) A' (checkBoundCall i ⟨[.ref a, v], []⟩) Q' E' s := by
  obtain ⟨o, es, ep, t, ho, hc, hd, _⟩ := hS
  exact fun _ _ _ z => chk_of h1 h2 h3 h4 ho hc.1 hd z
theorem call_boundAdd {Q : Value → Shared → Prop} (hx : s.heap.get? x = some (boundOf "set.add" a)) (hv : IsStop v) (hS : s.heap.SetOf (stopKind prog w) a S n) (hroom : n + 1 < 4096)
    (h : ∀ h', Heap.SameBut a s.heap h' → h'.SetOf (stopKind prog w) a (fun k' => S k' || decide (k' = skey v)) (if S (skey v) then n else n + 1) → Q .none { s with heap := h', toks := s.toks + 1 }) :
    wpAny (model prog w) A (call (.ref x) [v]) Q E s :=
  call_bound hx (fun _ => quiet_add) F.entry_set_add (chk_set sig_add kind_add va_add (ca_add _ _) hS) fun _ => run_add hv hS hroom h
theorem call_boundContains {Q : Value → Shared → Prop} (hx : s.heap.get? x = some (boundOf "set.__contains__" a)) (hv : IsStop v) (hS : s.heap.SetOf (stopKind prog w) a S n)
    (h : Q (.bool (S (skey v))) { s with toks := s.toks + 1 }) :
    wpAny (model prog w) A (call (.ref x) [v]) Q E s :=
  call_bound (i := "set.__contains__") (b := Builtin.«frozenset.__contains__») hx (fun _ => quiet_contains) entry_set_contains (chk_set (i := "set.__contains__") (sig := sigOne "set.__contains__" "__contains__") sig_contains kind_contains va_contains (ca_contains v (.ref a)) hS) fun _ => run_contains hv hS h

/-- f(e) where f is a bound method of a builtin -/
theorem callWith_bnd {pos : Pos} {i : String} {env : Env} {e : Expr} {Q : Value → Shared → Prop}
    (h : wpAny (model prog w) A (eval e env) (fun v s₁ => s₁.heap.get? x = some (boundOf i a) ∧ wpAny (model prog w) A (call (.ref x) [v]) Q E s₁) E s)
    (he : starEach [e] env = (false, eval e env) :: starEach [] env := by rfl) :
    wpAny (model prog w) A (callWith pos (.ref x) [] (backTo pos (starEach [e] env)) []) Q E s := by
  unfold callWith
  have hplain : (backTo pos (starEach [e] env)).any (·.1) = false := by rw [he]; rfl
  refine wpAny_bind (wpAny_holding ?_)
  rw [he]
  refine evalArgs_plain ?_
  show wpAny _ _ (spliced ((false, eval e env) :: backTo pos (starEach [] env))) _ _ _
  refine spliced_cons (wpAny_mono h (fun v s₁ h₁ => args_nil ?_) fun _ _ z => z)
  obtain ⟨ho, hcall⟩ := h₁
  refine wpAny_bind (wpAny_standAt ?_)
  rw [he] at hplain
  simp only [hplain, List.any_nil, Bool.or_false]
  refine wpAny_bind (m := keeperOf (.ref x)) ?_
  unfold keeperOf
  refine wpAny_bind (wpAny_load ho ?_)
  simp only [boundOf, show (Value.type "builtin_function_or_method" != Value.type "method") = true by decide, show (Value.type "builtin_function_or_method" == Value.type "builtin_function_or_method" || Value.type "builtin_function_or_method" == Value.type "method-wrapper") = true by decide, if_true]
  refine wpAny_pure ?_
  exact wpAny_bind (wpAny_mono hcall (fun r s₂ hr => wpAny_bind (wpAny_holding (wpAny_point (wpAny_pure hr)))) fun _ _ x => x)
end
end Mine
end

noncomputable section
open PySem PySem.W PySem.Calls PyProof.Rows
set_option maxRecDepth 100000
namespace Mine

def without (h : Heap) : List Addr → Heap
  | [] => h
  | L :: r => (without h r).update L fun _ => { cls := .none, data := .freed }

theorem without_in (h : Heap) : ∀ {Ls : List Addr} {b : Addr}, b ∈ Ls → (without h Ls).get? b = none
  | L :: r, b, hb => by
    unfold without
    by_cases e : b = L
    · subst e
      generalize without h r = k
      cases k; simp only [Heap.update, Heap.get?, Array.getElem?_modify, if_true]
      split
      · rfl
      · rename_i q
        cases hx : (‹Array Obj›)[b]? with
        | none => rfl
        | some o => rw [hx] at q; exact absurd rfl (q _ _ _)
    · rw [Heap.get?_update_other _ _ (Ne.symm e)]
      exact without_in h (by rcases List.mem_cons.mp hb with q | q; exact absurd q e; exact q)
theorem without_out (h : Heap) : ∀ {Ls : List Addr} {b : Addr}, b ∉ Ls → (without h Ls).get? b = h.get? b
  | [], _, _ => rfl
  | L :: r, b, hb => by
    unfold without
    rw [Heap.get?_update_other _ _ (fun (q : L = b) => hb (by rw [q]; exact List.mem_cons_self ..))]
    exact without_out h fun q => hb (List.mem_cons_of_mem _ q)

/-- all is kept but the slots of the frames in Ls -/
def KeepF (Ls : List Addr) (h h' : Heap) : Prop :=
  (∀ b o, b ∉ Ls → h.get? b = some o → h'.get? b = some o) ∧ ∀ b o, h.get? b = some o → ∃ sl, h'.get? b = some { o with slots := sl }
theorem Keep.keepF {h h' : Heap} (k : Keep h h') (Ls : List Addr) : KeepF Ls h h' := ⟨fun b o _ e => k b o e, fun b o e => ⟨o.slots, k b o e⟩⟩
theorem KeepF.trans {Ls : List Addr} {a b c : Heap} (x : KeepF Ls a b) (y : KeepF Ls b c) : KeepF Ls a c :=
  ⟨fun d o n e => y.1 _ _ n (x.1 _ _ n e), fun d o e => let ⟨_, e1⟩ := x.2 d o e; let ⟨sl, e2⟩ := y.2 d _ e1; ⟨sl, e2⟩⟩
theorem KeepF.ns {Ls : List Addr} {h h' : Heap} {L : Addr} {m : Str → Option Value} (k : KeepF Ls h h') (n : h.Ns L m) : h'.Ns L m := by
  obtain ⟨o, es, p, ho, hd, r⟩ := n
  obtain ⟨sl, e⟩ := k.2 _ _ ho
  exact ⟨_, es, p, e, hd, r⟩

def FrAll (h : Heap) (l : List Env) : Prop := ∀ env ∈ l, env.scope.kind ≠ .module ∧ ∃ L o, env.frame = some L ∧ h.get? L = some o ∧ ∀ vs, o.data ≠ .fields vs
abbrev locs (l : List Env) : List Addr := l.filterMap (·.frame)
theorem FrAll.keepF {Ls : List Addr} {h h' : Heap} {l : List Env} (x : FrAll h l) (k : KeepF Ls h h') : FrAll h' l := fun env he => by
  obtain ⟨a, L, o, hf, ho, hd⟩ := x env he
  obtain ⟨sl, e⟩ := k.2 _ _ ho
  exact ⟨a, L, _, hf, e, hd⟩
theorem FrAll.keeps {h h' : Heap} {l : List Env} (x : FrAll h l) (k : Keep h h') : FrAll h' l := x.keepF (k.keepF [])
theorem FrAll.cons {h : Heap} {l : List Env} {env : Env} {L : Addr} {m : Str → Option Value} (x : FrAll h l) (hk : env.scope.kind ≠ .module) (hf : env.frame = some L) (n : h.Ns L m) : FrAll h (env :: l) := fun e he => by
  rcases List.mem_cons.mp he with q | q
  · subst q
    obtain ⟨o, es, p, ho, hd, _⟩ := n
    exact ⟨hk, L, o, hf, ho, fun vs q => by rw [hd] at q; cases q⟩
  · exact x e q
theorem FrAll.fun {h : Heap} : ∀ {l : List Env} (Ls : List Addr), (∀ b ∈ locs l, b ∈ Ls) → FrAll h l → h.FunFrames (without h Ls) l
  | [], _, _, _ => trivial
  | env :: r, Ls, hs, x => by
    obtain ⟨a, L, o, hf, ho, hd⟩ := x env (List.mem_cons_self ..)
    have hin : L ∈ locs (env :: r) := by unfold locs; rw [List.filterMap_cons, hf]; exact List.mem_cons_self ..
    refine ⟨a, ⟨L, o, hf, without_in h (hs _ hin), ho, hd⟩, FrAll.fun Ls (fun b hb => hs b ?_) fun e he => x e (List.mem_cons_of_mem _ he)⟩
    unfold locs; rw [List.filterMap_cons, hf]; exact List.mem_cons_of_mem _ hb

theorem leave_exc {M : Model} {A : Around} {E : Value → Shared → Prop} {s : Shared} {h : Heap} {env : Env} {outer : List Env} {L e : Addr} {cls : String} {Q : Unit → Shared → Prop}
    (hfr : A.frames = some (env :: outer)) (hf : env.frame = some L) (hl : FrAll h (env :: outer)) (hx : Heap.NewExc h s.heap e cls)
    (hQ : ∀ h', KeepF (locs (env :: outer)) h h' → (∃ o, h'.get? e = some o ∧ o.cls = .type cls) → Q () { s with heap := h' }) : wpAny M A (leaving env (.ref e)) Q E s := by
  obtain ⟨ob, tp, he, hcls, hd⟩ := hx.there
  have hst : (without h (locs (env :: outer))).StaysIn h := fun b o hb => by
    by_cases q : b ∈ locs (env :: outer)
    · rw [without_in h q] at hb; cases hb
    · rwa [without_out h q] at hb
  have hen : (without h (locs (env :: outer))).get? e = none := by
    cases hq : (without h (locs (env :: outer))).get? e with
    | none => rfl
    | some o' => have := hst e o' hq; rw [hx.new] at this; cases this
  have hfun := FrAll.fun (locs (env :: outer)) (fun _ z => z) hl
  refine wpAny_leaving_first hfr (hfun.of_keeps fun b o hb _ => ⟨o, hx.keeps b o hb, rfl⟩) hf he (fun b o hb => hx.keeps b o (hst b o hb)) hen hd rfl fun h' hL => ?_
  obtain ⟨k1, _, ⟨oe, vs, T, oT, ts, e1, e2, _⟩, k4⟩ := hL
  refine hQ h' ⟨fun b o hb ho => k1 b o ((without_out h hb).trans ho), fun b o ho => ?_⟩ ⟨oe, e1, e2.trans hcls⟩
  by_cases q : b ∈ locs (env :: outer)
  · obtain ⟨env', he', hfe⟩ := List.mem_filterMap.mp q
    obtain ⟨_, L', o', hf', ho', hd'⟩ := hl env' he'
    rw [hfe] at hf'; cases hf'
    rw [ho] at ho'; cases ho'
    exact k4 b o (hx.keeps _ _ ho) hd'
  · exact ⟨o.slots, k1 b o ((without_out h q).trans ho)⟩
end Mine
end

noncomputable section
open PySem PySem.W PySem.Calls PyProof.Rows
set_option maxRecDepth 100000
namespace Mine

section
variable {prog : Program} {w : World} {A : Around} {E : Value → Shared → Prop} {s : Shared}

/-- the call of a def of the top that may raise -/
theorem call_fnE {R : Result → Shared → Prop} {f : Addr} {vals : List Value} {binds : List (Str × Value)} (G : Gd w s.heap) (hroom : A.depth < recursionLimit)
    (ho : (Kf w).lookup f = some (objAt w f)) (hd : (objAt w f).data = .func (fnAt w f)) (hc : codeIn (Kf w) (fnAt w f).code (fnAt w f).qualname = true)
    (hb : (fnAt w f).body = .stmts (fnBody w f)) (hclo : (fnAt w f).closure = []) (hbind : bindArgs (fnAt w f) ⟨vals, []⟩ = pure binds)
    (hkind : (binds.all fun y => (fnAt w f).scope.names.lookup y.1 == some .local || (fnAt w f).scope.names.lookup y.1 == some .cell) = true)
    (h : ∀ h₁ tk, Fr s.heap s.heap.objs.size h₁ (bindL (callEnvC (fnAt w f) s.heap.objs.size f).kindOf binds fun _ => none) → Gd w h₁ →
      wpAny (model prog w) (A.deeper (callEnvC (fnAt w f) s.heap.objs.size f)) (execs (fnBody w f) (callEnvC (fnAt w f) s.heap.objs.size f))
        (fun fl s' => R (.ok (.ret (match fl with | .ret v => v | _ => .none))) s')
        (fun e s' => wpAny (model prog w) (A.deeper (callEnvC (fnAt w f) s.heap.objs.size f)) (leaving (callEnvC (fnAt w f) s.heap.objs.size f) e) (fun _ s'' => R (.error e) s'') (fun e' s'' => R (.error e') s'') s')
        { s with heap := h₁, toks := tk })
    (hco : (fnAt w f).scope.isCoroutine = false := by rfl) (hgen : (fnAt w f).scope.isGenerator = false := by rfl) (hk : (fnAt w f).scope.kind = .function := by rfl) :
    codeAny (model prog w) A (.call (.ref f) ⟨vals, []⟩) R s := by
  refine codeAny_call_cells (fd := fnAt w f) hroom (G.k _ _ ho) hd G.nl (codeRec_of G.k hc) hb hbind hclo (kindsX hkind _) (fun s₁ X => ?_) hco hgen hk
  obtain ⟨h₁, tk, rfl, hk₁⟩ := X.done
  exact h h₁ tk ⟨X.toInCall.ns, X.toInCall.keep, X.toInCall.fresh⟩ (G.keeps hk₁)

theorem makes_ff (w : World) : makesIn (Kf w) 47 = true := by kernel_rfl
theorem init_ff (w : World) : findIn (Kf w) (.ref 47) "__init__" = some (some (.ref 29)) := by kernel_rfl
theorem iter_ff (w : World) : findIn (Kf w) (.ref 47) "__iter__" = some (some (.ref 36)) := by kernel_rfl
theorem next_ff (w : World) : findIn (Kf w) (.ref 47) "__next__" = some (some (.ref 43)) := by kernel_rfl
theorem fn_29 (w : World) : typeIn (Kf w) (.ref 29) = some (.type "function") := by kernel_rfl
theorem fn_36 (w : World) : typeIn (Kf w) (.ref 36) = some (.type "function") := by kernel_rfl
theorem fn_43 (w : World) : typeIn (Kf w) (.ref 43) = some (.type "function") := by kernel_rfl
theorem setattr_ff (w : World) : findIn (Kf w) (.ref 47) "__setattr__" = some (some (.builtin "object.__setattr__")) := by kernel_rfl
theorem over_ff (w : World) : plainOver (Kf w) 47 = true := by kernel_rfl
theorem taker_func (w : World) : takerIn (Kf w) 47 "_func" = some (some (.ref 48)) := by kernel_rfl
theorem taker_it (w : World) : takerIn (Kf w) 47 "_it" = some (some (.ref 49)) := by kernel_rfl
theorem md_48 (w : World) : typeIn (Kf w) (.ref 48) = some (.type "member_descriptor") := by kernel_rfl
theorem md_49 (w : World) : typeIn (Kf w) (.ref 49) = some (.type "member_descriptor") := by kernel_rfl
theorem slot_48 (w : World) : slotIn (Kf w) 48 47 = some 0 := by kernel_rfl
theorem slot_49 (w : World) : slotIn (Kf w) 49 47 = some 1 := by kernel_rfl
theorem get_ff (w : World) (n : Str) : plainGet (Kf w) 47 n = true := by kernel_rfl
theorem cls_ff (w : World) : isClsIn (Kf w) 47 = true := by kernel_rfl
theorem find_func (w : World) : findIn (Kf w) (.ref 47) "_func" = some (some (.ref 48)) := by kernel_rfl
theorem find_it (w : World) : findIn (Kf w) (.ref 47) "_it" = some (some (.ref 49)) := by kernel_rfl
theorem g48 (w : World) : specialIn (Kf w) (.ref 48) "__get__" = some (some (.builtin "member_descriptor.__get__")) := by kernel_rfl
theorem g49 (w : World) : specialIn (Kf w) (.ref 49) "__get__" = some (some (.builtin "member_descriptor.__get__")) := by kernel_rfl
theorem t48 (w : World) : takesIn (Kf w) (.ref 48) = some true := by kernel_rfl
theorem t49 (w : World) : takesIn (Kf w) (.ref 49) = some true := by kernel_rfl

/-- a made filterfalse -/
def ffObj (dx : Addr) (it fn : Value) : Obj := { cls := .ref 47, dict := some dx, data := .plain, slots := #[some fn, some it] }
structure FF (h : Heap) (x dx : Addr) (it fn : Value) : Prop where
  o : h.get? x = some (ffObj dx it fn)
  d : h.get? dx = some emptyDict
theorem FF.keeps {h h' : Heap} {x dx : Addr} {it fn : Value} (F : FF h x dx it fn) (k : Keep h h') : FF h' x dx it fn := ⟨k _ _ F.o, k _ _ F.d⟩
theorem FF.inst {h : Heap} {x dx : Addr} {it fn : Value} (F : FF h x dx it fn) : InstAt h x (ffObj dx it fn) 47 (some emptyDict) := ⟨F.o, rfl, rfl, F.d⟩

theorem get_slotX {K : Frag} {x C p : Addr} {ox od : Obj} {name : Str} {v : Value} {i : Nat} {expr : Bool} {Q : Value → Shared → Prop} (X : K.In s.heap) (I : InstAt s.heap x ox C (some od)) (hg : plainGet K C name = true) (hc : isClsIn K C = true)
    (ha : findIn K (.ref C) name = some (some (.ref p))) (hn : specialIn K (.ref p) "__get__" = some (some (.builtin "member_descriptor.__get__"))) (ht : takesIn K (.ref p) = some true) (hp : slotIn K p C = some i)
    (hv : (ox.slots[i]?).join = some v) (hh : handedIn v = true) (h : Q v { s with toks := s.toks + 1 }) : wpAny (model prog w) A (getAttr (.ref x) name expr) Q E s :=
  get_bind X I (plainGet_of hg).1 (findObj_data hc ha hn ht) (plainGet_of hg).2 (wpAny_call (slot_get (s := { s with toks := s.toks + 1 }) X I hp hv (handed_on hh h)))

theorem get_itX {x dx : Addr} {it fn : Value} {expr : Bool} {Q : Value → Shared → Prop} (G : Gd w s.heap) (F : FF s.heap x dx it fn) (hh : handedIn it = true) (h : Q it { s with toks := s.toks + 1 }) :
    wpAny (model prog w) A (getAttr (.ref x) "_it" expr) Q E s := get_slotX G.k F.inst (get_ff w _) (cls_ff w) (find_it w) (g49 w) (t49 w) (slot_49 w) rfl hh h
theorem get_funcX {x dx : Addr} {it fn : Value} {expr : Bool} {Q : Value → Shared → Prop} (G : Gd w s.heap) (F : FF s.heap x dx it fn) (hh : handedIn fn = true) (h : Q fn { s with toks := s.toks + 1 }) :
    wpAny (model prog w) A (getAttr (.ref x) "_func" expr) Q E s := get_slotX G.k F.inst (get_ff w _) (cls_ff w) (find_func w) (g48 w) (t48 w) (slot_48 w) rfl hh h
end
end Mine
end

noncomputable section
open PySem PySem.W PySem.Calls PyProof.Rows
set_option maxRecDepth 100000
namespace Mine

section
variable {prog : Program} {w : World} {A : Around} {E : Value → Shared → Prop} {s : Shared}

theorem call_iter_list {l : Addr} {xs : Array Value} {Q : Value → Shared → Prop} (hl : s.heap.IsList l xs)
    (h : Q (.ref s.heap.objs.size) { s with heap := s.heap.push { cls := .type "list_iterator", data := .fields #[.ref l, .int 0 0] } }) :
    wpAny (model prog w) A (call (.builtin "iter") [.ref l]) Q E s := by
  refine call_function_entry (by decide +kernel) (by decide +kernel) kdk_entry_iter (kdk_args_iter _) ?_
  unfold Builtin.«iter»
  refine wpAny_bind (m := someArgs "iter" 1 2 _) (wpAny_of_eq (a := [Value.ref l]) (by first | rfl | kernel_rfl) ?_)
  show wpAny _ _ (pyIter (.ref l) >>= _) _ _ _
  refine wpAny_bind (wpAny_pyIter_list hl ?_)
  exact wpAny_pure ⟨_, rfl, h⟩

set_option maxHeartbeats 4000000 in
theorem make_ff {l : Addr} {xs : Array Value} {fn : Value} {Q : Value → Shared → Prop} (G : Gd w s.heap) (hd : A.depth < 900) (hl : s.heap.IsList l xs)
    (h : ∀ h' tk x dx It, Keep s.heap h' → FF h' x dx (.ref It) fn → h'.IsListIter It l 0 → s.heap.get? x = none → s.heap.get? It = none → Q (.ref x) { s with heap := h', toks := tk }) :
    wpAny (model prog w) A (call (.ref 47) [fn, .ref l]) Q E s := by
  obtain ⟨h₀, g, d, t, os⟩ := s
  refine wpAny_call (make_core (makes_of G.k (makes_ff w)) (looks_findIn G.k (init_ff w)) (fun self => bind_fn G.k self (fn_29 w)) (.inl rfl) ?_)
  have k0 : Keep h₀ ((h₀.push emptyDict).push (instObj 47 h₀.objs.size)) := fun b o e => Heap.get?_push_of_some _ (Heap.get?_push_of_some _ e)
  have hx0 : ((h₀.push emptyDict).push (instObj 47 h₀.objs.size)).get? (h₀.objs.size + 1) = some (instObj 47 h₀.objs.size) := by heap_get
  have hd0 : ((h₀.push emptyDict).push (instObj 47 h₀.objs.size)).get? h₀.objs.size = some emptyDict := by heap_get
  have hz0 : ((h₀.push emptyDict).push (instObj 47 h₀.objs.size)).objs.size = h₀.objs.size + 2 := by rw [Heap.size_push, Heap.size_push]
  have nx : h₀.get? (h₀.objs.size + 1) = none := Heap.get?_none_of_le (Nat.le_succ _)
  have nd : h₀.get? h₀.objs.size = none := Heap.get?_none_of_le (Nat.le_refl _)
  have hab : h₀.objs.size ≤ ((h₀.push emptyDict).push (instObj 47 h₀.objs.size)).objs.size := by rw [hz0]; omega
  have hxd : h₀.objs.size + 1 ≠ h₀.objs.size := Nat.succ_ne_self _
  have hxl : h₀.objs.size + 1 < ((h₀.push emptyDict).push (instObj 47 h₀.objs.size)).objs.size := by rw [hz0]; omega
  have hdl : h₀.objs.size < ((h₀.push emptyDict).push (instObj 47 h₀.objs.size)).objs.size := by rw [hz0]; omega
  clear hz0
  generalize h₀.objs.size + 1 = x at *
  generalize ((h₀.push emptyDict).push (instObj 47 h₀.objs.size)) = h₁ at *
  have hroom : (A.under (.builtin "type.__call__" ⟨.ref 47 :: [fn, .ref l], []⟩)).depth < recursionLimit := by
    have hw : (Code.builtin "type.__call__" ⟨.ref 47 :: [fn, .ref l], []⟩).weight = 1 := rfl
    show A.depth + (Code.builtin "type.__call__" ⟨.ref 47 :: [fn, .ref l], []⟩).weight < 1000
    rw [hw]; omega
  refine call_fnE (w := w) (f := 29) (binds := [("self", .ref x), ("function", fn), ("iterable", .ref l)]) (G.keeps k0) hroom rfl rfl rfl rfl rfl rfl rfl fun h₂ tk F₂ G₂ => ?_
  have k2 : Keep h₀ h₂ := Keep.trans k0 F₂.keep
  have hl2 := isList_keeps hl k2
  refine wpAny_execs_cons ?_
  refine plainObj_wpAny_Assign_Attribute ?_
  refine eval_call nofun ?_
  refine nm_builtin (v := .builtin "iter") G₂ rfl rfl rfl rfl rfl rfl ?_
  refine PyProof.Rows.callWith_builtin1 ?_
  refine args_cons ?_
  refine nm_local F₂.ns rfl rfl rfl ?_
  refine args_nil ?_
  refine call_iter_list hl2 ?_
  have k3 : Keep h₂ (h₂.push { cls := .type "list_iterator", data := .fields #[.ref l, .int 0 0] }) := fun b o e => Heap.get?_push_of_some _ e
  have hI3 : (h₂.push { cls := .type "list_iterator", data := .fields #[.ref l, .int 0 0] }).get? h₂.objs.size = some { cls := .type "list_iterator", data := .fields #[.ref l, .int 0 0] } := Heap.get?_push_size _ rfl
  have hIn : h₂.get? h₂.objs.size = none := Heap.get?_none_of_le (Nat.le_refl _)
  have hI0 : h₀.get? h₂.objs.size = none := none_older k2 hIn
  have hIx : h₂.objs.size ≠ x := fun q => by have := F₂.keep _ _ hx0; rw [← q, hIn] at this; cases this
  have hId : h₂.objs.size ≠ h₀.objs.size := fun q => by have := F₂.keep _ _ hd0; rw [← q, hIn] at this; cases this
  have hIL : h₂.objs.size ≠ h₁.objs.size := fun q => by have := F₂.ns.lt; rw [q] at this; exact Nat.lt_irrefl _ this
  generalize h₂.objs.size = It at *
  have G₃ := G₂.keeps k3
  have ns3 := F₂.ns.keeps k3
  generalize (h₂.push { cls := .type "list_iterator", data := .fields #[.ref l, .int 0 0] }) = h₃ at *
  refine nm_local ns3 rfl rfl rfl ?_
  have Fr3 : Fr h₀ h₁.objs.size h₃ _ := ⟨ns3, Keep.trans k2 k3, hab⟩
  have N3 : News h₀ h₁.objs.size h₃ [(x, instObj 47 h₀.objs.size), (h₀.objs.size, emptyDict), (It, { cls := .type "list_iterator", data := .fields #[.ref l, .int 0 0] })] := fun p hp => by
    rcases List.mem_cons.mp hp with q | hp
    · subst q; exact ⟨k3 _ _ (F₂.keep _ _ hx0), Nat.ne_of_lt hxl, nx⟩
    rcases List.mem_cons.mp hp with q | hp
    · subst q; exact ⟨k3 _ _ (F₂.keep _ _ hd0), Nat.ne_of_lt hdl, nd⟩
    rcases List.mem_cons.mp hp with q | hp
    · subst q; exact ⟨hI3, hIL, hI0⟩
    · cases hp
  have hne : ∀ p ∈ [(h₀.objs.size, emptyDict), (It, { cls := .type "list_iterator", data := .fields #[.ref l, .int 0 0] })], p.1 ≠ x := fun p hp => by
    rcases List.mem_cons.mp hp with q | hp
    · subst q; exact Ne.symm hxd
    rcases List.mem_cons.mp hp with q | hp
    · subst q; exact hIx
    · cases hp
  refine set_slot (C := 47) (p := 49) (ox := instObj 47 h₀.objs.size) (ox' := { cls := .ref 47, dict := some h₀.objs.size, data := .plain, slots := #[none, some (.ref It)] }) (od := emptyDict) Fr3 G.k N3 ⟨(N3 _ (.head _)).1, rfl, rfl, (N3 _ (.tail _ (.head _))).1⟩ (setattr_ff w) (over_ff w) (taker_it w) (md_49 w) (slot_49 w) (by decide) rfl rfl (.head hne) fun h₄ Fr4 N4 => ?_
  refine wpAny_execs_cons ?_
  refine plainObj_wpAny_Assign_Attribute ?_
  refine nm_local Fr4.ns rfl rfl rfl ?_
  refine nm_local Fr4.ns rfl rfl rfl ?_
  refine set_slot (C := 47) (p := 48) (ox := { cls := .ref 47, dict := some h₀.objs.size, data := .plain, slots := #[none, some (.ref It)] }) (ox' := ffObj h₀.objs.size (.ref It) fn) (od := emptyDict) Fr4 G.k N4 ⟨(N4 _ (.head _)).1, rfl, rfl, (N4 _ (.tail _ (.head _))).1⟩ (setattr_ff w) (over_ff w) (taker_func w) (md_48 w) (slot_48 w) (by decide) rfl rfl (.head hne) fun h₅ Fr5 N5 => ?_
  refine wpAny_execs_nil ?_
  exact ⟨rfl, h _ _ x h₀.objs.size It Fr5.keep ⟨(N5 _ (.head _)).1, (N5 _ (.tail _ (.head _))).1⟩ ⟨_, (N5 _ (.tail _ (.tail _ (.head _)))).1, rfl, rfl⟩ nx hI0⟩
end
end Mine
end

noncomputable section
open PySem PySem.W PySem.Calls PyProof.Rows
set_option maxRecDepth 100000
namespace Mine

/-- all is kept but the objects of I, and the slots of the frames in Ls -/
def KeepX (I Ls : List Addr) (h h' : Heap) : Prop :=
  (∀ b o, b ∉ I → b ∉ Ls → h.get? b = some o → h'.get? b = some o) ∧ ∀ b o, b ∉ I → h.get? b = some o → ∃ sl, h'.get? b = some { o with slots := sl }
theorem KeepX.refl (I Ls : List Addr) (h : Heap) : KeepX I Ls h h := ⟨fun _ _ _ _ e => e, fun _ o _ e => ⟨o.slots, e⟩⟩
theorem KeepX.trans {I Ls : List Addr} {a b c : Heap} (x : KeepX I Ls a b) (y : KeepX I Ls b c) : KeepX I Ls a c :=
  ⟨fun _ _ n m e => y.1 _ _ n m (x.1 _ _ n m e), fun d o n e => let ⟨_, e1⟩ := x.2 d o n e; let ⟨sl, e2⟩ := y.2 d _ n e1; ⟨sl, e2⟩⟩
theorem KeepX.mono {I I' Ls Ls' : List Addr} {a b : Heap} (x : KeepX I Ls a b) (h1 : ∀ d ∈ I, d ∈ I') (h2 : ∀ d ∈ Ls, d ∈ Ls') : KeepX I' Ls' a b :=
  ⟨fun _ _ n m e => x.1 _ _ (fun q => n (h1 _ q)) (fun q => m (h2 _ q)) e, fun _ _ n e => x.2 _ _ (fun q => n (h1 _ q)) e⟩
theorem Keep.keepX {h h' : Heap} (k : Keep h h') (I Ls : List Addr) : KeepX I Ls h h' := ⟨fun b o _ _ e => k b o e, fun b o _ e => ⟨o.slots, k b o e⟩⟩
theorem extBut_keepX {h h' : Heap} {x : Addr} (k : Heap.ExtBut x h h') {I : List Addr} (Ls : List Addr) (hx : x ∈ I) : KeepX I Ls h h' :=
  ⟨fun b o n _ e => k b o (fun q => n (q ▸ hx)) e, fun b o n e => ⟨o.slots, k b o (fun q => n (q ▸ hx)) e⟩⟩
theorem KeepF.keepX {Ls : List Addr} {h h' : Heap} (k : KeepF Ls h h') (I : List Addr) : KeepX I Ls h h' := ⟨fun b o _ n e => k.1 b o n e, fun b o _ e => k.2 b o e⟩

section
variable {prog : Program} {w : World} {A : Around} {E : Value → Shared → Prop} {s : Shared}

theorem while_own {test : Expr} {body orelse : List Stmt} {pos : Pos} {env : Env} {Q : Flow → Shared → Prop} (hE : PassesOwn (model prog w) A env E) (I : Nat → Shared → Prop)
    (turn : ∀ n s, I n s → wpAny (model prog w) A (isTrue test env (eval test env)) (fun b s₂ =>
        if b then wpAny (model prog w) A (execs body env) (fun f s₃ => match f with
            | .next | .cont => ∃ m, m < n ∧ I m s₃
            | .brk => Q .next s₃
            | .ret v => Q (.ret v) s₃) E s₂
        else wpAny (model prog w) A (execs orelse env) (fun f s₃ => Q f s₃) E s₂) E s)
    (n : Nat) (h : I n s) : wpAny (model prog w) A (exec (.While test body orelse pos) env) Q E s := by
  refine wpAny_While (codeAny_whileLoop (R := fun r s' => match r with | .ok f => Q f s' | .error e => cameBackBy (model prog w) A env E e s') I (fun n s hI => ?_) n h)
  refine wpAny_passesOwn hE (wpAny_mono (turn n s hI) (fun b s₂ h₂ => ?_) fun _ _ z => z)
  cases b with
  | true => exact wpAny_passesOwn hE (wpAny_mono h₂ (fun f s₃ h₃ => by cases f <;> exact h₃) fun _ _ z => z)
  | false => exact wpAny_passesOwn hE h₂

theorem call_next_item {it l : Addr} {i : Nat} {items : Array Value} {x : Value} {Q : Value → Shared → Prop} (hit : s.heap.IsListIter it l i)
    (hl : s.heap.IsList l items) (hx : items[i]? = some x)
    (hQ : ∀ h', h'.IsListIter it l (i + 1) → Heap.SameBut it s.heap h' → Q x { s with heap := h' }) :
    wpAny (model prog w) A (call (.builtin "next") [.ref it]) Q E s := by
  obtain ⟨o, ho, hc, hd⟩ := id hit
  obtain ⟨ol, hol, _, nl, hdl⟩ := hl
  refine call_function_entry (by decide +kernel) (by decide +kernel) kdk_entry_next (kdk_args_next _) ?_
  unfold Builtin.«next»
  refine wpAny_bind (m := someArgs "next" 1 2 _) (wpAny_of_eq (a := [Value.ref it]) (by first | rfl | kernel_rfl) ?_)
  dsimp only
  refine wpAny_bind (wpAny_specialOf (name := Str.ofString "__next__") hit.typeIs slot_listiter_next.lookup ?_)
  refine wpAny_ite_split (fun hab => absurd hab (by decide)) (fun _ => ?_)
  refine wpAny_bind (wpAny_callSpecial?_slot (name := Str.ofString "__next__") hit.typeIs slot_listiter_next
    (wpAny_call_entry slot_listiter_next hit.typeIs entry_listiter_next ?_ (args_listiter_next _)))
  show wpAny _ _ (field (.ref it) 0 >>= _) _ _ s
  refine wpAny_bind (wpAny_field ho hd (x := .ref l) rfl ?_)
  show wpAny _ _ (if (Value.ref l == Value.none) = true then _ else _) _ _ s
  rw [if_neg (show ¬ ((Value.ref l == Value.none) = true) from Bool.false_ne_true)]
  show wpAny _ _ (field (.ref it) 1 >>= _) _ _ s
  refine wpAny_bind (wpAny_field ho hd (x := .int i 0) rfl ?_)
  show wpAny _ _ (seqItems? (.ref l) >>= _) _ _ s
  refine wpAny_bind (wpAny_seqItems hol hdl ?_)
  simp only [Int.toNat_natCast, hx]
  refine wpAny_bind (wpAny_setField ho hd (by simp) (wpAny_pure ⟨x, rfl, wpAny_pure ⟨_, rfl, hQ _ ?_ (Heap.SameBut.update ..)⟩⟩))
  exact ⟨_, Heap.get?_update_self _ ho (Obj.isFreed_of_fields (Obj.data_mapFields hd _)), (Obj.cls_mapFields ..).trans hc, by
    rw [Obj.data_mapFields hd]; simp [rawInt]⟩

theorem call_next_end {it l : Addr} {i : Nat} {items : Array Value} {Q : Value → Shared → Prop} (hh : A.handled = none)
    (hit : s.heap.IsListIter it l i) (hl : s.heap.IsList l items) (hx : items[i]? = none)
    (hE : ∀ h₁ h' e, Heap.SameBut it s.heap h₁ → Heap.NewExc h₁ h' e "StopIteration" → E (.ref e) { s with heap := h' }) :
    wpAny (model prog w) A (call (.builtin "next") [.ref it]) Q E s := by
  obtain ⟨o, ho, hc, hd⟩ := id hit
  obtain ⟨ol, hol, _, nl, hdl⟩ := hl
  refine call_function_entry (by decide +kernel) (by decide +kernel) kdk_entry_next (kdk_args_next _) ?_
  unfold Builtin.«next»
  refine wpAny_bind (m := someArgs "next" 1 2 _) (wpAny_of_eq (a := [Value.ref it]) (by first | rfl | kernel_rfl) ?_)
  dsimp only
  refine wpAny_bind (wpAny_specialOf (name := Str.ofString "__next__") hit.typeIs slot_listiter_next.lookup ?_)
  refine wpAny_ite_split (fun hab => absurd hab (by decide)) (fun _ => ?_)
  refine wpAny_bind (wpAny_callSpecial?_slot (name := Str.ofString "__next__") hit.typeIs slot_listiter_next
    (wpAny_call_entry slot_listiter_next hit.typeIs entry_listiter_next ?_ (args_listiter_next _)))
  show wpAny _ _ (field (.ref it) 0 >>= _) _ _ s
  refine wpAny_bind (wpAny_field ho hd (x := .ref l) rfl ?_)
  show wpAny _ _ (if (Value.ref l == Value.none) = true then _ else _) _ _ s
  rw [if_neg (show ¬ ((Value.ref l == Value.none) = true) from Bool.false_ne_true)]
  show wpAny _ _ (field (.ref it) 1 >>= _) _ _ s
  refine wpAny_bind (wpAny_field ho hd (x := .int i 0) rfl ?_)
  show wpAny _ _ (seqItems? (.ref l) >>= _) _ _ s
  refine wpAny_bind (wpAny_seqItems hol hdl ?_)
  simp only [Int.toNat_natCast, hx]
  refine wpAny_bind (wpAny_rule (wpAny_bind (wpAny_setField ho hd (by simp) ?_)))
  show wpAny _ _ (newExc (.type "StopIteration") [] >>= _) _ _ _
  refine wpAny_bind ?_
  simp only [newExc, newTuple]
  refine wpAny_bind (wpAny_newObj_type ?_ (by size_fits))
  refine wpAny_bind (m := firstArgMember _ _) (wpAny_of_eq (a := Value.none) (by first | rfl | (simp only [firstArgMember]; rfl)) ?_)
  refine wpAny_newObj_type ?_ (by size_fits)
  simp only [raiseNew]
  refine wpAny_bind (wpAny_handled ?_)
  first | rw [show A.in1.handled = none from hh] | rw [hh]
  refine wpAny_bind (wpAny_pure (wpAny_throw ?_))
  refine hE _ _ _ (Heap.SameBut.update ..) ⟨fun b o hb => Heap.get?_push_of_some _ (Heap.get?_push_of_some _ hb), Heap.get?_none_of_le ?_, ⟨_, _, Heap.get?_push_size _ rfl, rfl, rfl⟩⟩
  rw [Heap.size_push]; exact Nat.le_succ _
end
end Mine
end

noncomputable section
open PySem PySem.W PySem.Calls PyProof.Rows
set_option maxRecDepth 100000
namespace Mine

section
variable {prog : Program} {w : World} {A : Around} {E : Value → Shared → Prop} {s : Shared}

theorem pif_not {c : Bool} {a b : Prop} (hc : c = false) (h : b) : if c = true then a else b := by subst hc; rw [if_neg Bool.false_ne_true]; exact h
theorem pif_so {c : Bool} {a b : Prop} (hc : c = true) (h : a) : if c = true then a else b := by subst hc; rw [if_pos rfl]; exact h
theorem handed_ref (a : Addr) : handedIn (.ref a) = true := rfl
theorem hd_stop {v : Value} (h : IsStop v) : handedIn v = true := by rcases h with ⟨n, t, rfl, _⟩ | ⟨b, rfl⟩ <;> rfl

set_option maxHeartbeats 4000000 in
/-- the next of a filterfalse over a list of stops, with seen.__contains__ for its function -/
theorem next_spec {R : Result → Shared → Prop} {x dx It fb sd l : Addr} {i n : Nat} {xs : List Value} {S : Int → Bool} {outer : List Env} {h₀ : Heap} (G₀ : Gd w h₀) (hk₀ : Keep h₀ s.heap) (hI₀ : h₀.get? It = none) (hh : A.handled = none) (hd : A.depth < 850)
    (hfr : A.frames = some outer) (hall : FrAll s.heap outer) (hF : FF s.heap x dx (.ref It) (.ref fb)) (hfb : s.heap.get? fb = some (boundOf "set.__contains__" sd)) (hS : s.heap.SetOf (stopKind prog w) sd S n)
    (hl : s.heap.IsList l xs.toArray) (hxs : ∀ v ∈ xs, IsStop v) (hit : s.heap.IsListIter It l i)
    (hitem : ∀ j v h' tk, i ≤ j → xs[j]? = some v → S (skey v) = false → (∀ k u, i ≤ k → k < j → xs[k]? = some u → S (skey u) = true) → h'.IsListIter It l (j + 1) → KeepX [It] [] s.heap h' → R (.ok (.ret v)) { s with heap := h', toks := tk })
    (hend : ∀ h' tk e, (∀ k u, i ≤ k → xs[k]? = some u → S (skey u) = true) → KeepX [It] (locs outer) s.heap h' → (∃ o, h'.get? e = some o ∧ o.cls = .type "StopIteration") → R (.error (.ref e)) { s with heap := h', toks := tk }) :
    codeAny (model prog w) A (.call (.ref 43) ⟨[.ref x], []⟩) R s := by
  have G : Gd w s.heap := G₀.keeps hk₀
  refine call_fnE (w := w) (f := 43) (binds := [("self", .ref x)]) G (by show A.depth < 1000; omega) rfl rfl rfl rfl rfl rfl rfl fun h₁ tk F₁ G₁ => ?_
  have hLn : s.heap.get? s.heap.objs.size = none := Heap.get?_none_of_le (Nat.le_refl _)
  have k1 : Keep s.heap h₁ := F₁.keep
  have ns1 := F₁.ns
  have hFs := hF
  have hfrm : (callEnvC (fnAt w 43) s.heap.objs.size 43).frame = some s.heap.objs.size := rfl
  have hkd : (callEnvC (fnAt w 43) s.heap.objs.size 43).scope.kind ≠ .module := by
    show (fnAt w 43).scope.kind ≠ _
    rw [show (fnAt w 43).scope.kind = .function from rfl]; decide
  have henv : (callEnvC (fnAt w 43) s.heap.objs.size 43).locals = s.heap.objs.size := rfl
  generalize s.heap.objs.size = L at *
  refine wpAny_execs_cons ?_
  refine wpAny_Assign_Name ?_
  refine Attribute_name ?_
  refine nm_local ns1 rfl rfl rfl ?_
  refine get_funcX G₁ (hF.keeps k1) (handed_ref _) ?_
  refine st_local (L := L) ns1 rfl fun h₂ ns₂ hs₂ => ?_
  have hLs : ∀ b o, s.heap.get? b = some o → b ≠ L := fun b o e q => by rw [q, hLn] at e; cases e
  have k2 : Keep s.heap h₂ := fun b o e => hs₂.extBut b o (hLs b o e) (k1 b o e)
  have hIL : It ≠ L := let ⟨o, ho, _⟩ := hit; hLs _ _ ho
  refine wpAny_execs_cons ?_
  refine while_own PassesOwn.leaving (fun q s' => ∃ h' tk' m j, s' = { s with heap := h', toks := tk' } ∧ h'.Ns L m ∧ m "self" = some (.ref x) ∧ m "func" = some (.ref fb) ∧ h'.IsListIter It l j ∧ KeepX [It] [] s.heap h' ∧ i ≤ j ∧
    (∀ k u, i ≤ k → k < j → xs[k]? = some u → S (skey u) = true) ∧ q = xs.length + 1 - j ∧ j ≤ max i xs.length) ?_ _
    ⟨h₂, _, _, i, rfl, ns₂, rfl, rfl, ?_, k2.keepX _ _, Nat.le_refl _, fun k u a b => absurd a (by omega), rfl, Nat.le_max_left ..⟩
  rotate_left
  · obtain ⟨o, ho, r⟩ := hit
    exact ⟨o, k2 _ _ ho, r⟩
  rintro q s' ⟨h', tk', m, j, rfl, ns', hms, hmf, hit', kx, hij, hseen, rfl, hjm⟩
  have hxI : x ≠ It := fun q => by obtain ⟨o, ho, hc, _⟩ := hit; rw [← q, hF.o] at ho; cases ho; cases hc
  have hdI : dx ≠ It := fun q => by obtain ⟨o, ho, hc, _⟩ := hit; rw [← q, hF.d] at ho; cases ho; injection hc with hc; exact absurd hc (by decide)
  have hfI : fb ≠ It := fun q => by obtain ⟨o, ho, hc, _⟩ := hit; rw [← q, hfb] at ho; cases ho; injection hc with hc; exact absurd hc (by decide)
  have hlI : l ≠ It := ne_list_iter hl hit
  have hsI : sd ≠ It := fun q => by obtain ⟨o, ho, hc, _⟩ := hit; obtain ⟨o', es, ep, t, ho', hc', _⟩ := hS; rw [← q, ho'] at ho; cases ho; rw [hc'.1] at hc; injection hc with hc; exact absurd hc (by decide)
  have hn1 : ∀ {b : Addr}, b ≠ It → b ∉ [It] := fun hb q => hb (List.mem_singleton.mp q)
  have hF' : FF h' x dx (.ref It) (.ref fb) := ⟨kx.1 _ _ (hn1 hxI) (List.not_mem_nil) hF.o, kx.1 _ _ (hn1 hdI) (List.not_mem_nil) hF.d⟩
  have hfb' := kx.1 _ _ (hn1 hfI) (List.not_mem_nil) hfb
  have hl' : h'.IsList l xs.toArray := let ⟨o, ho, r⟩ := hl; ⟨o, kx.1 _ _ (hn1 hlI) (List.not_mem_nil) ho, r⟩
  have hS' : h'.SetOf (stopKind prog w) sd S n := let ⟨o, es, ep, t, ho, r⟩ := hS; ⟨o, es, ep, t, kx.1 _ _ (hn1 hsI) (List.not_mem_nil) ho, r⟩
  have hk' : Keep h₀ h' := fun b o e => kx.1 b o (hn1 fun q => by rw [q, hI₀] at e; cases e) (List.not_mem_nil) (hk₀ b o e)
  have G' : Gd w h' := G₀.keeps hk'
  refine wpAny_isTrue_value (wpAny_Constant_bool ?_)
  refine wpAny_truthy_bool ?_
  rw [if_pos rfl]
  refine wpAny_execs_cons ?_
  refine wpAny_Assign_Name ?_
  refine eval_call nofun ?_
  refine nm_builtin (v := .builtin "next") G' rfl rfl rfl rfl rfl rfl ?_
  refine PyProof.Rows.callWith_builtin1 ?_
  refine args_cons ?_
  refine Attribute_name ?_
  refine nm_local ns' rfl rfl hms ?_
  refine get_itX G' hF' (handed_ref _) ?_
  refine args_nil ?_
  cases hv : xs[j]? with
  | some v =>
    have hlt : j < xs.length := (List.getElem?_eq_some_iff.mp hv).1
    have hvs : IsStop v := hxs _ (List.mem_of_getElem? hv)
    refine call_next_item (x := v) hit' hl' (by simpa using hv) fun h₃ hit₃ hs₃ => ?_
    have hLI : L ≠ It := Ne.symm hIL
    have ns₃ := ns'.sameBut hs₃ hLI
    refine st_local (L := L) ns₃ rfl fun h₄ ns₄ hs₄ => ?_
    have k34 : KeepX [It] [] s.heap h₄ := by
      refine ⟨fun b o n1 _ e => ?_, fun b o n1 e => ⟨o.slots, ?_⟩⟩
      all_goals exact hs₄.extBut b o (hLs b o e) (hs₃.extBut b o (fun q => n1 (List.mem_singleton.mpr q)) (kx.1 b o n1 (List.not_mem_nil) e))
    have hit₄ : h₄.IsListIter It l (j + 1) := hit₃.extBut hs₄.extBut hIL
    have hfb₄ := k34.1 _ _ (hn1 hfI) (List.not_mem_nil) hfb
    have hS₄ : h₄.SetOf (stopKind prog w) sd S n := let ⟨o, es, ep, t, ho, r⟩ := hS; ⟨o, es, ep, t, k34.1 _ _ (hn1 hsI) (List.not_mem_nil) ho, r⟩
    have G₄ : Gd w h₄ := G₀.keeps fun b o e => k34.1 b o (hn1 fun q => by rw [q, hI₀] at e; cases e) (List.not_mem_nil) (hk₀ b o e)
    refine wpAny_execs_cons ?_
    refine wpAny_If ?_
    refine wpAny_isTrue_BoolOp ?_
    refine wpAny_allTrue_Or_cons ?_
    refine wpAny_isTrue_Compare1 ?_
    refine nm_local ns₄ rfl rfl hmf ?_
    refine wpAny_Constant_none ?_
    refine is_none ?_
    refine wpAny_truthy_bool ?_
    refine pif_not rfl ?_
    refine wpAny_allTrue_Or_cons ?_
    refine wpAny_isTrue_Compare1 ?_
    refine nm_local ns₄ rfl rfl hmf ?_
    refine nm_builtin (v := .type "bool") G₄ rfl rfl rfl rfl rfl rfl ?_
    refine wpAny_is_other rfl nofun ?_
    refine wpAny_truthy_bool ?_
    refine pif_not rfl ?_
    refine wpAny_allTrue_Or_nil ?_
    refine pif_not rfl ?_
    refine wpAny_execs_cons ?_
    refine wpAny_If ?_
    refine wpAny_isTrue_Not ?_
    refine wpAny_isTrue_value ?_
    refine eval_call nofun ?_
    refine nm_local ns₄ rfl rfl hmf ?_
    refine callWith_bnd (i := "set.__contains__") (a := sd) ?_
    refine nm_local ns₄ rfl rfl rfl ?_
    refine ⟨hfb₄, call_boundContains hfb₄ hvs hS₄ ?_⟩
    refine wpAny_truthy_bool ?_
    cases hsv : S (skey v) with
    | true =>
      refine pif_not rfl ?_
      refine wpAny_execs_nil ?_
      refine wpAny_execs_nil ?_
      refine wpAny_execs_nil ?_
      refine ⟨_, ?_, h₄, _, _, j + 1, rfl, ns₄, ?_, ?_, hit₄, k34, by omega, ?_, rfl, ?_⟩
      · omega
      · exact hms
      · exact hmf
      · intro k u a b e
        by_cases q : k = j
        · subst q; rw [hv] at e; cases e; exact hsv
        · exact hseen k u a (by omega) e
      · omega
    | false =>
      refine pif_so rfl ?_
      refine wpAny_execs_cons ?_
      refine wpAny_Return_some ?_
      refine nm_local ns₄ rfl rfl rfl ?_
      exact hitem j v h₄ _ hij hv hsv hseen hit₄ k34
  | none =>
    refine call_next_end hh hit' hl' (by simpa using hv) fun h₃ h₄ e hs₃ hx₄ => ?_
    have hLI : L ≠ It := Ne.symm hIL
    have ns₃ := ns'.sameBut hs₃ hLI
    have k3 : KeepX [It] [] s.heap h₃ := by
      refine ⟨fun b o n1 _ e => ?_, fun b o n1 e => ⟨o.slots, ?_⟩⟩
      all_goals exact hs₃.extBut b o (fun q => n1 (List.mem_singleton.mpr q)) (kx.1 b o n1 (List.not_mem_nil) e)
    have hall₃ : FrAll h₃ ((callEnvC (fnAt w 43) L 43) :: outer) := by
      refine FrAll.cons ?_ hkd hfrm ns₃
      intro env he
      obtain ⟨a, L', o, hf, ho, hdd⟩ := hall env he
      refine ⟨a, L', o, hf, k3.1 _ _ (hn1 fun q => ?_) (List.not_mem_nil) ho, hdd⟩
      obtain ⟨o2, ho2, _, hd2⟩ := hit
      rw [q, ho2] at ho; cases ho; exact hdd _ hd2
    refine leave_exc (Around.frames_deeper hfr) hfrm hall₃ hx₄ fun h₅ k5 te => ?_
    have hl5 : locs ((callEnvC (fnAt w 43) L 43) :: outer) = L :: locs outer := by
      show List.filterMap _ _ = _
      rw [List.filterMap_cons, hfrm]
    rw [hl5] at k5
    refine hend h₅ _ e (fun k u a e' => hseen k u a ?_ e') ⟨fun b o n1 n2 e' => ?_, fun b o n1 e' => ?_⟩ te
    · have h1 := (List.getElem?_eq_some_iff.mp e').1
      have h2 := List.getElem?_eq_none_iff.mp hv
      omega
    · exact k5.1 b o (fun q => by rcases List.mem_cons.mp q with q | q; exact hLs b o e' q; exact n2 q) (k3.1 b o n1 (List.not_mem_nil) e')
    · exact k5.2 b o (k3.1 b o n1 (List.not_mem_nil) e')
end
end Mine
end

noncomputable section
open PySem PySem.W PySem.Calls PyProof.Rows
set_option maxRecDepth 100000
namespace Mine

section
variable {M : Model} {A : Around} {R : GenEnd} {Y : Protocol} {n : Nat} {s₀ : Shared} {c : Code} {fs : List Frame} {s : Shared} {env : Env}
  {K : Flow → Sem Fin} {H : Value → Sem Fin} {gd : Bool → Bool} {lv : List Value → List Value}

theorem seg_If {test : Expr} {body orelse : List Stmt} {pos : Pos}
    (h : wpAny M (A.over c fs) (isTrue test env (eval test env)) (fun b s' => if b = true then Seg M A R Y n s₀ c ((execs body env).wrap K H gd lv) fs s' else Seg M A R Y n s₀ c ((execs orelse env).wrap K H gd lv) fs s') (fun _ _ => False) s) :
    Seg M A R Y n s₀ c ((exec (.If test body orelse pos) env).wrap K H gd lv) fs s := by
  rw [exec_If]
  show Seg M A R Y n s₀ c (.at pos fun _ => (isTrue test env (eval test env) >>= fun b => if b = true then execs body env else execs orelse env).wrap K H gd lv) fs s
  refine seg_at ?_
  rw [Sem.bind_eq_wrap', Sem.wrap_wrap]
  refine seg_wrap (wpAny_mono h (fun b s' hb => ?_) fun _ _ z => z.elim)
  cases b with
  | true => rw [if_pos rfl] at hb; exact hb
  | false => rw [if_neg Bool.false_ne_true] at hb; exact hb

abbrev forFrame (K : Flow → Sem Fin) (H : Value → Sem Fin) (gd : Bool → Bool) (lv : List Value → List Value) (env : Env) (c : Code) (p : Pos) : Frame :=
  .ret (fun r => ((match r with | .ok f => (.pure f : Sem Flow) | .error e => .raise e).onRaise fun (x : Value) => do
    if (← field x 1) == Value.none then unsupported "frame.own-activation:exception-without-traceback"
    setFlight x env.frame).wrap K H gd lv) none (gd false) (lv []) c p []

theorem seg_For {target iter : Expr} {body orelse : List Stmt} {pos : Pos}
    (h : wpAny M (A.over c fs) (eval iter env) (fun x s₁ => wpAny M (A.over c fs) (pyIter x) (fun it s₂ => ∀ p,
      Seg M A R Y n s₀ (.forLoop target it body orelse env) (M.den (.forLoop target it body orelse env)) (forFrame K H gd lv env c p :: fs) s₂) (fun _ _ => False) s₁) (fun _ _ => False) s)
    (hs : ∀ x, foldedSetIterable iter env x = pure x := by intro _; rfl) :
    Seg M A R Y n s₀ c ((exec (.For target iter body orelse pos) env).wrap K H gd lv) fs s := by
  have e : exec (.For target iter body orelse pos) env = ((do
    standAt pos
    let x ← foldedSetIterable iter env (← eval iter env)
    standAt iter.pos
    holding [x] (pyIter x)) >>= fun it => runOwn (.forLoop target it body orelse env) env) := by
    rw [exec_For]; simp only [bind_assoc]
  rw [e, Sem.bind_eq_wrap', Sem.wrap_wrap]
  refine seg_wrap ?_
  refine wpAny_bind (wpAny_standAt (wpAny_bind (wpAny_mono h (fun x s₁ h₁ => wpAny_bind (wpAny_of_eq (hs x) (wpAny_bind (wpAny_standAt (wpAny_holding
    (wpAny_mono h₁ (fun it s₂ h₂ => ?_) fun _ _ z => z.elim)))))) fun _ _ z => z.elim)))
  exact seg_call h₂
end

section
variable {prog : Program} {w : World} {A : Around} {R : GenEnd} {Y : Protocol} {n : Nat} {s₀ : Shared} {fs : List Frame} {s : Shared} {env : Env}

theorem seg_forLoop {x : Str} {px : Pos} {it : Value} {body : List Stmt}
    (h : wpAny (model prog w) (A.over (.forLoop (.Name x px) it body [] env) fs) (pyNext it) (fun r s' => match r with
        | none => Seg (model prog w) A R Y n s₀ (.block [] env) (leafOf (.ok .next)) fs s'
        | some v => wpAny (model prog w) (A.over (.forLoop (.Name x px) it body [] env) fs) (storeName env x v) (fun _ s'' => ∀ H : Value → Sem Fin,
            Seg (model prog w) A R Y n s₀ (.forLoop (.Name x px) it body [] env) ((execs body env).wrap (fun f => match f with
            | .next | .cont => .pure (.again (.forLoop (.Name x px) it body [] env))
            | .brk => .pure (.done .next)
            | .ret v => .pure (.done (.ret v))) H id id) fs s'') (fun _ _ => False) s') (fun _ _ => False) s) :
    Seg (model prog w) A R Y n s₀ (.forLoop (.Name x px) it body [] env) ((model prog w).den (.forLoop (.Name x px) it body [] env)) fs s := by
  show Seg _ A R Y n s₀ _ ((forTurn (.Name x px) it body [] env).onRaise (fun x => do noteFrame x env; theTreesLotGoes x)) fs s
  unfold forTurn
  rw [Sem.onRaise_eq_wrap]
  refine seg_at ?_
  show Seg _ A R Y n s₀ _ (((pyNext it).onRaise (fun _ => standAt { (Expr.Name x px).pos with line := 0 }) >>= _).wrap _ _ _ _) fs s
  rw [Sem.bind_eq_wrap', Sem.wrap_wrap]
  refine seg_wrap (wpAny_onRaise (wpAny_mono h (fun r s' hr => ?_) fun _ _ z => z.elim))
  cases r with
  | none => exact seg_again rfl hr
  | some v =>
    show Seg _ A R Y n s₀ _ ((assign (.Name x px) env v >>= fun _ => execs body env >>= _).wrap _ _ _ _) fs s'
    rw [Sem.bind_eq_wrap', Sem.wrap_wrap]
    refine seg_wrap (wpAny_assign_Name (wpAny_mono hr (fun u s'' h₂ => ?_) fun _ _ z => z.elim))
    rw [Sem.bind_eq_wrap', Sem.wrap_wrap]
    have e : (fun f : Flow => ((match f with
            | .next | .cont => again (.forLoop (.Name x px) it body [] env)
            | .brk => pure (.done .next)
            | .ret v => pure (.done (.ret v)) : Sem Fin)).wrap Sem.pure (fun e => (do noteFrame e env; theTreesLotGoes e : Sem Unit).bind fun _ => (.raise e : Sem Fin)) id id) = fun f => match f with
            | .next | .cont => .pure (.again (.forLoop (.Name x px) it body [] env))
            | .brk => .pure (.done .next)
            | .ret v => .pure (.done (.ret v)) := by
      funext f; cases f <;> rfl
    have h₃ := h₂
    rw [← e] at h₃
    exact h₃ _
end
end Mine
end

noncomputable section
open PySem PySem.W PySem.Calls PyProof.Rows
set_option maxRecDepth 100000
namespace Mine

/-- objects that are the caller's, by their content -/
def ext (o : Obj) : Bool := o.cls == .type "generator" || (match o.data with | .seq .. | .cell .. | .func .. => true | .dict es _ => !es.isEmpty | _ => false)

/-- objects of a kind that the generator changes -/
def mod (o : Obj) : Bool := match o.data with
  | .set .. => true
  | .fields vs => o.cls == .type "list_iterator" && (match (vs[1]? : Option Value) with | some (.int ..) => true | _ => false)
  | _ => false

def KeepC (Lg : Addr) (Ls : List Addr) (h h' : Heap) : Prop :=
  ∀ b o, b ≠ Lg → mod o = false → h.get? b = some o → (b ∉ Ls → h'.get? b = some o) ∧ ∃ sl, h'.get? b = some { o with slots := sl }
theorem KeepC.refl (Lg : Addr) (Ls : List Addr) (h : Heap) : KeepC Lg Ls h h := fun _ o _ _ e => ⟨fun _ => e, o.slots, e⟩
theorem KeepC.trans {Lg : Addr} {Ls : List Addr} {a b c : Heap} (x : KeepC Lg Ls a b) (y : KeepC Lg Ls b c) : KeepC Lg Ls a c := fun d o n e h => by
  obtain ⟨x1, sl, x2⟩ := x d o n e h
  have e' : mod { o with slots := sl } = false := e
  obtain ⟨y1, sl', y2⟩ := y d _ n e' x2
  exact ⟨fun q => (y d o n e (x1 q)).1 q, sl', y2⟩
theorem KeepC.of_keep {Lg : Addr} {Ls : List Addr} {a b : Heap} (k : Keep a b) : KeepC Lg Ls a b := fun d o _ _ h => ⟨fun _ => k d o h, o.slots, k d o h⟩
/-- a change of one object that is not the caller's -/
theorem KeepC.of_extBut {Lg x : Addr} {Ls : List Addr} {a b : Heap} (k : Heap.ExtBut x a b) (hx : x = Lg ∨ ∀ o, a.get? x = some o → mod o = true) : KeepC Lg Ls a b := fun d o n e h => by
  have : d ≠ x := fun q => by
    rcases hx with q' | q'
    · exact n (q.trans q')
    · rw [q' o (q ▸ h)] at e; cases e
  exact ⟨fun _ => k d o this h, o.slots, k d o this h⟩
theorem KeepC.of_keepX {Lg : Addr} {I Ls : List Addr} {a b : Heap} (k : KeepX I Ls a b) (hI : ∀ x ∈ I, x = Lg ∨ ∀ o, a.get? x = some o → mod o = true) : KeepC Lg Ls a b := fun d o n e h => by
  have : d ∉ I := fun q => by
    rcases hI d q with q' | q'
    · exact n q'
    · rw [q' o h] at e; cases e
  exact ⟨fun q => k.1 d o this q h, k.2 d o this h⟩

/-- Inv speaks of the generator's own objects alone -/
def Stable (Lg : Addr) (Inv : Heap → Prop) : Prop := ∀ h h', Inv h → (∀ b o, (ext o = false ∨ b = Lg) → h.get? b = some o → h'.get? b = some o) → Inv h'

def SeenIs (prog : Program) (w : World) (h : Heap) (Lg : Addr) (S : Int → Bool) : Prop :=
  ∃ m, h.Ns Lg m ∧ ((m "seen" = none ∧ S = fun _ => false) ∨ ∃ sd c, m "seen" = some (.ref sd) ∧ h.SetOf (stopKind prog w) sd S c)

theorem ns_det {h : Heap} {L : Addr} {m m' : Str → Option Value} (x : h.Ns L m) (y : h.Ns L m') : m = m' := by
  obtain ⟨o, es, p, ho, hd, _, hf⟩ := x
  obtain ⟨o', es', p', ho', hd', _, hf'⟩ := y
  rw [ho] at ho'; cases ho'
  rw [hd] at hd'; cases hd'
  funext n
  rw [← hf n, ← hf' n]
theorem SeenIs.det {prog : Program} {w : World} {h : Heap} {Lg : Addr} {S S' : Int → Bool} (x : SeenIs prog w h Lg S) (y : SeenIs prog w h Lg S') : S = S' := by
  obtain ⟨m, hm, x⟩ := x
  obtain ⟨m', hm', y⟩ := y
  have e := ns_det hm hm'
  subst e
  rcases x with ⟨x1, rfl⟩ | ⟨sd, c, x1, x2⟩ <;> rcases y with ⟨y1, rfl⟩ | ⟨sd', c', y1, y2⟩
  · rfl
  · rw [x1] at y1; cases y1
  · rw [y1] at x1; cases x1
  · rw [x1] at y1; cases y1
    obtain ⟨o, es, ep, t, ho, _, hd, _, hs, _⟩ := x2
    obtain ⟨o', es', ep', t', ho', _, hd', _, hs', _⟩ := y2
    rw [ho] at ho'; cases ho'
    rw [hd] at hd'; cases hd'
    funext k
    exact Bool.eq_iff_iff.mpr ((hs k).trans (hs' k).symm)
theorem list_det {h : Heap} {l : Addr} {a b : List Value} (x : h.IsList l a.toArray) (y : h.IsList l b.toArray) : a = b := by
  obtain ⟨o, ho, _, n, hd⟩ := x
  obtain ⟨o', ho', _, n', hd'⟩ := y
  rw [ho] at ho'; cases ho'
  rw [hd] at hd'; injection hd' with e
  exact congrArg Array.toList e

section
variable (prog : Program) (w : World) (h₀ : Heap) (l Lg : Addr) (outer : List Env) (ky : Heap → Value → Int) (okv : Heap → Value → Prop)

/-- the state in which the generator may be woken -/
structure Ripe (Inv : Heap → Prop) (q : List Value) (kq : Value → Int) (h : Heap) : Prop where
  inv : Inv h
  base : Keep h₀ h
  fr : FrAll h outer
  queue : ∃ q', h.IsList l (q ++ q').toArray ∧ (∀ u ∈ q ++ q', okv h u) ∧ ∀ u ∈ q, ky h u = kq u

def Yg : Protocol := fun _ s₀ v s' kap =>
  ∃ (S : Int → Bool) (q : List Value) (j : Nat) (h' : Heap) (tk : Tok) (Inv : Heap → Prop), SeenIs prog w s₀.heap Lg S ∧ s₀.heap.IsList l q.toArray ∧ q[j]? = some v ∧ S (ky s₀.heap v) = false ∧ (∀ (k : Nat) u, k < j → q[k]? = some u → S (ky s₀.heap u) = true) ∧
    s' = { s₀ with heap := h', toks := tk } ∧ KeepC Lg [] s₀.heap h' ∧ Keep h₀ h' ∧ Stable Lg Inv ∧ Inv h' ∧ (∀ h, Inv h → SeenIs prog w h Lg (fun k => S k || decide (k = ky s₀.heap v))) ∧
    ∀ s'' : Shared, Ripe h₀ l outer ky okv Inv q (ky s₀.heap) s''.heap → kap (.send .none) s''

def Pg : Nat → Shared → Shared → Prop := fun _ s₀ s₁ =>
  ∃ (S : Int → Bool) (q : List Value) (h' : Heap) (tk : Tok), SeenIs prog w s₀.heap Lg S ∧ s₀.heap.IsList l q.toArray ∧ (∀ u ∈ q, S (ky s₀.heap u) = true) ∧ s₁ = { s₀ with heap := h', toks := tk } ∧ KeepC Lg (locs outer) s₀.heap h' ∧ KeepF (locs outer) h₀ h'

abbrev Rg : GenEnd := fun n s₀ r s₁ => r = .ok (.ret .none) ∧ Pg prog w h₀ l Lg outer ky n s₀ s₁

/-- a generator that waits -/
def Waits (A : Around) (ga : Addr) (g : Nat) (S : Int → Bool) (q : List Value) (kq : Value → Int) (s : Shared) : Prop :=
  s.heap.IsGen ga g ∧ ∃ (n : Nat) (gs : GenState) (Inv : Heap → Prop), s.gens[g]? = some gs ∧ Stable Lg Inv ∧ Inv s.heap ∧ (∀ h, Inv h → SeenIs prog w h Lg S) ∧
    ∀ s'' : Shared, Ripe h₀ l outer ky okv Inv q kq s''.heap →
      (match n with | 0 => False | m + 1 => gs.Goes (model prog w) A.in1 (Rg prog w h₀ l Lg outer ky) (Yg prog w h₀ l Lg outer ky okv) m (.send .none) s'')
end

section
variable {prog : Program} {w : World} {A : Around} {E : Value → Shared → Prop} {s : Shared} {h₀ : Heap} {l Lg : Addr} {outer : List Env} {ky : Heap → Value → Int} {okv : Heap → Value → Prop}

/-- the caller changes its own objects -/
theorem Waits.keeps {ga : Addr} {g : Nat} {S : Int → Bool} {q : List Value} {kq : Value → Int} (W : Waits prog w h₀ l Lg outer ky okv A ga g S q kq s) {h' : Heap} {tk : Tok}
    (k : ∀ b o, (ext o = false ∨ b = Lg ∨ b = ga) → s.heap.get? b = some o → h'.get? b = some o) : Waits prog w h₀ l Lg outer ky okv A ga g S q kq { s with heap := h', toks := tk } := by
  obtain ⟨hg, n, gs, Inv, hgs, hst, hi, hs, hk⟩ := W
  refine ⟨?_, n, gs, Inv, hgs, hst, hst _ _ hi fun b o hb e => k b o (by rcases hb with q | q; exact .inl q; exact .inr (.inl q)) e, hs, hk⟩
  obtain ⟨o, nm, qn, ho, r⟩ := hg
  exact ⟨o, nm, qn, k _ _ (.inr (.inr rfl)) ho, r⟩

theorem gen_next {ga : Addr} {g : Nat} {S : Int → Bool} {q q' : List Value} {kq : Value → Int} {Q : Option Value → Shared → Prop} (hh : A.handled = none) (hl : s.heap.NoLimit) (hroom : A.depth < recursionLimit)
    (W : Waits prog w h₀ l Lg outer ky okv A ga g S q kq s) (hbase : Keep h₀ s.heap) (hfr : FrAll s.heap outer) (hLg : ga ≠ Lg)
    (hq : s.heap.IsList l (q ++ q').toArray) (hok : ∀ u ∈ q ++ q', okv s.heap u) (hky : ∀ u ∈ q, ky s.heap u = kq u)
    (hsome : ∀ (j : Nat) v h' tk gens', (q ++ q')[j]? = some v → S (ky s.heap v) = false → (∀ (k : Nat) u, k < j → (q ++ q')[k]? = some u → S (ky s.heap u) = true) → KeepC Lg [] s.heap h' → Keep h₀ h' → GenOnly g s.gens gens' →
      Waits prog w h₀ l Lg outer ky okv A ga g (fun k => S k || decide (k = ky s.heap v)) (q ++ q') (ky s.heap) { s with heap := h', toks := tk, gens := gens' } → Q (some v) { s with heap := h', toks := tk, gens := gens' })
    (hnone : ∀ h' tk gens', (∀ u ∈ q ++ q', S (ky s.heap u) = true) → KeepC Lg (locs outer) s.heap h' → KeepF (locs outer) h₀ h' → GenOnly g s.gens gens' → gens'[g]? = some .finished → Q none { s with heap := h', toks := tk, gens := gens' }) :
    wpAny (model prog w) A (pyNext (.ref ga)) Q E s := by
  obtain ⟨hg, n, gs, Inv, hgs, hst, hi, hs, hk⟩ := W
  have hgo := hk (s.setGen g .running) ⟨hi, hbase, hfr, q', hq, hok, hky⟩
  cases n with
  | zero => exact hgo.elim
  | succ m =>
    refine wpAny_pyNext_gen (P := Pg prog w h₀ l Lg outer ky) hh hl hroom hg hgs hgo (fun v s₁ gs' hv => ?_) (fun s₁ hp h' hkh => ?_)
    · obtain ⟨S', q₁, j, h', tk, Inv', a1, a2, a3, a4, a5, rfl, a7, a8, a9, a10, a11, a12⟩ := hv
      have eS := (hs _ hi).det a1
      have eq := list_det hq a2
      subst eS; subst eq
      refine hsome j v h' tk _ a3 a4 a5 a7 a8 ((GenOnly.setGen s g .running).trans (GenOnly.setGen _ g gs')) ⟨?_, m, gs', Inv', setGen_self (gs := .running) (setGen_self hgs), a9, a10, a11, fun s'' R => ?_⟩
      · obtain ⟨o, nm, qn, ho, hc, r⟩ := hg
        exact ⟨o, nm, qn, (a7 _ _ hLg (by unfold mod; rw [r.1, hc]; rfl) ho).1 List.not_mem_nil, hc, r⟩
      · have := a12 s'' R
        cases m with
        | zero => exact this
        | succ m' => exact this
    · obtain ⟨S', q₁, h₁, tk, a1, a2, a3, rfl, a5, a6⟩ := hp
      have eS := (hs _ hi).det a1
      have eq := list_det hq a2
      subst eS; subst eq
      refine hnone h' tk _ a3 (a5.trans (.of_keep hkh)) (a6.trans (Keep.keepF hkh _)) ((GenOnly.setGen s g .running).trans (GenOnly.setGen _ g .finished)) (setGen_self (gs := .running) (setGen_self hgs))
end
end Mine
end

noncomputable section
open PySem PySem.W PySem.Calls PyProof.Rows
set_option maxRecDepth 100000
namespace Mine

def rem (S : Int → Bool) : Nat := ((List.range 16).filter fun k => !S ((k : Nat) : Int)).length
theorem rem_lt {S : Int → Bool} {k : Int} (h : S k = false) (h1 : 0 ≤ k) (h2 : k < 16) : rem (fun x => S x || decide (x = k)) < rem S := by
  obtain ⟨m, rfl⟩ := Int.eq_ofNat_of_zero_le h1
  have hm : m < 16 := by omega
  unfold rem
  have e : (List.range 16).filter (fun x => !(S ((x : Nat) : Int) || decide (((x : Nat) : Int) = ((m : Nat) : Int)))) = ((List.range 16).filter fun x => !S ((x : Nat) : Int)).filter fun x => decide (x ≠ m) := by
    rw [List.filter_filter]
    refine List.filter_congr fun x _ => ?_
    by_cases q : x = m
    · subst q; simp
    · have q' : ¬ ((x : Int) = (m : Int)) := fun z => q (Int.ofNat.inj z)
      simp [q, q']
  rw [e]
  refine List.length_filter_lt_length_iff_exists.mpr ⟨m, ?_, by simp⟩
  rw [List.mem_filter]
  exact ⟨List.mem_range.mpr hm, by rw [h]; rfl⟩
theorem skey_range {v : Value} (h : IsStop v) : 0 ≤ skey v ∧ skey v < 16 := by
  rcases h with ⟨n, t, rfl, a, b⟩ | ⟨b, rfl⟩
  · exact ⟨a, b⟩
  · cases b <;> decide

def plainBody (w : World) : List Stmt := match fnBody w 59 with
  | [_, _, .If _ [.For _ _ b _ _] _ _] => b
  | _ => []
abbrev genv (w : World) (Lg : Addr) : Env := callEnvC (fnAt w 59) Lg 59

section
variable {prog : Program} {w : World} {A : Around} {E : Value → Shared → Prop} {s : Shared}

theorem pyNext_own {K : Frag} {x C f : Addr} {ox : Obj} {od : Option Obj} {Q : Option Value → Shared → Prop} (X : K.In s.heap) (I : InstAt s.heap x ox C od) (hs : findIn K (.ref C) "__next__" = some (some (.ref f))) (hf : typeIn K (.ref f) = some (.type "function"))
    (h : wpAny (model prog w) A (call (.ref f) [.ref x]) (fun v s' => Q (some v) s') (OwitStop (model prog w) A Q E) s) : wpAny (model prog w) A (pyNext (.ref x)) Q E s := by
  unfold pyNext
  refine wpAny_bind (wpAny_attempt (special_fn (name := "__next__") (args := []) X I hs hf (wpAny_mono h (fun v s' hq => ?_) (fun e s' he => ?_))))
  · exact wpAny_pure hq
  · refine wpAny_bind (wpAny_mono he (fun b s₂ hb => ?_) fun _ _ z => z)
    cases b with
    | true => exact wpAny_pure hb
    | false => exact wpAny_throw hb

theorem ext_set {h : Heap} {sd : Addr} {S : Int → Bool} {c : Nat} (hS : h.SetOf (stopKind prog w) sd S c) : ∀ o, h.get? sd = some o → ext o = false := by
  intro o ho
  obtain ⟨o', es, ep, t, ho', hc, hd, _⟩ := hS
  rw [ho] at ho'; cases ho'
  unfold ext; rw [hc.1, hd]; rfl
theorem ext_iter {h : Heap} {It l : Addr} {i : Nat} (hI : h.IsListIter It l i) : ∀ o, h.get? It = some o → ext o = false := by
  intro o ho
  obtain ⟨o', ho', hc, hd⟩ := hI
  rw [ho] at ho'; cases ho'
  unfold ext; rw [hc, hd]; rfl
theorem mod_set {h : Heap} {sd : Addr} {S : Int → Bool} {c : Nat} (hS : h.SetOf (stopKind prog w) sd S c) : ∀ o, h.get? sd = some o → mod o = true := by
  intro o ho
  obtain ⟨o', es, ep, t, ho', hc, hd, _⟩ := hS
  rw [ho] at ho'; cases ho'
  unfold mod; rw [hd]
theorem mod_iter {h : Heap} {It l : Addr} {i : Nat} (hI : h.IsListIter It l i) : ∀ o, h.get? It = some o → mod o = true := by
  intro o ho
  obtain ⟨o', ho', hc, hd⟩ := hI
  rw [ho] at ho'; cases ho'
  unfold mod; rw [hd, hc]; rfl
theorem ne_set_ns {h : Heap} {sd L : Addr} {S : Int → Bool} {c : Nat} {m : Str → Option Value} (hS : h.SetOf (stopKind prog w) sd S c) (hn : h.Ns L m) : sd ≠ L := fun q => by
  obtain ⟨o', es, ep, t, ho', hc, hd, _⟩ := hS
  obtain ⟨o, es', p, ho, hd', _⟩ := hn
  rw [← q, ho'] at ho; cases ho; rw [hd] at hd'; cases hd'
theorem ne_set_iter {h : Heap} {sd It l : Addr} {i : Nat} {S : Int → Bool} {c : Nat} (hS : h.SetOf (stopKind prog w) sd S c) (hn : h.IsListIter It l i) : sd ≠ It := fun q => by
  obtain ⟨o', es, ep, t, ho', hc, hd, _⟩ := hS
  obtain ⟨o, ho, _, hd'⟩ := hn
  rw [← q, ho'] at ho; cases ho; rw [hd] at hd'; cases hd'
theorem isList_keepC {Lg l : Addr} {h h' : Heap} {xs : Array Value} {m : Str → Option Value} (k : KeepC Lg [] h h') (hl : h.IsList l xs) (hn : h.Ns Lg m) : h'.IsList l xs := by
  have hne := ne_list_ns hl hn
  obtain ⟨o, ho, hc, n, hd⟩ := hl
  exact ⟨o, (k _ _ hne (by unfold mod; rw [hd]) ho).1 List.not_mem_nil, hc, n, hd⟩

theorem KeepC.monoLs {Lg : Addr} {Ls : List Addr} {a b : Heap} (k : KeepC Lg [] a b) : KeepC Lg Ls a b := fun d o n e h => ⟨fun _ => (k d o n e h).1 List.not_mem_nil, (k d o n e h).2⟩
/-- what the plain generator has between two wakings -/
def PL (prog : Program) (w : World) (l Lg sd fa fc x dx It : Addr) (S : Int → Bool) (c i : Nat) (h : Heap) : Prop :=
  (∃ m, h.Ns Lg m ∧ m "seen" = some (.ref sd) ∧ m "seen_add" = some (.ref fa)) ∧ h.get? fa = some (boundOf "set.add" sd) ∧ h.get? fc = some (boundOf "set.__contains__" sd) ∧ FF h x dx (.ref It) (.ref fc) ∧ h.IsListIter It l i ∧
    h.SetOf (stopKind prog w) sd S c

theorem PL.stable {l Lg sd fa fc x dx It : Addr} {S : Int → Bool} {c i : Nat} : Stable Lg (PL prog w l Lg sd fa fc x dx It S c i) := by
  rintro h h' ⟨⟨m, hn, hm1, hm2⟩, ha, hc, hF, hI, hS⟩ k
  refine ⟨⟨m, ?_, hm1, hm2⟩, k _ _ (.inl rfl) ha, k _ _ (.inl rfl) hc, ⟨k _ _ (.inl rfl) hF.o, k _ _ (.inl rfl) hF.d⟩, ?_, ?_⟩
  · obtain ⟨o, es, p, ho, r⟩ := hn
    exact ⟨o, es, p, k _ _ (.inr rfl) ho, r⟩
  · have e := ext_iter hI
    obtain ⟨o, ho, r⟩ := hI
    exact ⟨o, k _ _ (.inl (e o ho)) ho, r⟩
  · have e := ext_set hS
    obtain ⟨o, es, ep, t, ho, r⟩ := hS
    exact ⟨o, es, ep, t, k _ _ (.inl (e o ho)) ho, r⟩
theorem PL.seen {l Lg sd fa fc x dx It : Addr} {S : Int → Bool} {c i : Nat} {h : Heap} (P : PL prog w l Lg sd fa fc x dx It S c i h) : SeenIs prog w h Lg S := by
  obtain ⟨⟨m, hn, hm1, _⟩, _, _, _, _, hS⟩ := P
  exact ⟨m, hn, .inr ⟨sd, c, hm1, hS⟩⟩

abbrev kyP : Heap → Value → Int := fun _ v => skey v
abbrev okP : Heap → Value → Prop := fun _ v => IsStop v

set_option maxHeartbeats 4000000 in
theorem loop_plain {fs : List Frame} {h₀ : Heap} {l Lg sd fa fc x dx It : Addr} {outer : List Env} {px : Pos} (G₀ : Gd w h₀) (hLg : h₀.get? Lg = none) (hsd : h₀.get? sd = none) (hIt : h₀.get? It = none)
    (hh : (A.over (.forLoop (.Name "element" px) (.ref x) (plainBody w) [] (genv w Lg)) fs).handled = none) (hd : (A.over (.forLoop (.Name "element" px) (.ref x) (plainBody w) [] (genv w Lg)) fs).depth < 850)
    (hfr : (A.over (.forLoop (.Name "element" px) (.ref x) (plainBody w) [] (genv w Lg)) fs).frames = some (genv w Lg :: outer)) (hfs : splitAtGen fs = none) (hfg : fs.any Frame.guarded = false)
    (hend : ∀ n s₀ s', Rg prog w h₀ l Lg outer kyP n s₀ (.ok (.ret .none)) s' → Seg (model prog w) A (Rg prog w h₀ l Lg outer kyP) (Yg prog w h₀ l Lg outer kyP okP) n s₀ (.block [] (genv w Lg)) (leafOf (.ok .next)) fs s') :
    ∀ (n : Nat) (s₀ : Shared) (h : Heap) (tk : Tok) (S : Int → Bool) (c i : Nat) (q : List Value), rem S ≤ n → c + n ≤ 16 → SeenIs prog w s₀.heap Lg S → s₀.heap.IsList l q.toArray → (∀ u ∈ q, IsStop u) → KeepC Lg [] s₀.heap h → Keep h₀ h → FrAll h outer →
      PL prog w l Lg sd fa fc x dx It S c i h → i ≤ q.length → (∀ (k : Nat) u, k < i → q[k]? = some u → S (skey u) = true) → h.IsList l q.toArray →
      Seg (model prog w) A (Rg prog w h₀ l Lg outer kyP) (Yg prog w h₀ l Lg outer kyP okP) n s₀ (.forLoop (.Name "element" px) (.ref x) (plainBody w) [] (genv w Lg)) ((model prog w).den (.forLoop (.Name "element" px) (.ref x) (plainBody w) [] (genv w Lg))) fs { s₀ with heap := h, toks := tk } := by
  intro n
  induction n using Nat.strongRecOn with
  | ind n ih =>
  intro s₀ h tk S c i q hrem hcn hseen hl0 hst hkc hkb hfa hPL hiq hin hl
  have hPL0 := hPL
  obtain ⟨⟨m, hns, hm1, hm2⟩, hfaA, hfcA, hF, hI, hS⟩ := hPL
  have hall : FrAll h (genv w Lg :: outer) := FrAll.cons hfa (by show (fnAt w 59).scope.kind ≠ _; rw [show (fnAt w 59).scope.kind = .function from rfl]; decide) rfl hns
  refine seg_forLoop ?_
  refine pyNext_own (K := Kf w) (C := 47) (f := 43) (G₀.keeps hkb).k hF.inst (next_ff w) (fn_43 w) ?_
  refine wpAny_call (next_spec G₀ hkb hIt hh hd hfr hall hF hfcA hS hl hst hI (fun j v h₁ tk₁ hij hv hSv hbt hI₁ k₁ => ?_) (fun h₁ tk₁ e hall' k₁ te => ?_))
  · have hvs : IsStop v := hst _ (List.mem_of_getElem? hv)
    have hrg := skey_range hvs
    have hrl := rem_lt hSv hrg.1 hrg.2
    obtain ⟨n', rfl⟩ : ∃ n', n = n' + 1 := ⟨n - 1, by omega⟩
    have hIL : It ≠ Lg := Ne.symm (ne_ns_iter hns hI)
    have hsI : sd ≠ It := ne_set_iter hS hI
    have hsL : sd ≠ Lg := ne_set_ns hS hns
    have hn1 : ∀ {b : Addr}, b ≠ It → b ∉ [It] := fun hb q => hb (List.mem_singleton.mp q)
    have kk : ∀ {b : Addr} {o : Obj}, b ≠ It → h.get? b = some o → h₁.get? b = some o := fun hb e => k₁.1 _ _ (hn1 hb) List.not_mem_nil e
    have ns₁ : h₁.Ns Lg m := let ⟨o, es, p, ho, r⟩ := hns; ⟨o, es, p, kk (Ne.symm hIL) ho, r⟩
    have hS₁ : h₁.SetOf (stopKind prog w) sd S c := let ⟨o, es, ep, t, ho, r⟩ := hS; ⟨o, es, ep, t, kk hsI ho, r⟩
    have kc₁ : KeepC Lg [] h h₁ := KeepC.of_keepX k₁ fun b hb => by rw [List.mem_singleton.mp hb]; exact .inr (mod_iter hI)
    have kb₁ : Keep h₀ h₁ := fun b o e => kk (fun q => by rw [q, hIt] at e; cases e) (hkb b o e)
    have hl₁ := isList_keepC kc₁ hl hns
    have nf : ∀ {b y : Addr} {i : String}, h.get? b = some (boundOf i y) → b ≠ It := fun e q => by
      obtain ⟨o, ho, hc, _⟩ := hI; rw [← q, e] at ho; cases ho; injection hc with hc; exact absurd hc (by decide)
    have hxI : x ≠ It := fun q => by obtain ⟨o, ho, hc, _⟩ := hI; rw [← q, hF.o] at ho; cases ho; cases hc
    have hdI : dx ≠ It := fun q => by obtain ⟨o, ho, hc, _⟩ := hI; rw [← q, hF.d] at ho; cases ho; injection hc with hc; exact absurd hc (by decide)
    have hfa₁ := kk (nf hfaA) hfaA
    have hfc₁ := kk (nf hfcA) hfcA
    have hF₁ : FF h₁ x dx (.ref It) (.ref fc) := ⟨kk hxI hF.o, kk hdI hF.d⟩
    show wpAny _ _ (storeName _ _ _) _ _ _
    refine st_local (L := Lg) ns₁ rfl fun h₂ ns₂ hs₂ => ?_
    intro H
    have nL : ∀ {b y : Addr} {i : String}, h₁.get? b = some (boundOf i y) → b ≠ Lg := fun e q => by
      obtain ⟨o, es, p, ho, hd', _⟩ := ns₁; rw [← q, e] at ho; cases ho; cases hd'
    have hxL : x ≠ Lg := fun q => by obtain ⟨o, es, p, ho, hd', _⟩ := ns₁; rw [← q, hF₁.o] at ho; cases ho; cases hd'
    have hdL : dx ≠ Lg := fun q => by
      obtain ⟨o, es, p, ho, hd', _, hf'⟩ := ns₁
      rw [← q, hF₁.d] at ho; cases ho; cases hd'
      have := hf' "seen"
      rw [hm1] at this; cases this
    have k2 : ∀ {b : Addr} {o : Obj}, b ≠ Lg → h₁.get? b = some o → h₂.get? b = some o := fun hb e => hs₂.extBut _ _ hb e
    have hS₂ : h₂.SetOf (stopKind prog w) sd S c := let ⟨o, es, ep, t, ho, r⟩ := hS₁; ⟨o, es, ep, t, k2 hsL ho, r⟩
    have kc₂ : KeepC Lg [] h₁ h₂ := KeepC.of_extBut hs₂.extBut (.inl rfl)
    have kb₂ : Keep h₀ h₂ := fun b o e => k2 (fun q => by rw [q, hLg] at e; cases e) (kb₁ b o e)
    have hl₂ := isList_keepC kc₂ hl₁ ns₁
    have hfa₂ := k2 (nL hfa₁) hfa₁
    have hfc₂ := k2 (nL hfc₁) hfc₁
    have hF₂ : FF h₂ x dx (.ref It) (.ref fc) := ⟨k2 hxL hF₁.o, k2 hdL hF₁.d⟩
    have hI₂ : h₂.IsListIter It l (j + 1) := hI₁.extBut hs₂.extBut hIL
    refine seg_execs_cons ?_
    refine seg_wrap ?_
    refine wpAny_Expr ?_ rfl rfl
    refine eval_call nofun ?_
    refine nm_local ns₂ rfl rfl hm2 ?_
    refine callWith_bnd (i := "set.add") (a := sd) ?_
    refine nm_local ns₂ rfl rfl rfl ?_
    refine ⟨hfa₂, call_boundAdd hfa₂ hvs hS₂ (by omega) fun h₃ hs₃ hS₃ => ?_⟩
    rw [hSv] at hS₃
    have nfs : ∀ {b y : Addr} {i : String}, h₂.get? b = some (boundOf i y) → b ≠ sd := fun e q => by
      obtain ⟨o, es, ep, t, ho, _, hd', _⟩ := hS₂; rw [← q, e] at ho; cases ho; cases hd'
    have hxs : x ≠ sd := fun q => by obtain ⟨o, es, ep, t, ho, _, hd', _⟩ := hS₂; rw [← q, hF₂.o] at ho; cases ho; cases hd'
    have hds : dx ≠ sd := fun q => by obtain ⟨o, es, ep, t, ho, _, hd', _⟩ := hS₂; rw [← q, hF₂.d] at ho; cases ho; cases hd'
    have k3 : ∀ {b : Addr} {o : Obj}, b ≠ sd → h₂.get? b = some o → h₃.get? b = some o := fun hb e => hs₃.extBut _ _ hb e
    have ns₃ := ns₂.sameBut hs₃ (Ne.symm hsL)
    have kc₃ : KeepC Lg [] h₂ h₃ := KeepC.of_extBut hs₃.extBut (.inr (mod_set hS₂))
    have kb₃ : Keep h₀ h₃ := fun b o e => k3 (fun q => by rw [q, hsd] at e; cases e) (kb₂ b o e)
    have hP₃ : PL prog w l Lg sd fa fc x dx It (fun k => S k || decide (k = skey v)) (c + 1) (j + 1) h₃ :=
      ⟨⟨_, ns₃, hm1, hm2⟩, k3 (nfs hfa₂) hfa₂, k3 (nfs hfc₂) hfc₂, ⟨k3 hxs hF₂.o, k3 hds hF₂.d⟩, hI₂.extBut hs₃.extBut (Ne.symm hsI), hS₃⟩
    refine seg_execs_cons ?_
    refine seg_Expr_Yield hfs rfl hfg ?_
    refine nm_local ns₃ rfl rfl rfl ?_
    intro kap hkap
    refine ⟨S, q, j, h₃, _, PL prog w l Lg sd fa fc x dx It (fun k => S k || decide (k = skey v)) (c + 1) (j + 1), hseen, hl0, hv, hSv, fun k u hk hu => ?_, rfl, hkc.trans (kc₁.trans (kc₂.trans kc₃)), kb₃, PL.stable, hP₃, fun h' hp => hp.seen, fun s'' RP => ?_⟩
    · by_cases hki : k < i
      · exact hin k u hki hu
      · exact hbt k u (by omega) hk hu
    · refine hkap .none s'' ?_
      refine seg_execs_nil ?_
      refine seg_again rfl ?_
      obtain ⟨q', hlq, hok, _⟩ := RP.queue
      have hjl : j < q.length := (List.getElem?_eq_some_iff.mp hv).1
      refine ih n' (by omega) s'' s''.heap s''.toks _ (c + 1) (j + 1) (q ++ q') (by omega) (by omega) RP.inv.seen hlq hok (.refl _ _ _) RP.base RP.fr RP.inv (by rw [List.length_append]; omega) (fun k u hk hu => ?_) hlq
      rw [List.getElem?_append_left (by omega)] at hu
      by_cases hkj : k = j
      · subst hkj; rw [hv] at hu; cases hu; simp
      · have : S (skey u) = true := by
          by_cases hki : k < i
          · exact hin k u hki hu
          · exact hbt k u (by omega) (by omega) hu
        rw [this]; rfl
  · show OwitStop _ _ _ _ (.ref e) _
    unfold OwitStop
    refine wpAny_isInstance (T := "StopIteration") (b := true) te isSubtype_stop ?_
    refine pif_so rfl ?_
    have hlc : locs (genv w Lg :: outer) = Lg :: locs outer := rfl
    rw [hlc] at k₁
    have hIL : It ≠ Lg := Ne.symm (ne_ns_iter hns hI)
    refine hend n s₀ _ ⟨rfl, S, q, h₁, tk₁, hseen, hl0, fun u hu => ?_, rfl, hkc.monoLs.trans ?_, ?_⟩
    · obtain ⟨k, hk⟩ := List.getElem?_of_mem hu
      by_cases hki : k < i
      · exact hin k u hki hk
      · exact hall' k u (by omega) hk
    · have kc := KeepC.of_keepX (Lg := Lg) k₁ fun b hb => by rw [List.mem_singleton.mp hb]; exact .inr (mod_iter hI)
      exact fun d o n1 e1 hh1 => ⟨fun hn => (kc d o n1 e1 hh1).1 (fun q => by rcases List.mem_cons.mp q with q | q; exact n1 q; exact hn q), (kc d o n1 e1 hh1).2⟩
    · have ni : ∀ b o, h₀.get? b = some o → b ∉ [It] := fun b o e1 q => by rw [List.mem_singleton.mp q, hIt] at e1; cases e1
      refine ⟨fun b o hb e1 => k₁.1 b o (ni b o e1) (fun q => ?_) (hkb b o e1), fun b o e1 => k₁.2 b o (ni b o e1) (hkb b o e1)⟩
      rcases List.mem_cons.mp q with q | q
      · rw [q, hLg] at e1; cases e1
      · exact hb q
end
end Mine
end

noncomputable section
open PySem PySem.W PySem.Calls PyProof.Rows
set_option maxRecDepth 100000
namespace Mine

section
variable {prog : Program} {w : World} {A : Around} {E : Value → Shared → Prop} {s : Shared}

theorem keep_47 (w : World) : keepIn (Kf w) (.ref 47) = true := by kernel_rfl
theorem keep_59 (w : World) : keepIn (Kf w) (.ref 59) = true := by kernel_rfl
theorem binds_plain (w : World) (v : Value) (S : Setting) : peek (Kf w) S (bindArgs (fnAt w 59) ⟨[v], []⟩) = some [(("iterable" : Str), v), (("key" : Str), Value.none)] := by kernel_rfl
theorem binds_key (w : World) (v f : Value) (S : Setting) : peek (Kf w) S (bindArgs (fnAt w 59) ⟨[v], [(("key" : Str), f)]⟩) = some [(("iterable" : Str), v), (("key" : Str), f)] := by kernel_rfl

theorem call_gen {R : Result → Shared → Prop} {args : Args} {v f : Value} (G : Gd w s.heap) (hroom : A.depth < recursionLimit) (e : ∀ S, peek (Kf w) S (bindArgs (fnAt w 59) args) = some [(("iterable" : Str), v), (("key" : Str), f)])
    (h : ∀ h' tk Lg ga, Keep s.heap h' → s.heap.get? Lg = none → s.heap.get? ga = none → ga ≠ Lg → h'.Ns Lg (bindL (genv w Lg).kindOf [("iterable", v), ("key", f)] fun _ => none) → h'.IsGen ga s.gens.size →
      R (.ok (.ret (.ref ga))) { s with gens := s.gens.push (.fresh (.func (fnBody w 59) (genv w Lg))), toks := tk, heap := h' }) :
    codeAny (model prog w) A (.call (.ref 59) args) R s := by
  refine codeAny_call_generator (fd := fnAt w 59) (body := fnBody w 59) hroom (G.k 59 (objAt w 59) rfl) rfl rfl rfl rfl (codeRec_of G.k rfl) ?_
  refine kp_binds G.k e _ _ _ _ ?_
  refine wpAny_newFunctionEnv_cells rfl (kindsX (by rfl) _) fun env he s₂ X => ?_
  subst he
  obtain ⟨h₁, tk, rfl, hk₁⟩ := X.done
  have ns := X.toInCall.ns
  have fr := X.toInCall.fresh
  have hLn : s.heap.get? s.heap.objs.size = none := Heap.get?_none_of_le (Nat.le_refl _)
  refine ⟨G.nl.keeps hk₁, ?_⟩
  refine h _ _ s.heap.objs.size h₁.objs.size (fun b o e' => Heap.get?_push_of_some _ (hk₁ b o e')) hLn ?_ ?_ (ns.push _) ⟨_, _, _, Heap.get?_push_size _ rfl, rfl, rfl, rfl⟩
  · exact none_older hk₁ (Heap.get?_none_of_le (Nat.le_refl _))
  · exact Nat.ne_of_gt ns.lt
end
end Mine
end

noncomputable section
open PySem PySem.W PySem.Calls PyProof.Rows
set_option maxRecDepth 100000
namespace Mine

section
variable {prog : Program} {w : World} {A : Around} {E : Value → Shared → Prop} {s : Shared}

/-- iter() of an instance whose __iter__ gives itself back -/
theorem pyIter_self {K : Frag} {x C f : Addr} {g : Value} {ox : Obj} {od : Option Obj} {Q : Value → Shared → Prop} (X : K.In s.heap) (I : InstAt s.heap x ox C od) (hs : findIn K (.ref C) "__iter__" = some (some (.ref f)))
    (hf : typeIn K (.ref f) = some (.type "function")) (hn : findIn K (.ref C) "__next__" = some (some g))
    (h : wpAny (model prog w) A (call (.ref f) [.ref x]) (fun v s' => v = .ref x ∧ K.In s'.heap ∧ InstAt s'.heap x ox C od ∧ Q (.ref x) s') E s) : wpAny (model prog w) A (pyIter (.ref x)) Q E s := by
  have got : wpAny (model prog w) A (call (.ref f) [.ref x] >>= fun v => pure (some v)) (fun r s' => r = some (.ref x) ∧ K.In s'.heap ∧ InstAt s'.heap x ox C od ∧ Q (.ref x) s') E s := by
    refine wpAny_bind (wpAny_mono h (fun v s' hv => ?_) fun _ _ z => z)
    obtain ⟨rfl, hv⟩ := hv
    exact wpAny_pure ⟨rfl, hv⟩
  unfold pyIter
  refine wpAny_bind (wpAny_bind (I.type.here ((looks_findIn X hs).here ?_)))
  show wpAny _ A (callSpecialIfBoundUnlessNone? (.ref x) "__iter__" _ >>= _) Q E s
  refine wpAny_bind (wpAny_mono (Q := fun r s' => r = some (.ref x) ∧ K.In s'.heap ∧ InstAt s'.heap x ox C od ∧ Q (.ref x) s') (E := E) ?_ (fun r s' hr => ?_) fun _ _ z => z)
  · simp only [callSpecialIfBoundUnlessNone?, bindSpecialIfBound?]
    refine wpAny_holding (wpAny_bind (wpAny_bind (wpAny_bind (I.type.here ((looks_findIn X hs).here ?_)))))
    refine wpAny_bind (wpAny_askSetting (wpAny_ite ?_))
    have past : ∀ refuse : Sem Value, wpAny (model prog w) A (if (Value.ref f == Value.none) = true then (refuse >>= fun v => pure (some v)) else (call (.ref f) [.ref x] >>= fun v => pure (some v)))
        (fun r s' => r = some (.ref x) ∧ K.In s'.heap ∧ InstAt s'.heap x ox C od ∧ Q (.ref x) s') E s := fun refuse => by
      rw [if_neg (show ¬ ((Value.ref f == Value.none) = true) from Bool.false_ne_true)]
      exact got
    split
    · exact wpAny_bind ((bind_fn X _ hf).here (wpAny_pure (past _)))
    · exact wpAny_tryCatch (wpAny_bind ((bind_fn X _ hf).here (wpAny_pure (past _))))
  · obtain ⟨rfl, X', I', hQ⟩ := hr
    refine wpAny_bind (wpAny_bind (I'.type.here ((looks_findIn X' hn).here ?_)))
    exact wpAny_pure hQ

theorem iter_ff_self {x dx : Addr} {it fn : Value} {Q : Value → Shared → Prop} (G : Gd w s.heap) (hd : A.depth < 900) (hF : FF s.heap x dx it fn)
    (h : ∀ h' tk, Keep s.heap h' → Q (.ref x) { s with heap := h', toks := tk }) : wpAny (model prog w) A (pyIter (.ref x)) Q E s := by
  refine pyIter_self G.k hF.inst (iter_ff w) (fn_36 w) (next_ff w) ?_
  refine wpAny_call (call_fn (w := w) (f := 36) (binds := [("self", .ref x)]) G (by show A.depth < 1000; omega) rfl rfl rfl rfl rfl rfl rfl fun h₁ tk F₁ _ G₁ => ?_)
  refine wpAny_execs_cons ?_
  refine wpAny_Return_some ?_
  refine nm_local F₁.ns rfl rfl rfl ?_
  exact ⟨rfl, G₁.k, (hF.keeps F₁.keep).inst, h _ _ F₁.keep⟩

theorem over_for {b : List Stmt} {x : Str} {px : Pos} {it : Value} {body : List Stmt} {K : Flow → Sem Fin} {H : Value → Sem Fin} {gd : Bool → Bool} {lv : List Value → List Value} {env : Env} {p : Pos} :
    A.over (.forLoop (.Name x px) it body [] env) [forFrame K H gd lv env (.func b env) p] = { A with depth := A.depth + (1 + 0) + 0, frames := A.frames.map (env :: ·), guards := (A.over (.forLoop (.Name x px) it body [] env) [forFrame K H gd lv env (.func b env) p]).guards, units := (A.over (.forLoop (.Name x px) it body [] env) [forFrame K H gd lv env (.func b env) p]).units } := by
  obtain ⟨hd, dp, fr, gs, un⟩ := A
  cases fr <;> rfl
theorem FrAll.step {h h' : Heap} {l : List Env} {Lg : Addr} {m : Str → Option Value} (x : FrAll h l) (k : ∀ b o, b ≠ Lg → h.get? b = some o → h'.get? b = some o) (n : h'.Ns Lg m) : FrAll h' l := fun env he => by
  obtain ⟨a, L, o, hf, ho, hd⟩ := x env he
  by_cases q : L = Lg
  · subst q
    obtain ⟨o', es, p, ho', hd', _⟩ := n
    exact ⟨a, L, o', hf, ho', fun vs z => by rw [hd'] at z; cases z⟩
  · exact ⟨a, L, o, hf, k _ _ q ho, hd⟩

theorem rem_zero : rem (fun _ => false) ≤ 16 := by decide

set_option maxHeartbeats 4000000 in
theorem start_plain {h₀ : Heap} {l Lg : Addr} {outer : List Env} {q : List Value} (G₀ : Gd w h₀) (hLg : h₀.get? Lg = none) (hh : A.handled = none) (hd : A.depth < 800) (hfr : A.frames = some outer)
    (hns : s.heap.Ns Lg (bindL (genv w Lg).kindOf [("iterable", .ref l), ("key", .none)] fun _ => none)) (hkb : Keep h₀ s.heap) (hfa : FrAll s.heap outer) (hl : s.heap.IsList l q.toArray) (hst : ∀ u ∈ q, IsStop u) :
    Seg (model prog w) A.in1 (Rg prog w h₀ l Lg outer kyP) (Yg prog w h₀ l Lg outer kyP okP) 16 s (.func (fnBody w 59) (genv w Lg)) ((model prog w).den (.func (fnBody w 59) (genv w Lg))) [] s := by
  have hseen : SeenIs prog w s.heap Lg (fun _ => false) := ⟨_, hns, .inl ⟨rfl, rfl⟩⟩
  refine seg_func ?_
  refine seg_execs_cons ?_
  refine seg_wrap ?_
  refine wpAny_Assign_Name ?_
  refine eval_call nofun ?_
  refine nm_builtin (v := .type "set") (G₀.keeps hkb) rfl rfl rfl rfl rfl rfl ?_
  refine callWith_type0 ?_
  refine call_set_0 fun led => ?_
  have k1 : Keep s.heap (s.heap.push { cls := .type "set", dict := none, data := .set #[] 0 (.fresh 0 0 led) }) := fun b o e => Heap.get?_push_of_some _ e
  have hsd : s.heap.get? s.heap.objs.size = none := Heap.get?_none_of_le (Nat.le_refl _)
  have hsL : s.heap.objs.size ≠ Lg := fun q => by have := hns.lt; rw [← q] at this; exact Nat.lt_irrefl _ this
  have hS1 : (s.heap.push { cls := .type "set", dict := none, data := .set #[] 0 (.fresh 0 0 led) }).get? s.heap.objs.size = some { cls := .type "set", dict := none, data := .set #[] 0 (.fresh 0 0 led) } := Heap.get?_push_size _ rfl
  generalize s.heap.objs.size = sd at *
  generalize s.heap.push { cls := .type "set", dict := none, data := .set #[] 0 (.fresh 0 0 led) } = h₁ at *
  refine st_local (L := Lg) (hns.keeps k1) rfl fun h₂ ns₂ hs₂ => ?_
  have hS2 : h₂.get? sd = some { cls := .type "set", dict := none, data := .set #[] 0 (.fresh 0 0 led) } := hs₂.extBut _ _ hsL hS1
  have kLg : ∀ b o, h₀.get? b = some o → b ≠ Lg := fun b o e q => by rw [q, hLg] at e; cases e
  have kb₂ : Keep h₀ h₂ := fun b o e => hs₂.extBut b o (kLg b o e) (k1 b o (hkb b o e))
  have hlL : l ≠ Lg := ne_list_ns hl hns
  have hl₂ : h₂.IsList l q.toArray := let ⟨o, ho, r⟩ := hl; ⟨o, hs₂.extBut _ _ hlL (k1 _ _ ho), r⟩
  have kc₂ : KeepC Lg [] s.heap h₂ := (KeepC.of_keep k1).trans (KeepC.of_extBut hs₂.extBut (.inl rfl))
  refine seg_execs_cons ?_
  refine seg_wrap ?_
  refine wpAny_Assign_Name ?_
  refine Attribute_name ?_
  refine nm_local ns₂ rfl rfl rfl ?_
  refine getAttr_add hS2 rfl rfl rfl ?_
  have k3 : Keep h₂ (h₂.push (boundOf "set.add" sd)) := fun b o e => Heap.get?_push_of_some _ e
  have hfL : h₂.objs.size ≠ Lg := fun q => by have := ns₂.lt; rw [← q] at this; exact Nat.lt_irrefl _ this
  have hF3 : (h₂.push (boundOf "set.add" sd)).get? h₂.objs.size = some (boundOf "set.add" sd) := Heap.get?_push_size _ rfl
  generalize h₂.objs.size = fa at *
  generalize h₂.push (boundOf "set.add" sd) = h₃ at *
  refine st_local (L := Lg) (ns₂.keeps k3) rfl fun h₄ ns₄ hs₄ => ?_
  have hS4 := hs₄.extBut _ _ hsL (k3 _ _ hS2)
  have hF4 := hs₄.extBut _ _ hfL hF3
  have kb₄ : Keep h₀ h₄ := fun b o e => hs₄.extBut b o (kLg b o e) (k3 b o (kb₂ b o e))
  have hl₄ : h₄.IsList l q.toArray := let ⟨o, ho, r⟩ := hl₂; ⟨o, hs₄.extBut _ _ hlL (k3 _ _ ho), r⟩
  have kc₄ : KeepC Lg [] s.heap h₄ := kc₂.trans ((KeepC.of_keep k3).trans (KeepC.of_extBut hs₄.extBut (.inl rfl)))
  refine seg_execs_cons ?_
  refine seg_If ?_
  refine wpAny_isTrue_Compare1 ?_
  refine nm_local ns₄ rfl rfl rfl ?_
  refine wpAny_Constant_none ?_
  refine wpAny_is_self rfl ?_
  refine wpAny_truthy_bool ?_
  refine pif_so rfl ?_
  refine seg_execs_cons ?_
  refine seg_For ?_
  refine eval_call nofun ?_
  refine nm_global (v := .ref 47) (G₀.keeps kb₄) rfl rfl rfl rfl ?_
  refine callWith_K (G₀.keeps kb₄).k (keep_47 w) ?_
  refine args_cons ?_
  refine Attribute_name ?_
  refine nm_local ns₄ rfl rfl rfl ?_
  refine getAttr_contains hS4 rfl rfl rfl ?_
  have k5 : Keep h₄ (h₄.push (boundOf "set.__contains__" sd)) := fun b o e => Heap.get?_push_of_some _ e
  have hC5 : (h₄.push (boundOf "set.__contains__" sd)).get? h₄.objs.size = some (boundOf "set.__contains__" sd) := Heap.get?_push_size _ rfl
  generalize h₄.objs.size = fc at *
  generalize h₄.push (boundOf "set.__contains__" sd) = h₅ at *
  have ns₅ := ns₄.keeps k5
  have kb₅ := Keep.trans kb₄ k5
  refine args_cons ?_
  refine nm_local ns₅ rfl rfl rfl ?_
  refine args_nil ?_
  refine ⟨(G₀.keeps kb₅).k, ?_⟩
  have hl₅ := isList_keeps hl₄ k5
  refine make_ff (G₀.keeps kb₅) (by show A.depth + 0 + 1 < 900; omega) hl₅ fun h₆ tk x dx It k6 hF6 hI6 hxn hIn => ?_
  have kb₆ := Keep.trans kb₅ k6
  refine iter_ff_self (G₀.keeps kb₆) (by show A.depth + 0 + 1 < 900; omega) hF6 fun h₇ tk₇ k7 p => ?_
  have k57 := Keep.trans k6 k7
  have kb₇ := Keep.trans kb₆ k7
  have ns₇ := ns₅.keeps k57
  have kc₇ : KeepC Lg [] s.heap h₇ := kc₄.trans ((KeepC.of_keep k5).trans (KeepC.of_keep k57))
  have hl₇ := isList_keeps hl₅ k57
  have hS₇ : h₇.SetOf (stopKind prog w) sd (fun _ => false) 0 := ⟨_, #[], 0, .fresh 0 0 led, k57 _ _ (k5 _ _ hS4), ⟨rfl, rfl, rfl⟩, rfl, fun e he => absurd he (by simp), fun k => ⟨fun z => (by cases z), fun ⟨e, he, _⟩ => absurd he (by simp)⟩, by decide, by first | rfl | (cases led <;> rfl) | decide, rfl⟩
  have hPL : PL prog w l Lg sd fa fc x dx It (fun _ => false) 0 0 h₇ := ⟨⟨_, ns₇, rfl, rfl⟩, k57 _ _ (k5 _ _ hF4), k57 _ _ hC5, hF6.keeps k7, iter_keeps hI6 k7, hS₇⟩
  have hn0 : ∀ {b : Addr} {h : Heap}, Keep h₀ h → h.get? b = none → h₀.get? b = none := fun k e => none_older k e
  refine loop_plain (A := A.in1) G₀ hLg (hn0 hkb hsd) (hn0 kb₅ hIn) ?_ ?_ ?_ ?_ ?_ ?_ 16 s h₇ tk₇ (fun _ => false) 0 0 q rem_zero (by omega) hseen hl hst kc₇ kb₇ ?_ hPL (Nat.zero_le _) (fun k u a _ => absurd a (Nat.not_lt_zero _)) hl₇
  · rw [over_for]; exact hh
  · rw [over_for]; show A.depth + (1 + 0) + 0 < 850; omega
  · rw [over_for]; show A.frames.map _ = _; rw [hfr]; rfl
  · rfl
  · rfl
  · intro n s₀ s' hR
    refine seg_leaf (.ok .next) ?_
    exact seg_end (.ok (.ret .none)) hR
  · refine hfa.step (fun b o hb e => ?_) ns₇
    exact k57 _ _ (k5 _ _ (hs₄.extBut b o hb (k3 _ _ (hs₂.extBut b o hb (k1 _ _ e)))))
end
end Mine
end

section
open PySem
namespace Mine
section
variable {α : Type} {key : α → Int} {next : α → List α} {x0 : α}

/-- a walk by a queue, half done -/
structure GMath (key : α → Int) (next : α → List α) (x0 : α) (T Q : List α) : Prop where
  nodup : KNodup key T
  qeq : Q = x0 :: T.flatMap next
  bfs : ∃ d p, Q = d ++ p ∧ (∀ u ∈ d, hasK key T (key u) = true) ∧ ∀ R, Bfs key next T p R → Bfs key next [] [x0] R

theorem GMath.start : GMath key next x0 [] [x0] := ⟨by simp [KNodup], rfl, [], [x0], rfl, (fun _ h => nomatch h), fun _ h => h⟩

theorem Bfs.skips {T : List α} {q R : List α} : ∀ {sk : List α}, (∀ u ∈ sk, hasK key T (key u) = true) → Bfs key next T q R → Bfs key next T (sk ++ q) R
  | [], _, h => h
  | _ :: _, hs, h => .skip (hs _ (List.mem_cons_self ..)) (Bfs.skips (fun u hu => hs u (List.mem_cons_of_mem _ hu)) h)

theorem GMath.step {T Q : List α} (M : GMath key next x0 T Q) {j : Nat} {v : α} (hv : Q[j]? = some v) (hf : hasK key T (key v) = false) (hb : ∀ (k : Nat) u, k < j → Q[k]? = some u → hasK key T (key u) = true) :
    GMath key next x0 (T ++ [v]) (Q ++ next v) := by
  obtain ⟨hn, hq, d, p, hQ, hd, hB⟩ := M
  have hjl : j < Q.length := (List.getElem?_eq_some_iff.mp hv).1
  have hdj : d.length ≤ j := by
    rcases Nat.lt_or_ge j d.length with h | h
    · rw [hQ, List.getElem?_append_left h] at hv
      have := hd v (List.mem_of_getElem? hv)
      rw [hf] at this; cases this
    · exact h
  have hp : p = (Q.drop d.length).take (j - d.length) ++ v :: (Q.drop (j + 1)) := by
    have e1 : Q.drop d.length = p := by rw [hQ]; simp
    rw [e1]
    have hpv : p[j - d.length]? = some v := by rw [← e1, List.getElem?_drop]; rw [show d.length + (j - d.length) = j by omega]; exact hv
    have hlt := (List.getElem?_eq_some_iff.mp hpv).1
    have e2 : Q.drop (j + 1) = p.drop (j - d.length + 1) := by rw [← e1, List.drop_drop]; congr 1; omega
    rw [e2]
    have e3 : p.drop (j - d.length) = v :: p.drop (j - d.length + 1) := by
      rw [List.drop_eq_getElem_cons hlt]
      rw [(List.getElem?_eq_some_iff.mp hpv).2]
    rw [← e3, List.take_append_drop]
  have hmono : ∀ u, hasK key T (key u) = true → hasK key (T ++ [v]) (key u) = true := fun u h => by rw [hasK_append, h]; rfl
  refine ⟨hn.snoc hf, by rw [hq]; simp, d ++ ((Q.drop d.length).take (j - d.length) ++ [v]), Q.drop (j + 1) ++ next v, ?_, fun u hu => ?_, fun R hR => hB R ?_⟩
  · conv => lhs; rw [hQ, hp]
    simp
  · rcases List.mem_append.mp hu with hu | hu
    · exact hmono u (hd u hu)
    · rcases List.mem_append.mp hu with hu | hu
      · obtain ⟨k, hk⟩ := List.getElem?_of_mem hu
        have hkl : k < j - d.length := by
          have := (List.getElem?_eq_some_iff.mp hk).1
          rw [List.length_take] at this
          omega
        rw [List.getElem?_take_of_lt hkl, List.getElem?_drop] at hk
        exact hmono u (hb _ u (by omega) hk)
      · rw [List.mem_singleton.mp hu, hasK_append]; simp [hasK]
  · rw [hp]
    refine Bfs.skips (fun u hu => ?_) (.take hf hR)
    obtain ⟨k, hk⟩ := List.getElem?_of_mem hu
    have hkl : k < j - d.length := by
      have := (List.getElem?_eq_some_iff.mp hk).1
      rw [List.length_take] at this
      omega
    rw [List.getElem?_take_of_lt hkl, List.getElem?_drop] at hk
    exact hb _ u (by omega) hk

theorem GMath.ends {T Q : List α} (M : GMath key next x0 T Q) (hb : ∀ u ∈ Q, hasK key T (key u) = true) : Bfs key next [] [x0] T := by
  obtain ⟨_, _, d, p, hQ, _, hB⟩ := M
  refine hB T ?_
  have := Bfs.skips (next := next) (q := []) (R := T) (sk := p) (fun u hu => hb u (by rw [hQ]; exact List.mem_append_right _ hu)) .done
  rwa [List.append_nil] at this
end
end Mine
end

noncomputable section
open PySem PySem.W PySem.Calls PyProof.Rows
set_option maxRecDepth 100000
namespace Mine

theorem hasK_one (v : Value) (k : Int) : hasK skey [v] k = decide (k = skey v) := by
  simp only [hasK, List.any_cons, List.any_nil, Bool.or_false]
  by_cases q : k = skey v
  · subst q; simp
  · rw [decide_eq_false q, beq_eq_false_iff_ne]; exact fun z => q z.symm
theorem KeepC.ns {Lg L : Addr} {Ls : List Addr} {h h' : Heap} {m : Str → Option Value} (k : KeepC Lg Ls h h') (hne : L ≠ Lg) (n : h.Ns L m) : h'.Ns L m := by
  obtain ⟨o, es, p, ho, hd, r⟩ := n
  obtain ⟨_, sl, e⟩ := k _ _ hne (by unfold mod; rw [hd]) ho
  exact ⟨_, es, p, e, hd, r⟩
theorem KeepC.isList {Lg l : Addr} {Ls : List Addr} {h h' : Heap} {xs : Array Value} (k : KeepC Lg Ls h h') (hne : l ≠ Lg) (n : h.IsList l xs) : h'.IsList l xs := by
  obtain ⟨o, ho, hc, q, hd⟩ := n
  obtain ⟨_, sl, e⟩ := k _ _ hne (by unfold mod; rw [hd]) ho
  exact ⟨_, e, hc, q, hd⟩
theorem KeepC.plain {Lg l : Addr} {h h' : Heap} {xs : Array Value} (k : KeepC Lg [] h h') (hne : l ≠ Lg) (n : h.PlainList l xs) : h'.PlainList l xs := by
  obtain ⟨q, ho⟩ := n
  exact ⟨q, (k _ _ hne rfl ho).1 List.not_mem_nil⟩
theorem FrAll.keepC {Lg : Addr} {Ls : List Addr} {h h' : Heap} {l : List Env} (x : FrAll h l) (k : KeepC Lg Ls h h') (hn : Lg ∉ locs l) (hm : ∀ env ∈ l, ∀ L o, env.frame = some L → h.get? L = some o → mod o = false) : FrAll h' l := fun env he => by
  obtain ⟨a, L, o, hf, ho, hd⟩ := x env he
  obtain ⟨_, sl, e⟩ := k L o (fun q => hn (List.mem_filterMap.mpr ⟨env, he, by rw [hf, q]⟩)) (hm env he L o hf ho) ho
  exact ⟨a, L, _, hf, e, hd⟩

def GenTail (a b : Array GenState) : Prop := b.size = a.size + 1 ∧ ∀ k, k < a.size → b[k]? = a[k]?
theorem GenTail.push (a : Array GenState) (x : GenState) : GenTail a (a.push x) := ⟨by simp, fun k hk => by rw [Array.getElem?_push_lt hk, Array.getElem?_eq_getElem hk]⟩
theorem GenTail.only {a b c : Array GenState} (x : GenTail a b) (y : GenOnly a.size b c) : GenTail a c := ⟨y.1.trans x.1, fun k hk => (y.2 k (Nat.ne_of_lt hk)).trans (x.2 k hk)⟩
theorem GenTail.bare {a b : Array GenState} (x : GenTail a b) (hf : b[a.size]? = some .finished) (ha : AllBare a) : AllBare b := by
  intro y hy
  obtain ⟨i, hi, rfl⟩ := Array.mem_iff_getElem.mp hy
  by_cases e : i = a.size
  · subst e
    rw [Array.getElem?_eq_getElem hi] at hf
    rw [Option.some.inj hf]; rfl
  · have hlt : i < a.size := by have := x.1; omega
    have h1 := x.2 i hlt
    rw [Array.getElem?_eq_getElem hi, Array.getElem?_eq_getElem hlt] at h1
    rw [Option.some.inj h1]; exact ha _ (Array.getElem_mem hlt)

section
variable {prog : Program} {w : World} {A : Around} {E : Value → Shared → Prop} {s : Shared}

theorem ext_ns {h : Heap} {L : Addr} {m : Str → Option Value} {x : Str} {v : Value} (n : h.Ns L m) (hv : m x = some v) : ∀ o, h.get? L = some o → ext o = true := by
  intro o ho
  obtain ⟨o', es, p, ho', hd, _, hf⟩ := n
  rw [ho] at ho'; cases ho'
  unfold ext
  rw [hd]
  have : es.isEmpty = false := by
    cases q : es.isEmpty with
    | false => rfl
    | true =>
      have e : es = #[] := by simpa using q
      have := hf x
      rw [e, hv] at this; cases this
  show (_ || !es.isEmpty) = true
  rw [this]; simp
theorem ext_list {h : Heap} {l : Addr} {xs : Array Value} (n : h.IsList l xs) : ∀ o, h.get? l = some o → ext o = true := by
  intro o ho
  obtain ⟨o', ho', hc, q, hd⟩ := n
  rw [ho] at ho'; cases ho'
  unfold ext; rw [hd]; simp
theorem ne_list_gen {h : Heap} {l ga : Addr} {g : Nat} {xs : Array Value} (n : h.IsList l xs) (y : h.IsGen ga g) : l ≠ ga := fun q => by
  obtain ⟨o', ho', hc, _, hd⟩ := n
  obtain ⟨o, nm, qn, ho, _, hd', _⟩ := y
  rw [← q, ho'] at ho; cases ho; rw [hd] at hd'; cases hd'
theorem ne_ns_gen {h : Heap} {L ga : Addr} {g : Nat} {m : Str → Option Value} (n : h.Ns L m) (y : h.IsGen ga g) : L ≠ ga := fun q => by
  obtain ⟨o', es, p, ho', hd, _⟩ := n
  obtain ⟨o, nm, qn, ho, _, hd', _⟩ := y
  rw [← q, ho'] at ho; cases ho; rw [hd] at hd'; cases hd'
theorem Waits.extBut {h₀ : Heap} {l Lg : Addr} {outer : List Env} {ky : Heap → Value → Int} {okv : Heap → Value → Prop} {ga X : Addr} {g : Nat} {S : Int → Bool} {q : List Value} {kq : Value → Int} (W : Waits prog w h₀ l Lg outer ky okv A ga g S q kq s) {h' : Heap} {tk : Tok}
    (k : Heap.ExtBut X s.heap h') (hX : ∀ o, s.heap.get? X = some o → ext o = true) (hL : X ≠ Lg) (hg : X ≠ ga) : Waits prog w h₀ l Lg outer ky okv A ga g S q kq { s with heap := h', toks := tk } :=
  W.keeps fun b o hb e => k b o (fun q => by
    rcases hb with z | z | z
    · rw [hX o (q ▸ e)] at z; cases z
    · exact hL (q.symm.trans z)
    · exact hg (q.symm.trans z)) e
theorem Waits.keep {h₀ : Heap} {l Lg : Addr} {outer : List Env} {ky : Heap → Value → Int} {okv : Heap → Value → Prop} {ga : Addr} {g : Nat} {S : Int → Bool} {q : List Value} {kq : Value → Int} (W : Waits prog w h₀ l Lg outer ky okv A ga g S q kq s) {h' : Heap} {tk : Tok}
    (k : Keep s.heap h') : Waits prog w h₀ l Lg outer ky okv A ga g S q kq { s with heap := h', toks := tk } := W.keeps fun b o _ e => k b o e

abbrev penv (w : World) (Lp : Addr) : Env := callEnvC (fnAt w 83) Lp 83

structure PSt (prog : Program) (w : World) (A : Around) (s : Shared) (l : Addr) (outer : List Env) (Lp Lg Qa Ta ga : Addr) (T Q : List Value) (m : Str → Option Value) (s' : Shared) : Prop where
  ns : s'.heap.Ns Lp m
  mw : m "walk" = some (.ref l)
  mt : m "told" = some (.ref Ta)
  mq : m "queue" = some (.ref Qa)
  told : s'.heap.PlainList Ta T.toArray
  queue : s'.heap.PlainList Qa Q.toArray
  base : Keep s.heap s'.heap
  waits : ∃ q q', Q = q ++ q' ∧ Waits prog w s.heap Qa Lg (penv w Lp :: outer) kyP okP A ga s.gens.size (fun k => hasK skey T k) q (fun v => skey v) s'
  gens : GenTail s.gens s'.gens

set_option maxHeartbeats 4000000 in
theorem plain_spec {R : Result → Shared → Prop} {l : Addr} {ws : List Value} {outer : List Env} (G : Gd w s.heap) (hh : A.handled = none) (hd : A.depth < 700) (hu : A.units < 5000) (hfr : A.frames = some outer) (hfa : FrAll s.heap outer)
    (hl : s.heap.IsList l ws.toArray) (h1 : 1 ≤ ws.length) (h2 : ws.length ≤ 25) (hw : ∀ v ∈ ws, IsStop v)
    (h : ∀ h' tk gens' tu Ta Qa T, KeepF (locs outer) s.heap h' → (AllBare s.gens → AllBare gens') → h'.get? tu = some { cls := .type "tuple", data := .seq #[.ref Ta, .ref Qa] } → h'.IsList Ta T.toArray → h'.IsList Qa (ws.getD 0 .none :: T.flatMap (aft ws)).toArray →
      Bfs skey (aft ws) [] [ws.getD 0 .none] T → R (.ok (.ret (.ref tu))) { s with heap := h', toks := tk, gens := gens' }) :
    codeAny (model prog w) A (.call (.ref 83) ⟨[.ref l], []⟩) R s := by
  have hw0 : ws.getD 0 .none ∈ ws := getD_mem (by omega)
  refine call_fn (w := w) (f := 83) (binds := [("walk", .ref l)]) G (by show A.depth < 1000; omega) rfl rfl rfl rfl rfl rfl rfl fun h₁ tk F₁ _ G₁ => ?_
  have hLn : s.heap.get? s.heap.objs.size = none := Heap.get?_none_of_le (Nat.le_refl _)
  have k1 : Keep s.heap h₁ := F₁.keep
  have ns1 := F₁.ns
  generalize s.heap.objs.size = Lp at *
  have hsL : ∀ b o, s.heap.get? b = some o → b ≠ Lp := fun b o e q => by rw [q, hLn] at e; cases e
  have hl1 := isList_keeps hl k1
  refine wpAny_execs_cons ?_
  refine wpAny_Assign_Name ?_
  refine PyProof.Rows.List_ ?_
  refine args_cons ?_
  refine Subscript_ ?_
  refine nm_local ns1 rfl rfl rfl ?_
  refine wpAny_Constant_int ?_
  refine item_list hl1 (k := 0) (by omega) rfl (by omega) ?_
  refine args_nil ?_
  refine new_list (by simp) fun Qa h₂ hQ _ k₂ hQl => ?_
  have hQn : h₁.get? Qa = none := none_of_ge (Nat.le_of_eq hQ.symm)
  refine st_local (L := Lp) (ns1.keeps k₂) rfl fun h₃ ns₃ hs₃ => ?_
  have hQL : Qa ≠ Lp := ne_list_ns hQl.isList (ns1.keeps k₂)
  have hQl₃ := hQl.extBut hs₃.extBut hQL
  have k₃ : Keep s.heap h₃ := fun b o e => hs₃.extBut b o (hsL b o e) (k₂ b o (k1 b o e))
  refine wpAny_execs_cons ?_
  refine wpAny_Assign_Name ?_
  refine PyProof.Rows.List_ ?_
  refine args_nil ?_
  refine new_list (by simp) fun Ta h₄ hT _ k₄ hTl => ?_
  have hTn : h₃.get? Ta = none := none_of_ge (Nat.le_of_eq hT.symm)
  refine st_local (L := Lp) (ns₃.keeps k₄) rfl fun h₅ ns₅ hs₅ => ?_
  have hTL : Ta ≠ Lp := ne_list_ns hTl.isList (ns₃.keeps k₄)
  have hTl₅ := hTl.extBut hs₅.extBut hTL
  have hQl₅ := (plain_keeps hQl₃ k₄).extBut hs₅.extBut hQL
  have k₅ : Keep s.heap h₅ := fun b o e => hs₅.extBut b o (hsL b o e) (k₄ b o (k₃ b o e))
  have hQT : Qa ≠ Ta := ne_list_none hQl₃.isList hTn
  have hQs : s.heap.get? Qa = none := none_older k1 hQn
  have hTs : s.heap.get? Ta = none := none_older k₃ hTn
  refine wpAny_execs_cons ?_
  refine wpAny_For ?_
  refine eval_call nofun ?_
  refine nm_global (v := .ref 59) (G.keeps k₅) rfl rfl rfl rfl ?_
  refine callWith_K (G.keeps k₅).k (keep_59 w) ?_
  refine args_cons ?_
  refine nm_local ns₅ rfl rfl rfl ?_
  refine args_nil ?_
  refine ⟨(G.keeps k₅).k, wpAny_call (call_gen (G.keeps k₅) (by show A.depth + 1 < 1000; omega) (binds_plain w _) fun h₆ tk₆ Lg ga k₆ hLg hga hgL ns₆ hgen => ?_)⟩
  refine wpAny_pyIter_gen hgen ?_
  have hLp : Lp ≠ Lg := fun q => by obtain ⟨o, es, p, ho, _⟩ := ns₅; rw [q, hLg] at ho; cases ho
  have hpk : (penv w Lp).scope.kind ≠ .module := by show (fnAt w 83).scope.kind ≠ _; rw [show (fnAt w 83).scope.kind = .function from rfl]; decide
  have hLgs : s.heap.get? Lg = none := none_older k₅ hLg
  have hfrA : (A.deeper (penv w Lp)).frames = some (penv w Lp :: outer) := Around.frames_deeper hfr
  have hhA : (A.deeper (penv w Lp)).handled = none := hh
  have hdA : (A.deeper (penv w Lp)).depth < 800 := by show A.depth + 1 < 800; omega
  have hsL6 : Keep s.heap h₆ := Keep.trans k₅ k₆
  have hW : Waits prog w s.heap Qa Lg (penv w Lp :: outer) kyP okP (A.deeper (penv w Lp)) ga s.gens.size (fun k => hasK skey [] k) [] (fun v => skey v)
      { s with heap := h₆, toks := tk₆, gens := s.gens.push (.fresh (.func (fnBody w 59) (genv w Lg))) } := by
    refine ⟨hgen, 17, _, (fun h => h.Ns Lg _), Array.getElem?_push_size .., fun h h' hi k => ?_, ns₆, fun h hi => ⟨_, hi, .inl ⟨rfl, by funext k; rfl⟩⟩, fun s'' RP => ?_⟩
    · obtain ⟨o, es, p, ho, r⟩ := hi
      exact ⟨o, es, p, k _ _ (.inr rfl) ho, r⟩
    · obtain ⟨q', hq, hok, _⟩ := RP.queue
      exact ⟨rfl, start_plain G hLgs hhA hdA hfrA RP.inv RP.base RP.fr hq hok⟩
  refine codeAny_forLoop (fun k s' => ∃ h' tk' gs' m T Q, s' = { s with heap := h', toks := tk', gens := gs' } ∧ PSt prog w (A.deeper (penv w Lp)) s l outer Lp Lg Qa Ta ga T Q m s' ∧ GMath skey (aft ws) (ws.getD 0 .none) T Q ∧
    (∀ v ∈ T, v ∈ ws) ∧ k = ws.length + 1 - T.length) ?_ _ ⟨h₆, tk₆, _, _, [], [ws.getD 0 .none], rfl,
      { ns := ns₅.keeps k₆, mw := rfl, mt := rfl, mq := rfl, told := plain_keeps hTl₅ k₆, queue := plain_keeps hQl₅ k₆, base := hsL6, waits := ⟨[], _, rfl, hW⟩, gens := GenTail.push _ _ }, GMath.start, (fun _ h => nomatch h), rfl⟩
  rintro k s' ⟨h', tk', gs', m, T, Q, rfl, P, M, hTw, rfl⟩
  have hTlen : T.length ≤ ws.length := M.nodup.le fun x hx => ⟨x, hTw x hx, rfl⟩
  have hQw : ∀ u ∈ Q, u ∈ ws := fun u hu => by
    rw [M.qeq] at hu
    rcases List.mem_cons.mp hu with q | q
    · rw [q]; exact hw0
    · obtain ⟨z, _, hz⟩ := List.mem_flatMap.mp q; exact aft_sub hz
  have hQlen : Q.length ≤ 626 := by
    rw [M.qeq, List.length_cons]
    have e1 := flatMap_len (ws := ws) T
    have e3 : T.length * ws.length ≤ 25 * 25 := Nat.mul_le_mul (by omega) h2
    omega
  obtain ⟨q, q', hqq, W⟩ := P.waits
  subst hqq
  have hgen' := W.1
  refine gen_next hhA (G.keeps P.base).nl (by show A.depth + 1 < 1000; omega) W P.base ((hfa.keeps P.base).cons hpk rfl P.ns) hgL P.queue.isList (fun u hu => hw u (hQw u hu)) (fun _ _ => rfl) (fun j v ha tka gsa hv hS hb KC KB GO WA => ?_) (fun ha tka gsa hall KC KF GO hfin => ?_)
  · have hvw : v ∈ ws := hQw v (List.mem_of_getElem? hv)
    have hvs := hw v hvw
    have M' := M.step hv hS hb
    have hTw' : ∀ u ∈ T ++ [v], u ∈ ws := fun u hu => by
      rcases List.mem_append.mp hu with hu | hu
      · exact hTw u hu
      · rw [List.mem_singleton.mp hu]; exact hvw
    have hlen' : (T ++ [v]).length ≤ ws.length := M'.nodup.le fun x hx => ⟨x, hTw' x hx, rfl⟩
    have nsa := KC.ns hLp P.ns
    have hTg : Ta ≠ Lg := fun z => by obtain ⟨o, ho, _⟩ := hTl₅.isList; rw [z, hLg] at ho; cases ho
    have hQg : Qa ≠ Lg := fun z => by obtain ⟨o, ho, _⟩ := hQl₅.isList; rw [z, hLg] at ho; cases ho
    have ta := KC.plain hTg P.told
    have qa := KC.plain hQg P.queue
    have ga1 := WA.1
    show wpAny _ _ (assign _ _ v) _ _ _
    refine wpAny_assign_Name (st_local (L := Lp) nsa rfl fun hb' nsb hsb => ?_)
    have tb := ta.extBut hsb.extBut hTL
    have qb := qa.extBut hsb.extBut hQL
    have Wb := WA.extBut (h' := hb') (tk := tka + 1) hsb.extBut (ext_ns nsa P.mw) hLp (ne_ns_gen nsa ga1)
    have kb : Keep s.heap hb' := fun b o e => hsb.extBut b o (hsL b o e) (KB b o e)
    refine wpAny_execs_cons ?_
    refine stmt_append ?_
    refine nm_local nsb rfl rfl P.mt ?_
    refine ⟨Ta, _, rfl, tb, ?_⟩
    refine nm_local nsb rfl rfl rfl ?_
    refine ⟨T, tb, by omega, fun hc tc hsc => ?_⟩
    have nsc := nsb.sameBut hsc (Ne.symm hTL)
    have qc := qb.extBut hsc.extBut hQT
    have Wc := Wb.extBut (h' := hc) (tk := tka + 1) hsc.extBut (ext_list tb.isList) hTg (ne_list_gen tb.isList Wb.1)
    have kc : Keep s.heap hc := fun b o e => hsc.extBut b o (fun z => by rw [z, hTs] at e; cases e) (kb b o e)
    refine wpAny_execs_cons ?_
    refine stmt_extend ?_
    refine nm_local nsc rfl rfl P.mq ?_
    refine ⟨Qa, _, rfl, qc, ?_⟩
    refine eval_call nofun ?_
    refine nm_global (v := .ref 71) (G.keeps kc) rfl rfl rfl rfl ?_
    refine callWith_top rfl rfl ?_
    refine args_cons ?_
    refine nm_local nsc rfl rfl P.mw ?_
    refine args_cons ?_
    refine nm_local nsc rfl rfl rfl ?_
    refine args_nil ?_
    refine ⟨G.keeps kc, wpAny_call (after_spec (G.keeps kc) hh (by show A.depth + 1 < 900; omega) (isList_keeps hl kc) h1 h2 hw hvs fun hd' tkd a kd _ hal => ?_)⟩
    have Wd := Wc.keep (h' := hd') (tk := tkd) kd
    refine ⟨a, _, _, rfl, plain_keeps qc kd, hal, by omega, ?_, fun he pe hse => ?_⟩
    · have := aft_len ws v; omega
    · have qd := plain_keeps qc kd
      have We := Wd.extBut (h' := he) (tk := tkd) hse.extBut (ext_list qd.isList) hQg (ne_list_gen qd.isList Wd.1)
      refine wpAny_execs_nil ?_
      refine ⟨ws.length + 1 - (T ++ [v]).length, ?_, he, _, gsa, (fun y => if y = ("stop" : Str) then some v else m y), T ++ [v], (q ++ q') ++ aft ws v, rfl, ?_, M', hTw', rfl⟩
      · rw [List.length_append] at hlen' ⊢
        simp only [List.length_singleton] at hlen' ⊢
        omega
      · exact { ns := (nsc.keeps kd).sameBut hse (Ne.symm hQL), mw := P.mw, mt := P.mt, mq := P.mq
                told := (plain_keeps tc kd).extBut hse.extBut (Ne.symm hQT), queue := pe
                base := fun b o e => hse.extBut b o (fun z => by rw [z, hQs] at e; cases e) (kd b o (kc b o e))
                waits := ⟨q ++ q', aft ws v, rfl, by
                  have e : (fun k => hasK skey (T ++ [v]) k) = fun k => hasK skey T k || decide (k = kyP h' v) := by
                    funext k; rw [hasK_append]; congr 1; exact hasK_one _ _
                  rw [e]; exact We⟩
                gens := P.gens.only GO }
  · have hTg : Ta ≠ Lg := fun z => by obtain ⟨o, ho, _⟩ := hTl₅.isList; rw [z, hLg] at ho; cases ho
    have hQg : Qa ≠ Lg := fun z => by obtain ⟨o, ho, _⟩ := hQl₅.isList; rw [z, hLg] at ho; cases ho
    have nsa := KC.ns hLp P.ns
    have ta := KC.isList hTg P.told.isList
    have qa := KC.isList hQg P.queue.isList
    refine wpAny_execs_nil ?_
    refine wpAny_execs_cons ?_
    refine wpAny_Return_some ?_
    refine wpAny_Tuple ?_
    refine args_cons ?_
    refine nm_local nsa rfl rfl P.mt ?_
    refine args_cons ?_
    refine nm_local nsa rfl rfl P.mq ?_
    refine args_nil ?_
    refine ⟨by simp [sizeLine_eq], ?_⟩
    have kp : Keep ha (ha.push { cls := .type "tuple", data := .seq #[.ref Ta, .ref Qa] }) := fun b o e => Heap.get?_push_of_some _ e
    refine h _ _ _ ha.objs.size Ta Qa T ?_ (fun hbare => ((P.gens.only GO).bare hfin hbare)) (Heap.get?_push_size _ rfl) (isList_keeps ta kp) (isList_keeps ?_ kp) (M.ends fun u hu => hall u hu)
    · have hlc : locs (penv w Lp :: outer) = Lp :: locs outer := rfl
      rw [hlc] at KF
      refine KeepF.trans ⟨fun b o hb e => KF.1 b o (fun z => ?_) e, fun b o e => KF.2 b o e⟩ (Keep.keepF kp _)
      rcases List.mem_cons.mp z with z | z
      · exact hsL b o e z
      · exact hb z
    · rw [← M.qeq]; exact qa
end
end Mine
end

noncomputable section
open PySem PySem.W PySem.Calls PyProof.Rows
set_option maxRecDepth 100000
namespace Mine

def rowHead (h : Heap) : Value → Value
  | .ref a => match h.get? a with
    | some o => (match o.data with | .seq xs _ => xs.getD 0 .none | _ => .none)
    | none => .none
  | _ => .none
def RowOk (h : Heap) (v : Value) : Prop := ∃ a xs, v = .ref a ∧ h.IsList a xs ∧ IsStop (xs.getD 0 .none) ∧ xs.size ≤ 100
theorem rowHead_of {h : Heap} {a : Addr} {xs : Array Value} (hl : h.IsList a xs) : rowHead h (.ref a) = xs.getD 0 .none := by
  obtain ⟨o, ho, _, n, hd⟩ := hl
  simp only [rowHead, ho, hd]
abbrev kyK : Heap → Value → Int := fun h v => skey (rowHead h v)

def keyBody (w : World) : List Stmt := match fnBody w 59 with
  | [_, _, .If _ _ [.For _ _ b _ _] _] => b
  | _ => []

section
variable {prog : Program} {w : World} {A : Around} {E : Value → Shared → Prop} {s : Shared}

/-- what the generator with a key has between two wakings -/
def KL (prog : Program) (w : World) (l Lg sd fa fk It : Addr) (S : Int → Bool) (c i : Nat) (h : Heap) : Prop :=
  (∃ m, h.Ns Lg m ∧ m "seen" = some (.ref sd) ∧ m "seen_add" = some (.ref fa) ∧ m "key" = some (.ref fk)) ∧ h.get? fa = some (boundOf "set.add" sd) ∧ h.IsListIter It l i ∧ h.SetOf (stopKind prog w) sd S c

theorem KL.stable {l Lg sd fa fk It : Addr} {S : Int → Bool} {c i : Nat} : Stable Lg (KL prog w l Lg sd fa fk It S c i) := by
  rintro h h' ⟨⟨m, hn, hm⟩, ha, hI, hS⟩ k
  refine ⟨⟨m, ?_, hm⟩, k _ _ (.inl rfl) ha, ?_, ?_⟩
  · obtain ⟨o, es, p, ho, r⟩ := hn
    exact ⟨o, es, p, k _ _ (.inr rfl) ho, r⟩
  · have e := ext_iter hI
    obtain ⟨o, ho, r⟩ := hI
    exact ⟨o, k _ _ (.inl (e o ho)) ho, r⟩
  · have e := ext_set hS
    obtain ⟨o, es, ep, t, ho, r⟩ := hS
    exact ⟨o, es, ep, t, k _ _ (.inl (e o ho)) ho, r⟩
theorem KL.seen {l Lg sd fa fk It : Addr} {S : Int → Bool} {c i : Nat} {h : Heap} (P : KL prog w l Lg sd fa fk It S c i h) : SeenIs prog w h Lg S := by
  obtain ⟨⟨m, hn, hm1, _⟩, _, _, hS⟩ := P
  exact ⟨m, hn, .inr ⟨sd, c, hm1, hS⟩⟩

def fkind (o : Obj) : Bool := match o.data with | .func .. | .fields .. => true | _ => false
/-- the key function: what it is, and what a call of it gives -/
structure KeyFn (prog : Program) (w : World) (fk : Addr) (KF : Heap → Prop) : Prop where
  obj : ∃ o fd, o.data = .func fd ∧ ∀ h, KF h → h.get? fk = some o
  keepC : ∀ {Lg m h h'}, KF h → h.Ns Lg m → KeepC Lg [] h h' → KF h'
  keepB : ∀ {h h'}, KF h → (∀ b o, fkind o = true → h.get? b = some o → h'.get? b = some o) → KF h'
  run : ∀ {A : Around} {E : Value → Shared → Prop} {s : Shared} {Q : Value → Shared → Prop} {a : Addr} {xs : Array Value}, A.depth < 900 → Gd w s.heap → KF s.heap → s.heap.IsList a xs → IsStop (xs.getD 0 .none) → xs.size ≤ 100 →
    (∀ h' tk, Keep s.heap h' → Q (xs.getD 0 .none) { s with heap := h', toks := tk }) → wpAny (model prog w) A (call (.ref fk) [.ref a]) Q E s

set_option maxHeartbeats 4000000 in
theorem loop_key {fs : List Frame} {h₀ : Heap} {l Lg sd fa fk It : Addr} {outer : List Env} {px : Pos} {KF : Heap → Prop} (G₀ : Gd w h₀) (hLg : h₀.get? Lg = none) (hsd : h₀.get? sd = none) (hIt : h₀.get? It = none) (hK : KeyFn prog w fk KF)
    (hh : (A.over (.forLoop (.Name "element" px) (.ref It) (keyBody w) [] (genv w Lg)) fs).handled = none) (hd : (A.over (.forLoop (.Name "element" px) (.ref It) (keyBody w) [] (genv w Lg)) fs).depth < 850)
    (hfs : splitAtGen fs = none) (hfg : fs.any Frame.guarded = false)
    (hend : ∀ n s₀ s', Rg prog w h₀ l Lg outer kyK n s₀ (.ok (.ret .none)) s' → Seg (model prog w) A (Rg prog w h₀ l Lg outer kyK) (Yg prog w h₀ l Lg outer kyK (fun h v => RowOk h v ∧ KF h)) n s₀ (.block [] (genv w Lg)) (leafOf (.ok .next)) fs s') :
    ∀ (n r : Nat) (s₀ : Shared) (h : Heap) (tk : Tok) (S : Int → Bool) (c i : Nat) (q : List Value), r = q.length - i → rem S ≤ n → c + n ≤ 16 → SeenIs prog w s₀.heap Lg S → s₀.heap.IsList l q.toArray → (∀ u ∈ q, RowOk s₀.heap u ∧ KF s₀.heap) → KeepC Lg [] s₀.heap h → Keep h₀ h →
      (∃ m₀, s₀.heap.Ns Lg m₀) → KL prog w l Lg sd fa fk It S c i h → i ≤ q.length → (∀ (k : Nat) u, k < i → q[k]? = some u → S (kyK s₀.heap u) = true) → h.IsList l q.toArray →
      Seg (model prog w) A (Rg prog w h₀ l Lg outer kyK) (Yg prog w h₀ l Lg outer kyK (fun h v => RowOk h v ∧ KF h)) n s₀ (.forLoop (.Name "element" px) (.ref It) (keyBody w) [] (genv w Lg)) ((model prog w).den (.forLoop (.Name "element" px) (.ref It) (keyBody w) [] (genv w Lg))) fs { s₀ with heap := h, toks := tk } := by
  intro n
  induction n using Nat.strongRecOn with
  | ind n ih =>
  intro r
  induction r using Nat.strongRecOn with
  | ind r ihr =>
  intro s₀ h tk S c i q hr hrem hcn hseen hl0 hok hkc hkb hn0 hPL hiq hin hl
  have hPL0 := hPL
  obtain ⟨⟨m, hns, hm1, hm2, hm3⟩, hfaA, hI, hS⟩ := hPL
  have hIL : It ≠ Lg := Ne.symm (ne_ns_iter hns hI)
  have hsI : sd ≠ It := ne_set_iter hS hI
  have hsL : sd ≠ Lg := ne_set_ns hS hns
  have hlI : l ≠ It := ne_list_iter hl hI
  have hlL : l ≠ Lg := ne_list_ns hl hns
  refine seg_forLoop ?_
  cases hv : q[i]? with
  | none =>
    have hie : i = q.length := by have := List.getElem?_eq_none_iff.mp hv; omega
    refine wpAny_pyNext_list_end hh hI hl (by simpa using hv) fun h₁ k₁ => ?_
    refine hend n s₀ _ ⟨rfl, S, q, h₁, tk, hseen, hl0, fun u hu => ?_, rfl, ?_, ?_⟩
    · obtain ⟨k, hk⟩ := List.getElem?_of_mem hu
      have := (List.getElem?_eq_some_iff.mp hk).1
      exact hin k u (by omega) hk
    · exact hkc.monoLs.trans (KeepC.of_extBut k₁ (.inr (mod_iter hI)))
    · refine Keep.keepF (fun b o e => k₁ b o (fun z => ?_) (hkb b o e)) _
      rw [z, hIt] at e; cases e
  | some v =>
    have hlt : i < q.length := (List.getElem?_eq_some_iff.mp hv).1
    have hvq : v ∈ q := List.mem_of_getElem? hv
    obtain ⟨⟨a, xs, rfl, hxs0, hst, hxz⟩, hKF0⟩ := hok v hvq
    obtain ⟨m₀, hnm₀⟩ := hn0
    have hKF := hK.keepC hKF0 hnm₀ hkc
    have hkv : kyK s₀.heap (.ref a) = skey (xs.getD 0 .none) := by show skey (rowHead _ _) = _; rw [rowHead_of hxs0]
    have hxs := hkc.isList (ne_list_ns hxs0 hnm₀) hxs0
    refine wpAny_pyNext_list_item hI hl (x := .ref a) (by simpa using hv) fun h₁ hI₁ hs₁ => ?_
    have ns₁ := hns.sameBut hs₁ (Ne.symm hIL)
    have kc₁ : KeepC Lg [] h h₁ := KeepC.of_extBut hs₁.extBut (.inr (mod_iter hI))
    have kb₁ : Keep h₀ h₁ := fun b o e => hs₁.extBut b o (fun z => by rw [z, hIt] at e; cases e) (hkb b o e)
    have hS₁ : h₁.SetOf (stopKind prog w) sd S c := let ⟨o, es, ep, t, ho, r⟩ := hS; ⟨o, es, ep, t, hs₁.extBut _ _ hsI ho, r⟩
    have hfI : fa ≠ It := fun q => by obtain ⟨o, ho, hc, _⟩ := hI; rw [← q, hfaA] at ho; cases ho; injection hc with hc; exact absurd hc (by decide)
    have hfa₁ := hs₁.extBut _ _ hfI hfaA
    show wpAny _ _ (storeName _ _ _) _ _ _
    refine st_local (L := Lg) ns₁ rfl fun h₂ ns₂ hs₂ => ?_
    intro H
    have kc₂ : KeepC Lg [] h₁ h₂ := KeepC.of_extBut hs₂.extBut (.inl rfl)
    have kb₂ : Keep h₀ h₂ := fun b o e => hs₂.extBut b o (fun z => by rw [z, hLg] at e; cases e) (kb₁ b o e)
    have hS₂ : h₂.SetOf (stopKind prog w) sd S c := let ⟨o, es, ep, t, ho, r⟩ := hS₁; ⟨o, es, ep, t, hs₂.extBut _ _ hsL ho, r⟩
    have hfL : fa ≠ Lg := fun q => by obtain ⟨o, es, p, ho, hd', _⟩ := ns₁; rw [← q, hfa₁] at ho; cases ho; cases hd'
    have hfa₂ := hs₂.extBut _ _ hfL hfa₁
    have hI₂ := hI₁.extBut hs₂.extBut hIL
    have kc02 := kc₁.trans kc₂
    have hKF₂ := hK.keepC hKF hns kc02
    have hxs₂ := kc02.isList (ne_list_ns hxs hns) hxs
    obtain ⟨ofn, fdn, hofd, hofn⟩ := hK.obj
    refine seg_execs_cons ?_
    refine seg_wrap ?_
    refine wpAny_Assign_Name ?_
    refine eval_call nofun ?_
    refine nm_local ns₂ rfl rfl hm3 ?_
    refine PyProof.Rows.callWith_def hofd ?_
    refine args_cons ?_
    refine nm_local ns₂ rfl rfl rfl ?_
    refine args_nil ?_
    refine ⟨hofn _ hKF₂, hK.run (by omega) (G₀.keeps kb₂) hKF₂ hxs₂ hst hxz fun h₃ tk₃ k₃ => ?_⟩
    refine st_local (L := Lg) (ns₂.keeps k₃) rfl fun h₄ ns₄ hs₄ => ?_
    have kc₄ : KeepC Lg [] h₂ h₄ := (KeepC.of_keep k₃).trans (KeepC.of_extBut hs₄.extBut (.inl rfl))
    have kb₄ : Keep h₀ h₄ := fun b o e => hs₄.extBut b o (fun z => by rw [z, hLg] at e; cases e) (k₃ b o (kb₂ b o e))
    have hS₄ : h₄.SetOf (stopKind prog w) sd S c := let ⟨o, es, ep, t, ho, r⟩ := hS₂; ⟨o, es, ep, t, hs₄.extBut _ _ hsL (k₃ _ _ ho), r⟩
    have hfa₄ := hs₄.extBut _ _ hfL (k₃ _ _ hfa₂)
    have hI₄ := (iter_keeps hI₂ k₃).extBut hs₄.extBut hIL
    have kc04 := kc02.trans kc₄
    refine seg_execs_cons ?_
    refine seg_If ?_
    refine wpAny_isTrue_Compare1 ?_
    refine nm_local ns₄ rfl rfl rfl ?_
    refine nm_local ns₄ rfl rfl hm1 ?_
    refine wpAny_notInSet_of (knd := stopKind prog w) (k := skey (xs.getD 0 .none)) (stopIs_of hst) (scan_stop hst) hS₄ ?_
    refine wpAny_truthy_bool ?_
    have hl₄ := kc04.isList hlL hl
    cases hSv : S (skey (xs.getD 0 .none)) with
    | true =>
      refine pif_not rfl ?_
      refine seg_execs_nil ?_
      refine seg_again rfl ?_
      refine ihr (q.length - (i + 1)) (by omega) s₀ h₄ _ S c (i + 1) q rfl hrem hcn hseen hl0 hok (hkc.trans kc04) kb₄ ⟨m₀, hnm₀⟩ ⟨⟨_, ns₄, hm1, hm2, hm3⟩, hfa₄, hI₄, hS₄⟩ (by omega) (fun k u hk hu => ?_) hl₄
      · by_cases hki : k = i
        · subst hki; rw [hv] at hu; cases hu; rw [hkv]; exact hSv
        · exact hin k u (by omega) hu
    | false =>
      refine pif_so rfl ?_
      have hrg := skey_range hst
      have hrl := rem_lt hSv hrg.1 hrg.2
      obtain ⟨n', rfl⟩ : ∃ n', n = n' + 1 := ⟨n - 1, by omega⟩
      refine seg_execs_cons ?_
      refine seg_wrap ?_
      refine wpAny_Expr ?_ rfl rfl
      refine eval_call nofun ?_
      refine nm_local ns₄ rfl rfl hm2 ?_
      refine callWith_bnd (i := "set.add") (a := sd) ?_
      refine nm_local ns₄ rfl rfl rfl ?_
      refine ⟨hfa₄, call_boundAdd hfa₄ hst hS₄ (by omega) fun h₅ hs₅ hS₅ => ?_⟩
      rw [hSv] at hS₅
      have hfs₄ : fa ≠ sd := fun q => by obtain ⟨o, es, ep, t, ho, _, hd', _⟩ := hS₄; rw [← q, hfa₄] at ho; cases ho; cases hd'
      have ns₅ := ns₄.sameBut hs₅ (Ne.symm hsL)
      have kc₅ : KeepC Lg [] h₄ h₅ := KeepC.of_extBut hs₅.extBut (.inr (mod_set hS₄))
      have kb₅ : Keep h₀ h₅ := fun b o e => hs₅.extBut b o (fun z => by rw [z, hsd] at e; cases e) (kb₄ b o e)
      have hP₅ : KL prog w l Lg sd fa fk It (fun k => S k || decide (k = skey (xs.getD 0 .none))) (c + 1) (i + 1) h₅ := ⟨⟨_, ns₅, hm1, hm2, hm3⟩, hs₅.extBut _ _ hfs₄ hfa₄, hI₄.extBut hs₅.extBut (Ne.symm hsI), hS₅⟩
      refine seg_execs_cons ?_
      refine seg_Expr_Yield hfs rfl hfg ?_
      refine nm_local ns₅ rfl rfl rfl ?_
      intro kap hkap
      refine ⟨S, q, i, h₅, _, KL prog w l Lg sd fa fk It (fun k => S k || decide (k = skey (xs.getD 0 .none))) (c + 1) (i + 1), hseen, hl0, hv, (by rw [hkv]; exact hSv), hin, rfl, hkc.trans (kc04.trans kc₅), kb₅, KL.stable, hP₅, (fun h' hp => by rw [hkv]; exact hp.seen), fun s'' RP => ?_⟩
      refine hkap .none s'' ?_
      refine seg_execs_nil ?_
      refine seg_execs_nil ?_
      refine seg_again rfl ?_
      obtain ⟨q', hlq, hokq, hkyq⟩ := RP.queue
      have hns'' : ∃ m₁, s''.heap.Ns Lg m₁ := let ⟨⟨m₁, a1, _⟩, _⟩ := RP.inv; ⟨m₁, a1⟩
      refine ih n' (by omega) _ s'' s''.heap s''.toks _ (c + 1) (i + 1) (q ++ q') rfl (by omega) (by omega) RP.inv.seen hlq hokq (.refl _ _ _) RP.base hns'' RP.inv (by rw [List.length_append]; omega) (fun k u hk hu => ?_) hlq
      rw [List.getElem?_append_left (by omega)] at hu
      rw [hkyq u (List.mem_of_getElem? hu)]
      by_cases hki : k = i
      · subst hki; rw [hv] at hu; cases hu; rw [hkv]; simp
      · rw [hin k u (by omega) hu]; rfl

set_option maxHeartbeats 4000000 in
theorem start_key {h₀ : Heap} {l Lg fk : Addr} {outer : List Env} {q : List Value} {KF : Heap → Prop} (G₀ : Gd w h₀) (hLg : h₀.get? Lg = none) (hK : KeyFn prog w fk KF) (hh : A.handled = none) (hd : A.depth < 800)
    (hns : s.heap.Ns Lg (bindL (genv w Lg).kindOf [("iterable", .ref l), ("key", .ref fk)] fun _ => none)) (hkb : Keep h₀ s.heap) (hl : s.heap.IsList l q.toArray) (hok : ∀ u ∈ q, RowOk s.heap u ∧ KF s.heap) :
    Seg (model prog w) A.in1 (Rg prog w h₀ l Lg outer kyK) (Yg prog w h₀ l Lg outer kyK (fun h v => RowOk h v ∧ KF h)) 16 s (.func (fnBody w 59) (genv w Lg)) ((model prog w).den (.func (fnBody w 59) (genv w Lg))) [] s := by
  have hseen : SeenIs prog w s.heap Lg (fun _ => false) := ⟨_, hns, .inl ⟨rfl, rfl⟩⟩
  refine seg_func ?_
  refine seg_execs_cons ?_
  refine seg_wrap ?_
  refine wpAny_Assign_Name ?_
  refine eval_call nofun ?_
  refine nm_builtin (v := .type "set") (G₀.keeps hkb) rfl rfl rfl rfl rfl rfl ?_
  refine callWith_type0 ?_
  refine call_set_0 fun led => ?_
  have k1 : Keep s.heap (s.heap.push { cls := .type "set", dict := none, data := .set #[] 0 (.fresh 0 0 led) }) := fun b o e => Heap.get?_push_of_some _ e
  have hsd : s.heap.get? s.heap.objs.size = none := Heap.get?_none_of_le (Nat.le_refl _)
  have hsL : s.heap.objs.size ≠ Lg := fun q => by have := hns.lt; rw [← q] at this; exact Nat.lt_irrefl _ this
  have hS1 : (s.heap.push { cls := .type "set", dict := none, data := .set #[] 0 (.fresh 0 0 led) }).get? s.heap.objs.size = some { cls := .type "set", dict := none, data := .set #[] 0 (.fresh 0 0 led) } := Heap.get?_push_size _ rfl
  generalize s.heap.objs.size = sd at *
  generalize s.heap.push { cls := .type "set", dict := none, data := .set #[] 0 (.fresh 0 0 led) } = h₁ at *
  refine st_local (L := Lg) (hns.keeps k1) rfl fun h₂ ns₂ hs₂ => ?_
  have hS2 : h₂.get? sd = some { cls := .type "set", dict := none, data := .set #[] 0 (.fresh 0 0 led) } := hs₂.extBut _ _ hsL hS1
  have kLg : ∀ b o, h₀.get? b = some o → b ≠ Lg := fun b o e q => by rw [q, hLg] at e; cases e
  have kb₂ : Keep h₀ h₂ := fun b o e => hs₂.extBut b o (kLg b o e) (k1 b o (hkb b o e))
  have hlL : l ≠ Lg := ne_list_ns hl hns
  have hl₂ : h₂.IsList l q.toArray := let ⟨o, ho, r⟩ := hl; ⟨o, hs₂.extBut _ _ hlL (k1 _ _ ho), r⟩
  have kc₂ : KeepC Lg [] s.heap h₂ := (KeepC.of_keep k1).trans (KeepC.of_extBut hs₂.extBut (.inl rfl))
  refine seg_execs_cons ?_
  refine seg_wrap ?_
  refine wpAny_Assign_Name ?_
  refine Attribute_name ?_
  refine nm_local ns₂ rfl rfl rfl ?_
  refine getAttr_add hS2 rfl rfl rfl ?_
  have k3 : Keep h₂ (h₂.push (boundOf "set.add" sd)) := fun b o e => Heap.get?_push_of_some _ e
  have hfL : h₂.objs.size ≠ Lg := fun q => by have := ns₂.lt; rw [← q] at this; exact Nat.lt_irrefl _ this
  have hF3 : (h₂.push (boundOf "set.add" sd)).get? h₂.objs.size = some (boundOf "set.add" sd) := Heap.get?_push_size _ rfl
  generalize h₂.objs.size = fa at *
  generalize h₂.push (boundOf "set.add" sd) = h₃ at *
  refine st_local (L := Lg) (ns₂.keeps k3) rfl fun h₄ ns₄ hs₄ => ?_
  have hS4 := hs₄.extBut _ _ hsL (k3 _ _ hS2)
  have hF4 := hs₄.extBut _ _ hfL hF3
  have kb₄ : Keep h₀ h₄ := fun b o e => hs₄.extBut b o (kLg b o e) (k3 b o (kb₂ b o e))
  have hl₄ : h₄.IsList l q.toArray := let ⟨o, ho, r⟩ := hl₂; ⟨o, hs₄.extBut _ _ hlL (k3 _ _ ho), r⟩
  have kc₄ : KeepC Lg [] s.heap h₄ := kc₂.trans ((KeepC.of_keep k3).trans (KeepC.of_extBut hs₄.extBut (.inl rfl)))
  refine seg_execs_cons ?_
  refine seg_If ?_
  refine wpAny_isTrue_Compare1 ?_
  refine nm_local ns₄ rfl rfl rfl ?_
  refine wpAny_Constant_none ?_
  refine is_none ?_
  refine wpAny_truthy_bool ?_
  refine pif_not rfl ?_
  refine seg_execs_cons ?_
  refine seg_For ?_
  refine nm_local ns₄ rfl rfl rfl ?_
  refine wpAny_pyIter_list hl₄ ?_
  intro p
  have k5 : Keep h₄ (h₄.push { cls := .type "list_iterator", data := .fields #[.ref l, .int 0 0] }) := fun b o e => Heap.get?_push_of_some _ e
  have hI5 : (h₄.push { cls := .type "list_iterator", data := .fields #[.ref l, .int 0 0] }).IsListIter h₄.objs.size l 0 := ⟨_, Heap.get?_push_size _ rfl, rfl, rfl⟩
  have hIn : h₄.get? h₄.objs.size = none := Heap.get?_none_of_le (Nat.le_refl _)
  generalize h₄.objs.size = It at *
  generalize (h₄.push { cls := .type "list_iterator", data := .fields #[.ref l, .int 0 0] }) = h₅ at *
  have ns₅ := ns₄.keeps k5
  have hS₅ : h₅.SetOf (stopKind prog w) sd (fun _ => false) 0 := ⟨_, #[], 0, .fresh 0 0 led, k5 _ _ hS4, ⟨rfl, rfl, rfl⟩, rfl, fun e he => absurd he (by simp), fun k => ⟨fun z => (by cases z), fun ⟨e, he, _⟩ => absurd he (by simp)⟩, by decide, by first | rfl | (cases led <;> rfl) | decide, rfl⟩
  have hPL : KL prog w l Lg sd fa fk It (fun _ => false) 0 0 h₅ := ⟨⟨_, ns₅, rfl, rfl, rfl⟩, k5 _ _ hF4, hI5, hS₅⟩
  have hn0 : ∀ {b : Addr} {h : Heap}, Keep h₀ h → h.get? b = none → h₀.get? b = none := fun k e => none_older k e
  refine loop_key (A := A.in1) G₀ hLg (hn0 hkb hsd) (hn0 kb₄ hIn) hK ?_ ?_ ?_ ?_ ?_ 16 _ s h₅ _ (fun _ => false) 0 0 q rfl rem_zero (by omega) hseen hl hok (kc₄.trans (KeepC.of_keep k5)) (Keep.trans kb₄ k5) ⟨_, hns⟩ hPL (Nat.zero_le _) (fun k u a _ => absurd a (Nat.not_lt_zero _)) (isList_keeps hl₄ k5)
  · rw [over_for]; exact hh
  · rw [over_for]; show A.depth + (1 + 0) + 0 < 850; omega
  · rfl
  · rfl
  · intro n s₀ s' hR
    refine seg_leaf (.ok .next) ?_
    exact seg_end (.ok (.ret .none)) hR
end
end Mine
end

noncomputable section
open PySem PySem.W PySem.Calls PyProof.Rows
set_option maxRecDepth 100000
namespace Mine

def But85 (h h' : Heap) : Prop := ∀ b o, b ≠ 85 → h.get? b = some o → h'.get? b = some o
/-- the module builtins, where __builtins__ leads -/
def BM (h : Heap) : Prop := ∃ ob, h.get? 4 = some ob ∧ ob.cls = .type "module" ∧ ob.dict = some builtinsNs ∧ ob.data = .plain
theorem BM.but {h h' : Heap} (x : BM h) (k : But85 h h') : BM h' := let ⟨ob, a, r⟩ := x; ⟨ob, k _ _ (by decide) a, r⟩

section
variable {prog : Program} {w : World} {A : Around} {E : Value → Shared → Prop} {s : Shared}

abbrev kenv (w : World) (Lk : Addr) : Env := callEnvC (fnAt w 88) Lk 88
def lamOf (w : World) : Option (Arguments × Expr × Scope × Pos) := match fnBody w 88 with
  | [_, _, .For _ (.Call _ _ [⟨_, .Lambda p b sc pos, _⟩] _) _ _ _, _] => some (p, b, sc, pos)
  | _ => none

def lamP (w : World) : Arguments := match lamOf w with
  | some (p, _, _, _) => p
  | none => { posonlyargs := [], args := [], vararg := none, kwonlyargs := [], kw_defaults := [], kwarg := none, defaults := [] }
def lamB (w : World) : Expr := match lamOf w with
  | some (_, b, _, _) => b
  | none => .Constant .none 0 ⟨0, 0, 0, 0⟩
def lamS (w : World) : Scope := match lamOf w with
  | some (_, _, sc, _) => sc
  | none => (fnAt w 88).scope
theorem lamS_names (w : World) : (lamS w).names = [((Str.ofString "pair" : Str), NameKind.local)] := rfl
theorem bind_lam (w : World) (name qual : Str) (body : Expr) (scope : Scope) (pm c ct v : Value) : bindArgs (kla_fn name qual (lamP w) body scope [] pm c ct) ⟨[v], []⟩ = pure [((Str.ofString "pair" : Str), v)] := by kernel_rfl
theorem code87 (w : World) : codeHdIn (Kf w) 87 85 = true := by kernel_rfl

set_option maxHeartbeats 2000000 in
theorem make_lam {params : Arguments} {body : Expr} {scope : Scope} {pos : Pos} {Lk : Addr} {Q : Value → Shared → Prop} (hlam : lamOf w = some (params, body, scope, pos)) (G : Gd w s.heap) (hbm : BM s.heap) (htab : s.heap.get? 85 = some (tabObj #[]))
    (h : ∀ h' tk fk KF, But85 s.heap h' → (∃ tb, h'.get? 85 = some (tabObj tb)) → s.heap.get? fk = none → KeyFn prog w fk KF → KF h' → (∀ h₁, KF h₁ → ∀ o, h₁.get? fk = some o → ext o = true) → Q (.ref fk) { s with heap := h', toks := tk }) :
    wpAny (model prog w) A (eval (.Lambda params body scope pos) (kenv w Lk)) Q E s := by
  have hl : lamOf w = lamOf w := rfl
  conv at hl => lhs; whnf
  rw [← hl] at hlam
  obtain ⟨rfl, rfl, rfl, rfl⟩ : _ ∧ _ ∧ _ ∧ _ := by simpa only [Option.some.injEq, Prod.mk.injEq] using hlam
  refine kla_eval rfl ?_
  obtain ⟨ob, h4, hb⟩ := hbm
  refine kla_makeFunction (c := 87) (P := 85) (mg := mgOf w) (clos := []) rfl rfl G.glob rfl (codeHd_of_K G.k (code87 w)) htab ?_ rfl (by decide) ⟨4, ob, rfl, by decide, by decide, by decide, h4, hb⟩ fun c' ctv h' tk hx hge hlt hrec htb => ?_
  · trivial
  · obtain ⟨c₂, oc, vs, tq, e2, hoc, hdc, hv1⟩ := hrec
    cases e2
    have kx : But85 s.heap h' := fun b o hb e => hx b o hb e
    have h85 : 85 < h'.objs.size := Heap.lt_size htb
    have hne : h'.objs.size ≠ 85 := by omega
    have hfn : s.heap.get? h'.objs.size = none := by
      cases q : s.heap.get? h'.objs.size with
      | none => rfl
      | some o => exact absurd (Heap.lt_size (kx _ _ hne q)) (Nat.lt_irrefl _)
    have lst : ∀ ofn : Obj, ofn.isFreed = false → (h'.push ofn).get? h'.objs.size = some ofn := fun ofn e => Heap.get?_push_size _ e
    refine h _ tk h'.objs.size (fun h₁ => h₁.get? h'.objs.size = some (kla_obj (Str.ofString "<lambda>") ((kenv w Lk).qual ++ Str.ofString "<lambda>") (lamP w) (lamB w) (lamS w) [] ((mgOf w (Str.ofString "__name__")).getD Value.none) c' ctv) ∧ h₁.get? c' = some oc) (fun b o hb e => Heap.get?_push_of_some _ (kx b o hb e)) ⟨_, Heap.get?_push_of_some _ htb⟩ hfn ?kf ⟨lst _ rfl, Heap.get?_push_of_some _ hoc⟩ ?ex
    case ex =>
      intro h₁ hk o ho
      rw [hk.1] at ho; cases ho; rfl
    case kf =>
      refine ⟨⟨_, _, rfl, fun h hk => hk.1⟩, fun {Lg m h h''} hk hn kc => ?_, fun {h h''} hk kb => ⟨kb _ _ rfl hk.1, kb _ _ (by unfold fkind; rw [hdc]) hk.2⟩, fun {A E s Q a xs} hd G hk hl hst hsz hQ => ?_⟩
      · obtain ⟨o, es, p, ho, hd', _⟩ := hn
        refine ⟨(kc _ _ (fun q => ?_) rfl hk.1).1 List.not_mem_nil, (kc _ _ (fun q => ?_) ?_ hk.2).1 List.not_mem_nil⟩
        · rw [← q, hk.1] at ho; cases ho; cases hd'
        · rw [← q, hk.2] at ho; cases ho; rw [hdc] at hd'; cases hd'
        · unfold mod; rw [hdc]; dsimp only; rw [hv1]; simp
      · obtain ⟨ls, rfl⟩ : ∃ ls : List Value, xs = ls.toArray := ⟨xs.toList, by simp⟩
        have hlen : 0 < ls.length := by
          cases ls with
          | nil => rcases hst with ⟨n, t, e, _⟩ | ⟨b, e⟩ <;> simp at e
          | cons _ _ => simp
        have hls : ls.length ≤ 100 := by simpa using hsz
        have e0 : ls.toArray.getD 0 Value.none = ls.getD 0 Value.none := by simp
        refine wpAny_call (kla_callFunE (by show A.depth < 1000; omega) hk.1 rfl rfl rfl rfl ⟨c', oc, vs, tq, rfl, hk.2, hdc, hv1⟩ ?_)
        rw [bind_lam]
        refine wpAny_pure (wpAny_newFunctionEnv (scope := lamS w) (binds := [((Str.ofString "pair" : Str), Value.ref a)]) (by rw [lamS_names]; decide) (fun x hx => by rw [List.mem_singleton.mp hx, lamS_names]; rfl) (fun h₁ hns hsb => ⟨(G.nl).fresh _ hsb, kla_codeExpr ?_⟩) rfl)
        have k1 : Keep s.heap h₁ := fun b o e => hsb.extBut b o (Nat.ne_of_lt (Heap.lt_size e)) (Heap.get?_push_of_some _ e)
        refine Subscript_ ?_
        refine nm_local hns rfl rfl rfl ?_
        refine wpAny_Constant_int ?_
        refine item_list (isList_keeps hl k1) (k := 0) hlen rfl (by omega) ?_
        show Q (ls.getD 0 Value.none) _
        rw [← e0]
        exact hQ h₁ _ k1
end
end Mine
end

noncomputable section
open PySem PySem.W PySem.Calls PyProof.Rows
set_option maxRecDepth 100000
namespace Mine

def RowAt (Qa Ta : Addr) (h : Heap) (p : Value × Value) (y : Value) : Prop := ∃ a, y = .ref a ∧ h.IsList a [p.1, p.2].toArray ∧ a ≠ Qa ∧ a ≠ Ta
theorem RowAt.step {Qa Ta : Addr} {h h' : Heap} {p : Value × Value} {y : Value} (x : RowAt Qa Ta h p y) (k : ∀ a xs, a ≠ Qa → a ≠ Ta → h.IsList a xs → h'.IsList a xs) : RowAt Qa Ta h' p y :=
  let ⟨a, e, hl, h1, h2⟩ := x; ⟨a, e, k a _ h1 h2 hl, h1, h2⟩
abbrev RowsAt (Qa Ta : Addr) (h : Heap) (Q : List (Value × Value)) (Qv : List Value) : Prop := Paired (RowAt Qa Ta h) Q Qv
theorem RowsAt.step {Qa Ta : Addr} {h h' : Heap} {Q : List (Value × Value)} {Qv : List Value} (x : RowsAt Qa Ta h Q Qv) (k : ∀ a xs, a ≠ Qa → a ≠ Ta → h.IsList a xs → h'.IsList a xs) : RowsAt Qa Ta h' Q Qv := x.mono fun _ _ r => r.step k
theorem RowAt.head {Qa Ta : Addr} {h : Heap} {p : Value × Value} {y : Value} (x : RowAt Qa Ta h p y) : rowHead h y = p.1 := by
  obtain ⟨a, rfl, hl, _⟩ := x
  rw [rowHead_of hl]; simp
theorem paired_at {α β : Type} {F : α → β → Prop} {l₁ : List α} {l₂ : List β} (x : Paired F l₁ l₂) : ∀ {i : Nat} {y : β}, l₂[i]? = some y → ∃ p, l₁[i]? = some p ∧ F p y := by
  induction x with
  | nil => intro i y h; simp at h
  | cons a _ ih =>
    intro i y h
    cases i with
    | zero => simp at h; subst h; exact ⟨_, rfl, a⟩
    | succ i => simp only [List.getElem?_cons_succ] at h ⊢; exact ih h
theorem paired_at' {α β : Type} {F : α → β → Prop} {l₁ : List α} {l₂ : List β} (x : Paired F l₁ l₂) : ∀ {i : Nat} {p : α}, l₁[i]? = some p → ∃ y, l₂[i]? = some y ∧ F p y := by
  induction x with
  | nil => intro i y h; simp at h
  | cons a _ ih =>
    intro i y h
    cases i with
    | zero => simp at h; subst h; exact ⟨_, rfl, a⟩
    | succ i => simp only [List.getElem?_cons_succ] at h ⊢; exact ih h
theorem paired_append {α β : Type} {F : α → β → Prop} {a a' : List α} {b b' : List β} (x : Paired F a b) (y : Paired F a' b') : Paired F (a ++ a') (b ++ b') := by
  induction x with
  | nil => exact y
  | cons r _ ih => exact .cons r ih
theorem rows_ky {Qa Ta : Addr} {h h' : Heap} {Q : List (Value × Value)} {Qv : List Value} (x : RowsAt Qa Ta h Q Qv) (y : RowsAt Qa Ta h' Q Qv) : ∀ u ∈ Qv, kyK h u = kyK h' u := fun u hu => by
  obtain ⟨i, hi⟩ := List.getElem?_of_mem hu
  obtain ⟨p, hp, r⟩ := paired_at x hi
  obtain ⟨p', hp', r'⟩ := paired_at y hi
  rw [hp] at hp'; cases hp'
  show skey (rowHead _ _) = skey (rowHead _ _)
  rw [r.head, r'.head]
theorem rows_pairs {Qa Ta : Addr} {h0 h : Heap} {st : Value} (hq : h0.get? Qa ≠ none) (ht : h0.get? Ta ≠ none) : ∀ {xs ys : List Value}, Rows h0 h (xs.map fun x => [x, st]) ys → RowsAt Qa Ta h (xs.map fun x => (x, st)) ys
  | [], _, .nil => .nil
  | _ :: _, _, .cons ⟨a, e, hn, hl⟩ r => .cons ⟨a, e, hl, fun q => hq (q ▸ hn), fun q => ht (q ▸ hn)⟩ (rows_pairs hq ht r)

theorem hasK_one' (p : Value × Value) (k : Int) : hasK pkey [p] k = decide (k = pkey p) := by
  simp only [hasK, List.any_cons, List.any_nil, Bool.or_false]
  by_cases q : k = pkey p
  · subst q; simp
  · rw [decide_eq_false q, beq_eq_false_iff_ne]; exact fun z => q z.symm
theorem fkind_list {h : Heap} {l : Addr} {xs : Array Value} (n : h.IsList l xs) : ∀ o, h.get? l = some o → fkind o = false := fun o ho => by
  obtain ⟨o', ho', _, q, hd⟩ := n
  rw [ho] at ho'; cases ho'
  unfold fkind; rw [hd]
theorem fkind_ns {h : Heap} {l : Addr} {m : Str → Option Value} (n : h.Ns l m) : ∀ o, h.get? l = some o → fkind o = false := fun o ho => by
  obtain ⟨o', es, p, ho', hd, _⟩ := n
  rw [ho] at ho'; cases ho'
  unfold fkind; rw [hd]
theorem fkind_cell {h : Heap} {l : Addr} {v : Option Value} (n : h.IsCell l v) : ∀ o, h.get? l = some o → fkind o = false := fun o ho => by
  obtain ⟨o', ho', hd⟩ := n
  rw [ho] at ho'; cases ho'
  unfold fkind; rw [hd]
theorem ext_cell {h : Heap} {l : Addr} {v : Option Value} (n : h.IsCell l v) : ∀ o, h.get? l = some o → ext o = true := fun o ho => by
  obtain ⟨o', ho', hd⟩ := n
  rw [ho] at ho'; cases ho'
  unfold ext; rw [hd]; simp
theorem ne_cell_gen {h : Heap} {L ga : Addr} {g : Nat} {v : Option Value} (n : h.IsCell L v) (y : h.IsGen ga g) : L ≠ ga := fun q => by
  obtain ⟨o', ho', hd⟩ := n
  obtain ⟨o, nm, qn, ho, _, hd', _⟩ := y
  rw [← q, ho'] at ho; cases ho; rw [hd] at hd'; cases hd'
theorem KeepC.cell {Lg L : Addr} {Ls : List Addr} {h h' : Heap} {v : Option Value} (k : KeepC Lg Ls h h') (hne : L ≠ Lg) (n : h.IsCell L v) : h'.IsCell L v := by
  obtain ⟨o, ho, hd⟩ := n
  obtain ⟨_, sl, e⟩ := k _ _ hne (by unfold mod; rw [hd]) ho
  exact ⟨_, e, hd⟩

section
variable {prog : Program} {w : World} {A : Around} {E : Value → Shared → Prop} {s : Shared}

theorem KeyFn.extBut {fk X : Addr} {KF : Heap → Prop} {h h' : Heap} (K : KeyFn prog w fk KF) (hk : KF h) (k : Heap.ExtBut X h h') (hX : ∀ o, h.get? X = some o → fkind o = false) : KF h' :=
  K.keepB hk fun b o hb e => k b o (fun q => by rw [hX o (q ▸ e)] at hb; cases hb) e
theorem KeyFn.keep {fk : Addr} {KF : Heap → Prop} {h h' : Heap} (K : KeyFn prog w fk KF) (hk : KF h) (k : Keep h h') : KF h' := K.keepB hk fun b o _ e => k b o e

structure KSt (prog : Program) (w : World) (A : Around) (s : Shared) (l : Addr) (outer : List Env) (Lp Lg Qa Ta ga : Addr) (KF : Heap → Prop) (T Q : List (Value × Value)) (Tv Qv : List Value) (rv : Option Value) (m : Str → Option Value) (s' : Shared) : Prop where
  ns : s'.heap.Ns Lp m
  mw : m "walk" = some (.ref l)
  mt : m "told" = some (.ref Ta)
  mq : m "queue" = some (.ref Qa)
  cell : s'.heap.IsCell (Lp + 1) rv
  told : s'.heap.PlainList Ta Tv.toArray
  queue : s'.heap.PlainList Qa Qv.toArray
  rt : RowsAt Qa Ta s'.heap T Tv
  rq : RowsAt Qa Ta s'.heap Q Qv
  kf : KF s'.heap
  base : But85 s.heap s'.heap
  waits : ∃ q q' kq, Qv = q ++ q' ∧ Waits prog w (without s.heap [85]) Qa Lg (kenv w Lp :: outer) kyK (fun h v => RowOk h v ∧ KF h) A ga s.gens.size (fun k => hasK pkey T k) q kq s' ∧ ∀ u ∈ q, kyK s'.heap u = kq u
  gens : GenTail s.gens s'.gens
  tab : ∃ tb, s'.heap.get? 85 = some (tabObj tb)

theorem keep_without {h h' : Heap} (k : But85 h h') : Keep (without h [85]) h' := fun b o e => by
  by_cases q : b = 85
  · subst q; rw [without_in h (List.mem_singleton.mpr rfl)] at e; cases e
  · exact k b o q ((without_out h fun z => q (List.mem_singleton.mp z)) ▸ e)
theorem but_of_without {h h' : Heap} (k : Keep (without h [85]) h') : But85 h h' := fun b o q e => k b o ((without_out h fun z => q (List.mem_singleton.mp z)).trans e)
theorem Gd.without {h : Heap} (G : Gd w h) : Gd w (without h [85]) := by
  have out : ∀ {b : Addr}, b ≠ 85 → (Mine.without h [85]).get? b = h.get? b := fun q => without_out h fun z => q (List.mem_singleton.mp z)
  refine ⟨fun a o e => ?_, ?_, ?_⟩
  · refine (out fun q => ?_).trans (G.k a o e)
    subst q; cases e
  · obtain ⟨mb, ⟨o, es, p, ho, r⟩, e⟩ := G.b
    exact ⟨mb, ⟨o, es, p, (out (by decide)).trans ho, r⟩, e⟩
  · obtain ⟨mc, ⟨o, es, p, ho, r⟩, e⟩ := G.nl
    exact ⟨mc, ⟨o, es, p, (out (by decide)).trans ho, r⟩, e⟩
theorem Gd.but {h h' : Heap} (G : Gd w h) (k : But85 h h') : Gd w h' := G.without.keeps (keep_without k)
theorem But85.trans {a b c : Heap} (x : But85 a b) (y : But85 b c) : But85 a c := fun d o q e => y d o q (x d o q e)
theorem But85.keep {a b c : Heap} (x : But85 a b) (y : Keep b c) : But85 a c := fun d o q e => y d o (x d o q e)
theorem But85.ext {a b c : Heap} {X : Addr} (x : But85 a b) (y : Heap.ExtBut X b c) (hX : a.get? X = none) : But85 a c := fun d o q e => y d o (fun z => by rw [z, hX] at e; cases e) (x d o q e)
theorem FrAll.but {h h' : Heap} {l : List Env} (x : FrAll h l) (hn : h.get? 85 = some (tabObj #[])) (k : But85 h h') (h5 : 85 ∉ locs l) : FrAll h' l := fun env he => by
  obtain ⟨a, L, o, hf, ho, hd⟩ := x env he
  exact ⟨a, L, o, hf, k _ _ (fun q => h5 (List.mem_filterMap.mpr ⟨env, he, by rw [hf, q]⟩)) ho, hd⟩

set_option maxHeartbeats 8000000 in
theorem key_spec {R : Result → Shared → Prop} {l : Addr} {ws : List Value} {outer : List Env} (G : Gd w s.heap) (hbm : BM s.heap) (htab : s.heap.get? 85 = some (tabObj #[])) (hh : A.handled = none) (hd : A.depth < 700) (hfr : A.frames = some outer) (hfa : FrAll s.heap outer) (h5 : 85 ∉ locs outer)
    (hl : s.heap.IsList l ws.toArray) (h1 : 1 ≤ ws.length) (h2 : ws.length ≤ 25) (hw : ∀ v ∈ ws, IsStop v)
    (h : ∀ h' tk gens' Ta Tv T, (∀ b o, b ≠ 85 → s.heap.get? b = some o → (b ∉ locs outer → h'.get? b = some o) ∧ ∃ sl, h'.get? b = some { o with slots := sl }) → (∃ tb, h'.get? 85 = some (tabObj tb)) → (AllBare s.gens → AllBare gens') → h'.IsList Ta Tv.toArray → Paired (fun p y => ∃ a, y = .ref a ∧ h'.IsList a [p.1, p.2].toArray) T Tv →
      Bfs pkey (blk ws) [] [(ws.getD 0 .none, Value.none)] T → R (.ok (.ret (.ref Ta))) { s with heap := h', toks := tk, gens := gens' }) :
    codeAny (model prog w) A (.call (.ref 88) ⟨[.ref l], []⟩) R s := by
  have hw0 : ws.getD 0 .none ∈ ws := getD_mem (by omega)
  have hl85 : l ≠ 85 := fun q => by obtain ⟨o, ho, hc, _⟩ := hl; rw [q, htab] at ho; cases ho; cases hc
  refine call_fn (w := w) (f := 88) (binds := [("walk", .ref l)]) G (by show A.depth < 1000; omega) rfl rfl rfl rfl rfl rfl rfl fun h₁ tk F₁ X₁ G₁ => ?_
  have c1 : h₁.IsCell (s.heap.objs.size + 1) none := X₁.cell "row" _ rfl
  have hLn : s.heap.get? s.heap.objs.size = none := Heap.get?_none_of_le (Nat.le_refl _)
  have hCn : s.heap.get? (s.heap.objs.size + 1) = none := Heap.get?_none_of_le (Nat.le_succ _)
  have k1 : Keep s.heap h₁ := F₁.keep
  have ns1 := F₁.ns
  generalize s.heap.objs.size = Lp at *
  have hl1 := isList_keeps hl k1
  refine wpAny_execs_cons ?_
  refine wpAny_Assign_Name ?_
  refine PyProof.Rows.List_ ?_
  refine args_cons ?_
  refine PyProof.Rows.List_ ?_
  refine args_cons ?_
  refine Subscript_ ?_
  refine nm_local ns1 rfl rfl rfl ?_
  refine wpAny_Constant_int ?_
  refine item_list hl1 (k := 0) (by omega) rfl (by omega) ?_
  refine args_cons ?_
  refine wpAny_Constant_none ?_
  refine args_nil ?_
  refine new_list (by simp) fun ra h₂ hra _ k₂ hrl => ?_
  have hrn : h₁.get? ra = none := none_of_ge (Nat.le_of_eq hra.symm)
  refine args_nil ?_
  refine new_list (by simp) fun Qa h₃ hQ _ k₃ hQl => ?_
  have hQn : h₂.get? Qa = none := none_of_ge (Nat.le_of_eq hQ.symm)
  have hrQ : ra ≠ Qa := ne_list_none hrl.isList hQn
  have k13 := Keep.trans k₂ k₃
  refine st_local (L := Lp) (ns1.keeps k13) rfl fun h₄ ns₄ hs₄ => ?_
  have hQL : Qa ≠ Lp := ne_list_ns hQl.isList (ns1.keeps k13)
  have hrL : ra ≠ Lp := ne_list_ns (plain_keeps hrl k₃).isList (ns1.keeps k13)
  have hQl₄ := hQl.extBut hs₄.extBut hQL
  have hrl₄ := (plain_keeps hrl k₃).extBut hs₄.extBut hrL
  have hCL : Lp + 1 ≠ Lp := Nat.succ_ne_self _
  have c4 := (c1.keeps k13).sameBut hs₄ hCL
  have k₄ : Keep s.heap h₄ := keep_but (Keep.trans k1 k13) hs₄.extBut hLn
  refine wpAny_execs_cons ?_
  refine wpAny_Assign_Name ?_
  refine PyProof.Rows.List_ ?_
  refine args_nil ?_
  refine new_list (by simp) fun Ta h₅ hT _ k₅ hTl => ?_
  have hTn : h₄.get? Ta = none := none_of_ge (Nat.le_of_eq hT.symm)
  refine st_local (L := Lp) (ns₄.keeps k₅) rfl fun h₆ ns₆ hs₆ => ?_
  have hTL : Ta ≠ Lp := ne_list_ns hTl.isList (ns₄.keeps k₅)
  have hTl₆ := hTl.extBut hs₆.extBut hTL
  have hQl₆ := (plain_keeps hQl₄ k₅).extBut hs₆.extBut hQL
  have hrl₆ := (plain_keeps hrl₄ k₅).extBut hs₆.extBut hrL
  have c6 := (c4.keeps k₅).sameBut hs₆ hCL
  have k₆ : Keep s.heap h₆ := keep_but (Keep.trans k₄ k₅) hs₆.extBut hLn
  have hQT : Qa ≠ Ta := ne_list_none hQl₄.isList hTn
  have hrT : ra ≠ Ta := ne_list_none hrl₄.isList hTn
  have hQs : s.heap.get? Qa = none := none_older (Keep.trans k1 k₂) hQn
  have hTs : s.heap.get? Ta = none := none_older k₄ hTn
  refine wpAny_execs_cons ?_
  refine wpAny_For ?_
  refine eval_call nofun ?_
  refine nm_global (v := .ref 59) (G.keeps k₆) rfl rfl rfl rfl ?_
  refine callWith_KW (G.keeps k₆).k (keep_59 w) rfl ?_
  refine args_cons ?_
  refine nm_local ns₆ rfl rfl rfl ?_
  refine args_nil ?_
  refine wpAny_evalAll_cons ?_
  refine wpAny_bind ?_
  refine make_lam (Lk := Lp) rfl (G.keeps k₆) (hbm.but fun b o _ e => k₆ b o e) (k₆ _ _ htab) fun h₇ tk₇ fk KF k₇ he85 hfk hK hKF hfe => ?_
  refine wpAny_bind (wpAny_standAt (wpAny_pure ?_))
  refine wpAny_evalAll_nil ?_
  have b7 : But85 s.heap h₇ := fun b o q e => k₇ b o q (k₆ b o e)
  have n85 : ∀ {b : Addr}, s.heap.get? b = none → b ≠ 85 := fun e q => by rw [q, htab] at e; cases e
  have hrs : s.heap.get? ra = none := none_older k1 hrn
  have ns₇ : h₇.Ns Lp _ := let ⟨o, es, p, ho, r⟩ := ns₆; ⟨o, es, p, k₇ _ _ (n85 hLn) ho, r⟩
  have c7 : h₇.IsCell (Lp + 1) none := let ⟨o, ho, r⟩ := c6; ⟨o, k₇ _ _ (n85 hCn) ho, r⟩
  have pl7 : ∀ {b : Addr} {xs : Array Value}, s.heap.get? b = none → h₆.PlainList b xs → h₇.PlainList b xs := fun e ⟨n, ho⟩ => ⟨n, k₇ _ _ (n85 e) ho⟩
  have hTl₇ := pl7 hTs hTl₆
  have hQl₇ := pl7 hQs hQl₆
  have hrl₇ := pl7 hrs hrl₆
  refine ⟨(G.but b7).k, wpAny_call (call_gen (f := .ref fk) (v := .ref Qa) (G.but b7) (by show A.depth + 1 < 1000; omega) (binds_key w _ _) fun h₈ tk₈ Lg ga k₈ hLg hga hgL ns₈ hgen => ?_)⟩
  refine wpAny_pyIter_gen hgen ?_
  have hLp : Lp ≠ Lg := fun q => by obtain ⟨o, es, p, ho, _⟩ := ns₇; rw [q, hLg] at ho; cases ho
  have hCg : Lp + 1 ≠ Lg := fun q => by obtain ⟨o, ho, _⟩ := c7; rw [q, hLg] at ho; cases ho
  have hpk : (kenv w Lp).scope.kind ≠ .module := by show (fnAt w 88).scope.kind ≠ _; rw [show (fnAt w 88).scope.kind = .function from rfl]; decide
  have hLg85 : Lg ≠ 85 := fun e => by
    obtain ⟨o', ho'⟩ := he85
    rw [e, ho'] at hLg; cases hLg
  have hLgs : s.heap.get? Lg = none := by
    cases q : s.heap.get? Lg with
    | none => rfl
    | some o =>
      rw [b7 _ _ hLg85 q] at hLg; cases hLg
  have b8 : But85 s.heap h₈ := fun b o q e => k₈ b o (b7 b o q e)
  have hfrA : (A.deeper (kenv w Lp)).frames = some (kenv w Lp :: outer) := Around.frames_deeper hfr
  have hhA : (A.deeper (kenv w Lp)).handled = none := hh
  have hdA : (A.deeper (kenv w Lp)).depth < 800 := by show A.depth + 1 < 800; omega
  have hLgw : (without s.heap [85]).get? Lg = none := by
    by_cases q : Lg = 85
    · rw [q]; exact without_in _ (List.mem_singleton.mpr rfl)
    · rw [without_out _ fun z => q (List.mem_singleton.mp z)]; exact hLgs
  have hW : Waits prog w (without s.heap [85]) Qa Lg (kenv w Lp :: outer) kyK (fun h v => RowOk h v ∧ KF h) (A.deeper (kenv w Lp)) ga s.gens.size (fun k => hasK pkey [] k) [] (fun _ => 0)
      { s with heap := h₈, toks := tk₈, gens := s.gens.push (.fresh (.func (fnBody w 59) (genv w Lg))) } := by
    refine ⟨hgen, 17, _, (fun h => h.Ns Lg _), Array.getElem?_push_size .., fun h h' hi k => ?_, ns₈, fun h hi => ⟨_, hi, .inl ⟨rfl, by funext k; rfl⟩⟩, fun s'' RP => ?_⟩
    · obtain ⟨o, es, p, ho, r⟩ := hi
      exact ⟨o, es, p, k _ _ (.inr rfl) ho, r⟩
    · obtain ⟨q', hq, hok, _⟩ := RP.queue
      exact ⟨rfl, start_key G.without hLgw hK hhA hdA RP.inv RP.base hq hok⟩
  have hrow8 : RowsAt Qa Ta h₈ [(ws.getD 0 .none, Value.none)] [.ref ra] := .cons ⟨ra, rfl, (plain_keeps hrl₇ k₈).isList, hrQ, hrT⟩ .nil
  refine codeAny_forLoop (fun k s' => ∃ h' tk' gs' m rv T Q Tv Qv, s' = { s with heap := h', toks := tk', gens := gs' } ∧ KSt prog w (A.deeper (kenv w Lp)) s l outer Lp Lg Qa Ta ga KF T Q Tv Qv rv m s' ∧ GMath pkey (blk ws) (ws.getD 0 .none, Value.none) T Q ∧
    (∀ p ∈ T, p.1 ∈ ws) ∧ k = ws.length + 1 - T.length) ?_ _ ⟨h₈, tk₈, _, _, none, [], [(ws.getD 0 .none, Value.none)], [], [.ref ra], rfl,
      { ns := ns₇.keeps k₈, mw := rfl, mt := rfl, mq := rfl, cell := c7.keeps k₈, told := plain_keeps hTl₇ k₈, queue := plain_keeps hQl₇ k₈, rt := .nil, rq := hrow8, kf := hK.keep hKF k₈, base := b8,
        waits := ⟨[], _, _, rfl, hW, fun _ h => nomatch h⟩, gens := GenTail.push _ _, tab := let ⟨tb, e⟩ := he85; ⟨tb, k₈ _ _ e⟩ }, GMath.start, (fun _ h => nomatch h), rfl⟩
  rintro k s' ⟨h', tk', gs', m, rv, T, Q, Tv, Qv, rfl, P, M, hTw, rfl⟩
  have hQw : ∀ p ∈ Q, p.1 ∈ ws := fun p hp => by
    rw [M.qeq] at hp
    rcases List.mem_cons.mp hp with q | q
    · rw [q]; exact hw0
    · obtain ⟨z, _, hz⟩ := List.mem_flatMap.mp q
      obtain ⟨x, hx, rfl⟩ := List.mem_map.mp hz
      exact aft_sub hx
  have lenB : ∀ (T : List (Value × Value)), (∀ p ∈ T, p.1 ∈ ws) → KNodup pkey T → T.length ≤ ws.length := fun T h1 h2 => by
    have := h2.le (b := ws.map fun v => (v, Value.none)) fun x hx => ⟨(x.1, Value.none), List.mem_map.mpr ⟨x.1, h1 x hx, rfl⟩, rfl⟩
    rwa [List.length_map] at this
  have hTlen : T.length ≤ ws.length := lenB T hTw M.nodup
  have flen : ∀ (r : List (Value × Value)), (r.flatMap (blk ws)).length ≤ r.length * ws.length := fun r => by
    induction r with
    | nil => simp
    | cons x r ih =>
      rw [List.flatMap_cons, List.length_append, List.length_cons, Nat.succ_mul]
      have e : (blk ws x).length ≤ ws.length := by unfold blk; rw [List.length_map]; exact aft_len ws x.1
      omega
  have hQvlen : Qv.length ≤ 626 := by
    rw [← Paired.length P.rq, M.qeq, List.length_cons]
    have e1 := flen T
    have e3 : T.length * ws.length ≤ 25 * 25 := Nat.mul_le_mul (by omega) h2
    omega
  have hTvlen : Tv.length ≤ 25 := by rw [← Paired.length P.rt]; omega
  obtain ⟨q, q', kq, hqq, W, hkq⟩ := P.waits
  subst hqq
  obtain ⟨mg, hng⟩ : ∃ mg, h'.Ns Lg mg := by
    obtain ⟨_, n, gs, Inv, _, _, hi, hs, _⟩ := W
    obtain ⟨mg, hng, _⟩ := hs _ hi
    exact ⟨mg, hng⟩
  have hok : ∀ u ∈ q ++ q', RowOk h' u ∧ KF h' := fun u hu => by
    obtain ⟨i, hi⟩ := List.getElem?_of_mem hu
    obtain ⟨p, hp, a, e, hla, _⟩ := paired_at P.rq hi
    exact ⟨⟨a, _, e, hla, (by simpa using hw _ (hQw p (List.mem_of_getElem? hp))), by simp⟩, P.kf⟩
  have keyOf : ∀ {i : Nat} {u : Value} {p : Value × Value}, (q ++ q')[i]? = some u → Q[i]? = some p → kyK h' u = pkey p := fun hi hp => by
    obtain ⟨p', hp', r⟩ := paired_at P.rq hi
    rw [hp] at hp'; cases hp'
    show skey (rowHead _ _) = _
    rw [r.head]; rfl
  have hTg : Ta ≠ Lg := fun z => by obtain ⟨o, ho, _⟩ := hTl₇.isList; rw [z, hLg] at ho; cases ho
  have hQg : Qa ≠ Lg := fun z => by obtain ⟨o, ho, _⟩ := hQl₇.isList; rw [z, hLg] at ho; cases ho
  refine gen_next hhA (G.but P.base).nl (by show A.depth + 1 < 1000; omega) W (keep_without P.base) ((hfa.but htab P.base h5).cons hpk rfl P.ns) hgL P.queue.isList hok hkq (fun j v ha tka gsa hv hS hb KC KB GO WA => ?_) (fun ha tka gsa hall KC KF' GO hfin => ?_)
  · obtain ⟨p, hp, a, rfl, hla, haQ, haT⟩ := paired_at P.rq hv
    have hkp := keyOf hv hp
    have hpw : p.1 ∈ ws := hQw p (List.mem_of_getElem? hp)
    have hps := hw _ hpw
    have hS' : hasK pkey T (pkey p) = false := by rw [← hkp]; exact hS
    have M' := M.step hp hS' fun k u hk hu => by
      obtain ⟨y, hy, _⟩ := paired_at' P.rq hu
      have := hb k y hk hy
      rwa [keyOf hy hu] at this
    have hTw' : ∀ x ∈ T ++ [p], x.1 ∈ ws := fun x hx => by
      rcases List.mem_append.mp hx with hx | hx
      · exact hTw x hx
      · rw [List.mem_singleton.mp hx]; exact hpw
    have hlen' : (T ++ [p]).length ≤ ws.length := lenB _ hTw' M'.nodup
    have stepA : ∀ b xs, b ≠ Qa → b ≠ Ta → h'.IsList b xs → ha.IsList b xs := fun b xs _ _ hb => KC.isList (ne_list_ns hb hng) hb
    have nsa := KC.ns hLp P.ns
    have ca := KC.cell hCg P.cell
    have ta := KC.plain hTg P.told
    have qa := KC.plain hQg P.queue
    have ba := but_of_without KB
    have kfa := hK.keepC P.kf hng KC
    have rqa := P.rq.step stepA
    have rta := P.rt.step stepA
    have ga1 := WA.1
    show wpAny _ _ (assign _ _ (.ref a)) _ _ _
    refine wpAny_assign_Name (wpAny_storeName_cell (c := Lp + 1) rfl rfl rfl ca fun hb' cb hsb => ?_)
    have stepB : ∀ b xs, b ≠ Qa → b ≠ Ta → ha.IsList b xs → hb'.IsList b xs := fun b xs _ _ hb => hb.extBut hsb.extBut (ne_list_cell hb ca)
    have nsb := nsa.sameBut hsb (ne_ns_cell nsa ca)
    have tb := ta.extBut hsb.extBut (ne_list_cell ta.isList ca)
    have qb := qa.extBut hsb.extBut (ne_list_cell qa.isList ca)
    have bb := ba.ext hsb.extBut hCn
    have kfb := hK.extBut kfa hsb.extBut (fkind_cell ca)
    have rqb := rqa.step stepB
    have rtb := rta.step stepB
    have Wb := WA.extBut (h' := hb') (tk := tka) hsb.extBut (ext_cell ca) hCg (ne_cell_gen ca ga1)
    have hab : hb'.IsList a [p.1, p.2].toArray := stepB a _ haQ haT (stepA a _ haQ haT hla)
    refine wpAny_execs_cons ?_
    refine stmt_append ?_
    refine nm_local nsb rfl rfl P.mt ?_
    refine ⟨Ta, _, rfl, tb, ?_⟩
    refine nm_cell cb rfl rfl rfl ?_
    refine ⟨Tv, tb, by omega, fun hc tc hsc => ?_⟩
    have stepC : ∀ b xs, b ≠ Qa → b ≠ Ta → hb'.IsList b xs → hc.IsList b xs := fun b xs _ hbt hb => hb.extBut hsc.extBut hbt
    have nsc := nsb.sameBut hsc (Ne.symm hTL)
    have cc := cb.sameBut hsc (Ne.symm (ne_list_cell tb.isList cb))
    have qc := qb.extBut hsc.extBut hQT
    have bc := bb.ext hsc.extBut hTs
    have kfc := hK.extBut kfb hsc.extBut (fkind_list tb.isList)
    have rqc := rqb.step stepC
    have rtc : RowsAt Qa Ta hc (T ++ [p]) (Tv ++ [.ref a]) := (rtb.step stepC).snoc ⟨a, rfl, stepC a _ haQ haT hab, haQ, haT⟩
    have hac := stepC a _ haQ haT hab
    have Wc := Wb.extBut (h' := hc) (tk := tka) hsc.extBut (ext_list tb.isList) hTg (ne_list_gen tb.isList Wb.1)
    have hlc : hc.IsList l ws.toArray := let ⟨o, ho, r⟩ := hl; ⟨o, bc _ _ hl85 ho, r⟩
    refine wpAny_execs_cons ?_
    refine stmt_extend ?_
    refine nm_local nsc rfl rfl P.mq ?_
    refine ⟨Qa, _, rfl, qc, ?_⟩
    refine comp_listO (cl := [("row", Lp + 1)]) (fun x => [x, p.1]) rfl (by decide) rfl (by decide) rfl hh ?_
    refine eval_call nofun ?_
    refine nm_global (v := .ref 71) (G.but bc) rfl rfl rfl rfl ?_
    refine callWith_top rfl rfl ?_
    refine args_cons ?_
    refine nm_local nsc rfl rfl P.mw ?_
    refine args_cons ?_
    refine Subscript_ ?_
    refine nm_cell cc rfl rfl rfl ?_
    refine wpAny_Constant_int ?_
    refine item_list hac (k := 0) (by simp) rfl (by simp) ?_
    refine args_nil ?_
    refine ⟨G.but bc, wpAny_call (after_spec (G.but bc) hh (by show A.depth + 1 < 900; omega) hlc h1 h2 hw hps fun hd' tkd al kd _ hal => ?_)⟩
    have hacd := isList_keeps hac kd
    have ccd := cc.keeps kd
    have hal' : hd'.PlainList al (aft ws p.1).toArray := hal
    refine ⟨al, aft ws p.1, rfl, hal'.isList, (by have := aft_len ws p.1; omega), ?_, ?_⟩
    · intro C i x s₃ m₃ hC hxi hns hm hkp
      refine PyProof.Rows.List_ ?_
      refine args_cons ?_
      refine nm_local hns rfl rfl hm ?_
      refine args_cons ?_
      refine Subscript_ ?_
      refine nm_cell (ccd.keeps hkp) rfl rfl rfl ?_
      refine wpAny_Constant_int ?_
      refine item_list (isList_keeps hacd hkp) (k := 0) (by simp) rfl (by simp) ?_
      refine args_nil ?_
      refine new_list (by simp) fun y hy hyE _ ky hyl => ?_
      exact ⟨⟨y, rfl, none_of_ge (Nat.le_of_eq hyE.symm), hyl.isList⟩, _, _, rfl, ky⟩
    · intro D he te ys hD hDl hRows kde
      have kce := Keep.trans kd kde
      have qd := plain_keeps qc kd
      have td := plain_keeps tc kd
      have qe := plain_keeps qd kde
      have hyl : ys.length ≤ 25 := by
        have e := hRows.length
        rw [List.length_map] at e
        have := aft_len ws p.1
        omega
      refine ⟨D, _, _, rfl, qe, hDl, by omega, by omega, fun hf pf hsf => ?_⟩
      have stepE : ∀ b xs, b ≠ Qa → b ≠ Ta → hc.IsList b xs → he.IsList b xs := fun b xs _ _ hb => isList_keeps hb kce
      have stepF : ∀ b xs, b ≠ Qa → b ≠ Ta → he.IsList b xs → hf.IsList b xs := fun b xs hbq _ hb => hb.extBut hsf.extBut hbq
      have rqf := (rqc.step stepE).step stepF
      have rtf := (rtc.step stepE).step stepF
      have rnew : RowsAt Qa Ta hf (blk ws p) ys := (rows_pairs (by obtain ⟨n, ho⟩ := qd; rw [ho]; nofun) (by obtain ⟨n, ho⟩ := td; rw [ho]; nofun) hRows).step stepF
      have We := (Wc.keep (h' := he) (tk := te) kce).extBut (h' := hf) (tk := te) hsf.extBut (ext_list qe.isList) hQg (ne_list_gen qe.isList (Wc.keep (h' := he) (tk := te) kce).1)
      refine wpAny_execs_nil ?_
      refine ⟨ws.length + 1 - (T ++ [p]).length, ?_, hf, te, gsa, m, some (.ref a), T ++ [p], Q ++ blk ws p, Tv ++ [.ref a], (q ++ q') ++ ys, rfl, ?_, M', hTw', rfl⟩
      · rw [List.length_append] at hlen' ⊢
        simp only [List.length_singleton] at hlen' ⊢
        omega
      · exact { ns := (nsc.keeps kce).sameBut hsf (Ne.symm hQL), mw := P.mw, mt := P.mt, mq := P.mq
                cell := (cc.keeps kce).sameBut hsf (Ne.symm (ne_list_cell qe.isList (cc.keeps kce)))
                told := (plain_keeps td kde).extBut hsf.extBut (Ne.symm hQT), queue := pf
                rt := rtf, rq := paired_append rqf rnew
                kf := hK.extBut (hK.keep kfc kce) hsf.extBut (fkind_list qe.isList)
                base := (bc.keep kce).ext hsf.extBut hQs
                waits := ⟨q ++ q', ys, kyK h', rfl, by
                  have e : (fun k => hasK pkey (T ++ [p]) k) = fun k => hasK pkey T k || decide (k = kyK h' (.ref a)) := by
                    funext k; rw [hasK_append, hkp]; congr 1; exact hasK_one' _ _
                  rw [e]; exact We, fun u hu => rows_ky rqf P.rq u hu⟩
                gens := P.gens.only GO
                tab := by
                  obtain ⟨tb, e0⟩ := P.tab
                  have e1 := (KC _ _ (Ne.symm hLg85) rfl e0).1 List.not_mem_nil
                  exact ⟨tb, hsf.extBut _ _ (Ne.symm (n85 hQs)) (kce _ _ (hsc.extBut _ _ (Ne.symm (n85 hTs)) (hsb.extBut _ _ (Ne.symm (n85 hCn)) e1)))⟩ }
  · have nsa := KC.ns hLp P.ns
    have ta := KC.isList hTg P.told.isList
    refine wpAny_execs_nil ?_
    refine wpAny_execs_cons ?_
    refine wpAny_Return_some ?_
    refine nm_local nsa rfl rfl P.mt ?_
    refine h ha tka gsa Ta Tv T (fun b o hb e => ?_) ?_ (fun hbare => ((P.gens.only GO).bare hfin hbare)) ta (P.rt.mono fun p y ⟨b, e, hlb, _⟩ => ⟨b, e, KC.isList (ne_list_ns hlb hng) hlb⟩) (M.ends fun u hu => ?_)
    · have e' := (without_out s.heap (Ls := [85]) fun z => hb (List.mem_singleton.mp z)).trans e
      refine ⟨fun hn => KF'.1 b o (fun z => ?_) e', KF'.2 b o e'⟩
      have hlc : locs (kenv w Lp :: outer) = Lp :: locs outer := rfl
      rw [hlc] at z
      rcases List.mem_cons.mp z with z | z
      · rw [z, hLn] at e; cases e
      · exact hn z
    · obtain ⟨tb, e0⟩ := P.tab
      refine ⟨tb, (KC _ _ (Ne.symm hLg85) rfl e0).1 (fun z => ?_)⟩
      have hlc : locs (kenv w Lp :: outer) = Lp :: locs outer := rfl
      rw [hlc] at z
      rcases List.mem_cons.mp z with z | z
      · exact n85 hLn z.symm
      · exact h5 z
    obtain ⟨i, hi⟩ := List.getElem?_of_mem hu
    obtain ⟨y, hy, _⟩ := paired_at' P.rq hi
    have := hall y (List.mem_of_getElem? hy)
    rwa [keyOf hy hi] at this
end
end Mine
end

noncomputable section
open PySem PySem.W PySem.Calls PyProof.Rows
set_option maxRecDepth 100000
namespace Mine

def dat : Value → PyData
  | .int n _ => .int n
  | .bool b => .bool b
  | _ => .none
def IsDat (v : Value) : Prop := IsStop v ∨ v = .none

structure Ok (k W : Nat) (d : PyData) : Prop where
  lay : d.canLay0 = true
  depth : d.depth ≤ k
  weight : d.weight ≤ W
  ishort : d.intsShort 13 = true
  shw : d.showable = true
  nodict : d.hasDict = false

theorem ok_int : ∀ n : Nat, n < 16 → Ok 0 5 (.int (n : Int)) := by
  intro n hn
  have h1 : ∀ n : Fin 16, ((PyData.int ((n.val : Nat) : Int)).shown.length ≤ 13) := by decide +kernel
  have h2 : ∀ n : Fin 16, (PyData.int ((n.val : Nat) : Int)).weight ≤ 5 := by decide +kernel
  have h3 : ∀ n : Fin 16, (PyData.int ((n.val : Nat) : Int)).showable = true := by decide +kernel
  refine ⟨rfl, Nat.le_refl _, h2 ⟨n, hn⟩, ?_, h3 ⟨n, hn⟩, rfl⟩
  simp only [PyData.intsShort]
  exact decide_eq_true (h1 ⟨n, hn⟩)
theorem ok_dat {v : Value} (h : IsDat v) : Ok 0 5 (dat v) := by
  rcases h with (⟨n, t, rfl, a, b⟩ | ⟨b, rfl⟩) | rfl
  · obtain ⟨m, rfl⟩ := Int.eq_ofNat_of_zero_le a
    exact ok_int m (by omega)
  · exact ⟨rfl, Nat.le_refl _, Nat.zero_le _, rfl, rfl, rfl⟩
  · exact ⟨rfl, Nat.le_refl _, Nat.zero_le _, rfl, rfl, rfl⟩
theorem ok_all {k W : Nat} : ∀ {ds : List PyData}, (∀ d ∈ ds, Ok k W d) → PyData.canLayAll0 ds = true ∧ PyData.depthAll ds ≤ k ∧ PyData.weightAll ds ≤ ds.length * (W + 1) ∧ PyData.intsShortAll 13 ds = true ∧ PyData.showableAll ds = true ∧ PyData.hasDictAll ds = false
  | [], _ => ⟨rfl, Nat.zero_le _, Nat.zero_le _, rfl, rfl, rfl⟩
  | d :: r, h => by
    obtain ⟨a, b, c, e, f, g⟩ := ok_all (ds := r) fun x hx => h x (List.mem_cons_of_mem _ hx)
    have o := h d (List.mem_cons_self ..)
    refine ⟨?_, ?_, ?_, ?_, ?_, ?_⟩
    · simp only [PyData.canLayAll0, o.lay, a, Bool.and_self]
    · simp only [PyData.depthAll]; exact Nat.max_le.mpr ⟨o.depth, b⟩
    · simp only [PyData.weightAll, List.length_cons, Nat.succ_mul]
      have := o.weight
      omega
    · simp only [PyData.intsShortAll, o.ishort, e, Bool.and_self]
    · simp only [PyData.showableAll, o.shw, f, Bool.and_self]
    · simp only [PyData.hasDictAll, o.nodict, g, Bool.or_self]
theorem ok_list {k W n : Nat} {ds : List PyData} (h : ∀ d ∈ ds, Ok k W d) (hn : ds.length ≤ n) : Ok (k + 1) (n * (W + 1)) (.list ds) := by
  obtain ⟨a, b, c, e, f, g⟩ := ok_all h
  refine ⟨?_, ?_, ?_, ?_, ?_, ?_⟩
  · simp only [PyData.canLay0]; exact a
  · simp only [PyData.depth]; omega
  · simp only [PyData.weight]; exact Nat.le_trans c (Nat.mul_le_mul_right _ hn)
  · simp only [PyData.intsShort]; exact e
  · simp only [PyData.showable]; exact f
  · simp only [PyData.hasDict]; exact g
theorem Ok.shown {k W : Nat} {d : PyData} (o : Ok k W d) (hk : k ≤ 64) (hW : W ≤ 2 ^ 20) : d.shown.length ≤ sizeLine := by
  have := shown_le13 (d := d) (by
    unfold PyData.layable0
    rw [o.lay, decide_eq_true (Nat.le_trans o.depth hk), decide_eq_true (Nat.le_trans o.weight hW)]; rfl) o.ishort
  rw [sizeLine_eq]; omega

theorem reads_dat {h : Heap} {v : Value} (x : IsDat v) : Reads h v (dat v) [] := by
  rcases x with (⟨n, t, rfl, _⟩ | ⟨b, rfl⟩) | rfl
  · exact .int n t
  · exact .bool b
  · exact .none
theorem reads_dats {h : Heap} : ∀ {xs : List Value}, (∀ v ∈ xs, IsDat v) → ReadsAll h xs (xs.map dat) []
  | [], _ => .nil
  | v :: r, hx => by
    have := ReadsAll.cons (reads_dat (h := h) (hx v (List.mem_cons_self ..))) (reads_dats (h := h) (xs := r) fun u hu => hx u (List.mem_cons_of_mem _ hu))
    simpa using this
theorem reads_list {h : Heap} {a : Addr} {xs : List Value} (hl : h.IsList a xs.toArray) (hx : ∀ v ∈ xs, IsDat v) : Reads h (.ref a) (.list (xs.map dat)) [a] := by
  obtain ⟨o, ho, hc, n, hd⟩ := hl
  exact .list ho hc hd (reads_dats hx)
abbrev rowDat (p : Value × Value) : PyData := .list [dat p.1, dat p.2]
theorem reads_rows {h : Heap} : ∀ {ps : List (Value × Value)} {ys : List Value}, Paired (fun p y => ∃ a, y = .ref a ∧ h.IsList a [p.1, p.2].toArray) ps ys → (∀ p ∈ ps, IsDat p.1 ∧ IsDat p.2) → ∃ as, ReadsAll h ys (ps.map rowDat) as
  | [], _, .nil, _ => ⟨_, .nil⟩
  | p :: _, _, .cons ⟨a, e, hl⟩ r, hx => by
    obtain ⟨as, ih⟩ := reads_rows r fun q hq => hx q (List.mem_cons_of_mem _ hq)
    subst e
    have hp := hx p (List.mem_cons_self ..)
    exact ⟨_, .cons (reads_list hl fun v hv => by rcases List.mem_cons.mp hv with q | q; exact q ▸ hp.1; rcases List.mem_cons.mp q with q | q; exact q ▸ hp.2; cases q) ih⟩

section
variable {prog : Program} {w : World} {A : Around} {E : Value → Shared → Prop} {s : Shared}
theorem call_repr {a : Addr} {d : PyData} {as : List Addr} {k W : Nat} {Q : Value → Shared → Prop} (r : Reads s.heap (.ref a) d as) (o : Ok k W d) (hk : k ≤ 64) (hW : W ≤ 2 ^ 20) (hg : A.guards = some []) (hu : A.units < 5000)
    (h : ∀ h' u tk, Keep s.heap h' → Q (.str d.shown u) { s with heap := h', toks := tk }) : wpAny (model prog w) A (call (.builtin "repr") [.ref a]) Q E s :=
  repr_of_reads' r o.shw (fun e => by rw [o.nodict] at e; cases e) hg (by have := o.depth; show A.units + (d.depth + 1) < cLine; unfold cLine; omega) (fun _ _ e => e) (fun h' u tk k => h h' u tk k) (o.shown hk hW)
end
end Mine
end

section
open PySem
namespace Mine
theorem Bfs.lift {ws : List Value} : ∀ {met q T : List Value}, Bfs skey (aft ws) met q T → ∀ {met' q' : List (Value × Value)}, met'.map Prod.fst = met → q'.map Prod.fst = q → ∃ T', Bfs pkey (blk ws) met' q' T' := by
  intro met q T h
  have hk : ∀ (l : List (Value × Value)) (k : Int), hasK pkey l k = hasK skey (l.map Prod.fst) k := fun l k => by
    simp only [hasK, List.any_map]; rfl
  induction h with
  | done => intro met' q' _ e2; rw [List.map_eq_nil_iff.mp e2]; exact ⟨_, .done⟩
  | @skip met x q T hs _ ih =>
    intro met' q' e1 e2
    obtain ⟨p, q₁, rfl, rfl, e3⟩ := List.map_eq_cons_iff.mp e2
    obtain ⟨T', h'⟩ := ih e1 e3
    exact ⟨T', .skip (by rw [hk, e1]; exact hs) h'⟩
  | @take met x q T ht _ ih =>
    intro met' q' e1 e2
    obtain ⟨p, q₁, rfl, rfl, e3⟩ := List.map_eq_cons_iff.mp e2
    obtain ⟨T', h'⟩ := ih (met' := met' ++ [p]) (q' := q₁ ++ blk ws p) (by rw [List.map_append, e1]; rfl) (by rw [List.map_append, e3, blk_fst])
    exact ⟨T', .take (by rw [hk, e1]; exact ht) h'⟩
theorem exists_rows {ws : List Value} {w0 : Value} {T : List Value} (h : Bfs skey (aft ws) [] [w0] T) : ∃ T2, Bfs pkey (blk ws) [] [(w0, Value.none)] T2 := h.lift (met' := []) rfl rfl
end Mine
end

noncomputable section
open PySem PySem.W PySem.Calls PyProof.Rows
set_option maxRecDepth 100000
namespace Mine

abbrev lenv (w : World) (L : Addr) : Env := callEnvC (fnAt w 93) L 93

/-- the walk of law, under way -/
structure LSt (s : Shared) (L Wa : Addr) (ws : List Value) (dv av wv lv : Option Value) (m : Str → Option Value) (h : Heap) : Prop where
  ns : h.Ns L m
  c1 : h.IsCell (L + 1) (some (.ref Wa))
  c2 : h.IsCell (L + 1 + 1) dv
  c3 : h.IsCell (L + 1 + 1 + 1) av
  c4 : h.IsCell (L + 1 + 1 + 1 + 1) wv
  c5 : h.IsCell (L + 1 + 1 + 1 + 1 + 1) lv
  wl : h.IsList Wa ws.toArray
  keep : Keep s.heap h
  nL : s.heap.get? L = none
  n1 : s.heap.get? (L + 1) = none
  n2 : s.heap.get? (L + 1 + 1) = none
  n3 : s.heap.get? (L + 1 + 1 + 1) = none
  n4 : s.heap.get? (L + 1 + 1 + 1 + 1) = none
  n5 : s.heap.get? (L + 1 + 1 + 1 + 1 + 1) = none

section
variable {s : Shared} {L Wa : Addr} {ws : List Value} {dv av wv lv : Option Value} {m : Str → Option Value} {h h' : Heap}
theorem LSt.keeps (S : LSt s L Wa ws dv av wv lv m h) (k : Keep h h') : LSt s L Wa ws dv av wv lv m h' :=
  { S with ns := S.ns.keeps k, c1 := S.c1.keeps k, c2 := S.c2.keeps k, c3 := S.c3.keeps k, c4 := S.c4.keeps k, c5 := S.c5.keeps k, wl := isList_keeps S.wl k, keep := Keep.trans S.keep k }
/-- a list of the walk's own is changed -/
theorem LSt.list (S : LSt s L Wa ws dv av wv lv m h) {a : Addr} {xs : Array Value} (hs : Heap.ExtBut a h h') (hl : h.IsList a xs) (hw : Wa ≠ a) (hn : s.heap.get? a = none) : LSt s L Wa ws dv av wv lv m h' :=
  { S with ns := S.ns.extBut hs (Ne.symm (ne_list_ns hl S.ns)), c1 := cell_extBut S.c1 hs (Ne.symm (ne_list_cell hl S.c1)), c2 := cell_extBut S.c2 hs (Ne.symm (ne_list_cell hl S.c2)), c3 := cell_extBut S.c3 hs (Ne.symm (ne_list_cell hl S.c3))
           c4 := cell_extBut S.c4 hs (Ne.symm (ne_list_cell hl S.c4)), c5 := cell_extBut S.c5 hs (Ne.symm (ne_list_cell hl S.c5)), wl := S.wl.extBut hs hw, keep := keep_but S.keep hs hn }
theorem LSt.iter (S : LSt s L Wa ws dv av wv lv m h) {I l : Addr} {i : Nat} (hs : Heap.ExtBut I h h') (hl : h.IsListIter I l i) (hn : s.heap.get? I = none) : LSt s L Wa ws dv av wv lv m h' :=
  { S with ns := S.ns.extBut hs (ne_ns_iter S.ns hl), c1 := cell_extBut S.c1 hs (ne_cell_iter S.c1 hl), c2 := cell_extBut S.c2 hs (ne_cell_iter S.c2 hl), c3 := cell_extBut S.c3 hs (ne_cell_iter S.c3 hl)
           c4 := cell_extBut S.c4 hs (ne_cell_iter S.c4 hl), c5 := cell_extBut S.c5 hs (ne_cell_iter S.c5 hl), wl := S.wl.extBut hs (ne_list_iter S.wl hl), keep := keep_but S.keep hs hn }
theorem LSt.local (S : LSt s L Wa ws dv av wv lv m h) {m' : Str → Option Value} (hs : Heap.SameBut L h h') (hn : h'.Ns L m') : LSt s L Wa ws dv av wv lv m' h' :=
  { S with ns := hn, c1 := S.c1.sameBut hs (neN (by omega)), c2 := S.c2.sameBut hs (neN (by omega)), c3 := S.c3.sameBut hs (neN (by omega)), c4 := S.c4.sameBut hs (neN (by omega)), c5 := S.c5.sameBut hs (neN (by omega))
           wl := S.wl.extBut hs.extBut (ne_list_ns S.wl S.ns), keep := keep_but S.keep hs.extBut S.nL }
theorem LSt.cell2 (S : LSt s L Wa ws dv av wv lv m h) {v : Option Value} (hs : Heap.SameBut (L + 1 + 1) h h') (hc : h'.IsCell (L + 1 + 1) v) : LSt s L Wa ws v av wv lv m h' :=
  { S with ns := S.ns.sameBut hs (neN (by omega)), c1 := S.c1.sameBut hs (neN (by omega)), c2 := hc, c3 := S.c3.sameBut hs (neN (by omega)), c4 := S.c4.sameBut hs (neN (by omega)), c5 := S.c5.sameBut hs (neN (by omega))
           wl := S.wl.extBut hs.extBut (ne_list_cell S.wl S.c2), keep := keep_but S.keep hs.extBut S.n2 }
theorem LSt.cell3 (S : LSt s L Wa ws dv av wv lv m h) {v : Option Value} (hs : Heap.SameBut (L + 1 + 1 + 1) h h') (hc : h'.IsCell (L + 1 + 1 + 1) v) : LSt s L Wa ws dv v wv lv m h' :=
  { S with ns := S.ns.sameBut hs (neN (by omega)), c1 := S.c1.sameBut hs (neN (by omega)), c2 := S.c2.sameBut hs (neN (by omega)), c3 := hc, c4 := S.c4.sameBut hs (neN (by omega)), c5 := S.c5.sameBut hs (neN (by omega))
           wl := S.wl.extBut hs.extBut (ne_list_cell S.wl S.c3), keep := keep_but S.keep hs.extBut S.n3 }
theorem LSt.cell4 (S : LSt s L Wa ws dv av wv lv m h) {v : Option Value} (hs : Heap.SameBut (L + 1 + 1 + 1 + 1) h h') (hc : h'.IsCell (L + 1 + 1 + 1 + 1) v) : LSt s L Wa ws dv av v lv m h' :=
  { S with ns := S.ns.sameBut hs (neN (by omega)), c1 := S.c1.sameBut hs (neN (by omega)), c2 := S.c2.sameBut hs (neN (by omega)), c3 := S.c3.sameBut hs (neN (by omega)), c4 := hc, c5 := S.c5.sameBut hs (neN (by omega))
           wl := S.wl.extBut hs.extBut (ne_list_cell S.wl S.c4), keep := keep_but S.keep hs.extBut S.n4 }
theorem LSt.cell5 (S : LSt s L Wa ws dv av wv lv m h) {v : Option Value} (hs : Heap.SameBut (L + 1 + 1 + 1 + 1 + 1) h h') (hc : h'.IsCell (L + 1 + 1 + 1 + 1 + 1) v) : LSt s L Wa ws dv av wv v m h' :=
  { S with ns := S.ns.sameBut hs (neN (by omega)), c1 := S.c1.sameBut hs (neN (by omega)), c2 := S.c2.sameBut hs (neN (by omega)), c3 := S.c3.sameBut hs (neN (by omega)), c4 := S.c4.sameBut hs (neN (by omega)), c5 := hc
           wl := S.wl.extBut hs.extBut (ne_list_cell S.wl S.c5), keep := keep_but S.keep hs.extBut S.n5 }
end
end Mine
end

noncomputable section
open PySem PySem.W PySem.Calls PyProof.Rows
set_option maxRecDepth 100000
namespace Mine

abbrev AftRows (ws : List Value) (h : Heap) (T Av : List Value) : Prop := Paired (fun t y => ∃ a, y = .ref a ∧ h.IsList a (aft ws t).toArray) T Av
theorem AftRows.step {ws : List Value} {h h' : Heap} {T Av : List Value} (x : AftRows ws h T Av) (k : ∀ a xs, Value.ref a ∈ Av → h.IsList a xs → h'.IsList a xs) : AftRows ws h' T Av := by
  induction x with
  | nil => exact .nil
  | cons r _ ih =>
    obtain ⟨a, rfl, hl⟩ := r
    exact .cons ⟨a, rfl, k a _ (List.mem_cons_self ..) hl⟩ (ih fun b xs hb => k b xs (List.mem_cons_of_mem _ hb))

structure LB (s : Shared) (L Wa Da Aa Fa : Addr) (ws T Av : List Value) (wv lv : Option Value) (m : Str → Option Value) (h : Heap) : Prop where
  st : LSt s L Wa ws (some (.ref Da)) (some (.ref Aa)) wv lv m h
  mf : m "full" = some (.ref Fa)
  due : h.IsList Da T.toArray
  after : h.IsList Aa Av.toArray
  rows : AftRows ws h T Av
  full : h.IsList Fa (ws.getD 0 .none :: T.flatMap (aft ws)).toArray
  bfs : Bfs skey (aft ws) [] [ws.getD 0 .none] T
  sub : ∀ v ∈ T, v ∈ ws
  len : T.length ≤ ws.length

theorem extendI (l : Addr) (items : Array Value) (n : Nat) (b : Addr) (items2 : Array Value) (n2 : Nat) (dd : Option Addr) (sl : Array (Option Value)) (hc0 : ¬(!items.isEmpty && Builtin.List.listTooLong (items.size + items2.size)) = true) (hc1 : items.size ≤ sizeLine) (hs2 : items.size + items2.size ≤ sizeLine + 1) :
    Meets (Builtin.«list.extend» ⟨[.ref l, .ref b], []⟩) (fun _ R s => s.heap.get? l = some { cls := .type "list", dict := none, data := .seq items n, slots := #[] } ∧ s.heap.get? b = some { cls := .type "list", dict := dd, data := .seq items2 n2, slots := sl } ∧
      R (.ok (.ret Value.none)) { s with heap := s.heap.update l (Obj.mapSeq fun x => x ++ items2), toks := s.toks }) :=
  .of_wp fun prog w A R s h => by
    obtain ⟨hp, g, d, tk, os⟩ := s
    obtain ⟨hl, hb, h⟩ := h
    have f2 := sub_tuple_tuple
    have f3 := sub_list_list
    have f4 := sub_tuple_list
    have f5 := sub_list_tuple
    have hz' : (items ++ items2).size ≤ sizeLine + 1 := by rw [Array.size_append]; exact hs2
    wp_walk using (wpAny_updateSeq hl rfl (hz := hc1) (_hz' := hz')), wpAny_loadPart' hl, wpAny_loadPart' hb
    exact ⟨_, rfl, h⟩

section
variable {prog : Program} {w : World} {A : Around} {E : Value → Shared → Prop} {s : Shared}

theorem call_extendI {l b : Addr} {xs ys : List Value} {Q : Value → Shared → Prop} (hl : s.heap.PlainList l xs.toArray) (hb : s.heap.IsList b ys.toArray) (h1 : xs.length ≤ 100000) (h2 : ys.length ≤ 100000)
    (hQ : ∀ h', h'.PlainList l (xs ++ ys).toArray → Heap.SameBut l s.heap h' → Q .none { s with heap := h' }) :
    wpAny (model prog w) A (call (.builtin "list.extend") [.ref l, .ref b]) Q E s := by
  obtain ⟨n, hl⟩ := hl
  obtain ⟨⟨c, dd, da, sl⟩, hb, hc, n2, hd⟩ := hb
  dsimp only at hc hd
  subst hc hd
  refine call_meets F.slot_list_extend ⟨_, hl, rfl⟩ F.entry_list_extend (F.args_list_extend_2 _ _) (extendI l xs.toArray n b ys.toArray n2 dd sl ?_ ?_ ?_) ⟨hl, hb, ?_⟩
  · have : Builtin.List.listTooLong (xs.toArray.size + ys.toArray.size) = false := by
      unfold Builtin.List.listTooLong; rw [sizeLine_eq]; simp; omega
    rw [this]; simp
  · rw [sizeLine_eq]; simp; omega
  · rw [sizeLine_eq]; simp; omega
  · have := IsL.update (h := s.heap) (l := l) hl (fun x => x ++ ys.toArray)
    rw [show xs.toArray ++ ys.toArray = (xs ++ ys).toArray by simp] at this
    exact hQ _ ⟨_, this⟩ (Heap.SameBut.update ..)

theorem stmt_extendI {env : Env} {o e : Expr} {apos pos pos' : Pos} {Q : Flow → Shared → Prop}
    (h : wpAny (model prog w) A (eval o env) (fun ov s₁ => ∃ l xs, ov = .ref l ∧ s₁.heap.PlainList l xs ∧
      wpAny (model prog w) A (eval e env) (fun v s₂ => ∃ (b : Addr) (xs ys : List Value), v = .ref b ∧ s₂.heap.PlainList l xs.toArray ∧ s₂.heap.IsList b ys.toArray ∧ xs.length ≤ 100000 ∧ ys.length ≤ 100000 ∧
        ∀ h', h'.PlainList l (xs ++ ys).toArray → Heap.SameBut l s₂.heap h' → Q .next { s₂ with heap := h' }) E s₁) E s)
    (hbase : attributeBase o "extend" env (eval o env) = eval o env := by rfl)
    (hfew : ((backTo pos (starEach [e] env)).all (fun x => !x.1) && (backToKw pos (keywordEach [] env)).all (fun x => x.1.isSome)
      && decide ([e].length + ([] : List Keyword).length + (if ([] : List Keyword).isEmpty then 0 else 1) < 30)) = true := by rfl)
    (hline : (apos.endLine == pos.line) = true := by rfl) (he : starEach [e] env = (false, eval e env) :: starEach [] env := by rfl)
    (hi : interactive env = false := by rfl) (hsw : swapsWith (.Call (.Attribute o "extend" apos) [e] [] pos) none pos'.line env = pure false := by rfl) :
    wpAny (model prog w) A (exec (.Expr (.Call (.Attribute o "extend" apos) [e] [] pos) pos') env) Q E s := by
  refine wpAny_Expr ?_ hi hsw
  refine wpAny_Call_method (T := "list") (id := "list.extend") hbase hfew hline F.plainAttrs_list F.slot_list_extend F.type_list_extend (wpAny_mono h (fun ov s₁ h₁ => ?_) fun _ _ x => x)
  obtain ⟨l, xs, rfl, ⟨n, hl⟩, h₁⟩ := h₁
  refine ⟨⟨_, hl, rfl⟩, fun a ea => by cases ea; exact ⟨_, hl, rfl⟩, ?_⟩
  refine PyProof.Rows.callWith_method1 (args_cons (wpAny_mono h₁ (fun v s₂ h₂ => args_nil ?_) (fun _ _ x => x)) he) he rfl
  obtain ⟨b, ys, zs, rfl, hly, hbz, a1, a2, hq⟩ := h₂
  exact call_extendI hly hbz a1 a2 hq

set_option maxHeartbeats 8000000 in
theorem law_a {Q : Flow → Shared → Prop} {L Wa : Addr} {ws : List Value} {m : Str → Option Value} {h : Heap} {tk : Tok} (G : Gd w s.heap) (hh : A.handled = none) (hd : A.depth < 700) (hu : A.units < 4900)
    (h1 : 1 ≤ ws.length) (h2 : ws.length ≤ 25) (hw : ∀ v ∈ ws, IsStop v) (S : LSt s L Wa ws none none none none m h)
    (hb : ∀ h' tk' m' Da Aa Fa T Av, LB s L Wa Da Aa Fa ws T Av none none m' h' → wpAny (model prog w) A (execs ((fnBody w 93).drop 5) (lenv w L)) Q (fun _ _ => False) { s with heap := h', toks := tk' }) :
    wpAny (model prog w) A (execs ((fnBody w 93).drop 1) (lenv w L)) Q (fun _ _ => False) { s with heap := h, toks := tk } := by
  have G₁ := G.keeps S.keep
  refine wpAny_execs_cons ?_
  refine wpAny_Assign_Name ?_
  refine eval_call nofun ?_
  refine nm_global (v := .ref 76) G₁ rfl rfl rfl rfl ?_
  refine callWith_top rfl rfl ?_
  refine args_cons ?_
  refine nm_cell S.c1 rfl rfl rfl ?_
  refine args_nil ?_
  refine ⟨G₁, wpAny_call (ring_spec G₁ hh (by omega) (by omega) S.wl h1 h2 hw fun h₂ tk₂ Da T k₂ hDa hDl hbfs hsub hlen => ?_)⟩
  have S₂ := S.keeps k₂
  refine wpAny_storeName_cell (c := L + 1 + 1) rfl rfl rfl S₂.c2 fun h₃ c2' hs₃ => ?_
  have S₃ := S₂.cell2 hs₃ c2'
  have hD₃ : h₃.IsList Da T.toArray := hDl.isList.extBut hs₃.extBut (ne_list_cell hDl.isList S₂.c2)
  have G₃ := G.keeps S₃.keep
  refine wpAny_execs_cons ?_
  refine wpAny_Assign_Name ?_
  refine comp_listO (cl := [("walk", L + 1)]) (fun t => aft ws t) rfl (by decide) rfl (by decide) rfl hh ?_
  refine nm_cell S₃.c2 rfl rfl rfl ?_
  refine ⟨Da, T, rfl, hD₃, by omega, ?_, ?_⟩
  · intro C i v s₃ m₃ hC hvi hns hm hkp
    have hvs : IsStop v := hw _ (hsub _ (List.mem_of_getElem? hvi))
    have S4 := S₃.keeps hkp
    have G4 := G.keeps S4.keep
    refine eval_call nofun ?_
    refine nm_global (v := .ref 71) G4 rfl rfl rfl rfl ?_
    refine callWith_top rfl rfl ?_
    refine args_cons ?_
    refine nm_cell S4.c1 rfl rfl rfl ?_
    refine args_cons ?_
    refine nm_local hns rfl rfl hm ?_
    refine args_nil ?_
    exact ⟨G4, wpAny_call (after_spec G4 hh (by omega) S4.wl h1 h2 hw hvs fun h' tk' a k' hn hal => ⟨⟨a, rfl, hn, hal.isList⟩, _, _, rfl, k'⟩)⟩
  intro Aa h₄ tk₄ Av hAa hAl hrows k₄
  have S₄ := S₃.keeps k₄
  have hAvl : Av.length ≤ 25 := by have := hrows.length; rw [List.length_map] at this; omega
  refine wpAny_storeName_cell (c := L + 1 + 1 + 1) rfl rfl rfl S₄.c3 fun h₅ c3' hs₅ => ?_
  have S₅ := S₄.cell3 hs₅ c3'
  have hD₅ : h₅.IsList Da T.toArray := (isList_keeps hD₃ k₄).extBut hs₅.extBut (ne_list_cell (isList_keeps hD₃ k₄) S₄.c3)
  have hA₅ : h₅.IsList Aa Av.toArray := hAl.isList.extBut hs₅.extBut (ne_list_cell hAl.isList S₄.c3)
  have r4 : AftRows ws h₄ T Av := by
    have : ∀ {T Av : List Value}, Rows h₃ h₄ (T.map fun t => aft ws t) Av → AftRows ws h₄ T Av := by
      intro T
      induction T with
      | nil => intro Av r; cases r; exact .nil
      | cons t T ih => intro Av r; cases r with | cons a r => obtain ⟨a', e, _, hl⟩ := a; exact .cons ⟨a', e, hl⟩ (ih r)
    exact this hrows
  have r5 : AftRows ws h₅ T Av := r4.step fun a xs _ hl => hl.extBut hs₅.extBut (ne_list_cell hl S₄.c3)
  -- full = [walk[0]]
  refine wpAny_execs_cons ?_
  refine wpAny_Assign_Name ?_
  refine PyProof.Rows.List_ ?_
  refine args_cons ?_
  refine Subscript_ ?_
  refine nm_cell S₅.c1 rfl rfl rfl ?_
  refine wpAny_Constant_int ?_
  refine item_list S₅.wl (k := 0) (by omega) rfl (by omega) ?_
  refine args_nil ?_
  refine new_list (by simp) fun Fa h₆ hFa _ k₆ hFl => ?_
  have hFn : h₅.get? Fa = none := none_of_ge (Nat.le_of_eq hFa.symm)
  have S₆ := S₅.keeps k₆
  refine st_local (L := L) S₆.ns rfl fun h₇ ns₇ hs₇ => ?_
  have S₇ := S₆.local hs₇ ns₇
  have hFl₇ := hFl.extBut hs₇.extBut (ne_list_ns hFl.isList S₆.ns)
  have li : ∀ {a : Addr} {xs : Array Value}, h₅.IsList a xs → h₇.IsList a xs := fun hl => (isList_keeps hl k₆).extBut hs₇.extBut (ne_list_ns (isList_keeps hl k₆) S₆.ns)
  have hD₇ := li hD₅
  have hA₇ := li hA₅
  have r7 := r5.step fun a xs _ hl => li hl
  have hWF : Wa ≠ Fa := ne_list_none S₅.wl hFn
  have hDF : Da ≠ Fa := ne_list_none hD₅ hFn
  have hAF : Aa ≠ Fa := ne_list_none hA₅ hFn
  have hrF : ∀ a xs, Value.ref a ∈ Av → h₇.IsList a xs → a ≠ Fa := fun a xs ha _ => by
    obtain ⟨i, hi⟩ := List.getElem?_of_mem ha
    obtain ⟨t, _, a', e, hl⟩ := paired_at r5 hi
    cases e
    exact ne_list_none hl hFn
  have hFs : s.heap.get? Fa = none := none_older S₅.keep hFn
  -- for row in after: full.extend(row)
  refine wpAny_execs_cons ?_
  refine wpAny_For ?_
  refine nm_cell S₇.c3 rfl rfl rfl ?_
  refine wpAny_pyIter_list hA₇ ?_
  have kI : Keep h₇ (h₇.push { cls := .type "list_iterator", data := .fields #[.ref Aa, .int 0 0] }) := fun b o e => Heap.get?_push_of_some _ e
  have hI₀ : (h₇.push { cls := .type "list_iterator", data := .fields #[.ref Aa, .int 0 0] }).IsListIter h₇.objs.size Aa 0 := ⟨_, Heap.get?_push_size _ rfl, rfl, rfl⟩
  have hIs : s.heap.get? h₇.objs.size = none := none_older S₇.keep (none_of_ge (Nat.le_refl _))
  generalize h₇.objs.size = I at *
  generalize (h₇.push { cls := .type "list_iterator", data := .fields #[.ref Aa, .int 0 0] }) = h₈ at *
  have hlenT : T.length = Av.length := (Paired.length r7)
  refine codeAny_forLoop (fun k s'' => ∃ h'' tk'' m'' i, s'' = { s with heap := h'', toks := tk'' } ∧ LSt s L Wa ws (some (.ref Da)) (some (.ref Aa)) none none m'' h'' ∧ m'' "full" = some (.ref Fa) ∧ h''.IsListIter I Aa i ∧ h''.IsList Da T.toArray ∧ h''.IsList Aa Av.toArray ∧
    AftRows ws h'' T Av ∧ h''.PlainList Fa (ws.getD 0 .none :: (T.take i).flatMap (aft ws)).toArray ∧ i ≤ T.length ∧ k = T.length + 1 - i) ?_ _
    ⟨h₈, _, _, 0, rfl, S₇.keeps kI, rfl, hI₀, isList_keeps hD₇ kI, isList_keeps hA₇ kI, r7.step fun a xs _ hl => isList_keeps hl kI, plain_keeps hFl₇ kI, Nat.zero_le _, rfl⟩
  rintro k s'' ⟨h'', tk'', m'', i, rfl, S'', mf, hit, hD'', hA'', r'', hF'', hi, rfl⟩
  have hFlen : (ws.getD 0 .none :: (T.take i).flatMap (aft ws)).length ≤ 626 := by
    rw [List.length_cons]
    have e1 := flatMap_len (ws := ws) (T.take i)
    have e2 : (T.take i).length ≤ 25 := Nat.le_trans (List.length_take_le' _ _) (by omega)
    have e3 : (T.take i).length * ws.length ≤ 25 * 25 := Nat.mul_le_mul e2 h2
    omega
  cases hv : Av[i]? with
  | some y =>
    obtain ⟨t, ht, a, rfl, hla⟩ := paired_at r'' hv
    have hlt : i < T.length := (List.getElem?_eq_some_iff.mp ht).1
    have hmem : Value.ref a ∈ Av := List.mem_of_getElem? hv
    have haF : a ≠ Fa := by
      obtain ⟨j, hj⟩ := List.getElem?_of_mem hmem
      obtain ⟨t', _, a', e, hl'⟩ := paired_at r7 hj
      cases e
      exact hrF _ _ hmem hl'
    refine wpAny_pyNext_list_item hit hA'' (x := .ref a) (by simpa using hv) fun ha hit' hsI => ?_
    have Sa := S''.iter hsI.extBut hit hIs
    have la : ∀ {b : Addr} {xs : Array Value}, h''.IsList b xs → ha.IsList b xs := fun hl => hl.extBut hsI.extBut (ne_list_iter hl hit)
    have hFa' := hF''.extBut hsI.extBut (ne_list_iter hF''.isList hit)
    refine wpAny_assign_Name (st_local (L := L) Sa.ns rfl fun hb' nsb hsb => ?_)
    have Sb := Sa.local hsb nsb
    have lb : ∀ {b : Addr} {xs : Array Value}, ha.IsList b xs → hb'.IsList b xs := fun hl => hl.extBut hsb.extBut (ne_list_ns hl Sa.ns)
    have hFb := hFa'.extBut hsb.extBut (ne_list_ns hFa'.isList Sa.ns)
    have hitb : hb'.IsListIter I Aa (i + 1) := hit'.extBut hsb.extBut (Ne.symm (ne_ns_iter Sa.ns hit'))
    refine wpAny_execs_cons ?_
    refine stmt_extendI ?_
    refine nm_local Sb.ns rfl rfl mf ?_
    refine ⟨Fa, _, rfl, hFb, ?_⟩
    refine nm_local Sb.ns rfl rfl rfl ?_
    refine ⟨a, _, aft ws t, rfl, hFb, lb (la hla), by omega, by have := aft_len ws t; omega, fun hc hpc hsc => ?_⟩
    have lc : ∀ {b : Addr} {xs : Array Value}, b ≠ Fa → hb'.IsList b xs → hc.IsList b xs := fun hne hl => hl.extBut hsc.extBut hne
    have Sc := Sb.list hsc.extBut hFb.isList hWF hFs
    refine wpAny_execs_nil ?_
    refine ⟨T.length + 1 - (i + 1), by omega, hc, _, _, i + 1, rfl, Sc, mf, hitb.extBut hsc.extBut (Ne.symm (ne_list_iter hFb.isList hitb)), lc hDF (lb (la hD'')), lc hAF (lb (la hA'')), ?_, ?_, hlt, rfl⟩
    · refine r''.step fun b xs hb hl => lc ?_ (lb (la hl))
      obtain ⟨j, hj⟩ := List.getElem?_of_mem hb
      obtain ⟨t', _, a', e, hl'⟩ := paired_at r7 hj
      cases e
      exact hrF _ _ hb hl'
    · have e : T.take (i + 1) = T.take i ++ [t] := by rw [List.take_add_one, ht]; rfl
      rw [e, List.flatMap_append]
      simpa using hpc
  | none =>
    have hie : i = T.length := by
      have := List.getElem?_eq_none_iff.mp hv
      omega
    subst hie
    rw [List.take_length] at hF''
    refine wpAny_pyNext_list_end hh hit hA'' (by simpa using hv) fun ha heI => ?_
    have Sa := S''.iter heI hit hIs
    have la : ∀ {b : Addr} {xs : Array Value}, h''.IsList b xs → ha.IsList b xs := fun hl => hl.extBut heI (ne_list_iter hl hit)
    refine wpAny_execs_nil ?_
    exact hb ha _ m'' Da Aa Fa T Av { st := Sa, mf := mf, due := la hD'', after := la hA'', rows := r''.step fun b xs _ hl => la hl, full := la hF''.isList, bfs := hbfs, sub := hsub, len := hlen }
end
end Mine
end

noncomputable section
open PySem PySem.W PySem.Calls PyProof.Rows
set_option maxRecDepth 100000
namespace Mine

theorem range_getD (T : List Value) : (List.range T.length).map (fun k => T.getD k .none) = T := by
  refine List.ext_getElem (by simp) fun i h1 h2 => ?_
  simp at h1
  simp [h1]
theorem range_filter (T : List Value) (P : Value → Bool) : ((List.range T.length).filter fun k => P (T.getD k .none)).map (fun k => T.getD k .none) = T.filter P := by
  conv => rhs; rw [← range_getD T]
  rw [List.filter_map]
  rfl

theorem LB.step {s : Shared} {L Wa Da Aa Fa : Addr} {ws T Av : List Value} {wv lv wv' lv' : Option Value} {m m' : Str → Option Value} {h h' : Heap} (B : LB s L Wa Da Aa Fa ws T Av wv lv m h) (S : LSt s L Wa ws (some (.ref Da)) (some (.ref Aa)) wv' lv' m' h')
    (mf : m' "full" = some (.ref Fa)) (k : ∀ a xs, (a = Da ∨ a = Aa ∨ a = Fa ∨ Value.ref a ∈ Av) → h.IsList a xs → h'.IsList a xs) : LB s L Wa Da Aa Fa ws T Av wv' lv' m' h' :=
  { B with st := S, mf := mf, due := k _ _ (.inl rfl) B.due, after := k _ _ (.inr (.inl rfl)) B.after, full := k _ _ (.inr (.inr (.inl rfl))) B.full, rows := B.rows.step fun a xs ha hl => k _ _ (.inr (.inr (.inr ha))) hl }

theorem get_of {ws : List Value} {k : Nat} (h : k < ws.length) : ws[k]? = some (ws.getD k .none) := by simp [h]
section
variable {prog : Program} {w : World} {A : Around} {E : Value → Shared → Prop} {s : Shared}

theorem item_temp {value slice : Expr} {l : Addr} {ws : List Value} {k : Nat} {i : Int} {u : Tok} {Q : Value → Shared → Prop} (hl : s.heap.IsList l ws.toArray) (hk : k < ws.length) (he : i = (k : Int)) (hb : ws.length ≤ 10000)
    (h : Q (ws.getD k .none) s) (hs : subscripted slice false (.ref l) (.int i u) = operate [.ref l, .int i u] (getItem (.ref l) (.int i u)) := by with_unfolding_all rfl) :
    wpAny (model prog w) A (subscriptTail value slice (.ref l) (.int i u)) Q E s := by
  subst he
  exact subscriptTail_builtinR hl.typeIs slot_list_getitem.lookup (wpAny_getItem_list hl (by omega) (by omega) (by simpa using getD_of hk) ⟨rfl, h⟩) hs

set_option maxHeartbeats 8000000 in
theorem law_b {Q : Flow → Shared → Prop} {L Wa Da Aa Fa : Addr} {ws T Av : List Value} {m : Str → Option Value} {h : Heap} {tk : Tok} (G : Gd w s.heap) (hh : A.handled = none) (hd : A.depth < 700) (hu : A.units < 4900)
    (h1 : 1 ≤ ws.length) (h2 : ws.length ≤ 25) (hw : ∀ v ∈ ws, IsStop v) (B : LB s L Wa Da Aa Fa ws T Av none none m h)
    (hc : ∀ h' tk' m' Wh lv rest, T = ws.getD 0 .none :: rest → LB s L Wa Da Aa Fa ws T Av (some (.ref Wh)) lv m' h' → h'.IsList Wh (Value.none :: rest.map (whenceOf ws T)).toArray →
      wpAny (model prog w) A (execs ((fnBody w 93).drop 7) (lenv w L)) Q (fun _ _ => False) { s with heap := h', toks := tk' }) :
    wpAny (model prog w) A (execs ((fnBody w 93).drop 5) (lenv w L)) Q (fun _ _ => False) { s with heap := h, toks := tk } := by
  obtain ⟨T2, hT2⟩ := exists_rows B.bfs
  obtain ⟨rest, hTr, hne, _⟩ := plain B.bfs hT2
  have hAvT : Av.length = T.length := (Paired.length B.rows).symm
  have hTl : T.length ≤ 25 := Nat.le_trans B.len h2
  have S := B.st
  refine wpAny_execs_cons ?_
  refine wpAny_Assign_Name ?_
  refine PyProof.Rows.List_ ?_
  refine args_cons ?_
  refine wpAny_Constant_none ?_
  refine args_nil ?_
  refine new_list (by simp) fun Wh h₁ hWh _ k₁ hWl => ?_
  have hWn : h.get? Wh = none := none_of_ge (Nat.le_of_eq hWh.symm)
  have S₁ := S.keeps k₁
  refine wpAny_storeName_cell (c := L + 1 + 1 + 1 + 1) rfl rfl rfl S₁.c4 fun h₂ c4' hs₂ => ?_
  have S₂ := S₁.cell4 hs₂ c4'
  have B₂ := B.step S₂ B.mf fun a xs _ hl => (isList_keeps hl k₁).extBut hs₂.extBut (ne_list_cell (isList_keeps hl k₁) S₁.c4)
  have hWl₂ : h₂.PlainList Wh [Value.none].toArray := hWl.extBut hs₂.extBut (ne_list_cell hWl.isList S₁.c4)
  have hWs : s.heap.get? Wh = none := none_older S.keep hWn
  have old : ∀ {a : Addr} {xs : Array Value}, h.IsList a xs → a ≠ Wh := fun hl => ne_list_none hl hWn
  have hWaW : Wa ≠ Wh := old S.wl
  have hoW : ∀ a, (a = Da ∨ a = Aa ∨ a = Fa ∨ Value.ref a ∈ Av) → a ≠ Wh := fun a ha => by
    rcases ha with rfl | rfl | rfl | ha
    · exact old B.due
    · exact old B.after
    · exact old B.full
    · obtain ⟨i, hi⟩ := List.getElem?_of_mem ha
      obtain ⟨t, _, a', e, hl⟩ := paired_at B.rows hi
      cases e
      exact old hl
  refine wpAny_execs_cons ?_
  refine wpAny_For ?_
  refine slice_list ?_
  refine nm_cell S₂.c2 rfl rfl rfl ?_
  rw [evalPart_some]
  refine wpAny_Constant_int ?_
  rw [evalPart_none]
  refine wpAny_pure ?_
  refine ⟨Da, T, rest, some ((1 : Nat) : Int), none, rfl, B₂.due, by omega, .int _ _, .none, (by rw [slicePick_from _ 1 (by rw [hTr]; simp), hTr]; simp), fun D h₃ k₃ hD hDl => ?_⟩
  have S₃ := S₂.keeps k₃
  have B₃ := B₂.step S₃ B.mf fun a xs _ hl => isList_keeps hl k₃
  have hWl₃ := plain_keeps hWl₂ k₃
  have hDs : s.heap.get? D = none := none_older S₂.keep hD
  have hDW : D ≠ Wh := fun q => by obtain ⟨n, ho⟩ := hWl₂; rw [← q, hD] at ho; cases ho
  refine wpAny_pyIter_list hDl.isList ?_
  have kI : Keep h₃ (h₃.push { cls := .type "list_iterator", data := .fields #[.ref D, .int 0 0] }) := fun b o e => Heap.get?_push_of_some _ e
  have hI₀ : (h₃.push { cls := .type "list_iterator", data := .fields #[.ref D, .int 0 0] }).IsListIter h₃.objs.size D 0 := ⟨_, Heap.get?_push_size _ rfl, rfl, rfl⟩
  have hIs : s.heap.get? h₃.objs.size = none := none_older S₃.keep (none_of_ge (Nat.le_refl _))
  generalize h₃.objs.size = I at *
  generalize (h₃.push { cls := .type "list_iterator", data := .fields #[.ref D, .int 0 0] }) = h₄ at *
  have hrl : rest.length ≤ 24 := by rw [hTr, List.length_cons] at hTl; omega
  refine codeAny_forLoop (fun k s'' => ∃ h'' tk'' m'' lv i, s'' = { s with heap := h'', toks := tk'' } ∧ LB s L Wa Da Aa Fa ws T Av (some (.ref Wh)) lv m'' h'' ∧ h''.IsListIter I D i ∧ h''.IsList D rest.toArray ∧
    h''.PlainList Wh (Value.none :: (rest.take i).map (whenceOf ws T)).toArray ∧ i ≤ rest.length ∧ k = rest.length + 1 - i) ?_ _
    ⟨h₄, _, _, none, 0, rfl, B₃.step (S₃.keeps kI) B.mf fun a xs _ hl => isList_keeps hl kI, hI₀, isList_keeps hDl.isList kI, plain_keeps hWl₃ kI, Nat.zero_le _, rfl⟩
  rintro k s'' ⟨h'', tk'', m'', lv, i, rfl, B'', hit, hD'', hW'', hi, rfl⟩
  have S'' := B''.st
  cases hv : rest[i]? with
  | none =>
    have hie : i = rest.length := by
      have := List.getElem?_eq_none_iff.mp hv
      omega
    subst hie
    rw [List.take_length] at hW''
    refine wpAny_pyNext_list_end hh hit hD'' (by simpa using hv) fun ha heI => ?_
    refine wpAny_execs_nil ?_
    exact hc ha _ m'' Wh lv rest hTr (B''.step (S''.iter heI hit hIs) B''.mf fun a xs _ hl => hl.extBut heI (ne_list_iter hl hit)) (hW''.isList.extBut heI (ne_list_iter hW''.isList hit))
  | some late =>
    have hlt : i < rest.length := (List.getElem?_eq_some_iff.mp hv).1
    have hlm : late ∈ rest := List.mem_of_getElem? hv
    have hls : IsStop late := hw _ (B.sub _ (by rw [hTr]; exact List.mem_cons_of_mem _ hlm))
    refine wpAny_pyNext_list_item hit hD'' (x := late) (by simpa using hv) fun ha hit' hsI => ?_
    have Sa := S''.iter hsI.extBut hit hIs
    have Ba := B''.step Sa B''.mf fun a xs _ hl => hl.extBut hsI.extBut (ne_list_iter hl hit)
    have hDa := hD''.extBut hsI.extBut (ne_list_iter hD'' hit)
    have hWa := hW''.extBut hsI.extBut (ne_list_iter hW''.isList hit)
    refine wpAny_assign_Name (wpAny_storeName_cell (c := L + 1 + 1 + 1 + 1 + 1) rfl rfl rfl Sa.c5 fun hb c5' hsb => ?_)
    have Sb := Sa.cell5 hsb c5'
    have Bb := Ba.step Sb B''.mf fun a xs _ hl => hl.extBut hsb.extBut (ne_list_cell hl Sa.c5)
    have hDb := hDa.extBut hsb.extBut (ne_list_cell hDa Sa.c5)
    have hWb := hWa.extBut hsb.extBut (ne_list_cell hWa.isList Sa.c5)
    have hitb := hit'.extBut hsb.extBut (Ne.symm (ne_cell_iter Sa.c5 hit'))
    refine wpAny_execs_cons ?_
    refine stmt_append ?_
    refine nm_cell Sb.c4 rfl rfl rfl ?_
    refine ⟨Wh, _, rfl, hWb, ?_⟩
    refine Subscript_ ?_
    refine comp_range (cl := [("late", L + 1 + 1 + 1 + 1 + 1), ("due", L + 1 + 1), ("after", L + 1 + 1 + 1)]) (fun k => has (aft ws (T.getD k .none)) late) (fun k => T.getD k .none)
      rfl (by decide) rfl (by decide) rfl hh ?_
    have Gb := G.keeps Sb.keep
    refine eval_call nofun ?_
    refine nm_builtin (v := .type "range") Gb rfl rfl rfl rfl rfl rfl ?_
    refine PyProof.Rows.callWith_type1 ?_
    refine args_cons ?_
    refine eval_call nofun ?_
    refine nm_builtin (v := .builtin "len") Gb rfl rfl rfl rfl rfl rfl ?_
    refine PyProof.Rows.callWith_builtin1 ?_
    refine args_cons ?_
    refine nm_cell Sb.c2 rfl rfl rfl ?_
    refine args_nil ?_
    refine call_len_list Bb.due (by simp; omega) ?_
    refine args_nil ?_
    refine call_range (Int.le_trans (by decide) (Int.natCast_nonneg _)) (by simp; omega) fun r H tk' kH hr hR => ?_
    simp only [List.size_toArray, Int.toNat_natCast] at hR
    have Sh := Sb.keeps kH
    have Bh := Bb.step Sh B''.mf fun a xs _ hl => isList_keeps hl kH
    refine ⟨r, T.length, rfl, hR, by omega, ?_, ?_, ?_⟩
    · intro C k t s₃ m₃ hC hk hns hm hkp
      have S3 := Sh.keeps hkp
      have B3 := Bh.step S3 B''.mf fun a xs _ hl => isList_keeps hl hkp
      have hkA : k < Av.length := by omega
      refine wpAny_tests_one ?_
      refine wpAny_isTrue_Compare1 ?_
      refine nm_cell S3.c5 rfl rfl rfl ?_
      refine Subscript_ ?_
      refine nm_cell S3.c3 rfl rfl rfl ?_
      refine nm_local hns rfl rfl hm ?_
      refine item_list B3.after hkA rfl (by omega) ?_
      obtain ⟨t', ht', a, ea, hla⟩ := paired_at B3.rows (i := k) (y := Av.getD k .none) (get_of hkA)
      rw [ea]
      have ets : T.getD k .none = t' := by
        have := get_of (ws := T) (k := k) hk
        rw [ht'] at this; exact (Option.some.inj this).symm
      refine in_stops (fun y hy => hw y (aft_sub hy)) hls hla ?_
      refine wpAny_truthy_bool ?_
      exact ⟨by rw [ets], s₃.heap, _, rfl, fun _ _ e => e⟩
    · intro C k t s₃ m₃ hC hk hp hns hm hkp
      have S3 := Sh.keeps hkp
      have B3 := Bh.step S3 B''.mf fun a xs _ hl => isList_keeps hl hkp
      refine Subscript_ ?_
      refine nm_cell S3.c2 rfl rfl rfl ?_
      refine nm_local hns rfl rfl hm ?_
      refine item_list B3.due hk rfl (by omega) ?_
      exact ⟨rfl, s₃.heap, _, rfl, fun _ _ e => e⟩
    · intro D2 h5 tk5 hD2 hDl2 k5
      rw [range_filter T (fun d => has (aft ws d) late)] at hDl2
      have hfne := hne late hlm
      have hfl : 0 < (T.filter fun d => has (aft ws d) late).length := List.length_pos_iff.mpr hfne
      have hfl2 : (T.filter fun d => has (aft ws d) late).length ≤ 25 := Nat.le_trans (List.length_filter_le _ _) hTl
      refine wpAny_Constant_int ?_
      refine item_temp hDl2.isList (k := 0) hfl rfl (by omega) ?_
      have k05 := Keep.trans kH k5
      have S5 := Sh.keeps k5
      have B5 := Bh.step S5 B''.mf fun a xs _ hl => isList_keeps hl k5
      have hW5 := plain_keeps hWb k05
      have hwh : (T.filter fun d => has (aft ws d) late).getD 0 .none = whenceOf ws T late := by
        unfold whenceOf
        cases (T.filter fun d => has (aft ws d) late) <;> rfl
      rw [hwh]
      refine ⟨_, hW5, by simp; omega, fun h6 hp6 hs6 => ?_⟩
      have S6 := S5.list hs6.extBut hW5.isList hWaW hWs
      refine wpAny_execs_nil ?_
      refine ⟨rest.length + 1 - (i + 1), by omega, h6, _, _, _, i + 1, rfl, B5.step S6 B''.mf (fun a xs ha hl => hl.extBut hs6.extBut (hoW a ha)), (iter_keeps hitb k05).extBut hs6.extBut (Ne.symm (ne_list_iter hW5.isList (iter_keeps hitb k05))),
        (isList_keeps hDb k05).extBut hs6.extBut hDW, ?_, hlt, rfl⟩
      have e : rest.take (i + 1) = rest.take i ++ [late] := by rw [List.take_add_one, hv]; rfl
      rw [e, List.map_append]
      simpa using hp6
end
end Mine
end

noncomputable section
open PySem PySem.W PySem.Calls PyProof.Rows
set_option maxRecDepth 100000
namespace Mine

theorem cell_slots {h h' : Heap} {c : Addr} {v : Option Value} (x : h.IsCell c v) (k : ∀ o, h.get? c = some o → ∃ sl, h'.get? c = some { o with slots := sl }) : h'.IsCell c v := by
  obtain ⟨o, ho, hd⟩ := x
  obtain ⟨sl, e⟩ := k o ho
  exact ⟨_, e, hd⟩
theorem list_slots {h h' : Heap} {c : Addr} {xs : Array Value} (x : h.IsList c xs) (k : ∀ o, h.get? c = some o → ∃ sl, h'.get? c = some { o with slots := sl }) : h'.IsList c xs := by
  obtain ⟨o, ho, hc, n, hd⟩ := x
  obtain ⟨sl, e⟩ := k o ho
  exact ⟨_, e, hc, n, hd⟩
theorem LSt.keepF {s : Shared} {L Wa : Addr} {ws : List Value} {dv av wv lv : Option Value} {m : Str → Option Value} {h h' : Heap} (S : LSt s L Wa ws dv av wv lv m h) (k : KeepF [L] h h') : LSt s L Wa ws dv av wv lv m h' :=
  { S with ns := k.ns S.ns, c1 := cell_slots S.c1 (k.2 _), c2 := cell_slots S.c2 (k.2 _), c3 := cell_slots S.c3 (k.2 _), c4 := cell_slots S.c4 (k.2 _), c5 := cell_slots S.c5 (k.2 _), wl := list_slots S.wl (k.2 _)
           keep := fun b o e => k.1 b o (fun q => by rw [List.mem_singleton.mp q, S.nL] at e; cases e) (S.keep b o e) }

section
variable {prog : Program} {w : World} {A : Around} {E : Value → Shared → Prop} {s : Shared}

theorem rows_eq {ws : List Value} {w0 : Value} {rest : List Value} {f : Value → Value} :
    (List.range (w0 :: rest).length).map (fun k => ((w0 :: rest).getD k .none, (Value.none :: rest.map f).getD k .none)) = (w0, Value.none) :: rest.map fun late => (late, f late) := by
  refine List.ext_getElem (by simp) fun i h1 h2 => ?_
  simp at h1
  cases i with
  | zero => simp
  | succ i => simp; constructor <;> simp [show i < rest.length by omega]
theorem aft_dat {ws : List Value} (hw : ∀ v ∈ ws, IsStop v) {v : Value} (h : v ∈ ws) : IsDat v := .inl (hw v h)

set_option maxHeartbeats 16000000 in
theorem law_d {Q : Flow → Shared → Prop} {L Wa Da Aa Wh : Addr} {ws T rest : List Value} {lv : Option Value} {m : Str → Option Value} {h : Heap} {tk : Tok} (G : Gd w s.heap) (hbm : BM s.heap) (htab : s.heap.get? 85 = some (tabObj #[]))
    (hh : A.handled = none) (hd : A.depth < 600) (hu : A.units < 4800) (hfr : A.frames = some [lenv w L]) (hg : A.guards = some [])
    (h1 : 1 ≤ ws.length) (h2 : ws.length ≤ 25) (hw : ∀ v ∈ ws, IsStop v) (hTr : T = ws.getD 0 .none :: rest) (bfs : Bfs skey (aft ws) [] [ws.getD 0 .none] T) (sub : ∀ v ∈ T, v ∈ ws) (hTl : T.length ≤ 25)
    (S : LSt s L Wa ws (some (.ref Da)) (some (.ref Aa)) (some (.ref Wh)) lv m h) (hD : h.IsList Da T.toArray) (hWl : h.IsList Wh (Value.none :: rest.map (whenceOf ws T)).toArray)
    (hQ : ∀ h' tk' gens', (∀ b o, b ≠ 85 → s.heap.get? b = some o → h'.get? b = some o) → (∃ tb, h'.get? 85 = some (tabObj tb)) → (AllBare s.gens → AllBare gens') → Q (.ret (.bool true)) { s with heap := h', toks := tk', gens := gens' }) :
    wpAny (model prog w) A (execs ((fnBody w 93).drop 9) (lenv w L)) Q (fun _ _ => False) { s with heap := h, toks := tk } := by
  obtain ⟨T2, hT2⟩ := exists_rows bfs
  obtain ⟨rest', hTr', hne, hT2e⟩ := plain bfs hT2
  have hrr : rest' = rest := by rw [hTr] at hTr'; exact (List.cons.inj hTr').2.symm
  subst hrr
  have hlk : (lenv w L).scope.kind ≠ .module := by show (fnAt w 93).scope.kind ≠ _; rw [show (fnAt w 93).scope.kind = .function from rfl]; decide
  have hw0 : ws.getD 0 .none ∈ ws := getD_mem (by omega)
  have hlc : locs [lenv w L] = [L] := rfl
  have n85 : ∀ {b : Addr}, s.heap.get? b = none → b ≠ 85 := fun e q => by rw [q, htab] at e; cases e
  have h85 : h.get? 85 = some (tabObj #[]) := S.keep _ _ htab
  have l85 : ∀ {a : Addr} {xs : Array Value}, h.IsList a xs → a ≠ 85 := fun ⟨o, ho, _, n, hd⟩ q => by rw [q, h85] at ho; cases ho; cases hd
  have G₁ := G.keeps S.keep
  refine wpAny_execs_cons ?_
  refine wpAny_Return_some ?_
  refine wpAny_Compare1 ?_
  refine eval_call nofun ?_
  refine nm_builtin (v := .builtin "repr") G₁ rfl rfl rfl rfl rfl rfl ?_
  refine PyProof.Rows.callWith_builtin1 ?_
  refine args_cons ?_
  refine eval_call nofun ?_
  refine nm_global (v := .ref 88) G₁ rfl rfl rfl rfl ?_
  refine callWith_top rfl rfl ?_
  refine args_cons ?_
  refine nm_cell S.c1 rfl rfl rfl ?_
  refine args_nil ?_
  refine ⟨G₁, wpAny_call (key_spec G₁ (hbm.but fun b o _ e => S.keep b o e) h85 hh (by omega) hfr (FrAll.cons (fun _ he => nomatch he) hlk rfl S.ns) (by rw [hlc]; intro q; exact n85 S.nL (List.mem_singleton.mp q).symm) S.wl h1 h2 hw fun h₂ tk₂ gs₂ Ta Tv T2' k₂ ht₂ hb₂ hTa hrows hbfs' => ?_)⟩
  have eT := hbfs'.det hT2
  subst eT
  refine args_nil ?_
  have b2 : But85 s.heap h₂ := fun b o q e => (k₂ b o q (S.keep b o e)).1 (by rw [hlc]; intro z; rw [List.mem_singleton.mp z, S.nL] at e; cases e)
  have G₂ := G.but b2
  have c2 : h₂.IsCell (L + 1 + 1) (some (.ref Da)) := cell_slots S.c2 fun o e => (k₂ _ o (n85 S.n2) e).2
  have c4 : h₂.IsCell (L + 1 + 1 + 1 + 1) (some (.ref Wh)) := cell_slots S.c4 fun o e => (k₂ _ o (n85 S.n4) e).2
  have hD₂ : h₂.IsList Da T.toArray := list_slots hD fun o e => (k₂ _ o (l85 hD) e).2
  have hW₂ := list_slots hWl fun o e => (k₂ _ o (l85 hWl) e).2
  have hT2l : T2'.length = T.length := by rw [hT2e, hTr]; simp
  have hrd : ∀ p ∈ T2', IsDat p.1 ∧ IsDat p.2 := fun p hp => by
    rw [hT2e] at hp
    rcases List.mem_cons.mp hp with q | q
    · rw [q]; exact ⟨.inl (hw _ hw0), .inr rfl⟩
    · obtain ⟨late, hl, rfl⟩ := List.mem_map.mp q
      refine ⟨.inl (hw _ (sub _ (by rw [hTr]; exact List.mem_cons_of_mem _ hl))), ?_⟩
      have hm : whenceOf ws T late ∈ T.filter (fun d => has (aft ws d) late) := by
        unfold whenceOf
        have := hne late hl
        cases q : T.filter (fun d => has (aft ws d) late) with
        | nil => exact absurd q this
        | cons a r => exact List.mem_cons_self ..
      exact .inl (hw _ (sub _ (List.mem_filter.mp hm).1))
  have okR : Ok 2 (25 * 13) (.list (T2'.map rowDat)) := ok_list (k := 1) (W := 12) (fun d hd => by
    obtain ⟨p, hp, rfl⟩ := List.mem_map.mp hd
    exact ok_list (k := 0) (W := 5) (n := 2) (fun d hd => by
      rcases List.mem_cons.mp hd with q | q
      · rw [q]; exact ok_dat (hrd p hp).1
      · rcases List.mem_cons.mp q with q | q
        · rw [q]; exact ok_dat (hrd p hp).2
        · cases q) (Nat.le_refl _)) (by rw [List.length_map, hT2l]; exact hTl)
  obtain ⟨as, hreads⟩ := reads_rows hrows hrd
  have hreads' : ∃ as', Reads h₂ (.ref Ta) (.list (T2'.map rowDat)) as' := by
    obtain ⟨o, ho, hc, n, hd⟩ := hTa
    exact ⟨_, .list ho hc hd hreads⟩
  obtain ⟨as', hreads'⟩ := hreads'
  refine call_repr hreads' okR (by decide) (by decide) hg (by omega) fun h₃ u₃ tk₃ k₃ => ?_
  have G₃ := G₂.keeps k₃
  have c2₃ := c2.keeps k₃
  have c4₃ := c4.keeps k₃
  have hD₃ := isList_keeps hD₂ k₃
  have hW₃ := isList_keeps hW₂ k₃
  have hWlen : (Value.none :: rest'.map (whenceOf ws T)).length = T.length := by rw [hTr]; simp
  refine eval_call nofun ?_
  refine nm_builtin (v := .builtin "repr") G₃ rfl rfl rfl rfl rfl rfl ?_
  refine PyProof.Rows.callWith_builtin1 ?_
  refine args_cons ?_
  refine comp_rangeO (cl := [("whence", L + 1 + 1 + 1 + 1), ("due", L + 1 + 1)]) (fun k => [T.getD k .none, (Value.none :: rest'.map (whenceOf ws T)).getD k .none]) rfl (by decide) rfl (by decide) rfl hh ?_
  refine eval_call nofun ?_
  refine nm_builtin (v := .type "range") G₃ rfl rfl rfl rfl rfl rfl ?_
  refine PyProof.Rows.callWith_type1 ?_
  refine args_cons ?_
  refine eval_call nofun ?_
  refine nm_builtin (v := .builtin "len") G₃ rfl rfl rfl rfl rfl rfl ?_
  refine PyProof.Rows.callWith_builtin1 ?_
  refine args_cons ?_
  refine nm_cell c2₃ rfl rfl rfl ?_
  refine args_nil ?_
  refine call_len_list hD₃ (by simp; omega) ?_
  refine args_nil ?_
  refine call_range (Int.le_trans (by decide) (Int.natCast_nonneg _)) (by simp; omega) fun r H tk' kH hr hR => ?_
  simp only [List.size_toArray, Int.toNat_natCast] at hR
  refine ⟨r, T.length, rfl, hR, by omega, ?_, ?_⟩
  · intro C k t s₃ m₃ hC hk hns hm hkp
    have kx := Keep.trans kH hkp
    refine PyProof.Rows.List_ ?_
    refine args_cons ?_
    refine Subscript_ ?_
    refine nm_cell (c2₃.keeps kx) rfl rfl rfl ?_
    refine nm_local hns rfl rfl hm ?_
    refine item_list (isList_keeps hD₃ kx) hk rfl (by omega) ?_
    refine args_cons ?_
    refine Subscript_ ?_
    refine nm_cell (c4₃.keeps kx) rfl rfl rfl ?_
    refine nm_local hns rfl rfl hm ?_
    refine item_list (isList_keeps hW₃ kx) (by rw [hWlen]; exact hk) rfl (by rw [hWlen]; omega) ?_
    refine args_nil ?_
    refine new_list (by simp) fun y hy hyE _ ky hyl => ?_
    exact ⟨⟨y, rfl, none_of_ge (Nat.le_of_eq hyE.symm), hyl.isList⟩, _, _, rfl, ky⟩
  intro D h₄ tk₄ ys hDn hDl hRows k₄
  have hps : (List.range T.length).map (fun k => (T.getD k Value.none, (Value.none :: rest'.map (whenceOf ws T)).getD k Value.none)) = T2' := by
    rw [hT2e]
    have := rows_eq (ws := ws) (w0 := ws.getD 0 .none) (rest := rest') (f := whenceOf ws T)
    rw [← hTr] at this
    exact this
  have hpr : Paired (fun (p : Value × Value) y => ∃ a, y = .ref a ∧ h₄.IsList a [p.1, p.2].toArray) ((List.range T.length).map (fun k => (T.getD k Value.none, (Value.none :: rest'.map (whenceOf ws T)).getD k Value.none))) ys := by
    have gen : ∀ {l : List Nat} {ys : List Value}, Rows H h₄ (l.map fun k => [T.getD k .none, (Value.none :: rest'.map (whenceOf ws T)).getD k .none]) ys →
        Paired (fun (p : Value × Value) y => ∃ a, y = .ref a ∧ h₄.IsList a [p.1, p.2].toArray) (l.map (fun k => (T.getD k Value.none, (Value.none :: rest'.map (whenceOf ws T)).getD k Value.none))) ys := by
      intro l
      induction l with
      | nil => intro ys r; cases r; exact .nil
      | cons x l ih => intro ys r; cases r with | cons a r => obtain ⟨a', e, _, hl⟩ := a; exact .cons ⟨a', e, hl⟩ (ih r)
    exact gen hRows
  rw [hps] at hpr
  obtain ⟨bs, hb1⟩ := reads_rows hpr hrd
  have hb2 : ∃ bs', Reads h₄ (.ref D) (.list (T2'.map rowDat)) bs' := by
    obtain ⟨n, ho⟩ := hDl
    exact ⟨_, .list ho rfl rfl hb1⟩
  obtain ⟨bs', hb2⟩ := hb2
  refine args_nil ?_
  refine call_repr hb2 okR (by decide) (by decide) hg (by omega) fun h₅ u₅ tk₅ k₅ => ?_
  refine P.eq_str ?_
  rw [beq_self_eq_true]
  have kz := Keep.trans k₃ (Keep.trans kH (Keep.trans k₄ k₅))
  exact hQ h₅ _ gs₂ (fun b o q e => kz b o (b2 b o q e)) (let ⟨tb, e⟩ := ht₂; ⟨tb, kz _ _ e⟩) hb₂

set_option maxHeartbeats 16000000 in
theorem law_c {Q : Flow → Shared → Prop} {L Wa Da Aa Fa Wh : Addr} {ws T Av rest : List Value} {lv : Option Value} {m : Str → Option Value} {h : Heap} {tk : Tok} (G : Gd w s.heap) (hbm : BM s.heap) (htab : s.heap.get? 85 = some (tabObj #[]))
    (hh : A.handled = none) (hd : A.depth < 600) (hu : A.units < 4800) (hfr : A.frames = some [lenv w L]) (hg : A.guards = some [])
    (h1 : 1 ≤ ws.length) (h2 : ws.length ≤ 25) (hw : ∀ v ∈ ws, IsStop v) (hTr : T = ws.getD 0 .none :: rest) (B : LB s L Wa Da Aa Fa ws T Av (some (.ref Wh)) lv m h) (hWl : h.IsList Wh (Value.none :: rest.map (whenceOf ws T)).toArray)
    (hQ : ∀ h' tk' gens', (∀ b o, b ≠ 85 → s.heap.get? b = some o → h'.get? b = some o) → (∃ tb, h'.get? 85 = some (tabObj tb)) → (AllBare s.gens → AllBare gens') → Q (.ret (.bool true)) { s with heap := h', toks := tk', gens := gens' }) :
    wpAny (model prog w) A (execs ((fnBody w 93).drop 7) (lenv w L)) Q (fun _ _ => False) { s with heap := h, toks := tk } := by
  obtain ⟨T2, hT2⟩ := exists_rows B.bfs
  obtain ⟨rest', hTr', hne, hT2e⟩ := plain B.bfs hT2
  have hrr : rest' = rest := by rw [hTr] at hTr'; exact (List.cons.inj hTr').2.symm
  subst hrr
  have hTl : T.length ≤ 25 := Nat.le_trans B.len h2
  have S := B.st
  have hlk : (lenv w L).scope.kind ≠ .module := by show (fnAt w 93).scope.kind ≠ _; rw [show (fnAt w 93).scope.kind = .function from rfl]; decide
  have hfa : ∀ {h' : Heap}, h'.Ns L m → FrAll h' [lenv w L] := fun n => FrAll.cons (fun _ he => nomatch he) hlk rfl n
  have hw0 : ws.getD 0 .none ∈ ws := getD_mem (by omega)
  have hfull : ∀ v ∈ (ws.getD 0 .none :: T.flatMap (aft ws)), IsDat v := fun v hv => by
    rcases List.mem_cons.mp hv with q | q
    · rw [q]; exact aft_dat hw hw0
    · obtain ⟨z, _, hz⟩ := List.mem_flatMap.mp q; exact aft_dat hw (aft_sub hz)
  have hfl : (ws.getD 0 .none :: T.flatMap (aft ws)).length ≤ 626 := by
    rw [List.length_cons]
    have e1 := flatMap_len (ws := ws) T
    have e3 : T.length * ws.length ≤ 25 * 25 := Nat.mul_le_mul hTl h2
    omega
  have hTd : ∀ v ∈ T, IsDat v := fun v hv => aft_dat hw (B.sub v hv)
  refine wpAny_execs_cons ?_
  refine Assign_Tuple ?_
  refine eval_call nofun ?_
  refine nm_global (v := .ref 83) (G.keeps S.keep) rfl rfl rfl rfl ?_
  refine callWith_top rfl rfl ?_
  refine args_cons ?_
  refine nm_cell S.c1 rfl rfl rfl ?_
  refine args_nil ?_
  refine ⟨G.keeps S.keep, wpAny_call (plain_spec (G.keeps S.keep) hh (by omega) (by omega) hfr (hfa S.ns) S.wl h1 h2 hw fun h₂ tk₂ gs₂ tu Ta Qa T' k₂ hb₂ htu hTa hQa hbfs' => ?_)⟩
  have hlc : locs [lenv w L] = [L] := rfl
  rw [hlc] at k₂
  have eT := hbfs'.det B.bfs
  subst eT
  have S₂ := S.keepF k₂
  have lk : ∀ {a : Addr} {xs : Array Value}, h.IsList a xs → h₂.IsList a xs := fun hl => list_slots hl (k₂.2 _)
  have hD₂ := lk B.due
  have hF₂ := lk B.full
  have hW₂ := lk hWl
  have tup : h₂.IsTuple tu #[.ref Ta, .ref Qa] := ⟨_, htu, rfl, _, rfl⟩
  refine wpAny_assign_Tuple hh tup rfl rfl fun h₃ hx₃ => ?_
  have hno : h₂.get? h₂.objs.size = none := none_of_ge (Nat.le_refl _)
  have k₃ : Keep h₂ h₃ := fun b o e => hx₃ b o (fun q => by rw [q] at e; exact absurd (Heap.lt_size e) (Nat.lt_irrefl _)) e
  have S₃ := S₂.keeps k₃
  refine assignInOrder_cons ?_
  refine wpAny_assign_Name ?_
  refine st_local (L := L) S₃.ns rfl fun h₄ ns₄ hs₄ => ?_
  have S₄ := S₃.local hs₄ ns₄
  refine assignInOrder_cons ?_
  refine wpAny_assign_Name ?_
  refine st_local (L := L) S₄.ns rfl fun h₅ ns₅ hs₅ => ?_
  have S₅ := S₄.local hs₅ ns₅
  refine assignInOrder_nil ?_
  have l5 : ∀ {a : Addr} {xs : Array Value}, h₂.IsList a xs → h₅.IsList a xs := fun hl =>
    have e3 := isList_keeps hl k₃
    have e4 := e3.extBut hs₄.extBut (ne_list_ns e3 S₃.ns)
    e4.extBut hs₅.extBut (ne_list_ns e4 S₄.ns)
  have hD₅ := l5 hD₂
  have hF₅ := l5 hF₂
  have hW₅ := l5 hW₂
  have hTa₅ := l5 hTa
  have hQa₅ := l5 hQa
  have okT : Ok 1 (25 * 6) (.list (T'.map dat)) := ok_list (k := 0) (W := 5) (fun d hd => by obtain ⟨v, hv, rfl⟩ := List.mem_map.mp hd; exact ok_dat (hTd v hv)) (by rw [List.length_map]; omega)
  have okF : Ok 1 (626 * 6) (.list ((ws.getD 0 .none :: T'.flatMap (aft ws)).map dat)) := ok_list (k := 0) (W := 5) (fun d hd => by obtain ⟨v, hv, rfl⟩ := List.mem_map.mp hd; exact ok_dat (hfull v hv)) (by rw [List.length_map]; exact hfl)
  refine wpAny_execs_cons ?_
  refine wpAny_If ?_
  refine wpAny_isTrue_BoolOp ?_
  refine wpAny_allTrue_Or_cons ?_
  refine wpAny_isTrue_Compare1 ?_
  refine eval_call nofun ?_
  refine nm_builtin (v := .builtin "repr") (G.keeps S₅.keep) rfl rfl rfl rfl rfl rfl ?_
  refine PyProof.Rows.callWith_builtin1 ?_
  refine args_cons ?_
  refine nm_local S₅.ns rfl rfl rfl ?_
  refine args_nil ?_
  refine call_repr (reads_list hTa₅ hTd) okT (by decide) (by decide) hg (by omega) fun h₆ u₆ tk₆ k₆ => ?_
  have S₆ := S₅.keeps k₆
  refine eval_call nofun ?_
  refine nm_builtin (v := .builtin "repr") (G.keeps S₆.keep) rfl rfl rfl rfl rfl rfl ?_
  refine PyProof.Rows.callWith_builtin1 ?_
  refine args_cons ?_
  refine nm_cell S₆.c2 rfl rfl rfl ?_
  refine args_nil ?_
  refine call_repr (reads_list (isList_keeps hD₅ k₆) hTd) okT (by decide) (by decide) hg (by omega) fun h₇ u₇ tk₇ k₇ => ?_
  have S₇ := S₆.keeps k₇
  refine P.ne_str ?_
  refine wpAny_truthy_bool ?_
  refine pif_not (by simp) ?_
  refine wpAny_allTrue_Or_cons ?_
  refine wpAny_isTrue_Compare1 ?_
  refine eval_call nofun ?_
  refine nm_builtin (v := .builtin "repr") (G.keeps S₇.keep) rfl rfl rfl rfl rfl rfl ?_
  refine PyProof.Rows.callWith_builtin1 ?_
  refine args_cons ?_
  refine nm_local S₇.ns rfl rfl rfl ?_
  refine args_nil ?_
  have k57 := Keep.trans k₆ k₇
  refine call_repr (reads_list (isList_keeps hQa₅ k57) hfull) okF (by decide) (by decide) hg (by omega) fun h₈ u₈ tk₈ k₈ => ?_
  have S₈ := S₇.keeps k₈
  have k58 := Keep.trans k57 k₈
  refine eval_call nofun ?_
  refine nm_builtin (v := .builtin "repr") (G.keeps S₈.keep) rfl rfl rfl rfl rfl rfl ?_
  refine PyProof.Rows.callWith_builtin1 ?_
  refine args_cons ?_
  refine nm_local S₈.ns rfl rfl B.mf ?_
  refine args_nil ?_
  refine call_repr (reads_list (isList_keeps hF₅ k58) hfull) okF (by decide) (by decide) hg (by omega) fun h₉ u₉ tk₉ k₉ => ?_
  have S₉ := S₈.keeps k₉
  refine P.ne_str ?_
  refine wpAny_truthy_bool ?_
  refine pif_not (by simp) ?_
  refine wpAny_allTrue_Or_nil ?_
  refine pif_not rfl ?_
  refine wpAny_execs_nil ?_
  have k59 := Keep.trans k58 k₉
  exact law_d (s := { s with gens := gs₂ }) G hbm htab hh hd hu hfr hg h1 h2 hw hTr B.bfs B.sub hTl ⟨S₉.ns, S₉.c1, S₉.c2, S₉.c3, S₉.c4, S₉.c5, S₉.wl, S₉.keep, S₉.nL, S₉.n1, S₉.n2, S₉.n3, S₉.n4, S₉.n5⟩ (isList_keeps hD₅ k59) (isList_keeps hW₅ k59) fun h' tk' gens' a b c => hQ h' tk' gens' a b fun z => c (hb₂ z)
end
end Mine
end

noncomputable section
open PySem PySem.W PySem.Calls PyProof.Rows
set_option maxRecDepth 100000
namespace Mine

section
variable {prog : Program} {w : World} {A : Around} {E : Value → Shared → Prop} {s : Shared}

theorem five {a b c d e : Int} {i1 i2 i3 i4 i5 : _} {p1 p2 p3 p4 p5 pos : Pos} {env : Env} {Q : Value → Shared → Prop}
    (h : ∀ D h' tk (zs : List Value), Keep s.heap h' → s.heap.get? D = none → h'.PlainList D zs.toArray → zs.length = 5 → (∀ v ∈ zs, ∃ n t, v = .int n t) → Q (.ref D) { s with heap := h', toks := tk }) :
    wpAny (model prog w) A (eval (.List [.Constant (.int a) i1 p1, .Constant (.int b) i2 p2, .Constant (.int c) i3 p3, .Constant (.int d) i4 p4, .Constant (.int e) i5 p5] pos) env) Q E s := by
  refine PyProof.Rows.List_ ?_
  refine args_cons ?_
  refine wpAny_Constant_int ?_
  refine args_cons ?_
  refine wpAny_Constant_int ?_
  refine args_cons ?_
  refine wpAny_Constant_int ?_
  refine args_cons ?_
  refine wpAny_Constant_int ?_
  refine args_cons ?_
  refine wpAny_Constant_int ?_
  refine args_nil ?_
  refine new_list (by simp) fun D h' hD _ k hl => h D h' _ _ k (none_of_ge (Nat.le_of_eq hD.symm)) hl rfl ?_
  refine List.forall_mem_cons.mpr ⟨⟨_, _, rfl⟩, ?_⟩
  refine List.forall_mem_cons.mpr ⟨⟨_, _, rfl⟩, ?_⟩
  refine List.forall_mem_cons.mpr ⟨⟨_, _, rfl⟩, ?_⟩
  refine List.forall_mem_cons.mpr ⟨⟨_, _, rfl⟩, ?_⟩
  exact List.forall_mem_cons.mpr ⟨⟨_, _, rfl⟩, fun _ h => nomatch h⟩
theorem add_two {a b : Addr} {xs ys : List Value} {Q : Value → Shared → Prop} (ha : s.heap.PlainList a xs.toArray) (hb : s.heap.PlainList b ys.toArray) (hn : xs.length + ys.length ≤ 10000)
    (h : ∀ D h', Keep s.heap h' → s.heap.get? D = none → h'.IsList D (xs ++ ys).toArray → Q (.ref D) { s with heap := h' }) : wpAny (model prog w) A (binaryOp .Add (.ref a) (.ref b)) Q E s := by
  obtain ⟨p1, e1⟩ := ha
  obtain ⟨p2, e2⟩ := hb
  refine P.add_list e1 e2 ?_ (by rw [sizeLine_eq]; simp; omega)
  refine h _ _ (fun b o e => Heap.get?_push_of_some _ e) (none_of_ge (Nat.le_refl _)) ⟨_, Heap.get?_push_size _ rfl, rfl, 0, ?_⟩
  simp


set_option maxHeartbeats 8000000 in
theorem law_spec {R : Result → Shared → Prop} {sc : Addr} {vs : List Value} (G : Gd w s.heap) (hbm : BM s.heap) (htab : s.heap.get? 85 = some (tabObj #[])) (hh : A.handled = none) (hd : A.depth < 500) (hu : A.units < 4000) (hfr : A.frames = some []) (hg : A.guards = some [])
    (hl : s.heap.IsList sc vs.toArray) (hn : vs.length ≤ 63) (hi : ∀ v ∈ vs, ∃ n t, v = .int n t)
    (h : ∀ h' tk gens', (∀ b o, b ≠ 85 → s.heap.get? b = some o → h'.get? b = some o) → (∃ tb, h'.get? 85 = some (tabObj tb)) → (AllBare s.gens → AllBare gens') → R (.ok (.ret (.bool true))) { s with heap := h', toks := tk, gens := gens' }) :
    codeAny (model prog w) A (.call (.ref 93) ⟨[.ref sc], []⟩) R s := by
  refine call_fn (w := w) (f := 93) (binds := [("script", .ref sc)]) G (by show A.depth < 1000; omega) rfl rfl rfl rfl rfl rfl rfl fun h₁ tk F₁ X₁ G₁ => ?_
  have c1 : h₁.IsCell (s.heap.objs.size + 1) none := X₁.cell "walk" _ rfl
  have c2 : h₁.IsCell (s.heap.objs.size + 1 + 1) none := X₁.cell "due" _ rfl
  have c3 : h₁.IsCell (s.heap.objs.size + 1 + 1 + 1) none := X₁.cell "after" _ rfl
  have c4 : h₁.IsCell (s.heap.objs.size + 1 + 1 + 1 + 1) none := X₁.cell "whence" _ rfl
  have c5 : h₁.IsCell (s.heap.objs.size + 1 + 1 + 1 + 1 + 1) none := X₁.cell "late" _ rfl
  have hLn : s.heap.get? s.heap.objs.size = none := none_of_ge (Nat.le_refl _)
  have n1 : s.heap.get? (s.heap.objs.size + 1) = none := none_of_ge (Nat.le_succ _)
  have n2 : s.heap.get? (s.heap.objs.size + 1 + 1) = none := none_of_ge (by omega)
  have n3 : s.heap.get? (s.heap.objs.size + 1 + 1 + 1) = none := none_of_ge (by omega)
  have n4 : s.heap.get? (s.heap.objs.size + 1 + 1 + 1 + 1) = none := none_of_ge (by omega)
  have n5 : s.heap.get? (s.heap.objs.size + 1 + 1 + 1 + 1 + 1) = none := none_of_ge (by omega)
  have k1 : Keep s.heap h₁ := F₁.keep
  have ns1 := F₁.ns
  generalize s.heap.objs.size = L at *
  have hl1 := isList_keeps hl k1
  refine wpAny_execs_cons ?_
  refine wpAny_Assign_Name ?_
  refine comp_list (cl := []) (fun _ y => IsStop y) rfl (by decide) rfl (by decide) rfl hh ?_
  refine wpAny_BinOp ?_
  refine slice_list ?_
  refine nm_local ns1 rfl rfl rfl ?_
  rw [evalPart_none]
  refine wpAny_pure ?_
  rw [evalPart_some]
  refine wpAny_Constant_int ?_
  refine ⟨sc, vs, vs.take 20, none, some ((20 : Nat) : Int), rfl, hl1, by omega, .none, .int _ _, slicePick_upto' _ _, fun D₁ h₂ k₂ hD₁ hDl₁ => ?_⟩
  refine five fun D₂ h₃ tk₃ zs k₃ hD₂ hDl₂ hz5 hzi => ?_
  refine add_two (plain_keeps hDl₁ k₃) hDl₂ (by rw [List.length_take]; omega) fun D₃ h₄ k₄ hD₃ hDl₃ => ?_
  have k14 : Keep s.heap h₄ := Keep.trans k1 (Keep.trans k₂ (Keep.trans k₃ k₄))
  have hlen3 : (vs.take 20 ++ zs).length ≤ 25 ∧ 5 ≤ (vs.take 20 ++ zs).length := by rw [List.length_append, List.length_take]; omega
  refine ⟨D₃, _, rfl, hDl₃, by omega, ?_, ?_⟩
  · intro C i v s₃ m₃ hC hvi hns hm hkp
    have hvm : v ∈ vs.take 20 ++ zs := List.mem_of_getElem? hvi
    obtain ⟨n, t, rfl⟩ : ∃ n t, v = .int n t := by
      rcases List.mem_append.mp hvm with q | q
      · exact hi v (List.mem_of_mem_take q)
      · exact hzi v q
    have G3 := G.keeps (Keep.trans k14 hkp)
    refine eval_call nofun ?_
    refine nm_global (v := .ref 66) G3 rfl rfl rfl rfl ?_
    refine callWith_top rfl rfl ?_
    refine args_cons ?_
    refine nm_local hns rfl rfl hm ?_
    refine args_nil ?_
    exact ⟨G3, wpAny_call (stop_spec G3 hh (by show A.depth + 1 < 900; omega) fun h' tk' v' k' hv' => ⟨hv', _, _, rfl, k'⟩)⟩
  intro Wa h₅ tk₅ ws hWa hWl hpair k₅
  have hws : ∀ v ∈ ws, IsStop v := fun v hv => by
    obtain ⟨i, hi'⟩ := List.getElem?_of_mem hv
    obtain ⟨_, _, r⟩ := paired_at hpair hi'
    exact r
  have hwl : ws.length ≤ 25 ∧ 5 ≤ ws.length := by rw [← Paired.length hpair]; exact hlen3
  clear hpair hlen3
  have k15 := Keep.trans k14 k₅
  have kh := Keep.trans k₂ (Keep.trans k₃ (Keep.trans k₄ k₅))
  refine wpAny_storeName_cell (c := L + 1) rfl rfl rfl (c1.keeps kh) fun h₆ c1' hs₆ => ?_
  have hW6 : h₆.IsList Wa ws.toArray := hWl.isList.extBut hs₆.extBut (ne_list_cell hWl.isList (c1.keeps kh))
  have S₆ : LSt s L Wa ws none none none none _ h₆ :=
    ⟨(ns1.keeps kh).sameBut hs₆ (neN (by omega)), c1', (c2.keeps kh).sameBut hs₆ (neN (by omega)), (c3.keeps kh).sameBut hs₆ (neN (by omega)), (c4.keeps kh).sameBut hs₆ (neN (by omega)), (c5.keeps kh).sameBut hs₆ (neN (by omega)), hW6,
      keep_but k15 hs₆.extBut n1, hLn, n1, n2, n3, n4, n5⟩
  have hd1 : (A.deeper (lenv w L)).depth < 600 := by show A.depth + 1 < 600; omega
  have hu1 : (A.deeper (lenv w L)).units < 4800 := by show A.units + 3 < 4800; omega
  have hfr1 : (A.deeper (lenv w L)).frames = some [lenv w L] := Around.frames_deeper hfr
  refine law_a (A := A.deeper (lenv w L)) (s := s) G hh (by omega) (by omega) (by omega) hwl.1 hws S₆ fun h' tk' m' Da Aa Fa T Av B => ?_
  refine law_b (A := A.deeper (lenv w L)) G hh (by omega) (by omega) (by omega) hwl.1 hws B fun h' tk' m' Wh lv rest hTr B' hWh => ?_
  refine law_c (A := A.deeper (lenv w L)) G hbm htab hh hd1 hu1 hfr1 hg (by omega) hwl.1 hws hTr B' hWh fun h' tk' gens' a b c => ?_
  exact h h' tk' gens' a b c
end
end Mine
end

noncomputable section
open PySem PySem.W PySem.Calls PyProof.Rows
set_option maxRecDepth 100000
namespace Mine
theorem ints_are : ∀ {vs : List Value} {ns : List Int}, IntsAre vs ns → vs.length = ns.length ∧ ∀ v ∈ vs, ∃ n t, v = .int n t
  | _, _, .nil => ⟨rfl, fun _ h => nomatch h⟩
  | _, _, .cons n t r => by
    obtain ⟨a, b⟩ := ints_are r
    refine ⟨by rw [List.length_cons, List.length_cons, a], fun v hv => ?_⟩
    rcases List.mem_cons.mp hv with q | q
    · exact ⟨n, t, q⟩
    · exact b v q
end Mine

open Mine
set_option maxHeartbeats 8000000 in
theorem PySem.Challenge.cw_lg0020_01_holds : PySem.Challenge.rw_lg0020_01.Holds := by
  refine hd ?_
  intro w s₀ s₁ mg mb G Y fa o pm cd doc dV kV ho hd' hcd hD hmg hg args vals as hpre hlay hrd hwl hlo
  have KX := km_in_of Y
  have KT := km_tabs_of Y
  refine Ground.open G ?_
  intro T B D TE TW
  wrow_args hpre hlay hrd hwl hlo
  refine enter_call ?_
  have Gx : Gd w s₁.heap := ⟨KX, ⟨mb, T.b, fun x hx => T.builtins x hx⟩, T.nolimit⟩
  have emg : mg = mgOf w := ns_det T.g Gx.glob
  have e93 : fa = 93 := by
    rw [emg] at hmg
    have e : mgOf w (Str.ofString "law") = some (.ref 93) := rfl
    have h2 : mgOf w (Str.ofString "law") = some (.ref fa) := hmg
    rw [e] at h2; cases h2; rfl
  subst e93
  have hBM : BM s₁.heap := by
    obtain ⟨bm, ob, b1, b2, b3, b4, b5, b6⟩ := T.bmain
    rw [emg] at b1
    have e : mgOf w "__builtins__" = some (.ref 4) := rfl
    rw [e] at b1; cases b1
    exact ⟨ob, b3, b4, b5, b6⟩
  have h85 := KT 85 (List.mem_singleton.mpr rfl)
  rename Heap.IsList _ _ _ => hL
  rename IntsAre _ _ => hI
  have hlen : ∀ {ns : List Int}, ¬ ((63 : Nat) : Int) < ((ns.length : Nat) : Int) → ns.length ≤ 63 := fun h => by omega
  obtain ⟨hi1, hi2⟩ := ints_are hI
  refine law_spec Gx hBM h85 rfl (by decide) (by decide) rfl rfl hL (by rw [hi1]; exact hlen (by assumption)) hi2 ?_
  intro h' tk gens' hk ht hb
  refine ⟨.inl ⟨_, .bool true, [], rfl, fun _ => rfl, .bool true, ?_, fun _ => ⟨.nil, fun _ h => nomatch h⟩⟩, ⟨fun b o e => ?_, fun b o e => ?_⟩, rfl, hb (by rw [hg]; exact fun _ h => absurd h (by simp))⟩
  · first | rfl | kernel_rfl
  · by_cases q : b = 85
    · subst q
      rw [h85] at e; cases e
      obtain ⟨tb, ht⟩ := ht
      obtain ⟨oc, vs, file, tf, flags, tg, inF, text, tt, e1, e2, e3, e4, _⟩ := codeHd_of_K KX (code87 w)
      exact .inr (.inl ⟨⟨87, oc, vs, e1, e2, e3, e4⟩, rfl, #[], tb, rfl, by simpa using ht⟩)
    · exact .inl (hk b o q e)
  · by_cases q : b = 85
    · subst q
      obtain ⟨tb, ht⟩ := ht
      exact ⟨_, ht⟩
    · exact ⟨_, hk b o q e⟩
end

