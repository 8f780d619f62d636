import PyProof.Rows.All
import Wide.All
import OpenK.AllK
import Wide.FinOn
import PySem.Challenge.RW_re0012_01
open PySem PySem.W PySem.W.X PyProof.Rows
set_option Elab.async false
set_option linter.unusedVariables false
set_option maxRecDepth 100000
namespace Mine

noncomputable abbrev D : Code → Sem Fin := PySem.W.Fast.tw11892475500146522536 PySem.W.Fast.tw14364793385576792824
theorem D_eq : denote table = D := by
  rw [table_eq_tree, PySem.W.Fast.te11892475500146522536, PySem.W.Fast.te14364793385576792824]
noncomputable abbrev quietQ : Code → Bool := PySem.W.ZFast.zw17772548960776305114
theorem quietQ_eq : Code.quiet = quietQ := PySem.W.ZFast.ze17772548960776305114
noncomputable abbrev weightQ : Code → Nat := PySem.W.ZFast.zw1243936422450756474
theorem weightQ_eq : Code.weight = weightQ := PySem.W.ZFast.ze1243936422450756474
noncomputable abbrev unitsQ : Code → Nat := PySem.W.Fast.tw165980757501359005
theorem unitsQ_eq : Code.cUnits = unitsQ := PySem.W.Fast.te165980757501359005
noncomputable abbrev roomT : String → Sem Unit := PySem.W.Fast.tw10648789137845014744
theorem roomT_eq : cRoom = roomT := PySem.W.Fast.te10648789137845014744
noncomputable abbrev enterT : Nat → Sem Unit := @PySem.W.Fast.tw15066281185411960212
theorem enterT_eq : @enterFrame = enterT := PySem.W.Fast.te15066281185411960212

/-- how a code ends -/
inductive En where
  | res (r : Result)
  | again (c : Code)
/-- what is compared -/
inductive Ob where
  | ad (a : Nat)
  | tr (t : Sem Fin)
  | bo (b : Bool)
  | cd (c : Code)
  | en (e : En)
  | tl (l : List (Addr × Obj))
  | ol (l : List (Option (Addr × Obj)))
/-- a contract: a code, the objects it asks, what it may end in -/
structure Con where
  c : Code
  pre : List (Addr × Obj)
  dep : Nat
  uni : Nat
  post : (Nat → Nat) → En × List Obj × List (Addr × Obj)

inductive Ko where
  | base
  | ret (c : Code) (k : Result → Sem Fin) (κ : Ko)
noncomputable def dOf : Ko → Nat := Ko.rec 0 (fun c _ _ ih => ih + weightQ c)
noncomputable def uOf : Ko → Nat := Ko.rec 0 (fun c _ _ ih => ih + unitsQ c)

structure Out (s s' : Shared) (pre : List (Addr × Obj)) (objs : List Obj) (news : List (Addr × Obj)) : Prop where
  gens : s'.gens = s.gens
  drawn : s'.drawn = s.drawn
  os : s'.os = s.os
  toks : s.toks ≤ s'.toks
  size : s.heap.objs.size ≤ s'.heap.objs.size
  keep : ∀ b o, s.heap.get? b = some o → b ∉ pre.map (·.1) → s'.heap.get? b = some o
  len : objs.length = pre.length
  at_ : ∀ p ∈ (pre.map (·.1)).zip objs, s'.heap.get? p.1 = some p.2
  made : ∀ p ∈ news, s'.heap.get? p.1 = some p.2 ∧ s.heap.objs.size ≤ p.1
  nnd : (news.map (·.1)).Nodup

def Ends (prog : Program) (w : World) (A : Around) (R : Result → Shared → Prop) (e : En) (s' : Shared) : Prop := match e with
  | .res r => R r s'
  | .again c => codeAny (model prog w) A c R s'

def KIn (kg : Nat → Option Obj) (h : Heap) : Prop := ∀ a o, kg a = some o → h.get? a = some o
def KS (kg : Nat → Option Obj) (s : Shared) : Prop := KIn kg s.heap ∧ 0 < s.toks
def Valid (prog : Program) (w : World) (kg : Nat → Option Obj) (con : Con) : Prop :=
  ∀ (A : Around) (s : Shared) (R : Result → Shared → Prop), A.handled = none → A.depth + con.dep < recursionLimit → A.units + con.uni < cLine →
    KS kg s → (∀ p ∈ con.pre, s.heap.get? p.1 = some p.2 ∧ kg p.1 = none) → (con.pre.map (·.1)).Nodup →
    (∀ e s', Out s s' con.pre (con.post e).2.1 (con.post e).2.2 → Ends prog w A R (con.post e).1 s') → codeAny (model prog w) A con.c R s

/-- a script -/
inductive Sc (V : Con → Prop) : Type where
  | seg (is : (Nat → Nat) → (Nat → Nat) → List Nat) (k : (Nat → Nat) → (Nat → Nat) → Sc V)
  | orc (con : Con) (idx : List Nat) (h : V con) (k : (Nat → Nat) → Sc V)
  | fin (stop : Bool) (e : Nat → Nat) (drop : Nat) (nws : List Nat)

def whatAt : Nat → String
  | 0 => "comparison"
  | _ => ""

noncomputable def nth : List (Addr × Obj) → Nat → Option (Addr × Obj) := fun l => @List.rec _ (fun _ => Nat → Option (Addr × Obj)) (fun _ => none) (fun p _ ih i => @Nat.rec (fun _ => Option (Addr × Obj)) (some p) (fun j _ => ih j) i) l
noncomputable def put : List (Addr × Obj) → Nat → Obj → List (Addr × Obj) := fun l => @List.rec _ (fun _ => Nat → Obj → List (Addr × Obj)) (fun _ _ => []) (fun p l ih i o => @Nat.rec (fun _ => List (Addr × Obj)) ((p.1, o) :: l) (fun j _ => p :: ih j o) i) l
noncomputable def puts : List Nat → List Obj → List (Addr × Obj) → List (Addr × Obj) := fun is => @List.rec _ (fun _ => List Obj → List (Addr × Obj) → List (Addr × Obj)) (fun _ l => l) (fun i _ ih os l => @List.rec _ (fun _ => List (Addr × Obj)) l (fun o os' _ => ih os' (put l i o)) os) is

abbrev RTy (V : Con → Prop) := Ko → Code → Sem Fin → List (Addr × Obj) → Nat → Nat → (Nat → Nat) → (Nat → Nat) → List Nat → Sc V → (Nat → Nat → Nat) → List (Ob × Ob)
def bad : List (Ob × Ob) := [(.bo false, .bo true)]
def need (b : Bool) : Ob × Ob := (.bo b, .bo true)
section
variable {V : Con → Prop} (con₀ : Con) (S : Setting) (kg : Nat → Option Obj)
noncomputable def fini (r : En) (trk : List (Addr × Obj)) (sc : Sc V) : List (Ob × Ob) := match sc with
  | .fin _ e n nws => (.en r, .en (con₀.post e).1) :: (.tl (trk.drop n), .tl ((con₀.pre.map (·.1)).zip (con₀.post e).2.1)) :: need (Nat.beq (con₀.post e).2.1.length con₀.pre.length) ::
      (.ol (nws.map (nth (trk.take n))), .ol ((con₀.post e).2.2.map some)) :: [need (decide nws.Nodup)]
  | _ => bad
noncomputable def start (ih : RTy V) (κ : Ko) (c : Code) (t : Sem Fin) (trk : List (Addr × Obj)) (sc : Sc V) (ρ : Nat → Nat → Nat) : List (Ob × Ob) := match sc with
  | .seg is k => ih κ c t trk 0 0 (ρ 0) (fun i => ρ 1 0 + 1 + i) (is (ρ 0) (fun i => ρ 1 0 + 1 + i)) (k (ρ 0) (fun i => ρ 1 0 + 1 + i)) (fun i => ρ (i + 2))
  | _ => bad
def stops (is : List Nat) (sc : Sc V) (κ : Ko) : Bool := match κ, is, sc with
  | .base, [], .fin true _ _ _ => true
  | _, _, _ => false
noncomputable def aft (t : Sem Fin) : Option (Sem Fin) := match t with
  | .load a _ k => match kg a with
    | some o => some (k o)
    | none => none
  | _ => none
noncomputable def runStep (ih : RTy V) : RTy V := fun κ c t trk m j ad tk is sc ρ => match t with
  | .pure fin => match fin with
    | .done f => match κ with
      | .base => match is with
        | [] => fini con₀ (.res (.ok f)) trk sc
        | _ :: _ => bad
      | .ret c' k κ' => ih κ' c' (k (.ok f)) trk m j ad tk is sc ρ
    | .again c' => need (quietQ c') :: match stops is sc κ with
      | true => fini con₀ (.again c') trk sc
      | false => ih κ c' (D c') trk m j ad tk is sc ρ
  | .raise e => match κ with
      | .base => match is with
        | [] => fini con₀ (.res (.error e)) trk sc
        | _ :: _ => bad
      | .ret c' k κ' => ih κ' c' (k (.error e)) trk m j ad tk is sc ρ
  | .rule _ k => ih κ c (k ()) trk m j ad tk is sc ρ
  | .at _ k => ih κ c (k ()) trk m j ad tk is sc ρ
  | .point _ k => ih κ c (k ()) trk m j ad tk is sc ρ
  | .ask k => ih κ c (k S) trk m j ad tk is sc ρ
  | .load a _ k => match is with
    | [] => bad
    | i :: is => match i with
      | 0 => match kg a with
        | some o => ih κ c (k o) trk m j ad tk is sc ρ
        | none => bad
      | i + 1 => match nth trk i with
        | some p => (.ad a, .ad p.1) :: ih κ c (k p.2) trk m j ad tk is sc ρ
        | none => bad
  | .alloc o k => match o.isFreed with
    | false => ih κ c (k (ad m)) ((ad m, o) :: trk) (m + 1) j ad tk is sc ρ
    | true => bad
  | .update a _ f k => match is with
    | [] => bad
    | i :: is => match nth trk i with
      | some p => match (f p.2).isFreed with
        | false => (.ad a, .ad p.1) :: ih κ c (k ()) (put trk i (f p.2)) m j ad tk is sc ρ
        | true => bad
      | none => bad
  | .fresh k => ih κ c (k (tk j)) trk m (j + 1) ad tk is sc ρ
  | .handled own k => match own with
    | false => ih κ c (k none) trk m j ad tk is sc ρ
    | true => bad
  | .stack k => match is with
    | [] => bad
    | i :: is => match i with
      | 0 => match aft kg (k []) with
        | some t' => (.tr t, .tr (PySem.W.R.bindR (enterT 0) fun _ => t')) :: need (Nat.ble (dOf κ + weightQ c) con₀.dep) :: ih κ c t' trk m j ad tk is sc ρ
        | none => bad
      | i + 1 => (.tr t, .tr (PySem.W.R.bindR (roomT (whatAt i)) fun _ => k [])) :: need (Nat.ble (uOf κ + unitsQ c) con₀.uni) :: ih κ c (k []) trk m j ad tk is sc ρ
  | .call c' hd _ _ k => match hd with
    | some _ => bad
    | none => match is with
      | [] => bad
      | i :: is => match i with
        | 0 => ih (.ret c k κ) c' (D c') trk m j ad tk is sc ρ
        | _ + 1 => match is with
          | _ :: _ => bad
          | [] => match sc with
            | .orc con idx _ next => (.cd c', .cd con.c) :: (.ol (idx.map (nth trk)), .ol (con.pre.map some)) :: need (decide idx.Nodup) :: need (Nat.ble (dOf κ + weightQ c + con.dep) con₀.dep) :: need (Nat.ble (uOf κ + unitsQ c + con.uni) con₀.uni) ::
                match (con.post (ρ 0)).1 with
                | .res r => start ih κ c (k r) ((con.post (ρ 0)).2.2 ++ puts idx (con.post (ρ 0)).2.1 trk) (next (ρ 0)) (fun i => ρ (i + 1))
                | .again _ => bad
            | _ => bad
  | _ => bad
noncomputable def run (n : Nat) : RTy V := @Nat.rec (fun _ => RTy V) (fun _ _ _ _ _ _ _ _ _ _ _ => bad) (fun _ ih => runStep con₀ S kg ih) n
noncomputable def go (n : Nat) (sc : Sc V) (ρ : Nat → Nat → Nat) : List (Ob × Ob) := start (run con₀ S kg n) .base con₀.c (D con₀.c) con₀.pre sc ρ
end
abbrev Ok (l : List (Ob × Ob)) : Prop := l.map (·.1) = l.map (·.2)
theorem ok_cons {x y : Ob} {l : List (Ob × Ob)} (h : Ok ((x, y) :: l)) : x = y ∧ Ok l := by
  unfold Ok at h ⊢
  simpa using h
theorem ok_need {b : Bool} {l : List (Ob × Ob)} (h : Ok (need b :: l)) : b = true ∧ Ok l := by
  obtain ⟨h1, h2⟩ := ok_cons h
  exact ⟨by cases h1; rfl, h2⟩
theorem not_bad : ¬ Ok bad := by
  intro h
  obtain ⟨h1, _⟩ := ok_cons h
  cases h1

theorem nth_eq : ∀ (l : List (Addr × Obj)) (i : Nat), nth l i = l[i]?
  | [], i => by simp [nth]
  | p :: l, 0 => rfl
  | p :: l, i + 1 => by
    show nth l i = _
    rw [nth_eq l i]; simp
theorem put_map : ∀ (l : List (Addr × Obj)) (i : Nat) (o : Obj), (put l i o).map (·.1) = l.map (·.1)
  | [], _, _ => rfl
  | p :: l, 0, _ => rfl
  | p :: l, i + 1, o => by
    show p.1 :: (put l i o).map (·.1) = _
    rw [put_map l i o]; rfl
theorem put_nth_ne : ∀ (l : List (Addr × Obj)) (i j : Nat) (o : Obj), i ≠ j → nth (put l i o) j = nth l j
  | [], _, _, _, _ => rfl
  | p :: l, 0, 0, _, h => absurd rfl h
  | p :: l, 0, j + 1, _, _ => rfl
  | p :: l, i + 1, 0, _, _ => rfl
  | p :: l, i + 1, j + 1, o, h => put_nth_ne l i j o fun e => h (by rw [e])
theorem put_mem : ∀ (l : List (Addr × Obj)) (i : Nat) (o : Obj) (q : Addr × Obj), (l.map (·.1)).Nodup → nth l i = some q → ∀ p ∈ put l i o, p = (q.1, o) ∨ (p ∈ l ∧ p.1 ≠ q.1)
  | [], _, _, _, _, h, _, _ => by cases h
  | r :: l, 0, o, q, hn, h, p, hp => by
    cases h
    have hp' : p ∈ (r.1, o) :: l := hp
    rcases List.mem_cons.mp hp' with e | e
    · exact .inl e
    · refine .inr ⟨.tail _ e, fun z => ?_⟩
      rw [List.map_cons, List.nodup_cons] at hn
      exact hn.1 (z ▸ List.mem_map_of_mem e)
  | r :: l, i + 1, o, q, hn, h, p, hp => by
    rw [List.map_cons, List.nodup_cons] at hn
    have h' : nth l i = some q := h
    have hp' : p ∈ r :: put l i o := hp
    rcases List.mem_cons.mp hp' with e | e
    · subst e
      refine .inr ⟨.head _, fun z => hn.1 ?_⟩
      rw [z]
      rw [nth_eq] at h'
      exact List.mem_map_of_mem (List.mem_of_getElem? h')
    · rcases put_mem l i o q hn.2 h' p e with e | e
      · exact .inl e
      · exact .inr ⟨.tail _ e.1, e.2⟩
theorem puts_map : ∀ (is : List Nat) (os : List Obj) (l : List (Addr × Obj)), (puts is os l).map (·.1) = l.map (·.1)
  | [], _, _ => rfl
  | i :: is, [], l => rfl
  | i :: is, o :: os, l => by
    show (puts is os (put l i o)).map (·.1) = _
    rw [puts_map is os, put_map]
theorem puts_mem : ∀ (is : List Nat) (os : List Obj) (l pre : List (Addr × Obj)), (l.map (·.1)).Nodup → is.Nodup → is.map (nth l) = pre.map some → os.length = pre.length →
    ∀ p ∈ puts is os l, p ∈ (pre.map (·.1)).zip os ∨ (p ∈ l ∧ p.1 ∉ pre.map (·.1))
  | [], _, l, pre, _, _, h, _, p, hp => by
    cases pre with
    | nil => exact .inr ⟨hp, by simp⟩
    | cons q r => simp at h
  | i :: is, [], l, pre, _, _, h, hl, p, hp => by
    cases pre with
    | nil => simp at h
    | cons q r => simp at hl
  | i :: is, o :: os, l, pre, hn, hi, h, hl, p, hp => by
    cases pre with
    | nil => simp at h
    | cons q r =>
      rw [List.nodup_cons] at hi
      rw [List.map_cons, List.map_cons, List.cons.injEq] at h
      have h2 : is.map (nth (put l i o)) = r.map some := by
        rw [← h.2]
        refine List.map_congr_left fun j hj => put_nth_ne l i j o fun e => hi.1 (e ▸ hj)
      have hp' : p ∈ puts is os (put l i o) := hp
      rcases puts_mem is os (put l i o) r (by rw [put_map]; exact hn) hi.2 h2 (by simpa using hl) p hp' with e | e
      · exact .inl (by rw [List.map_cons, List.zip_cons_cons]; exact .tail _ e)
      · rcases put_mem l i o q hn h.1 p e.1 with z | z
        · exact .inl (by rw [List.map_cons, List.zip_cons_cons, z]; exact .head _)
        · exact .inr ⟨z.1, by rw [List.map_cons, List.mem_cons]; exact fun y => y.elim z.2 e.2⟩
theorem zip_of_mem {pre : List (Addr × Obj)} {os : List Obj} (hl : os.length = pre.length) {a : Addr} (h : a ∈ pre.map (·.1)) : ∃ o, (a, o) ∈ (pre.map (·.1)).zip os := by
  induction pre generalizing os with
  | nil => cases h
  | cons q r ih =>
    cases os with
    | nil => simp at hl
    | cons o os =>
      rw [List.map_cons, List.mem_cons] at h
      rcases h with h | h
      · exact ⟨o, by rw [List.map_cons, List.zip_cons_cons, h]; exact .head _⟩
      · obtain ⟨o', h'⟩ := ih (by simpa using hl) h
        exact ⟨o', by rw [List.map_cons, List.zip_cons_cons]; exact .tail _ h'⟩

structure Inv (kg : Nat → Option Obj) (s0 s : Shared) (old : List Addr) (trk : List (Addr × Obj)) : Prop where
  gens : s.gens = s0.gens
  drawn : s.drawn = s0.drawn
  os : s.os = s0.os
  toks : s0.toks ≤ s.toks
  size : s0.heap.objs.size ≤ s.heap.objs.size
  keep : ∀ b o, s0.heap.get? b = some o → b ∉ old → s.heap.get? b = some o
  tr : ∀ p ∈ trk, s.heap.get? p.1 = some p.2 ∧ kg p.1 = none ∧ (p.1 ∈ old ∨ s0.heap.objs.size ≤ p.1)
  nd : (trk.map (·.1)).Nodup
  g : KS kg s
section
variable {kg : Nat → Option Obj} {s0 s : Shared} {old : List Addr} {trk : List (Addr × Obj)}
theorem Inv.fresh (I : Inv kg s0 s old trk) : Inv kg s0 { s with toks := s.toks + 1 } old trk := ⟨I.gens, I.drawn, I.os, Nat.le_succ_of_le I.toks, I.size, I.keep, I.tr, I.nd, I.g.1, Nat.succ_pos _⟩
theorem kg_none {h : Heap} (g : KIn kg h) {a : Addr} (ha : h.objs.size ≤ a) : kg a = none := by
  cases q : kg a with
  | none => rfl
  | some o => exact absurd (Heap.lt_size (g a o q)) (Nat.not_lt.mpr ha)
theorem Inv.alloc (I : Inv kg s0 s old trk) {o : Obj} (hf : o.isFreed = false) : Inv kg s0 { s with heap := s.heap.push o } old ((s.heap.objs.size, o) :: trk) := by
  refine ⟨I.gens, I.drawn, I.os, I.toks, ?_, fun b o' e q => Heap.get?_push_of_some _ (I.keep b o' e q), fun p hp => ?_, ?_, fun a o' e => Heap.get?_push_of_some _ (I.g.1 a o' e), I.g.2⟩
  · show _ ≤ (s.heap.push o).objs.size
    rw [Heap.size_push]; exact Nat.le_succ_of_le I.size
  · rcases List.mem_cons.mp hp with rfl | hp
    · exact ⟨Heap.get?_push_size _ hf, kg_none I.g.1 (Nat.le_refl _), .inr I.size⟩
    · exact ⟨Heap.get?_push_of_some _ (I.tr p hp).1, (I.tr p hp).2⟩
  · rw [List.map_cons, List.nodup_cons]
    refine ⟨fun h => ?_, I.nd⟩
    obtain ⟨p, hp, e⟩ := List.mem_map.mp h
    have e' : p.1 = s.heap.objs.size := e
    exact absurd (Heap.lt_size (I.tr p hp).1) (by rw [e']; exact Nat.lt_irrefl _)
theorem Inv.update (I : Inv kg s0 s old trk) {i : Nat} {p : Addr × Obj} {f : Obj → Obj} (hp : nth trk i = some p) (hf : (f p.2).isFreed = false) : Inv kg s0 { s with heap := s.heap.update p.1 f } old (put trk i (f p.2)) := by
  have hm : p ∈ trk := by rw [nth_eq] at hp; exact List.mem_of_getElem? hp
  have P := I.tr p hm
  have hne : ∀ b, b ≠ p.1 → (s.heap.update p.1 f).get? b = s.heap.get? b := fun b hb => Heap.get?_update_ne _ _ _ _ hb
  refine ⟨I.gens, I.drawn, I.os, I.toks, ?_, fun b o e q => ?_, fun r hr => ?_, by rw [put_map]; exact I.nd, fun a o e => ?_, I.g.2⟩
  · show _ ≤ (s.heap.update p.1 f).objs.size
    rw [Heap.size_update]; exact I.size
  · have : b ≠ p.1 := by
      rintro rfl
      rcases P.2.2 with z | z
      · exact q z
      · exact absurd (Heap.lt_size e) (Nat.not_lt.mpr z)
    exact (hne b this).trans (I.keep b o e q)
  · rcases put_mem trk i (f p.2) p I.nd hp r hr with rfl | z
    · refine ⟨?_, P.2⟩
      first | exact Heap.get?_update_self f P.1 hf | exact Heap.get?_update_self _ P.1 hf
    · exact ⟨(hne _ z.2).trans (I.tr r z.1).1, (I.tr r z.1).2⟩
  · have : a ≠ p.1 := by
      rintro rfl
      rw [P.2.1] at e; cases e
    exact (hne a this).trans (I.g.1 a o e)
theorem Inv.orc (I : Inv kg s0 s old trk) {s' : Shared} {pre : List (Addr × Obj)} {objs : List Obj} {news : List (Addr × Obj)} {idx : List Nat} (O : Out s s' pre objs news) (hi : idx.Nodup) (he : idx.map (nth trk) = pre.map some) :
    Inv kg s0 s' old (news ++ puts idx objs trk) := by
  have hm : ∀ q ∈ pre, q ∈ trk := fun q hq => by
    have : some q ∈ idx.map (nth trk) := by rw [he]; exact List.mem_map_of_mem hq
    obtain ⟨i, _, e⟩ := List.mem_map.mp this
    rw [nth_eq] at e
    exact List.mem_of_getElem? e
  have ho : ∀ a ∈ pre.map (·.1), kg a = none ∧ (a ∈ old ∨ s0.heap.objs.size ≤ a) ∧ a < s.heap.objs.size := fun a ha => by
    obtain ⟨q, hq, rfl⟩ := List.mem_map.mp ha
    have := I.tr q (hm q hq)
    exact ⟨this.2.1, this.2.2, Heap.lt_size this.1⟩
  have hg : KIn kg s'.heap := fun a o e => O.keep a o (I.g.1 a o e) fun h => by rw [(ho a h).1] at e; cases e
  refine ⟨O.gens.trans I.gens, O.drawn.trans I.drawn, O.os.trans I.os, Nat.le_trans I.toks O.toks, Nat.le_trans I.size O.size, fun b o e q => O.keep b o (I.keep b o e q) fun h => ?_, fun p hp => ?_, ?_, hg, Nat.lt_of_lt_of_le I.g.2 O.toks⟩
  · rcases (ho b h).2.1 with z | z
    · exact q z
    · exact absurd (Heap.lt_size e) (Nat.not_lt.mpr z)
  · rcases List.mem_append.mp hp with hp | hp
    · have := O.made p hp
      exact ⟨this.1, kg_none I.g.1 this.2, .inr (Nat.le_trans I.size this.2)⟩
    · rcases puts_mem idx objs trk pre I.nd hi he O.len p hp with z | z
      · have ha : p.1 ∈ pre.map (·.1) := (List.of_mem_zip z).1
        exact ⟨O.at_ p z, (ho _ ha).1, (ho _ ha).2.1⟩
      · exact ⟨O.keep _ _ (I.tr p z.1).1 z.2, (I.tr p z.1).2⟩
  · rw [List.map_append, List.nodup_append]
    refine ⟨O.nnd, by rw [puts_map]; exact I.nd, fun a ha b hb e => ?_⟩
    subst e
    obtain ⟨p, hp, rfl⟩ := List.mem_map.mp ha
    rw [puts_map] at hb
    obtain ⟨q, hq, e⟩ := List.mem_map.mp hb
    have e' : q.1 = p.1 := e
    have h1 : q.1 < s.heap.objs.size := Heap.lt_size (I.tr q hq).1
    have h2 : s.heap.objs.size ≤ p.1 := (O.made p hp).2
    rw [e'] at h1
    exact absurd h1 (Nat.not_lt.mpr h2)
end

def ar (A : Around) : Ko → Around
  | .base => A
  | .ret c _ κ => (ar A κ).under c
def en (prog : Program) (w : World) (A : Around) (R : Result → Shared → Prop) : Ko → Result → Shared → Prop
  | .base => R
  | .ret c k κ => postR prog w (ar A κ) c (postC prog w (ar A κ) (en prog w A R κ)) (postE (en prog w A R κ)) k
def Mn (prog : Program) (w : World) (A : Around) (R : Result → Shared → Prop) (κ : Ko) (c : Code) (t : Sem Fin) (s : Shared) : Prop :=
  wpOwn (model prog w) (ar A κ) c t (postC prog w (ar A κ) (en prog w A R κ)) (postE (en prog w A R κ)) s
theorem ar_depth (A : Around) : ∀ κ, (ar A κ).depth = A.depth + dOf κ
  | .base => rfl
  | .ret c k κ => by
    show (ar A κ).depth + c.weight = A.depth + (dOf κ + weightQ c)
    rw [ar_depth A κ, ← weightQ_eq]; omega
theorem ar_units (A : Around) : ∀ κ, (ar A κ).units = A.units + uOf κ
  | .base => rfl
  | .ret c k κ => by
    show (ar A κ).units + c.cUnits = A.units + (uOf κ + unitsQ c)
    rw [ar_units A κ, ← unitsQ_eq]; omega
theorem ar_handled (A : Around) : ∀ κ, (ar A κ).handled = A.handled
  | .base => rfl
  | .ret c k κ => ar_handled A κ

section
variable {prog : Program} {w : World} {kg : Nat → Option Obj} {con₀ : Con} {A : Around} {R : Result → Shared → Prop} {s0 : Shared}
theorem fini_sound {V : Con → Prop} {s : Shared} {r : En} {trk : List (Addr × Obj)} {sc : Sc V} (I : Inv kg s0 s (con₀.pre.map (·.1)) trk) (hpre : ∀ p ∈ con₀.pre, s0.heap.get? p.1 = some p.2 ∧ kg p.1 = none)
    (HR : ∀ e s', Out s0 s' con₀.pre (con₀.post e).2.1 (con₀.post e).2.2 → Ends prog w A R (con₀.post e).1 s') (H : Ok (fini con₀ r trk sc)) : Ends prog w A R r s := by
  cases sc with
  | seg _ _ => exact absurd H not_bad
  | orc _ _ _ _ => exact absurd H not_bad
  | fin _ e n nws =>
    unfold fini at H
    dsimp only at H
    obtain ⟨h1, H⟩ := ok_cons H
    obtain ⟨h2, H⟩ := ok_cons H
    obtain ⟨h3, H⟩ := ok_need H
    obtain ⟨h4, H⟩ := ok_cons H
    obtain ⟨h5, _⟩ := ok_need H
    injection h1 with h1
    injection h2 with h2
    injection h4 with h4
    have h5 : nws.Nodup := of_decide_eq_true h5
    rw [h1]
    have hsub : ∀ p ∈ trk.drop n, p ∈ trk := fun p hp => List.mem_of_mem_drop hp
    have hnew : ∀ q ∈ (con₀.post e).2.2, q ∈ trk.take n := fun q hq => by
      have : some q ∈ nws.map (nth (trk.take n)) := by rw [h4]; exact List.mem_map_of_mem hq
      obtain ⟨i, _, ei⟩ := List.mem_map.mp this
      rw [nth_eq] at ei
      exact List.mem_of_getElem? ei
    have hlen := Nat.eq_of_beq_eq_true h3
    refine HR e s ⟨I.gens, I.drawn, I.os, I.toks, I.size, I.keep, hlen, fun p hp => (I.tr p (hsub p (by rw [h2]; exact hp))).1, fun p hp => ?_, ?_⟩
    · have hm := hnew p hp
      have P := I.tr p (List.mem_of_mem_take hm)
      refine ⟨P.1, P.2.2.resolve_left fun hold => ?_⟩
      obtain ⟨o, ho⟩ := zip_of_mem hlen hold
      rw [← h2] at ho
      have nd := I.nd
      rw [← List.take_append_drop n trk, List.map_append, List.nodup_append] at nd
      exact nd.2.2 p.1 (List.mem_map_of_mem hm) p.1 (List.mem_map_of_mem (f := (·.1)) ho) rfl
    · have nd : ((trk.take n).map (·.1)).Nodup := I.nd.sublist ((List.take_sublist n trk).map _)
      have key : ∀ (ns : List Nat) (l : List (Addr × Obj)), ns.Nodup → ns.map (nth (trk.take n)) = l.map some → (l.map (·.1)).Nodup := by
        intro ns
        induction ns with
        | nil => intro l _ h; cases l with
          | nil => simp
          | cons _ _ => simp at h
        | cons i ns ih => intro l hn h; cases l with
          | nil => simp at h
          | cons q l =>
            rw [List.nodup_cons] at hn
            rw [List.map_cons, List.map_cons, List.cons.injEq] at h
            rw [List.map_cons, List.nodup_cons]
            refine ⟨fun hq => ?_, ih l hn.2 h.2⟩
            obtain ⟨q', hq', e'⟩ := List.mem_map.mp hq
            have : some q' ∈ ns.map (nth (trk.take n)) := by rw [h.2]; exact List.mem_map_of_mem hq'
            obtain ⟨j, hj, ej⟩ := List.mem_map.mp this
            have ei := h.1
            rw [nth_eq] at ei ej
            obtain ⟨li, gi⟩ := List.getElem?_eq_some_iff.mp ei
            obtain ⟨lj, gj⟩ := List.getElem?_eq_some_iff.mp ej
            have hij : i = j := by
              refine (List.getElem_inj (i := i) (j := j) (h₀ := by simpa using li) (h₁ := by simpa using lj) nd).mp ?_
              rw [List.getElem_map, List.getElem_map, gi, gj]
              exact e'.symm
            exact hn.1 (hij ▸ hj)
      exact key nws _ h5 h4

variable (hA : A.handled = none) (hD : A.depth + con₀.dep < recursionLimit) (hU : A.units + con₀.uni < cLine) (hlim : ∀ h, KIn kg h → h.NoLimit) (hpre : ∀ p ∈ con₀.pre, s0.heap.get? p.1 = some p.2 ∧ kg p.1 = none)
  (HR : ∀ e s', Out s0 s' con₀.pre (con₀.post e).2.1 (con₀.post e).2.2 → Ends prog w A R (con₀.post e).1 s')
include hA hD hU hlim hpre HR
theorem run_sound : ∀ (n : Nat) (κ : Ko) (c : Code) (t : Sem Fin) (trk : List (Addr × Obj)) (m j : Nat) (ad tk : Nat → Nat) (is : List Nat) (sc : Sc (Valid prog w kg)) (s : Shared),
    (∀ ρ, Ok (run con₀ ⟨prog, w.params⟩ kg n κ c t trk m j ad tk is sc ρ)) → Inv kg s0 s (con₀.pre.map (·.1)) trk → (∀ i, ad (m + i) = s.heap.objs.size + i) → (∀ i, tk (j + i) = s.toks + i) → Mn prog w A R κ c t s := by
  intro n
  induction n with
  | zero => intro κ c t trk m j ad tk is sc s H _ _ _; exact absurd (H fun _ _ => 0) not_bad
  | succ n ih =>
    intro κ c t trk m j ad tk is sc s H I ha ht
    replace H : ∀ ρ, Ok (runStep con₀ ⟨prog, w.params⟩ kg (run con₀ ⟨prog, w.params⟩ kg n) κ c t trk m j ad tk is sc ρ) := H
    have nb : ∀ {P : Prop}, (∀ _ : Nat → Nat → Nat, Ok bad) → P := fun h => absurd (h fun _ _ => 0) not_bad
    cases t with
    | pure fin =>
      cases fin with
      | done f =>
        cases κ with
        | base =>
          cases is with
          | nil => exact y_pure _ _ _ _ _ _ _ _ _ (fini_sound (r := .res (.ok f)) I hpre HR (H fun _ _ => 0))
          | cons _ _ => exact nb H
        | ret c' k κ' => exact y_pure _ _ _ _ _ _ _ _ _ (ih κ' c' (k (.ok f)) trk m j ad tk is sc s H I ha ht)
      | again c' =>
        have hq : c'.quiet = true := by rw [quietQ_eq]; exact (ok_need (H fun _ _ => 0)).1
        replace H := fun ρ => (ok_need (H ρ)).2
        refine y_pure _ _ _ _ _ _ _ _ _ (y_again _ _ _ _ _ _ hq ?_)
        cases hs : stops is sc κ with
        | true =>
          simp only [hs] at H
          have hb : κ = .base := by
            unfold stops at hs
            split at hs
            · rfl
            · cases hs
          subst hb
          exact fini_sound (r := .again c') I hpre HR (H fun _ _ => 0)
        | false =>
          simp only [hs] at H
          refine y_code _ _ _ _ _ _ ?_
          rw [D_eq]
          exact ih κ c' (D c') trk m j ad tk is sc s H I ha ht
    | raise e =>
      cases κ with
      | base =>
        cases is with
        | nil => exact y_raise _ _ _ _ _ _ _ _ _ (fini_sound (r := .res (.error e)) I hpre HR (H fun _ _ => 0))
        | cons _ _ => exact nb H
      | ret c' k κ' => exact y_raise _ _ _ _ _ _ _ _ _ (ih κ' c' (k (.error e)) trk m j ad tk is sc s H I ha ht)
    | rule tag k => exact y_skim _ _ _ _ _ _ _ _ (.rule tag k) 1 (ih κ c (k ()) trk m j ad tk is sc s H I ha ht)
    | «at» p k => exact y_skim _ _ _ _ _ _ _ _ (.at p k) 1 (ih κ c (k ()) trk m j ad tk is sc s H I ha ht)
    | point l k => exact y_skim _ _ _ _ _ _ _ _ (.point l k) 1 (ih κ c (k ()) trk m j ad tk is sc s H I ha ht)
    | ask k => exact y_skim _ _ _ _ _ _ _ _ (.ask k) 1 (ih κ c (k ⟨prog, w.params⟩) trk m j ad tk is sc s H I ha ht)
    | load a q k =>
      cases is with
      | nil => exact nb H
      | cons i is =>
        cases i with
        | zero =>
          cases ho : kg a with
          | none =>
            have : ∀ ρ : Nat → Nat → Nat, Ok bad := fun ρ => by have := H ρ; dsimp only [runStep] at this; rw [ho] at this; exact this
            exact nb this
          | some o =>
            have H' : ∀ ρ, Ok (run con₀ ⟨prog, w.params⟩ kg n κ c (k o) trk m j ad tk is sc ρ) := fun ρ => by have := H ρ; dsimp only [runStep] at this; rw [ho] at this; exact this
            exact wpOwn_bind (m := loadPart a q) (f := k) (wpOwn_of_wpAny (wpAny_loadPart (I.g.1 a o ho) (ih κ c (k o) trk m j ad tk is sc s H' I ha ht)))
        | succ i =>
          cases hp : nth trk i with
          | none =>
            have : ∀ ρ : Nat → Nat → Nat, Ok bad := fun ρ => by have := H ρ; dsimp only [runStep] at this; rw [hp] at this; exact this
            exact nb this
          | some p =>
            have H' : ∀ ρ, Ok ((.ad a, .ad p.1) :: run con₀ ⟨prog, w.params⟩ kg n κ c (k p.2) trk m j ad tk is sc ρ) := fun ρ => by have := H ρ; dsimp only [runStep] at this; rw [hp] at this; exact this
            have e : a = p.1 := by have := (ok_cons (H' fun _ _ => 0)).1; injection this
            have hm : p ∈ trk := by rw [nth_eq] at hp; exact List.mem_of_getElem? hp
            exact wpOwn_bind (m := loadPart a q) (f := k) (wpOwn_of_wpAny (wpAny_loadPart (e ▸ (I.tr p hm).1) (ih κ c (k p.2) trk m j ad tk is sc s (fun ρ => (ok_cons (H' ρ)).2) I ha ht)))
    | alloc o k =>
      cases hf : o.isFreed with
      | true =>
        have : ∀ ρ : Nat → Nat → Nat, Ok bad := fun ρ => by have := H ρ; dsimp only [runStep] at this; rw [hf] at this; exact this
        exact nb this
      | false =>
        have em : ad m = s.heap.objs.size := ha 0
        have H' : ∀ ρ, Ok (run con₀ ⟨prog, w.params⟩ kg n κ c (k s.heap.objs.size) ((s.heap.objs.size, o) :: trk) (m + 1) j ad tk is sc ρ) := fun ρ => by have := H ρ; dsimp only [runStep] at this; rw [hf, em] at this; exact this
        refine wpOwn_bind (m := alloc o) (f := k) (wpOwn_of_wpAny (wpAny_alloc ?_))
        refine ih κ c (k s.heap.objs.size) _ (m + 1) j ad tk is sc _ H' (I.alloc hf) (fun i => ?_) ht
        show ad (m + 1 + i) = (s.heap.push o).objs.size + i
        rw [Heap.size_push, Nat.add_assoc, ha (1 + i)]; omega
    | update a q f k =>
      cases is with
      | nil => exact nb H
      | cons i is =>
        cases hp : nth trk i with
        | none =>
          have : ∀ ρ : Nat → Nat → Nat, Ok bad := fun ρ => by have := H ρ; dsimp only [runStep] at this; rw [hp] at this; exact this
          exact nb this
        | some p =>
          cases hf : (f p.2).isFreed with
          | true =>
            have : ∀ ρ : Nat → Nat → Nat, Ok bad := fun ρ => by have := H ρ; dsimp only [runStep] at this; rw [hp] at this; dsimp only at this; rw [hf] at this; exact this
            exact nb this
          | false =>
            have H' : ∀ ρ, Ok ((.ad a, .ad p.1) :: run con₀ ⟨prog, w.params⟩ kg n κ c (k ()) (put trk i (f p.2)) m j ad tk is sc ρ) := fun ρ => by have := H ρ; dsimp only [runStep] at this; rw [hp] at this; dsimp only at this; rw [hf] at this; exact this
            have e : a = p.1 := by have := (ok_cons (H' fun _ _ => 0)).1; injection this
            subst e
            have hm : p ∈ trk := by rw [nth_eq] at hp; exact List.mem_of_getElem? hp
            refine wpOwn_bind (m := updatePart p.1 q f) (f := k) (wpOwn_of_wpAny (wpAny_updatePart (I.tr p hm).1 ?_))
            refine ih κ c (k ()) _ m j ad tk is sc _ (fun ρ => (ok_cons (H' ρ)).2) (I.update hp hf) (fun i => ?_) ht
            show ad (m + i) = (s.heap.update p.1 f).objs.size + i
            rw [Heap.size_update]; exact ha i
    | fresh k =>
      have em : tk j = s.toks := ht 0
      have H' : ∀ ρ, Ok (run con₀ ⟨prog, w.params⟩ kg n κ c (k s.toks) trk m (j + 1) ad tk is sc ρ) := fun ρ => by have := H ρ; dsimp only [runStep] at this; rw [em] at this; exact this
      refine wpOwn_bind (m := PySem.fresh) (f := k) (wpOwn_of_wpAny (wpAny_fresh ?_))
      refine ih κ c (k s.toks) trk m (j + 1) ad tk is sc _ H' I.fresh ha fun i => ?_
      show tk (j + 1 + i) = s.toks + 1 + i
      rw [Nat.add_assoc, ht (1 + i)]; omega
    | handled own k =>
      cases own with
      | true => exact nb H
      | false =>
        refine y_handled _ _ _ _ _ _ _ _ _ ?_
        rw [ar_handled, hA]
        exact ih κ c (k none) trk m j ad tk is sc s H I ha ht
    | stack k =>
      cases is with
      | nil => exact nb H
      | cons i is =>
        cases i with
        | zero =>
          cases hp : aft kg (k []) with
          | none =>
            have : ∀ ρ : Nat → Nat → Nat, Ok bad := fun ρ => by have := H ρ; dsimp only [runStep] at this; rw [hp] at this; exact this
            exact nb this
          | some t' =>
            have H' : ∀ ρ, Ok ((.tr (.stack k), .tr (PySem.W.R.bindR (enterT 0) fun _ => t')) :: need (Nat.ble (dOf κ + weightQ c) con₀.dep) :: run con₀ ⟨prog, w.params⟩ kg n κ c t' trk m j ad tk is sc ρ) := fun ρ => by have := H ρ; dsimp only [runStep] at this; rw [hp] at this; exact this
            have e : Sem.stack k = PySem.W.R.bindR (enterT 0) fun _ => t' := by have := (ok_cons (H' fun _ _ => 0)).1; injection this
            have hb := Nat.le_of_ble_eq_true (ok_need (ok_cons (H' fun _ _ => 0)).2).1
            unfold Mn
            rw [e, ← PySem.W.R.bindR_eq, ← enterT_eq]
            refine wpOwn_bind (m := enterFrame 0) (f := fun _ => t') (wpOwn_of_wpAny (wpAny_enterFrame (hlim _ I.g.1) ?_ (ih κ c t' trk m j ad tk is sc s (fun ρ => (ok_need (ok_cons (H' ρ)).2).2) I ha ht)))
            show (ar A κ).depth + c.weight < recursionLimit
            rw [ar_depth, weightQ_eq]; omega
        | succ i =>
          have H' : ∀ ρ, Ok ((.tr (.stack k), .tr (PySem.W.R.bindR (roomT (whatAt i)) fun _ => k [])) :: need (Nat.ble (uOf κ + unitsQ c) con₀.uni) :: run con₀ ⟨prog, w.params⟩ kg n κ c (k []) trk m j ad tk is sc ρ) := H
          have e : Sem.stack k = PySem.W.R.bindR (roomT (whatAt i)) fun _ => k [] := by have := (ok_cons (H' fun _ _ => 0)).1; injection this
          have hb := Nat.le_of_ble_eq_true (ok_need (ok_cons (H' fun _ _ => 0)).2).1
          unfold Mn
          generalize hk : k [] = t' at *
          rw [e, ← PySem.W.R.bindR_eq, ← roomT_eq]
          refine wpOwn_bind (m := cRoom (whatAt i)) (f := fun _ => t') (wpOwn_of_wpAny (wpAny_cRoom ?_ (ih κ c t' trk m j ad tk is sc s (fun ρ => (ok_need (ok_cons (H' ρ)).2).2) I ha ht)))
          show (ar A κ).units + c.cUnits < cLine
          rw [ar_units, unitsQ_eq]; omega
    | call c' hd g l k =>
      cases hd with
      | some _ => exact nb H
      | none =>
        cases is with
        | nil => exact nb H
        | cons i is =>
          cases i with
          | zero =>
            refine y_call _ _ _ _ _ _ _ _ _ none g l k (by intro h; cases h) (y_code _ _ _ _ _ _ ?_)
            rw [D_eq]
            exact ih (.ret c k κ) c' (D c') trk m j ad tk is sc s H I ha ht
          | succ i =>
            cases is with
            | cons _ _ => exact nb H
            | nil =>
              cases sc with
              | seg _ _ => exact nb H
              | fin _ _ _ _ => exact nb H
              | orc con idx hv next =>
                have H' : ∀ ρ : Nat → Nat → Nat, Ok ((.cd c', .cd con.c) :: (.ol (idx.map (nth trk)), .ol (con.pre.map some)) :: need (decide idx.Nodup) :: need (Nat.ble (dOf κ + weightQ c + con.dep) con₀.dep) :: need (Nat.ble (uOf κ + unitsQ c + con.uni) con₀.uni) ::
                    match (con.post (ρ 0)).1 with
                    | .res r => start (run con₀ ⟨prog, w.params⟩ kg n) κ c (k r) ((con.post (ρ 0)).2.2 ++ puts idx (con.post (ρ 0)).2.1 trk) (next (ρ 0)) (fun i => ρ (i + 1))
                    | .again _ => bad) := H
                have z := H' fun _ _ => 0
                obtain ⟨h1, z⟩ := ok_cons z
                obtain ⟨h2, z⟩ := ok_cons z
                obtain ⟨h3, z⟩ := ok_need z
                obtain ⟨h4, z⟩ := ok_need z
                obtain ⟨h5, _⟩ := ok_need z
                injection h1 with h1
                injection h2 with h2
                have h3 : idx.Nodup := of_decide_eq_true h3
                have h4 := Nat.le_of_ble_eq_true h4
                have h5 := Nat.le_of_ble_eq_true h5
                have hm : ∀ q ∈ con.pre, q ∈ trk := fun q hq => by
                  have : some q ∈ idx.map (nth trk) := by rw [h2]; exact List.mem_map_of_mem hq
                  obtain ⟨i, _, e⟩ := List.mem_map.mp this
                  rw [nth_eq] at e
                  exact List.mem_of_getElem? e
                have hnd : (con.pre.map (·.1)).Nodup := by
                  have key : ∀ (ns : List Nat) (l : List (Addr × Obj)), ns.Nodup → ns.map (nth trk) = l.map some → (l.map (·.1)).Nodup := by
                    intro ns
                    induction ns with
                    | nil => intro l _ h; cases l with
                      | nil => simp
                      | cons _ _ => simp at h
                    | cons i ns ih => intro l hn h; cases l with
                      | nil => simp at h
                      | cons q l =>
                        rw [List.nodup_cons] at hn
                        rw [List.map_cons, List.map_cons, List.cons.injEq] at h
                        rw [List.map_cons, List.nodup_cons]
                        refine ⟨fun hq => ?_, ih l hn.2 h.2⟩
                        obtain ⟨q', hq', e'⟩ := List.mem_map.mp hq
                        have : some q' ∈ ns.map (nth trk) := by rw [h.2]; exact List.mem_map_of_mem hq'
                        obtain ⟨j, hj, ej⟩ := List.mem_map.mp this
                        have ei := h.1
                        rw [nth_eq] at ei ej
                        obtain ⟨li, gi⟩ := List.getElem?_eq_some_iff.mp ei
                        obtain ⟨lj, gj⟩ := List.getElem?_eq_some_iff.mp ej
                        have hij : i = j := by
                          refine (List.getElem_inj (i := i) (j := j) (h₀ := by simpa using li) (h₁ := by simpa using lj) I.nd).mp ?_
                          rw [List.getElem_map, List.getElem_map, gi, gj]
                          exact e'.symm
                        exact hn.1 (hij ▸ hj)
                  exact key idx _ h3 h2
                subst h1
                refine y_call _ _ _ _ _ _ _ _ _ none g l k (by intro h; cases h) ?_
                refine hv ((ar A κ).under c) s _ ((ar_handled A κ).trans hA) ?_ ?_ I.g (fun p hp => ⟨(I.tr p (hm p hp)).1, (I.tr p (hm p hp)).2.1⟩) hnd fun e s' O => ?_
                · show (ar A κ).depth + c.weight + con.dep < recursionLimit
                  rw [ar_depth, weightQ_eq]; omega
                · show (ar A κ).units + c.cUnits + con.uni < cLine
                  rw [ar_units, unitsQ_eq]; omega
                · have H2 : ∀ ρ : Nat → Nat → Nat, Ok (match (con.post e).1 with
                    | .res r => start (run con₀ ⟨prog, w.params⟩ kg n) κ c (k r) ((con.post e).2.2 ++ puts idx (con.post e).2.1 trk) (next e) ρ
                    | .again _ => bad) := fun ρ => (ok_need (ok_need (ok_need (ok_cons (ok_cons (H' (fun i => match i with | 0 => e | i + 1 => ρ i))).2).2).2).2).2
                  cases hr : (con.post e).1 with
                  | again _ => simp only [hr] at H2; exact nb H2
                  | res r =>
                    simp only [hr] at H2
                    show Mn prog w A R κ c (k r) s'
                    cases hn : next e with
                    | orc _ _ _ _ => simp only [hn] at H2; exact nb H2
                    | fin _ _ _ _ => simp only [hn] at H2; exact nb H2
                    | seg is' k' =>
                      simp only [hn] at H2
                      refine ih κ c (k r) _ 0 0 (fun i => s'.heap.objs.size + i) (fun i => s'.toks - 1 + 1 + i) (is' (fun i => s'.heap.objs.size + i) (fun i => s'.toks - 1 + 1 + i)) (k' (fun i => s'.heap.objs.size + i) (fun i => s'.toks - 1 + 1 + i)) s' (fun ρ => ?_) (I.orc O h3 h2) (fun i => by rw [Nat.zero_add]) (fun i => by have hp := (I.orc O h3 h2).g.2; rw [Nat.zero_add]; omega)
                      exact H2 (fun i => match i with | 0 => fun i => s'.heap.objs.size + i | 1 => fun _ => s'.toks - 1 | i + 2 => ρ i)
    | unsupported _ => exact nb H
    | finish _ => exact nb H
    | loadIfAlive _ _ => exact nb H
    | register _ _ => exact nb H
    | choose _ _ _ => exact nb H
    | os _ _ _ => exact nb H
    | newGen _ _ => exact nb H
    | genState _ _ => exact nb H
    | resume _ _ _ _ => exact nb H
    | yield _ _ _ _ => exact nb H
    | fork _ _ => exact nb H
    | thread _ => exact nb H
    | await _ _ _ _ _ => exact nb H
end
/-- the engine's theorem -/
theorem valid_of_go {prog : Program} {w : World} {kg : Nat → Option Obj} {con : Con} (n : Nat) (sc : Sc (Valid prog w kg)) (hlim : ∀ h, KIn kg h → h.NoLimit) (H : ∀ ρ, Ok (go con ⟨prog, w.params⟩ kg n sc ρ)) : Valid prog w kg con := by
  intro A s R hA hD hU hg hpre hnd HR
  refine y_code _ _ _ _ _ _ ?_
  rw [D_eq]
  have I : Inv kg s s (con.pre.map (·.1)) con.pre := ⟨rfl, rfl, rfl, Nat.le_refl _, Nat.le_refl _, fun _ _ e _ => e, fun p hp => ⟨(hpre p hp).1, (hpre p hp).2, .inl (List.mem_map_of_mem hp)⟩, hnd, hg⟩
  cases sc with
  | orc _ _ _ _ => exact absurd (H fun _ _ => 0) not_bad
  | fin _ _ _ _ => exact absurd (H fun _ _ => 0) not_bad
  | seg is k =>
    exact run_sound hA hD hU hlim hpre HR n .base con.c (D con.c) con.pre 0 0 (fun i => s.heap.objs.size + i) (fun i => s.toks - 1 + 1 + i) (is (fun i => s.heap.objs.size + i) (fun i => s.toks - 1 + 1 + i)) (k (fun i => s.heap.objs.size + i) (fun i => s.toks - 1 + 1 + i)) s
      (fun ρ => H (fun i => match i with | 0 => fun i => s.heap.objs.size + i | 1 => fun _ => s.toks - 1 | i + 2 => ρ i)) I (fun i => by rw [Nat.zero_add]) (fun i => by have hp := hg.2; rw [Nat.zero_add]; omega)

/-- the same for any tree that the code con.c runs -/
noncomputable def goT {V : Con → Prop} (con₀ : Con) (S : Setting) (kg : Nat → Option Obj) (t : Sem Fin) (n : Nat) (sc : Sc V) (ρ : Nat → Nat → Nat) : List (Ob × Ob) := start (run con₀ S kg n) .base con₀.c t con₀.pre sc ρ
def ValidT (prog : Program) (w : World) (kg : Nat → Option Obj) (con : Con) (t : Sem Fin) : Prop :=
  ∀ (A : Around) (s : Shared) (R : Result → Shared → Prop), A.handled = none → A.depth + con.dep < recursionLimit → A.units + con.uni < cLine →
    KS kg s → (∀ p ∈ con.pre, s.heap.get? p.1 = some p.2 ∧ kg p.1 = none) → (con.pre.map (·.1)).Nodup →
    (∀ e s', Out s s' con.pre (con.post e).2.1 (con.post e).2.2 → Ends prog w A R (con.post e).1 s') → wpOwn (model prog w) A con.c t (postC prog w A R) (postE R) s
theorem validT_of_go {prog : Program} {w : World} {kg : Nat → Option Obj} {con : Con} {t : Sem Fin} (n : Nat) (sc : Sc (Valid prog w kg)) (hlim : ∀ h, KIn kg h → h.NoLimit) (H : ∀ ρ, Ok (goT con ⟨prog, w.params⟩ kg t n sc ρ)) : ValidT prog w kg con t := by
  intro A s R hA hD hU hg hpre hnd HR
  have I : Inv kg s s (con.pre.map (·.1)) con.pre := ⟨rfl, rfl, rfl, Nat.le_refl _, Nat.le_refl _, fun _ _ e _ => e, fun p hp => ⟨(hpre p hp).1, (hpre p hp).2, .inl (List.mem_map_of_mem hp)⟩, hnd, hg⟩
  cases sc with
  | orc _ _ _ _ => exact absurd (H fun _ _ => 0) not_bad
  | fin _ _ _ _ => exact absurd (H fun _ _ => 0) not_bad
  | seg is k =>
    exact run_sound hA hD hU hlim hpre HR n .base con.c t con.pre 0 0 (fun i => s.heap.objs.size + i) (fun i => s.toks - 1 + 1 + i) (is (fun i => s.heap.objs.size + i) (fun i => s.toks - 1 + 1 + i)) (k (fun i => s.heap.objs.size + i) (fun i => s.toks - 1 + 1 + i)) s
      (fun ρ => H (fun i => match i with | 0 => fun i => s.heap.objs.size + i | 1 => fun _ => s.toks - 1 | i + 2 => ρ i)) I (fun i => by rw [Nat.zero_add]) (fun i => by have hp := hg.2; rw [Nat.zero_add]; omega)
end Mine

open PySem PySem.W PySem.W.X PyProof.Rows
set_option maxHeartbeats 0
namespace Mine
lay_quick PySem.Challenge.pw_re0012_01
noncomputable abbrev pwQ : Program := PySem.W.Fast.tw377140958295697071
noncomputable def fdAt (n : Nat) : Arguments × List Stmt × Scope := match pwQ.main.body[n]? with
  | some (.FunctionDef _ args body _ _ _ scope _ _ _) => (args, body, scope)
  | _ => default
noncomputable abbrev en1 (P : Params) (l : List Nat) (t : Nat) (v : Value) : DictEntry := ⟨PyData.keyHash P ⟨⟨l⟩⟩, .str ⟨⟨l⟩⟩ t, v⟩
noncomputable def o0 (P : Params) : Obj := ⟨.type PySem.W.SL.s14018661285674007319x4, none, .dict ⟨[en1 P [95, 95, 110, 97, 109, 101, 95, 95] 1 (.str ⟨⟨[98, 117, 105, 108, 116, 105, 110, 115]⟩⟩ 160),
    en1 P [95, 95, 100, 111, 99, 95, 95] 2 (.builtin "builtins.__doc__:str#opaque"),
    en1 P [95, 95, 112, 97, 99, 107, 97, 103, 101, 95, 95] 3 (.builtin "builtins.__package__:str#opaque"),
    en1 P [95, 95, 108, 111, 97, 100, 101, 114, 95, 95] 4 (.builtin "builtins.__loader__:shared#opaque"),
    en1 P [95, 95, 115, 112, 101, 99, 95, 95] 5 (.builtin PySem.W.SL.s11665532747177232413x24),
    en1 P [95, 95, 98, 117, 105, 108, 100, 95, 99, 108, 97, 115, 115, 95, 95] 6 (.builtin PySem.W.SL.s15183661809925369436x15),
    en1 P [95, 95, 105, 109, 112, 111, 114, 116, 95, 95] 7 (.builtin PySem.W.SL.s13915890719876406383x10),
    en1 P [97, 98, 115] 8 (.builtin PySem.W.SL.s13459172003223722735x3),
    en1 P [97, 108, 108] 9 (.builtin PySem.W.SL.s10557405761357834076x3),
    en1 P [97, 110, 121] 10 (.builtin PySem.W.SL.s4233737765568776869x3),
    en1 P [97, 115, 99, 105, 105] 11 (.builtin PySem.W.SL.s2508922471967985374x5),
    en1 P [98, 105, 110] 12 (.builtin PySem.W.SL.s15574269061696679450x3),
    en1 P [98, 114, 101, 97, 107, 112, 111, 105, 110, 116] 13 (.builtin PySem.W.SL.s6016482663378992977x10),
    en1 P [99, 97, 108, 108, 97, 98, 108, 101] 14 (.builtin PySem.W.SL.s5596568736180474577x8),
    en1 P [99, 104, 114] 15 (.builtin PySem.W.SL.s2839554839881490554x3),
    en1 P [99, 111, 109, 112, 105, 108, 101] 16 (.builtin PySem.W.SL.s725004073602090463x7),
    en1 P [100, 101, 108, 97, 116, 116, 114] 17 (.builtin PySem.W.SL.s9436932552931045734x7),
    en1 P [100, 105, 114] 18 (.builtin PySem.W.SL.s2754603736356183583x3),
    en1 P [100, 105, 118, 109, 111, 100] 19 (.builtin PySem.W.SL.s15185746759980889043x6),
    en1 P [101, 118, 97, 108] 20 (.builtin PySem.W.SL.s8192189862530294059x4),
    en1 P [101, 120, 101, 99] 21 (.builtin PySem.W.SL.s7038307821325472102x4),
    en1 P [102, 111, 114, 109, 97, 116] 22 (.builtin PySem.W.SL.s5662562618415449548x6),
    en1 P [103, 101, 116, 97, 116, 116, 114] 23 (.builtin PySem.W.SL.s15281542589158584767x7),
    en1 P [103, 108, 111, 98, 97, 108, 115] 24 (.builtin PySem.W.SL.s17651547275483570877x7),
    en1 P [104, 97, 115, 97, 116, 116, 114] 25 (.builtin PySem.W.SL.s4036449017235975746x7),
    en1 P [104, 97, 115, 104] 26 (.builtin PySem.W.SL.s8879979712987360175x4),
    en1 P [104, 101, 120] 27 (.builtin PySem.W.SL.s1801250619170735830x3),
    en1 P [105, 100] 28 (.builtin PySem.W.SL.s17659931425627118568x2),
    en1 P [105, 110, 112, 117, 116] 29 (.builtin PySem.W.SL.s6063217899685152688x5),
    en1 P [105, 115, 105, 110, 115, 116, 97, 110, 99, 101] 30 (.builtin PySem.W.SL.s8008927332132565319x10),
    en1 P [105, 115, 115, 117, 98, 99, 108, 97, 115, 115] 31 (.builtin PySem.W.SL.s3544116645089599534x10),
    en1 P [105, 116, 101, 114] 32 (.builtin PySem.W.SL.s13761710972054866084x4),
    en1 P [97, 105, 116, 101, 114] 33 (.builtin PySem.W.SL.s12896375587409280029x5),
    en1 P [108, 101, 110] 34 (.builtin PySem.W.SL.s13014049009108672802x3),
    en1 P [108, 111, 99, 97, 108, 115] 35 (.builtin PySem.W.SL.s13935586738268321596x6),
    en1 P [109, 97, 120] 36 (.builtin PySem.W.SL.s8200498257699607233x3),
    en1 P [109, 105, 110] 37 (.builtin PySem.W.SL.s14114244577727609259x3),
    en1 P [110, 101, 120, 116] 38 (.builtin PySem.W.SL.s1499430450269397089x4),
    en1 P [97, 110, 101, 120, 116] 39 (.builtin PySem.W.SL.s8755793994789770505x5),
    en1 P [111, 99, 116] 40 (.builtin PySem.W.SL.s15725212667919936108x3),
    en1 P [111, 114, 100] 41 (.builtin PySem.W.SL.s15791221867095933363x3),
    en1 P [112, 111, 119] 42 (.builtin PySem.W.SL.s81309575031448614x3),
    en1 P [112, 114, 105, 110, 116] 43 (.builtin PySem.W.SL.s8069831620301644142x5),
    en1 P [114, 101, 112, 114] 44 (.builtin PySem.W.SL.s10061844253413749634x4),
    en1 P [114, 111, 117, 110, 100] 45 (.builtin PySem.W.SL.s9496514870978017513x5),
    en1 P [115, 101, 116, 97, 116, 116, 114] 46 (.builtin PySem.W.SL.s8899691144933366716x7),
    en1 P [115, 111, 114, 116, 101, 100] 47 (.builtin PySem.W.SL.s15201008993051130160x6),
    en1 P [115, 117, 109] 48 (.builtin PySem.W.SL.s741896355592496720x3),
    en1 P [118, 97, 114, 115] 49 (.builtin PySem.W.SL.s17925004256654032244x4),
    en1 P [78, 111, 110, 101] 50 (.none),
    en1 P [69, 108, 108, 105, 112, 115, 105, 115] 51 (.ellipsis),
    en1 P [78, 111, 116, 73, 109, 112, 108, 101, 109, 101, 110, 116, 101, 100] 52 (.notImplemented),
    en1 P [70, 97, 108, 115, 101] 53 (.bool false),
    en1 P [84, 114, 117, 101] 54 (.bool true),
    en1 P [98, 111, 111, 108] 55 (.type PySem.W.SL.s11695548795398191787x4),
    en1 P [109, 101, 109, 111, 114, 121, 118, 105, 101, 119] 56 (.type PySem.W.SL.s4156966113859768872x10),
    en1 P [98, 121, 116, 101, 97, 114, 114, 97, 121] 57 (.type PySem.W.SL.s9501651726347032510x9),
    en1 P [98, 121, 116, 101, 115] 58 (.type PySem.W.SL.s15722918466584999320x5),
    en1 P [99, 108, 97, 115, 115, 109, 101, 116, 104, 111, 100] 59 (.type PySem.W.SL.s591115383303110208x11),
    en1 P [99, 111, 109, 112, 108, 101, 120] 60 (.type PySem.W.SL.s15721156781594690315x7),
    en1 P [100, 105, 99, 116] 61 (.type PySem.W.SL.s14018661285674007319x4),
    en1 P [101, 110, 117, 109, 101, 114, 97, 116, 101] 62 (.type PySem.W.SL.s14340494229221121180x9),
    en1 P [102, 105, 108, 116, 101, 114] 63 (.type PySem.W.SL.s13429844117177748173x6),
    en1 P [102, 108, 111, 97, 116] 64 (.type PySem.W.SL.s16463266125957815391x5),
    en1 P [102, 114, 111, 122, 101, 110, 115, 101, 116] 65 (.type PySem.W.SL.s4922535414793169389x9),
    en1 P [112, 114, 111, 112, 101, 114, 116, 121] 66 (.type PySem.W.SL.s8101838861749082086x8),
    en1 P [105, 110, 116] 67 (.type PySem.W.SL.s7066276694103001551x3),
    en1 P [108, 105, 115, 116] 68 (.type PySem.W.SL.s9222952809800978799x4),
    en1 P [109, 97, 112] 69 (.type PySem.W.SL.s462964344163437139x3),
    en1 P [111, 98, 106, 101, 99, 116] 70 (.type PySem.W.SL.s2742458400755230247x6),
    en1 P [114, 97, 110, 103, 101] 71 (.type PySem.W.SL.s1438033511350832697x5),
    en1 P [114, 101, 118, 101, 114, 115, 101, 100] 72 (.type PySem.W.SL.s14365286008749172514x8),
    en1 P [115, 101, 116] 73 (.type PySem.W.SL.s3642769012341782148x3),
    en1 P [115, 108, 105, 99, 101] 74 (.type PySem.W.SL.s4674234679698826739x5),
    en1 P [115, 116, 97, 116, 105, 99, 109, 101, 116, 104, 111, 100] 75 (.type PySem.W.SL.s16656946322747308186x12),
    en1 P [115, 116, 114] 76 (.type PySem.W.SL.s10796804682411823810x3),
    en1 P [115, 117, 112, 101, 114] 77 (.type PySem.W.SL.s4290257624100764138x5),
    en1 P [116, 117, 112, 108, 101] 78 (.type PySem.W.SL.s2766695959194262286x5),
    en1 P [116, 121, 112, 101] 79 (.type PySem.W.SL.s17162191345867700912x4),
    en1 P [122, 105, 112] 80 (.type PySem.W.SL.s14339709457334898076x3),
    en1 P [95, 95, 100, 101, 98, 117, 103, 95, 95] 81 (.bool true),
    en1 P [66, 97, 115, 101, 69, 120, 99, 101, 112, 116, 105, 111, 110] 82 (.type PySem.W.SL.s4278001404047624695x13),
    en1 P [66, 97, 115, 101, 69, 120, 99, 101, 112, 116, 105, 111, 110, 71, 114, 111, 117, 112] 83 (.type PySem.W.SL.s6585700554429387442x18),
    en1 P [69, 120, 99, 101, 112, 116, 105, 111, 110] 84 (.type PySem.W.SL.s5946037652744460706x9),
    en1 P [71, 101, 110, 101, 114, 97, 116, 111, 114, 69, 120, 105, 116] 85 (.type PySem.W.SL.s7410770068591931388x13),
    en1 P [75, 101, 121, 98, 111, 97, 114, 100, 73, 110, 116, 101, 114, 114, 117, 112, 116] 86 (.type PySem.W.SL.s11817881795495490833x17),
    en1 P [83, 121, 115, 116, 101, 109, 69, 120, 105, 116] 87 (.type PySem.W.SL.s15679963881808890155x10),
    en1 P [65, 114, 105, 116, 104, 109, 101, 116, 105, 99, 69, 114, 114, 111, 114] 88 (.type PySem.W.SL.s3871700062485845797x15),
    en1 P [65, 115, 115, 101, 114, 116, 105, 111, 110, 69, 114, 114, 111, 114] 89 (.type PySem.W.SL.s7689518266570723881x14),
    en1 P [65, 116, 116, 114, 105, 98, 117, 116, 101, 69, 114, 114, 111, 114] 90 (.type PySem.W.SL.s9001593270443806431x14),
    en1 P [66, 117, 102, 102, 101, 114, 69, 114, 114, 111, 114] 91 (.type PySem.W.SL.s6882542574934516792x11),
    en1 P [69, 79, 70, 69, 114, 114, 111, 114] 92 (.type PySem.W.SL.s14403400214490484960x8),
    en1 P [73, 109, 112, 111, 114, 116, 69, 114, 114, 111, 114] 93 (.type PySem.W.SL.s14457978657717015782x11),
    en1 P [76, 111, 111, 107, 117, 112, 69, 114, 114, 111, 114] 94 (.type PySem.W.SL.s1753610191782819921x11),
    en1 P [77, 101, 109, 111, 114, 121, 69, 114, 114, 111, 114] 95 (.type PySem.W.SL.s14119380538032626715x11),
    en1 P [78, 97, 109, 101, 69, 114, 114, 111, 114] 96 (.type PySem.W.SL.s11437920000406562045x9),
    en1 P [79, 83, 69, 114, 114, 111, 114] 97 (.type PySem.W.SL.s10852414792293593619x7),
    en1 P [82, 101, 102, 101, 114, 101, 110, 99, 101, 69, 114, 114, 111, 114] 98 (.type PySem.W.SL.s14816307405966870543x14),
    en1 P [82, 117, 110, 116, 105, 109, 101, 69, 114, 114, 111, 114] 99 (.type PySem.W.SL.s8682627914449686677x12),
    en1 P [83, 116, 111, 112, 65, 115, 121, 110, 99, 73, 116, 101, 114, 97, 116, 105, 111, 110] 100 (.type PySem.W.SL.s4428170145600203450x18),
    en1 P [83, 116, 111, 112, 73, 116, 101, 114, 97, 116, 105, 111, 110] 101 (.type PySem.W.SL.s5991306692159431302x13),
    en1 P [83, 121, 110, 116, 97, 120, 69, 114, 114, 111, 114] 102 (.type PySem.W.SL.s16067994140765818257x11),
    en1 P [83, 121, 115, 116, 101, 109, 69, 114, 114, 111, 114] 103 (.type PySem.W.SL.s2327743974964600596x11),
    en1 P [84, 121, 112, 101, 69, 114, 114, 111, 114] 104 (.type PySem.W.SL.s2804747833354056582x9),
    en1 P [86, 97, 108, 117, 101, 69, 114, 114, 111, 114] 105 (.type PySem.W.SL.s6070975301684473832x10),
    en1 P [87, 97, 114, 110, 105, 110, 103] 106 (.type PySem.W.SL.s14270485950484850486x7),
    en1 P [70, 108, 111, 97, 116, 105, 110, 103, 80, 111, 105, 110, 116, 69, 114, 114, 111, 114] 107 (.type PySem.W.SL.s12041534306414923332x18),
    en1 P [79, 118, 101, 114, 102, 108, 111, 119, 69, 114, 114, 111, 114] 108 (.type PySem.W.SL.s2531307568338490285x13),
    en1 P [90, 101, 114, 111, 68, 105, 118, 105, 115, 105, 111, 110, 69, 114, 114, 111, 114] 109 (.type PySem.W.SL.s631175304937289666x17),
    en1 P [66, 121, 116, 101, 115, 87, 97, 114, 110, 105, 110, 103] 110 (.type PySem.W.SL.s5144983644357021410x12),
    en1 P [68, 101, 112, 114, 101, 99, 97, 116, 105, 111, 110, 87, 97, 114, 110, 105, 110, 103] 111 (.type PySem.W.SL.s18039099521571816885x18),
    en1 P [69, 110, 99, 111, 100, 105, 110, 103, 87, 97, 114, 110, 105, 110, 103] 112 (.type PySem.W.SL.s6011586214260557989x15),
    en1 P [70, 117, 116, 117, 114, 101, 87, 97, 114, 110, 105, 110, 103] 113 (.type PySem.W.SL.s5430567037509283100x13),
    en1 P [73, 109, 112, 111, 114, 116, 87, 97, 114, 110, 105, 110, 103] 114 (.type PySem.W.SL.s8117915138073963741x13),
    en1 P [80, 101, 110, 100, 105, 110, 103, 68, 101, 112, 114, 101, 99, 97, 116, 105, 111, 110, 87, 97, 114, 110, 105, 110, 103] 115 (.type PySem.W.SL.s3423317712779056401x25),
    en1 P [82, 101, 115, 111, 117, 114, 99, 101, 87, 97, 114, 110, 105, 110, 103] 116 (.type PySem.W.SL.s2007317383269046180x15),
    en1 P [82, 117, 110, 116, 105, 109, 101, 87, 97, 114, 110, 105, 110, 103] 117 (.type PySem.W.SL.s17481586968713580700x14),
    en1 P [83, 121, 110, 116, 97, 120, 87, 97, 114, 110, 105, 110, 103] 118 (.type PySem.W.SL.s2450899226349176912x13),
    en1 P [85, 110, 105, 99, 111, 100, 101, 87, 97, 114, 110, 105, 110, 103] 119 (.type PySem.W.SL.s16626165730633575011x14),
    en1 P [85, 115, 101, 114, 87, 97, 114, 110, 105, 110, 103] 120 (.type PySem.W.SL.s14288496050688921416x11),
    en1 P [66, 108, 111, 99, 107, 105, 110, 103, 73, 79, 69, 114, 114, 111, 114] 121 (.type PySem.W.SL.s5735081916595925998x15),
    en1 P [67, 104, 105, 108, 100, 80, 114, 111, 99, 101, 115, 115, 69, 114, 114, 111, 114] 122 (.type PySem.W.SL.s3865607918536308442x17),
    en1 P [67, 111, 110, 110, 101, 99, 116, 105, 111, 110, 69, 114, 114, 111, 114] 123 (.type PySem.W.SL.s13337502604062700212x15),
    en1 P [70, 105, 108, 101, 69, 120, 105, 115, 116, 115, 69, 114, 114, 111, 114] 124 (.type PySem.W.SL.s13114017843053701147x15),
    en1 P [70, 105, 108, 101, 78, 111, 116, 70, 111, 117, 110, 100, 69, 114, 114, 111, 114] 125 (.type PySem.W.SL.s17467278006356818441x17),
    en1 P [73, 110, 116, 101, 114, 114, 117, 112, 116, 101, 100, 69, 114, 114, 111, 114] 126 (.type PySem.W.SL.s17722149559621369488x16),
    en1 P [73, 115, 65, 68, 105, 114, 101, 99, 116, 111, 114, 121, 69, 114, 114, 111, 114] 127 (.type PySem.W.SL.s7855274175708717672x17),
    en1 P [78, 111, 116, 65, 68, 105, 114, 101, 99, 116, 111, 114, 121, 69, 114, 114, 111, 114] 128 (.type PySem.W.SL.s13351283678309829046x18),
    en1 P [80, 101, 114, 109, 105, 115, 115, 105, 111, 110, 69, 114, 114, 111, 114] 129 (.type PySem.W.SL.s6668348653404991179x15),
    en1 P [80, 114, 111, 99, 101, 115, 115, 76, 111, 111, 107, 117, 112, 69, 114, 114, 111, 114] 130 (.type PySem.W.SL.s12913350958174193794x18),
    en1 P [84, 105, 109, 101, 111, 117, 116, 69, 114, 114, 111, 114] 131 (.type PySem.W.SL.s16115879512475548326x12),
    en1 P [73, 110, 100, 101, 110, 116, 97, 116, 105, 111, 110, 69, 114, 114, 111, 114] 132 (.type PySem.W.SL.s15920661018069861047x16),
    en1 P [95, 73, 110, 99, 111, 109, 112, 108, 101, 116, 101, 73, 110, 112, 117, 116, 69, 114, 114, 111, 114] 133 (.type PySem.W.SL.s10779130036587390575x21),
    en1 P [73, 110, 100, 101, 120, 69, 114, 114, 111, 114] 134 (.type PySem.W.SL.s7801419657504700863x10),
    en1 P [75, 101, 121, 69, 114, 114, 111, 114] 135 (.type PySem.W.SL.s1688129525768580628x8),
    en1 P [77, 111, 100, 117, 108, 101, 78, 111, 116, 70, 111, 117, 110, 100, 69, 114, 114, 111, 114] 136 (.type PySem.W.SL.s1031832959479892071x19),
    en1 P [78, 111, 116, 73, 109, 112, 108, 101, 109, 101, 110, 116, 101, 100, 69, 114, 114, 111, 114] 137 (.type PySem.W.SL.s8991790508128307865x19),
    en1 P [80, 121, 116, 104, 111, 110, 70, 105, 110, 97, 108, 105, 122, 97, 116, 105, 111, 110, 69, 114, 114, 111, 114] 138 (.type PySem.W.SL.s14539662485746970245x23),
    en1 P [82, 101, 99, 117, 114, 115, 105, 111, 110, 69, 114, 114, 111, 114] 139 (.type PySem.W.SL.s11643622729373238714x14),
    en1 P [85, 110, 98, 111, 117, 110, 100, 76, 111, 99, 97, 108, 69, 114, 114, 111, 114] 140 (.type PySem.W.SL.s3386828779285465597x17),
    en1 P [85, 110, 105, 99, 111, 100, 101, 69, 114, 114, 111, 114] 141 (.type PySem.W.SL.s13042696260734638735x12),
    en1 P [66, 114, 111, 107, 101, 110, 80, 105, 112, 101, 69, 114, 114, 111, 114] 142 (.type PySem.W.SL.s18239426817015966623x15),
    en1 P [67, 111, 110, 110, 101, 99, 116, 105, 111, 110, 65, 98, 111, 114, 116, 101, 100, 69, 114, 114, 111, 114] 143 (.type PySem.W.SL.s1270395311379034370x22),
    en1 P [67, 111, 110, 110, 101, 99, 116, 105, 111, 110, 82, 101, 102, 117, 115, 101, 100, 69, 114, 114, 111, 114] 144 (.type PySem.W.SL.s10696252587037064777x22),
    en1 P [67, 111, 110, 110, 101, 99, 116, 105, 111, 110, 82, 101, 115, 101, 116, 69, 114, 114, 111, 114] 145 (.type PySem.W.SL.s7852717498200857586x20),
    en1 P [84, 97, 98, 69, 114, 114, 111, 114] 146 (.type PySem.W.SL.s6377248116197321094x8),
    en1 P [85, 110, 105, 99, 111, 100, 101, 68, 101, 99, 111, 100, 101, 69, 114, 114, 111, 114] 147 (.type PySem.W.SL.s3834378056692298002x18),
    en1 P [85, 110, 105, 99, 111, 100, 101, 69, 110, 99, 111, 100, 101, 69, 114, 114, 111, 114] 148 (.type PySem.W.SL.s17586630440231065808x18),
    en1 P [85, 110, 105, 99, 111, 100, 101, 84, 114, 97, 110, 115, 108, 97, 116, 101, 69, 114, 114, 111, 114] 149 (.type PySem.W.SL.s15234114252648025395x21),
    en1 P [69, 120, 99, 101, 112, 116, 105, 111, 110, 71, 114, 111, 117, 112] 150 (.type PySem.W.SL.s8496462677383758984x14),
    en1 P [69, 110, 118, 105, 114, 111, 110, 109, 101, 110, 116, 69, 114, 114, 111, 114] 151 (.type PySem.W.SL.s10852414792293593619x7),
    en1 P [73, 79, 69, 114, 114, 111, 114] 152 (.type PySem.W.SL.s10852414792293593619x7),
    en1 P [111, 112, 101, 110] 153 (.builtin PySem.W.SL.s16789243406116112673x4),
    en1 P [113, 117, 105, 116] 154 (.builtin PySem.W.SL.s14400166428656793546x20),
    en1 P [101, 120, 105, 116] 155 (.builtin PySem.W.SL.s5857708277339239366x20),
    en1 P [99, 111, 112, 121, 114, 105, 103, 104, 116] 156 (.builtin "builtins.copyright#opaque"),
    en1 P [99, 114, 101, 100, 105, 116, 115] 157 (.builtin "builtins.credits#opaque"),
    en1 P [108, 105, 99, 101, 110, 115, 101] 158 (.builtin "builtins.license#opaque"),
    en1 P [104, 101, 108, 112] 159 (.builtin PySem.W.SL.s7804999707787243718x20)]⟩ 159, ⟨[]⟩⟩
noncomputable def o2 (P : Params) : Obj := ⟨.none, none, .dict ⟨[en1 P [105, 109, 112, 111, 114, 116, 46, 108, 111, 97, 100, 101, 100, 46, 95, 115, 114, 101] 183 (.bool true),
    en1 P [99, 108, 97, 115, 115, 46, 95, 102, 114, 111, 122, 101, 110, 95, 105, 109, 112, 111, 114, 116, 108, 105, 98, 46, 66, 117, 105, 108, 116, 105, 110, 73, 109, 112, 111, 114, 116, 101, 114] 185 (.ref 14),
    en1 P [119, 97, 116, 99, 104, 101, 100, 46, 105, 109, 112, 111, 114, 116] 206 (.ref 18),
    en1 P [99, 108, 97, 115, 115, 46, 95, 102, 114, 111, 122, 101, 110, 95, 105, 109, 112, 111, 114, 116, 108, 105, 98, 46, 77, 111, 100, 117, 108, 101, 83, 112, 101, 99] 216 (.ref 22),
    en1 P [115, 121, 115, 46, 109, 111, 100, 117, 108, 101, 115, 46, 98, 111, 111, 107, 101, 100, 45, 101, 112, 111, 99, 104] 245 (.int (3) 0),
    en1 P [105, 109, 112, 111, 114, 116, 46, 108, 97, 116, 101, 114, 45, 108, 97, 105, 100, 46, 95, 115, 114, 101] 270 (.bool true),
    en1 P [119, 97, 116, 99, 104, 101, 100, 46, 108, 105, 98, 114, 97, 114, 121] 272 (.ref 27),
    en1 P [119, 97, 116, 99, 104, 101, 100, 46, 108, 105, 98, 114, 97, 114, 121, 45, 111, 98, 106, 101, 99, 116, 115] 0 (.str ⟨⟨[12]⟩⟩ 0),
    en1 P [119, 97, 116, 99, 104, 101, 100, 46, 108, 105, 98, 114, 97, 114, 121, 45, 100, 101, 101, 112, 46, 95, 115, 114, 101] 273 (.str ⟨⟨[4, 0, 0, 11, 4, 0, 0, 11, 4, 0, 0, 3, 4, 0, 0, 11, 8, 4, 100, 105, 99, 116, 2]⟩⟩ 0)]⟩ 9, ⟨[]⟩⟩
noncomputable def o3 (P : Params) : Obj := ⟨.type PySem.W.SL.s14018661285674007319x4, none, .dict ⟨[en1 P [95, 95, 110, 97, 109, 101, 95, 95] 165 (.str ⟨⟨[108, 97, 119, 95, 114, 101, 48, 48, 49, 50, 95, 48, 49]⟩⟩ 404),
    en1 P [95, 95, 100, 111, 99, 95, 95] 166 (.none),
    en1 P [95, 95, 112, 97, 99, 107, 97, 103, 101, 95, 95] 167 (.none),
    en1 P [95, 95, 108, 111, 97, 100, 101, 114, 95, 95] 168 (.builtin PySem.W.SL.s7097527257260152453x26),
    en1 P [95, 95, 115, 112, 101, 99, 95, 95] 169 (.none),
    en1 P [95, 95, 97, 110, 110, 111, 116, 97, 116, 105, 111, 110, 115, 95, 95] 170 (.ref 6),
    en1 P [95, 95, 98, 117, 105, 108, 116, 105, 110, 115, 95, 95] 171 (.ref 4),
    en1 P [95, 95, 102, 105, 108, 101, 95, 95] 173 (.str ⟨⟨[47, 99, 108, 97, 105, 109, 47, 99, 117, 116, 46, 112, 121]⟩⟩ 172),
    en1 P [95, 95, 99, 97, 99, 104, 101, 100, 95, 95] 174 (.none),
    en1 P [95, 115, 114, 101] 275 (.ref 12),
    en1 P [105, 110, 115, 111, 114, 116, 95, 108, 101, 102, 116] 296 (.ref 40),
    en1 P [98, 105, 115, 101, 99, 116, 95, 108, 101, 102, 116] 310 (.ref 49),
    en1 P [95, 115, 116, 114, 99, 111, 108, 108] 320 (.ref 56),
    en1 P [95, 115, 116, 114, 120, 102, 114, 109] 327 (.ref 63),
    en1 P [95, 116, 119, 105, 110, 95, 114, 101, 95, 49] 345 (.ref 68),
    en1 P [95, 116, 119, 105, 110, 95, 114, 101, 95, 50] 387 (.ref 73),
    en1 P [67, 82, 76, 70] 389 (.str ⟨⟨[13, 10]⟩⟩ 388),
    en1 P [95, 113, 117, 111, 116, 101, 95, 112, 101, 114, 105, 111, 100, 115] 396 (.ref 80),
    en1 P [95, 102, 105, 120, 95, 101, 111, 108, 115] 403 (.ref 87),
    en1 P [95, 108, 97, 119, 95, 119, 111, 114, 100, 115] 411 (.ref 92),
    en1 P [95, 108, 97, 119, 95, 115, 101, 110, 116] 420 (.ref 99),
    en1 P [95, 108, 97, 119, 95, 100, 117, 101] 427 (.ref 106),
    en1 P [95, 108, 97, 119, 95, 116, 117, 114, 110, 101, 100] 438 (.ref 113),
    en1 P [95, 108, 97, 119, 95, 104, 111, 108, 100, 115] 448 (.ref 120),
    en1 P [95, 108, 97, 119, 95, 112, 97, 105, 114, 115] 454 (.ref 125),
    en1 P [95, 108, 97, 119, 95, 116, 111, 108, 100] 460 (.ref 130),
    en1 P [95, 108, 97, 119, 95, 111, 110, 101, 115] 466 (.ref 135),
    en1 P [108, 97, 119] 472 (.ref 140)]⟩ 28, ⟨[]⟩⟩
noncomputable def o4 (P : Params) : Obj := ⟨.type PySem.W.SL.s6658869562736209489x6, (some 0), .plain, ⟨[]⟩⟩
noncomputable def o32 (P : Params) : Obj := ⟨.type PySem.W.SL.s2766695959194262286x5, none, .seq ⟨[.int (0) 284, .none]⟩ 0, ⟨[]⟩⟩
noncomputable def o39 (P : Params) : Obj := ⟨.type PySem.W.SL.s5856160107412720595x4, none, .fields ⟨[.str ⟨⟨[105, 110, 115, 111, 114, 116, 95, 108, 101, 102, 116]⟩⟩ 286, .str ⟨⟨[105, 110, 115, 111, 114, 116, 95, 108, 101, 102, 116]⟩⟩ 287, .str ⟨⟨[47, 99, 108, 97, 105, 109, 47, 99, 117, 116, 46, 112, 121]⟩⟩ 288, .int (3) 0, .int (4) 0, .int (0) 0, .int (1) 0, .int (3) 0, .ref 34, .bool true, .int (276) 0, .ref 35, .none, .ref 36, .ref 37, .ref 38, .int (294) 0, .int (3) 0, .str ⟨⟨[47, 99, 108, 97, 105, 109, 47, 99, 117, 116, 46, 112, 121]⟩⟩ 295]⟩, ⟨[]⟩⟩
noncomputable def o40 (P : Params) : Obj := ⟨.type PySem.W.SL.s7174869446012820540x8, none, .func { name := ⟨⟨[105, 110, 115, 111, 114, 116, 95, 108, 101, 102, 116]⟩⟩, qualname := ⟨⟨[105, 110, 115, 111, 114, 116, 95, 108, 101, 102, 116]⟩⟩, params := (fdAt 2).1, body := .stmts (fdAt 2).2.1, scope := (fdAt 2).2.2, globals := 3, closure := [], defaults := .ref 32, kwdefaults := .ref 33, doc := .none, pyModule := .str ⟨⟨[99, 112, 121, 51, 49, 51, 46, 98, 105, 115, 101, 99, 116]⟩⟩ 282, annotations := none, code := .ref 39, closureTuple := .none, builtins := 0 }, ⟨[]⟩⟩
noncomputable def o41 (P : Params) : Obj := ⟨.type PySem.W.SL.s2766695959194262286x5, none, .seq ⟨[.int (0) 297, .none]⟩ 0, ⟨[]⟩⟩
noncomputable def o48 (P : Params) : Obj := ⟨.type PySem.W.SL.s5856160107412720595x4, none, .fields ⟨[.str ⟨⟨[98, 105, 115, 101, 99, 116, 95, 108, 101, 102, 116]⟩⟩ 299, .str ⟨⟨[98, 105, 115, 101, 99, 116, 95, 108, 101, 102, 116]⟩⟩ 300, .str ⟨⟨[47, 99, 108, 97, 105, 109, 47, 99, 117, 116, 46, 112, 121]⟩⟩ 301, .int (9) 0, .int (4) 0, .int (0) 0, .int (1) 0, .int (3) 0, .ref 43, .bool true, .int (276) 0, .ref 44, .none, .ref 45, .ref 46, .ref 47, .int (308) 0, .int (9) 0, .str ⟨⟨[47, 99, 108, 97, 105, 109, 47, 99, 117, 116, 46, 112, 121]⟩⟩ 309]⟩, ⟨[]⟩⟩
noncomputable def o49 (P : Params) : Obj := ⟨.type PySem.W.SL.s7174869446012820540x8, none, .func { name := ⟨⟨[98, 105, 115, 101, 99, 116, 95, 108, 101, 102, 116]⟩⟩, qualname := ⟨⟨[98, 105, 115, 101, 99, 116, 95, 108, 101, 102, 116]⟩⟩, params := (fdAt 3).1, body := .stmts (fdAt 3).2.1, scope := (fdAt 3).2.2, globals := 3, closure := [], defaults := .ref 41, kwdefaults := .ref 42, doc := .none, pyModule := .str ⟨⟨[99, 112, 121, 51, 49, 51, 46, 98, 105, 115, 101, 99, 116]⟩⟩ 282, annotations := none, code := .ref 48, closureTuple := .none, builtins := 0 }, ⟨[]⟩⟩
noncomputable def o55 (P : Params) : Obj := ⟨.type PySem.W.SL.s5856160107412720595x4, none, .fields ⟨[.str ⟨⟨[95, 115, 116, 114, 99, 111, 108, 108]⟩⟩ 313, .str ⟨⟨[95, 115, 116, 114, 99, 111, 108, 108]⟩⟩ 314, .str ⟨⟨[47, 99, 108, 97, 105, 109, 47, 99, 117, 116, 46, 112, 121]⟩⟩ 315, .int (30) 0, .int (2) 0, .int (0) 0, .int (0) 0, .int (3) 0, .ref 50, .bool true, .int (276) 0, .ref 51, .none, .ref 52, .ref 53, .ref 54, .int (318) 0, .int (30) 0, .str ⟨⟨[47, 99, 108, 97, 105, 109, 47, 99, 117, 116, 46, 112, 121]⟩⟩ 319]⟩, ⟨[]⟩⟩
noncomputable def o56 (P : Params) : Obj := ⟨.type PySem.W.SL.s7174869446012820540x8, none, .func { name := ⟨⟨[95, 115, 116, 114, 99, 111, 108, 108]⟩⟩, qualname := ⟨⟨[95, 115, 116, 114, 99, 111, 108, 108]⟩⟩, params := (fdAt 5).1, body := .stmts (fdAt 5).2.1, scope := (fdAt 5).2.2, globals := 3, closure := [], defaults := .none, kwdefaults := .none, doc := .none, pyModule := .str ⟨⟨[99, 112, 121, 51, 49, 51, 46, 108, 111, 99, 97, 108, 101]⟩⟩ 311, annotations := none, code := .ref 55, closureTuple := .none, builtins := 0 }, ⟨[]⟩⟩
noncomputable def o62 (P : Params) : Obj := ⟨.type PySem.W.SL.s5856160107412720595x4, none, .fields ⟨[.str ⟨⟨[95, 115, 116, 114, 120, 102, 114, 109]⟩⟩ 321, .str ⟨⟨[95, 115, 116, 114, 120, 102, 114, 109]⟩⟩ 322, .str ⟨⟨[47, 99, 108, 97, 105, 109, 47, 99, 117, 116, 46, 112, 121]⟩⟩ 323, .int (32) 0, .int (1) 0, .int (0) 0, .int (0) 0, .int (3) 0, .ref 57, .bool true, .int (276) 0, .ref 58, .none, .ref 59, .ref 60, .ref 61, .int (325) 0, .int (32) 0, .str ⟨⟨[47, 99, 108, 97, 105, 109, 47, 99, 117, 116, 46, 112, 121]⟩⟩ 326]⟩, ⟨[]⟩⟩
noncomputable def o63 (P : Params) : Obj := ⟨.type PySem.W.SL.s7174869446012820540x8, none, .func { name := ⟨⟨[95, 115, 116, 114, 120, 102, 114, 109]⟩⟩, qualname := ⟨⟨[95, 115, 116, 114, 120, 102, 114, 109]⟩⟩, params := (fdAt 6).1, body := .stmts (fdAt 6).2.1, scope := (fdAt 6).2.2, globals := 3, closure := [], defaults := .none, kwdefaults := .none, doc := .none, pyModule := .str ⟨⟨[99, 112, 121, 51, 49, 51, 46, 108, 111, 99, 97, 108, 101]⟩⟩ 311, annotations := none, code := .ref 62, closureTuple := .none, builtins := 0 }, ⟨[]⟩⟩
noncomputable def o67 (P : Params) : Obj := ⟨.type PySem.W.SL.s2766695959194262286x5, none, .seq ⟨[.int (14) 0, .int (4) 0, .int (0) 0, .int (1) 0, .int (1) 0, .int (6) 0, .int (1) 0, .int (16) 0, .int (46) 0, .int (1) 0]⟩ 0, ⟨[]⟩⟩
noncomputable def o68 (P : Params) : Obj := ⟨.type PySem.W.SL.s12171344214640291687x10, none, .fields ⟨[.bytes ⟨[40, 63, 109, 41, 94, 92, 46]⟩ 331, .int (8) 344, .int (0) 0, .none, .none, .ref 67, .int (1) 0]⟩, ⟨[]⟩⟩
noncomputable def o72 (P : Params) : Obj := ⟨.type PySem.W.SL.s2766695959194262286x5, none, .seq ⟨[.int (14) 0, .int (9) 0, .int (4) 0, .int (1) 0, .int (2) 0, .int (16) 0, .int (10) 0, .int (16) 0, .int (13) 0, .int (0) 0, .int (7) 0, .int (7) 0, .int (16) 0, .int (13) 0, .int (16) 0, .int (10) 0, .int (15) 0, .int (18) 0, .int (5) 0, .int (16) 0, .int (10) 0, .int (15) 0, .int (13) 0, .int (11) 0, .int (16) 0, .int (13) 0, .int (5) 0, .int (5) 0, .int (0) 0, .int (16) 0, .int (10) 0, .int (1) 0, .int (15) 0, .int (2) 0, .int (0) 0, .int (1) 0]⟩ 0, ⟨[]⟩⟩
noncomputable def o73 (P : Params) : Obj := ⟨.type PySem.W.SL.s12171344214640291687x10, none, .fields ⟨[.str ⟨⟨[40, 63, 58, 92, 114, 92, 110, 124, 92, 110, 124, 92, 114, 40, 63, 33, 92, 110, 41, 41]⟩⟩ 347, .int (32) 386, .int (0) 0, .none, .none, .ref 72, .int (0) 0]⟩, ⟨[]⟩⟩
noncomputable def o79 (P : Params) : Obj := ⟨.type PySem.W.SL.s5856160107412720595x4, none, .fields ⟨[.str ⟨⟨[95, 113, 117, 111, 116, 101, 95, 112, 101, 114, 105, 111, 100, 115]⟩⟩ 390, .str ⟨⟨[95, 113, 117, 111, 116, 101, 95, 112, 101, 114, 105, 111, 100, 115]⟩⟩ 391, .str ⟨⟨[47, 99, 108, 97, 105, 109, 47, 99, 117, 116, 46, 112, 121]⟩⟩ 392, .int (38) 0, .int (1) 0, .int (0) 0, .int (0) 0, .int (3) 0, .ref 74, .bool true, .int (276) 0, .ref 75, .none, .ref 76, .ref 77, .ref 78, .int (394) 0, .int (38) 0, .str ⟨⟨[47, 99, 108, 97, 105, 109, 47, 99, 117, 116, 46, 112, 121]⟩⟩ 395]⟩, ⟨[]⟩⟩
noncomputable def o80 (P : Params) : Obj := ⟨.type PySem.W.SL.s7174869446012820540x8, none, .func { name := ⟨⟨[95, 113, 117, 111, 116, 101, 95, 112, 101, 114, 105, 111, 100, 115]⟩⟩, qualname := ⟨⟨[95, 113, 117, 111, 116, 101, 95, 112, 101, 114, 105, 111, 100, 115]⟩⟩, params := (fdAt 11).1, body := .stmts (fdAt 11).2.1, scope := (fdAt 11).2.2, globals := 3, closure := [], defaults := .none, kwdefaults := .none, doc := .none, pyModule := .str ⟨⟨[99, 112, 121, 51, 49, 51, 46, 115, 109, 116, 112, 108, 105, 98]⟩⟩ 328, annotations := none, code := .ref 79, closureTuple := .none, builtins := 0 }, ⟨[]⟩⟩
noncomputable def o86 (P : Params) : Obj := ⟨.type PySem.W.SL.s5856160107412720595x4, none, .fields ⟨[.str ⟨⟨[95, 102, 105, 120, 95, 101, 111, 108, 115]⟩⟩ 397, .str ⟨⟨[95, 102, 105, 120, 95, 101, 111, 108, 115]⟩⟩ 398, .str ⟨⟨[47, 99, 108, 97, 105, 109, 47, 99, 117, 116, 46, 112, 121]⟩⟩ 399, .int (40) 0, .int (1) 0, .int (0) 0, .int (0) 0, .int (3) 0, .ref 81, .bool true, .int (276) 0, .ref 82, .none, .ref 83, .ref 84, .ref 85, .int (401) 0, .int (40) 0, .str ⟨⟨[47, 99, 108, 97, 105, 109, 47, 99, 117, 116, 46, 112, 121]⟩⟩ 402]⟩, ⟨[]⟩⟩
noncomputable def o87 (P : Params) : Obj := ⟨.type PySem.W.SL.s7174869446012820540x8, none, .func { name := ⟨⟨[95, 102, 105, 120, 95, 101, 111, 108, 115]⟩⟩, qualname := ⟨⟨[95, 102, 105, 120, 95, 101, 111, 108, 115]⟩⟩, params := (fdAt 12).1, body := .stmts (fdAt 12).2.1, scope := (fdAt 12).2.2, globals := 3, closure := [], defaults := .none, kwdefaults := .none, doc := .none, pyModule := .str ⟨⟨[99, 112, 121, 51, 49, 51, 46, 115, 109, 116, 112, 108, 105, 98]⟩⟩ 328, annotations := none, code := .ref 86, closureTuple := .none, builtins := 0 }, ⟨[]⟩⟩
noncomputable def o91 (P : Params) : Obj := ⟨.type PySem.W.SL.s5856160107412720595x4, none, .fields ⟨[.str ⟨⟨[95, 108, 97, 119, 95, 119, 111, 114, 100, 115]⟩⟩ 406, .str ⟨⟨[95, 108, 97, 119, 95, 119, 111, 114, 100, 115]⟩⟩ 407, .str ⟨⟨[47, 99, 108, 97, 105, 109, 47, 99, 117, 116, 46, 112, 121]⟩⟩ 408, .int (43) 0, .int (0) 0, .int (0) 0, .int (0) 0, .int (3) 0, .ref 88, .bool true, .int (276) 0, .ref 89, .none, .none, .none, .ref 90, .int (409) 0, .int (43) 0, .str ⟨⟨[47, 99, 108, 97, 105, 109, 47, 99, 117, 116, 46, 112, 121]⟩⟩ 410]⟩, ⟨[]⟩⟩
noncomputable def o92 (P : Params) : Obj := ⟨.type PySem.W.SL.s7174869446012820540x8, none, .func { name := ⟨⟨[95, 108, 97, 119, 95, 119, 111, 114, 100, 115]⟩⟩, qualname := ⟨⟨[95, 108, 97, 119, 95, 119, 111, 114, 100, 115]⟩⟩, params := (fdAt 14).1, body := .stmts (fdAt 14).2.1, scope := (fdAt 14).2.2, globals := 3, closure := [], defaults := .none, kwdefaults := .none, doc := .none, pyModule := .str ⟨⟨[108, 97, 119, 95, 114, 101, 48, 48, 49, 50, 95, 48, 49]⟩⟩ 404, annotations := none, code := .ref 91, closureTuple := .none, builtins := 0 }, ⟨[]⟩⟩
noncomputable def o98 (P : Params) : Obj := ⟨.type PySem.W.SL.s5856160107412720595x4, none, .fields ⟨[.str ⟨⟨[95, 108, 97, 119, 95, 115, 101, 110, 116]⟩⟩ 412, .str ⟨⟨[95, 108, 97, 119, 95, 115, 101, 110, 116]⟩⟩ 413, .str ⟨⟨[47, 99, 108, 97, 105, 109, 47, 99, 117, 116, 46, 112, 121]⟩⟩ 414, .int (48) 0, .int (2) 0, .int (0) 0, .int (0) 0, .int (3) 0, .ref 93, .bool true, .int (276) 0, .ref 94, .none, .ref 95, .ref 96, .ref 97, .int (418) 0, .int (48) 0, .str ⟨⟨[47, 99, 108, 97, 105, 109, 47, 99, 117, 116, 46, 112, 121]⟩⟩ 419]⟩, ⟨[]⟩⟩
noncomputable def o99 (P : Params) : Obj := ⟨.type PySem.W.SL.s7174869446012820540x8, none, .func { name := ⟨⟨[95, 108, 97, 119, 95, 115, 101, 110, 116]⟩⟩, qualname := ⟨⟨[95, 108, 97, 119, 95, 115, 101, 110, 116]⟩⟩, params := (fdAt 15).1, body := .stmts (fdAt 15).2.1, scope := (fdAt 15).2.2, globals := 3, closure := [], defaults := .none, kwdefaults := .none, doc := .none, pyModule := .str ⟨⟨[108, 97, 119, 95, 114, 101, 48, 48, 49, 50, 95, 48, 49]⟩⟩ 404, annotations := none, code := .ref 98, closureTuple := .none, builtins := 0 }, ⟨[]⟩⟩
noncomputable def o105 (P : Params) : Obj := ⟨.type PySem.W.SL.s5856160107412720595x4, none, .fields ⟨[.str ⟨⟨[95, 108, 97, 119, 95, 100, 117, 101]⟩⟩ 421, .str ⟨⟨[95, 108, 97, 119, 95, 100, 117, 101]⟩⟩ 422, .str ⟨⟨[47, 99, 108, 97, 105, 109, 47, 99, 117, 116, 46, 112, 121]⟩⟩ 423, .int (51) 0, .int (1) 0, .int (0) 0, .int (0) 0, .int (3) 0, .ref 100, .bool true, .int (276) 0, .ref 101, .none, .ref 102, .ref 103, .ref 104, .int (425) 0, .int (51) 0, .str ⟨⟨[47, 99, 108, 97, 105, 109, 47, 99, 117, 116, 46, 112, 121]⟩⟩ 426]⟩, ⟨[]⟩⟩
noncomputable def o106 (P : Params) : Obj := ⟨.type PySem.W.SL.s7174869446012820540x8, none, .func { name := ⟨⟨[95, 108, 97, 119, 95, 100, 117, 101]⟩⟩, qualname := ⟨⟨[95, 108, 97, 119, 95, 100, 117, 101]⟩⟩, params := (fdAt 16).1, body := .stmts (fdAt 16).2.1, scope := (fdAt 16).2.2, globals := 3, closure := [], defaults := .none, kwdefaults := .none, doc := .none, pyModule := .str ⟨⟨[108, 97, 119, 95, 114, 101, 48, 48, 49, 50, 95, 48, 49]⟩⟩ 404, annotations := none, code := .ref 105, closureTuple := .none, builtins := 0 }, ⟨[]⟩⟩
noncomputable def o112 (P : Params) : Obj := ⟨.type PySem.W.SL.s5856160107412720595x4, none, .fields ⟨[.str ⟨⟨[95, 108, 97, 119, 95, 116, 117, 114, 110, 101, 100]⟩⟩ 428, .str ⟨⟨[95, 108, 97, 119, 95, 116, 117, 114, 110, 101, 100]⟩⟩ 429, .str ⟨⟨[47, 99, 108, 97, 105, 109, 47, 99, 117, 116, 46, 112, 121]⟩⟩ 430, .int (53) 0, .int (1) 0, .int (0) 0, .int (0) 0, .int (3) 0, .ref 107, .bool true, .int (276) 0, .ref 108, .none, .ref 109, .ref 110, .ref 111, .int (436) 0, .int (53) 0, .str ⟨⟨[47, 99, 108, 97, 105, 109, 47, 99, 117, 116, 46, 112, 121]⟩⟩ 437]⟩, ⟨[]⟩⟩
noncomputable def o113 (P : Params) : Obj := ⟨.type PySem.W.SL.s7174869446012820540x8, none, .func { name := ⟨⟨[95, 108, 97, 119, 95, 116, 117, 114, 110, 101, 100]⟩⟩, qualname := ⟨⟨[95, 108, 97, 119, 95, 116, 117, 114, 110, 101, 100]⟩⟩, params := (fdAt 17).1, body := .stmts (fdAt 17).2.1, scope := (fdAt 17).2.2, globals := 3, closure := [], defaults := .none, kwdefaults := .none, doc := .none, pyModule := .str ⟨⟨[108, 97, 119, 95, 114, 101, 48, 48, 49, 50, 95, 48, 49]⟩⟩ 404, annotations := none, code := .ref 112, closureTuple := .none, builtins := 0 }, ⟨[]⟩⟩
noncomputable def o119 (P : Params) : Obj := ⟨.type PySem.W.SL.s5856160107412720595x4, none, .fields ⟨[.str ⟨⟨[95, 108, 97, 119, 95, 104, 111, 108, 100, 115]⟩⟩ 439, .str ⟨⟨[95, 108, 97, 119, 95, 104, 111, 108, 100, 115]⟩⟩ 440, .str ⟨⟨[47, 99, 108, 97, 105, 109, 47, 99, 117, 116, 46, 112, 121]⟩⟩ 441, .int (60) 0, .int (2) 0, .int (0) 0, .int (0) 0, .int (3) 0, .ref 114, .bool true, .int (276) 0, .ref 115, .none, .ref 116, .ref 117, .ref 118, .int (446) 0, .int (60) 0, .str ⟨⟨[47, 99, 108, 97, 105, 109, 47, 99, 117, 116, 46, 112, 121]⟩⟩ 447]⟩, ⟨[]⟩⟩
noncomputable def o120 (P : Params) : Obj := ⟨.type PySem.W.SL.s7174869446012820540x8, none, .func { name := ⟨⟨[95, 108, 97, 119, 95, 104, 111, 108, 100, 115]⟩⟩, qualname := ⟨⟨[95, 108, 97, 119, 95, 104, 111, 108, 100, 115]⟩⟩, params := (fdAt 18).1, body := .stmts (fdAt 18).2.1, scope := (fdAt 18).2.2, globals := 3, closure := [], defaults := .none, kwdefaults := .none, doc := .none, pyModule := .str ⟨⟨[108, 97, 119, 95, 114, 101, 48, 48, 49, 50, 95, 48, 49]⟩⟩ 404, annotations := none, code := .ref 119, closureTuple := .none, builtins := 0 }, ⟨[]⟩⟩
noncomputable def o124 (P : Params) : Obj := ⟨.type PySem.W.SL.s5856160107412720595x4, none, .fields ⟨[.str ⟨⟨[95, 108, 97, 119, 95, 112, 97, 105, 114, 115]⟩⟩ 449, .str ⟨⟨[95, 108, 97, 119, 95, 112, 97, 105, 114, 115]⟩⟩ 450, .str ⟨⟨[47, 99, 108, 97, 105, 109, 47, 99, 117, 116, 46, 112, 121]⟩⟩ 451, .int (63) 0, .int (1) 0, .int (0) 0, .int (0) 0, .int (3) 0, .ref 121, .bool true, .int (276) 0, .ref 122, .none, .none, .none, .ref 123, .int (452) 0, .int (63) 0, .str ⟨⟨[47, 99, 108, 97, 105, 109, 47, 99, 117, 116, 46, 112, 121]⟩⟩ 453]⟩, ⟨[]⟩⟩
noncomputable def o125 (P : Params) : Obj := ⟨.type PySem.W.SL.s7174869446012820540x8, none, .func { name := ⟨⟨[95, 108, 97, 119, 95, 112, 97, 105, 114, 115]⟩⟩, qualname := ⟨⟨[95, 108, 97, 119, 95, 112, 97, 105, 114, 115]⟩⟩, params := (fdAt 19).1, body := .stmts (fdAt 19).2.1, scope := (fdAt 19).2.2, globals := 3, closure := [], defaults := .none, kwdefaults := .none, doc := .none, pyModule := .str ⟨⟨[108, 97, 119, 95, 114, 101, 48, 48, 49, 50, 95, 48, 49]⟩⟩ 404, annotations := none, code := .ref 124, closureTuple := .none, builtins := 0 }, ⟨[]⟩⟩
noncomputable def o129 (P : Params) : Obj := ⟨.type PySem.W.SL.s5856160107412720595x4, none, .fields ⟨[.str ⟨⟨[95, 108, 97, 119, 95, 116, 111, 108, 100]⟩⟩ 455, .str ⟨⟨[95, 108, 97, 119, 95, 116, 111, 108, 100]⟩⟩ 456, .str ⟨⟨[47, 99, 108, 97, 105, 109, 47, 99, 117, 116, 46, 112, 121]⟩⟩ 457, .int (71) 0, .int (1) 0, .int (0) 0, .int (0) 0, .int (3) 0, .ref 126, .bool true, .int (276) 0, .ref 127, .none, .none, .none, .ref 128, .int (458) 0, .int (71) 0, .str ⟨⟨[47, 99, 108, 97, 105, 109, 47, 99, 117, 116, 46, 112, 121]⟩⟩ 459]⟩, ⟨[]⟩⟩
noncomputable def o130 (P : Params) : Obj := ⟨.type PySem.W.SL.s7174869446012820540x8, none, .func { name := ⟨⟨[95, 108, 97, 119, 95, 116, 111, 108, 100]⟩⟩, qualname := ⟨⟨[95, 108, 97, 119, 95, 116, 111, 108, 100]⟩⟩, params := (fdAt 20).1, body := .stmts (fdAt 20).2.1, scope := (fdAt 20).2.2, globals := 3, closure := [], defaults := .none, kwdefaults := .none, doc := .none, pyModule := .str ⟨⟨[108, 97, 119, 95, 114, 101, 48, 48, 49, 50, 95, 48, 49]⟩⟩ 404, annotations := none, code := .ref 129, closureTuple := .none, builtins := 0 }, ⟨[]⟩⟩
noncomputable def o134 (P : Params) : Obj := ⟨.type PySem.W.SL.s5856160107412720595x4, none, .fields ⟨[.str ⟨⟨[95, 108, 97, 119, 95, 111, 110, 101, 115]⟩⟩ 461, .str ⟨⟨[95, 108, 97, 119, 95, 111, 110, 101, 115]⟩⟩ 462, .str ⟨⟨[47, 99, 108, 97, 105, 109, 47, 99, 117, 116, 46, 112, 121]⟩⟩ 463, .int (77) 0, .int (1) 0, .int (0) 0, .int (0) 0, .int (3) 0, .ref 131, .bool true, .int (276) 0, .ref 132, .none, .none, .none, .ref 133, .int (464) 0, .int (77) 0, .str ⟨⟨[47, 99, 108, 97, 105, 109, 47, 99, 117, 116, 46, 112, 121]⟩⟩ 465]⟩, ⟨[]⟩⟩
noncomputable def o135 (P : Params) : Obj := ⟨.type PySem.W.SL.s7174869446012820540x8, none, .func { name := ⟨⟨[95, 108, 97, 119, 95, 111, 110, 101, 115]⟩⟩, qualname := ⟨⟨[95, 108, 97, 119, 95, 111, 110, 101, 115]⟩⟩, params := (fdAt 21).1, body := .stmts (fdAt 21).2.1, scope := (fdAt 21).2.2, globals := 3, closure := [], defaults := .none, kwdefaults := .none, doc := .none, pyModule := .str ⟨⟨[108, 97, 119, 95, 114, 101, 48, 48, 49, 50, 95, 48, 49]⟩⟩ 404, annotations := none, code := .ref 134, closureTuple := .none, builtins := 0 }, ⟨[]⟩⟩
noncomputable def o139 (P : Params) : Obj := ⟨.type PySem.W.SL.s5856160107412720595x4, none, .fields ⟨[.str ⟨⟨[108, 97, 119]⟩⟩ 467, .str ⟨⟨[108, 97, 119]⟩⟩ 468, .str ⟨⟨[47, 99, 108, 97, 105, 109, 47, 99, 117, 116, 46, 112, 121]⟩⟩ 469, .int (79) 0, .int (1) 0, .int (0) 0, .int (0) 0, .int (3) 0, .ref 136, .bool true, .int (276) 0, .ref 137, .none, .none, .none, .ref 138, .int (470) 0, .int (79) 0, .str ⟨⟨[47, 99, 108, 97, 105, 109, 47, 99, 117, 116, 46, 112, 121]⟩⟩ 471]⟩, ⟨[]⟩⟩
noncomputable def o140 (P : Params) : Obj := ⟨.type PySem.W.SL.s7174869446012820540x8, none, .func { name := ⟨⟨[108, 97, 119]⟩⟩, qualname := ⟨⟨[108, 97, 119]⟩⟩, params := (fdAt 22).1, body := .stmts (fdAt 22).2.1, scope := (fdAt 22).2.2, globals := 3, closure := [], defaults := .none, kwdefaults := .none, doc := .none, pyModule := .str ⟨⟨[108, 97, 119, 95, 114, 101, 48, 48, 49, 50, 95, 48, 49]⟩⟩ 404, annotations := none, code := .ref 139, closureTuple := .none, builtins := 0 }, ⟨[]⟩⟩
noncomputable def ktM (P : Params) : KT := (.node (some (o0 P)) (.node none (.node (some (o3 P)) (.node none (.node none (.node none (.node (some (o63 P)) .nil .nil) .nil) (.node none (.node (some (o79 P)) .nil .nil) .nil)) (.node none (.node (some (o39 P)) (.node none (.node (some (o135 P)) .nil .nil) .nil) .nil) (.node (some (o55 P)) (.node (some (o87 P)) .nil .nil) (.node (some (o119 P)) .nil .nil)))) (.node none (.node none (.node none (.node (some (o67 P)) .nil .nil) (.node (some (o99 P)) .nil .nil)) .nil) (.node none (.node none (.node none (.node (some (o139 P)) .nil .nil) .nil) .nil) (.node none (.node (some (o91 P)) .nil .nil) .nil)))) (.node none (.node none (.node none (.node none (.node none (.node (some (o129 P)) .nil .nil) .nil) .nil) (.node (some (o49 P)) .nil (.node (some (o113 P)) .nil .nil))) (.node none (.node (some (o41 P)) (.node (some (o73 P)) .nil .nil) (.node (some (o105 P)) .nil .nil)) .nil)) (.node none .nil (.node none .nil (.node none .nil (.node (some (o125 P)) .nil .nil)))))) (.node (some (o2 P)) (.node (some (o4 P)) (.node none (.node none (.node (some (o32 P)) .nil .nil) (.node (some (o48 P)) (.node (some (o80 P)) .nil .nil) (.node (some (o112 P)) .nil .nil))) (.node none (.node (some (o40 P)) (.node (some (o72 P)) .nil .nil) .nil) (.node (some (o56 P)) .nil (.node (some (o120 P)) .nil .nil)))) (.node none (.node none (.node none (.node (some (o68 P)) .nil .nil) .nil) .nil) (.node none (.node none (.node none (.node (some (o140 P)) .nil .nil) .nil) .nil) (.node none (.node (some (o92 P)) .nil .nil) (.node (some (o124 P)) .nil .nil))))) (.node none (.node none (.node none (.node none (.node none (.node (some (o130 P)) .nil .nil) .nil) (.node (some (o98 P)) .nil .nil)) .nil) (.node none (.node none .nil (.node (some (o106 P)) .nil .nil)) .nil)) (.node none (.node none (.node none (.node none (.node (some (o134 P)) .nil .nil) .nil) .nil) (.node none (.node (some (o86 P)) .nil .nil) .nil)) (.node none .nil (.node (some (o62 P)) .nil .nil))))))
/-- the objects of a tree, with their places -/
def toL : Nat → Nat → KT → List (Nat × Obj)
  | _, _, .nil => []
  | s, b, .node v l r => (match v with | some o => [(b, o)] | none => []) ++ toL (2 * s) (s + b) l ++ toL (2 * s) (2 * s + b) r
theorem holds_toL {h : Heap} : ∀ (t : KT) (s b : Nat), (∀ p ∈ toL s b t, h.get? p.1 = some p.2) → t.Holds h s b
  | .nil, _, _, _ => trivial
  | .node v l r, s, b, H => by
    refine ⟨fun o e => ?_, holds_toL l _ _ fun p hp => H p ?_, holds_toL r _ _ fun p hp => H p ?_⟩
    · subst e; exact H (b, o) (by simp [toL])
    · simp only [toL, List.mem_append]; exact .inl (.inr hp)
    · simp only [toL, List.mem_append]; exact .inr hp
noncomputable def kg (w : World) : Nat → Option Obj := fun a => (ktM w.params).get a
theorem kin_of {w : World} {h : Heap} (H : (ktM w.params).Holds h 1 0) : KIn (kg w) h := fun a o e => by
  have := KT.Holds.get H e
  rw [Nat.one_mul, Nat.add_zero] at this
  exact this
theorem kin_from {w : World} {h : Heap} {kt : KT} (H : kt.Holds h 1 0) (e : (toL 1 0 (ktM w.params)).map (fun p => kt.get p.1) = (toL 1 0 (ktM w.params)).map fun p => some p.2) : KIn (kg w) h :=
  kin_of (holds_toL _ 1 0 fun p hp => kt_at H (by
    have key : ∀ l : List (Nat × Obj), l.map (fun p => kt.get p.1) = l.map (fun p => some p.2) → ∀ p ∈ l, kt.get p.1 = some p.2 := by
      intro l
      induction l with
      | nil => intro _ p hp; cases hp
      | cons q l ih =>
        intro e p hp
        rw [List.map_cons, List.map_cons, List.cons.injEq] at e
        rcases List.mem_cons.mp hp with rfl | hp
        · exact e.1
        · exact ih e.2 p hp
    exact key _ e p hp))
def keysStr (l : List DictEntry) : Bool := l.all fun e => match e.key with | .str _ _ => true | _ => false
theorem strKeys_of {l : List DictEntry} (h : keysStr l = true) : StrKeys ⟨l⟩ := fun e he => by
  have := List.all_eq_true.mp h e (by simpa using he)
  revert this
  cases e.key <;> intro this <;> first | exact ⟨_, _, rfl⟩ | cases this
def dictL (o : Obj) : List DictEntry := match o.data with | .dict es _ => es.toList | _ => []
def limStr : Str := ⟨⟨[115, 121, 115, 46, 114, 101, 99, 117, 114, 115, 105, 111, 110, 108, 105, 109, 105, 116]⟩⟩
theorem limStr_eq : ("sys.recursionlimit" : Str) = limStr := by decide +kernel
theorem noLimit {w : World} (h : Heap) (H : KIn (kg w) h) : h.NoLimit := by
  have h2 : h.get? 2 = some (o2 w.params) := H 2 _ (by kernel_rfl)
  have hd : ∃ ep, (o2 w.params).data = .dict ⟨dictL (o2 w.params)⟩ ep := ⟨_, rfl⟩
  obtain ⟨ep, hd⟩ := hd
  refine ⟨nsFind ⟨dictL (o2 w.params)⟩, ⟨_, _, ep, h2, hd, strKeys_of (by kernel_rfl), fun _ => rfl⟩, ?_⟩
  rw [limStr_eq]
  kernel_rfl
end Mine

open PySem PySem.W PySem.W.X PyProof.Rows
namespace Mine
/-- the world with its two rows told -/
noncomputable abbrev wf (w : World) (b1 b2 : Bool) : World := (w.withFollow "comprehension-iter-twice" b1).withFollow "special-get-raises" b2
abbrev pw : Program := PySem.Challenge.pw_re0012_01
abbrev VV (w : World) (b1 b2 : Bool) (con : Con) : Prop := Valid pw (wf w b1 b2) (kg (wf w b1 b2)) con
abbrev Scr (w : World) (b1 b2 : Bool) : Type := Sc (VV w b1 b2)
theorem vgo {w : World} {b1 b2 : Bool} {con : Con} (n : Nat) (sc : Scr w b1 b2) (H : ∀ ρ, Ok (go con ⟨pw, (wf w b1 b2).params⟩ (kg (wf w b1 b2)) n sc ρ)) : VV w b1 b2 con := valid_of_go n sc noLimit H

noncomputable abbrev tList : Value := .type PySem.W.SL.s9222952809800978799x4
noncomputable abbrev tFrame : Value := .type PySem.W.SL.s658472552662922059x5
abbrev bv (p : Array UInt8 × Nat) : Value := .bytes p.1 p.2
abbrev iv (p : Int × Nat) : Value := .int p.1 p.2
noncomputable abbrev lst (l : List Value) (n : Nat) : Obj := ⟨tList, none, .seq ⟨l⟩ n, ⟨[]⟩⟩
noncomputable abbrev frm (l : List DictEntry) (n : Nat) : Obj := ⟨tFrame, none, .dict ⟨l⟩ n, ⟨[]⟩⟩
theorem lst_eq (l : List Value) (n : Nat) : lst l n = { cls := .type "list", dict := none, data := .seq ⟨l⟩ n, slots := #[] } := by
  unfold lst tList
  rw [← PySem.W.SL.e9222952809800978799x4]

/-- a builtin of plain values -/
noncomputable def cB (id : String) (args : List Value) (v : Value) : Con := { c := .call (.builtin id) ⟨args, []⟩, pre := [], dep := 0, uni := 4, post := fun _ => (.res (.ok (.ret v)), [], []) }
variable {w : World} {b1 b2 : Bool}
noncomputable def sNil : Scr w b1 b2 := .seg (fun _ _ => []) fun _ _ => .fin false (fun _ => 0) 0 []
theorem v_ilt {x y : Int} {t u : Nat} {b : Bool} (h : decide (x < y) = b) : VV w b1 b2 (cB "int.__lt__" [.int x t, .int y u] (.bool b)) := by
  subst h
  exact vgo 60 sNil (fun ρ => by kernel_rfl)
theorem v_ieq {x y : Int} {t u : Nat} {b : Bool} (h : (x == y) = b) : VV w b1 b2 (cB "int.__eq__" [.int x t, .int y u] (.bool b)) := by
  subst h
  exact vgo 60 sNil (fun ρ => by kernel_rfl)
noncomputable def ltQ8 (o : Ordering) : Bool := PySem.W.Fast.tw12734183212444916802 PySem.W.SL.s17592003114451135761x6 o
noncomputable def gtQ8 (o : Ordering) : Bool := PySem.W.Fast.tw12734183212444916802 PySem.W.SL.s16729271297936180025x6 o
noncomputable def eqQ8 (o : Ordering) : Bool := PySem.W.Fast.tw12734183212444916802 PySem.W.SL.s5589750676692473577x6 o
theorem ltQ8_eq : ∀ o, ltQ8 o = (o == .lt) := fun o => by cases o <;> kernel_rfl
theorem gtQ8_eq : ∀ o, gtQ8 o = (o == .gt) := fun o => by cases o <;> kernel_rfl
theorem eqQ8_eq : ∀ o, eqQ8 o = (o == .eq) := fun o => by cases o <;> kernel_rfl
abbrev ord8 (x y : Array UInt8) : Ordering := Builtin.Bytes.order x.toList y.toList
theorem v_blt {x y : Array UInt8} {t u : Nat} {b : Bool} (h : (ord8 x y == .lt) = b) : VV w b1 b2 (cB "bytes.__lt__" [.bytes x t, .bytes y u] (.bool b)) := by
  subst h
  rw [← ltQ8_eq]
  exact vgo 60 sNil (fun ρ => by kernel_rfl)
theorem v_beq {x y : Array UInt8} {t u : Nat} {b : Bool} (h : (ord8 x y == .eq) = b) : VV w b1 b2 (cB "bytes.__eq__" [.bytes x t, .bytes y u] (.bool b)) := by
  subst h
  rw [← eqQ8_eq]
  exact vgo 60 sNil (fun ρ => by kernel_rfl)

theorem code_slot {prog : Program} {w : World} {A : Around} {R : Result → Shared → Prop} {s : Shared} {T : String} {name : Str} {id : String} {b : Builtin} {self : Value} {rest : List Value} (h : Slot T name id) (hT : s.TypeIs self T)
    (hb : entryFor table id = some b) (ha : argsOk id ⟨self :: rest, []⟩)
    (hc : wpAny (model prog w) A.in1 (b ⟨self :: rest, []⟩) (fun fin s' => ∃ v, fin = .done (.ret v) ∧ R (.ok (.ret v)) s') (fun e s' => R (.error e) s') s) : codeAny (model prog w) A (.call (.builtin id) ⟨self :: rest, []⟩) R s := by
  refine codeAny_call_builtin h.plain hb (h.check _ _ _ _ _ _ _ _ hT ha (wpAny_mono hc (fun fin s' h' => ?_) fun _ _ h' => h'))
  obtain ⟨v, rfl, hv⟩ := h'; exact hv
theorem isList_lst {h : Heap} {a : Addr} {l : List Value} {n : Nat} (e : h.get? a = some (lst l n)) : h.IsList a ⟨l⟩ := by
  rw [lst_eq] at e
  exact ⟨_, e, rfl, n, rfl⟩
theorem zip_self : ∀ pre : List (Addr × Obj), (pre.map (·.1)).zip (pre.map (·.2)) = pre
  | [] => rfl
  | q :: r => by rw [List.map_cons, List.map_cons, List.zip_cons_cons, zip_self r]
theorem Out.refl {s : Shared} {pre : List (Addr × Obj)} (h : ∀ p ∈ pre, s.heap.get? p.1 = some p.2) : Out s s pre (pre.map (·.2)) [] := by
  refine ⟨rfl, rfl, rfl, Nat.le_refl _, Nat.le_refl _, fun _ _ e _ => e, by simp, fun p hp => ?_, fun _ hp => (nomatch hp), List.nodup_nil⟩
  rw [zip_self] at hp
  exact h p hp

/-- an item of a list -/
noncomputable def cGet (a : Nat) (l : List Value) (n : Nat) (i : Int) (t : Nat) (v : Value) : Con := { c := .call (.builtin "list.__getitem__") ⟨[.ref a, .int i t], []⟩, pre := [(a, lst l n)], dep := 0, uni := 4, post := fun _ => (.res (.ok (.ret v)), [lst l n], []) }
theorem v_get {a : Nat} {l : List Value} {n : Nat} {i : Int} {t : Nat} {v : Value} (h0 : 0 ≤ i) (hfit : i < 2 ^ 63) (hx : l[i.toNat]? = some v) : VV w b1 b2 (cGet a l n i t v) := by
  intro A s R hA hD hU hg hpre hnd HR
  have ho := (hpre (a, lst l n) (.head _)).1
  have hl := isList_lst ho
  obtain ⟨o, ho', hc, ne, hd⟩ := id hl
  refine code_slot slot_list_getitem hl.typeIs entry_list_getitem (args_list_getitem _ _) ?_
  show wpAny _ _ (Builtin.List.listSubscript? (.int i t) >>= _) _ _ s
  refine wpAny_bind (wpAny_listSubscript_int (fitsIndex_of h0 hfit) ?_)
  clear hfit
  obtain ⟨j, rfl⟩ := Int.eq_ofNat_of_zero_le h0
  have hx' : (⟨l⟩ : Array Value)[j]? = some v := by simpa using hx
  show wpAny _ _ ((seqItemAt a j >>= fun r => pure (r.map (j, ·))) >>= _) _ _ s
  refine wpAny_bind (wpAny_bind (wpAny_seqItemAt ho' hd (wpAny_pure ?_)))
  rw [hx']
  have fin : R (.ok (.ret v)) s := HR (fun _ => 0) s (Out.refl fun p hp => (hpre p hp).1)
  first
    | exact wpAny_bind (wpAny_pure (wpAny_pure ⟨v, rfl, fin⟩))
    | exact wpAny_pure ⟨v, rfl, fin⟩

theorem map_zip {pre : List (Addr × Obj)} {os : List Obj} (hl : os.length = pre.length) : ((pre.map (·.1)).zip os).map (·.1) = pre.map (·.1) := by
  rw [List.map_fst_zip]
  simp [hl]
theorem Out.trans {s s1 s2 : Shared} {pre pre2 : List (Addr × Obj)} {o1 o2 : List Obj} {n1 n2 : List (Addr × Obj)} (O1 : Out s s1 pre o1 n1) (e2 : pre2.map (·.1) = pre.map (·.1)) (O2 : Out s1 s2 pre2 o2 n2) : Out s s2 pre o2 n2 := by
  refine ⟨O2.gens.trans O1.gens, O2.drawn.trans O1.drawn, O2.os.trans O1.os, Nat.le_trans O1.toks O2.toks, Nat.le_trans O1.size O2.size, fun b o e q => O2.keep b o (O1.keep b o e q) (by rw [e2]; exact q), ?_, ?_, fun p hp => ⟨(O2.made p hp).1, Nat.le_trans O1.size (O2.made p hp).2⟩, O2.nnd⟩
  · rw [O2.len]
    have := congrArg List.length e2
    simpa using this
  · rw [← e2]; exact O2.at_
theorem kin_out {kg : Nat → Option Obj} {s s' : Shared} {pre : List (Addr × Obj)} {objs : List Obj} {news : List (Addr × Obj)} (O : Out s s' pre objs news) (hg : KS kg s) (hpre : ∀ p ∈ pre, s.heap.get? p.1 = some p.2 ∧ kg p.1 = none) : KS kg s' :=
  ⟨fun a o e => O.keep a o (hg.1 a o e) fun h => (by
    obtain ⟨q, hq, rfl⟩ := List.mem_map.mp h
    rw [(hpre q hq).2] at e
    cases e), Nat.lt_of_lt_of_le hg.2 O.toks⟩
theorem valid_seq {prog : Program} {w : World} {kg : Nat → Option Obj} {con con1 : Con} (h1 : Valid prog w kg con1) (hc : con.c = con1.c) (hp : con.pre = con1.pre) (hd : con1.dep ≤ con.dep) (hu : con1.uni ≤ con.uni)
    (h2 : ∀ e, ∃ con2 : Con, (con1.post e).1 = .again con2.c ∧ con2.pre = (con1.pre.map (·.1)).zip (con1.post e).2.1 ∧ con2.dep ≤ con.dep ∧ con2.uni ≤ con.uni ∧ Valid prog w kg con2 ∧ ∀ e', ∃ e'', con.post e'' = con2.post e') : Valid prog w kg con := by
  intro A s R hA hD hU hg hpre hnd HR
  rw [hp] at hpre hnd
  rw [hc]
  refine h1 A s R hA (by omega) (by omega) hg hpre hnd fun e s' O => ?_
  obtain ⟨con2, k1, k3, k4, k5, k6, k7⟩ := h2 e
  rw [k1]
  show codeAny (model prog w) A con2.c R s'
  have em : con2.pre.map (·.1) = con1.pre.map (·.1) := by rw [k3]; exact map_zip O.len
  refine k6 A s' R hA (by omega) (by omega) (kin_out O hg hpre) (fun p hq => ?_) (by rw [em]; exact hnd) fun e' s'' O' => ?_
  · rw [k3] at hq
    refine ⟨O.at_ p hq, ?_⟩
    have : p.1 ∈ con1.pre.map (·.1) := (List.of_mem_zip hq).1
    obtain ⟨q, hq', e⟩ := List.mem_map.mp this
    have e : q.1 = p.1 := e
    rw [← e]; exact (hpre q hq').2
  · obtain ⟨e'', z⟩ := k7 e'
    have := HR e'' s'' (by rw [z, hp]; exact O.trans em O')
    rw [z] at this
    exact this
/-- the same contract in other words -/
theorem valid_as {prog : Program} {w : World} {kg : Nat → Option Obj} {con con1 : Con} (h1 : Valid prog w kg con1) (hc : con.c = con1.c) (hp : con.pre = con1.pre) (hd : con1.dep ≤ con.dep) (hu : con1.uni ≤ con.uni) (h2 : ∀ e, ∃ e', con.post e' = con1.post e) : Valid prog w kg con := by
  intro A s R hA hD hU hg hpre hnd HR
  rw [hp] at hpre hnd
  rw [hc]
  refine h1 A s R hA (by omega) (by omega) hg hpre hnd fun e s' O => ?_
  obtain ⟨e', z⟩ := h2 e
  have := HR e' s' (by rw [z, hp]; exact O)
  rw [z] at this
  exact this

theorem zip_append' {α β : Type} : ∀ {a : List α} {b : List β} {c : List α} {d : List β}, a.length = b.length → (a ++ c).zip (b ++ d) = a.zip b ++ c.zip d
  | [], [], _, _, _ => rfl
  | [], _ :: _, _, _, h => by simp at h
  | _ :: _, [], _, _, h => by simp at h
  | x :: a, y :: b, c, d, h => by
    have := zip_append' (c := c) (d := d) (Nat.succ.inj h : a.length = b.length)
    simp only [List.cons_append, List.zip_cons_cons, this]
/-- the frame rule -/
theorem valid_frame {prog : Program} {w : World} {kg : Nat → Option Obj} {con con1 : Con} {ex : List (Addr × Obj)} (h1 : Valid prog w kg con1) (hc : con.c = con1.c) (hp : con.pre = con1.pre ++ ex) (hd : con1.dep ≤ con.dep) (hu : con1.uni ≤ con.uni)
    (h2 : ∀ e, con.post e = ((con1.post e).1, (con1.post e).2.1 ++ ex.map (·.2), (con1.post e).2.2)) : Valid prog w kg con := by
  intro A s R hA hD hU hg hpre hnd HR
  rw [hp] at hpre hnd
  rw [hc]
  rw [List.map_append, List.nodup_append] at hnd
  refine h1 A s R hA (by omega) (by omega) hg (fun p q => hpre p (List.mem_append_left _ q)) hnd.1 fun e s' O => ?_
  have z := h2 e
  have := HR e s' (by
    rw [z, hp]
    refine ⟨O.gens, O.drawn, O.os, O.toks, O.size, fun b o eb q => O.keep b o eb fun h => q (by rw [List.map_append]; exact List.mem_append_left _ h), by simp [O.len], fun p hq => ?_, O.made, O.nnd⟩
    rw [List.map_append, zip_append' (by simp [O.len])] at hq
    rcases List.mem_append.mp hq with hq | hq
    · exact O.at_ p hq
    · rw [zip_self] at hq
      refine O.keep _ _ (hpre p (List.mem_append_right _ hq)).1 fun h => ?_
      exact hnd.2.2 p.1 h p.1 (List.mem_map_of_mem hq) rfl)
  rw [z] at this
  exact this

theorem code_slotM {prog : Program} {w : World} {A : Around} {R : Result → Shared → Prop} {s : Shared} {T : String} {name : Str} {id : String} {b : Builtin} {self : Value} {rest : List Value} {S : PySem.Spec} (h : Slot T name id) (hT : s.TypeIs self T)
    (hb : entryFor table id = some b) (ha : argsOk id ⟨self :: rest, []⟩) (M : Meets (b ⟨self :: rest, []⟩) S) (hS : S A R s) : codeAny (model prog w) A (.call (.builtin id) ⟨self :: rest, []⟩) R s :=
  codeAny_call_builtin h.plain hb (h.check _ _ _ _ _ _ _ _ hT ha (M prog w A R s hS))
/-- one object changed -/
theorem Out.one {s : Shared} {a : Addr} {o o' : Obj} {f : Obj → Obj} (ho : s.heap.get? a = some o) (hf : f o = o') (hn : o'.isFreed = false) : Out s { s with heap := s.heap.update a f } [(a, o)] [o'] [] := by
  refine ⟨rfl, rfl, rfl, Nat.le_refl _, by rw [Heap.size_update]; exact Nat.le_refl _, fun b ob eb hb => ?_, rfl, fun p hp => ?_, fun _ hp => (nomatch hp), List.nodup_nil⟩
  · exact (Heap.get?_update_ne _ _ _ _ (by simpa using hb)).trans eb
  · have : p = (a, o') := by simpa using hp
    subst this
    subst hf
    exact Heap.get?_update_self _ ho hn
theorem ins_obj (T : Value) (l : List Value) (n i : Nat) (v : Value) (hi : i ≤ l.length) :
    Obj.mapSeq (fun xs => have k := if (i : Int) < 0 then ((i : Int) + (xs.size : Int)).toNat else min (i : Int).toNat xs.size; (xs.extract 0 k).push v ++ xs.extract k) ⟨T, none, .seq ⟨l⟩ n, ⟨[]⟩⟩ = ⟨T, none, .seq ⟨l.take i ++ v :: l.drop i⟩ (n + 1), ⟨[]⟩⟩ := by
  have hneg : ¬ ((i : Int) < 0) := by omega
  have hmin : min i l.length = i := Nat.min_eq_left hi
  have hs : (Array.mk l).size = l.length := rfl
  have e : (((Array.mk l).extract 0 i).push v ++ (Array.mk l).extract i l.length) = Array.mk (l.take i ++ v :: l.drop i) := by
    apply Array.ext'
    have : List.take (l.length - i) (List.drop i l) = List.drop i l := List.take_of_length_le (by simp)
    simp [this]
  have hne : ((Array.mk (l.take i ++ v :: l.drop i)).size == l.length) = false := by
    have h1 : (Array.mk (l.take i ++ v :: l.drop i)).size = l.length + 1 := by
      show (l.take i ++ v :: l.drop i).length = _
      simp; omega
    rw [h1]
    simp
  simp only [Obj.mapSeq, hneg, if_false, Int.toNat_natCast, hs, hmin, e, hne]
  rfl
/-- list.insert -/
noncomputable def cIns (a : Nat) (l : List Value) (n : Nat) (i t : Nat) (v : Value) : Con := { c := .call (.builtin "list.insert") ⟨[.ref a, .int i t, v], []⟩, pre := [(a, lst l n)], dep := 0, uni := 4, post := fun _ => (.res (.ok (.ret .none)), [lst (l.take i ++ v :: l.drop i) (n + 1)], []) }
theorem v_ins {a : Nat} {l : List Value} {n i t : Nat} {v : Value} (hi : i ≤ l.length) (hl : l.length < 2 ^ 20) : VV w b1 b2 (cIns a l n i t v) := by
  intro A s R hA hD hU hg hpre hnd HR
  have ho := (hpre (a, lst l n) (.head _)).1
  have hL := isList_lst ho
  have ho' := ho
  rw [lst_eq] at ho'
  have hfit : Builtin.List.listFitsIndex (i : Int) = true := fitsIndex_of (by omega) (by omega)
  have hz : (⟨l⟩ : Array Value).size ≤ sizeLine := by
    have : (⟨l⟩ : Array Value).size = l.length := rfl
    rw [this, sizeLine_eq]; omega
  have hc0 : ¬ (!Builtin.List.listFitsIndex (i : Int)) = true := by rw [hfit]; decide
  have M := @PySem.AutoSeq1.list_insert_list_int_val_1 a (Array.mk l) n (i : Int) t v hc0 hz
  refine code_slotM PySem.F.slot_list_insert hL.typeIs PySem.F.entry_list_insert (PySem.F.args_list_insert_3 _ _ _) (@M) ⟨ho', ?_⟩
  have hO := Out.one (s := s) (a := a) (o := lst l n) (o' := lst (l.take i ++ v :: l.drop i) (n + 1)) (f := Obj.mapSeq fun xs => have k := if (i : Int) < 0 then ((i : Int) + (xs.size : Int)).toNat else min (i : Int).toNat xs.size; (xs.extract 0 k).push v ++ xs.extract k) ho ?_ rfl
  · exact HR (fun _ => 0) _ hO
  exact ins_obj _ l n i v hi

theorem code_fn {prog : Program} {w : World} {A : Around} {R : Result → Shared → Prop} {s : Shared} {id : String} {b : Builtin} {args : List Value} (hk : builtinKind id = none) (hp : plainId id = true) (hb : entryFor table id = some b) (ha : argsOk id ⟨args, []⟩)
    (hc : wpAny (model prog w) A.in1 (b ⟨args, []⟩) (fun fin s' => ∃ v, fin = .done (.ret v) ∧ R (.ok (.ret v)) s') (fun e s' => R (.error e) s') s) : codeAny (model prog w) A (.call (.builtin id) ⟨args, []⟩) R s := by
  refine codeAny_call_builtin hp hb ?_
  have hfin := wpAny_mono hc (Q' := fun fin s' => match fin with
      | .done f => R (.ok f) s'
      | .again c' => c'.quiet = true ∧ codeAny (model prog w) A c' R s')
    (fun fin s' h' => by obtain ⟨v, rfl, hv⟩ := h'; exact hv) fun _ _ h' => h'
  simp only [checkBuiltinCall, hk]
  cases hsig : Manifest.signature? id with
  | none => exact wpAny_pure hfin
  | some sig =>
    simp only [argsOk, hsig] at ha
    have h2 : Bind.checkArgs id sig ⟨args, []⟩ = pure () := ha
    show wpAny _ A.in1 (Bind.checkArgs id sig ⟨args, []⟩) _ _ s
    rw [h2]; exact wpAny_pure hfin
/-- len of a list -/
noncomputable def cLen (a : Nat) (l : List Value) (n : Nat) : Con := { c := .call (.builtin "len") ⟨[.ref a], []⟩, pre := [(a, lst l n)], dep := 0, uni := 8, post := fun e => (.res (.ok (.ret (.int (l.length : Nat) (e 0)))), [lst l n], []) }
theorem v_len {a : Nat} {l : List Value} {n : Nat} (hlen : l.length < 2 ^ 20) : VV w b1 b2 (cLen a l n) := by
  intro A s R hA hD hU hg hpre hnd HR
  have hl0 := (hpre (a, lst l n) (.head _)).1
  have hl := isList_lst hl0
  obtain ⟨o, ho, hc, n', hd⟩ := id hl
  have hs : (Array.mk l).size = l.length := rfl
  refine code_fn kind_len plain_len entry_len (args_len1 _) ?_
  unfold Builtin.«len»
  refine wpAny_bind (m := oneArg "len" _) (wpAny_pure ?_)
  refine wpAny_bind (m := callSpecial? (.ref a) (Str.ofString "__len__")) (wpAny_callSpecial?_slot (name := Str.ofString "__len__") hl.typeIs slot_list_len
    (wpAny_call_entry slot_list_len hl.typeIs entry_list_len ?_ (args_list_len _)))
  · show wpAny _ _ (do retInt (← seqSize a)) _ _ s
    unfold seqSize
    refine wpAny_bind (wpAny_bind (wpAny_load ho ?_))
    rw [hd]
    refine wpAny_pure (wpAny_bind (wpAny_mkInt (wpAny_pure ⟨_, rfl, ?_⟩)))
    refine wpAny_bind (wpAny_holding (wpAny_pure ?_))
    refine wpAny_bind (wpAny_letGo ?_)
    show wpAny _ _ (if (((Array.mk l).size : Nat) : Int) < 0 then _ else _) _ _ _
    rw [if_neg (by omega)]
    show wpAny _ _ (if (((Array.mk l).size : Nat) : Int) ≥ 2 ^ 63 then _ else _) _ _ _
    rw [if_neg (by rw [hs]; omega)]
    refine wpAny_bind (wpAny_mkInt (wpAny_pure ⟨_, rfl, ?_⟩))
    have O : Out s { s with toks := s.toks + 1 + 1 } [(a, lst l n)] [lst l n] [] := ⟨rfl, rfl, rfl, by show s.toks ≤ s.toks + 1 + 1; omega, Nat.le_refl _, fun _ _ e _ => e, rfl, fun p hp => by
      have e : p = (a, lst l n) := by simpa using hp
      rw [e]; exact hl0, fun _ hp => (nomatch hp), List.nodup_nil⟩
    exact HR (fun _ => s.toks + 1) _ O
end Mine

open PySem PySem.W PySem.W.X PyProof.Rows
namespace Mine
variable {w : World} {b1 b2 : Bool}
noncomputable def bisWhile : Expr × List Stmt := match (fdAt 3).2.1[2]? with
  | some (Stmt.If _ _ [Stmt.While t b _ _] _) => (t, b)
  | _ => (default, [])
noncomputable def bisEnv (L : Nat) : Env := { scope := (fdAt 3).2.2, locals := L, globals := 3, cells := [], qual := ⟨⟨[98, 105, 115, 101, 99, 116, 95, 108, 101, 102, 116, 46, 60, 108, 111, 99, 97, 108, 115, 62, 46]⟩⟩, func := some 49, code := .ref 48, frame := some L, builtins := 0 }
noncomputable def bisCode (L : Nat) : Code := .whileLoop bisWhile.1 bisWhile.2 [] (bisEnv L)
structure BT5 where
  (ta tx tl th tk : Nat)
noncomputable abbrev bisFr (P : Params) (T : BT5) (a x lo hi key : Value) : List DictEntry := [en1 P [97] T.ta a, en1 P [120] T.tx x, en1 P [108, 111] T.tl lo, en1 P [104, 105] T.th hi, en1 P [107, 101, 121] T.tk key]
noncomputable abbrev midE (P : Params) (t : Nat) (v : Value) : DictEntry := en1 P [109, 105, 100] t v
/-- the frame of bisect_left, with or without mid -/
noncomputable def bisO (P : Params) (T : BT5) (a x lo hi key : Value) : Option (Nat × Value) → Obj
  | none => frm (bisFr P T a x lo hi key) 5
  | some m => frm (bisFr P T a x lo hi key ++ [midE P m.1 m.2]) 6

def midT (mo : Option (Nat × Value)) (t : Nat) : Nat := match mo with | none => t | some m => m.1
/-- one turn of the search: the key is _strxfrm -/
noncomputable def cTurnX (P : Params) (L a : Nat) (l : List Value) (n : Nat) (T : BT5) (x : Array UInt8) (tx : Nat) (lo hi : Int) (t1 t2 : Nat) (mo : Option (Nat × Value)) (b : Bool) : Con :=
  { c := bisCode L, pre := [(L, bisO P T (.ref a) (.bytes x tx) (.int lo t1) (.int hi t2) (.ref 63) mo), (a, lst l n)], dep := 2, uni := 20,
    post := fun e => (.again (bisCode L), [bisO P T (.ref a) (.bytes x tx) (match b with | true => .int ((lo + hi).fdiv 2 + 1) (e 0) | false => .int lo t1) (match b with | true => .int hi t2 | false => .int ((lo + hi).fdiv 2) (e 2)) (.ref 63) (some (midT mo (e 1), .int ((lo + hi).fdiv 2) (e 2))), lst l n], []) }
noncomputable def sTurnX (a : Nat) (l : List Value) (n : Nat) (x : Array UInt8) (tx : Nat) (lo hi : Int) (t1 t2 : Nat) (m : Array UInt8 × Nat) (b : Bool)
    (h1 : VV w b1 b2 (cB "int.__lt__" [.int lo t1, .int hi t2] (.bool true))) (h2 : ∀ t, VV w b1 b2 (cGet a l n ((lo + hi).fdiv 2) t (bv m))) (h3 : VV w b1 b2 (cB "bytes.__lt__" [bv m, .bytes x tx] (.bool b))) : Scr w b1 b2 :=
  .seg (fun a0 u0 => [1, 1, 1]) fun a0 u0 =>
  .orc (cB "int.__lt__" [.int lo t1, .int hi t2] (.bool true)) [] h1 fun e0 =>
  .seg (fun a1 u1 => [1, 1, 0, 0, 1, 0, 1, 1, 1, 2, 2, 2, 1]) fun a1 u1 =>
  .orc (cGet a l n ((lo + hi).fdiv 2) (u1 2) (bv m)) [1] (h2 _) fun e1 =>
  .seg (fun a2 u2 => [0, 0, 0, 0, 1, 0, 0, 1, 2, 1]) fun a2 u2 =>
  .orc (cB "bytes.__lt__" [bv m, .bytes x tx] (.bool b)) [] h3 fun e2 =>
  .seg (fun a3 u3 => match b with | true => [2, 0, 2, 1] | false => [2, 2, 1]) fun a3 u3 =>
  .fin true (fun i => match i with | 0 => u3 1 | 1 => u1 3 | _ => u1 2) 1 []
theorem v_turnX {L a : Nat} {l : List Value} {n : Nat} {T : BT5} {x : Array UInt8} {tx : Nat} {lo hi : Int} {t1 t2 : Nat} {mo : Option (Nat × Value)} {m : Array UInt8 × Nat} {b : Bool}
    (h1 : VV w b1 b2 (cB "int.__lt__" [.int lo t1, .int hi t2] (.bool true))) (h2 : ∀ t, VV w b1 b2 (cGet a l n ((lo + hi).fdiv 2) t (bv m))) (h3 : VV w b1 b2 (cB "bytes.__lt__" [bv m, .bytes x tx] (.bool b))) :
    VV w b1 b2 (cTurnX (wf w b1 b2).params L a l n T x tx lo hi t1 t2 mo b) := by
  refine vgo 200 (sTurnX a l n x tx lo hi t1 t2 m b h1 h2 h3) ?_
  cases b2 <;> cases mo <;> cases b <;> exact fun ρ => by kernel_rfl
/-- the search's end -/
noncomputable def cStop (P : Params) (L : Nat) (T : BT5) (a x : Value) (lo hi : Int) (t1 t2 : Nat) (key : Value) (mo : Option (Nat × Value)) : Con :=
  { c := bisCode L, pre := [(L, bisO P T a x (.int lo t1) (.int hi t2) key mo)], dep := 2, uni := 20,
    post := fun e => (.res (.ok .next), [bisO P T a x (.int lo t1) (.int hi t2) key mo], []) }
theorem v_stop {L : Nat} {T : BT5} {a x : Value} {lo hi : Int} {t1 t2 : Nat} {key : Value} {mo : Option (Nat × Value)} (h1 : VV w b1 b2 (cB "int.__lt__" [.int lo t1, .int hi t2] (.bool false))) :
    VV w b1 b2 (cStop (wf w b1 b2).params L T a x lo hi t1 t2 key mo) := by
  refine vgo 60 (.seg (fun a0 u0 => [1, 1, 1]) fun a0 u0 => .orc (cB "int.__lt__" [.int lo t1, .int hi t2] (.bool false)) [] h1 fun e0 => .seg (fun a1 u1 => []) fun a1 u1 => .fin true (fun _ => 0) 0 []) ?_
  cases b2 <;> cases mo <;> exact fun ρ => by kernel_rfl

/-- what the search computes -/
def bisR (p : Nat → Bool) : Nat → Nat → Nat → Nat
  | 0, lo, _ => lo
  | k + 1, lo, hi => if lo < hi then (if p ((lo + hi) / 2) then bisR p k ((lo + hi) / 2 + 1) hi else bisR p k lo ((lo + hi) / 2)) else lo
def ltX (ls : List (Array UInt8 × Nat)) (x : Array UInt8) (i : Nat) : Bool := match ls[i]? with
  | some q => ord8 q.1 x == .lt
  | none => false
noncomputable def cLoopX (P : Params) (L a : Nat) (ls : List (Array UInt8 × Nat)) (n : Nat) (T : BT5) (x : Array UInt8) (tx : Nat) (lo hi : Nat) (t1 t2 : Nat) (mo : Option (Nat × Value)) (r : Nat) : Con :=
  { c := bisCode L, pre := [(L, bisO P T (.ref a) (.bytes x tx) (.int lo t1) (.int hi t2) (.ref 63) mo), (a, lst (ls.map bv) n)], dep := 2, uni := 20,
    post := fun e => (.res (.ok .next), [bisO P T (.ref a) (.bytes x tx) (.int r (e 0)) (.int r (e 1)) (.ref 63) (some (e 2, .int (e 3 : Nat) (e 4))), lst (ls.map bv) n], []) }
theorem half_eq (lo hi : Nat) : ((lo : Int) + (hi : Int)).fdiv 2 = (((lo + hi) / 2 : Nat) : Int) := by
  rw [Int.fdiv_eq_ediv_of_nonneg _ (by decide)]
  omega
theorem v_loopX {L a : Nat} {ls : List (Array UInt8 × Nat)} {n : Nat} {T : BT5} {x : Array UInt8} {tx : Nat} (hlen : ls.length < 2 ^ 20) :
    ∀ (k lo hi t1 t2 : Nat) (mo : Option (Nat × Value)), lo ≤ hi → hi ≤ ls.length → hi - lo ≤ k → (mo = none → lo < hi) → (∀ m, mo = some m → ∃ (v : Nat) (t : Nat), m.2 = .int v t) → VV w b1 b2 (cLoopX (wf w b1 b2).params L a ls n T x tx lo hi t1 t2 mo (bisR (ltX ls x) k lo hi)) := by
  intro k
  induction k with
  | zero =>
    intro lo hi t1 t2 mo h1 h2 h3 h4 h5
    have e : lo = hi := by omega
    subst e
    cases mo with
    | none => exact absurd (h4 rfl) (Nat.lt_irrefl _)
    | some m =>
      obtain ⟨v, t, hv⟩ := h5 m rfl
      obtain ⟨tm, vm⟩ := m
      cases hv
      have base : VV w b1 b2 { cLoopX (wf w b1 b2).params L a ls n T x tx lo lo t1 t2 (some (tm, .int v t)) lo with post := fun e => (.res (.ok .next), [bisO (wf w b1 b2).params T (.ref a) (.bytes x tx) (.int lo t1) (.int lo t2) (.ref 63) (some (tm, .int v t)), lst (ls.map bv) n], []) } :=
        valid_frame (ex := [(a, lst (ls.map bv) n)]) (v_stop (L := L) (T := T) (a := .ref a) (x := .bytes x tx) (lo := lo) (hi := lo) (t1 := t1) (t2 := t2) (key := .ref 63) (mo := some (tm, .int v t)) (v_ilt (by simp))) rfl rfl (Nat.le_refl _) (Nat.le_refl _) fun e => rfl
      exact valid_as base rfl rfl (Nat.le_refl _) (Nat.le_refl _) fun e => ⟨fun i => match i with | 0 => t1 | 1 => t2 | 2 => tm | 3 => v | _ => t, rfl⟩
  | succ k ih =>
    intro lo hi t1 t2 mo h1 h2 h3 h4 h5
    by_cases hlt : lo < hi
    · have hm : (lo + hi) / 2 < ls.length := by omega
      have hq : ls[(lo + hi) / 2]? = some ls[(lo + hi) / 2] := by simp [hm]
      have hb : ltX ls x ((lo + hi) / 2) = (ord8 (ls[(lo + hi) / 2]).1 x == .lt) := by unfold ltX; rw [hq]
      have hget : ∀ t, VV w b1 b2 (cGet a (ls.map bv) n ((lo + hi : Int).fdiv 2) t (bv ls[(lo + hi) / 2])) := fun t => by
        rw [half_eq]
        refine v_get (by omega) (by omega) ?_
        rw [Int.toNat_natCast, List.getElem?_map, hq]; rfl
      have tn := v_turnX (w := w) (b1 := b1) (b2 := b2) (L := L) (T := T) (mo := mo) (x := x) (v_ilt (t := t1) (u := t2) (by simpa using hlt)) hget (v_blt (t := (ls[(lo + hi) / 2]).2) (u := tx) (x := (ls[(lo + hi) / 2]).1) rfl)
      refine valid_seq tn rfl rfl (Nat.le_refl _) (Nat.le_refl _) fun e => ?_
      have eR : bisR (ltX ls x) (k + 1) lo hi = if ltX ls x ((lo + hi) / 2) then bisR (ltX ls x) k ((lo + hi) / 2 + 1) hi else bisR (ltX ls x) k lo ((lo + hi) / 2) := by
        show (if lo < hi then _ else _) = _
        rw [if_pos hlt]
      rw [eR, hb]
      cases hbb : (ord8 (ls[(lo + hi) / 2]).1 x == .lt) with
      | true =>
        refine ⟨cLoopX (wf w b1 b2).params L a ls n T x tx ((lo + hi) / 2 + 1) hi (e 0) t2 (some (midT mo (e 1), .int (((lo + hi) / 2 : Nat)) (e 2))) (bisR (ltX ls x) k ((lo + hi) / 2 + 1) hi), rfl, ?_, Nat.le_refl _, Nat.le_refl _, ih _ _ _ _ _ (by omega) h2 (by omega) (fun h => nomatch h) (fun m hm => by cases hm; exact ⟨_, _, rfl⟩), fun e' => ⟨e', rfl⟩⟩
        show [_, _] = [_, _]
        rw [half_eq]; rfl
      | false =>
        refine ⟨cLoopX (wf w b1 b2).params L a ls n T x tx lo ((lo + hi) / 2) t1 (e 2) (some (midT mo (e 1), .int (((lo + hi) / 2 : Nat)) (e 2))) (bisR (ltX ls x) k lo ((lo + hi) / 2)), rfl, ?_, Nat.le_refl _, Nat.le_refl _, ih _ _ _ _ _ (by omega) (by omega) (by omega) (fun h => nomatch h) (fun m hm => by cases hm; exact ⟨_, _, rfl⟩), fun e' => ⟨e', rfl⟩⟩
        show [_, _] = [_, _]
        rw [half_eq]
    · have e : lo = hi := by omega
      subst e
      have eR : bisR (ltX ls x) (k + 1) lo lo = lo := by
        show (if lo < lo then _ else _) = _
        rw [if_neg (Nat.lt_irrefl _)]
      rw [eR]
      have := ih lo lo t1 t2 mo h1 h2 (by omega) h4 h5
      have e2 : bisR (ltX ls x) k lo lo = lo := by
        cases k with
        | zero => rfl
        | succ k => show (if lo < lo then _ else _) = _; rw [if_neg (Nat.lt_irrefl _)]
      rw [e2] at this
      exact this
end Mine

open PySem PySem.W PySem.W.X PyProof.Rows
namespace Mine
variable {w : World} {b1 b2 : Bool}
abbrev keyS : Str := ⟨⟨[107, 101, 121]⟩⟩
noncomputable def cBisX (a : Nat) (ls : List (Array UInt8 × Nat)) (n : Nat) (x : Array UInt8) (tx t0 r : Nat) : Con :=
  { c := .call (.ref 49) ⟨[.ref a, .bytes x tx, .int 0 t0, .none], [(keyS, .ref 63)]⟩, pre := [(a, lst (ls.map bv) n)], dep := 5, uni := 60, post := fun e => (.res (.ok (.ret (.int r (e 0)))), [lst (ls.map bv) n], []) }
theorem v_bisX {a : Nat} {ls : List (Array UInt8 × Nat)} {n : Nat} {x : Array UInt8} {tx t0 : Nat} (hlen : ls.length < 2 ^ 20) : VV w b1 b2 (cBisX a ls n x tx t0 (bisR (ltX ls x) ls.length 0 ls.length)) := by
  cases ls with
  | nil =>
    refine vgo 200 (.seg (fun a0 u0 => [0, 0, 0, 1, 0, 1, 0, 1, 0, 1, 0, 1, 0, 0, 1, 0, 1, 0, 0, 1, 1]) fun a0 u0 =>
      .orc (cLen a (([] : List (Array UInt8 × Nat)).map bv) n) [1] (v_len (by simpa using hlen)) fun e0 =>
      .seg (fun a1 u1 => [1, 0, 1, 1]) fun a1 u1 =>
      .orc (cStop (wf w b1 b2).params (a0 0) ⟨u0 0, u0 1, u0 2, u0 3, u0 4⟩ (.ref a) (.bytes x tx) 0 0 t0 (e0 0) (.ref 63) none) [0] (v_stop (v_ilt (by simp))) fun e1 =>
      .seg (fun _ _ => [1]) fun _ _ => .fin false (fun _ => t0) 1 []) ?_
    cases b2 <;> exact fun ρ => by kernel_rfl
  | cons q qs =>
    have h : ∀ L T t2, VV w b1 b2 (cLoopX (wf w b1 b2).params L a (q :: qs) n T x tx 0 (((q :: qs).map bv).length) t0 t2 none (bisR (ltX (q :: qs) x) (q :: qs).length 0 (q :: qs).length)) := fun L T t2 => by
      have e : ((q :: qs).map bv).length = (q :: qs).length := by simp
      rw [e]
      exact v_loopX hlen _ 0 _ _ _ _ (by omega) (by omega) (by omega) (fun _ => by simp) (fun m hm => nomatch hm)
    generalize hr : bisR (ltX (q :: qs) x) (q :: qs).length 0 (q :: qs).length = r at h ⊢
    refine vgo 200 (.seg (fun a0 u0 => [0, 0, 0, 1, 0, 1, 0, 1, 0, 1, 0, 1, 0, 0, 1, 0, 1, 0, 0, 1, 1]) fun a0 u0 =>
      .orc (cLen a ((q :: qs).map bv) n) [1] (v_len (by simpa using hlen)) fun e0 =>
      .seg (fun a1 u1 => [1, 0, 1, 1]) fun a1 u1 =>
      .orc (cLoopX (wf w b1 b2).params (a0 0) a (q :: qs) n ⟨u0 0, u0 1, u0 2, u0 3, u0 4⟩ x tx 0 (((q :: qs).map bv).length) t0 (e0 0) none r) [0, 1] (h _ _ _) fun e1 =>
      .seg (fun _ _ => [1]) fun _ _ => .fin false (fun _ => e1 0) 1 []) ?_
    cases b2 <;> exact fun ρ => by kernel_rfl
/-- insort_left with the key _strxfrm -/
def insL (ls : List (Array UInt8 × Nat)) (x : Array UInt8) (tx : Nat) : List (Array UInt8 × Nat) :=
  ls.take (bisR (ltX ls x) ls.length 0 ls.length) ++ (x, tx) :: ls.drop (bisR (ltX ls x) ls.length 0 ls.length)
noncomputable def cInsort (a : Nat) (ls ls' : List (Array UInt8 × Nat)) (n : Nat) (x : Array UInt8) (tx : Nat) : Con :=
  { c := .call (.ref 40) ⟨[.ref a, .bytes x tx], [(keyS, .ref 63)]⟩, pre := [(a, lst (ls.map bv) n)], dep := 8, uni := 90, post := fun e => (.res (.ok (.ret .none)), [lst (ls'.map bv) (n + 1)], []) }
theorem bisR_le (p : Nat → Bool) : ∀ k lo hi, lo ≤ hi → bisR p k lo hi ≤ hi
  | 0, lo, hi, h => h
  | k + 1, lo, hi, h => by
    show (if lo < hi then _ else _) ≤ hi
    split
    · split
      · exact bisR_le p k _ _ (by omega)
      · exact Nat.le_trans (bisR_le p k _ _ (by omega)) (by omega)
    · exact h
theorem v_insort {a : Nat} {ls : List (Array UInt8 × Nat)} {n : Nat} {x : Array UInt8} {tx : Nat} (hlen : ls.length < 2 ^ 20) : VV w b1 b2 (cInsort a ls (insL ls x tx) n x tx) := by
  have hb : VV w b1 b2 (cBisX a ls n x tx 284 (bisR (ltX ls x) ls.length 0 ls.length)) := v_bisX hlen
  have hr := bisR_le (ltX ls x) ls.length 0 ls.length (by omega)
  unfold insL
  generalize bisR (ltX ls x) ls.length 0 ls.length = r at hb hr ⊢
  have hi : ∀ t, VV w b1 b2 (cIns a (ls.map bv) n r t (.bytes x tx)) := fun t => v_ins (by simpa using hr) (by simpa using hlen)
  have e : (ls.take r ++ (x, tx) :: ls.drop r).map bv = (ls.map bv).take r ++ .bytes x tx :: (ls.map bv).drop r := by
    simp [List.map_take, List.map_drop]
  have key : VV w b1 b2 { cInsort a ls ls n x tx with post := fun e => (.res (.ok (.ret .none)), [lst ((ls.map bv).take r ++ .bytes x tx :: (ls.map bv).drop r) (n + 1)], []) } := by
    refine vgo 300 (.seg (fun a0 u0 => [0, 0, 0, 1, 0, 1, 0, 1, 0, 1, 0, 1, 0, 0, 1, 0, 1, 1, 1, 0, 0, 0, 0, 1, 0, 0, 1, 2, 2, 2, 0, 1]) fun a0 u0 =>
      .orc (cBisX a ls n x tx 284 r) [2] hb fun e0 =>
      .seg (fun a1 u1 => [2, 1, 2, 3, 3, 3, 3, 2, 2, 1]) fun a1 u1 =>
      .orc (cIns a (ls.map bv) n r (e0 0) (.bytes x tx)) [2] (hi _) fun e1 =>
      .seg (fun _ _ => []) fun _ _ => .fin false (fun _ => 0) 2 []) ?_
    cases b2 <;> exact fun ρ => by kernel_rfl
  refine valid_as key rfl rfl (Nat.le_refl _) (Nat.le_refl _) fun _ => ⟨fun _ => 0, ?_⟩
  show (_, [lst _ _], _) = (_, [lst _ _], _)
  rw [e]
end Mine

open PySem PySem.W PySem.W.X PyProof.Rows
namespace Mine
variable {w : World} {b1 b2 : Bool}
/-- a turn of the search, the key left open -/
noncomputable def cTurnG (P : Params) (L a : Nat) (l : List Value) (n : Nat) (T : BT5) (x key : Value) (ex : List (Addr × Obj)) (lo hi : Int) (t1 t2 : Nat) (mo : Option (Nat × Value)) (b : Bool) : Con :=
  { c := bisCode L, pre := (L, bisO P T (.ref a) x (.int lo t1) (.int hi t2) key mo) :: (a, lst l n) :: ex, dep := 4, uni := 40,
    post := fun e => (.again (bisCode L), bisO P T (.ref a) x (match b with | true => .int ((lo + hi).fdiv 2 + 1) (e 0) | false => .int lo t1) (match b with | true => .int hi t2 | false => .int ((lo + hi).fdiv 2) (e 2)) key (some (midT mo (e 1), .int ((lo + hi).fdiv 2) (e 2))) :: lst l n :: ex.map (·.2), []) }
noncomputable def cLoopG (P : Params) (L a : Nat) (l : List Value) (n : Nat) (T : BT5) (x key : Value) (ex : List (Addr × Obj)) (lo hi : Nat) (t1 t2 : Nat) (mo : Option (Nat × Value)) (r : Nat) : Con :=
  { c := bisCode L, pre := (L, bisO P T (.ref a) x (.int lo t1) (.int hi t2) key mo) :: (a, lst l n) :: ex, dep := 4, uni := 40,
    post := fun e => (.res (.ok .next), bisO P T (.ref a) x (.int r (e 0)) (.int r (e 1)) key (some (e 2, .int (e 3 : Nat) (e 4))) :: lst l n :: ex.map (·.2), []) }
theorem v_loopG {L a : Nat} {l : List Value} {n : Nat} {T : BT5} {x key : Value} {ex : List (Addr × Obj)} {p : Nat → Bool} (len : Nat)
    (tn : ∀ (lo hi t1 t2 : Nat) (mo : Option (Nat × Value)), lo < hi → hi ≤ len → VV w b1 b2 (cTurnG (wf w b1 b2).params L a l n T x key ex lo hi t1 t2 mo (p ((lo + hi) / 2)))) :
    ∀ (k lo hi t1 t2 : Nat) (mo : Option (Nat × Value)), lo ≤ hi → hi ≤ len → hi - lo ≤ k → (mo = none → lo < hi) → (∀ m, mo = some m → ∃ (v : Nat) (t : Nat), m.2 = .int v t) → VV w b1 b2 (cLoopG (wf w b1 b2).params L a l n T x key ex lo hi t1 t2 mo (bisR p k lo hi)) := by
  intro k
  induction k with
  | zero =>
    intro lo hi t1 t2 mo h1 h2 h3 h4 h5
    have e : lo = hi := by omega
    subst e
    cases mo with
    | none => exact absurd (h4 rfl) (Nat.lt_irrefl _)
    | some m =>
      obtain ⟨v, t, hv⟩ := h5 m rfl
      obtain ⟨tm, vm⟩ := m
      cases hv
      have base : VV w b1 b2 { cLoopG (wf w b1 b2).params L a l n T x key ex lo lo t1 t2 (some (tm, .int v t)) lo with post := fun e => (.res (.ok .next), bisO (wf w b1 b2).params T (.ref a) x (.int lo t1) (.int lo t2) key (some (tm, .int v t)) :: lst l n :: ex.map (·.2), []) } :=
        valid_frame (ex := (a, lst l n) :: ex) (v_stop (L := L) (T := T) (a := .ref a) (x := x) (lo := lo) (hi := lo) (t1 := t1) (t2 := t2) (key := key) (mo := some (tm, .int v t)) (v_ilt (by simp))) rfl rfl (show 2 ≤ 4 by decide) (show 20 ≤ 40 by decide) fun e => rfl
      exact valid_as base rfl rfl (Nat.le_refl _) (Nat.le_refl _) fun e => ⟨fun i => match i with | 0 => t1 | 1 => t2 | 2 => tm | 3 => v | _ => t, rfl⟩
  | succ k ih =>
    intro lo hi t1 t2 mo h1 h2 h3 h4 h5
    by_cases hlt : lo < hi
    · have tn' := tn lo hi t1 t2 mo hlt h2
      refine valid_seq tn' rfl rfl (Nat.le_refl _) (Nat.le_refl _) fun e => ?_
      have eR : bisR p (k + 1) lo hi = if p ((lo + hi) / 2) then bisR p k ((lo + hi) / 2 + 1) hi else bisR p k lo ((lo + hi) / 2) := by
        show (if lo < hi then _ else _) = _
        rw [if_pos hlt]
      have hz : ∀ (o : Obj), ((L, bisO (wf w b1 b2).params T (.ref a) x (.int lo t1) (.int hi t2) key mo) :: (a, lst l n) :: ex).map (·.1) = L :: a :: ex.map (·.1) := fun _ => rfl
      rw [eR]
      cases hbb : p ((lo + hi) / 2) with
      | true =>
        refine ⟨cLoopG (wf w b1 b2).params L a l n T x key ex ((lo + hi) / 2 + 1) hi (e 0) t2 (some (midT mo (e 1), .int (((lo + hi) / 2 : Nat)) (e 2))) (bisR p k ((lo + hi) / 2 + 1) hi), rfl, ?_, Nat.le_refl _, Nat.le_refl _, ih _ _ _ _ _ (by omega) h2 (by omega) (fun h => nomatch h) (fun m hm => by cases hm; exact ⟨_, _, rfl⟩), fun e' => ⟨e', rfl⟩⟩
        show _ :: _ :: ex = _ :: _ :: ((ex.map (·.1)).zip (ex.map (·.2)))
        rw [zip_self, half_eq]; rfl
      | false =>
        refine ⟨cLoopG (wf w b1 b2).params L a l n T x key ex lo ((lo + hi) / 2) t1 (e 2) (some (midT mo (e 1), .int (((lo + hi) / 2 : Nat)) (e 2))) (bisR p k lo ((lo + hi) / 2)), rfl, ?_, Nat.le_refl _, Nat.le_refl _, ih _ _ _ _ _ (by omega) (by omega) (by omega) (fun h => nomatch h) (fun m hm => by cases hm; exact ⟨_, _, rfl⟩), fun e' => ⟨e', rfl⟩⟩
        show _ :: _ :: ex = _ :: _ :: ((ex.map (·.1)).zip (ex.map (·.2)))
        rw [zip_self, half_eq]
    · have e : lo = hi := by omega
      subst e
      have eR : bisR p (k + 1) lo lo = lo := by
        show (if lo < lo then _ else _) = _
        rw [if_neg (Nat.lt_irrefl _)]
      rw [eR]
      have := ih lo lo t1 t2 mo h1 h2 (by omega) h4 h5
      have e2 : bisR p k lo lo = lo := by
        cases k with
        | zero => rfl
        | succ k => show (if lo < lo then _ else _) = _; rw [if_neg (Nat.lt_irrefl _)]
      rw [e2] at this
      exact this

/-- the lambda of _law_holds -/
noncomputable def lamP : Arguments × Expr × Scope := match (fdAt 18).2.1[0]? with
  | some (Stmt.Assign _ (Expr.Call _ _ [⟨_, Expr.Lambda args body scope _, _⟩] _) _) => (args, body, scope)
  | _ => default
noncomputable abbrev tFun : Value := .type PySem.W.SL.s7174869446012820540x8
noncomputable abbrev tCell : Value := .type PySem.W.SL.s15660640913423913556x4
noncomputable abbrev tCode : Value := .type PySem.W.SL.s5856160107412720595x4
abbrev lamN : Str := ⟨⟨[60, 108, 97, 109, 98, 100, 97, 62]⟩⟩
abbrev lamQ : Str := ⟨⟨[95, 108, 97, 119, 95, 104, 111, 108, 100, 115, 46, 60, 108, 111, 99, 97, 108, 115, 62, 46, 60, 108, 97, 109, 98, 100, 97, 62]⟩⟩
abbrev fileS : Str := ⟨⟨[47, 99, 108, 97, 105, 109, 47, 99, 117, 116, 46, 112, 121]⟩⟩
abbrev modS : Str := ⟨⟨[108, 97, 119, 95, 114, 101, 48, 48, 49, 50, 95, 48, 49]⟩⟩
abbrev letS : Str := ⟨⟨[108, 101, 116, 116, 101, 114]⟩⟩
noncomputable def lamF (co ce ct : Nat) : Obj := ⟨tFun, none, .func { name := lamN, qualname := lamQ, params := lamP.1, body := .expr lamP.2.1, scope := lamP.2.2, globals := 3, closure := [(letS, ce)], defaults := .none, kwdefaults := .none, doc := .none, pyModule := .str modS 404, annotations := none, code := .ref co, closureTuple := .ref ct, builtins := 0 }, ⟨[]⟩⟩
noncomputable def cellO (v : Value) : Obj := ⟨tCell, none, .cell (some v), ⟨[]⟩⟩
/-- its code object; what hangs on the run is told by q -/
noncomputable def lamC (q : Nat → Nat) : Obj := ⟨tCode, none, .fields ⟨[.str lamN (q 0), .str lamQ (q 1), .str fileS (q 2), .int 61 0, .int 1 0, .int 0 0, .int 0 0, .int 19 0, .ref (q 3), .bool true, .int 276 0, .ref (q 4), .none, .ref (q 5), .ref (q 6), .ref (q 7), .int (q 8 : Nat) 0, .int 61 0, .str fileS (q 9)]⟩, ⟨[]⟩⟩
/-- _strcoll -/
noncomputable def collI (x y : Array UInt8) : Int := (if gtQ8 (ord8 x y) = true then 1 else 0) - (if ltQ8 (ord8 x y) = true then 1 else 0)
noncomputable abbrev lamEx (lam co ce ct : Nat) (q : Nat → Nat) (y : Array UInt8) (ty : Nat) : List (Addr × Obj) := [(lam, lamF co ce ct), (co, lamC q), (ce, cellO (.bytes y ty))]
theorem v_turnL {L a : Nat} {l : List Value} {n : Nat} {T : BT5} {tx : Nat} {lo hi : Int} {t1 t2 : Nat} {mo : Option (Nat × Value)} {m : Array UInt8 × Nat} {b : Bool} {lam co ce ct : Nat} {q : Nat → Nat} {y : Array UInt8} {ty : Nat}
    (h1 : VV w b1 b2 (cB "int.__lt__" [.int lo t1, .int hi t2] (.bool true))) (h2 : ∀ t, VV w b1 b2 (cGet a l n ((lo + hi).fdiv 2) t (bv m))) (h3 : ∀ t, VV w b1 b2 (cB "int.__lt__" [.int (collI m.1 y) t, .int 0 tx] (.bool b))) :
    VV w b1 b2 (cTurnG (wf w b1 b2).params L a l n T (.int 0 tx) (.ref lam) (lamEx lam co ce ct q y ty) lo hi t1 t2 mo b) := by
  refine vgo 300 (.seg (fun a0 u0 => [1, 1, 1]) fun a0 u0 =>
    .orc (cB "int.__lt__" [.int lo t1, .int hi t2] (.bool true)) [] h1 fun e0 =>
    .seg (fun a1 u1 => [1, 1, 0, 0, 1, 0, 1, 1, 1, 2, 2, 2, 1]) fun a1 u1 =>
    .orc (cGet a l n ((lo + hi).fdiv 2) (u1 2) (bv m)) [1] (h2 _) fun e1 =>
    .seg (fun a2 u2 => [3, 0, 3, 4, 1, 0, 0, 0, 1, 6, 0, 0, 0, 0, 1, 0, 1, 0, 0, 1, 1, 0, 1, 1, 0, 0, 3, 1]) fun a2 u2 =>
    .orc (cB "int.__lt__" [.int (collI m.1 y) (u2 3), .int 0 tx] (.bool b)) [] (h3 _) fun e2 =>
    .seg (fun a3 u3 => match b with | true => [3, 0, 3, 2] | false => [3, 3, 2]) fun a3 u3 =>
    .fin true (fun i => match i with | 0 => u3 1 | 1 => u1 3 | _ => u1 2) 2 []) ?_
  cases b2 <;> cases mo <;> cases b <;> exact fun ρ => by kernel_rfl
end Mine

open PySem PySem.W PySem.W.X PyProof.Rows
namespace Mine
variable {w : World} {b1 b2 : Bool}
noncomputable abbrev tSlice : Value := .type PySem.W.SL.s4674234679698826739x5
noncomputable abbrev sliceO (a b c : Value) : Obj := ⟨tSlice, none, .fields ⟨[a, b, c]⟩, ⟨[]⟩⟩
theorem sliceO_eq (a b c : Value) : sliceO a b c = { cls := .type "slice", dict := none, data := .fields #[a, b, c], slots := #[] } := by
  unfold sliceO tSlice
  rw [← PySem.W.SL.e4674234679698826739x5]
/-- a slice of a list -/
noncomputable def cSl (a : Nat) (l : List Value) (n sl : Nat) (vl vu : Value) (v : List Value) : Con := { c := .call (.builtin "list.__getitem__") ⟨[.ref a, .ref sl], []⟩, pre := [(a, lst l n), (sl, sliceO vl vu .none)], dep := 0, uni := 4, post := fun e => (.res (.ok (.ret (.ref (e 0)))), [lst l n, sliceO vl vu .none], [(e 0, lst v 0)]) }
theorem Out.push {s : Shared} {pre : List (Addr × Obj)} (h : ∀ p ∈ pre, s.heap.get? p.1 = some p.2) (o : Obj) (hf : o.isFreed = false) : Out s { s with heap := s.heap.push o } pre (pre.map (·.2)) [(s.heap.objs.size, o)] := by
  refine ⟨rfl, rfl, rfl, Nat.le_refl _, by rw [Heap.size_push]; omega, fun b ob e _ => Heap.get?_push_of_some _ e, by simp, fun p hp => ?_, fun p hp => ?_, by simp⟩
  · rw [zip_self] at hp
    exact Heap.get?_push_of_some _ (h p hp)
  · have : p = (s.heap.objs.size, o) := by simpa using hp
    subst this
    exact ⟨Heap.get?_push_size _ hf, Nat.le_refl _⟩
theorem v_sl {a : Nat} {l : List Value} {n sl : Nat} {vl vu : Value} {lo hi : Option Int} {v : List Value} (pl : IsPart vl lo) (pu : IsPart vu hi) (hlen : l.length < 2 ^ 20) (hv : slicePick ⟨l⟩ lo hi none = ⟨v⟩) : VV w b1 b2 (cSl a l n sl vl vu v) := by
  intro A s R hA hD hU hg hpre hnd HR
  have hl0 := (hpre (a, lst l n) (.head _)).1
  have hs0 := (hpre (sl, sliceO vl vu .none) (.tail _ (.head _))).1
  have hl := isList_lst hl0
  have hs0' := hs0
  rw [sliceO_eq] at hs0'
  have hs : s.heap.IsSliceOf sl vl vu .none := ⟨_, hs0', rfl, rfl⟩
  obtain ⟨o, ho, hc, ne, hd⟩ := id hl
  obtain ⟨os, hos, hcs, hds⟩ := id hs
  have hTs : s.TypeIs (.ref sl) "slice" := ⟨os, hos, hcs⟩
  have hsz : (Array.mk l).size ≤ sizeLine := by
    have : (Array.mk l).size = l.length := rfl
    rw [this, sizeLine_eq]; omega
  refine code_slot slot_list_getitem hl.typeIs entry_list_getitem (args_list_getitem _ _) ?_
  show wpAny _ _ (Builtin.List.listSubscript? (.ref sl) >>= _) _ _ s
  refine wpAny_bind ?_
  unfold Builtin.List.listSubscript?
  refine wpAny_bind (wpAny_specialOf hTs slice_no_index ?_)
  simp only [Option.isNone_none, if_true]
  refine wpAny_pure ?_
  show wpAny _ _ (typeOf (.ref sl) >>= _) _ _ s
  refine wpAny_bind (wpAny_typeOf hTs ?_)
  rw [if_neg (by decide)]
  rw [listSliceParts_eq]
  have hstep : ¬ ((rawPart none == rawInt 0) = true) := Bool.false_ne_true
  refine wpAny_bind (wpAny_bind (wpAny_field hos hds (x := .none) rfl (wpAny_bind (wpAny_listPart .none ?_))))
  rw [if_neg hstep]
  refine wpAny_bind (wpAny_field hos hds (x := vl) rfl (wpAny_bind (wpAny_listPart pl ?_)))
  refine wpAny_bind (wpAny_field hos hds (x := vu) rfl (wpAny_bind (wpAny_listPart pu (wpAny_pure ?_))))
  refine wpAny_bind (m := Builtin.List.listItems (.ref a)) ?_
  unfold Builtin.List.listItems
  refine wpAny_bind (wpAny_seqItems ho hd (wpAny_pure ?_))
  refine wpAny_bind (wpAny_of_eq (sliceIndices_raw lo hi none (Array.mk l).size (by simp)) ?_)
  refine wpAny_bind (wpAny_newObj_type (wpAny_pure ⟨_, rfl, ?_⟩) (Nat.le_trans (slicePick_size_le (Array.mk l) lo hi none) hsz))
  have O := Out.push (s := s) (pre := [(a, lst l n), (sl, sliceO vl vu .none)]) (fun p hp => (hpre p hp).1) (lst v 0) rfl
  have := HR (fun _ => s.heap.objs.size) _ O
  have ez : lst v 0 = { cls := .type "list", data := .seq (slicePick ⟨l⟩ lo hi none) } := by rw [lst_eq, hv]
  rw [ez] at this
  exact this
theorem slice1 (l : List Value) (i : Nat) (hi : i ≤ l.length) : slicePick ⟨l⟩ (some (i : Int)) (some ((i : Int) + 1)) none = ⟨(l.drop i).take 1⟩ := by
  have hb : sliceBounds (some (i : Int)) (some ((i : Int) + 1)) none (Array.mk l).size = ((i : Int), ((min (i + 1) l.length : Nat) : Int), 1) := by
    have hs : (Array.mk l).size = l.length := rfl
    unfold sliceBounds
    simp only [hs, Option.getD_none]
    have h1 : ¬ ((i : Int) < 0) := by omega
    have h2 : ¬ ((i : Int) + 1 < 0) := by omega
    simp only [h1, h2, if_false, show (1 : Int) > 0 by decide, if_true]
    refine Prod.ext ?_ (Prod.ext ?_ rfl)
    · show max 0 (min (i : Int) l.length) = i
      omega
    · show max 0 (min ((i : Int) + 1) l.length) = ((min (i + 1) l.length : Nat) : Int)
      omega
  unfold slicePick
  rw [hb]
  dsimp only
  rw [sliceRange_one]
  apply Array.ext'
  by_cases h : i < l.length
  · have e : min (i + 1) l.length - i = 1 := by omega
    rw [e]
    have hd : l.drop i = l[i] :: l.drop (i + 1) := List.drop_eq_getElem_cons h
    have hx : (Array.mk l)[i + 0]? = some l[i] := by
      show (Array.mk l)[i]? = _
      rw [List.getElem?_toArray]
      exact List.getElem?_eq_getElem h
    show List.filterMap (fun k : Nat => (Array.mk l)[k]?) [i + 0] = List.take 1 (l.drop i)
    rw [hd, List.filterMap_cons_some hx]
    rfl
  · have e : min (i + 1) l.length - i = 0 := by omega
    rw [e]
    have hd : l.drop i = [] := List.drop_eq_nil_of_le (by omega)
    show List.filterMap (fun k : Nat => (Array.mk l)[k]?) [] = List.take 1 (l.drop i)
    rw [hd]
    rfl
theorem collI_lt (x y : Array UInt8) : decide (collI x y < 0) = (ord8 x y == .lt) := by
  unfold collI
  rw [gtQ8_eq, ltQ8_eq]
  cases ord8 x y <;> decide
noncomputable def cBisL (a : Nat) (ls : List (Array UInt8 × Nat)) (n tx : Nat) (lam co ce ct : Nat) (q : Nat → Nat) (y : Array UInt8) (ty r : Nat) : Con :=
  { c := .call (.ref 49) ⟨[.ref a, .int 0 tx], [(keyS, .ref lam)]⟩, pre := (a, lst (ls.map bv) n) :: lamEx lam co ce ct q y ty, dep := 8, uni := 80, post := fun e => (.res (.ok (.ret (.int r (e 0)))), lst (ls.map bv) n :: (lamEx lam co ce ct q y ty).map (·.2), []) }
theorem v_bisL {a : Nat} {ls : List (Array UInt8 × Nat)} {n tx lam co ce ct : Nat} {q : Nat → Nat} {y : Array UInt8} {ty : Nat} (hlen : ls.length < 2 ^ 20) : VV w b1 b2 (cBisL a ls n tx lam co ce ct q y ty (bisR (ltX ls y) ls.length 0 ls.length)) := by
  cases ls with
  | nil =>
    refine vgo 200 (.seg (fun a0 u0 => [0, 0, 0, 1, 0, 1, 0, 1, 0, 1, 0, 1, 0, 0, 1, 0, 1, 0, 0, 1, 1]) fun a0 u0 =>
      .orc (cLen a (([] : List (Array UInt8 × Nat)).map bv) n) [1] (v_len (by simp)) fun e0 =>
      .seg (fun a1 u1 => [1, 0, 1, 1]) fun a1 u1 =>
      .orc (cStop (wf w b1 b2).params (a0 0) ⟨u0 0, u0 1, u0 2, u0 3, u0 4⟩ (.ref a) (.int 0 tx) 0 0 297 (e0 0) (.ref lam) none) [0] (v_stop (v_ilt (by simp))) fun e1 =>
      .seg (fun _ _ => [1]) fun _ _ => .fin false (fun _ => 297) 1 []) ?_
    cases b2 <;> exact fun ρ => by kernel_rfl
  | cons z zs =>
    have h : ∀ L T t2, VV w b1 b2 (cLoopG (wf w b1 b2).params L a ((z :: zs).map bv) n T (.int 0 tx) (.ref lam) (lamEx lam co ce ct q y ty) 0 (((z :: zs).map bv).length) 297 t2 none (bisR (ltX (z :: zs) y) (z :: zs).length 0 (z :: zs).length)) := fun L T t2 => by
      have e : ((z :: zs).map bv).length = (z :: zs).length := by simp
      rw [e]
      refine v_loopG (z :: zs).length (fun lo hi t1 t2 mo hlt hle => ?_) _ 0 _ _ _ _ (by omega) (by omega) (by omega) (fun _ => by simp) (fun m hm => nomatch hm)
      have hm : (lo + hi) / 2 < (z :: zs).length := by omega
      have hq : (z :: zs)[(lo + hi) / 2]? = some (z :: zs)[(lo + hi) / 2] := by simp [hm]
      have hb : ltX (z :: zs) y ((lo + hi) / 2) = (ord8 ((z :: zs)[(lo + hi) / 2]).1 y == .lt) := by unfold ltX; rw [hq]
      refine v_turnL (m := (z :: zs)[(lo + hi) / 2]) (v_ilt (by simpa using hlt)) (fun t => ?_) (fun t => v_ilt ?_)
      · rw [half_eq]
        refine v_get (by omega) (by omega) ?_
        rw [Int.toNat_natCast, List.getElem?_map, hq]; rfl
      · rw [hb]; exact collI_lt _ _
    generalize hr : bisR (ltX (z :: zs) y) (z :: zs).length 0 (z :: zs).length = r at h ⊢
    refine vgo 200 (.seg (fun a0 u0 => [0, 0, 0, 1, 0, 1, 0, 1, 0, 1, 0, 1, 0, 0, 1, 0, 1, 0, 0, 1, 1]) fun a0 u0 =>
      .orc (cLen a ((z :: zs).map bv) n) [1] (v_len (by simpa using hlen)) fun e0 =>
      .seg (fun a1 u1 => [1, 0, 1, 1]) fun a1 u1 =>
      .orc (cLoopG (wf w b1 b2).params (a0 0) a ((z :: zs).map bv) n ⟨u0 0, u0 1, u0 2, u0 3, u0 4⟩ (.int 0 tx) (.ref lam) (lamEx lam co ce ct q y ty) 0 (((z :: zs).map bv).length) 297 (e0 0) none r) [0, 1, 2, 3, 4] (h _ _ _) fun e1 =>
      .seg (fun _ _ => [1]) fun _ _ => .fin false (fun _ => e1 0) 1 []) ?_
    cases b2 <;> exact fun ρ => by kernel_rfl
end Mine

open PySem PySem.W PySem.W.X PyProof.Rows
namespace Mine
section
variable {prog : Program} {w : World} {A : Around} {c : Code} {E : Value → Shared → Prop} {s : Shared}
theorem own_func {body : List Stmt} {env : Env} {R : Result → Shared → Prop}
    (h : wpOwn (model prog w) A (.func body env) (execs body env) (fun f s' => R (.ok (.ret (match f with | .ret v => v | _ => .none))) s') (fun _ _ => False) s) : codeAny (model prog w) A (.func body env) R s := by
  refine codeAny_of_own ?_
  show wpOwn _ A _ (do point; match ← (execs body env).onRaise (leaving env) with | .ret v => ret v | _ => ret .none) _ _ s
  intro Γ p hc hΓ
  have z := h Γ p hc hΓ
  have z2 : Sem.wp (model prog w) Γ ((execs body env).onRaise (leaving env)) (fun f _ s' => R (.ok (.ret (match f with | .ret v => v | _ => .none))) s') (fun _ _ _ => False) p s := by
    rw [Sem.wp_onRaise]
    exact Sem.wp_mono _ Γ _ (fun _ _ _ h' => h') (fun _ _ _ h' => h'.elim) p s z
  show Sem.wp (model prog w) Γ ((execs body env).onRaise (leaving env) >>= fun f => match f with | .ret v => ret v | _ => ret .none) _ _ p s
  rw [Sem.wp_bind']
  refine Sem.wp_mono _ Γ _ (fun f _ s' h' => ?_) (fun _ _ _ h' => h'.elim) p s z2
  cases f <;> exact h'
theorem own_execs {st : Stmt} {rest : List Stmt} {env : Env} {Q : Flow → Shared → Prop}
    (h : wpOwn (model prog w) A c (exec st env) (fun f s' => match f with | .next => wpOwn (model prog w) A c (execs rest env) Q E s' | f => Q f s') E s) : wpOwn (model prog w) A c (execs (st :: rest) env) Q E s := by
  have e : execs (st :: rest) env = (exec st env >>= fun f => match f with | .next => execs rest env | f => pure f) := by rw [execs]; rfl
  rw [e]
  refine wpOwn_bind (wpOwn_mono h (fun f s' h' => ?_) fun _ _ h' => h')
  cases f <;> first | exact h' | exact fun _ _ _ _ => h'
theorem own_nil {env : Env} {Q : Flow → Shared → Prop} (h : Q .next s) : wpOwn (model prog w) A c (execs [] env) Q E s := by
  have e : execs [] env = pure .next := by rw [execs]
  rw [e]
  exact fun _ _ _ _ => h
/-- from the engine's word to the tree itself -/
theorem own_flow {m : Sem Flow} {R : Result → Shared → Prop} (h : wpOwn (model prog w) A c (Sem.bind m fun f => .pure (.done f)) (postC prog w A R) (postE R) s) : wpOwn (model prog w) A c m (fun f s' => R (.ok f) s') (fun e s' => R (.error e) s') s := by
  intro Γ p hc hΓ
  have z := h Γ p hc hΓ
  have z : Sem.wp (model prog w) Γ (m >>= fun f => (Sem.pure (.done f) : Sem Fin)) (fun a _ s' => postC prog w A R a s') (fun e _ s' => postE R e s') p s := z
  rw [Sem.wp_bind'] at z
  exact z
theorem own_value {m : Sem Value} {R : Result → Shared → Prop} (h : wpOwn (model prog w) A c (Sem.bind m fun v => .pure (.done (.ret v))) (postC prog w A R) (postE R) s) : wpOwn (model prog w) A c m (fun v s' => R (.ok (.ret v)) s') (fun e s' => R (.error e) s') s := by
  intro Γ p hc hΓ
  have z := h Γ p hc hΓ
  have z : Sem.wp (model prog w) Γ (m >>= fun v => (Sem.pure (.done (.ret v)) : Sem Fin)) (fun a _ s' => postC prog w A R a s') (fun e _ s' => postE R e s') p s := z
  rw [Sem.wp_bind'] at z
  exact z
theorem own_Compare1 {l : Expr} {op : CmpOp} {r : Expr} {pos : Pos} {env : Env} {Q : Value → Shared → Prop}
    (h : wpOwn (model prog w) A c (eval l env) (fun a s₁ => wpOwn (model prog w) A c (eval r env) (fun b s₂ => wpOwn (model prog w) A c (compareOp op a b) Q E s₂) E s₁) E s)
    (hm : behindInMarks op r = false) : wpOwn (model prog w) A c (eval (.Compare l [op] [r] pos) env) Q E s := fun Γ p hc hΓ => by
  simp only [eval_Compare1, markedBehindIn_of_false hm, Sem.wp_bind', Sem.wp_holding, Sem.wp_cmd_standAt, Sem.wp_operate]
  exact Sem.wp_mono _ Γ _ (fun a p₁ s₁ h₁ => Sem.wp_mono _ Γ _ (fun b _ s₂ h₂ => h₂ Γ _ hc hΓ) (fun _ _ _ h' => h') _ _ (h₁ Γ p₁ hc hΓ))
    (fun _ _ _ h' => h') _ _ (h Γ p hc hΓ)
theorem own_Return {e : Expr} {pos : Pos} {env : Env} {Q : Flow → Shared → Prop} (h : wpOwn (model prog w) A c (eval e env) (fun v s' => Q (.ret v) s') E s) : wpOwn (model prog w) A c (exec (.Return (some e) pos) env) Q E s := fun Γ p hc hΓ => by
  simp only [exec_Return_some, Sem.wp_bind', Sem.wp_cmd_standAt, Sem.wp_pure']
  exact h Γ _ hc hΓ
theorem own_If {test : Expr} {body orelse : List Stmt} {pos : Pos} {env : Env} {Q : Flow → Shared → Prop}
    (h : wpOwn (model prog w) A c (isTrue test env (eval test env)) (fun b s' => if b then wpOwn (model prog w) A c (execs body env) Q E s' else wpOwn (model prog w) A c (execs orelse env) Q E s') E s) : wpOwn (model prog w) A c (exec (.If test body orelse pos) env) Q E s := fun Γ p hc hΓ => by
  simp only [exec_If, Sem.wp_bind', Sem.wp_cmd_standAt]
  refine Sem.wp_mono _ Γ _ (fun b p₂ s₂ h₂ => ?_) (fun _ _ _ h' => h') _ _ (h Γ _ hc hΓ)
  cases b <;> exact h₂ Γ p₂ hc hΓ
theorem own_isTrue1 {l : Expr} {op : CmpOp} {r : Expr} {pos : Pos} {env : Env} {whole : Sem Value} {Q : Bool → Shared → Prop}
    (h : wpOwn (model prog w) A c (eval l env) (fun a s₁ => wpOwn (model prog w) A c (eval r env) (fun b s₂ => wpOwn (model prog w) A c (compareOp op a b) (fun v s₃ => ∃ q, v = .bool q ∧ Q q s₃) E s₂) E s₁) E s)
    (hm : behindInMarks op r = false) : wpOwn (model prog w) A c (isTrue (.Compare l [op] [r] pos) env whole) Q E s := fun Γ p hc hΓ => by
  simp only [isTrue_Compare1, markedBehindIn_of_false hm, Sem.wp_bind', Sem.wp_holding, Sem.wp_cmd_standAt, Sem.wp_operate]
  refine Sem.wp_mono _ Γ _ (fun a p₁ s₁ h₁ => Sem.wp_mono _ Γ _ (fun b _ s₂ h₂ => Sem.wp_mono _ Γ _ (fun v p₃ s₃ h₃ => ?_) (fun _ _ _ h' => h') _ _ (h₂ Γ _ hc hΓ)) (fun _ _ _ h' => h') _ _ (h₁ Γ p₁ hc hΓ))
    (fun _ _ _ h' => h') _ _ (h Γ p hc hΓ)
  obtain ⟨q, rfl, hq⟩ := h₃
  exact hq
end
variable {w : World} {b1 b2 : Bool}
/-- a comparison of two lists -/
noncomputable def cCmp (id : String) (x y : Nat) (lx ly : List Value) (nx ny : Nat) (b : Bool) : Con :=
  { c := .call (.builtin id) ⟨[.ref x, .ref y], []⟩, pre := [(x, lst lx nx), (y, lst ly ny)], dep := 0, uni := 40, post := fun _ => (.res (.ok (.ret (.bool b))), [lst lx nx, lst ly ny], []) }
theorem own_cmp {A : Around} {c : Code} {Q : Value → Shared → Prop} {E : Value → Shared → Prop} {s : Shared} {op : CmpOp} {id : String} {x y : Nat} {lx ly : List Value} {nx ny : Nat} {b : Bool} (hs : Slot "list" (cmpInfo op).2.1 id) (hop : compareOp op (.ref x) (.ref y) = richCompare op (.ref x) (.ref y))
    (hv : VV w b1 b2 (cCmp id x y lx ly nx ny b)) (hA : A.handled = none) (hD : A.depth + c.weight < recursionLimit) (hU : A.units + c.cUnits + 40 < cLine) (hg : KS (kg (wf w b1 b2)) s)
    (hx : s.heap.get? x = some (lst lx nx) ∧ kg (wf w b1 b2) x = none) (hy : s.heap.get? y = some (lst ly ny) ∧ kg (wf w b1 b2) y = none) (hne : x ≠ y)
    (HR : ∀ s', Out s s' [(x, lst lx nx), (y, lst ly ny)] [lst lx nx, lst ly ny] [] → Q (.bool b) s') : wpOwn (model pw (wf w b1 b2)) A c (compareOp op (.ref x) (.ref y)) Q E s := by
  rw [hop]
  refine wpOwn_of_wpAny (wpAny_richCompare_same_room (isList_lst hx.1).typeIs (isList_lst hy.1).typeIs hs (wpAny_call ?_) ?_)
  · refine hv _ s _ hA (by show A.depth + c.weight + 0 < _; omega) hU hg (fun p hp => ?_) (by simpa [cCmp] using hne) fun e s' O => ⟨by simp, HR s' O⟩
    have : p = (x, lst lx nx) ∨ p = (y, lst ly ny) := by simpa [cCmp] using hp
    rcases this with rfl | rfl
    · exact hx
    · exact hy
  · show A.units + c.cUnits < cLine
    omega
end Mine

open PySem PySem.W PySem.W.X PyProof.Rows
namespace Mine
noncomputable abbrev execsQ : List Stmt → Env → Sem Flow := PySem.W.Fast.tw12563942051412417395
theorem execsQ_eq : execs = execsQ := PySem.W.Fast.te12563942051412417395
noncomputable abbrev evalQ : Expr → Env → Sem Value := PySem.W.Fast.tw14044960220447912780
theorem evalQ_eq : eval = evalQ := PySem.W.Fast.te14044960220447912780
/-- the trees that the engine runs for a chunk of statements, for an expression -/
noncomputable abbrev tF (b : List Stmt) (env : Env) : Sem Fin := PySem.W.R.bindR (execsQ b env) fun f => .pure (.done f)
noncomputable abbrev tV (x : Expr) (env : Env) : Sem Fin := PySem.W.R.bindR (evalQ x env) fun v => .pure (.done (.ret v))
section
variable {prog : Program} {w : World} {A : Around} {c : Code} {E : Value → Shared → Prop} {s : Shared}
theorem execs_append : ∀ (l1 l2 : List Stmt) (env : Env), execs (l1 ++ l2) env = (execs l1 env >>= fun f => match f with | .next => execs l2 env | f => pure f)
  | [], l2, env => by
    have e : execs [] env = pure .next := by rw [execs]
    rw [e]; rfl
  | st :: l1, l2, env => by
    have e : ∀ r, execs (st :: r) env = (exec st env >>= fun f => match f with | .next => execs r env | f => pure f) := fun r => by rw [execs]; rfl
    show execs (st :: (l1 ++ l2)) env = _
    rw [e, e, execs_append l1 l2 env]
    show Sem.bind _ _ = Sem.bind (Sem.bind _ _) _
    rw [Sem.bind_assoc]
    refine congrArg _ (funext fun f => ?_)
    cases f <;> rfl
theorem own_append {l1 l2 : List Stmt} {env : Env} {Q : Flow → Shared → Prop}
    (h : wpOwn (model prog w) A c (execs l1 env) (fun f s' => match f with | .next => wpOwn (model prog w) A c (execs l2 env) Q E s' | f => Q f s') E s) : wpOwn (model prog w) A c (execs (l1 ++ l2) env) Q E s := by
  rw [execs_append]
  refine wpOwn_bind (wpOwn_mono h (fun f s' h' => ?_) fun _ _ h' => h')
  cases f <;> first | exact h' | exact fun _ _ _ _ => h'
end
theorem nd_of_idx {trk : List (Addr × Obj)} (hn : (trk.map (·.1)).Nodup) : ∀ (ns : List Nat) (l : List (Addr × Obj)), ns.Nodup → ns.map (nth trk) = l.map some → (l.map (·.1)).Nodup
  | [], l, _, h => by cases l with
    | nil => simp
    | cons _ _ => simp at h
  | i :: ns, l, hd, h => by
    cases l with
    | nil => simp at h
    | cons q l =>
      rw [List.nodup_cons] at hd
      rw [List.map_cons, List.map_cons, List.cons.injEq] at h
      rw [List.map_cons, List.nodup_cons]
      refine ⟨fun hq => ?_, nd_of_idx hn ns l hd.2 h.2⟩
      obtain ⟨q', hq', e'⟩ := List.mem_map.mp hq
      have : some q' ∈ ns.map (nth trk) := by rw [h.2]; exact List.mem_map_of_mem hq'
      obtain ⟨j, hj, ej⟩ := List.mem_map.mp this
      have ei := h.1
      rw [nth_eq] at ei ej
      obtain ⟨li, gi⟩ := List.getElem?_eq_some_iff.mp ei
      obtain ⟨lj, gj⟩ := List.getElem?_eq_some_iff.mp ej
      have hij : i = j := by
        refine (List.getElem_inj (i := i) (j := j) (h₀ := by simpa using li) (h₁ := by simpa using lj) hn).mp ?_
        rw [List.getElem_map, List.getElem_map, gi, gj]
        exact e'.symm
      exact hd.1 (hij ▸ hj)
section
variable {prog : Program} {w : World} {kg : Nat → Option Obj} {A : Around} {s0 s : Shared} {old : List Addr} {trk : List (Addr × Obj)} {E : Value → Shared → Prop}
theorem inv_init {s : Shared} {pre : List (Addr × Obj)} (hg : KS kg s) (hpre : ∀ p ∈ pre, s.heap.get? p.1 = some p.2 ∧ kg p.1 = none) (hnd : (pre.map (·.1)).Nodup) : Inv kg s s (pre.map (·.1)) pre :=
  ⟨rfl, rfl, rfl, Nat.le_refl _, Nat.le_refl _, fun _ _ e _ => e, fun p hp => ⟨(hpre p hp).1, (hpre p hp).2, .inl (List.mem_map_of_mem hp)⟩, hnd, hg⟩
theorem inv_idx (I : Inv kg s0 s old trk) {idx : List Nat} {pre : List (Addr × Obj)} (he : idx.map (nth trk) = pre.map some) : ∀ p ∈ pre, s.heap.get? p.1 = some p.2 ∧ kg p.1 = none := fun q hq => by
  have : some q ∈ idx.map (nth trk) := by rw [he]; exact List.mem_map_of_mem hq
  obtain ⟨i, _, e⟩ := List.mem_map.mp this
  rw [nth_eq] at e
  have := I.tr q (List.mem_of_getElem? e)
  exact ⟨this.1, this.2.1⟩
theorem own_step {con : Con} {t : Sem Fin} {R : Result → Shared → Prop} (hv : ValidT prog w kg con t) (hA : A.handled = none) (hD : A.depth + con.dep < recursionLimit) (hU : A.units + con.uni < cLine) (I : Inv kg s0 s old trk)
    (idx : List Nat) (hi : idx.Nodup) (he : idx.map (nth trk) = con.pre.map some)
    (HR : ∀ e s', Inv kg s0 s' old ((con.post e).2.2 ++ puts idx (con.post e).2.1 trk) → Ends prog w A R (con.post e).1 s') : wpOwn (model prog w) A con.c t (postC prog w A R) (postE R) s :=
  hv A s R hA hD hU I.g (inv_idx I he) (nd_of_idx I.nd idx _ hi he) fun e s' O => HR e s' (I.orc O hi he)
theorem own_chunk {con : Con} {b : List Stmt} {env : Env} {Q : Flow → Shared → Prop} {fl : (Nat → Nat) → Flow} (hv : ValidT prog w kg con (tF b env)) (hA : A.handled = none) (hD : A.depth + con.dep < recursionLimit) (hU : A.units + con.uni < cLine) (I : Inv kg s0 s old trk)
    (idx : List Nat) (hi : idx.Nodup) (he : idx.map (nth trk) = con.pre.map some) (hf : ∀ e, (con.post e).1 = .res (.ok (fl e)))
    (HR : ∀ e s', Inv kg s0 s' old ((con.post e).2.2 ++ puts idx (con.post e).2.1 trk) → Q (fl e) s') : wpOwn (model prog w) A con.c (execs b env) Q E s := by
  have z := own_step (R := fun r s' => match r with | .ok f => Q f s' | .error v => E v s') hv hA hD hU I idx hi he fun e s' h => by
    rw [hf e]; exact HR e s' h
  have z2 := own_flow (m := execs b env) (R := fun r s' => match r with | .ok f => Q f s' | .error v => E v s') (by
    have e : Sem.bind (execs b env) (fun f => .pure (.done f)) = tF b env := by rw [execsQ_eq, PySem.W.R.bindR_eq]
    rw [e]; exact z)
  exact z2
theorem own_expr {con : Con} {x : Expr} {env : Env} {Q : Value → Shared → Prop} {v : (Nat → Nat) → Value} (hv : ValidT prog w kg con (tV x env)) (hA : A.handled = none) (hD : A.depth + con.dep < recursionLimit) (hU : A.units + con.uni < cLine) (I : Inv kg s0 s old trk)
    (idx : List Nat) (hi : idx.Nodup) (he : idx.map (nth trk) = con.pre.map some) (hf : ∀ e, (con.post e).1 = .res (.ok (.ret (v e))))
    (HR : ∀ e s', Inv kg s0 s' old ((con.post e).2.2 ++ puts idx (con.post e).2.1 trk) → Q (v e) s') : wpOwn (model prog w) A con.c (eval x env) Q E s := by
  have z := own_step (R := fun r s' => match r with | .ok (.ret v) => Q v s' | .ok _ => False | .error v => E v s') hv hA hD hU I idx hi he fun e s' h => by
    rw [hf e]; exact HR e s' h
  have z2 := own_value (m := eval x env) (R := fun r s' => match r with | .ok (.ret v) => Q v s' | .ok _ => False | .error v => E v s') (by
    have e : Sem.bind (eval x env) (fun v => .pure (.done (.ret v))) = tV x env := by rw [evalQ_eq, PySem.W.R.bindR_eq]
    rw [e]; exact z)
  exact z2
/-- the end: the engine's word on what is left -/
theorem own_fin {con₀ : Con} {R : Result → Shared → Prop} {r : En} (I : Inv kg s0 s (con₀.pre.map (·.1)) trk) (hpre : ∀ p ∈ con₀.pre, s0.heap.get? p.1 = some p.2 ∧ kg p.1 = none)
    (HR : ∀ e s', Out s0 s' con₀.pre (con₀.post e).2.1 (con₀.post e).2.2 → Ends prog w A R (con₀.post e).1 s') (e : Nat → Nat) (n : Nat) (nws : List Nat) (H : Ok (fini con₀ r trk (.fin false e n nws : Sc (fun _ => True)))) : Ends prog w A R r s :=
  fini_sound I hpre HR H
end
abbrev VT (w : World) (b1 b2 : Bool) (con : Con) (t : Sem Fin) : Prop := ValidT pw (wf w b1 b2) (kg (wf w b1 b2)) con t
theorem vgoT {w : World} {b1 b2 : Bool} {con : Con} {t : Sem Fin} (n : Nat) (sc : Scr w b1 b2) (H : ∀ ρ, Ok (goT con ⟨pw, (wf w b1 b2).params⟩ (kg (wf w b1 b2)) t n sc ρ)) : VT w b1 b2 con t := validT_of_go n sc noLimit H
section
variable {w : World} {b1 b2 : Bool} {A : Around} {s0 s : Shared} {old : List Addr} {trk : List (Addr × Obj)} {E : Value → Shared → Prop}
/-- a comparison of two lists -/
theorem own_cmpI {c : Code} {Q : Value → Shared → Prop} {op : CmpOp} {id : String} {x y : Nat} {lx ly : List Value} {nx ny : Nat} {b : Bool} (hs : Slot "list" (cmpInfo op).2.1 id) (hop : compareOp op (.ref x) (.ref y) = richCompare op (.ref x) (.ref y))
    (hv : VV w b1 b2 (cCmp id x y lx ly nx ny b)) (hA : A.handled = none) (hD : A.depth + c.weight < recursionLimit) (hU : A.units + c.cUnits + 40 < cLine) (I : Inv (kg (wf w b1 b2)) s0 s old trk)
    (idx : List Nat) (hi : idx.Nodup) (he : idx.map (nth trk) = [some (x, lst lx nx), some (y, lst ly ny)])
    (HR : ∀ s', Inv (kg (wf w b1 b2)) s0 s' old (puts idx [lst lx nx, lst ly ny] trk) → Q (.bool b) s') : wpOwn (model pw (wf w b1 b2)) A c (compareOp op (.ref x) (.ref y)) Q E s := by
  have hp := inv_idx (pre := [(x, lst lx nx), (y, lst ly ny)]) I he
  have hn := nd_of_idx I.nd idx [(x, lst lx nx), (y, lst ly ny)] hi he
  refine own_cmp hs hop hv hA hD hU I.g (hp _ (.head _)) (hp _ (.tail _ (.head _))) (by simpa using hn) fun s' O => HR s' ?_
  exact I.orc O hi he
end
theorem own_funcB {prog : Program} {w : World} {A : Around} {s : Shared} {body body' : List Stmt} {env : Env} {R : Result → Shared → Prop} (hb : body = body')
    (h : wpOwn (model prog w) A (.func body env) (execs body' env) (fun f s' => R (.ok (.ret (match f with | .ret v => v | _ => .none))) s') (fun _ _ => False) s) : codeAny (model prog w) A (.func body env) R s := by
  refine own_func ?_
  have e : execs body env = execs body' env := congrArg (fun b => execs b env) hb
  rw [e]; exact h
theorem Out.then {s s1 s2 : Shared} {pre pre2 : List (Addr × Obj)} {o1 o2 : List Obj} {n1 n2 : List (Addr × Obj)} (O1 : Out s s1 pre o1 n1) (e2 : pre2 = n1 ++ (pre.map (·.1)).zip o1) (O2 : Out s1 s2 pre2 o2 n2) : Out s s2 pre (o2.drop n1.length) n2 := by
  have em : pre2.map (·.1) = n1.map (·.1) ++ pre.map (·.1) := by rw [e2, List.map_append, map_zip O1.len]
  have hl : o2.length = n1.length + pre.length := by
    have := congrArg List.length em
    rw [O2.len]; simpa using this
  refine ⟨O2.gens.trans O1.gens, O2.drawn.trans O1.drawn, O2.os.trans O1.os, Nat.le_trans O1.toks O2.toks, Nat.le_trans O1.size O2.size, fun b o e q => O2.keep b o (O1.keep b o e q) ?_, ?_, fun p hp => ?_, fun p hp => ⟨(O2.made p hp).1, Nat.le_trans O1.size (O2.made p hp).2⟩, O2.nnd⟩
  · rw [em, List.mem_append]
    rintro (h | h)
    · obtain ⟨p, hp, rfl⟩ := List.mem_map.mp h
      exact absurd (Heap.lt_size e) (Nat.not_lt.mpr (O1.made p hp).2)
    · exact q h
  · rw [List.length_drop, hl]; omega
  · refine O2.at_ p ?_
    rw [em, ← List.take_append_drop n1.length o2, zip_append' (by simp [hl])]
    exact List.mem_append_right _ hp
/-- a code that goes on with another, which gets what the first has made -/
theorem valid_then {prog : Program} {w : World} {kg : Nat → Option Obj} {con con1 : Con} (h1 : Valid prog w kg con1) (hc : con.c = con1.c) (hp : con.pre = con1.pre) (hd : con1.dep ≤ con.dep) (hu : con1.uni ≤ con.uni)
    (h2 : ∀ e, ∃ con2 : Con, (con1.post e).1 = .again con2.c ∧ con2.pre = (con1.post e).2.2 ++ (con1.pre.map (·.1)).zip (con1.post e).2.1 ∧ con2.dep ≤ con.dep ∧ con2.uni ≤ con.uni ∧ Valid prog w kg con2 ∧
      ∀ e', ∃ e'', con.post e'' = ((con2.post e').1, (con2.post e').2.1.drop (con1.post e).2.2.length, (con2.post e').2.2)) : Valid prog w kg con := by
  intro A s R hA hD hU hg hpre hnd HR
  rw [hp] at hpre hnd
  rw [hc]
  refine h1 A s R hA (by omega) (by omega) hg hpre hnd fun e s' O => ?_
  obtain ⟨con2, k1, k3, k4, k5, k6, k7⟩ := h2 e
  rw [k1]
  show codeAny (model prog w) A con2.c R s'
  have em : con2.pre.map (·.1) = (con1.post e).2.2.map (·.1) ++ con1.pre.map (·.1) := by rw [k3, List.map_append, map_zip O.len]
  have hg' := kin_out O hg hpre
  refine k6 A s' R hA (by omega) (by omega) hg' (fun p hq => ?_) ?_ fun e' s'' O' => ?_
  · rw [k3] at hq
    rcases List.mem_append.mp hq with hq | hq
    · exact ⟨(O.made p hq).1, kg_none hg.1 (O.made p hq).2⟩
    · refine ⟨O.at_ p hq, ?_⟩
      have : p.1 ∈ con1.pre.map (·.1) := (List.of_mem_zip hq).1
      obtain ⟨q, hq', e⟩ := List.mem_map.mp this
      have e : q.1 = p.1 := e
      rw [← e]; exact (hpre q hq').2
  · rw [em, List.nodup_append]
    refine ⟨O.nnd, hnd, fun a ha b hb e => ?_⟩
    subst e
    obtain ⟨p, hp, rfl⟩ := List.mem_map.mp ha
    obtain ⟨q, hq, e⟩ := List.mem_map.mp hb
    have e : q.1 = p.1 := e
    have h1 := Heap.lt_size (hpre q hq).1
    rw [e] at h1
    exact absurd h1 (Nat.not_lt.mpr (O.made p hp).2)
  · obtain ⟨e'', z⟩ := k7 e'
    have := HR e'' s'' (by rw [z, hp]; exact O.then k3 O')
    rw [z] at this
    exact this
end Mine

open PySem PySem.W PySem.W.X PyProof.Rows
namespace Mine
variable {w : World} {b1 b2 : Bool}
noncomputable abbrev tabO (l : List Value) : Obj := ⟨.none, none, .fields ⟨l⟩, ⟨[]⟩⟩
noncomputable abbrev tab1 (co : Nat) : Obj := tabO [.int 61 0, .int 36 0, .ref co]
/-- where the search ends -/
abbrev spotOf (ls : List (Array UInt8 × Nat)) (y : Array UInt8) : Nat := bisR (ltX ls y) ls.length 0 ls.length
def foundIn (ls : List (Array UInt8 × Nat)) (y : Array UInt8) : Bool := match ls[spotOf ls y]? with
  | some z => decide (z.1.toList = y.toList)
  | none => false
theorem out_same {s : Shared} {pre : List (Addr × Obj)} (h : ∀ p ∈ pre, s.heap.get? p.1 = some p.2) : Out s s pre (pre.map (·.2)) [] := Out.refl h
/-- two lists compared -/
theorem v_listEq {x y nx ny : Nat} {lx ly : List Value} (hsz : lx.length = ly.length) (e : Nat → Bool) (he : ∀ j (h1 : j < lx.length) (h2 : j < ly.length), MeetsSeq.EqGives lx[j] ly[j] (e j)) {b : Bool} (hb : (List.range lx.length).all e = b) : VV w b1 b2 (cCmp "list.__eq__" x y lx ly nx ny b) := by
  subst hb
  intro A s R hA hD hU hg hpre hnd HR
  have h1 := (hpre (x, lst lx nx) (.head _)).1
  have h2 := (hpre (y, lst ly ny) (.tail _ (.head _))).1
  have hl := isList_lst h1
  have o1 := h1
  have o2 := h2
  rw [lst_eq] at o1 o2
  have M := @MeetsSeq3.list_eq x y ⟨lx⟩ ⟨ly⟩ nx ny hsz e (fun j h1 h2 => he j h1 h2)
  exact code_slotM PySem.F.slot_list_eq hl.typeIs PySem.F.entry_list_eq (PySem.F.args_list_eq_2 _ _) (@M) ⟨o1, o2, HR (fun _ => 0) s (Out.refl fun p hp => (hpre p hp).1)⟩
theorem v_listNe {x y nx ny : Nat} {lx ly : List Value} (hsz : lx.length = ly.length) (e : Nat → Bool) (he : ∀ j (h1 : j < lx.length) (h2 : j < ly.length), MeetsSeq.EqGives lx[j] ly[j] (e j)) {b : Bool} (hb : (!(List.range lx.length).all e) = b) : VV w b1 b2 (cCmp "list.__ne__" x y lx ly nx ny b) := by
  subst hb
  intro A s R hA hD hU hg hpre hnd HR
  have h1 := (hpre (x, lst lx nx) (.head _)).1
  have h2 := (hpre (y, lst ly ny) (.tail _ (.head _))).1
  have hl := isList_lst h1
  have o1 := h1
  have o2 := h2
  rw [lst_eq] at o1 o2
  have M := @PySem.SeqAt.list_neAt x y ⟨lx⟩ ⟨ly⟩ nx ny none none #[] #[] hsz e
  exact code_slotM PySem.F.slot_list_ne hl.typeIs PySem.F.entry_list_ne (PySem.F.args_list_ne_2 _ _) (@M) ⟨o1, o2, fun j h1 h2 => (he j h1 h2).at _ _, HR (fun _ => 0) s (Out.refl fun p hp => (hpre p hp).1)⟩
theorem eqG_bytes (p q : Array UInt8 × Nat) : MeetsSeq.EqGives (bv p) (bv q) (decide (p.1.toList = q.1.toList)) := fun prog w A E s Q h => eqBool_bytes h
theorem v_eq0 {x y n m : Nat} {v : Value} : VV w b1 b2 (cCmp "list.__eq__" x y [] [v] n m false) := by
  refine vgo 100 (.seg (fun a0 t0 => [1, 2, 1, 2]) fun a0 t0 => .fin false (fun _ => 0) 0 []) ?_
  exact fun ρ => by kernel_rfl
theorem v_eq1 {x y n m : Nat} {p q : Array UInt8 × Nat} : VV w b1 b2 (cCmp "list.__eq__" x y [bv p] [bv q] n m (decide (p.1.toList = q.1.toList))) :=
  v_listEq (lx := [bv p]) (ly := [bv q]) rfl (fun _ => decide (p.1.toList = q.1.toList)) (fun j h1 h2 => by
    have e : j = 0 := by simpa using h1
    subst e
    exact eqG_bytes p q) (by simp)
noncomputable def holEnv (L ce : Nat) : Env := { scope := (fdAt 18).2.2, locals := L, globals := 3, cells := [(letS, ce)], qual := ⟨⟨[95, 108, 97, 119, 95, 104, 111, 108, 100, 115, 46, 60, 108, 111, 99, 97, 108, 115, 62, 46]⟩⟩, func := some 120, code := .ref 119, frame := some L, builtins := 0 }
noncomputable def holB1 : List Stmt := (fdAt 18).2.1.take 1
noncomputable def holRet : Expr × Expr × Pos × Pos := match (fdAt 18).2.1[1]? with
  | some (Stmt.Return (some (Expr.Compare l [CmpOp.Eq] [r] p)) q) => (l, r, p, q)
  | _ => default
theorem hol_body : (fdAt 18).2.1 = holB1 ++ [.Return (some (.Compare holRet.1 [.Eq] [holRet.2.1] holRet.2.2.1)) holRet.2.2.2] := by kernel_rfl
noncomputable def holCode (L ce : Nat) : Code := .func (fdAt 18).2.1 (holEnv L ce)
abbrev keptS : List Nat := [107, 101, 112, 116]
abbrev spotS : List Nat := [115, 112, 111, 116]
noncomputable def holFr (P : Params) (t : Nat) (a : Nat) : Obj := frm [en1 P keptS t (.ref a)] 1
noncomputable def holFr2 (P : Params) (t : Nat) (a : Nat) (t2 : Nat) (v : Value) : Obj := frm [en1 P keptS t (.ref a), en1 P spotS t2 v] 2
noncomputable def holPre (P : Params) (L ce a : Nat) (ls : List (Array UInt8 × Nat)) (n co t : Nat) (q : Nat → Nat) (y : Array UInt8) (ty : Nat) : List (Addr × Obj) :=
  [(ce, cellO (.bytes y ty)), (L, holFr P t a), (115, tab1 co), (a, lst (ls.map bv) n), (co, lamC q)]
/-- the first statement -/
theorem v_hol1 {L ce a : Nat} {ls : List (Array UInt8 × Nat)} {n co t r : Nat} {q : Nat → Nat} {y : Array UInt8} {ty : Nat} (hb : ∀ tx lam ct, VV w b1 b2 (cBisL a ls n tx lam co ce ct q y ty r)) :
    VT w b1 b2 { c := holCode L ce, pre := holPre (wf w b1 b2).params L ce a ls n co t q y ty, dep := 12, uni := 120, post := fun e => (.res (.ok .next), [cellO (.bytes y ty), holFr2 (wf w b1 b2).params t a (e 0) (.int r (e 1)), tab1 co, lst (ls.map bv) n, lamC q], []) } (tF holB1 (holEnv L ce)) := by
  refine vgoT 400 (.seg (fun a0 u0 => [0, 2, 0, 4, 0, 0, 0, 0, 1]) fun a0 u0 =>
      .orc (cBisL a ls n (u0 0) (a0 1) co ce (a0 0) q y ty r) [5, 0, 6, 2] (hb _ _ _) fun e0 =>
      .seg (fun a1 u1 => [4, 3]) fun a1 u1 =>
      .fin false (fun i => match i with | 0 => u1 0 | _ => e0 0) 2 []) ?_
  cases b2 <;> exact fun ρ => by kernel_rfl
noncomputable def holPost1 (P : Params) (L ce a : Nat) (ls : List (Array UInt8 × Nat)) (n co t : Nat) (q : Nat → Nat) (y : Array UInt8) (ty t2 : Nat) (r t3 : Nat) : List (Addr × Obj) :=
  [(ce, cellO (.bytes y ty)), (L, holFr2 P t a t2 (.int r t3)), (115, tab1 co), (a, lst (ls.map bv) n), (co, lamC q)]
theorem v_holL {L ce a : Nat} {ls : List (Array UInt8 × Nat)} {n co t r t2 t3 : Nat} {q : Nat → Nat} {y : Array UInt8} {ty : Nat} {v : List Value} (hs : ∀ sl t1 t2, VV w b1 b2 (cSl a (ls.map bv) n sl (.int r t1) (.int ((r : Int) + 1) t2) v)) :
    VT w b1 b2 { c := holCode L ce, pre := holPost1 (wf w b1 b2).params L ce a ls n co t q y ty t2 r t3, dep := 12, uni := 120, post := fun e => (.res (.ok (.ret (.ref (e 0)))), (holPost1 (wf w b1 b2).params L ce a ls n co t q y ty t2 r t3).map (·.2), [(e 0, lst v 0)]) } (tV holRet.1 (holEnv L ce)) := by
  refine vgoT 400 (.seg (fun a1 u1 => [2, 2, 2, 0, 5, 5, 5, 1]) fun a1 u1 =>
      .orc (cSl a (ls.map bv) n (a1 0) (.int r t3) (.int ((r : Int) + 1) (u1 1)) v) [4, 0] (hs _ _ _) fun e1 =>
      .seg (fun _ _ => []) fun _ _ =>
      .fin false (fun _ => e1 0) 2 [0]) ?_
  cases b2 <;> exact fun ρ => by kernel_rfl
theorem v_holR {L ce : Nat} {y : Array UInt8} {ty : Nat} :
    VT w b1 b2 { c := holCode L ce, pre := [(ce, cellO (.bytes y ty))], dep := 12, uni := 120, post := fun e => (.res (.ok (.ret (.ref (e 0)))), [cellO (.bytes y ty)], [(e 0, lst [.bytes y ty] 0)]) } (tV holRet.2.1 (holEnv L ce)) := by
  refine vgoT 400 (.seg (fun a1 u1 => [1]) fun a1 u1 => .fin false (fun _ => a1 0) 1 [0]) ?_
  cases b2 <;> exact fun ρ => by kernel_rfl
noncomputable def cHolF (P : Params) (L ce a : Nat) (ls : List (Array UInt8 × Nat)) (n co t : Nat) (q : Nat → Nat) (y : Array UInt8) (ty r : Nat) (b : Bool) : Con :=
  { c := holCode L ce, pre := holPre P L ce a ls n co t q y ty, dep := 14, uni := 200, post := fun e => (.res (.ok (.ret (.bool b))), (holPost1 P L ce a ls n co t q y ty (e 0) r (e 1)).map (·.2), []) }
theorem hol_w (L ce : Nat) : (holCode L ce).weight ≤ 10 := Nat.le_of_ble_eq_true (by kernel_rfl)
theorem hol_u (L ce : Nat) : (holCode L ce).cUnits ≤ 10 := Nat.le_of_ble_eq_true (by kernel_rfl)
theorem v_holF {L ce a : Nat} {ls : List (Array UInt8 × Nat)} {n co t r : Nat} {q : Nat → Nat} {y : Array UInt8} {ty : Nat} {v : List Value} {b : Bool} (hb : ∀ tx lam ct, VV w b1 b2 (cBisL a ls n tx lam co ce ct q y ty r))
    (hs : ∀ sl t1 t2, VV w b1 b2 (cSl a (ls.map bv) n sl (.int r t1) (.int ((r : Int) + 1) t2) v)) (hc : ∀ x z, VV w b1 b2 (cCmp "list.__eq__" x z v [.bytes y ty] 0 0 b)) : VV w b1 b2 (cHolF (wf w b1 b2).params L ce a ls n co t q y ty r b) := by
  intro A s R hA hD hU hg hpre hnd HR
  have I := inv_init hg hpre hnd
  have hw := hol_w L ce
  have hu := hol_u L ce
  change A.depth + 14 < recursionLimit at hD
  change A.units + 200 < cLine at hU
  refine own_funcB hol_body (own_append ?_)
  refine own_chunk (v_hol1 (t := t) hb) hA (show A.depth + 12 < _ by omega) (show A.units + 120 < _ by omega) I [0, 1, 2, 3, 4] (by decide) rfl (fun _ => rfl) fun e s1 I1 => ?_
  refine own_execs (own_Return (own_Compare1 ?_ rfl))
  refine own_expr (v_holL (t := t) (t2 := e 0) (t3 := e 1) hs) hA (show A.depth + 12 < _ by omega) (show A.units + 120 < _ by omega) I1 [0, 1, 2, 3, 4] (by decide) rfl (fun _ => rfl) fun e' s2 I2 => ?_
  refine own_expr v_holR hA (show A.depth + 12 < _ by omega) (show A.units + 120 < _ by omega) I2 [1] (by decide) rfl (fun _ => rfl) fun e'' s3 I3 => ?_
  refine own_cmpI (op := .Eq) PySem.F.slot_list_eq rfl (hc _ _) hA (show A.depth + (holCode L ce).weight < _ by omega) (show A.units + (holCode L ce).cUnits + 40 < _ by omega) I3 [1, 0] (by decide) rfl fun s4 I4 => ?_
  exact own_fin (r := .res (.ok (.ret (.bool b)))) I4 hpre HR (fun i => match i with | 0 => e 0 | _ => e 1) 2 [] (by kernel_rfl)
/-- _law_holds is called -/
noncomputable def cHolC (P : Params) (a : Nat) (y : Array UInt8) (ty : Nat) (ex : List (Addr × Obj)) : Con :=
  { c := .call (.ref 120) ⟨[.ref a, .bytes y ty], []⟩, pre := ex, dep := 4, uni := 40, post := fun e => (.again (holCode (e 0) (e 1)), ex.map (·.2), [(e 1, cellO (.bytes y ty)), (e 0, holFr P (e 2) a)]) }
theorem v_holC {a : Nat} {y : Array UInt8} {ty : Nat} : VV w b1 b2 (cHolC (wf w b1 b2).params a y ty []) := by
  refine vgo 100 (.seg (fun a0 u0 => [0, 0, 2, 1, 1, 0, 0]) fun a0 u0 => .fin true (fun i => match i with | 0 => a0 0 | 1 => a0 1 | _ => u0 0) 2 [0, 1]) ?_
  cases b2 <;> exact fun ρ => by kernel_rfl
/-- _law_holds, its lambda's code made before -/
noncomputable def cHolds (a : Nat) (ls : List (Array UInt8 × Nat)) (n co : Nat) (q : Nat → Nat) (y : Array UInt8) (ty : Nat) (b : Bool) : Con :=
  { c := .call (.ref 120) ⟨[.ref a, .bytes y ty], []⟩, pre := [(115, tab1 co), (a, lst (ls.map bv) n), (co, lamC q)], dep := 14, uni := 200, post := fun e => (.res (.ok (.ret (.bool b))), [tab1 co, lst (ls.map bv) n, lamC q], []) }
theorem v_holds {a : Nat} {ls : List (Array UInt8 × Nat)} {n co : Nat} {q : Nat → Nat} {y : Array UInt8} {ty : Nat} (hlen : ls.length < 2 ^ 20) : VV w b1 b2 (cHolds a ls n co q y ty (foundIn ls y)) := by
  have hb : ∀ tx lam ce ct, VV w b1 b2 (cBisL a ls n tx lam co ce ct q y ty (spotOf ls y)) := fun tx lam ce ct => v_bisL hlen
  have hr := bisR_le (ltX ls y) ls.length 0 ls.length (by omega)
  unfold foundIn
  change spotOf ls y ≤ ls.length at hr
  generalize spotOf ls y = r at hb hr ⊢
  have hs : ∀ sl t1 t2, VV w b1 b2 (cSl a (ls.map bv) n sl (.int r t1) (.int ((r : Int) + 1) t2) (((ls.map bv).drop r).take 1)) := fun sl t1 t2 =>
    v_sl (.int _ _) (.int _ _) (by simpa using hlen) (slice1 (ls.map bv) r (by simpa using hr))
  have hc : ∀ x z, VV w b1 b2 (cCmp "list.__eq__" x z (((ls.map bv).drop r).take 1) [.bytes y ty] 0 0 (match ls[r]? with | some z => decide (z.1.toList = y.toList) | none => false)) := fun x z => by
    cases hz : ls[r]? with
    | none =>
      have hd : ((ls.map bv).drop r).take 1 = [] := by
        have : ls.length ≤ r := List.getElem?_eq_none_iff.mp hz
        rw [List.drop_eq_nil_of_le (by simpa using this)]; rfl
      rw [hd]
      exact v_eq0
    | some z =>
      have hd : ((ls.map bv).drop r).take 1 = [bv z] := by
        obtain ⟨h1, h2⟩ := List.getElem?_eq_some_iff.mp hz
        rw [← List.map_drop, ← List.map_take, List.drop_eq_getElem_cons h1, h2]; rfl
      rw [hd]
      exact v_eq1 (p := z) (q := (y, ty))
  generalize (match ls[r]? with | some z => decide (z.1.toList = y.toList) | none => false) = b at hc ⊢
  have h1 : VV w b1 b2 (cHolC (wf w b1 b2).params a y ty [(115, tab1 co), (a, lst (ls.map bv) n), (co, lamC q)]) :=
    valid_frame (ex := [(115, tab1 co), (a, lst (ls.map bv) n), (co, lamC q)]) v_holC rfl rfl (Nat.le_refl _) (Nat.le_refl _) fun e => rfl
  exact valid_then h1 rfl rfl (show 4 ≤ 14 by decide) (show 40 ≤ 200 by decide) fun e =>
    ⟨cHolF (wf w b1 b2).params (e 0) (e 1) a ls n co (e 2) q y ty r b, rfl, rfl, Nat.le_refl _, Nat.le_refl _, v_holF (fun tx lam ct => hb tx lam _ ct) hs hc, fun e' => ⟨fun _ => 0, rfl⟩⟩
/-- _law_holds for the first time: the list is empty, the lambda's code is made -/
noncomputable def cHolds0 (a n : Nat) (y : Array UInt8) (ty : Nat) : Con :=
  { c := .call (.ref 120) ⟨[.ref a, .bytes y ty], []⟩, pre := [(115, tabO []), (a, lst [] n)], dep := 14, uni := 200, post := fun e => (.res (.ok (.ret (.bool false))), [tab1 (e 0), lst [] n], [(e 0, lamC (fun i => e (i + 1)))]) }
def q0 (a u : Nat → Nat) : Nat → Nat
  | 0 => u 1 | 1 => u 2 | 2 => u 3 | 3 => a 1 | 4 => a 2 | 5 => a 3 | 6 => a 4 | 7 => a 5 | 8 => u 6 | _ => u 7
noncomputable def hol0Pre (P : Params) (L ce a n t : Nat) (y : Array UInt8) (ty : Nat) : List (Addr × Obj) :=
  [(ce, cellO (.bytes y ty)), (L, holFr P t a), (115, tabO []), (a, lst [] n)]
theorem v_hol01 {L ce a n t : Nat} {y : Array UInt8} {ty : Nat} :
    VT w b1 b2 { c := holCode L ce, pre := hol0Pre (wf w b1 b2).params L ce a n t y ty, dep := 12, uni := 120, post := fun e => (.res (.ok .next), [cellO (.bytes y ty), holFr2 (wf w b1 b2).params t a (e 0) (.int (0 : Nat) (e 1)), tab1 (e 2), lst [] n], [(e 2, lamC (fun i => e (i + 3)))]) } (tF holB1 (holEnv L ce)) := by
  have hb : ∀ tx lam co ce ct q, VV w b1 b2 (cBisL a [] n tx lam co ce ct q y ty 0) := fun tx lam co ce ct q => v_bisL (ls := []) (by simp)
  refine vgoT 400 (.seg (fun a0 u0 => [0, 2, 0, 4, 10, 9, 10, 0, 0, 0, 0, 1]) fun a0 u0 =>
      .orc (cBisL a [] n (u0 0) (a0 7) (a0 6) ce (a0 0) (q0 a0 u0) y ty 0) [11, 0, 1, 8] (hb _ _ _ _ _ _) fun e0 =>
      .seg (fun a1 u1 => [10, 9]) fun a1 u1 =>
      .fin false (fun i => match i with | 0 => u1 0 | 1 => e0 0 | 2 => a0 6 | j + 3 => q0 a0 u0 j) 8 [1]) ?_
  cases b2 <;> exact fun ρ => by kernel_rfl
noncomputable def cHolF0 (P : Params) (L ce a n t : Nat) (y : Array UInt8) (ty : Nat) : Con :=
  { c := holCode L ce, pre := hol0Pre P L ce a n t y ty, dep := 14, uni := 200, post := fun e => (.res (.ok (.ret (.bool false))), [cellO (.bytes y ty), holFr2 P t a (e 0) (.int (0 : Nat) (e 1)), tab1 (e 2), lst [] n], [(e 2, lamC (fun i => e (i + 3)))]) }
theorem v_holF0 {L ce a n t : Nat} {y : Array UInt8} {ty : Nat} : VV w b1 b2 (cHolF0 (wf w b1 b2).params L ce a n t y ty) := by
  have hs : ∀ sl t1 t2, VV w b1 b2 (cSl a (([] : List (Array UInt8 × Nat)).map bv) n sl (.int (0 : Nat) t1) (.int (((0 : Nat) : Int) + 1) t2) []) := fun sl t1 t2 =>
    v_sl (.int _ _) (.int _ _) (by simp) (slice1 [] 0 (by simp))
  intro A s R hA hD hU hg hpre hnd HR
  have I := inv_init hg hpre hnd
  have hw := hol_w L ce
  have hu := hol_u L ce
  change A.depth + 14 < recursionLimit at hD
  change A.units + 200 < cLine at hU
  refine own_funcB hol_body (own_append ?_)
  refine own_chunk (v_hol01 (t := t)) hA (show A.depth + 12 < _ by omega) (show A.units + 120 < _ by omega) I [0, 1, 2, 3] (by decide) rfl (fun _ => rfl) fun e s1 I1 => ?_
  refine own_execs (own_Return (own_Compare1 ?_ rfl))
  refine own_expr (v_holL (ls := []) (t := t) (t2 := e 0) (t3 := e 1) (q := fun i => e (i + 3)) hs) hA (show A.depth + 12 < _ by omega) (show A.units + 120 < _ by omega) I1 [1, 2, 3, 4, 0] (by decide) rfl (fun _ => rfl) fun e' s2 I2 => ?_
  refine own_expr v_holR hA (show A.depth + 12 < _ by omega) (show A.units + 120 < _ by omega) I2 [2] (by decide) rfl (fun _ => rfl) fun e'' s3 I3 => ?_
  refine own_cmpI (op := .Eq) PySem.F.slot_list_eq rfl v_eq0 hA (show A.depth + (holCode L ce).weight < _ by omega) (show A.units + (holCode L ce).cUnits + 40 < _ by omega) I3 [1, 0] (by decide) rfl fun s4 I4 => ?_
  exact own_fin (r := .res (.ok (.ret (.bool false)))) I4 hpre HR e 3 [2] (by kernel_rfl)
theorem v_holds0 {a n : Nat} {y : Array UInt8} {ty : Nat} : VV w b1 b2 (cHolds0 a n y ty) := by
  have h1 : VV w b1 b2 (cHolC (wf w b1 b2).params a y ty [(115, tabO []), (a, lst [] n)]) :=
    valid_frame (ex := [(115, tabO []), (a, lst [] n)]) v_holC rfl rfl (Nat.le_refl _) (Nat.le_refl _) fun e => rfl
  exact valid_then h1 rfl rfl (show 4 ≤ 14 by decide) (show 40 ≤ 200 by decide) fun e =>
    ⟨cHolF0 (wf w b1 b2).params (e 0) (e 1) a n (e 2) y ty, rfl, rfl, Nat.le_refl _, Nat.le_refl _, v_holF0, fun e' => ⟨fun i => match i with | 0 => e' 2 | j + 1 => e' (j + 3), rfl⟩⟩
end Mine

open PySem PySem.W PySem.W.X PyProof.Rows
namespace Mine
variable {w : World} {b1 b2 : Bool}
def rowB (b : Bool) : List UInt8 := match b with | true => [46, 46, 13, 10] | false => [45, 13, 10]
/-- a letter of four rows -/
def letB (a b c d : Bool) : Array UInt8 := ⟨rowB a ++ rowB b ++ rowB c ++ rowB d⟩
noncomputable def cTurned (y : Array UInt8) (ty : Nat) (y0 y1 y2 y3 : Array UInt8) : Con :=
  { c := .call (.ref 113) ⟨[.bytes y ty], []⟩, pre := [], dep := 10, uni := 100, post := fun e => (.res (.ok (.ret (.ref (e 0)))), [], [(e 0, lst [.bytes y0 (e 1), .bytes y1 (e 2), .bytes y2 (e 3), .bytes y3 (e 4)] 4)]) }
def turIs : List Nat := [0, 0, 1, 0, 0, 1, 0, 0, 2, 2, 2, 0, 2, 1, 1, 1, 1, 1, 2, 0, 4, 3, 5, 4, 0, 0, 0, 0, 5, 0, 2, 0, 2, 2, 0, 0, 1, 1, 0, 1, 1, 1, 1, 0, 1, 1, 1, 1, 1, 0, 1, 0, 1, 1, 1, 1, 1, 0, 1, 0, 7, 6, 7, 7, 4, 4, 4, 0, 4, 4, 0, 7, 6, 7, 3, 3, 3, 3, 7, 7, 5, 5, 5, 0, 5, 1, 1, 1, 1, 1, 5, 9, 2, 1, 2, 0, 2, 1, 2, 1, 11, 11, 0, 9, 9, 9, 0, 9, 1, 1, 1, 1, 1, 9, 3, 1, 3, 0, 3, 1, 3, 1, 2, 1, 2, 0, 2, 1, 2, 1, 0, 1, 1, 1, 1, 1, 1, 1, 1, 1, 1, 1, 1, 0, 12, 12, 11, 12, 10, 0, 10, 10, 10, 10, 10, 9, 10, 9, 16, 15, 16, 16, 13, 13, 13, 0, 13, 13, 0, 16, 15, 16, 12, 12, 12, 12, 16, 16, 14, 14, 14, 0, 14, 1, 1, 1, 1, 1, 14, 18, 2, 1, 2, 0, 2, 1, 2, 1, 20, 20, 0, 18, 18, 18, 0, 18, 1, 1, 1, 1, 1, 18, 3, 1, 3, 0, 3, 1, 3, 1, 2, 1, 2, 0, 2, 1, 2, 1, 0, 1, 1, 1, 1, 1, 1, 1, 1, 1, 1, 1, 1, 0, 21, 21, 20, 21, 19, 0, 19, 19, 19, 19, 19, 18, 19, 18, 25, 24, 25, 25, 22, 22, 22, 0, 22, 22, 0, 25, 24, 25, 21, 21, 21, 21, 25, 25, 23, 23, 23, 0, 23, 1, 1, 1, 1, 1, 23, 27, 2, 1, 2, 0, 2, 1, 2, 1, 29, 29, 0, 27, 27, 27, 0, 27, 1, 1, 1, 1, 1, 27, 3, 1, 3, 0, 3, 1, 3, 1, 2, 1, 2, 0, 2, 1, 2, 1, 0, 1, 1, 1, 1, 1, 1, 1, 1, 1, 1, 1, 1, 0, 30, 30, 29, 30, 28, 0, 28, 28, 28, 28, 28, 27, 28, 27, 34, 33, 34, 34, 31, 31, 31, 0, 31, 31, 0, 34, 33, 34, 30, 30, 30, 30, 34, 34, 32, 32, 32, 0, 32, 1, 1, 1, 1, 1, 32, 36, 2, 1, 2, 0, 2, 1, 2, 1, 38, 38, 0, 36, 36, 36, 0, 36, 1, 1, 1, 1, 1, 36, 3, 1, 3, 0, 3, 1, 3, 1, 2, 1, 2, 0, 2, 1, 2, 1, 0, 1, 1, 1, 1, 1, 1, 1, 1, 1, 1, 1, 1, 0, 39, 39, 38, 39, 37, 0, 37, 37, 37, 37, 1, 45]
noncomputable def turSc : Scr w b1 b2 := .seg (fun _ _ => turIs) fun a0 t0 => .fin false (fun i => match i with | 0 => a0 4 | 1 => t0 24 | 2 => t0 34 | 3 => t0 44 | _ => t0 54) 45 [40]
theorem v_turned {a b c d : Bool} {ty : Nat} : VV w b1 b2 (cTurned (letB a b c d) ty (letB (!a) b c d) (letB a (!b) c d) (letB a b (!c) d) (letB a b c (!d))) := by
  refine vgo 1200 turSc ?_
  cases b2 <;> cases a <;> cases b <;> cases c <;> cases d <;> exact fun ρ => by kernel_rfl
end Mine

open PySem PySem.W PySem.W.X PyProof.Rows
namespace Mine
/-- a loop by turns -/
theorem valid_loop {prog : Program} {w : World} {kg : Nat → Option Obj} {δ : Type} {c : Code} {r : Result} {as : List Addr} {dep uni : Nat} (n : Nat) (St : Nat → δ → List Obj) (Fi : (Nat → Nat) → List Obj) (hl : ∀ i d, (St i d).length = as.length)
    (turn : ∀ i d, i < n → ∃ g : (Nat → Nat) → δ, Valid prog w kg { c := c, pre := as.zip (St i d), dep := dep, uni := uni, post := fun e => (.again c, St (i + 1) (g e), []) })
    (stop : ∀ d, ∃ g : (Nat → Nat) → (Nat → Nat), Valid prog w kg { c := c, pre := as.zip (St n d), dep := dep, uni := uni, post := fun e => (.res r, Fi (g e), []) }) :
    ∀ i d, i ≤ n → Valid prog w kg { c := c, pre := as.zip (St i d), dep := dep, uni := uni, post := fun e => (.res r, Fi e, []) } := by
  have key : ∀ k i d, n - i = k → i ≤ n → Valid prog w kg { c := c, pre := as.zip (St i d), dep := dep, uni := uni, post := fun e => (.res r, Fi e, []) } := by
    intro k
    induction k with
    | zero =>
      intro i d h1 h2
      have e : i = n := by omega
      subst e
      obtain ⟨g, hg⟩ := stop d
      exact valid_as hg rfl rfl (Nat.le_refl _) (Nat.le_refl _) fun e => ⟨g e, rfl⟩
    | succ k ih =>
      intro i d h1 h2
      obtain ⟨g, hg⟩ := turn i d (by omega)
      refine valid_seq hg rfl rfl (Nat.le_refl _) (Nat.le_refl _) fun e => ⟨{ c := c, pre := as.zip (St (i + 1) (g e)), dep := dep, uni := uni, post := fun e => (.res r, Fi e, []) }, rfl, ?_, Nat.le_refl _, Nat.le_refl _, ih (i + 1) (g e) (by omega) (by omega), fun e' => ⟨e', rfl⟩⟩
      have : (as.zip (St i d)).map (·.1) = as := by rw [List.map_fst_zip]; rw [hl]; exact Nat.le_refl _
      show _ = ((as.zip (St i d)).map (·.1)).zip _
      rw [this]
  exact fun i d h => key _ i d rfl h
variable {w : World} {b1 b2 : Bool}
noncomputable abbrev tLIter : Value := .type PySem.W.SL.s3492446563574874994x13
noncomputable abbrev tRIter : Value := .type PySem.W.SL.s15992201931430999065x14
noncomputable abbrev tRange : Value := .type PySem.W.SL.s1438033511350832697x5
noncomputable abbrev tStop : Value := .type PySem.W.SL.s5991306692159431302x13
noncomputable abbrev tTup : Value := .type PySem.W.SL.s2766695959194262286x5
noncomputable abbrev tDict : Value := .type PySem.W.SL.s14018661285674007319x4
noncomputable abbrev liO (l : Nat) (i : Int) : Obj := ⟨tLIter, none, .fields ⟨[.ref l, .int i 0]⟩, ⟨[]⟩⟩
noncomputable abbrev liE (i : Int) : Obj := ⟨tLIter, none, .fields ⟨[.none, .int i 0]⟩, ⟨[]⟩⟩
noncomputable abbrev tupO (l : List Value) : Obj := ⟨tTup, none, .seq ⟨l⟩ 0, ⟨[]⟩⟩
noncomputable abbrev stopO (t : Nat) : Obj := ⟨tStop, none, .fields ⟨[.ref t, .none, .none, .none, .bool false, .none]⟩, ⟨[]⟩⟩
theorem liO_eq (l : Nat) (i : Int) : liO l i = { cls := .type "list_iterator", dict := none, data := .fields #[.ref l, .int i 0], slots := #[] } := by
  unfold liO tLIter
  rw [← PySem.W.SL.e3492446563574874994x13]
theorem Out.upd {s : Shared} {a : Addr} {o o' : Obj} {f : Obj → Obj} {ex : List (Addr × Obj)} (ho : s.heap.get? a = some o) (hx : ∀ p ∈ ex, s.heap.get? p.1 = some p.2) (hne : a ∉ ex.map (·.1)) (hf : f o = o') (hn : o'.isFreed = false) : Out s { s with heap := s.heap.update a f } ((a, o) :: ex) (o' :: ex.map (·.2)) [] := by
  refine ⟨rfl, rfl, rfl, Nat.le_refl _, by rw [Heap.size_update]; exact Nat.le_refl _, fun b ob eb hb => ?_, by simp, fun p hp => ?_, fun _ hp => (nomatch hp), List.nodup_nil⟩
  · refine (Heap.get?_update_ne _ _ _ _ fun h => hb ?_).trans eb
    rw [h]; simp
  · rw [List.map_cons, List.zip_cons_cons, zip_self] at hp
    rcases List.mem_cons.mp hp with rfl | hp
    · subst hf
      exact Heap.get?_update_self _ ho hn
    · refine (Heap.get?_update_ne _ _ _ _ fun h => hne ?_).trans (hx p hp)
      rw [← h]; exact List.mem_map_of_mem hp
/-- the next item of a list -/
noncomputable def cNx (it l : Nat) (xs : List Value) (n i : Nat) (v : Value) : Con := { c := .call (.builtin "list_iterator.__next__") ⟨[.ref it], []⟩, pre := [(it, liO l i), (l, lst xs n)], dep := 0, uni := 4, post := fun _ => (.res (.ok (.ret v)), [liO l ((i + 1 : Nat) : Int), lst xs n], []) }
theorem v_nx {it l : Nat} {xs : List Value} {n i : Nat} {v : Value} (hx : xs[i]? = some v) : VV w b1 b2 (cNx it l xs n i v) := by
  intro A s R hA hD hU hg hpre hnd HR
  have ho := (hpre (it, liO l i) (.head _)).1
  have hol := (hpre (l, lst xs n) (.tail _ (.head _))).1
  have ho' := ho
  rw [liO_eq] at ho'
  have hit : s.heap.IsListIter it l i := ⟨_, ho', rfl, rfl⟩
  obtain ⟨o, ho2, hc, hd⟩ := id hit
  obtain ⟨ol, hol2, _, nl, hdl⟩ := isList_lst hol
  refine code_slot slot_listiter_next hit.typeIs entry_listiter_next (args_listiter_next _) ?_
  show wpAny _ _ (field (.ref it) 0 >>= _) _ _ s
  refine wpAny_bind (wpAny_field ho2 hd (x := .ref l) rfl ?_)
  show wpAny _ _ (if (Value.ref l == Value.none) = true then _ else _) _ _ s
  rw [if_neg (show ¬ ((Value.ref l == Value.none) = true) from Bool.false_ne_true)]
  show wpAny _ _ (field (.ref it) 1 >>= _) _ _ s
  refine wpAny_bind (wpAny_field ho2 hd (x := .int i 0) rfl ?_)
  show wpAny _ _ (seqItems? (.ref l) >>= _) _ _ s
  refine wpAny_bind (wpAny_seqItems hol2 hdl ?_)
  have hx' : (⟨xs⟩ : Array Value)[i]? = some v := by simpa using hx
  simp only [Int.toNat_natCast, hx']
  refine wpAny_bind (wpAny_setField ho2 hd (by simp) (wpAny_pure ⟨v, rfl, ?_⟩))
  have hO := Out.upd (s := s) (a := it) (o := liO l i) (o' := liO l ((i + 1 : Nat) : Int)) (ex := [(l, lst xs n)]) ho (fun p hp => by
    have e : p = (l, lst xs n) := by simpa using hp
    rw [e]; exact hol) (by have h := hnd; simpa [cNx] using h) (f := Obj.mapFields fun vs => vs.setIfInBounds 1 (rawInt ((i : Int) + 1))) rfl rfl
  exact HR (fun _ => 0) _ hO
theorem stopO_eq (t : Nat) : stopO t = { cls := .type "StopIteration", dict := none, data := .fields #[.ref t, .none, .none, .none, .bool false, .none], slots := #[] } := by
  unfold stopO tStop
  rw [← PySem.W.SL.e5991306692159431302x13]
theorem tupO_eq (l : List Value) : tupO l = { cls := .type "tuple", dict := none, data := .seq ⟨l⟩ 0, slots := #[] } := by
  unfold tupO tTup
  rw [← PySem.W.SL.e2766695959194262286x5]
theorem Out.push2 {s s1 : Shared} {pre : List (Addr × Obj)} {objs : List Obj} (O : Out s s1 pre objs []) (o1 o2 : Obj) (h1 : o1.isFreed = false) (h2 : o2.isFreed = false) :
    Out s { s1 with heap := (s1.heap.push o1).push o2 } pre objs [(s1.heap.objs.size + 1, o2), (s1.heap.objs.size, o1)] := by
  refine ⟨O.gens, O.drawn, O.os, O.toks, ?_, fun b o e q => Heap.get?_push_of_some _ (Heap.get?_push_of_some _ (O.keep b o e q)), O.len, fun p hp => Heap.get?_push_of_some _ (Heap.get?_push_of_some _ (O.at_ p hp)), fun p hp => ?_, by simp⟩
  · have := O.size
    show _ ≤ ((s1.heap.push o1).push o2).objs.size
    rw [Heap.size_push, Heap.size_push]; omega
  · have hz : (s1.heap.push o1).objs.size = s1.heap.objs.size + 1 := Heap.size_push _ _
    have h := O.size
    have : p = (s1.heap.objs.size + 1, o2) ∨ p = (s1.heap.objs.size, o1) := by simpa using hp
    rcases this with rfl | rfl
    · refine ⟨?_, Nat.le_trans h (Nat.le_succ _)⟩
      show ((s1.heap.push o1).push o2).get? (s1.heap.objs.size + 1) = _
      rw [← hz]; exact Heap.get?_push_size _ h2
    · exact ⟨Heap.get?_push_of_some _ (Heap.get?_push_size _ h1), h⟩
/-- a list's iterator at its end -/
noncomputable def cNxE (it l : Nat) (xs : List Value) (n i : Nat) : Con := { c := .call (.builtin "list_iterator.__next__") ⟨[.ref it], []⟩, pre := [(it, liO l i), (l, lst xs n)], dep := 0, uni := 4, post := fun e => (.res (.error (.ref (e 0))), [liE i, lst xs n], [(e 0, stopO (e 1)), (e 1, tupO [])]) }
theorem v_nxE {it l : Nat} {xs : List Value} {n i : Nat} (hx : xs[i]? = none) : VV w b1 b2 (cNxE it l xs n i) := by
  intro A s R hA hD hU hg hpre hnd HR
  have ho := (hpre (it, liO l i) (.head _)).1
  have hol := (hpre (l, lst xs n) (.tail _ (.head _))).1
  have ho' := ho
  rw [liO_eq] at ho'
  have hit : s.heap.IsListIter it l i := ⟨_, ho', rfl, rfl⟩
  obtain ⟨o, ho2, hc, hd⟩ := id hit
  obtain ⟨ol, hol2, _, nl, hdl⟩ := isList_lst hol
  have hO := Out.upd (s := s) (a := it) (o := liO l i) (o' := liE i) (ex := [(l, lst xs n)]) ho (fun p hp => by
    have e : p = (l, lst xs n) := by simpa using hp
    rw [e]; exact hol) (by have h := hnd; simpa [cNxE] using h) (f := Obj.mapFields fun vs => vs.setIfInBounds 0 .none) rfl rfl
  refine code_slot slot_listiter_next hit.typeIs entry_listiter_next (args_listiter_next _) ?_
  show wpAny _ _ (field (.ref it) 0 >>= _) _ _ s
  refine wpAny_bind (wpAny_field ho2 hd (x := .ref l) rfl ?_)
  show wpAny _ _ (if (Value.ref l == Value.none) = true then _ else _) _ _ s
  rw [if_neg (show ¬ ((Value.ref l == Value.none) = true) from Bool.false_ne_true)]
  show wpAny _ _ (field (.ref it) 1 >>= _) _ _ s
  refine wpAny_bind (wpAny_field ho2 hd (x := .int i 0) rfl ?_)
  show wpAny _ _ (seqItems? (.ref l) >>= _) _ _ s
  refine wpAny_bind (wpAny_seqItems hol2 hdl ?_)
  have hx' : (⟨xs⟩ : Array Value)[i]? = none := by simpa using hx
  simp only [Int.toNat_natCast, hx']
  refine wpAny_bind (wpAny_rule (wpAny_bind (wpAny_setField ho2 hd (by simp) ?_)))
  show wpAny _ _ (newExc (.type "StopIteration") [] >>= _) _ _ _
  refine wpAny_bind ?_
  simp only [newExc, newTuple]
  refine wpAny_bind (wpAny_newObj_type ?_ (by size_fits))
  refine wpAny_bind (m := firstArgMember _ _) (wpAny_of_eq (a := Value.none) (by first | rfl | (simp only [firstArgMember]; rfl)) ?_)
  refine wpAny_newObj_type ?_ (by size_fits)
  simp only [raiseNew]
  refine wpAny_bind (wpAny_handled ?_)
  rw [show A.in1.handled = none from hA]
  refine wpAny_bind (wpAny_pure (wpAny_throw ?_))
  have hO2 := hO.push2 (tupO []) (stopO (s.heap.update it (Obj.mapFields fun vs => vs.setIfInBounds 0 .none)).objs.size) rfl rfl
  have z := HR (fun i => match i with | 0 => (s.heap.update it (Obj.mapFields fun vs => vs.setIfInBounds 0 .none)).objs.size + 1 | _ => (s.heap.update it (Obj.mapFields fun vs => vs.setIfInBounds 0 .none)).objs.size) _ hO2
  rw [tupO_eq, stopO_eq] at z
  have em : ownMembersOf (.type "StopIteration") [] = #[] := by kernel_rfl
  rw [em, Heap.size_push]
  exact z
noncomputable abbrev riO (x left : Int) : Obj := ⟨tRIter, none, .fields ⟨[.int x 0, .int left 0, .int 1 0]⟩, ⟨[]⟩⟩
theorem riO_eq (x left : Int) : riO x left = { cls := .type "range_iterator", dict := none, data := .fields #[rawInt x, rawInt left, rawInt 1], slots := #[] } := by
  unfold riO tRIter
  rw [← PySem.W.SL.e15992201931430999065x14]
  rfl
noncomputable def cRNx (it i k : Nat) : Con := { c := .call (.builtin "range_iterator.__next__") ⟨[.ref it], []⟩, pre := [(it, riO i ((k + 1 : Nat) : Int))], dep := 0, uni := 4, post := fun e => (.res (.ok (.ret (.int i (e 0)))), [riO ((i + 1 : Nat) : Int) k], []) }
theorem v_rnx {it i k : Nat} : VV w b1 b2 (cRNx it i k) := by
  intro A s R hA hD hU hg hpre hnd HR
  have ho := (hpre (it, riO i ((k + 1 : Nat) : Int)) (.head _)).1
  have ho' := ho
  rw [riO_eq] at ho'
  have hT : s.TypeIs (.ref it) "range_iterator" := ⟨_, ho', rfl⟩
  have M := AutoRange.range_iterator___next___range_iterator_1 it i ((k + 1 : Nat) : Int) 1 (by omega)
  have hO1 := Out.upd (s := s) (a := it) (o := riO i ((k + 1 : Nat) : Int)) (o' := riO ((i : Int) + 1) ((k + 1 : Nat) : Int)) (ex := []) ho (fun p hp => (nomatch hp)) (by simp) (f := Obj.mapFields fun x_1 => x_1.setIfInBounds 0 (rawInt ((i : Int) + 1))) rfl rfl
  have ho2 := hO1.at_ (it, riO ((i : Int) + 1) ((k + 1 : Nat) : Int)) (by simp)
  have hO2 := Out.upd (a := it) (o := riO ((i : Int) + 1) ((k + 1 : Nat) : Int)) (o' := riO ((i : Int) + 1) (((k + 1 : Nat) : Int) - 1)) (ex := []) ho2 (fun p hp => (nomatch hp)) (by simp) (f := Obj.mapFields fun x => x.setIfInBounds 1 (rawInt (((k + 1 : Nat) : Int) - 1))) rfl rfl
  have hO := Out.trans (pre2 := [(it, riO ((i : Int) + 1) ((k + 1 : Nat) : Int))]) hO1 rfl hO2
  have e1 : ((k + 1 : Nat) : Int) - 1 = (k : Int) := by omega
  have e2 : ((i : Int) + 1) = ((i + 1 : Nat) : Int) := by omega
  refine code_slotM PySem.F.slot_range_iterator_next hT PySem.F.entry_range_iterator_next (PySem.F.args_range_iterator_next_1 _) M ⟨ho', ?_⟩
  refine HR (fun _ => s.toks) _ ?_
  refine ⟨rfl, rfl, rfl, Nat.le_succ _, hO.size, hO.keep, hO.len, fun p hp => hO.at_ p ?_, fun p hp => (nomatch hp), List.nodup_nil⟩
  rw [e1, e2]; exact hp
end Mine

open PySem PySem.W PySem.W.X PyProof.Rows
namespace Mine
variable {w : World} {b1 b2 : Bool}
theorem app_obj (T : Value) (l : List Value) (n : Nat) (v : Value) : Obj.mapSeq (fun xs => xs.push v) ⟨T, none, .seq ⟨l⟩ n, ⟨[]⟩⟩ = ⟨T, none, .seq ⟨l ++ [v]⟩ (n + 1), ⟨[]⟩⟩ := by
  have e : (Array.mk l).push v = ⟨l ++ [v]⟩ := by apply Array.ext'; simp
  have hne : ((Array.mk (l ++ [v])).size == (Array.mk l).size) = false := by simp
  simp only [Obj.mapSeq, e, hne]
  rfl
noncomputable def cApp (a : Nat) (l : List Value) (n : Nat) (v : Value) : Con := { c := .call (.builtin "list.append") ⟨[.ref a, v], []⟩, pre := [(a, lst l n)], dep := 0, uni := 4, post := fun _ => (.res (.ok (.ret .none)), [lst (l ++ [v]) (n + 1)], []) }
theorem v_app {a : Nat} {l : List Value} {n : Nat} {v : Value} (hl : l.length < 2 ^ 20) : VV w b1 b2 (cApp a l n v) := by
  intro A s R hA hD hU hg hpre hnd HR
  have ho := (hpre (a, lst l n) (.head _)).1
  have hL := isList_lst ho
  have ho' := ho
  rw [lst_eq] at ho'
  have hz : (⟨l⟩ : Array Value).size ≤ sizeLine := by
    have : (⟨l⟩ : Array Value).size = l.length := rfl
    rw [this, sizeLine_eq]; omega
  have M := @PySem.list_append a (Array.mk l) n v hz
  refine code_slotM PySem.F.slot_list_append hL.typeIs PySem.F.entry_list_append (PySem.F.args_list_append_2 _ _) (@M) ⟨ho', ?_⟩
  have hO := Out.upd (s := s) (a := a) (o := lst l n) (o' := lst (l ++ [v]) (n + 1)) (ex := []) (f := Obj.mapSeq fun xs => xs.push v) ho (fun p hp => (nomatch hp)) (by simp) (app_obj _ l n v) rfl
  exact HR (fun _ => 0) _ hO
/-- the comprehension of _law_pairs -/
noncomputable def prsFor : Expr × Expr × List Stmt := match (fdAt 19).2.1[2]? with
  | some (Stmt.For t it b _ _) => (t, it, b)
  | _ => default
noncomputable def prsComp : Expr × Scope := match prsFor.2.2[0]? with
  | some (Stmt.Assign _ (Expr.Call _ [Expr.ListComp e g sc p] _ _) _) => (Expr.ListComp e g sc p, sc)
  | _ => default
/-- the names that a comprehension takes from its function's cells -/
def cellScope (sc : Scope) : Scope := { sc with names := sc.names.map fun p => match p.2 with | .free => (p.1, .cell) | k => (p.1, k) }
noncomputable def prsCEnv (dct cel L : Nat) : Env := { scope := cellScope prsComp.2, locals := dct, globals := 3, cells := [(⟨⟨[107, 101, 112, 116]⟩⟩, cel)], qual := ⟨⟨[95, 108, 97, 119, 95, 112, 97, 105, 114, 115, 46, 60, 108, 111, 99, 97, 108, 115, 62, 46]⟩⟩, func := none, code := .ref 124, frame := some L, builtins := 0 }
noncomputable def prsCCode (it acc dct cel L : Nat) : Code := .compLoop prsComp.1 0 (.ref it) (.ref acc) (prsCEnv dct cel L)
noncomputable abbrev dicO (l : List DictEntry) (n : Nat) : Obj := ⟨tDict, none, .dict ⟨l⟩ n, ⟨[]⟩⟩
noncomputable def oneO (P : Params) (s : List Nat) : Option (Nat × Value) → Obj
  | none => dicO [] 0
  | some m => dicO [en1 P s m.1 m.2] 1
abbrev nearL : List Nat := [110, 101, 97, 114]
noncomputable def cPCT (P : Params) (it src dct cel kp co acc L : Nat) (xs : List Value) (n i : Nat) (mo : Option (Nat × Value)) (ls : List (Array UInt8 × Nat)) (m : Nat) (q : Nat → Nat) (al : List Value) (na : Nat) (y : Array UInt8) (ty : Nat) (b : Bool) : Con :=
  { c := prsCCode it acc dct cel L, pre := [(it, liO src i), (src, lst xs n), (dct, oneO P nearL mo), (cel, cellO (.ref kp)), (115, tab1 co), (kp, lst (ls.map bv) m), (co, lamC q), (acc, lst al na)], dep := 20, uni := 300,
    post := fun e => (.again (prsCCode it acc dct cel L), [liO src ((i + 1 : Nat) : Int), lst xs n, oneO P nearL (some (midT mo (e 0), .bytes y ty)), cellO (.ref kp), tab1 co, lst (ls.map bv) m, lamC q, match b with | true => lst (al ++ [.bytes y ty]) (na + 1) | false => lst al na], []) }
theorem v_PCT {it src dct cel kp co acc L : Nat} {xs : List Value} {n i : Nat} {mo : Option (Nat × Value)} {ls : List (Array UInt8 × Nat)} {m : Nat} {q : Nat → Nat} {al : List Value} {na : Nat} {y : Array UInt8} {ty : Nat} {b : Bool}
    (hx : xs[i]? = some (.bytes y ty)) (hls : ls.length < 2 ^ 20) (hal : al.length < 2 ^ 20) (hb : foundIn ls y = b) : VV w b1 b2 (cPCT (wf w b1 b2).params it src dct cel kp co acc L xs n i mo ls m q al na y ty b) := by
  have h1 : VV w b1 b2 (cNx it src xs n i (.bytes y ty)) := v_nx hx
  have h2 : VV w b1 b2 (cHolds kp ls m co q y ty b) := by rw [← hb]; exact v_holds hls
  have h3 : VV w b1 b2 (cApp acc al na (.bytes y ty)) := v_app hal
  refine vgo 200 (.seg (fun a0 t0 => [1, 1]) fun a0 t0 =>
    .orc (cNx it src xs n i (.bytes y ty)) [0, 1] h1 fun e0 =>
    .seg (fun a1 t1 => [3, 2, 0, 4, 3, 0, 1]) fun a1 t1 =>
    .orc (cHolds kp ls m co q y ty b) [4, 5, 6] h2 fun e1 => match b with
    | true => .seg (fun a2 t2 => [3, 1]) fun a2 t2 => .orc (cApp acc al na (.bytes y ty)) [7] h3 fun e2 => .seg (fun a3 t3 => []) fun a3 t3 => .fin true (fun _ => t1 0) 0 []
    | false => .seg (fun a2 t2 => []) fun a2 t2 => .fin true (fun _ => t1 0) 0 []) ?_
  cases b2 <;> cases b <;> cases mo <;> exact fun ρ => by kernel_rfl
end Mine

open PySem PySem.W PySem.W.X PyProof.Rows
namespace Mine
variable {w : World} {b1 b2 : Bool}
section
variable {A : Around} {s0 s : Shared} {old : List Addr} {trk : List (Addr × Obj)} {E : Value → Shared → Prop}
theorem wp_next {it l : Nat} {xs : List Value} {n i : Nat} {v : Value} {Q : Option Value → Shared → Prop} (hx : xs[i]? = some v) (hA : A.handled = none) (hD : A.depth < recursionLimit) (hU : A.units + 4 < cLine) (I : Inv (kg (wf w b1 b2)) s0 s old trk)
    (idx : List Nat) (hi : idx.Nodup) (he : idx.map (nth trk) = [some (it, liO l i), some (l, lst xs n)])
    (HR : ∀ s', Inv (kg (wf w b1 b2)) s0 s' old (puts idx [liO l ((i + 1 : Nat) : Int), lst xs n] trk) → Q (some v) s') : wpAny (model pw (wf w b1 b2)) A (pyNext (.ref it)) Q E s := by
  have hp := inv_idx (pre := [(it, liO l i), (l, lst xs n)]) I he
  have ho := (hp _ (.head _)).1
  rw [liO_eq] at ho
  have hit : s.heap.IsListIter it l i := ⟨_, ho, rfl, rfl⟩
  unfold pyNext
  refine wpAny_bind (wpAny_attempt (wpAny_callSpecial?_slot (name := Str.ofString "__next__") hit.typeIs slot_listiter_next (wpAny_call ?_)))
  refine v_nx hx A s _ hA (by show A.depth + 0 < _; omega) hU I.g hp (nd_of_idx I.nd idx _ hi he) fun e s' O => ?_
  exact wpAny_pure (HR s' (I.orc O hi he))
theorem wp_nextE {it l : Nat} {xs : List Value} {n i : Nat} {Q : Option Value → Shared → Prop} (hx : xs[i]? = none) (hA : A.handled = none) (hD : A.depth < recursionLimit) (hU : A.units + 4 < cLine) (I : Inv (kg (wf w b1 b2)) s0 s old trk)
    (idx : List Nat) (hi : idx.Nodup) (he : idx.map (nth trk) = [some (it, liO l i), some (l, lst xs n)])
    (HR : ∀ s', Inv (kg (wf w b1 b2)) s0 s' old (puts idx [liE i, lst xs n] trk) → Q none s') : wpAny (model pw (wf w b1 b2)) A (pyNext (.ref it)) Q E s := by
  have hp := inv_idx (pre := [(it, liO l i), (l, lst xs n)]) I he
  have ho := (hp _ (.head _)).1
  rw [liO_eq] at ho
  have hit : s.heap.IsListIter it l i := ⟨_, ho, rfl, rfl⟩
  unfold pyNext
  refine wpAny_bind (wpAny_attempt (wpAny_callSpecial?_slot (name := Str.ofString "__next__") hit.typeIs slot_listiter_next (wpAny_call ?_)))
  refine v_nxE hx A s _ hA (by show A.depth + 0 < _; omega) hU I.g hp (nd_of_idx I.nd idx _ hi he) fun e s' O => ?_
  have I' := I.orc O hi he
  have hs := (I'.tr (e 0, stopO (e 1)) (.head _)).1
  rw [stopO_eq] at hs
  refine wpAny_bind (wpAny_isInstance (T := "StopIteration") (b := true) ⟨_, hs, rfl⟩ isSubtype_stop ?_)
  refine wpAny_pure (HR s' ?_)
  exact ⟨I'.gens, I'.drawn, I'.os, I'.toks, I'.size, I'.keep, fun p hp => I'.tr p (.tail _ (.tail _ hp)), by
    have h := I'.nd
    rw [List.map_append, List.nodup_append] at h
    exact h.2.1, I'.g⟩
end
def sumTo (ys : List (Int × Nat)) (i : Nat) : Int := ((ys.take i).map (·.1)).foldl (· + ·) 0
theorem sumTo_succ {ys : List (Int × Nat)} {i : Nat} {y : Int × Nat} (h : ys[i]? = some y) : sumTo ys (i + 1) = sumTo ys i + y.1 := by
  unfold sumTo
  rw [List.take_add_one, h]
  simp
noncomputable def sumCode (st it : Nat) : Code := .builtin "sum.loop" ⟨[.ref it, .ref st, .int 0 0, .int 0 0], []⟩
noncomputable def cSumT (st it l : Nat) (xs : List Value) (n i : Nat) (a b : Int) (ta : Nat) : Con :=
  { c := sumCode st it, pre := [(st, lst [.int a ta] 0), (it, liO l i), (l, lst xs n)], dep := 1, uni := 20, post := fun e => (.again (sumCode st it), [lst [.int (a + b) (e 0)] 0, liO l ((i + 1 : Nat) : Int), lst xs n], []) }
theorem Around.in1_units (A : Around) : A.in1.units = A.units + 1 := rfl
theorem set_obj (T : Value) (u v : Value) (n : Nat) : Obj.mapSeq (fun _ => #[v]) ⟨T, none, .seq ⟨[u]⟩ n, ⟨[]⟩⟩ = ⟨T, none, .seq ⟨[v]⟩ n, ⟨[]⟩⟩ := rfl
theorem v_sumT {st it l : Nat} {xs : List Value} {n i : Nat} {a b : Int} {ta tb : Nat} (hx : xs[i]? = some (.int b tb)) (h1 : -(2 ^ 63) ≤ b) (h2 : b < 2 ^ 63) (h3 : -(2 ^ 63) ≤ a + b) (h4 : a + b < 2 ^ 63) : VV w b1 b2 (cSumT st it l xs n i a b ta) := by
  intro A s R hA hD hU hg hpre hnd HR
  change A.depth + 1 < recursionLimit at hD
  change A.units + 20 < cLine at hU
  have I := inv_init hg hpre hnd
  refine codeAny_builtin F.entry_sum_loop ?_
  rw [Around.under_plainId F.plain_sum_loop _]
  have ho := (hpre (st, lst [.int a ta] 0) (.head _)).1
  have hL := isList_lst ho
  obtain ⟨o, ho', hc, ne, hd⟩ := id hL
  have hcond : ((decide (-(2 ^ 63) ≤ b) && decide (b < 2 ^ 63)) && (decide (-(2 ^ 63) ≤ a + b) && decide (a + b < 2 ^ 63))) = true := by
    simp only [Bool.and_eq_true, decide_eq_true_eq]
    exact ⟨⟨h1, h2⟩, h3, h4⟩
  show wpAny _ A.in1 (seqItems? (.ref st) >>= _) _ _ s
  refine wpAny_bind (wpAny_seqItems ho' hd ?_)
  show wpAny _ A.in1 (tryCatch (pyNext (.ref it)) _ >>= _) _ _ s
  refine wpAny_bind (wpAny_tryCatch (wp_next hx hA (show A.depth < _ by omega) (show A.units + 1 + 4 < _ by omega) I [1, 2] (by decide) rfl fun s1 I1 => ?_))
  show wpAny _ A.in1 (if (_ : Bool) = true then (mkInt (a + b) >>= _) else _) _ _ _
  split
  · refine wpAny_bind (wpAny_mkInt ?_)
    show wpAny _ A.in1 (updateSeq st (fun _ => #[.int (a + b) s1.toks]) >>= _) _ _ _
    have ho1 := (I1.tr (st, lst [.int a ta] 0) (.head _)).1
    have I2 := I1.fresh.update (i := 0) (p := (st, lst [.int a ta] 0)) (f := Obj.mapSeq fun _ => #[.int (a + b) s1.toks]) rfl rfl
    rw [lst_eq] at ho1
    refine wpAny_bind (wpAny_updateSeq ho1 rfl (wpAny_pure ⟨plainId_quiet F.plain_sum_loop _, ?_⟩))
    exact own_fin (con₀ := cSumT st it l xs n i a b ta) (r := .again (sumCode st it)) I2 hpre HR (fun _ => s1.toks) 0 [] (by kernel_rfl)
  · rename_i hneg
    exact absurd hcond hneg
noncomputable def cSumE (st it l : Nat) (xs : List Value) (n i : Nat) (a : Int) (ta : Nat) : Con :=
  { c := sumCode st it, pre := [(st, lst [.int a ta] 0), (it, liO l i), (l, lst xs n)], dep := 1, uni := 20, post := fun e => (.res (.ok (.ret (.int a ta))), [lst [.int a ta] 0, liE i, lst xs n], []) }
theorem v_sumE {st it l : Nat} {xs : List Value} {n i : Nat} {a : Int} {ta : Nat} (hx : xs[i]? = none) : VV w b1 b2 (cSumE st it l xs n i a ta) := by
  intro A s R hA hD hU hg hpre hnd HR
  change A.depth + 1 < recursionLimit at hD
  change A.units + 20 < cLine at hU
  have I := inv_init hg hpre hnd
  refine codeAny_builtin F.entry_sum_loop ?_
  rw [Around.under_plainId F.plain_sum_loop _]
  have ho := (hpre (st, lst [.int a ta] 0) (.head _)).1
  have hL := isList_lst ho
  obtain ⟨o, ho', hc, ne, hd⟩ := id hL
  show wpAny _ A.in1 (seqItems? (.ref st) >>= _) _ _ s
  refine wpAny_bind (wpAny_seqItems ho' hd ?_)
  show wpAny _ A.in1 (tryCatch (pyNext (.ref it)) _ >>= _) _ _ s
  refine wpAny_bind (wpAny_tryCatch (wp_nextE hx hA (show A.depth < _ by omega) (show A.units + 1 + 4 < _ by omega) I [1, 2] (by decide) rfl fun s1 I1 => ?_))
  refine wpAny_pure ?_
  exact own_fin (con₀ := cSumE st it l xs n i a ta) (r := .res (.ok (.ret (.int a ta)))) I1 hpre HR (fun _ => 0) 0 [] (by kernel_rfl)
/-- a loop by turns, its result told at the end -/
theorem valid_loopE {prog : Program} {w : World} {kg : Nat → Option Obj} {δ : Type} {c : Code} {as : List Addr} {dep uni : Nat} (n : Nat) (St : Nat → δ → List Obj) (r : (Nat → Nat) → Result) (Fi : (Nat → Nat) → List Obj) (hl : ∀ i d, (St i d).length = as.length)
    (turn : ∀ i d, i < n → ∃ g : (Nat → Nat) → δ, Valid prog w kg { c := c, pre := as.zip (St i d), dep := dep, uni := uni, post := fun e => (.again c, St (i + 1) (g e), []) })
    (stop : ∀ d, ∃ g : (Nat → Nat) → (Nat → Nat), Valid prog w kg { c := c, pre := as.zip (St n d), dep := dep, uni := uni, post := fun e => (.res (r (g e)), Fi (g e), []) }) :
    ∀ i d, i ≤ n → Valid prog w kg { c := c, pre := as.zip (St i d), dep := dep, uni := uni, post := fun e => (.res (r e), Fi e, []) } := by
  have key : ∀ k i d, n - i = k → i ≤ n → Valid prog w kg { c := c, pre := as.zip (St i d), dep := dep, uni := uni, post := fun e => (.res (r e), Fi e, []) } := by
    intro k
    induction k with
    | zero =>
      intro i d h1 h2
      have e : i = n := by omega
      subst e
      obtain ⟨g, hg⟩ := stop d
      exact valid_as hg rfl rfl (Nat.le_refl _) (Nat.le_refl _) fun e => ⟨g e, rfl⟩
    | succ k ih =>
      intro i d h1 h2
      obtain ⟨g, hg⟩ := turn i d (by omega)
      refine valid_seq hg rfl rfl (Nat.le_refl _) (Nat.le_refl _) fun e => ⟨{ c := c, pre := as.zip (St (i + 1) (g e)), dep := dep, uni := uni, post := fun e => (.res (r e), Fi e, []) }, rfl, ?_, Nat.le_refl _, Nat.le_refl _, ih (i + 1) (g e) (by omega) (by omega), fun e' => ⟨e', rfl⟩⟩
      have : (as.zip (St i d)).map (·.1) = as := by rw [List.map_fst_zip]; rw [hl]; exact Nat.le_refl _
      show _ = ((as.zip (St i d)).map (·.1)).zip _
      rw [this]
  exact fun i d h => key _ i d rfl h
/-- a sum of ints -/
theorem v_sumL {st it l : Nat} {ys : List (Int × Nat)} {n : Nat} (hf : ∀ (i : Nat) (y : Int × Nat), ys[i]? = some y → -(2 ^ 63) ≤ y.1 ∧ y.1 < 2 ^ 63) (hs : ∀ i, -(2 ^ 63) ≤ sumTo ys i ∧ sumTo ys i < 2 ^ 63) (t : Nat) :
    VV w b1 b2 { c := sumCode st it, pre := [(st, lst [.int 0 t] 0), (it, liO l 0), (l, lst (ys.map iv) n)], dep := 1, uni := 20, post := fun e => (.res (.ok (.ret (.int (sumTo ys ys.length) (e 0)))), [lst [.int (sumTo ys ys.length) (e 0)] 0, liE ys.length, lst (ys.map iv) n], []) } := by
  have h := valid_loopE (prog := pw) (w := wf w b1 b2) (kg := kg (wf w b1 b2)) (c := sumCode st it) (as := [st, it, l]) (dep := 1) (uni := 20) ys.length (fun i (d : Nat) => [lst [.int (sumTo ys i) d] 0, liO l i, lst (ys.map iv) n])
    (fun e => (.ok (.ret (.int (sumTo ys ys.length) (e 0))))) (fun e => [lst [.int (sumTo ys ys.length) (e 0)] 0, liE ys.length, lst (ys.map iv) n]) (fun _ _ => rfl) (fun i d hi => ⟨fun e => e 0, ?_⟩) (fun d => ⟨fun _ _ => d, ?_⟩) 0 t (Nat.zero_le _)
  · exact h
  · have hy : ys[i]? = some ys[i] := List.getElem?_eq_getElem hi
    have hx : (ys.map iv)[i]? = some (.int (ys[i]).1 (ys[i]).2) := by rw [List.getElem?_map, hy]; rfl
    have := hs (i + 1)
    rw [sumTo_succ hy] at this ⊢
    exact v_sumT hx (hf i _ hy).1 (hf i _ hy).2 this.1 this.2
  · exact v_sumE (by simp)
noncomputable def cSum (l : Nat) (ys : List (Int × Nat)) (n : Nat) : Con :=
  { c := .call (.builtin "sum") ⟨[.ref l], []⟩, pre := [(l, lst (ys.map iv) n)], dep := 6, uni := 60, post := fun e => (.res (.ok (.ret (.int (sumTo ys ys.length) (e 0)))), [lst (ys.map iv) n], []) }
theorem v_sum {l : Nat} {ys : List (Int × Nat)} {n : Nat} (hf : ∀ (i : Nat) (y : Int × Nat), ys[i]? = some y → -(2 ^ 63) ≤ y.1 ∧ y.1 < 2 ^ 63) (hs : ∀ i, -(2 ^ 63) ≤ sumTo ys i ∧ sumTo ys i < 2 ^ 63) : VV w b1 b2 (cSum l ys n) := by
  have h1 : VV w b1 b2 { cSum l ys n with dep := 4, uni := 40, post := fun e => (.again (sumCode (e 0) (e 1)), [lst (ys.map iv) n], [(e 0, lst [.int 0 (e 2)] 0), (e 1, liO l 0)]) } := by
    refine vgo 100 (.seg (fun a0 t0 => [1, 1, 0, 1, 1]) fun a0 t0 => .fin true (fun i => match i with | 0 => a0 1 | 1 => a0 0 | _ => t0 0) 2 [0, 1]) ?_
    cases b2 <;> exact fun ρ => by kernel_rfl
  exact valid_then h1 rfl rfl (show 4 ≤ 6 by decide) (show 40 ≤ 60 by decide) fun e => ⟨_, rfl, rfl, show 1 ≤ 6 by decide, show 20 ≤ 60 by decide, v_sumL hf hs (e 2), fun e' => ⟨e', rfl⟩⟩
end Mine

open PySem PySem.W PySem.W.X PyProof.Rows
namespace Mine
variable {w : World} {b1 b2 : Bool}
/-- the comprehension's end -/
noncomputable def cPCE (it src dct cel acc L : Nat) (xs : List Value) (n i : Nat) : Con :=
  { c := prsCCode it acc dct cel L, pre := [(it, liO src i), (src, lst xs n)], dep := 20, uni := 300, post := fun e => (.res (.ok .next), [liE i, lst xs n], []) }
theorem v_PCE {it src dct cel acc L : Nat} {xs : List Value} {n i : Nat} (hx : xs[i]? = none) : VV w b1 b2 (cPCE it src dct cel acc L xs n i) := by
  refine vgo 100 (.seg (fun a0 t0 => [1, 1]) fun a0 t0 => .orc (cNxE it src xs n i) [0, 1] (v_nxE hx) fun e0 => .seg (fun a1 t1 => [1]) fun a1 t1 => .fin false (fun _ => 0) 2 []) ?_
  cases b2 <;> exact fun ρ => by kernel_rfl
def lastOf (ys : List (Array UInt8 × Nat)) (i d : Nat) : Option (Nat × Value) := match i with
  | 0 => none
  | j + 1 => match ys[j]? with
    | some y => some (d, bv y)
    | none => none
def accOf (ls ys : List (Array UInt8 × Nat)) (i : Nat) : List Value := ((ys.take i).filter fun y => foundIn ls y.1).map bv
theorem accOf_succ {ls ys : List (Array UInt8 × Nat)} {i : Nat} {y : Array UInt8 × Nat} (h : ys[i]? = some y) : accOf ls ys (i + 1) = accOf ls ys i ++ (if foundIn ls y.1 = true then [bv y] else []) := by
  unfold accOf
  rw [List.take_add_one, h]
  simp only [Option.toList_some, List.filter_append, List.map_append]
  by_cases hf : foundIn ls y.1 = true
  · simp [hf]
  · simp [hf]
theorem accOf_len (ls ys : List (Array UInt8 × Nat)) (i : Nat) : (accOf ls ys i).length ≤ ys.length := by
  unfold accOf
  rw [List.length_map]
  exact Nat.le_trans (List.length_filter_le _ _) (by rw [List.length_take]; omega)
noncomputable abbrev prsCS (P : Params) (src kp co : Nat) (ys : List (Array UInt8 × Nat)) (n : Nat) (ls : List (Array UInt8 × Nat)) (m : Nat) (q : Nat → Nat) (i d : Nat) : List Obj :=
  [liO src i, lst (ys.map bv) n, oneO P nearL (lastOf ys i d), cellO (.ref kp), tab1 co, lst (ls.map bv) m, lamC q, lst (accOf ls ys i) (accOf ls ys i).length]
theorem v_PCL {it src dct cel kp co acc L : Nat} {ys : List (Array UInt8 × Nat)} {n : Nat} {ls : List (Array UInt8 × Nat)} {m : Nat} {q : Nat → Nat} (hls : ls.length < 2 ^ 20) (hys : ys.length < 2 ^ 20) :
    ∀ i d, i ≤ ys.length → VV w b1 b2 { c := prsCCode it acc dct cel L, pre := [it, src, dct, cel, 115, kp, co, acc].zip (prsCS (wf w b1 b2).params src kp co ys n ls m q i d), dep := 20, uni := 300, post := fun e => (.res (.ok .next), liE ys.length :: (prsCS (wf w b1 b2).params src kp co ys n ls m q ys.length (e 0)).tail, []) } := by
  refine valid_loopE ys.length (fun i d => prsCS (wf w b1 b2).params src kp co ys n ls m q i d) (fun _ => .ok .next) (fun e => liE ys.length :: (prsCS (wf w b1 b2).params src kp co ys n ls m q ys.length (e 0)).tail) (fun _ _ => rfl) (fun i d hi => ?_) (fun d => ⟨fun _ _ => d, ?_⟩)
  · have hy : ys[i]? = some ys[i] := List.getElem?_eq_getElem hi
    have hx : (ys.map bv)[i]? = some (.bytes (ys[i]).1 (ys[i]).2) := by rw [List.getElem?_map, hy]; rfl
    refine ⟨fun e => midT (lastOf ys i d) (e 0), ?_⟩
    have h := v_PCT (w := w) (b1 := b1) (b2 := b2) (it := it) (dct := dct) (cel := cel) (co := co) (acc := acc) (L := L) (kp := kp) (m := m) (n := n) (src := src) (q := q) (mo := lastOf ys i d) (al := accOf ls ys i) (na := (accOf ls ys i).length) hx hls (Nat.lt_of_le_of_lt (accOf_len ls ys i) hys) rfl
    refine valid_as h rfl rfl (Nat.le_refl _) (Nat.le_refl _) fun e => ⟨e, ?_⟩
    have e1 : lastOf ys (i + 1) (midT (lastOf ys i d) (e 0)) = some (midT (lastOf ys i d) (e 0), .bytes (ys[i]).1 (ys[i]).2) := by
      show (match ys[i]? with | some y => some (_, bv y) | none => none) = _
      rw [hy]
    have e2 : lst (accOf ls ys (i + 1)) (accOf ls ys (i + 1)).length = (match foundIn ls (ys[i]).1 with | true => lst (accOf ls ys i ++ [.bytes (ys[i]).1 (ys[i]).2]) ((accOf ls ys i).length + 1) | false => lst (accOf ls ys i) (accOf ls ys i).length) := by
      rw [accOf_succ hy]
      cases foundIn ls (ys[i]).1 <;> simp
    show (_, [_, _, _, _, _, _, _, _], _) = (_, [_, _, _, _, _, _, _, _], _)
    rw [e1, e2]
    try rfl
  · have h := v_PCE (w := w) (b1 := b1) (b2 := b2) (it := it) (dct := dct) (cel := cel) (acc := acc) (L := L) (n := n) (src := src) (xs := ys.map bv) (i := ys.length) (by simp)
    exact valid_frame (ex := [dct, cel, 115, kp, co, acc].zip (prsCS (wf w b1 b2).params src kp co ys n ls m q ys.length d).tail.tail) h rfl rfl (Nat.le_refl _) (Nat.le_refl _) fun e => rfl
noncomputable def prsSCode (it acc dct cel L : Nat) : Code := .compStart prsComp.1 0 (.ref it) (.ref acc) (prsCEnv dct cel L)
def sSt : Bool → List Nat
  | true => []
  | false => [1, 1, 0, 1, 1]
theorem v_prsS {it src acc dct cel L : Nat} {i : Int} : VV w b1 b2 { c := prsSCode it acc dct cel L, pre := [(it, liO src i)], dep := 20, uni := 300, post := fun e => (.again (prsCCode it acc dct cel L), [liO src i], []) } := by
  refine vgo 100 (.seg (fun a0 t0 => sSt b1) fun a0 t0 => .fin true (fun _ => 0) 0 []) ?_
  cases b1 <;> cases b2 <;> exact fun ρ => by kernel_rfl
theorem accOf0 (ls ys : List (Array UInt8 × Nat)) : accOf ls ys 0 = [] := by simp [accOf]
noncomputable def cPCL (P : Params) (it src dct cel kp co acc L : Nat) (ys : List (Array UInt8 × Nat)) (n : Nat) (ls : List (Array UInt8 × Nat)) (m : Nat) (q : Nat → Nat) (i d : Nat) : Con :=
  { c := prsCCode it acc dct cel L, pre := [it, src, dct, cel, 115, kp, co, acc].zip (prsCS P src kp co ys n ls m q i d), dep := 20, uni := 300, post := fun e => (.res (.ok .next), liE ys.length :: (prsCS P src kp co ys n ls m q ys.length (e 0)).tail, []) }
/-- the comprehension, the lambda's code made before -/
noncomputable def cPC (P : Params) (it src dct cel kp co acc L : Nat) (ys : List (Array UInt8 × Nat)) (n : Nat) (ls : List (Array UInt8 × Nat)) (m : Nat) (q : Nat → Nat) (al : List Value) : Con :=
  { c := prsSCode it acc dct cel L, pre := [(it, liO src (0 : Nat)), (src, lst (ys.map bv) n), (dct, dicO [] 0), (cel, cellO (.ref kp)), (115, tab1 co), (kp, lst (ls.map bv) m), (co, lamC q), (acc, lst [] 0)], dep := 20, uni := 300,
    post := fun e => (.res (.ok .next), [liE ys.length, lst (ys.map bv) n, oneO P nearL (lastOf ys ys.length (e 0)), cellO (.ref kp), tab1 co, lst (ls.map bv) m, lamC q, lst al al.length], []) }
theorem v_PC {it src dct cel kp co acc L : Nat} {ys : List (Array UInt8 × Nat)} {n : Nat} {ls : List (Array UInt8 × Nat)} {m : Nat} {q : Nat → Nat} (hls : ls.length < 2 ^ 20) (hys : ys.length < 2 ^ 20) : VV w b1 b2 (cPC (wf w b1 b2).params it src dct cel kp co acc L ys n ls m q (accOf ls ys ys.length)) := by
  have h1 : VV w b1 b2 { c := prsSCode it acc dct cel L, pre := (cPC (wf w b1 b2).params it src dct cel kp co acc L ys n ls m q (accOf ls ys ys.length)).pre, dep := 20, uni := 300, post := fun e => (.again (prsCCode it acc dct cel L), (cPC (wf w b1 b2).params it src dct cel kp co acc L ys n ls m q (accOf ls ys ys.length)).pre.map (·.2), []) } :=
    valid_frame (ex := (cPC (wf w b1 b2).params it src dct cel kp co acc L ys n ls m q (accOf ls ys ys.length)).pre.tail) (v_prsS (src := src) (i := (0 : Nat))) rfl rfl (Nat.le_refl _) (Nat.le_refl _) fun e => rfl
  refine valid_then h1 rfl rfl (Nat.le_refl _) (Nat.le_refl _) fun e => ⟨cPCL (wf w b1 b2).params it src dct cel kp co acc L ys n ls m q 0 0, rfl, ?_, Nat.le_refl _, Nat.le_refl _, v_PCL hls hys 0 0 (Nat.zero_le _), fun e' => ⟨e', rfl⟩⟩
  show [_, _, _, _, _, _, _, (acc, lst (accOf ls ys 0) (accOf ls ys 0).length)] = [_, _, _, _, _, _, _, (acc, lst [] 0)]
  rw [accOf0]
  rfl
/-- its first turn for the first letter: the lambda's code is made -/
noncomputable def cPCT0 (P : Params) (it src dct cel kp acc L : Nat) (xs : List Value) (n : Nat) (m : Nat) (y : Array UInt8) (ty : Nat) : Con :=
  { c := prsCCode it acc dct cel L, pre := [(it, liO src (0 : Nat)), (src, lst xs n), (dct, dicO [] 0), (cel, cellO (.ref kp)), (115, tabO []), (kp, lst [] m), (acc, lst [] 0)], dep := 20, uni := 300,
    post := fun e => (.again (prsCCode it acc dct cel L), [liO src ((0 + 1 : Nat) : Int), lst xs n, oneO P nearL (some (e 0, .bytes y ty)), cellO (.ref kp), tab1 (e 1), lst [] m, lst [] 0], [(e 1, lamC (fun i => e (i + 2)))]) }
theorem v_PCT0 {it src dct cel kp acc L : Nat} {xs : List Value} {n : Nat} {m : Nat} {y : Array UInt8} {ty : Nat}
    (hx : xs[0]? = some (.bytes y ty)) : VV w b1 b2 (cPCT0 (wf w b1 b2).params it src dct cel kp acc L xs n m y ty) := by
  have h1 : VV w b1 b2 (cNx it src xs n 0 (.bytes y ty)) := v_nx hx
  refine vgo 200 (.seg (fun a0 t0 => [1, 1]) fun a0 t0 =>
    .orc (cNx it src xs n 0 (.bytes y ty)) [0, 1] h1 fun e0 =>
    .seg (fun a1 t1 => [3, 2, 0, 4, 3, 0, 1]) fun a1 t1 =>
    .orc (cHolds0 kp m y ty) [4, 5] v_holds0 fun e1 =>
    .seg (fun a2 t2 => []) fun a2 t2 => .fin true (fun i => match i with | 0 => t1 0 | j + 1 => e1 j) 1 [0]) ?_
  cases b2 <;> exact fun ρ => by kernel_rfl
noncomputable def cPC0 (P : Params) (it src dct cel kp acc L : Nat) (ys : List (Array UInt8 × Nat)) (n : Nat) (m : Nat) (al : List Value) : Con :=
  { c := prsSCode it acc dct cel L, pre := [(it, liO src (0 : Nat)), (src, lst (ys.map bv) n), (dct, dicO [] 0), (cel, cellO (.ref kp)), (115, tabO []), (kp, lst [] m), (acc, lst [] 0)], dep := 20, uni := 300,
    post := fun e => (.res (.ok .next), [liE ys.length, lst (ys.map bv) n, oneO P nearL (lastOf ys ys.length (e 0)), cellO (.ref kp), tab1 (e 1), lst [] m, lst al al.length], [(e 1, lamC (fun i => e (i + 2)))]) }
theorem zip_map_self : ∀ l : List (Addr × Obj), (l.map (·.1)).zip (l.map (·.2)) = l := zip_self
/-- a contract used where more is held, in another order -/
theorem valid_use {prog : Program} {w : World} {kg : Nat → Option Obj} {con con1 : Con} (h1 : Valid prog w kg con1) (hc : con.c = con1.c) (idx : List Nat) (hi : idx.Nodup) (he : idx.map (nth con.pre) = con1.pre.map some) (hd : con1.dep ≤ con.dep) (hu : con1.uni ≤ con.uni)
    (h2 : ∀ e, ∃ e', con.post e' = ((con1.post e).1, (puts idx (con1.post e).2.1 con.pre).map (·.2), (con1.post e).2.2)) : Valid prog w kg con := by
  intro A s R hA hD hU hg hpre hnd HR
  have hm : ∀ q ∈ con1.pre, q ∈ con.pre := fun q hq => by
    have : some q ∈ idx.map (nth con.pre) := by rw [he]; exact List.mem_map_of_mem hq
    obtain ⟨i, _, e⟩ := List.mem_map.mp this
    rw [nth_eq] at e
    exact List.mem_of_getElem? e
  rw [hc]
  refine h1 A s R hA (by omega) (by omega) hg (fun p hp => hpre p (hm p hp)) (nd_of_idx hnd idx _ hi he) fun e s' O => ?_
  obtain ⟨e', z⟩ := h2 e
  have := HR e' s' (by
    rw [z]
    refine ⟨O.gens, O.drawn, O.os, O.toks, O.size, fun b o eb q => O.keep b o eb fun h => ?_, by rw [List.length_map]; have := congrArg List.length (puts_map idx (con1.post e).2.1 con.pre); simpa using this, fun p hp => ?_, O.made, O.nnd⟩
    · obtain ⟨q', hq', rfl⟩ := List.mem_map.mp h
      exact q (List.mem_map_of_mem (hm q' hq'))
    · rw [← puts_map idx (con1.post e).2.1 con.pre, zip_self] at hp
      rcases puts_mem idx (con1.post e).2.1 con.pre con1.pre hnd hi he O.len p hp with h | h
      · exact O.at_ p h
      · exact O.keep _ _ (hpre p h.1).1 h.2)
  rw [z] at this
  exact this
theorem Out.thenN {s s1 s2 : Shared} {pre pre2 : List (Addr × Obj)} {o1 o2 : List Obj} {n1 n2 : List (Addr × Obj)} (O1 : Out s s1 pre o1 n1) (e2 : pre2 = n1 ++ (pre.map (·.1)).zip o1) (O2 : Out s1 s2 pre2 o2 n2) (hg : ∀ p ∈ n1, p.1 < s1.heap.objs.size) :
    Out s s2 pre (o2.drop n1.length) ((n1.map (·.1)).zip (o2.take n1.length) ++ n2) := by
  have O := O1.then e2 O2
  have em : pre2.map (·.1) = n1.map (·.1) ++ pre.map (·.1) := by rw [e2, List.map_append, map_zip O1.len]
  have hl : o2.length = n1.length + pre.length := by
    have := congrArg List.length em
    rw [O2.len]; simpa using this
  have hk : ((n1.map (·.1)).zip (o2.take n1.length)).map (·.1) = n1.map (·.1) := by
    rw [List.map_fst_zip]
    simp [hl]
  refine ⟨O.gens, O.drawn, O.os, O.toks, O.size, O.keep, O.len, O.at_, fun p hp => ?_, ?_⟩
  · rcases List.mem_append.mp hp with hp | hp
    · refine ⟨O2.at_ p ?_, ?_⟩
      · rw [em, ← List.take_append_drop n1.length o2, zip_append' (by simp [hl])]
        exact List.mem_append_left _ hp
      · have : p.1 ∈ n1.map (·.1) := (List.of_mem_zip hp).1
        obtain ⟨q, hq, e⟩ := List.mem_map.mp this
        have e : q.1 = p.1 := e
        rw [← e]; exact (O1.made q hq).2
    · exact O.made p hp
  · rw [List.map_append, hk, List.nodup_append]
    refine ⟨O1.nnd, O.nnd, fun a ha b hb e => ?_⟩
    subst e
    obtain ⟨p, hp, rfl⟩ := List.mem_map.mp ha
    obtain ⟨q, hq, e⟩ := List.mem_map.mp hb
    have e : q.1 = p.1 := e
    have h1 := hg p hp
    have h2 := (O2.made q hq).2
    rw [e] at h2
    exact absurd (Nat.lt_of_lt_of_le h1 h2) (Nat.lt_irrefl _)
/-- the same, what the first has made told on -/
theorem valid_thenN {prog : Program} {w : World} {kg : Nat → Option Obj} {con con1 : Con} (h1 : Valid prog w kg con1) (hc : con.c = con1.c) (hp : con.pre = con1.pre) (hd : con1.dep ≤ con.dep) (hu : con1.uni ≤ con.uni)
    (h2 : ∀ e, ∃ con2 : Con, (con1.post e).1 = .again con2.c ∧ con2.pre = (con1.post e).2.2 ++ (con1.pre.map (·.1)).zip (con1.post e).2.1 ∧ con2.dep ≤ con.dep ∧ con2.uni ≤ con.uni ∧ Valid prog w kg con2 ∧
      ∀ e', ∃ e'', con.post e'' = ((con2.post e').1, (con2.post e').2.1.drop (con1.post e).2.2.length, ((con1.post e).2.2.map (·.1)).zip ((con2.post e').2.1.take (con1.post e).2.2.length) ++ (con2.post e').2.2)) : Valid prog w kg con := by
  intro A s R hA hD hU hg hpre hnd HR
  rw [hp] at hpre hnd
  rw [hc]
  refine h1 A s R hA (by omega) (by omega) hg hpre hnd fun e s' O => ?_
  obtain ⟨con2, k1, k3, k4, k5, k6, k7⟩ := h2 e
  rw [k1]
  show codeAny (model prog w) A con2.c R s'
  have em : con2.pre.map (·.1) = (con1.post e).2.2.map (·.1) ++ con1.pre.map (·.1) := by rw [k3, List.map_append, map_zip O.len]
  have hg' := kin_out O hg hpre
  refine k6 A s' R hA (by omega) (by omega) hg' (fun p hq => ?_) ?_ fun e' s'' O' => ?_
  · rw [k3] at hq
    rcases List.mem_append.mp hq with hq | hq
    · exact ⟨(O.made p hq).1, kg_none hg.1 (O.made p hq).2⟩
    · refine ⟨O.at_ p hq, ?_⟩
      have : p.1 ∈ con1.pre.map (·.1) := (List.of_mem_zip hq).1
      obtain ⟨q, hq', e⟩ := List.mem_map.mp this
      have e : q.1 = p.1 := e
      rw [← e]; exact (hpre q hq').2
  · rw [em, List.nodup_append]
    refine ⟨O.nnd, hnd, fun a ha b hb e => ?_⟩
    subst e
    obtain ⟨p, hp, rfl⟩ := List.mem_map.mp ha
    obtain ⟨q, hq, e⟩ := List.mem_map.mp hb
    have e : q.1 = p.1 := e
    have h1 := Heap.lt_size (hpre q hq).1
    rw [e] at h1
    exact absurd h1 (Nat.not_lt.mpr (O.made p hp).2)
  · obtain ⟨e'', z⟩ := k7 e'
    have := HR e'' s'' (by rw [z, hp]; exact O.thenN k3 O' fun p hp => Heap.lt_size (O.made p hp).1)
    rw [z] at this
    exact this
noncomputable def cPC0L (P : Params) (it src dct cel kp acc L : Nat) (ys : List (Array UInt8 × Nat)) (n : Nat) (m : Nat) (al : List Value) : Con :=
  { cPC0 P it src dct cel kp acc L ys n m al with c := prsCCode it acc dct cel L }
theorem v_PC0 {it src dct cel kp acc L : Nat} {ys : List (Array UInt8 × Nat)} {y : Array UInt8 × Nat} {n m : Nat} (hys : (y :: ys).length < 2 ^ 20) : VV w b1 b2 (cPC0 (wf w b1 b2).params it src dct cel kp acc L (y :: ys) n m (accOf [] (y :: ys) (y :: ys).length)) := by
  have h0 : VV w b1 b2 (cPCT0 (wf w b1 b2).params it src dct cel kp acc L ((y :: ys).map bv) n m y.1 y.2) := v_PCT0 rfl
  have hz : accOf [] (y :: ys) 1 = [] := by
    have : accOf [] (y :: ys) (0 + 1) = _ := accOf_succ (ls := []) (ys := y :: ys) (i := 0) (y := y) rfl
    rw [this, accOf0]
    rfl
  have hl : VV w b1 b2 (cPC0L (wf w b1 b2).params it src dct cel kp acc L (y :: ys) n m (accOf [] (y :: ys) (y :: ys).length)) := by
    refine valid_thenN h0 rfl rfl (Nat.le_refl _) (Nat.le_refl _) fun e => ⟨{ c := prsCCode it acc dct cel L, pre := (e 1, lamC (fun i => e (i + 2))) :: [(it, liO src ((0 + 1 : Nat) : Int)), (src, lst ((y :: ys).map bv) n), (dct, oneO (wf w b1 b2).params nearL (some (e 0, .bytes y.1 y.2))), (cel, cellO (.ref kp)), (115, tab1 (e 1)), (kp, lst [] m), (acc, lst [] 0)], dep := 20, uni := 300, post := fun e' => (.res (.ok .next), lamC (fun i => e (i + 2)) :: [liE ((y :: ys).length : Nat), lst ((y :: ys).map bv) n, oneO (wf w b1 b2).params nearL (lastOf (y :: ys) (y :: ys).length (e' 0)), cellO (.ref kp), tab1 (e 1), lst [] m, lst (accOf [] (y :: ys) (y :: ys).length) (accOf [] (y :: ys) (y :: ys).length).length], []) }, rfl, rfl, Nat.le_refl _, Nat.le_refl _, ?_, fun e' => ⟨fun i => match i with | 0 => e' 0 | j + 1 => e (j + 1), rfl⟩⟩
    refine valid_use (con1 := cPCL (wf w b1 b2).params it src dct cel kp (e 1) acc L (y :: ys) n [] m (fun i => e (i + 2)) 1 (e 0)) (v_PCL (by simp) hys 1 (e 0) (by simp)) rfl [1, 2, 3, 4, 5, 6, 0, 7] (by decide) ?_ (Nat.le_refl _) (Nat.le_refl _) fun e' => ⟨e', rfl⟩
    show [_, _, _, _, _, _, _, some (acc, lst [] 0)] = [_, _, _, _, _, _, _, some (acc, lst (accOf [] (y :: ys) 1) (accOf [] (y :: ys) 1).length)]
    rw [hz]
    rfl
  have h1 : VV w b1 b2 { c := prsSCode it acc dct cel L, pre := (cPC0 (wf w b1 b2).params it src dct cel kp acc L (y :: ys) n m (accOf [] (y :: ys) (y :: ys).length)).pre, dep := 20, uni := 300, post := fun e => (.again (prsCCode it acc dct cel L), (cPC0 (wf w b1 b2).params it src dct cel kp acc L (y :: ys) n m (accOf [] (y :: ys) (y :: ys).length)).pre.map (·.2), []) } :=
    valid_frame (ex := (cPC0 (wf w b1 b2).params it src dct cel kp acc L (y :: ys) n m (accOf [] (y :: ys) (y :: ys).length)).pre.tail) (v_prsS (src := src) (i := (0 : Nat))) rfl rfl (Nat.le_refl _) (Nat.le_refl _) fun e => rfl
  exact valid_then h1 rfl rfl (Nat.le_refl _) (Nat.le_refl _) fun e => ⟨cPC0L (wf w b1 b2).params it src dct cel kp acc L (y :: ys) n m (accOf [] (y :: ys) (y :: ys).length), rfl, rfl, Nat.le_refl _, Nat.le_refl _, hl, fun e' => ⟨e', rfl⟩⟩
end Mine

open PySem PySem.W PySem.W.X PyProof.Rows
namespace Mine
variable {w : World} {b1 b2 : Bool}
structure PM where
  (tl : Nat) (vl : Value) (tm : Nat) (vm : Value)
noncomputable def prsFr (P : Params) (t1 t2 src cn : Nat) : Option PM → Obj
  | none => frm [en1 P [108, 101, 116, 116, 101, 114, 115] t1 (.ref src), en1 P [99, 111, 117, 110, 116, 115] t2 (.ref cn)] 2
  | some m => frm [en1 P [108, 101, 116, 116, 101, 114, 115] t1 (.ref src), en1 P [99, 111, 117, 110, 116, 115] t2 (.ref cn), en1 P [108, 101, 116, 116, 101, 114] m.tl m.vl, en1 P [109, 101, 116] m.tm m.vm] 4
def tlOf (mo : Option PM) (t : Nat) : Nat := match mo with | none => t | some m => m.tl
def tmOf (mo : Option PM) (t : Nat) : Nat := match mo with | none => t | some m => m.tm
noncomputable def prsEnv (L cel : Nat) : Env := { scope := (fdAt 19).2.2, locals := L, globals := 3, cells := [(⟨⟨[107, 101, 112, 116]⟩⟩, cel)], qual := ⟨⟨[95, 108, 97, 119, 95, 112, 97, 105, 114, 115, 46, 60, 108, 111, 99, 97, 108, 115, 62, 46]⟩⟩, func := some 125, code := .ref 124, frame := some L, builtins := 0 }
noncomputable def prsFCode (it L cel : Nat) : Code := .forLoop prsFor.1 (.ref it) prsFor.2.2 [] (prsEnv L cel)
theorem slice_fm (l : List Value) (a : Nat) : ∀ m, a + m ≤ l.length → (List.range m).filterMap (fun k => l[a + k]?) = (l.drop a).take m
  | 0, _ => by simp
  | m + 1, h => by
    have hi : a + m < l.length := by omega
    rw [List.range_succ, List.filterMap_append, slice_fm l a m (by omega), List.take_add_one, List.getElem?_drop]
    congr 1
theorem slice_of {l : List Value} {lo hi : Option Int} {a b : Nat} (hb : sliceBounds lo hi none l.length = ((a : Int), (b : Int), 1)) (hl : b ≤ l.length) : slicePick ⟨l⟩ lo hi none = ⟨(l.drop a).take (b - a)⟩ := by
  have hs : (Array.mk l).size = l.length := rfl
  unfold slicePick
  rw [hs, hb]
  dsimp only
  rw [sliceRange_one]
  apply Array.ext'
  show List.filterMap (fun k : Nat => (Array.mk l)[k]?) ((List.range (b - a)).map (a + ·)) = List.take (b - a) (List.drop a l)
  rw [List.filterMap_map]
  by_cases h : a ≤ b
  · rw [← slice_fm l a (b - a) (by omega)]
    refine congrArg (fun f => List.filterMap f (List.range (b - a))) (funext fun k => ?_)
    simp
  · have : b - a = 0 := by omega
    rw [this]; simp
/-- a slice of the last item -/
theorem slicelast (l : List Value) : slicePick ⟨l⟩ (some (-1)) none none = ⟨l.drop (l.length - 1)⟩ := by
  have hb : sliceBounds (some (-1)) none none l.length = (((l.length - 1 : Nat) : Int), (l.length : Int), 1) := by
    unfold sliceBounds
    simp only [Option.getD_none]
    simp only [show (1 : Int) > 0 by decide, if_true, show (-1 : Int) < 0 by decide]
    refine Prod.ext ?_ rfl
    show max 0 _ = _
    omega
  rw [slice_of hb (Nat.le_refl _), List.take_of_length_le (by simp)]
/-- a slice of the first items -/
theorem sliceto (l : List Value) (k : Nat) (hk : k ≤ l.length) : slicePick ⟨l⟩ none (some (k : Int)) none = ⟨l.take k⟩ := by
  have hb : sliceBounds none (some (k : Int)) none l.length = (((0 : Nat) : Int), (k : Int), 1) := by
    unfold sliceBounds
    simp only [Option.getD_none]
    have h2 : ¬ ((k : Int) < 0) := by omega
    simp only [h2, if_false, show (1 : Int) > 0 by decide, if_true]
    refine Prod.ext rfl (Prod.ext ?_ rfl)
    show max 0 (min (k : Int) l.length) = k
    omega
  rw [slice_of hb hk]
  simp
def metOf (ls : List (Array UInt8 × Nat)) (ns : List (Array UInt8)) : Nat := (ns.filter fun y => foundIn ls y).length
theorem acc_met (ls ys : List (Array UInt8 × Nat)) : (accOf ls ys ys.length).length = metOf ls (ys.map (·.1)) := by
  unfold accOf metOf
  rw [List.length_map, List.take_length]
  induction ys with
  | nil => rfl
  | cons y ys ih =>
    rw [List.map_cons, List.filter_cons, List.filter_cons]
    by_cases h : foundIn ls y.1 = true <;> simp [h, ih]
noncomputable def cLenK (a : Nat) (l : List Value) (n k : Nat) : Con := { c := .call (.builtin "len") ⟨[.ref a], []⟩, pre := [(a, lst l n)], dep := 0, uni := 8, post := fun e => (.res (.ok (.ret (.int k (e 0)))), [lst l n], []) }
theorem v_lenK {a : Nat} {l : List Value} {n k : Nat} (hlen : l.length < 2 ^ 20) (hk : l.length = k) : VV w b1 b2 (cLenK a l n k) := by
  subst hk
  exact v_len hlen
noncomputable def cSumV (l : Nat) (xs : List Value) (n : Nat) (s : Int) : Con :=
  { c := .call (.builtin "sum") ⟨[.ref l], []⟩, pre := [(l, lst xs n)], dep := 6, uni := 60, post := fun e => (.res (.ok (.ret (.int s (e 0)))), [lst xs n], []) }
theorem v_sumV {l : Nat} {ys : List (Int × Nat)} {n : Nat} (hf : ∀ (i : Nat) (y : Int × Nat), ys[i]? = some y → -(2 ^ 63) ≤ y.1 ∧ y.1 < 2 ^ 63) (hs : ∀ i, -(2 ^ 63) ≤ sumTo ys i ∧ sumTo ys i < 2 ^ 63) : VV w b1 b2 (cSumV l (ys.map iv) n (sumTo ys ys.length)) := v_sum hf hs
abbrev last1 (cs : List (Int × Nat)) : List (Int × Nat) := cs.drop (cs.length - 1)
abbrev last1S (cs : List (Int × Nat)) : Int := sumTo (last1 cs) (last1 cs).length
structure Ns where
  (n0 n1 n2 n3 : Array UInt8)
abbrev Ns.l (N : Ns) : List (Array UInt8) := [N.n0, N.n1, N.n2, N.n3]
abbrev Ns.at (N : Ns) (e : Nat → Nat) : List (Array UInt8 × Nat) := [(N.n0, e 1), (N.n1, e 2), (N.n2, e 3), (N.n3, e 4)]
noncomputable def cPrT (P : Params) (it src L cel kp co cn : Nat) (ys : List Value) (n i : Nat) (t1 t2 : Nat) (mo : Option PM) (ls ls' : List (Array UInt8 × Nat)) (m : Nat) (q : Nat → Nat) (cs : List (Int × Nat)) (nc : Nat) (y : Array UInt8) (ty met : Nat) (s : Int) : Con :=
  { c := prsFCode it L cel, pre := [(it, liO src i), (src, lst ys n), (L, prsFr P t1 t2 src cn mo), (cel, cellO (.ref kp)), (115, tab1 co), (kp, lst (ls.map bv) m), (co, lamC q), (cn, lst (cs.map iv) nc)], dep := 40, uni := 600,
    post := fun e => (.again (prsFCode it L cel), [liO src ((i + 1 : Nat) : Int), lst ys n, prsFr P t1 t2 src cn (some ⟨tlOf mo (e 0), .bytes y ty, tmOf mo (e 1), .int met (e 2)⟩), cellO (.ref kp), tab1 co, lst (ls'.map bv) (m + 1), lamC q, lst (cs.map iv ++ [.int (s + met) (e 3)]) (nc + 1)], []) }
theorem v_PrT {it src L cel kp co cn : Nat} {ys : List Value} {n i t1 t2 : Nat} {mo : Option PM} {ls : List (Array UInt8 × Nat)} {m : Nat} {q : Nat → Nat} {cs : List (Int × Nat)} {nc : Nat} {y : Array UInt8} {ty : Nat} {N : Ns}
    (hx : ys[i]? = some (.bytes y ty)) (hls : ls.length < 2 ^ 20) (hcs : cs.length < 2 ^ 20) (hN : ∀ t, VV w b1 b2 (cTurned y t N.n0 N.n1 N.n2 N.n3))
    (hf : ∀ (i : Nat) (y : Int × Nat), (last1 cs)[i]? = some y → -(2 ^ 63) ≤ y.1 ∧ y.1 < 2 ^ 63) (hs : ∀ i, -(2 ^ 63) ≤ sumTo (last1 cs) i ∧ sumTo (last1 cs) i < 2 ^ 63) :
    VV w b1 b2 (cPrT (wf w b1 b2).params it src L cel kp co cn ys n i t1 t2 mo ls (insL ls y ty) m q cs nc y ty (metOf ls N.l) (last1S cs)) := by
  have k1 : VV w b1 b2 (cNx it src ys n i (.bytes y ty)) := v_nx hx
  have k2 : ∀ it src dct acc (e : Nat → Nat), VV w b1 b2 (cPC (wf w b1 b2).params it src dct cel kp co acc L (N.at e) 4 ls m q (accOf ls (N.at e) 4)) := fun it src dct acc e => v_PC (ys := N.at e) hls (by simp)
  have k3 : ∀ acc (e : Nat → Nat), VV w b1 b2 (cLenK acc (accOf ls (N.at e) 4) (accOf ls (N.at e) 4).length (metOf ls N.l)) := fun acc e => v_lenK (Nat.lt_of_le_of_lt (accOf_len ls (N.at e) 4) (by simp)) (acc_met ls (N.at e))
  have k4 : VV w b1 b2 (cInsort kp ls (insL ls y ty) m y ty) := v_insort hls
  have k5 : ∀ sl t, VV w b1 b2 (cSl cn (cs.map iv) nc sl (.int (-1) t) .none ((last1 cs).map iv)) := fun sl t => v_sl (.int _ _) .none (by simpa using hcs) (by rw [slicelast, List.map_drop, List.length_map])
  have k6 : ∀ a, VV w b1 b2 (cSumV a ((last1 cs).map iv) 0 (last1S cs)) := fun a => v_sumV hf hs
  have k7 : ∀ t, VV w b1 b2 (cApp cn (cs.map iv) nc (.int (last1S cs + (metOf ls N.l : Nat)) t)) := fun t => v_app (by simpa using hcs)
  have hN := hN ty
  generalize last1S cs = s at k6 k7 ⊢
  generalize metOf ls N.l = met at k3 k7 ⊢
  generalize insL ls y ty = ls' at k4 ⊢
  generalize (last1 cs).map iv = lv at k5 k6 ⊢
  refine vgo 600 (.seg (fun a0 t0 => [1, 1]) fun a0 t0 =>
    .orc (cNx it src ys n i (.bytes y ty)) [0, 1] k1 fun e0 =>
    .seg (fun a1 t1 => [3, 2, 0, 0, 0, 3, 0, 1]) fun a1 t1 =>
    .orc (cTurned y ty N.n0 N.n1 N.n2 N.n3) [] hN fun e1 =>
    .seg (fun a2 t2 => [1, 1, 0, 1, 1, 1]) fun a2 t2 =>
    .orc (cPC (wf w b1 b2).params (a2 0) (e1 0) (a2 2) cel kp co (a2 1) L (N.at e1) 4 ls m q (accOf ls (N.at e1) 4)) [2, 3, 0, 7, 8, 9, 10, 1] (k2 _ _ _ _ _) fun e2 =>
    .seg (fun a3 t3 => [1, 1, 0, 1]) fun a3 t3 =>
    .orc (cLenK (a2 1) (accOf ls (N.at e1) 4) (accOf ls (N.at e1) 4).length met) [1] (k3 _ _) fun e3 =>
    .seg (fun a4 t4 => [7, 6, 0, 8, 7, 0, 0, 1]) fun a4 t4 =>
    .orc (cInsort kp ls ls' m y ty) [9] k4 fun e4 =>
    .seg (fun a5 t5 => [7, 12, 12, 12, 12, 0, 0, 7, 0, 13, 13, 13, 1]) fun a5 t5 =>
    .orc (cSl cn (cs.map iv) nc (a5 0) (.int (-1) (t5 1)) .none lv) [12, 0] (k5 _ _) fun e5 =>
    .seg (fun a6 t6 => [1]) fun a6 t6 =>
    .orc (cSumV (e5 0) lv 0 s) [0] (k6 (e5 0)) fun e6 =>
    .seg (fun a7 t7 => [9, 0, 1]) fun a7 t7 =>
    .orc (cApp cn (cs.map iv) nc (.int (s + (met : Nat)) (t7 0))) [13] (k7 _) fun e7 =>
    .seg (fun a8 t8 => []) fun a8 t8 =>
    .fin true (fun i => match i with | 0 => t1 0 | 1 => t4 0 | 2 => e3 0 | _ => t7 0) 6 []) ?_
  cases b2 <;> cases mo <;> exact fun ρ => by kernel_rfl
/-- the first turn: the lambda's code is made -/
noncomputable def cPrT0 (P : Params) (it src L cel kp cn : Nat) (ys : List Value) (n : Nat) (t1 t2 : Nat) (ls' : List (Array UInt8 × Nat)) (m : Nat) (nc : Nat) (y : Array UInt8) (ty met : Nat) (s : Int) : Con :=
  { c := prsFCode it L cel, pre := [(it, liO src (0 : Nat)), (src, lst ys n), (L, prsFr P t1 t2 src cn none), (cel, cellO (.ref kp)), (115, tabO []), (kp, lst [] m), (cn, lst [] nc)], dep := 40, uni := 600,
    post := fun e => (.again (prsFCode it L cel), [liO src ((0 + 1 : Nat) : Int), lst ys n, prsFr P t1 t2 src cn (some ⟨e 0, .bytes y ty, e 1, .int met (e 2)⟩), cellO (.ref kp), tab1 (e 4), lst (ls'.map bv) (m + 1), lst [.int (s + met) (e 3)] (nc + 1)], [(e 4, lamC (fun i => e (i + 5)))]) }
theorem v_PrT0 {it src L cel kp cn : Nat} {ys : List Value} {n t1 t2 : Nat} {m : Nat} {nc : Nat} {y : Array UInt8} {ty : Nat} {N : Ns}
    (hx : ys[0]? = some (.bytes y ty)) (hN : ∀ t, VV w b1 b2 (cTurned y t N.n0 N.n1 N.n2 N.n3)) :
    VV w b1 b2 (cPrT0 (wf w b1 b2).params it src L cel kp cn ys n t1 t2 (insL [] y ty) m nc y ty (metOf [] N.l) 0) := by
  have k1 : VV w b1 b2 (cNx it src ys n 0 (.bytes y ty)) := v_nx hx
  have k2 : ∀ it src dct acc (e : Nat → Nat), VV w b1 b2 (cPC0 (wf w b1 b2).params it src dct cel kp acc L (N.at e) 4 m (accOf [] (N.at e) 4)) := fun it src dct acc e => v_PC0 (y := (N.n0, e 1)) (ys := [(N.n1, e 2), (N.n2, e 3), (N.n3, e 4)]) (by simp)
  have k3 : ∀ acc (e : Nat → Nat), VV w b1 b2 (cLenK acc (accOf [] (N.at e) 4) (accOf [] (N.at e) 4).length (metOf [] N.l)) := fun acc e => v_lenK (Nat.lt_of_le_of_lt (accOf_len [] (N.at e) 4) (by simp)) (acc_met [] (N.at e))
  have k4 : VV w b1 b2 (cInsort kp [] (insL [] y ty) m y ty) := v_insort (by simp)
  have k5 : ∀ sl t, VV w b1 b2 (cSl cn [] nc sl (.int (-1) t) .none []) := fun sl t => v_sl (.int _ _) .none (by simp) (by rw [slicelast]; rfl)
  have k6 : ∀ a, VV w b1 b2 (cSumV a [] 0 0) := fun a => v_sumV (ys := []) (fun i y h => by simp at h) (fun i => by simp [sumTo])
  have k7 : ∀ t, VV w b1 b2 (cApp cn [] nc (.int (0 + (metOf [] N.l : Nat)) t)) := fun t => v_app (by simp)
  have hN := hN ty
  generalize metOf [] N.l = met at k3 k7 ⊢
  generalize insL [] y ty = ls' at k4 ⊢
  refine vgo 600 (.seg (fun a0 t0 => [1, 1]) fun a0 t0 =>
    .orc (cNx it src ys n 0 (.bytes y ty)) [0, 1] k1 fun e0 =>
    .seg (fun a1 t1 => [3, 2, 0, 0, 0, 3, 0, 1]) fun a1 t1 =>
    .orc (cTurned y ty N.n0 N.n1 N.n2 N.n3) [] hN fun e1 =>
    .seg (fun a2 t2 => [1, 1, 0, 1, 1, 1]) fun a2 t2 =>
    .orc (cPC0 (wf w b1 b2).params (a2 0) (e1 0) (a2 2) cel kp (a2 1) L (N.at e1) 4 m (accOf [] (N.at e1) 4)) [2, 3, 0, 7, 8, 9, 1] (k2 _ _ _ _ _) fun e2 =>
    .seg (fun a3 t3 => [2, 2, 1, 1]) fun a3 t3 =>
    .orc (cLenK (a2 1) (accOf [] (N.at e1) 4) (accOf [] (N.at e1) 4).length met) [2] (k3 _ _) fun e3 =>
    .seg (fun a4 t4 => [8, 7, 0, 9, 8, 0, 0, 1]) fun a4 t4 =>
    .orc (cInsort kp [] ls' m y ty) [10] k4 fun e4 =>
    .seg (fun a5 t5 => [8, 12, 12, 12, 12, 0, 0, 8, 0, 13, 13, 13, 1]) fun a5 t5 =>
    .orc (cSl cn [] nc (a5 0) (.int (-1) (t5 1)) .none []) [12, 0] (k5 _ _) fun e5 =>
    .seg (fun a6 t6 => [1]) fun a6 t6 =>
    .orc (cSumV (e5 0) [] 0 0) [0] (k6 (e5 0)) fun e6 =>
    .seg (fun a7 t7 => [10, 0, 1]) fun a7 t7 =>
    .orc (cApp cn [] nc (.int (0 + (met : Nat)) (t7 0))) [13] (k7 _) fun e7 =>
    .seg (fun a8 t8 => []) fun a8 t8 =>
    .fin true (fun i => match i with | 0 => t1 0 | 1 => t4 0 | 2 => e3 0 | 3 => t7 0 | j + 4 => e2 (j + 1)) 7 [2]) ?_
  cases b2 <;> exact fun ρ => by kernel_rfl
end Mine

open PySem PySem.W PySem.W.X PyProof.Rows
namespace Mine
/-- a loop by turns, with what holds between them -/
theorem valid_loopP {prog : Program} {w : World} {kg : Nat → Option Obj} {δ : Type} {c : Code} {as : List Addr} {dep uni : Nat} (n : Nat) (P : Nat → δ → Prop) (St : Nat → δ → List Obj) (r : (Nat → Nat) → Result) (Fi : (Nat → Nat) → List Obj) (hl : ∀ i d, (St i d).length = as.length)
    (turn : ∀ i d, i < n → P i d → ∃ g : (Nat → Nat) → δ, (∀ e, P (i + 1) (g e)) ∧ Valid prog w kg { c := c, pre := as.zip (St i d), dep := dep, uni := uni, post := fun e => (.again c, St (i + 1) (g e), []) })
    (stop : ∀ d, P n d → ∃ g : (Nat → Nat) → (Nat → Nat), Valid prog w kg { c := c, pre := as.zip (St n d), dep := dep, uni := uni, post := fun e => (.res (r (g e)), Fi (g e), []) }) :
    ∀ i d, i ≤ n → P i d → Valid prog w kg { c := c, pre := as.zip (St i d), dep := dep, uni := uni, post := fun e => (.res (r e), Fi e, []) } := by
  have key : ∀ k i d, n - i = k → i ≤ n → P i d → Valid prog w kg { c := c, pre := as.zip (St i d), dep := dep, uni := uni, post := fun e => (.res (r e), Fi e, []) } := by
    intro k
    induction k with
    | zero =>
      intro i d h1 h2 hp
      have e : i = n := by omega
      subst e
      obtain ⟨g, hg⟩ := stop d hp
      exact valid_as hg rfl rfl (Nat.le_refl _) (Nat.le_refl _) fun e => ⟨g e, rfl⟩
    | succ k ih =>
      intro i d h1 h2 hp
      obtain ⟨g, hq, hg⟩ := turn i d (by omega) hp
      refine valid_seq hg rfl rfl (Nat.le_refl _) (Nat.le_refl _) fun e => ⟨{ c := c, pre := as.zip (St (i + 1) (g e)), dep := dep, uni := uni, post := fun e => (.res (r e), Fi e, []) }, rfl, ?_, Nat.le_refl _, Nat.le_refl _, ih (i + 1) (g e) (by omega) (by omega) (hq e), fun e' => ⟨e', rfl⟩⟩
      have : (as.zip (St i d)).map (·.1) = as := by rw [List.map_fst_zip]; rw [hl]; exact Nat.le_refl _
      show _ = ((as.zip (St i d)).map (·.1)).zip _
      rw [this]
  exact fun i d h => key _ i d rfl h
/-- ints with their tokens -/
def tokL : List Int → (Nat → Nat) → List (Int × Nat)
  | [], _ => []
  | v :: vs, τ => (v, τ 0) :: tokL vs fun j => τ (j + 1)
theorem tokL_of : ∀ cs : List (Int × Nat), ∃ τ, cs = tokL (cs.map (·.1)) τ
  | [] => ⟨fun _ => 0, rfl⟩
  | c :: cs => by
    obtain ⟨τ, h⟩ := tokL_of cs
    refine ⟨fun i => match i with | 0 => c.2 | j + 1 => τ j, ?_⟩
    show c :: cs = (c.1, c.2) :: tokL (cs.map (·.1)) τ
    rw [← h]
theorem tokL_fst : ∀ (vs : List Int) (τ : Nat → Nat), (tokL vs τ).map (·.1) = vs
  | [], _ => rfl
  | v :: vs, τ => by
    show v :: (tokL vs _).map (·.1) = _
    rw [tokL_fst vs]
variable {w : World} {b1 b2 : Bool}
def lastI (v : List Int) : Int := (v.drop (v.length - 1)).foldl (· + ·) 0
theorem last1S_eq (cs : List (Int × Nat)) : last1S cs = lastI (cs.map (·.1)) := by
  unfold last1S sumTo last1 lastI
  rw [List.take_length, List.map_drop, List.length_map]
theorem insL_len (ls : List (Array UInt8 × Nat)) (x : Array UInt8) (tx : Nat) : (insL ls x tx).length = ls.length + 1 := by
  have := bisR_le (ltX ls x) ls.length 0 ls.length (by omega)
  unfold insL
  simp
  omega
def prsStep (nb : Array UInt8 → Ns) (st : List (Array UInt8 × Nat) × List Int) (y : Array UInt8 × Nat) : List (Array UInt8 × Nat) × List Int :=
  (insL st.1 y.1 y.2, st.2 ++ [lastI st.2 + (metOf st.1 (nb y.1).l : Nat)])
def prsAt (nb : Array UInt8 → Ns) (ys : List (Array UInt8 × Nat)) (i : Nat) : List (Array UInt8 × Nat) × List Int := (ys.take i).foldl (prsStep nb) ([], [])
theorem prsAt_succ {nb : Array UInt8 → Ns} {ys : List (Array UInt8 × Nat)} {i : Nat} {y : Array UInt8 × Nat} (h : ys[i]? = some y) : prsAt nb ys (i + 1) = prsStep nb (prsAt nb ys i) y := by
  unfold prsAt
  rw [List.take_add_one, h]
  simp
theorem lastI_snoc (v : List Int) (x : Int) : lastI (v ++ [x]) = x := by
  unfold lastI
  simp
theorem prsAt_len {nb : Array UInt8 → Ns} {ys : List (Array UInt8 × Nat)} : ∀ i, i ≤ ys.length → (prsAt nb ys i).1.length = i ∧ (prsAt nb ys i).2.length = i ∧ ∀ v ∈ (prsAt nb ys i).2, 0 ≤ v ∧ v ≤ 4 * (i : Int)
  | 0, _ => by simp [prsAt]
  | i + 1, h => by
    obtain ⟨h1, h2, h3⟩ := prsAt_len (nb := nb) (ys := ys) i (by omega)
    have hy : ys[i]? = some ys[i] := List.getElem?_eq_getElem (by omega)
    rw [prsAt_succ hy]
    refine ⟨?_, ?_, fun v hv => ?_⟩
    · show List.length (insL _ _ _) = _
      rw [insL_len, h1]
    · show List.length (_ ++ _) = _
      rw [List.length_append, h2]; rfl
    · have hm : metOf (prsAt nb ys i).1 (nb (ys[i]).1).l ≤ 4 := by
        unfold metOf
        exact Nat.le_trans (List.length_filter_le _ _) (by simp)
      have hl : 0 ≤ lastI (prsAt nb ys i).2 ∧ lastI (prsAt nb ys i).2 ≤ 4 * (i : Int) := by
        generalize (prsAt nb ys i).2 = vs at h3
        rcases List.eq_nil_or_concat vs with rfl | ⟨us, u, rfl⟩
        · unfold lastI; simp; omega
        · rw [List.concat_eq_append, lastI_snoc]
          exact h3 u (by simp)
      rcases List.mem_append.mp hv with hv | hv
      · have := h3 v hv
        omega
      · have : v = lastI (prsAt nb ys i).2 + (metOf (prsAt nb ys i).1 (nb (ys[i]).1).l : Nat) := by simpa using hv
        omega
theorem last_fit {cs : List (Int × Nat)} {k : Nat} (h : ∀ v ∈ cs.map (·.1), 0 ≤ v ∧ v ≤ 4 * (k : Int)) (hk : k < 2 ^ 20) : (∀ (i : Nat) (y : Int × Nat), (last1 cs)[i]? = some y → -(2 ^ 63) ≤ y.1 ∧ y.1 < 2 ^ 63) ∧ ∀ i, -(2 ^ 63) ≤ sumTo (last1 cs) i ∧ sumTo (last1 cs) i < 2 ^ 63 := by
  have hm : ∀ c ∈ last1 cs, 0 ≤ c.1 ∧ c.1 ≤ 4 * (k : Int) := fun c hc => h c.1 (List.mem_map_of_mem (List.mem_of_mem_drop hc))
  refine ⟨fun i y hy => ?_, fun i => ?_⟩
  · have := hm y (List.mem_of_getElem? hy)
    omega
  · have hl : (last1 cs).length ≤ 1 := by unfold last1; rw [List.length_drop]; omega
    revert hm hl
    generalize last1 cs = l
    intro hm hl
    match l, hl with
    | [], _ => unfold sumTo; simp
    | [c], _ =>
      have := hm c (by simp)
      unfold sumTo
      cases i with
      | zero => simp
      | succ i => simp; omega
def pmOf (nb : Array UInt8 → Ns) (ys : List (Array UInt8 × Nat)) (i tl tm tv : Nat) : Option PM := match i with
  | 0 => none
  | j + 1 => match ys[j]? with
    | some y => some ⟨tl, bv y, tm, .int (metOf (prsAt nb ys j).1 (nb y.1).l : Nat) tv⟩
    | none => none
structure PD where
  (tl tm tv : Nat) (cs : List (Int × Nat))
noncomputable abbrev prsLS (P : Params) (nb : Array UInt8 → Ns) (src kp co cn t1 t2 : Nat) (ys : List (Array UInt8 × Nat)) (n : Nat) (q : Nat → Nat) (i : Nat) (d : PD) : List Obj :=
  [liO src i, lst (ys.map bv) n, prsFr P t1 t2 src cn (pmOf nb ys i d.tl d.tm d.tv), cellO (.ref kp), tab1 co, lst ((prsAt nb ys i).1.map bv) i, lamC q, lst (d.cs.map iv) i]
noncomputable def prsFi (P : Params) (nb : Array UInt8 → Ns) (src kp co cn t1 t2 : Nat) (ys : List (Array UInt8 × Nat)) (n : Nat) (q : Nat → Nat) (e : Nat → Nat) : List Obj :=
  [liE ys.length, lst (ys.map bv) n, prsFr P t1 t2 src cn (pmOf nb ys ys.length (e 0) (e 1) (e 2)), cellO (.ref kp), tab1 co, lst ((prsAt nb ys ys.length).1.map bv) ys.length, lamC q, lst ((tokL (prsAt nb ys ys.length).2 fun j => e (j + 3)).map iv) ys.length]
noncomputable def cPrE (it src L cel : Nat) (xs : List Value) (n i : Nat) : Con :=
  { c := prsFCode it L cel, pre := [(it, liO src i), (src, lst xs n)], dep := 40, uni := 600, post := fun e => (.res (.ok .next), [liE i, lst xs n], []) }
theorem v_PrE {it src L cel : Nat} {xs : List Value} {n i : Nat} (hx : xs[i]? = none) : VV w b1 b2 (cPrE it src L cel xs n i) := by
  refine vgo 100 (.seg (fun a0 t0 => [1, 1]) fun a0 t0 => .orc (cNxE it src xs n i) [0, 1] (v_nxE hx) fun e0 => .seg (fun a1 t1 => [1]) fun a1 t1 => .fin false (fun _ => 0) 2 []) ?_
  cases b2 <;> exact fun ρ => by kernel_rfl
theorem v_PrL {nb : Array UInt8 → Ns} {it src L cel kp co cn t1 t2 : Nat} {ys : List (Array UInt8 × Nat)} {n : Nat} {q : Nat → Nat} (hlen : ys.length < 2 ^ 19) (hN : ∀ y ∈ ys, ∀ t, VV w b1 b2 (cTurned y.1 t (nb y.1).n0 (nb y.1).n1 (nb y.1).n2 (nb y.1).n3)) :
    ∀ i (d : PD), i ≤ ys.length → d.cs.map (·.1) = (prsAt nb ys i).2 → VV w b1 b2 { c := prsFCode it L cel, pre := [it, src, L, cel, 115, kp, co, cn].zip (prsLS (wf w b1 b2).params nb src kp co cn t1 t2 ys n q i d), dep := 40, uni := 600, post := fun e => (.res (.ok .next), prsFi (wf w b1 b2).params nb src kp co cn t1 t2 ys n q e, []) } := by
  refine valid_loopP ys.length (fun i (d : PD) => d.cs.map (·.1) = (prsAt nb ys i).2) (fun i d => prsLS (wf w b1 b2).params nb src kp co cn t1 t2 ys n q i d) (fun _ => .ok .next) (fun e => prsFi (wf w b1 b2).params nb src kp co cn t1 t2 ys n q e) (fun _ _ => rfl) (fun i d hi hp => ?_) (fun d hp => ?_)
  · have hy : ys[i]? = some ys[i] := List.getElem?_eq_getElem hi
    have hm : ys[i] ∈ ys := List.getElem_mem hi
    generalize ys[i] = y at hy hm
    have hx : (ys.map bv)[i]? = some (.bytes y.1 y.2) := by rw [List.getElem?_map, hy]; rfl
    obtain ⟨z1, z2, z3⟩ := prsAt_len (nb := nb) (ys := ys) i (by omega)
    rw [← hp] at z2 z3
    rw [List.length_map] at z2
    have fit := last_fit z3 (by omega)
    have h := v_PrT (w := w) (b1 := b1) (b2 := b2) (it := it) (L := L) (cel := cel) (kp := kp) (co := co) (cn := cn) (src := src) (n := n) (t1 := t1) (t2 := t2) (mo := pmOf nb ys i d.tl d.tm d.tv) (ls := (prsAt nb ys i).1) (m := i) (q := q) (cs := d.cs) (nc := i) (N := nb y.1) hx (by omega) (by omega) (fun t => hN y hm t) fit.1 fit.2
    refine ⟨fun e => ⟨tlOf (pmOf nb ys i d.tl d.tm d.tv) (e 0), tmOf (pmOf nb ys i d.tl d.tm d.tv) (e 1), e 2, d.cs ++ [(last1S d.cs + (metOf (prsAt nb ys i).1 (nb y.1).l : Nat), e 3)]⟩, fun e => ?_, ?_⟩
    · show (d.cs ++ _).map (·.1) = _
      rw [prsAt_succ hy, List.map_append, hp, last1S_eq, hp]
      rfl
    · refine valid_as h rfl rfl (Nat.le_refl _) (Nat.le_refl _) fun e => ⟨e, ?_⟩
      have e1 : ∀ a b c, pmOf nb ys (i + 1) a b c = some ⟨a, bv y, b, .int (metOf (prsAt nb ys i).1 (nb y.1).l : Nat) c⟩ := fun a b c => by
        show (match ys[i]? with | some y => some (PM.mk a (bv y) b (.int (metOf (prsAt nb ys i).1 (nb y.1).l : Nat) c)) | none => none) = _
        rw [hy]
      have e2 : (d.cs ++ [(last1S d.cs + (metOf (prsAt nb ys i).1 (nb y.1).l : Nat), e 3)]).map iv = d.cs.map iv ++ [.int (last1S d.cs + (metOf (prsAt nb ys i).1 (nb y.1).l : Nat)) (e 3)] := by
        rw [List.map_append]; rfl
      show (_, [_, _, prsFr _ _ _ _ _ (pmOf nb ys (i + 1) _ _ _), _, _, lst ((prsAt nb ys (i + 1)).1.map bv) (i + 1), _, lst (List.map iv (d.cs ++ [_])) _], _) = (_, [_, _, _, _, _, _, _, _], _)
      rw [e1, e2, prsAt_succ hy]
      rfl
  · obtain ⟨τ, hτ⟩ := tokL_of d.cs
    refine ⟨fun _ i => match i with | 0 => d.tl | 1 => d.tm | 2 => d.tv | j + 3 => τ j, ?_⟩
    have h := v_PrE (w := w) (b1 := b1) (b2 := b2) (it := it) (L := L) (cel := cel) (n := n) (src := src) (xs := ys.map bv) (i := ys.length) (by simp)
    refine valid_frame (ex := [L, cel, 115, kp, co, cn].zip (prsLS (wf w b1 b2).params nb src kp co cn t1 t2 ys n q ys.length d).tail.tail) h rfl rfl (Nat.le_refl _) (Nat.le_refl _) fun e => ?_
    rw [hp] at hτ
    show (_, [_, _, _, _, _, _, _, lst ((tokL (prsAt nb ys ys.length).2 fun j => τ j).map iv) ys.length], _) = (_, [_, _, _, _, _, _, _, lst (d.cs.map iv) ys.length], _)
    rw [← hτ]
    rfl
end Mine

open PySem PySem.W PySem.W.X PyProof.Rows
namespace Mine
variable {w : World} {b1 b2 : Bool}
theorem prsAt0 (nb : Array UInt8 → Ns) (ys : List (Array UInt8 × Nat)) : prsAt nb ys 0 = ([], []) := by simp [prsAt]
/-- the loop from its start, the lambda's code made before -/
noncomputable def cPrL (P : Params) (nb : Array UInt8 → Ns) (it src L cel kp co cn t1 t2 : Nat) (ys : List (Array UInt8 × Nat)) (n : Nat) (q : Nat → Nat) : Con :=
  { c := prsFCode it L cel, pre := [(it, liO src (0 : Nat)), (src, lst (ys.map bv) n), (L, prsFr P t1 t2 src cn none), (cel, cellO (.ref kp)), (115, tab1 co), (kp, lst [] 0), (co, lamC q), (cn, lst [] 0)], dep := 40, uni := 600, post := fun e => (.res (.ok .next), prsFi P nb src kp co cn t1 t2 ys n q e, []) }
theorem v_PrL1 {nb : Array UInt8 → Ns} {it src L cel kp co cn t1 t2 : Nat} {ys : List (Array UInt8 × Nat)} {n : Nat} {q : Nat → Nat} (hlen : ys.length < 2 ^ 19) (hN : ∀ y ∈ ys, ∀ t, VV w b1 b2 (cTurned y.1 t (nb y.1).n0 (nb y.1).n1 (nb y.1).n2 (nb y.1).n3)) : VV w b1 b2 (cPrL (wf w b1 b2).params nb it src L cel kp co cn t1 t2 ys n q) := by
  refine valid_as (v_PrL (nb := nb) (it := it) (src := src) (L := L) (cel := cel) (kp := kp) (co := co) (cn := cn) (t1 := t1) (t2 := t2) (n := n) (q := q) hlen hN 0 ⟨0, 0, 0, []⟩ (Nat.zero_le _) (by rw [prsAt0]; rfl)) rfl ?_ (Nat.le_refl _) (Nat.le_refl _) fun e => ⟨e, rfl⟩
  show [_, _, _, _, _, (kp, lst [] 0), _, _] = [_, _, _, _, _, (kp, lst ((prsAt nb ys 0).1.map bv) 0), _, _]
  rw [prsAt0]
  rfl
/-- the loop, the lambda's code made in its first turn -/
noncomputable def cPrL0 (P : Params) (nb : Array UInt8 → Ns) (it src L cel kp cn t1 t2 : Nat) (ys : List (Array UInt8 × Nat)) (n : Nat) : Con :=
  { c := prsFCode it L cel, pre := [(it, liO src (0 : Nat)), (src, lst (ys.map bv) n), (L, prsFr P t1 t2 src cn none), (cel, cellO (.ref kp)), (115, tabO []), (kp, lst [] 0), (cn, lst [] 0)], dep := 40, uni := 600,
    post := fun e => (.res (.ok .next), [liE ys.length, lst (ys.map bv) n, prsFr P t1 t2 src cn (pmOf nb ys ys.length (e 0) (e 2) (e 4)), cellO (.ref kp), tab1 (e 1), lst ((prsAt nb ys ys.length).1.map bv) ys.length, lst ((tokL (prsAt nb ys ys.length).2 fun j => e (2 * (j + 3))).map iv) ys.length], [(e 1, lamC (fun i => e (2 * i + 3)))]) }
def mix (a b : Nat → Nat) (i : Nat) : Nat := if i % 2 = 0 then a (i / 2) else b (i / 2)
theorem mix0 (a b : Nat → Nat) (i : Nat) : mix a b (2 * i) = a i := by
  unfold mix
  rw [if_pos (by omega)]
  congr 1; omega
theorem mix1 (a b : Nat → Nat) (i : Nat) : mix a b (2 * i + 1) = b i := by
  unfold mix
  rw [if_neg (by omega)]
  congr 1; omega
theorem v_PrL0 {nb : Array UInt8 → Ns} {it src L cel kp cn t1 t2 : Nat} {ys : List (Array UInt8 × Nat)} {n : Nat} (h0 : 0 < ys.length) (hlen : ys.length < 2 ^ 19) (hN : ∀ y ∈ ys, ∀ t, VV w b1 b2 (cTurned y.1 t (nb y.1).n0 (nb y.1).n1 (nb y.1).n2 (nb y.1).n3)) : VV w b1 b2 (cPrL0 (wf w b1 b2).params nb it src L cel kp cn t1 t2 ys n) := by
  have hy : ys[0]? = some ys[0] := List.getElem?_eq_getElem h0
  have hm : ys[0] ∈ ys := List.getElem_mem h0
  generalize ys[0] = y at hy hm
  have hx : (ys.map bv)[0]? = some (.bytes y.1 y.2) := by rw [List.getElem?_map, hy]; rfl
  have h1 := v_PrT0 (w := w) (b1 := b1) (b2 := b2) (it := it) (L := L) (cel := cel) (kp := kp) (cn := cn) (src := src) (n := n) (t1 := t1) (t2 := t2) (m := 0) (nc := 0) (N := nb y.1) hx fun t => hN y hm t
  have s1 : prsAt nb ys 1 = (insL [] y.1 y.2, [0 + ((metOf [] (nb y.1).l : Nat) : Int)]) := by
    have : prsAt nb ys (0 + 1) = _ := prsAt_succ (nb := nb) hy
    rw [this, prsAt0]
    rfl
  refine valid_thenN h1 rfl rfl (Nat.le_refl _) (Nat.le_refl _) fun e => ⟨{ c := prsFCode it L cel, pre := (e 4, lamC (fun i => e (i + 5))) :: [(it, liO src ((0 + 1 : Nat) : Int)), (src, lst (ys.map bv) n), (L, prsFr (wf w b1 b2).params t1 t2 src cn (some ⟨e 0, .bytes y.1 y.2, e 1, .int (metOf [] (nb y.1).l : Nat) (e 2)⟩)), (cel, cellO (.ref kp)), (115, tab1 (e 4)), (kp, lst ((insL [] y.1 y.2).map bv) (0 + 1)), (cn, lst [.int (0 + (metOf [] (nb y.1).l : Nat)) (e 3)] (0 + 1))], dep := 40, uni := 600, post := fun e' => (.res (.ok .next), lamC (fun i => e (i + 5)) :: [liE ys.length, lst (ys.map bv) n, prsFr (wf w b1 b2).params t1 t2 src cn (pmOf nb ys ys.length (e' 0) (e' 1) (e' 2)), cellO (.ref kp), tab1 (e 4), lst ((prsAt nb ys ys.length).1.map bv) ys.length, lst ((tokL (prsAt nb ys ys.length).2 fun j => e' (j + 3)).map iv) ys.length], []) }, rfl, rfl, Nat.le_refl _, Nat.le_refl _, ?_, fun e' => ⟨mix e' (fun j => match j with | 0 => e 4 | i + 1 => e (i + 5)), ?_⟩⟩
  · refine valid_use (v_PrL (nb := nb) (it := it) (src := src) (L := L) (cel := cel) (kp := kp) (co := e 4) (cn := cn) (t1 := t1) (t2 := t2) (n := n) (q := fun i => e (i + 5)) hlen hN 1 ⟨e 0, e 1, e 2, [(0 + ((metOf [] (nb y.1).l : Nat) : Int), e 3)]⟩ h0 (by rw [s1]; rfl)) rfl [1, 2, 3, 4, 5, 6, 0, 7] (by decide) ?_ (Nat.le_refl _) (Nat.le_refl _) fun e' => ⟨e', rfl⟩
    have e1 : ∀ a b c, pmOf nb ys 1 a b c = some ⟨a, bv y, b, .int (metOf [] (nb y.1).l : Nat) c⟩ := fun a b c => by
      show (match ys[0]? with | some y => some (PM.mk a (bv y) b (.int (metOf (prsAt nb ys 0).1 (nb y.1).l : Nat) c)) | none => none) = _
      rw [hy, prsAt0]
    show [_, _, some (L, prsFr _ _ _ _ _ (some ⟨e 0, .bytes y.1 y.2, e 1, .int (metOf [] (nb y.1).l : Nat) (e 2)⟩)), _, _, some (kp, lst ((insL [] y.1 y.2).map bv) 1), _, _] = [_, _, some (L, prsFr _ _ _ _ _ (pmOf nb ys 1 (e 0) (e 1) (e 2))), _, _, some (kp, lst ((prsAt nb ys 1).1.map bv) 1), _, _]
    rw [e1, s1]
    rfl
  · have m0 := mix0 e' (fun j => match j with | 0 => e 4 | i + 1 => e (i + 5)) 0
    have m2 := mix0 e' (fun j => match j with | 0 => e 4 | i + 1 => e (i + 5)) 1
    have m4 := mix0 e' (fun j => match j with | 0 => e 4 | i + 1 => e (i + 5)) 2
    have m1 := mix1 e' (fun j => match j with | 0 => e 4 | i + 1 => e (i + 5)) 0
    have mj : (fun j => mix e' (fun j => match j with | 0 => e 4 | i + 1 => e (i + 5)) (2 * (j + 3))) = fun j => e' (j + 3) := funext fun j => mix0 _ _ _
    have mi : (fun i => mix e' (fun j => match j with | 0 => e 4 | i + 1 => e (i + 5)) (2 * i + 3)) = fun i => e (i + 5) := funext fun i => mix1 e' (fun j => match j with | 0 => e 4 | i + 1 => e (i + 5)) (i + 1)
    unfold cPrL0
    dsimp only
    rw [mj, mi]
    rw [show mix e' (fun j => match j with | 0 => e 4 | i + 1 => e (i + 5)) 0 = e' 0 from m0, show mix e' (fun j => match j with | 0 => e 4 | i + 1 => e (i + 5)) 2 = e' 1 from m2, show mix e' (fun j => match j with | 0 => e 4 | i + 1 => e (i + 5)) 4 = e' 2 from m4, show mix e' (fun j => match j with | 0 => e 4 | i + 1 => e (i + 5)) 1 = e 4 from m1]
    rfl
theorem pm_end {nb : Array UInt8 → Ns} {ys : List (Array UInt8 × Nat)} (h0 : 0 < ys.length) : ∃ (v : Value) (m : Nat), ∀ a b c, pmOf nb ys ys.length a b c = some ⟨a, v, b, .int m c⟩ := by
  obtain ⟨j, hj⟩ : ∃ j, ys.length = j + 1 := ⟨ys.length - 1, by omega⟩
  have hy : ys[j]? = some ys[j] := List.getElem?_eq_getElem (by omega)
  generalize ys[j] = z at hy
  refine ⟨bv z, metOf (prsAt nb ys j).1 (nb z.1).l, fun a b c => ?_⟩
  rw [hj]
  show (match ys[j]? with | some y => some (PM.mk a (bv y) b (.int (metOf (prsAt nb ys j).1 (nb y.1).l : Nat) c)) | none => none) = _
  rw [hy]
/-- the loop's word, its frame told -/
noncomputable def cPrLY (P : Params) (it src L cel kp co cn t1 t2 : Nat) (ys : List Value) (n k : Nat) (q : Nat → Nat) (kl : List Value) (vs : List Int) (v : Value) (m : Nat) : Con :=
  { c := prsFCode it L cel, pre := [(it, liO src (0 : Nat)), (src, lst ys n), (L, prsFr P t1 t2 src cn none), (cel, cellO (.ref kp)), (115, tab1 co), (kp, lst [] 0), (co, lamC q), (cn, lst [] 0)], dep := 40, uni := 600,
    post := fun e => (.res (.ok .next), [liE k, lst ys n, prsFr P t1 t2 src cn (some ⟨e 0, v, e 1, .int m (e 2)⟩), cellO (.ref kp), tab1 co, lst kl k, lamC q, lst ((tokL vs fun j => e (j + 3)).map iv) k], []) }
noncomputable def cPrLY0 (P : Params) (it src L cel kp cn t1 t2 : Nat) (ys : List Value) (n k : Nat) (kl : List Value) (vs : List Int) (v : Value) (m : Nat) : Con :=
  { c := prsFCode it L cel, pre := [(it, liO src (0 : Nat)), (src, lst ys n), (L, prsFr P t1 t2 src cn none), (cel, cellO (.ref kp)), (115, tabO []), (kp, lst [] 0), (cn, lst [] 0)], dep := 40, uni := 600,
    post := fun e => (.res (.ok .next), [liE k, lst ys n, prsFr P t1 t2 src cn (some ⟨e 0, v, e 2, .int m (e 4)⟩), cellO (.ref kp), tab1 (e 1), lst kl k, lst ((tokL vs fun j => e (2 * (j + 3))).map iv) k], [(e 1, lamC (fun i => e (2 * i + 3)))]) }
/-- _law_pairs -/
noncomputable def cPairs (src co : Nat) (ys : List Value) (n k : Nat) (q : Nat → Nat) (vs : List Int) : Con :=
  { c := .call (.ref 125) ⟨[.ref src], []⟩, pre := [(src, lst ys n), (115, tab1 co), (co, lamC q)], dep := 50, uni := 800, post := fun e => (.res (.ok (.ret (.ref (e 0)))), [lst ys n, tab1 co, lamC q], [(e 0, lst ((tokL vs fun j => e (j + 1)).map iv) k)]) }
theorem v_pairs {nb : Array UInt8 → Ns} {src co : Nat} {ys : List (Array UInt8 × Nat)} {n : Nat} {q : Nat → Nat} (h0 : 0 < ys.length) (hlen : ys.length < 2 ^ 19) (hN : ∀ y ∈ ys, ∀ t, VV w b1 b2 (cTurned y.1 t (nb y.1).n0 (nb y.1).n1 (nb y.1).n2 (nb y.1).n3)) : VV w b1 b2 (cPairs src co (ys.map bv) n ys.length q (prsAt nb ys ys.length).2) := by
  obtain ⟨v, m, hp⟩ := pm_end (nb := nb) h0
  have k : ∀ it L cel kp cn t1 t2, VV w b1 b2 (cPrLY (wf w b1 b2).params it src L cel kp co cn t1 t2 (ys.map bv) n ys.length q ((prsAt nb ys ys.length).1.map bv) (prsAt nb ys ys.length).2 v m) := fun it L cel kp cn t1 t2 => by
    refine valid_as (v_PrL1 (nb := nb) (it := it) (src := src) (L := L) (cel := cel) (kp := kp) (co := co) (cn := cn) (t1 := t1) (t2 := t2) (n := n) (q := q) hlen hN) rfl rfl (Nat.le_refl _) (Nat.le_refl _) fun e => ⟨e, ?_⟩
    show (_, [_, _, prsFr _ _ _ _ _ (some ⟨e 0, v, e 1, .int m (e 2)⟩), _, _, _, _, _], _) = (_, [_, _, prsFr _ _ _ _ _ (pmOf nb ys ys.length (e 0) (e 1) (e 2)), _, _, _, _, _], _)
    rw [hp]
  generalize (prsAt nb ys ys.length).2 = vs at k ⊢
  generalize (prsAt nb ys ys.length).1.map bv = kl at k
  generalize ys.length = nn at k ⊢
  generalize ys.map bv = xs at k ⊢
  refine vgo 200 (.seg (fun a0 t0 => [0, 0, 2, 1, 0, 2, 1, 4, 3, 4, 5, 5, 0, 5, 1, 1]) fun a0 t0 =>
    .orc (cPrLY (wf w b1 b2).params (a0 4) src (a0 0) (a0 1) (a0 2) co (a0 3) (t0 0) (t0 1) xs n nn q kl vs v m) [0, 5, 4, 3, 6, 2, 7, 1] (k _ _ _ _ _ _ _) fun e0 =>
    .seg (fun a1 t1 => [5]) fun a1 t1 =>
    .fin false (fun i => match i with | 0 => a0 3 | j + 1 => e0 (j + 3)) 5 [1]) ?_
  cases b2 <;> exact fun ρ => by kernel_rfl
/-- _law_pairs for the first time -/
noncomputable def cPairs0 (src : Nat) (ys : List Value) (n k : Nat) (vs : List Int) : Con :=
  { c := .call (.ref 125) ⟨[.ref src], []⟩, pre := [(src, lst ys n), (115, tabO [])], dep := 50, uni := 800, post := fun e => (.res (.ok (.ret (.ref (e 0)))), [lst ys n, tab1 (e 1)], [(e 0, lst ((tokL vs fun j => e (2 * (j + 3))).map iv) k), (e 1, lamC (fun i => e (2 * i + 3)))]) }
theorem v_pairs0 {nb : Array UInt8 → Ns} {src : Nat} {ys : List (Array UInt8 × Nat)} {n : Nat} (h0 : 0 < ys.length) (hlen : ys.length < 2 ^ 19) (hN : ∀ y ∈ ys, ∀ t, VV w b1 b2 (cTurned y.1 t (nb y.1).n0 (nb y.1).n1 (nb y.1).n2 (nb y.1).n3)) : VV w b1 b2 (cPairs0 src (ys.map bv) n ys.length (prsAt nb ys ys.length).2) := by
  obtain ⟨v, m, hp⟩ := pm_end (nb := nb) h0
  have k : ∀ it L cel kp cn t1 t2, VV w b1 b2 (cPrLY0 (wf w b1 b2).params it src L cel kp cn t1 t2 (ys.map bv) n ys.length ((prsAt nb ys ys.length).1.map bv) (prsAt nb ys ys.length).2 v m) := fun it L cel kp cn t1 t2 => by
    refine valid_as (v_PrL0 (nb := nb) (it := it) (src := src) (L := L) (cel := cel) (kp := kp) (cn := cn) (t1 := t1) (t2 := t2) (n := n) h0 hlen hN) rfl rfl (Nat.le_refl _) (Nat.le_refl _) fun e => ⟨e, ?_⟩
    show (_, [_, _, prsFr _ _ _ _ _ (some ⟨e 0, v, e 2, .int m (e 4)⟩), _, _, _, _], _) = (_, [_, _, prsFr _ _ _ _ _ (pmOf nb ys ys.length (e 0) (e 2) (e 4)), _, _, _, _], _)
    rw [hp]
  generalize (prsAt nb ys ys.length).2 = vs at k ⊢
  generalize (prsAt nb ys ys.length).1.map bv = kl at k
  generalize ys.length = nn at k ⊢
  generalize ys.map bv = xs at k ⊢
  refine vgo 200 (.seg (fun a0 t0 => [0, 0, 2, 1, 0, 2, 1, 4, 3, 4, 5, 5, 0, 5, 1, 1]) fun a0 t0 =>
    .orc (cPrLY0 (wf w b1 b2).params (a0 4) src (a0 0) (a0 1) (a0 2) (a0 3) (t0 0) (t0 1) xs n nn kl vs v m) [0, 5, 4, 3, 6, 2, 1] (k _ _ _ _ _ _ _) fun e0 =>
    .seg (fun a1 t1 => [6]) fun a1 t1 =>
    .fin false (fun i => match i with | 0 => a0 3 | j + 1 => e0 (j + 1)) 6 [2, 0]) ?_
  cases b2 <;> exact fun ρ => by kernel_rfl
end Mine

open PySem PySem.W PySem.W.X PyProof.Rows
namespace Mine
variable {w : World} {b1 b2 : Bool}
theorem valid_go {prog : Program} {w : World} {kg : Nat → Option Obj} {con con1 : Con} {con2 : (Nat → Nat) → Con} (h1 : Valid prog w kg con1) (h2 : ∀ e, Valid prog w kg (con2 e)) (hc : con.c = con1.c) (hp : con.pre = con1.pre) (hd : con1.dep ≤ con.dep) (hu : con1.uni ≤ con.uni)
    (k1 : ∀ e, (con1.post e).1 = .again (con2 e).c) (k2 : ∀ e, (con2 e).pre = (con1.post e).2.2 ++ (con1.pre.map (·.1)).zip (con1.post e).2.1) (k3 : ∀ e, (con2 e).dep ≤ con.dep) (k4 : ∀ e, (con2 e).uni ≤ con.uni)
    (k5 : ∀ e e', ∃ e'', con.post e'' = (((con2 e).post e').1, ((con2 e).post e').2.1.drop (con1.post e).2.2.length, ((con2 e).post e').2.2)) : Valid prog w kg con :=
  valid_then h1 hc hp hd hu fun e => ⟨con2 e, k1 e, k2 e, k3 e, k4 e, h2 e, k5 e⟩
/-- what a comprehension has gathered -/
def accE (em : Nat → Nat → List Value) : Nat → (Nat → Nat) → List Value
  | 0, _ => []
  | i + 1, τ => accE em i τ ++ em i (τ i)
theorem accE_congr {em : Nat → Nat → List Value} : ∀ {i : Nat} {τ τ' : Nat → Nat}, (∀ j, j < i → τ j = τ' j) → accE em i τ = accE em i τ'
  | 0, _, _, _ => rfl
  | i + 1, τ, τ', h => by
    show accE em i τ ++ em i (τ i) = accE em i τ' ++ em i (τ' i)
    rw [accE_congr fun j hj => h j (by omega), h i (by omega)]
theorem accE_len {em : Nat → Nat → List Value} (h : ∀ i t, (em i t).length ≤ 1) : ∀ i τ, (accE em i τ).length ≤ i
  | 0, _ => by simp [accE]
  | i + 1, τ => by
    have := accE_len h i τ
    have := h i (τ i)
    show (accE em i τ ++ em i (τ i)).length ≤ _
    rw [List.length_append]; omega
def lastV (vals : List Value) (i d : Nat) : Option (Nat × Value) := match i with
  | 0 => none
  | j + 1 => match vals[j]? with
    | some v => some (d, v)
    | none => none
structure CD where
  (d : Nat) (τ : Nat → Nat)
noncomputable abbrev cmpS (P : Params) (nm : List Nat) (io : Obj) (so : List Obj) (lo : Option (Nat × Value)) (mid : List Obj) (al : List Value) : List Obj :=
  io :: (so ++ oneO P nm lo :: (mid ++ [lst al al.length]))
/-- a comprehension over a list -/
theorem v_compL {c cs : Code} {it src dct acc : Nat} {as : List Nat} {mid : List Obj} {nm : List Nat} {vals : List Value} {n dep uni : Nat} {em : Nat → Nat → List Value} (hm : mid.length = as.length) (h1 : ∀ i t, (em i t).length ≤ 1) (hv : vals.length < 2 ^ 20)
    (start : VV w b1 b2 { c := cs, pre := [(it, liO src (0 : Nat))], dep := dep, uni := uni, post := fun _ => (.again c, [liO src (0 : Nat)], []) })
    (turn : ∀ (i : Nat) (v : Value) (mo : Option (Nat × Value)) (al : List Value), vals[i]? = some v → al.length < 2 ^ 20 → VV w b1 b2 { c := c, pre := (it :: src :: dct :: (as ++ [acc])).zip (cmpS (wf w b1 b2).params nm (liO src i) [lst vals n] mo mid al), dep := dep, uni := uni, post := fun e => (.again c, cmpS (wf w b1 b2).params nm (liO src ((i + 1 : Nat) : Int)) [lst vals n] (some (midT mo (e 0), v)) mid (al ++ em i (e 1)), []) })
    (stop : VV w b1 b2 { c := c, pre := [(it, liO src vals.length), (src, lst vals n)], dep := dep, uni := uni, post := fun _ => (.res (.ok .next), [liE vals.length, lst vals n], []) }) :
    VV w b1 b2 { c := cs, pre := (it :: src :: dct :: (as ++ [acc])).zip (cmpS (wf w b1 b2).params nm (liO src (0 : Nat)) [lst vals n] none mid []), dep := dep, uni := uni, post := fun e => (.res (.ok .next), cmpS (wf w b1 b2).params nm (liE vals.length) [lst vals n] (lastV vals vals.length (e 0)) mid (accE em vals.length fun j => e (j + 1)), []) } := by
  have hl := valid_loopP (prog := pw) (w := wf w b1 b2) (kg := kg (wf w b1 b2)) (c := c) (as := it :: src :: dct :: (as ++ [acc])) (dep := dep) (uni := uni) vals.length (fun _ (_ : CD) => True) (fun i d => cmpS (wf w b1 b2).params nm (liO src i) [lst vals n] (lastV vals i d.d) mid (accE em i d.τ)) (fun _ => .ok .next) (fun e => cmpS (wf w b1 b2).params nm (liE vals.length) [lst vals n] (lastV vals vals.length (e 0)) mid (accE em vals.length fun j => e (j + 1))) (fun i d => by simp [hm])
    (fun i d hi _ => by
      have hx : vals[i]? = some vals[i] := List.getElem?_eq_getElem hi
      generalize vals[i] = v at hx
      refine ⟨fun e => ⟨midT (lastV vals i d.d) (e 0), fun j => if j = i then e 1 else d.τ j⟩, fun _ => trivial, ?_⟩
      refine valid_as (turn i v (lastV vals i d.d) (accE em i d.τ) hx (Nat.lt_of_le_of_lt (accE_len h1 i d.τ) (by omega))) rfl rfl (Nat.le_refl _) (Nat.le_refl _) fun e => ⟨e, ?_⟩
      have e1 : ∀ a, lastV vals (i + 1) a = some (a, v) := fun a => by
        show (match vals[i]? with | some v => some (a, v) | none => none) = _
        rw [hx]
      have e2 : accE em (i + 1) (fun j => if j = i then e 1 else d.τ j) = accE em i d.τ ++ em i (e 1) := by
        show accE em i _ ++ em i (if i = i then e 1 else d.τ i) = _
        rw [if_pos rfl]
        congr 1
        exact accE_congr fun j hj => if_neg (by omega)
      dsimp only
      rw [e1, e2])
    (fun d _ => by
      refine ⟨fun _ i => match i with | 0 => d.d | j + 1 => d.τ j, ?_⟩
      refine valid_frame (ex := (dct :: (as ++ [acc])).zip (oneO (wf w b1 b2).params nm (lastV vals vals.length d.d) :: (mid ++ [lst (accE em vals.length d.τ) (accE em vals.length d.τ).length]))) stop rfl rfl (Nat.le_refl _) (Nat.le_refl _) fun e => ?_
      show (_, _ :: _ :: _, _) = (_, _ :: _ :: _, _)
      rw [List.map_snd_zip (by simp [hm])])
    0 ⟨0, fun _ => 0⟩ (Nat.zero_le _) trivial
  have hst : VV w b1 b2 { c := cs, pre := (it :: src :: dct :: (as ++ [acc])).zip (cmpS (wf w b1 b2).params nm (liO src (0 : Nat)) [lst vals n] none mid []), dep := dep, uni := uni, post := fun e => (.again c, cmpS (wf w b1 b2).params nm (liO src (0 : Nat)) [lst vals n] none mid [], []) } := by
    refine valid_frame (ex := (src :: dct :: (as ++ [acc])).zip (lst vals n :: oneO (wf w b1 b2).params nm none :: (mid ++ [lst [] 0]))) start rfl rfl (Nat.le_refl _) (Nat.le_refl _) fun e => ?_
    show (_, _ :: _, _) = (_, _ :: _, _)
    rw [List.map_snd_zip (by simp [hm])]
    rfl
  refine valid_go hst (fun _ => hl) rfl rfl (Nat.le_refl _) (Nat.le_refl _) (fun _ => rfl) (fun e => ?_) (fun _ => Nat.le_refl _) (fun _ => Nat.le_refl _) fun e e' => ⟨e', rfl⟩
  show _ = (((it :: src :: dct :: (as ++ [acc])).zip _).map (·.1)).zip _
  rw [List.map_fst_zip (by simp [hm])]
  rfl
def lastR (i d t : Nat) : Option (Nat × Value) := match i with
  | 0 => none
  | j + 1 => some (d, .int (j : Nat) t)
structure CDR where
  (d t : Nat) (τ : Nat → Nat)
/-- a comprehension over a range -/
theorem v_compR {c cs : Code} {it dct acc : Nat} {as : List Nat} {mid : List Obj} {nm : List Nat} {n dep uni : Nat} {em : Nat → Nat → List Value} (hm : mid.length = as.length) (h1 : ∀ i t, (em i t).length ≤ 1) (hv : n < 2 ^ 20)
    (start : VV w b1 b2 { c := cs, pre := [(it, riO (0 : Nat) n)], dep := dep, uni := uni, post := fun _ => (.again c, [riO (0 : Nat) n], []) })
    (turn : ∀ (i k : Nat) (mo : Option (Nat × Value)) (al : List Value), i + (k + 1) = n → al.length < 2 ^ 20 → VV w b1 b2 { c := c, pre := (it :: dct :: (as ++ [acc])).zip (cmpS (wf w b1 b2).params nm (riO i ((k + 1 : Nat) : Int)) [] mo mid al), dep := dep, uni := uni, post := fun e => (.again c, cmpS (wf w b1 b2).params nm (riO ((i + 1 : Nat) : Int) k) [] (some (midT mo (e 0), .int (i : Nat) (e 2))) mid (al ++ em i (e 1)), []) })
    (stop : VV w b1 b2 { c := c, pre := [(it, riO n (0 : Nat))], dep := dep, uni := uni, post := fun _ => (.res (.ok .next), [riO n (0 : Nat)], []) }) :
    VV w b1 b2 { c := cs, pre := (it :: dct :: (as ++ [acc])).zip (cmpS (wf w b1 b2).params nm (riO (0 : Nat) n) [] none mid []), dep := dep, uni := uni, post := fun e => (.res (.ok .next), cmpS (wf w b1 b2).params nm (riO n (0 : Nat)) [] (lastR n (e 0) (e 1)) mid (accE em n fun j => e (j + 2)), []) } := by
  have hl := valid_loopP (prog := pw) (w := wf w b1 b2) (kg := kg (wf w b1 b2)) (c := c) (as := it :: dct :: (as ++ [acc])) (dep := dep) (uni := uni) n (fun _ (_ : CDR) => True) (fun i d => cmpS (wf w b1 b2).params nm (riO i ((n - i : Nat) : Int)) [] (lastR i d.d d.t) mid (accE em i d.τ)) (fun _ => .ok .next) (fun e => cmpS (wf w b1 b2).params nm (riO n (0 : Nat)) [] (lastR n (e 0) (e 1)) mid (accE em n fun j => e (j + 2))) (fun i d => by simp [hm])
    (fun i d hi _ => by
      obtain ⟨k, hk⟩ : ∃ k, n = i + (k + 1) := ⟨n - i - 1, by omega⟩
      have k1 : n - i = k + 1 := by omega
      have k2 : n - (i + 1) = k := by omega
      refine ⟨fun e => ⟨midT (lastR i d.d d.t) (e 0), e 2, fun j => if j = i then e 1 else d.τ j⟩, fun _ => trivial, ?_⟩
      refine valid_as (turn i k (lastR i d.d d.t) (accE em i d.τ) hk.symm (Nat.lt_of_le_of_lt (accE_len h1 i d.τ) (by omega))) rfl (by dsimp only; rw [k1]) (Nat.le_refl _) (Nat.le_refl _) fun e => ⟨e, ?_⟩
      have e2 : accE em (i + 1) (fun j => if j = i then e 1 else d.τ j) = accE em i d.τ ++ em i (e 1) := by
        show accE em i _ ++ em i (if i = i then e 1 else d.τ i) = _
        rw [if_pos rfl]
        congr 1
        exact accE_congr fun j hj => if_neg (by omega)
      dsimp only
      rw [e2, k2]
      rfl)
    (fun d _ => by
      refine ⟨fun _ i => match i with | 0 => d.d | 1 => d.t | j + 2 => d.τ j, ?_⟩
      have hs : VV w b1 b2 { c := c, pre := [(it, riO n ((n - n : Nat) : Int))], dep := dep, uni := uni, post := fun _ => (.res (.ok .next), [riO n (0 : Nat)], []) } := by rw [Nat.sub_self]; exact stop
      refine valid_frame (ex := (dct :: (as ++ [acc])).zip (oneO (wf w b1 b2).params nm (lastR n d.d d.t) :: (mid ++ [lst (accE em n d.τ) (accE em n d.τ).length]))) hs rfl rfl (Nat.le_refl _) (Nat.le_refl _) fun e => ?_
      show (_, _ :: _, _) = (_, _ :: _, _)
      rw [List.map_snd_zip (by simp [hm])]
      rfl)
    0 ⟨0, 0, fun _ => 0⟩ (Nat.zero_le _) trivial
  have hst : VV w b1 b2 { c := cs, pre := (it :: dct :: (as ++ [acc])).zip (cmpS (wf w b1 b2).params nm (riO (0 : Nat) n) [] none mid []), dep := dep, uni := uni, post := fun e => (.again c, cmpS (wf w b1 b2).params nm (riO (0 : Nat) n) [] none mid [], []) } := by
    refine valid_frame (ex := (dct :: (as ++ [acc])).zip (oneO (wf w b1 b2).params nm none :: (mid ++ [lst [] 0]))) start rfl rfl (Nat.le_refl _) (Nat.le_refl _) fun e => ?_
    show (_, _ :: _, _) = (_, _ :: _, _)
    rw [List.map_snd_zip (by simp [hm])]
    rfl
  refine valid_go hst (fun _ => hl) rfl rfl (Nat.le_refl _) (Nat.le_refl _) (fun _ => rfl) (fun e => ?_) (fun _ => Nat.le_refl _) (fun _ => Nat.le_refl _) fun e e' => ⟨e', rfl⟩
  show _ = (((it :: dct :: (as ++ [acc])).zip _).map (·.1)).zip _
  rw [List.map_fst_zip (by simp [hm])]
  rfl
def emL {α : Type} (ys : List α) (f : α → List Value) (i t : Nat) : List Value := match ys[i]? with
  | some p => f p
  | none => []
theorem accE_emL {α : Type} {ys : List α} {f : α → List Value} : ∀ {i : Nat} {τ : Nat → Nat}, i ≤ ys.length → accE (emL ys f) i τ = (ys.take i).flatMap f
  | 0, τ, _ => by simp [accE]
  | i + 1, τ, h => by
    have hy : ys[i]? = some ys[i] := List.getElem?_eq_getElem (by omega)
    show accE (emL ys f) i τ ++ emL ys f i (τ i) = _
    rw [accE_emL (by omega), List.take_add_one, List.flatMap_append]
    unfold emL
    rw [hy]
    simp
theorem accE_emL' {α : Type} {ys : List α} {f : α → List Value} {τ : Nat → Nat} : accE (emL ys f) ys.length τ = ys.flatMap f := by
  rw [accE_emL (Nat.le_refl _), List.take_length]
/-- ints that a comprehension makes -/
theorem accE_tok : ∀ (n : Nat) (f : Nat → Int) (τ : Nat → Nat), accE (fun i t => [.int (f i) t]) n τ = (tokL ((List.range n).map f) τ).map iv := by
  have key : ∀ (vs : List Int) (v : Int) (τ : Nat → Nat), tokL (vs ++ [v]) τ = tokL vs τ ++ [(v, τ vs.length)] := by
    intro vs
    induction vs with
    | nil => intro v τ; rfl
    | cons u vs ih =>
      intro v τ
      show (u, τ 0) :: tokL (vs ++ [v]) _ = (u, τ 0) :: (tokL vs _ ++ _)
      rw [ih]
      rfl
  intro n
  induction n with
  | zero => intro f τ; rfl
  | succ n ih =>
    intro f τ
    show accE _ n τ ++ [.int (f n) (τ n)] = _
    rw [ih, List.range_succ, List.map_append, List.map_cons, List.map_nil, key, List.map_append]
    simp
def withT (v : Option Value) (t : Nat) : Option (Nat × Value) := match v with
  | none => none
  | some v => some (t, v)
theorem lastV_end (vals : List Value) (d : Nat) : lastV vals vals.length d = withT vals.getLast? d := by
  rcases List.eq_nil_or_concat vals with rfl | ⟨us, u, rfl⟩
  · rfl
  · rw [List.concat_eq_append, List.length_append]
    show (match (us ++ [u])[us.length]? with | some v => some (d, v) | none => none) = _
    simp [withT]
noncomputable def cRNxE (it : Nat) (n : Int) : Con := { c := .call (.builtin "range_iterator.__next__") ⟨[.ref it], []⟩, pre := [(it, riO n (0 : Nat))], dep := 0, uni := 10, post := fun e => (.res (.error (.ref (e 0))), [riO n (0 : Nat)], [(e 0, stopO (e 1)), (e 1, tupO [])]) }
theorem v_rnxE {it : Nat} {n : Int} : VV w b1 b2 (cRNxE it n) := by
  refine vgo 100 (.seg (fun a0 t0 => [1, 1, 1, 1]) fun a0 t0 => .fin false (fun i => match i with | 0 => a0 1 | _ => a0 0) 2 [0, 1]) ?_
  cases b2 <;> exact fun ρ => by kernel_rfl
noncomputable abbrev rgO (n : Int) (t0 t t1 : Nat) : Obj := ⟨tRange, none, .fields ⟨[.int 0 t0, .int n t, .int 1 t1]⟩, ⟨[]⟩⟩
noncomputable def cRg (n : Int) (t : Nat) : Con := { c := .call tRange ⟨[.int n t], []⟩, pre := [], dep := 4, uni := 40, post := fun e => (.res (.ok (.ret (.ref (e 0)))), [], [(e 0, rgO n (e 1) t (e 2))]) }
theorem v_rg {n : Int} {t : Nat} : VV w b1 b2 (cRg n t) := by
  refine vgo 100 (.seg (fun a0 t0 => [0, 1, 1, 0, 1, 1]) fun a0 t0 => .fin false (fun i => match i with | 0 => a0 0 | 1 => t0 0 | _ => t0 1) 1 [0]) ?_
  cases b2 <;> exact fun ρ => by kernel_rfl
noncomputable def cRgI (r : Nat) (n : Nat) (t0 t t1 : Nat) : Con := { c := .call (.builtin "range.__iter__") ⟨[.ref r], []⟩, pre := [(r, rgO (n : Nat) t0 t t1)], dep := 4, uni := 40, post := fun e => (.res (.ok (.ret (.ref (e 0)))), [rgO (n : Nat) t0 t t1], [(e 0, riO (0 : Nat) (n : Nat))]) }
theorem v_rgI {r n t0 t t1 : Nat} (hn : n < 17) : VV w b1 b2 (cRgI r n t0 t t1) := by
  refine vgo 100 (.seg (fun a0 t0 => [1, 1, 1, 1]) fun a0 t0 => .fin false (fun i => a0 0) 1 [0]) ?_
  rcases n with _ | _ | _ | _ | _ | _ | _ | _ | _ | _ | _ | _ | _ | _ | _ | _ | _ | n
  case' succ.succ.succ.succ.succ.succ.succ.succ.succ.succ.succ.succ.succ.succ.succ.succ.succ => exact absurd hn (by omega)
  all_goals (cases b2 <;> exact fun ρ => by kernel_rfl)
end Mine

open PySem PySem.W PySem.W.X PyProof.Rows
namespace Mine
variable {w : World} {b1 b2 : Bool}
abbrev nv (p : Nat × Nat) : Value := .int (p.1 : Nat) p.2
noncomputable def cXor (a t b u : Nat) : Con := { c := .call (.builtin "int.__xor__") ⟨[.int (a : Nat) t, .int (b : Nat) u], []⟩, pre := [], dep := 0, uni := 10, post := fun e => (.res (.ok (.ret (.int ((a ^^^ b : Nat) : Int) (e 0)))), [], []) }
theorem xor_all : ∀ a : _root_.Fin 16, ∀ b : _root_.Fin 16, Builtin.bitXor ((a.1 : Nat) : Int) ((b.1 : Nat) : Int) = ((a.1 ^^^ b.1 : Nat) : Int) := by decide +kernel
theorem xor_eq {a b : Nat} (ha : a < 16) (hb : b < 16) : Builtin.bitXor (a : Int) (b : Int) = ((a ^^^ b : Nat) : Int) := xor_all ⟨a, ha⟩ ⟨b, hb⟩
theorem v_xor {a t b u : Nat} (ha : a < 16) (hb : b < 16) : VV w b1 b2 (cXor a t b u) := by
  unfold cXor
  rw [← xor_eq ha hb]
  refine vgo 60 (.seg (fun _ _ => []) fun a0 t0 => .fin false (fun _ => t0 0) 0 []) ?_
  cases b2 <;> exact fun ρ => by kernel_rfl
def adj (a b : Nat) : Bool := [1, 2, 4, 8].contains (a ^^^ b)
noncomputable def cTin (a t0 t1 t2 t3 : Nat) (z t : Nat) (b : Bool) : Con := { c := .call (.builtin "tuple.__contains__") ⟨[.ref a, .int (z : Nat) t], []⟩, pre := [(a, tupO [.int 1 t0, .int 2 t1, .int 4 t2, .int 8 t3])], dep := 0, uni := 30, post := fun e => (.res (.ok (.ret (.bool b))), [tupO [.int 1 t0, .int 2 t1, .int 4 t2, .int 8 t3]], []) }
def eqV (z : Nat) (v : Value) : Bool := match v with | .int i _ => i == (z : Int) | _ => false
theorem v_tin {a t0 t1 t2 t3 z t : Nat} : VV w b1 b2 (cTin a t0 t1 t2 t3 z t ([1, 2, 4, 8].contains z)) := by
  intro A s R hA hD hU hg hpre hnd HR
  have ho := (hpre (a, tupO [.int 1 t0, .int 2 t1, .int 4 t2, .int 8 t3]) (.head _)).1
  have ho' := ho
  rw [tupO_eq] at ho'
  have hT : s.TypeIs (.ref a) "tuple" := ⟨_, ho', rfl⟩
  have M := MeetsSeq2.tuple_contains a ⟨[.int 1 t0, .int 2 t1, .int 4 t2, .int 8 t3]⟩ 0 (.int (z : Nat) t) (eqV z) (fun y hy => by
    have : y = .int 1 t0 ∨ y = .int 2 t1 ∨ y = .int 4 t2 ∨ y = .int 8 t3 := by simpa using hy
    rcases this with rfl | rfl | rfl | rfl <;> exact MeetsSeq.EqGives.int _ _ _ _)
  have e : (Array.mk [.int 1 t0, .int 2 t1, .int 4 t2, .int 8 t3]).any (eqV z) = [1, 2, 4, 8].contains z := by
    rw [← Array.any_toList]
    have h : ∀ k : Nat, (((k : Nat) : Int) == (z : Int)) = (z == k) := fun k => by
      by_cases h : z = k
      · subst h; exact (beq_self_eq_true _).trans (beq_self_eq_true _).symm
      · have h2 : ¬ ((k : Int) = (z : Int)) := by omega
        rw [beq_eq_false_iff_ne.mpr h2, beq_eq_false_iff_ne.mpr h]
    show ((((1 : Nat) : Int) == (z : Int)) || ((((2 : Nat) : Int) == (z : Int)) || ((((4 : Nat) : Int) == (z : Int)) || ((((8 : Nat) : Int) == (z : Int)) || false)))) = _
    rw [h, h, h, h]
    simp only [List.contains_cons, List.contains_nil]
  refine code_slotM PySem.F.slot_tuple_contains hT PySem.F.entry_tuple_contains (PySem.F.args_tuple_contains_2 _ _) M ⟨ho', ?_⟩
  rw [e]
  exact HR (fun _ => 0) s (Out.refl fun p hp => (hpre p hp).1)
noncomputable def tldFor : Expr × Expr × List Stmt := match (fdAt 20).2.1[1]? with
  | some (Stmt.For t it b _ _) => (t, it, b)
  | _ => default
noncomputable def tldComp : Expr × Scope := match tldFor.2.2[0]? with
  | some (Stmt.Assign _ (Expr.Call _ [Expr.ListComp e g sc p] _ _) _) => (Expr.ListComp e g sc p, sc)
  | _ => default
noncomputable def tldCEnv (dct celS celP L : Nat) : Env := { scope := cellScope tldComp.2, locals := dct, globals := 3, cells := [(⟨⟨[115, 112, 111, 116]⟩⟩, celS), (⟨⟨[112, 105, 99, 107, 115]⟩⟩, celP)], qual := ⟨⟨[95, 108, 97, 119, 95, 116, 111, 108, 100, 46, 60, 108, 111, 99, 97, 108, 115, 62, 46]⟩⟩, func := none, code := .ref 129, frame := some L, builtins := 0 }
noncomputable def tldCCode (it acc dct celS celP L : Nat) : Code := .compLoop tldComp.1 0 (.ref it) (.ref acc) (tldCEnv dct celS celP L)
noncomputable def tldSCode (it acc dct celS celP L : Nat) : Code := .compStart tldComp.1 0 (.ref it) (.ref acc) (tldCEnv dct celS celP L)
abbrev pickL : List Nat := [112, 105, 99, 107]
noncomputable def cTCT (P : Params) (it src dct celP celS pk acc L : Nat) (xs : List Value) (n i : Nat) (mo : Option (Nat × Value)) (spot ts : Nat) (ps : List Value) (np : Nat) (al : List Value) (na : Nat) (p : Nat × Nat) (b : Bool) : Con :=
  { c := tldCCode it acc dct celS celP L, pre := [(it, liO src i), (src, lst xs n), (dct, oneO P pickL mo), (celP, cellO (.ref pk)), (celS, cellO (.int spot ts)), (pk, lst ps np), (acc, lst al na)], dep := 20, uni := 300,
    post := fun e => (.again (tldCCode it acc dct celS celP L), [liO src ((i + 1 : Nat) : Int), lst xs n, oneO P pickL (some (midT mo (e 0), nv p)), cellO (.ref pk), cellO (.int spot ts), lst ps np, match b with | true => lst (al ++ [nv p]) (na + 1) | false => lst al na], []) }
theorem v_TCT {it src dct celP celS pk acc L : Nat} {xs : List Value} {n i : Nat} {mo : Option (Nat × Value)} {spot ts : Nat} {ps : List Value} {np : Nat} {al : List Value} {na : Nat} {p q : Nat × Nat} {b : Bool}
    (hx : xs[i]? = some (nv p)) (hq : ps[spot]? = some (nv q)) (hp16 : p.1 < 16) (hq16 : q.1 < 16) (hsp : spot < 2 ^ 20) (hal : al.length < 2 ^ 20) (hb : adj p.1 q.1 = b) : VV w b1 b2 (cTCT (wf w b1 b2).params it src dct celP celS pk acc L xs n i mo spot ts ps np al na p b) := by
  have h1 : VV w b1 b2 (cNx it src xs n i (nv p)) := v_nx hx
  have h2 : VV w b1 b2 (cGet pk ps np spot ts (nv q)) := v_get (by omega) (by omega) (by rw [Int.toNat_natCast]; exact hq)
  have h3 : VV w b1 b2 (cXor p.1 p.2 q.1 q.2) := v_xor hp16 hq16
  have h4 : ∀ a t0 t1 t2 t3 t, VV w b1 b2 (cTin a t0 t1 t2 t3 (p.1 ^^^ q.1) t b) := fun a t0 t1 t2 t3 t => by rw [← hb]; exact v_tin
  have h5 : VV w b1 b2 (cApp acc al na (nv p)) := v_app hal
  refine vgo 300 (.seg (fun a0 t0 => [1, 1]) fun a0 t0 =>
    .orc (cNx it src xs n i (nv p)) [0, 1] h1 fun e0 =>
    .seg (fun a1 t1 => [3, 2, 3, 4, 5, 6, 6, 6, 1]) fun a1 t1 =>
    .orc (cGet pk ps np spot ts (nv q)) [5] h2 fun e1 =>
    .seg (fun a2 t2 => [1]) fun a2 t2 =>
    .orc (cXor p.1 p.2 q.1 q.2) [] h3 fun e2 =>
    .seg (fun a3 t3 => [1, 1, 1]) fun a3 t3 =>
    .orc (cTin (a3 0) (t3 0) (t3 1) (t3 2) (t3 3) (p.1 ^^^ q.1) (e2 0) b) [0] (h4 _ _ _ _ _ _) fun e3 => match b with
    | true => .seg (fun a2 t2 => [4, 1]) fun a2 t2 => .orc (cApp acc al na (nv p)) [7] h5 fun e4 => .seg (fun _ _ => []) fun _ _ => .fin true (fun _ => t1 0) 1 []
    | false => .seg (fun a2 t2 => []) fun a2 t2 => .fin true (fun _ => t1 0) 1 []) ?_
  cases b2 <;> cases b <;> cases mo <;> exact fun ρ => by kernel_rfl
noncomputable def cTCE (it src dct celS celP acc L : Nat) (xs : List Value) (n i : Nat) : Con :=
  { c := tldCCode it acc dct celS celP L, pre := [(it, liO src i), (src, lst xs n)], dep := 20, uni := 300, post := fun e => (.res (.ok .next), [liE i, lst xs n], []) }
theorem v_TCE {it src dct celS celP acc L : Nat} {xs : List Value} {n i : Nat} (hx : xs[i]? = none) : VV w b1 b2 (cTCE it src dct celS celP acc L xs n i) := by
  refine vgo 100 (.seg (fun a0 t0 => [1, 1]) fun a0 t0 => .orc (cNxE it src xs n i) [0, 1] (v_nxE hx) fun e0 => .seg (fun a1 t1 => [1]) fun a1 t1 => .fin false (fun _ => 0) 2 []) ?_
  cases b2 <;> exact fun ρ => by kernel_rfl
theorem v_tldS {it src acc dct celS celP L : Nat} {i : Int} : VV w b1 b2 { c := tldSCode it acc dct celS celP L, pre := [(it, liO src i)], dep := 20, uni := 300, post := fun e => (.again (tldCCode it acc dct celS celP L), [liO src i], []) } := by
  refine vgo 100 (.seg (fun a0 t0 => sSt b1) fun a0 t0 => .fin true (fun _ => 0) 0 []) ?_
  cases b1 <;> cases b2 <;> exact fun ρ => by kernel_rfl
/-- the comprehension of _law_told -/
noncomputable def cTC (P : Params) (it src dct celP celS pk acc L : Nat) (ys : List Value) (n : Nat) (spot ts : Nat) (ps : List Value) (np : Nat) (al : List Value) (lo : Option Value) : Con :=
  { c := tldSCode it acc dct celS celP L, pre := [(it, liO src (0 : Nat)), (src, lst ys n), (dct, dicO [] 0), (celP, cellO (.ref pk)), (celS, cellO (.int spot ts)), (pk, lst ps np), (acc, lst [] 0)], dep := 20, uni := 300,
    post := fun e => (.res (.ok .next), [liE ys.length, lst ys n, oneO P pickL (withT lo (e 0)), cellO (.ref pk), cellO (.int spot ts), lst ps np, lst al al.length], []) }
abbrev tldA (ys : List (Nat × Nat)) (q : Nat) : List (Nat × Nat) := ys.filter fun p => adj p.1 q
theorem flat_filter (q : Nat) : ∀ ys : List (Nat × Nat), (ys.flatMap fun p => if adj p.1 q = true then [nv p] else []) = (tldA ys q).map nv
  | [] => rfl
  | p :: ys => by
    rw [List.flatMap_cons, flat_filter q ys]
    unfold tldA
    rw [List.filter_cons]
    by_cases h : adj p.1 q = true <;> simp [h]
theorem v_TC {it src dct celP celS pk acc L : Nat} {ys : List (Nat × Nat)} {n spot ts : Nat} {ps : List Value} {np : Nat} {q : Nat × Nat}
    (hys : ys.length < 2 ^ 20) (h16 : ∀ p ∈ ys, p.1 < 16) (hq : ps[spot]? = some (nv q)) (hq16 : q.1 < 16) (hsp : spot < 2 ^ 20) : VV w b1 b2 (cTC (wf w b1 b2).params it src dct celP celS pk acc L (ys.map nv) n spot ts ps np ((tldA ys q.1).map nv) (ys.map nv).getLast?) := by
  have h := v_compL (w := w) (b1 := b1) (b2 := b2) (c := tldCCode it acc dct celS celP L) (cs := tldSCode it acc dct celS celP L) (it := it) (src := src) (dct := dct) (acc := acc) (as := [celP, celS, pk]) (mid := [cellO (.ref pk), cellO (.int spot ts), lst ps np]) (nm := pickL) (vals := ys.map nv) (n := n) (dep := 20) (uni := 300) (em := emL ys fun p => if adj p.1 q.1 = true then [nv p] else []) rfl (fun i t => by
      unfold emL
      cases ys[i]? with
      | none => simp
      | some p => dsimp only; split <;> simp) (by simpa using hys) v_tldS (fun i v mo al hx hal => by
      rw [List.getElem?_map] at hx
      cases hy : ys[i]? with
      | none => rw [hy] at hx; cases hx
      | some p =>
        rw [hy] at hx
        have hv : nv p = v := by simpa using hx
        subst hv
        have hx' : (ys.map nv)[i]? = some (nv p) := by rw [List.getElem?_map, hy]; rfl
        refine valid_as (v_TCT (L := L) (it := it) (src := src) (dct := dct) (celP := celP) (celS := celS) (pk := pk) (acc := acc) (n := n) (mo := mo) (ts := ts) (np := np) (na := al.length) hx' hq (h16 p (List.mem_of_getElem? hy)) hq16 hsp hal rfl) rfl rfl (Nat.le_refl _) (Nat.le_refl _) fun e => ⟨e, ?_⟩
        have em : emL ys (fun p => if adj p.1 q.1 = true then [nv p] else []) i (e 1) = if adj p.1 q.1 = true then [nv p] else [] := by
          unfold emL; rw [hy]
        show (_, [_, _, _, _, _, _, lst (al ++ emL ys (fun p => if adj p.1 q.1 = true then [nv p] else []) i (e 1)) (al ++ emL ys (fun p => if adj p.1 q.1 = true then [nv p] else []) i (e 1)).length], _) = (_, [_, _, _, _, _, _, _], _)
        rw [em]
        cases adj p.1 q.1 with
        | true => rw [if_pos rfl, List.length_append]; rfl
        | false => rw [if_neg (by decide), List.append_nil])
    (by
      have := v_TCE (w := w) (b1 := b1) (b2 := b2) (it := it) (src := src) (dct := dct) (celS := celS) (celP := celP) (acc := acc) (L := L) (xs := ys.map nv) (n := n) (i := (ys.map nv).length) (by simp)
      exact this)
  refine valid_as h rfl rfl (Nat.le_refl _) (Nat.le_refl _) fun e => ⟨e, ?_⟩
  have ea : accE (emL ys fun p => if adj p.1 q.1 = true then [nv p] else []) (ys.map nv).length (fun j => e (j + 1)) = (tldA ys q.1).map nv := by
    rw [List.length_map, accE_emL', flat_filter]
  have el := lastV_end (ys.map nv) (e 0)
  show (_, [_, _, oneO _ _ (withT (ys.map nv).getLast? (e 0)), _, _, _, lst ((tldA ys q.1).map nv) ((tldA ys q.1).map nv).length], _) = (_, [_, _, oneO _ _ (lastV (ys.map nv) (ys.map nv).length (e 0)), _, _, _, lst (accE _ _ _) (accE _ _ _).length], _)
  rw [ea, el]
end Mine

open PySem PySem.W PySem.W.X PyProof.Rows
namespace Mine
variable {w : World} {b1 b2 : Bool}
noncomputable def celO (v : Option Value) : Obj := ⟨tCell, none, .cell v, ⟨[]⟩⟩
noncomputable def tldFr (P : Params) (t1 cn : Nat) : Option (Nat × Value) → Obj
  | none => frm [en1 P [99, 111, 117, 110, 116, 115] t1 (.ref cn)] 1
  | some m => frm [en1 P [99, 111, 117, 110, 116, 115] t1 (.ref cn), en1 P [109, 101, 116] m.1 m.2] 2
noncomputable def tldEnv (L celS celP : Nat) : Env := { scope := (fdAt 20).2.2, locals := L, globals := 3, cells := [(⟨⟨[115, 112, 111, 116]⟩⟩, celS), (⟨⟨[112, 105, 99, 107, 115]⟩⟩, celP)], qual := ⟨⟨[95, 108, 97, 119, 95, 116, 111, 108, 100, 46, 60, 108, 111, 99, 97, 108, 115, 62, 46]⟩⟩, func := some 130, code := .ref 129, frame := some L, builtins := 0 }
noncomputable def tldFCode (it L celS celP : Nat) : Code := .forLoop tldFor.1 (.ref it) tldFor.2.2 [] (tldEnv L celS celP)
noncomputable def cTT (P : Params) (it celS celP pk L cn : Nat) (i k : Nat) (so : Option Value) (ps : List Value) (np t1 : Nat) (mo : Option (Nat × Value)) (cs : List Value) (nc : Nat) (met : Nat) (s : Int) : Con :=
  { c := tldFCode it L celS celP, pre := [(it, riO i ((k + 1 : Nat) : Int)), (celS, celO so), (celP, cellO (.ref pk)), (pk, lst ps np), (L, tldFr P t1 cn mo), (cn, lst cs nc)], dep := 40, uni := 600,
    post := fun e => (.again (tldFCode it L celS celP), [riO ((i + 1 : Nat) : Int) k, celO (some (.int i (e 0))), cellO (.ref pk), lst ps np, tldFr P t1 cn (some (midT mo (e 1), .int met (e 2))), lst (cs ++ [.int (s + met) (e 3)]) (nc + 1)], []) }
abbrev metT (ps : List (Nat × Nat)) (i q : Nat) : Nat := (tldA (ps.take i) q).length
theorem v_TT {it celS celP pk L cn i k : Nat} {so : Option Value} {ps : List (Nat × Nat)} {np t1 : Nat} {mo : Option (Nat × Value)} {cs : List (Int × Nat)} {nc : Nat} {q : Nat × Nat}
    (hps : ps.length < 2 ^ 20) (h16 : ∀ p ∈ ps, p.1 < 16) (hq : ps[i]? = some q) (hcs : cs.length < 2 ^ 20)
    (hf : ∀ (i : Nat) (y : Int × Nat), (last1 cs)[i]? = some y → -(2 ^ 63) ≤ y.1 ∧ y.1 < 2 ^ 63) (hs : ∀ i, -(2 ^ 63) ≤ sumTo (last1 cs) i ∧ sumTo (last1 cs) i < 2 ^ 63) :
    VV w b1 b2 (cTT (wf w b1 b2).params it celS celP pk L cn i k so (ps.map nv) np t1 mo (cs.map iv) nc (metT ps i q.1) (last1S cs)) := by
  have hi : i < ps.length := (List.getElem?_eq_some_iff.mp hq).1
  have k1 : VV w b1 b2 (cRNx it i k) := v_rnx
  have k2 : ∀ sl t, VV w b1 b2 (cSl pk (ps.map nv) np sl .none (.int i t) ((ps.take i).map nv)) := fun sl t => v_sl .none (.int _ _) (by simpa using hps) (by rw [sliceto _ _ (by simpa using Nat.le_of_lt hi), List.map_take])
  have hln : ((ps.take i).map nv).length = i := by simp; omega
  have k3 : ∀ it src dct acc ts, VV w b1 b2 (cTC (wf w b1 b2).params it src dct celP celS pk acc L ((ps.take i).map nv) 0 i ts (ps.map nv) np ((tldA (ps.take i) q.1).map nv) ((ps.take i).map nv).getLast?) := fun it src dct acc ts =>
    v_TC (by simp; omega) (fun p hp => h16 p (List.mem_of_mem_take hp)) (by rw [List.getElem?_map, hq]; rfl) (h16 q (List.mem_of_getElem? hq)) (by omega)
  have k4 : ∀ acc, VV w b1 b2 (cLenK acc ((tldA (ps.take i) q.1).map nv) ((tldA (ps.take i) q.1).map nv).length (metT ps i q.1)) := fun acc => v_lenK (by
    rw [List.length_map]
    exact Nat.lt_of_le_of_lt (List.length_filter_le _ _) (by simp; omega)) (by rw [List.length_map])
  have k5 : ∀ sl t, VV w b1 b2 (cSl cn (cs.map iv) nc sl (.int (-1) t) .none ((last1 cs).map iv)) := fun sl t => v_sl (.int _ _) .none (by simpa using hcs) (by rw [slicelast, List.map_drop, List.length_map])
  have k6 : ∀ a, VV w b1 b2 (cSumV a ((last1 cs).map iv) 0 (last1S cs)) := fun a => v_sumV hf hs
  have k7 : ∀ t, VV w b1 b2 (cApp cn (cs.map iv) nc (.int (last1S cs + (metT ps i q.1 : Nat)) t)) := fun t => v_app (by simpa using hcs)
  generalize last1S cs = s at k6 k7 ⊢
  generalize metT ps i q.1 = met at k4 k7 ⊢
  generalize (last1 cs).map iv = lv at k5 k6
  generalize cs.map iv = cv at k5 k7 ⊢
  generalize (tldA (ps.take i) q.1).map nv = al at k3 k4
  generalize ((ps.take i).map nv).getLast? = lo at k3
  generalize (ps.take i).map nv = tv at k2 k3
  generalize ps.map nv = pv at k2 k3 ⊢
  refine vgo 600 (.seg (fun a0 t0 => [1, 1]) fun a0 t0 =>
    .orc (cRNx it i k) [0] k1 fun e0 =>
    .seg (fun a1 t1 => [2, 1, 0, 0, 3, 2, 5, 5, 5, 1]) fun a1 t1 =>
    .orc (cSl pk pv np (a1 0) .none (.int i (e0 0)) tv) [4, 0] (k2 _ _) fun e1 =>
    .seg (fun a2 t2 => [1, 1, 0, 1, 1, 1]) fun a2 t2 =>
    .orc (cTC (wf w b1 b2).params (a2 0) (e1 0) (a2 2) celP celS pk (a2 1) L tv 0 i (e0 0) pv np al lo) [2, 3, 0, 7, 6, 8, 1] (k3 _ _ _ _ _) fun e2 =>
    .seg (fun a3 t3 => match lo with | none => [1, 1] | some _ => [1, 1, 0, 1]) fun a3 t3 =>
    .orc (cLenK (a2 1) al al.length met) [1] (k4 _) fun e3 =>
    .seg (fun a4 t4 => [10, 9, 10, 11, 11, 11, 11, 0, 0, 10, 0, 12, 12, 12, 1]) fun a4 t4 =>
    .orc (cSl cn cv nc (a4 0) (.int (-1) (t4 2)) .none lv) [11, 0] (k5 _ _) fun e4 =>
    .seg (fun a5 t5 => [1]) fun a5 t5 =>
    .orc (cSumV (e4 0) lv 0 s) [0] (k6 _) fun e5 =>
    .seg (fun a6 t6 => [12, 0, 1]) fun a6 t6 =>
    .orc (cApp cn cv nc (.int (s + (met : Nat)) (t6 0))) [12] (k7 _) fun e6 =>
    .seg (fun a7 t7 => []) fun a7 t7 =>
    .fin true (fun i => match i with | 0 => e0 0 | 1 => t4 0 | 2 => e3 0 | _ => t6 0) 7 []) ?_
  cases b2 <;> cases mo <;> cases lo <;> exact fun ρ => by kernel_rfl
theorem last_fitB {cs : List (Int × Nat)} {B : Int} (h : ∀ v ∈ cs.map (·.1), 0 ≤ v ∧ v ≤ B) (hB : B < 2 ^ 62) : (∀ (i : Nat) (y : Int × Nat), (last1 cs)[i]? = some y → -(2 ^ 63) ≤ y.1 ∧ y.1 < 2 ^ 63) ∧ ∀ i, -(2 ^ 63) ≤ sumTo (last1 cs) i ∧ sumTo (last1 cs) i < 2 ^ 63 := by
  have hm : ∀ c ∈ last1 cs, 0 ≤ c.1 ∧ c.1 ≤ B := fun c hc => h c.1 (List.mem_map_of_mem (List.mem_of_mem_drop hc))
  refine ⟨fun i y hy => ?_, fun i => ?_⟩
  · have := hm y (List.mem_of_getElem? hy)
    omega
  · have hl : (last1 cs).length ≤ 1 := by unfold last1; rw [List.length_drop]; omega
    revert hm hl
    generalize last1 cs = l
    intro hm hl
    match l, hl with
    | [], _ => unfold sumTo; simp
    | [c], _ =>
      have := hm c (by simp)
      unfold sumTo
      cases i with
      | zero => simp
      | succ i => simp; omega
def valAt (ps : List (Nat × Nat)) (i : Nat) : Nat := (ps[i]?.getD (0, 0)).1
def tldAt (ps : List (Nat × Nat)) : Nat → List Int
  | 0 => []
  | i + 1 => tldAt ps i ++ [lastI (tldAt ps i) + (metT ps i (valAt ps i) : Nat)]
theorem tldAt_b {ps : List (Nat × Nat)} (h : ps.length ≤ 1024) : ∀ i, (tldAt ps i).length = i ∧ ∀ v ∈ tldAt ps i, 0 ≤ v ∧ v ≤ 1024 * (i : Int)
  | 0 => by simp [tldAt]
  | i + 1 => by
    obtain ⟨h1, h2⟩ := tldAt_b h i
    have hm : metT ps i (valAt ps i) ≤ 1024 := Nat.le_trans (List.length_filter_le _ _) (by simp; omega)
    have hl : 0 ≤ lastI (tldAt ps i) ∧ lastI (tldAt ps i) ≤ 1024 * (i : Int) := by
      generalize tldAt ps i = vs at h2
      rcases List.eq_nil_or_concat vs with rfl | ⟨us, u, rfl⟩
      · unfold lastI; simp; omega
      · rw [List.concat_eq_append, lastI_snoc]
        exact h2 u (by simp)
    refine ⟨?_, fun v hv => ?_⟩
    · show List.length (_ ++ _) = _
      rw [List.length_append, h1]; rfl
    · rcases List.mem_append.mp hv with hv | hv
      · have := h2 v hv
        omega
      · have : v = lastI (tldAt ps i) + (metT ps i (valAt ps i) : Nat) := by simpa using hv
        omega
structure TD where
  (ts tm tv : Nat) (cs : List (Int × Nat))
def tldSo (i ts : Nat) : Option Value := match i with
  | 0 => none
  | j + 1 => some (.int (j : Nat) ts)
def tldMo (ps : List (Nat × Nat)) (i tm tv : Nat) : Option (Nat × Value) := match i with
  | 0 => none
  | j + 1 => some (tm, .int (metT ps j (valAt ps j) : Nat) tv)
noncomputable abbrev tldS (P : Params) (pk cn t1 : Nat) (ps : List (Nat × Nat)) (np : Nat) (i : Nat) (d : TD) : List Obj :=
  [riO i ((ps.length - i : Nat) : Int), celO (tldSo i d.ts), cellO (.ref pk), lst (ps.map nv) np, tldFr P t1 cn (tldMo ps i d.tm d.tv), lst (d.cs.map iv) i]
noncomputable def cTL (P : Params) (it celS celP pk L cn t1 : Nat) (ps : List Value) (np n m : Nat) (vs : List Int) : Con :=
  { c := tldFCode it L celS celP, pre := [(it, riO (0 : Nat) ((n + 1 : Nat) : Int)), (celS, celO none), (celP, cellO (.ref pk)), (pk, lst ps np), (L, tldFr P t1 cn none), (cn, lst [] 0)], dep := 40, uni := 600,
    post := fun e => (.res (.ok .next), [riO ((n + 1 : Nat) : Int) (0 : Nat), celO (some (.int (n : Nat) (e 0))), cellO (.ref pk), lst ps np, tldFr P t1 cn (some (e 1, .int m (e 2))), lst ((tokL vs fun j => e (j + 3)).map iv) (n + 1)], []) }
theorem v_TLE {it L celS celP : Nat} {n : Nat} : VV w b1 b2 { c := tldFCode it L celS celP, pre := [(it, riO n (0 : Nat))], dep := 40, uni := 600, post := fun e => (.res (.ok .next), [riO n (0 : Nat)], []) } := by
  refine vgo 100 (.seg (fun a0 t0 => [1, 1]) fun a0 t0 => .orc (cRNxE it n) [0] v_rnxE fun e0 => .seg (fun _ _ => [1]) fun _ _ => .fin false (fun _ => 0) 2 []) ?_
  cases b2 <;> exact fun ρ => by kernel_rfl
theorem v_TL {it celS celP pk L cn t1 : Nat} {ps : List (Nat × Nat)} {np n : Nat} (hn : ps.length = n + 1) (hps : ps.length ≤ 1024) (h16 : ∀ p ∈ ps, p.1 < 16) :
    VV w b1 b2 (cTL (wf w b1 b2).params it celS celP pk L cn t1 (ps.map nv) np n (metT ps n (valAt ps n)) (tldAt ps (n + 1))) := by
  have hl := valid_loopP (prog := pw) (w := wf w b1 b2) (kg := kg (wf w b1 b2)) (c := tldFCode it L celS celP) (as := [it, celS, celP, pk, L, cn]) (dep := 40) (uni := 600) ps.length (fun i (d : TD) => d.cs.map (·.1) = tldAt ps i) (fun i d => tldS (wf w b1 b2).params pk cn t1 ps np i d) (fun _ => .ok .next)
    (fun e => [riO ((n + 1 : Nat) : Int) (0 : Nat), celO (some (.int (n : Nat) (e 0))), cellO (.ref pk), lst (ps.map nv) np, tldFr (wf w b1 b2).params t1 cn (some (e 1, .int (metT ps n (valAt ps n) : Nat) (e 2))), lst ((tokL (tldAt ps (n + 1)) fun j => e (j + 3)).map iv) (n + 1)]) (fun _ _ => rfl)
    (fun i d hi hp => by
      have hq : ps[i]? = some ps[i] := List.getElem?_eq_getElem hi
      obtain ⟨k, hk⟩ : ∃ k, ps.length = i + (k + 1) := ⟨ps.length - i - 1, by omega⟩
      have k1 : ps.length - i = k + 1 := by omega
      have k2 : ps.length - (i + 1) = k := by omega
      have hv : valAt ps i = (ps[i]).1 := by unfold valAt; rw [hq]; rfl
      generalize ps[i] = q at hq hv
      obtain ⟨z1, z2⟩ := tldAt_b hps i
      rw [← hp] at z1 z2
      rw [List.length_map] at z1
      have fit := last_fitB z2 (by omega)
      have h := v_TT (w := w) (b1 := b1) (b2 := b2) (it := it) (celS := celS) (celP := celP) (pk := pk) (L := L) (cn := cn) (i := i) (k := k) (so := tldSo i d.ts) (np := np) (t1 := t1) (mo := tldMo ps i d.tm d.tv) (cs := d.cs) (nc := i) (by omega) h16 hq (by omega) fit.1 fit.2
      refine ⟨fun e => ⟨e 0, midT (tldMo ps i d.tm d.tv) (e 1), e 2, d.cs ++ [(last1S d.cs + (metT ps i q.1 : Nat), e 3)]⟩, fun e => ?_, ?_⟩
      · show (d.cs ++ _).map (·.1) = tldAt ps i ++ [lastI (tldAt ps i) + (metT ps i (valAt ps i) : Nat)]
        rw [List.map_append, hp, last1S_eq, hp, hv]
        rfl
      · refine valid_as h rfl ?_ (Nat.le_refl _) (Nat.le_refl _) fun e => ⟨e, ?_⟩
        · show [(it, riO i ((ps.length - i : Nat) : Int)), _, _, _, _, _] = _
          rw [k1]
          rfl
        · have e2 : (d.cs ++ [(last1S d.cs + (metT ps i q.1 : Nat), e 3)]).map iv = d.cs.map iv ++ [.int (last1S d.cs + (metT ps i q.1 : Nat)) (e 3)] := by
            rw [List.map_append]; rfl
          show (_, [riO _ ((ps.length - (i + 1) : Nat) : Int), _, _, _, tldFr _ _ _ (some (_, .int (metT ps i (valAt ps i) : Nat) _)), lst (List.map iv (d.cs ++ [_])) _], _) = (_, [_, _, _, _, _, _], _)
          rw [k2, hv, e2]
          rfl)
    (fun d hp => by
      obtain ⟨τ, hτ⟩ := tokL_of d.cs
      refine ⟨fun _ i => match i with | 0 => d.ts | 1 => d.tm | 2 => d.tv | j + 3 => τ j, ?_⟩
      have h : VV w b1 b2 { c := tldFCode it L celS celP, pre := [(it, riO ps.length ((ps.length - ps.length : Nat) : Int))], dep := 40, uni := 600, post := fun e => (.res (.ok .next), [riO ps.length (0 : Nat)], []) } := by
        rw [Nat.sub_self]; exact v_TLE
      refine valid_frame (ex := [celS, celP, pk, L, cn].zip (tldS (wf w b1 b2).params pk cn t1 ps np ps.length d).tail) h rfl rfl (Nat.le_refl _) (Nat.le_refl _) fun e => ?_
      rw [hp] at hτ
      show (_, [_, celO (some _), _, _, tldFr _ _ _ (some _), lst ((tokL (tldAt ps (n + 1)) fun j => τ j).map iv) (n + 1)], _) = (_, [_, celO (tldSo ps.length d.ts), _, _, tldFr _ _ _ (tldMo ps ps.length d.tm d.tv), lst (d.cs.map iv) ps.length], _)
      rw [hn] at hτ ⊢
      rw [← hτ]
      rfl)
    0 ⟨0, 0, 0, []⟩ (Nat.zero_le _) rfl
  refine valid_as hl rfl ?_ (Nat.le_refl _) (Nat.le_refl _) fun e => ⟨e, rfl⟩
  show _ = [(it, riO (0 : Nat) ((ps.length - 0 : Nat) : Int)), _, _, _, _, _]
  rw [Nat.sub_zero, hn]
  rfl
noncomputable def cTold (pk : Nat) (ps : List Value) (np n : Nat) (vs : List Int) : Con :=
  { c := .call (.ref 130) ⟨[.ref pk], []⟩, pre := [(pk, lst ps np)], dep := 50, uni := 800, post := fun e => (.res (.ok (.ret (.ref (e 0)))), [lst ps np], [(e 0, lst ((tokL vs fun j => e (j + 1)).map iv) n)]) }
theorem v_told {pk : Nat} {ps : List (Nat × Nat)} {np n : Nat} (hn : ps.length = n + 1) (hps : n + 1 < 17) (h16 : ∀ p ∈ ps, p.1 < 16) : VV w b1 b2 (cTold pk (ps.map nv) np (n + 1) (tldAt ps (n + 1))) := by
  have k1 : VV w b1 b2 (cLenK pk (ps.map nv) np (n + 1)) := v_lenK (by rw [List.length_map, hn]; omega) (by rw [List.length_map, hn])
  have k2 : ∀ r t0 t t1, VV w b1 b2 (cRgI r (n + 1) t0 t t1) := fun _ _ _ _ => v_rgI hps
  have k3 : ∀ it celS celP L cn t1, VV w b1 b2 (cTL (wf w b1 b2).params it celS celP pk L cn t1 (ps.map nv) np n (metT ps n (valAt ps n)) (tldAt ps (n + 1))) := fun _ _ _ _ _ _ => v_TL hn (by omega) h16
  generalize tldAt ps (n + 1) = vs at k3 ⊢
  generalize metT ps n (valAt ps n) = m at k3
  generalize ps.map nv = pv at k1 k3 ⊢
  refine vgo 300 (.seg (fun a0 t0 => [0, 0, 2, 1, 0, 4, 3, 0, 0, 0, 0, 3, 1]) fun a0 t0 =>
    .orc (cLenK pk pv np (n + 1)) [4] k1 fun e0 =>
    .seg (fun a1 t1 => [1]) fun a1 t1 =>
    .orc (cRg ((n + 1 : Nat) : Int) (e0 0)) [] v_rg fun e1 =>
    .seg (fun a2 t2 => [1, 1, 1]) fun a2 t2 =>
    .orc (cRgI (e1 0) (n + 1) (e1 1) (e0 0) (e1 2)) [0] (k2 _ _ _ _) fun e2 =>
    .seg (fun a3 t3 => [1, 1]) fun a3 t3 =>
    .orc (cTL (wf w b1 b2).params (e2 0) (a0 2) (a0 1) pk (a0 0) (a0 3) (t0 0) pv np n m vs) [0, 3, 4, 6, 5, 2] (k3 _ _ _ _ _ _) fun e3 =>
    .seg (fun a4 t4 => [6]) fun a4 t4 =>
    .fin false (fun i => match i with | 0 => a0 3 | j + 1 => e3 (j + 3)) 6 [2]) ?_
  cases b2 <;> exact fun ρ => by kernel_rfl
end Mine

open PySem PySem.W PySem.W.X PyProof.Rows
namespace Mine
variable {w : World} {b1 b2 : Bool}
noncomputable def cMax (t : Nat) (v : Int) (u : Nat) (m : Int) : Con := { c := .call (.builtin "max") ⟨[.int 0 t, .int v u], []⟩, pre := [], dep := 8, uni := 60, post := fun e => (.res (.ok (.ret (.int m (e 0)))), [], []) }
theorem v_max {t u : Nat} {v : Int} (h1 : -9 ≤ v) (h2 : v ≤ 8) : VV w b1 b2 (cMax t v u (max 0 v)) := by
  have hc : v = -9 ∨ v = -8 ∨ v = -7 ∨ v = -6 ∨ v = -5 ∨ v = -4 ∨ v = -3 ∨ v = -2 ∨ v = -1 ∨ v = 0 ∨ v = 1 ∨ v = 2 ∨ v = 3 ∨ v = 4 ∨ v = 5 ∨ v = 6 ∨ v = 7 ∨ v = 8 := by omega
  by_cases hv : v ≤ 0
  · have hm : max 0 v = 0 := by omega
    rw [hm]
    refine vgo 300 (.seg (fun a0 t0 => [1, 1, 0, 1, 1, 1, 2, 0, 2, 2, 2, 3, 2, 1, 1, 0, 1, 1, 2, 0, 2, 2, 2, 3, 2, 1, 0, 1, 2, 0, 2, 2, 2, 3, 2, 1, 1, 3, 2, 3]) fun a0 t0 => .fin false (fun _ => t) 5 []) ?_
    rcases hc with rfl | rfl | rfl | rfl | rfl | rfl | rfl | rfl | rfl | rfl | rfl | rfl | rfl | rfl | rfl | rfl | rfl | rfl
    all_goals first | exact absurd hv (by decide) | (cases b2 <;> exact fun ρ => by kernel_rfl)
  · have hm : max 0 v = v := by omega
    rw [hm]
    refine vgo 300 (.seg (fun a0 t0 => [1, 1, 0, 1, 1, 1, 2, 0, 2, 2, 2, 3, 2, 1, 1, 0, 1, 1, 2, 0, 2, 2, 2, 3, 2, 1, 0, 1, 0, 1, 1, 2, 0, 2, 2, 2, 3, 2, 1, 1, 3, 2, 3]) fun a0 t0 => .fin false (fun _ => u) 5 []) ?_
    rcases hc with rfl | rfl | rfl | rfl | rfl | rfl | rfl | rfl | rfl | rfl | rfl | rfl | rfl | rfl | rfl | rfl | rfl | rfl
    all_goals first | exact absurd (by decide) hv | (cases b2 <;> exact fun ρ => by kernel_rfl)
noncomputable def cMul (x : Int) (t : Nat) (y : Int) (u : Nat) (r : Int) : Con := { c := .call (.builtin "int.__mul__") ⟨[.int x t, .int y u], []⟩, pre := [], dep := 4, uni := 20, post := fun e => (.res (.ok (.ret (.int r (e 0)))), [], []) }
theorem v_mul {t u : Nat} {x y : Int} (h1 : 0 ≤ x) (h2 : x ≤ 8) (hy : y = 1 ∨ y = 2 ∨ y = 4 ∨ y = 8) : VV w b1 b2 (cMul x t y u (x * y)) := by
  have hc : x = 0 ∨ x = 1 ∨ x = 2 ∨ x = 3 ∨ x = 4 ∨ x = 5 ∨ x = 6 ∨ x = 7 ∨ x = 8 := by omega
  refine vgo 60 (.seg (fun _ _ => []) fun a0 t0 => .fin false (fun _ => t0 0) 0 []) ?_
  rcases hc with rfl | rfl | rfl | rfl | rfl | rfl | rfl | rfl | rfl <;> rcases hy with rfl | rfl | rfl | rfl <;> cases b2 <;> exact fun ρ => by kernel_rfl
def oneW (k bit : Int) : Int := k.fdiv (2 * bit) * bit + max 0 (k.fmod (2 * bit) - bit)
def onesOf (k : Int) : Int := oneW k 1 + oneW k 2 + oneW k 4 + oneW k 8
noncomputable def cOnes (k : Int) (t : Nat) (r : Int) : Con := { c := .call (.ref 135) ⟨[.int k t], []⟩, pre := [], dep := 20, uni := 300, post := fun e => (.res (.ok (.ret (.int r (e 0)))), [], []) }
theorem v_ones {k : Int} {t : Nat} (h1 : 0 ≤ k) (h2 : k ≤ 16) : VV w b1 b2 (cOnes k t (onesOf k)) := by
  have m1 : ∀ t u, VV w b1 b2 (cMax t (k.fmod 2 - 1) u (max 0 (k.fmod 2 - 1))) := fun t u => v_max (by rw [Int.fmod_eq_emod_of_nonneg _ (by decide)]; omega) (by rw [Int.fmod_eq_emod_of_nonneg _ (by decide)]; omega)
  have m2 : ∀ t u, VV w b1 b2 (cMax t (k.fmod 4 - 2) u (max 0 (k.fmod 4 - 2))) := fun t u => v_max (by rw [Int.fmod_eq_emod_of_nonneg _ (by decide)]; omega) (by rw [Int.fmod_eq_emod_of_nonneg _ (by decide)]; omega)
  have m3 : ∀ t u, VV w b1 b2 (cMax t (k.fmod 8 - 4) u (max 0 (k.fmod 8 - 4))) := fun t u => v_max (by rw [Int.fmod_eq_emod_of_nonneg _ (by decide)]; omega) (by rw [Int.fmod_eq_emod_of_nonneg _ (by decide)]; omega)
  have m4 : ∀ t u, VV w b1 b2 (cMax t (k.fmod 16 - 8) u (max 0 (k.fmod 16 - 8))) := fun t u => v_max (by rw [Int.fmod_eq_emod_of_nonneg _ (by decide)]; omega) (by rw [Int.fmod_eq_emod_of_nonneg _ (by decide)]; omega)
  have p1 : ∀ t u, VV w b1 b2 (cMul (k.fdiv 2) t 1 u (k.fdiv 2 * 1)) := fun t u => v_mul (by rw [Int.fdiv_eq_ediv_of_nonneg _ (by decide)]; omega) (by rw [Int.fdiv_eq_ediv_of_nonneg _ (by decide)]; omega) (by simp)
  have p2 : ∀ t u, VV w b1 b2 (cMul (k.fdiv 4) t 2 u (k.fdiv 4 * 2)) := fun t u => v_mul (by rw [Int.fdiv_eq_ediv_of_nonneg _ (by decide)]; omega) (by rw [Int.fdiv_eq_ediv_of_nonneg _ (by decide)]; omega) (by simp)
  have p3 : ∀ t u, VV w b1 b2 (cMul (k.fdiv 8) t 4 u (k.fdiv 8 * 4)) := fun t u => v_mul (by rw [Int.fdiv_eq_ediv_of_nonneg _ (by decide)]; omega) (by rw [Int.fdiv_eq_ediv_of_nonneg _ (by decide)]; omega) (by simp)
  have p4 : ∀ t u, VV w b1 b2 (cMul (k.fdiv 16) t 8 u (k.fdiv 16 * 8)) := fun t u => v_mul (by rw [Int.fdiv_eq_ediv_of_nonneg _ (by decide)]; omega) (by rw [Int.fdiv_eq_ediv_of_nonneg _ (by decide)]; omega) (by simp)
  have b : ∀ (bit : Int), bit = 1 ∨ bit = 2 ∨ bit = 4 ∨ bit = 8 → 0 ≤ oneW k bit ∧ oneW k bit ≤ 1000 := by
    have : k = 0 ∨ k = 1 ∨ k = 2 ∨ k = 3 ∨ k = 4 ∨ k = 5 ∨ k = 6 ∨ k = 7 ∨ k = 8 ∨ k = 9 ∨ k = 10 ∨ k = 11 ∨ k = 12 ∨ k = 13 ∨ k = 14 ∨ k = 15 ∨ k = 16 := by omega
    rcases this with rfl | rfl | rfl | rfl | rfl | rfl | rfl | rfl | rfl | rfl | rfl | rfl | rfl | rfl | rfl | rfl | rfl <;> rintro bit (rfl | rfl | rfl | rfl) <;> decide
  have s1 : ∀ a (e : Nat → Nat), VV w b1 b2 (cSumV a [.int (oneW k 1) (e 0), .int (oneW k 2) (e 1), .int (oneW k 4) (e 2), .int (oneW k 8) (e 3)] 4 (onesOf k)) := fun a e => by
    have b1' := b 1 (by simp); have b2' := b 2 (by simp); have b4 := b 4 (by simp); have b8 := b 8 (by simp)
    have h := v_sumV (w := w) (b1 := b1) (b2 := b2) (l := a) (n := 4) (ys := [(oneW k 1, e 0), (oneW k 2, e 1), (oneW k 4, e 2), (oneW k 8, e 3)]) (fun i y hy => by
      have : y = (oneW k 1, e 0) ∨ y = (oneW k 2, e 1) ∨ y = (oneW k 4, e 2) ∨ y = (oneW k 8, e 3) := by simpa using List.mem_of_getElem? hy
      rcases this with rfl | rfl | rfl | rfl <;> dsimp only <;> omega) (fun i => by
      unfold sumTo
      rcases i with _ | _ | _ | _ | i <;> simp <;> omega)
    have e2 : sumTo [(oneW k 1, e 0), (oneW k 2, e 1), (oneW k 4, e 2), (oneW k 8, e 3)] 4 = onesOf k := by
      unfold sumTo onesOf
      simp
    rw [show [(oneW k 1, e 0), (oneW k 2, e 1), (oneW k 4, e 2), (oneW k 8, e 3)].length = 4 from rfl, e2] at h
    exact h
  unfold oneW at s1
  generalize onesOf k = r at s1 ⊢
  change ∀ a (e : Nat → Nat), VV w b1 b2 (cSumV a [.int (k.fdiv 2 * 1 + max 0 (k.fmod 2 - 1)) (e 0), .int (k.fdiv 4 * 2 + max 0 (k.fmod 4 - 2)) (e 1), .int (k.fdiv 8 * 4 + max 0 (k.fmod 8 - 4)) (e 2), .int (k.fdiv 16 * 8 + max 0 (k.fmod 16 - 8)) (e 3)] 4 r) at s1
  generalize max 0 (k.fmod 2 - 1) = x1 at m1 s1
  generalize max 0 (k.fmod 4 - 2) = x2 at m2 s1
  generalize max 0 (k.fmod 8 - 4) = x3 at m3 s1
  generalize max 0 (k.fmod 16 - 8) = x4 at m4 s1
  refine vgo 1000 (.seg (fun a0 t0 => [0, 0, 1, 0, 0, 0, 0, 1, 1, 0, 1, 1, 0] ++ (match b1 with | true => [3, 0, 3, 3, 3] | false => [3, 3, 0, 3, 3, 3, 0, 3, 3, 3]) ++ [4, 3, 2, 1, 0, 5, 1, 0, 0, 1, 1]) fun a0 t0 =>
    .orc (cMul (k.fdiv 2) (t0 7) 1 (t0 0) (k.fdiv 2 * 1)) [] (p1 _ _) fun f0 =>
    .seg (fun _ _ => [0, 0, 5, 1, 0, 0, 1, 0, 1]) fun a1 t1 =>
    .orc (cMax (t1 0) (k.fmod 2 - 1) (t1 4) x1) [] (m1 _ _) fun g0 =>
    .seg (fun _ _ => [0, 0, 2, 2, 1, 2, 3, 0, 3, 3, 3, 4, 3, 2, 1, 0, 5, 1, 0, 0, 1, 1]) fun a2 t2 =>
    .orc (cMul (k.fdiv 4) (t2 4) 2 (t0 1) (k.fdiv 4 * 2)) [] (p2 _ _) fun f1 =>
    .seg (fun _ _ => [0, 0, 5, 1, 0, 0, 1, 0, 1]) fun a3 t3 =>
    .orc (cMax (t3 0) (k.fmod 4 - 2) (t3 4) x2) [] (m2 _ _) fun g1 =>
    .seg (fun _ _ => [0, 0, 2, 2, 1, 2, 3, 0, 3, 3, 3, 4, 3, 2, 1, 0, 5, 1, 0, 0, 1, 1]) fun a4 t4 =>
    .orc (cMul (k.fdiv 8) (t4 4) 4 (t0 2) (k.fdiv 8 * 4)) [] (p3 _ _) fun f2 =>
    .seg (fun _ _ => [0, 0, 5, 1, 0, 0, 1, 0, 1]) fun a5 t5 =>
    .orc (cMax (t5 0) (k.fmod 8 - 4) (t5 4) x3) [] (m3 _ _) fun g2 =>
    .seg (fun _ _ => [0, 0, 2, 2, 1, 2, 3, 0, 3, 3, 3, 4, 3, 2, 1, 0, 5, 1, 0, 0, 1, 1]) fun a6 t6 =>
    .orc (cMul (k.fdiv 16) (t6 4) 8 (t0 3) (k.fdiv 16 * 8)) [] (p4 _ _) fun f3 =>
    .seg (fun _ _ => [0, 0, 5, 1, 0, 0, 1, 0, 1]) fun a7 t7 =>
    .orc (cMax (t7 0) (k.fmod 16 - 8) (t7 4) x4) [] (m4 _ _) fun g3 =>
    .seg (fun _ _ => [0, 0, 2, 2, 1, 2, 3, 0, 3, 3, 3, 4, 3, 2, 1, 3, 3, 2, 1]) fun a8 t8 =>
    .orc (cSumV (a0 4) [.int (k.fdiv 2 * 1 + x1) (t2 0), .int (k.fdiv 4 * 2 + x2) (t4 0), .int (k.fdiv 8 * 4 + x3) (t6 0), .int (k.fdiv 16 * 8 + x4) (t8 0)] 4 r) [3] (s1 (a0 4) (fun i => match i with | 0 => t2 0 | 1 => t4 0 | 2 => t6 0 | _ => t8 0)) fun e4 =>
    .seg (fun _ _ => []) fun _ _ =>
    .fin false (fun _ => e4 0) 8 []) ?_
  cases b1 <;> cases b2 <;> exact fun ρ => by kernel_rfl
end Mine

open PySem PySem.W PySem.W.X PyProof.Rows
namespace Mine
variable {w : World} {b1 b2 : Bool}
def chB (b : Bool) : Nat := match b with | true => 46 | false => 45
/-- a word of four signs -/
def worS (a b c d : Bool) : Str := ⟨⟨[chB a, chB b, chB c, chB d]⟩⟩
def bits4 : List (Bool × Bool × Bool × Bool) := [(false, false, false, false), (false, false, false, true), (false, false, true, false), (false, false, true, true), (false, true, false, false), (false, true, false, true), (false, true, true, false), (false, true, true, true), (true, false, false, false), (true, false, false, true), (true, false, true, false), (true, false, true, true), (true, true, false, false), (true, true, false, true), (true, true, true, false), (true, true, true, true)]
noncomputable def wordsV (τ : Nat → Nat) : List Value := [.str (worS false false false false) (τ 0), .str (worS false false false true) (τ 1), .str (worS false false true false) (τ 2), .str (worS false false true true) (τ 3), .str (worS false true false false) (τ 4), .str (worS false true false true) (τ 5), .str (worS false true true false) (τ 6), .str (worS false true true true) (τ 7), .str (worS true false false false) (τ 8), .str (worS true false false true) (τ 9), .str (worS true false true false) (τ 10), .str (worS true false true true) (τ 11), .str (worS true true false false) (τ 12), .str (worS true true false true) (τ 13), .str (worS true true true false) (τ 14), .str (worS true true true true) (τ 15)]
def worT : Nat → Nat
  | 0 => 74
  | 1 => 77
  | 2 => 82
  | 3 => 85
  | 4 => 90
  | 5 => 93
  | 6 => 98
  | 7 => 101
  | 8 => 106
  | 9 => 109
  | 10 => 114
  | 11 => 117
  | 12 => 122
  | 13 => 125
  | 14 => 130
  | 15 => 133
  | _ => 0
def worIs : Bool → List Nat
  | true => [0, 0, 0, 2, 1, 0, 0, 0, 0, 1, 1, 0, 1, 1, 1, 1, 0, 1, 1, 1, 1, 1, 0, 1, 0, 1, 1, 1, 1, 1, 0, 1, 0, 4, 3, 4, 3, 3, 0, 3, 1, 0, 3, 0, 3, 3, 3, 6, 3, 2, 1, 0, 0, 1, 0, 1, 0, 1, 1, 1, 1, 0, 2, 1, 2, 2, 0, 0, 3, 3, 2, 3, 1, 0, 1, 1, 1, 1, 0, 2, 1, 2, 2, 0, 0, 3, 3, 2, 3, 1, 0, 1, 1, 1, 1, 0, 1, 6, 0, 6, 6, 6, 9, 6, 5, 1, 12, 11, 6, 6, 5, 6, 6, 5, 9, 0, 9, 9, 9, 9, 9, 8, 9, 8, 12, 11, 12, 7, 7, 0, 7, 1, 0, 3, 0, 3, 3, 3, 10, 3, 2, 1, 0, 0, 1, 0, 1, 0, 1, 1, 1, 1, 0, 2, 1, 2, 2, 0, 0, 3, 3, 2, 3, 1, 0, 1, 1, 1, 1, 0, 2, 1, 2, 2, 0, 0, 3, 3, 2, 3, 1, 0, 1, 1, 1, 1, 0, 1, 6, 0, 6, 6, 6, 13, 6, 5, 4, 3, 0, 1, 0, 1, 0, 1, 1, 1, 1, 0, 5, 4, 5, 5, 0, 0, 6, 6, 5, 6, 1, 0, 1, 1, 1, 1, 0, 5, 4, 5, 5, 0, 0, 6, 6, 5, 6, 1, 0, 1, 1, 1, 1, 0, 1, 9, 0, 9, 9, 9, 16, 9, 8, 1, 23, 22, 9, 9, 8, 9, 9, 8, 20, 0, 20, 20, 20, 20, 20, 19, 20, 19, 23, 22, 23, 10, 10, 0, 10, 1, 0, 3, 0, 3, 3, 3, 13, 3, 2, 1, 0, 0, 1, 0, 1, 0, 1, 1, 1, 1, 0, 2, 1, 2, 2, 0, 0, 3, 3, 2, 3, 1, 0, 1, 1, 1, 1, 0, 2, 1, 2, 2, 0, 0, 3, 3, 2, 3, 1, 0, 1, 1, 1, 1, 0, 1, 6, 0, 6, 6, 6, 16, 6, 5, 4, 3, 0, 1, 0, 1, 0, 1, 1, 1, 1, 0, 5, 4, 5, 5, 0, 0, 6, 6, 5, 6, 1, 0, 1, 1, 1, 1, 0, 5, 4, 5, 5, 0, 0, 6, 6, 5, 6, 1, 0, 1, 1, 1, 1, 0, 1, 9, 0, 9, 9, 9, 19, 9, 8, 7, 6, 0, 1, 0, 1, 0, 1, 1, 1, 1, 0, 8, 7, 8, 8, 0, 0, 9, 9, 8, 9, 1, 0, 1, 1, 1, 1, 0, 8, 7, 8, 8, 0, 0, 9, 9, 8, 9, 1, 0, 1, 1, 1, 1, 0, 1, 12, 0, 12, 12, 12, 22, 12, 11, 10, 9, 0, 1, 0, 1, 0, 1, 1, 1, 1, 0, 11, 10, 11, 11, 0, 0, 12, 12, 11, 12, 1, 0, 1, 1, 1, 1, 0, 11, 10, 11, 11, 0, 0, 12, 12, 11, 12, 1, 0, 1, 1, 1, 1, 0, 1, 15, 0, 15, 15, 15, 25, 15, 14, 1, 40, 39, 15, 15, 14, 15, 15, 14, 37, 0, 37, 37, 37, 37, 37, 36, 37, 36, 40, 39, 40, 16, 16, 0, 16, 1, 0, 3, 0, 3, 3, 3, 19, 3, 2, 1, 0, 0, 1, 0, 1, 0, 1, 1, 1, 1, 0, 2, 1, 2, 2, 0, 0, 3, 3, 2, 3, 1, 0, 1, 1, 1, 1, 0, 2, 1, 2, 2, 0, 0, 3, 3, 2, 3, 1, 0, 1, 1, 1, 1, 0, 1, 6, 0, 6, 6, 6, 22, 6, 5, 4, 3, 0, 1, 0, 1, 0, 1, 1, 1, 1, 0, 5, 4, 5, 5, 0, 0, 6, 6, 5, 6, 1, 0, 1, 1, 1, 1, 0, 5, 4, 5, 5, 0, 0, 6, 6, 5, 6, 1, 0, 1, 1, 1, 1, 0, 1, 9, 0, 9, 9, 9, 25, 9, 8, 7, 6, 0, 1, 0, 1, 0, 1, 1, 1, 1, 0, 8, 7, 8, 8, 0, 0, 9, 9, 8, 9, 1, 0, 1, 1, 1, 1, 0, 8, 7, 8, 8, 0, 0, 9, 9, 8, 9, 1, 0, 1, 1, 1, 1, 0, 1, 12, 0, 12, 12, 12, 28, 12, 11, 10, 9, 0, 1, 0, 1, 0, 1, 1, 1, 1, 0, 11, 10, 11, 11, 0, 0, 12, 12, 11, 12, 1, 0, 1, 1, 1, 1, 0, 11, 10, 11, 11, 0, 0, 12, 12, 11, 12, 1, 0, 1, 1, 1, 1, 0, 1, 15, 0, 15, 15, 15, 31, 15, 14, 13, 12, 0, 1, 0, 1, 0, 1, 1, 1, 1, 0, 14, 13, 14, 14, 0, 0, 15, 15, 14, 15, 1, 0, 1, 1, 1, 1, 0, 14, 13, 14, 14, 0, 0, 15, 15, 14, 15, 1, 0, 1, 1, 1, 1, 0, 1, 18, 0, 18, 18, 18, 34, 18, 17, 16, 15, 0, 1, 0, 1, 0, 1, 1, 1, 1, 0, 17, 16, 17, 17, 0, 0, 18, 18, 17, 18, 1, 0, 1, 1, 1, 1, 0, 17, 16, 17, 17, 0, 0, 18, 18, 17, 18, 1, 0, 1, 1, 1, 1, 0, 1, 21, 0, 21, 21, 21, 37, 21, 20, 19, 18, 0, 1, 0, 1, 0, 1, 1, 1, 1, 0, 20, 19, 20, 20, 0, 0, 21, 21, 20, 21, 1, 0, 1, 1, 1, 1, 0, 20, 19, 20, 20, 0, 0, 21, 21, 20, 21, 1, 0, 1, 1, 1, 1, 0, 1, 24, 0, 24, 24, 24, 40, 24, 23, 22, 21, 0, 1, 0, 1, 0, 1, 1, 1, 1, 0, 23, 22, 23, 23, 0, 0, 24, 24, 23, 24, 1, 0, 1, 1, 1, 1, 0, 23, 22, 23, 23, 0, 0, 24, 24, 23, 24, 1, 0, 1, 1, 1, 1, 0, 1, 27, 0, 27, 27, 27, 43, 27, 26, 1, 69, 68, 27, 27, 26, 27, 27, 26, 66, 0, 66, 66, 66, 66, 1, 71]
  | false => [0, 0, 0, 2, 1, 0, 0, 0, 0, 1, 1, 0, 1, 1, 1, 1, 0, 1, 1, 1, 1, 1, 0, 1, 0, 1, 1, 1, 1, 1, 0, 1, 0, 4, 3, 4, 3, 3, 0, 3, 1, 0, 3, 3, 0, 3, 3, 3, 0, 3, 3, 3, 6, 3, 2, 1, 0, 0, 1, 0, 1, 1, 0, 1, 1, 1, 0, 1, 1, 1, 1, 0, 2, 1, 2, 2, 0, 0, 3, 3, 2, 3, 1, 0, 1, 1, 1, 1, 0, 2, 1, 2, 2, 0, 0, 3, 3, 2, 3, 1, 0, 1, 1, 1, 1, 0, 1, 6, 0, 6, 6, 6, 9, 6, 5, 1, 12, 11, 6, 6, 5, 6, 6, 5, 9, 0, 9, 9, 9, 9, 9, 8, 9, 8, 12, 11, 12, 7, 7, 0, 7, 1, 0, 3, 3, 0, 3, 3, 3, 0, 3, 3, 3, 10, 3, 2, 1, 0, 0, 1, 0, 1, 1, 0, 1, 1, 1, 0, 1, 1, 1, 1, 0, 2, 1, 2, 2, 0, 0, 3, 3, 2, 3, 1, 0, 1, 1, 1, 1, 0, 2, 1, 2, 2, 0, 0, 3, 3, 2, 3, 1, 0, 1, 1, 1, 1, 0, 1, 6, 0, 6, 6, 6, 13, 6, 5, 4, 3, 0, 1, 0, 1, 1, 0, 1, 1, 1, 0, 1, 1, 1, 1, 0, 5, 4, 5, 5, 0, 0, 6, 6, 5, 6, 1, 0, 1, 1, 1, 1, 0, 5, 4, 5, 5, 0, 0, 6, 6, 5, 6, 1, 0, 1, 1, 1, 1, 0, 1, 9, 0, 9, 9, 9, 16, 9, 8, 1, 23, 22, 9, 9, 8, 9, 9, 8, 20, 0, 20, 20, 20, 20, 20, 19, 20, 19, 23, 22, 23, 10, 10, 0, 10, 1, 0, 3, 3, 0, 3, 3, 3, 0, 3, 3, 3, 13, 3, 2, 1, 0, 0, 1, 0, 1, 1, 0, 1, 1, 1, 0, 1, 1, 1, 1, 0, 2, 1, 2, 2, 0, 0, 3, 3, 2, 3, 1, 0, 1, 1, 1, 1, 0, 2, 1, 2, 2, 0, 0, 3, 3, 2, 3, 1, 0, 1, 1, 1, 1, 0, 1, 6, 0, 6, 6, 6, 16, 6, 5, 4, 3, 0, 1, 0, 1, 1, 0, 1, 1, 1, 0, 1, 1, 1, 1, 0, 5, 4, 5, 5, 0, 0, 6, 6, 5, 6, 1, 0, 1, 1, 1, 1, 0, 5, 4, 5, 5, 0, 0, 6, 6, 5, 6, 1, 0, 1, 1, 1, 1, 0, 1, 9, 0, 9, 9, 9, 19, 9, 8, 7, 6, 0, 1, 0, 1, 1, 0, 1, 1, 1, 0, 1, 1, 1, 1, 0, 8, 7, 8, 8, 0, 0, 9, 9, 8, 9, 1, 0, 1, 1, 1, 1, 0, 8, 7, 8, 8, 0, 0, 9, 9, 8, 9, 1, 0, 1, 1, 1, 1, 0, 1, 12, 0, 12, 12, 12, 22, 12, 11, 10, 9, 0, 1, 0, 1, 1, 0, 1, 1, 1, 0, 1, 1, 1, 1, 0, 11, 10, 11, 11, 0, 0, 12, 12, 11, 12, 1, 0, 1, 1, 1, 1, 0, 11, 10, 11, 11, 0, 0, 12, 12, 11, 12, 1, 0, 1, 1, 1, 1, 0, 1, 15, 0, 15, 15, 15, 25, 15, 14, 1, 40, 39, 15, 15, 14, 15, 15, 14, 37, 0, 37, 37, 37, 37, 37, 36, 37, 36, 40, 39, 40, 16, 16, 0, 16, 1, 0, 3, 3, 0, 3, 3, 3, 0, 3, 3, 3, 19, 3, 2, 1, 0, 0, 1, 0, 1, 1, 0, 1, 1, 1, 0, 1, 1, 1, 1, 0, 2, 1, 2, 2, 0, 0, 3, 3, 2, 3, 1, 0, 1, 1, 1, 1, 0, 2, 1, 2, 2, 0, 0, 3, 3, 2, 3, 1, 0, 1, 1, 1, 1, 0, 1, 6, 0, 6, 6, 6, 22, 6, 5, 4, 3, 0, 1, 0, 1, 1, 0, 1, 1, 1, 0, 1, 1, 1, 1, 0, 5, 4, 5, 5, 0, 0, 6, 6, 5, 6, 1, 0, 1, 1, 1, 1, 0, 5, 4, 5, 5, 0, 0, 6, 6, 5, 6, 1, 0, 1, 1, 1, 1, 0, 1, 9, 0, 9, 9, 9, 25, 9, 8, 7, 6, 0, 1, 0, 1, 1, 0, 1, 1, 1, 0, 1, 1, 1, 1, 0, 8, 7, 8, 8, 0, 0, 9, 9, 8, 9, 1, 0, 1, 1, 1, 1, 0, 8, 7, 8, 8, 0, 0, 9, 9, 8, 9, 1, 0, 1, 1, 1, 1, 0, 1, 12, 0, 12, 12, 12, 28, 12, 11, 10, 9, 0, 1, 0, 1, 1, 0, 1, 1, 1, 0, 1, 1, 1, 1, 0, 11, 10, 11, 11, 0, 0, 12, 12, 11, 12, 1, 0, 1, 1, 1, 1, 0, 11, 10, 11, 11, 0, 0, 12, 12, 11, 12, 1, 0, 1, 1, 1, 1, 0, 1, 15, 0, 15, 15, 15, 31, 15, 14, 13, 12, 0, 1, 0, 1, 1, 0, 1, 1, 1, 0, 1, 1, 1, 1, 0, 14, 13, 14, 14, 0, 0, 15, 15, 14, 15, 1, 0, 1, 1, 1, 1, 0, 14, 13, 14, 14, 0, 0, 15, 15, 14, 15, 1, 0, 1, 1, 1, 1, 0, 1, 18, 0, 18, 18, 18, 34, 18, 17, 16, 15, 0, 1, 0, 1, 1, 0, 1, 1, 1, 0, 1, 1, 1, 1, 0, 17, 16, 17, 17, 0, 0, 18, 18, 17, 18, 1, 0, 1, 1, 1, 1, 0, 17, 16, 17, 17, 0, 0, 18, 18, 17, 18, 1, 0, 1, 1, 1, 1, 0, 1, 21, 0, 21, 21, 21, 37, 21, 20, 19, 18, 0, 1, 0, 1, 1, 0, 1, 1, 1, 0, 1, 1, 1, 1, 0, 20, 19, 20, 20, 0, 0, 21, 21, 20, 21, 1, 0, 1, 1, 1, 1, 0, 20, 19, 20, 20, 0, 0, 21, 21, 20, 21, 1, 0, 1, 1, 1, 1, 0, 1, 24, 0, 24, 24, 24, 40, 24, 23, 22, 21, 0, 1, 0, 1, 1, 0, 1, 1, 1, 0, 1, 1, 1, 1, 0, 23, 22, 23, 23, 0, 0, 24, 24, 23, 24, 1, 0, 1, 1, 1, 1, 0, 23, 22, 23, 23, 0, 0, 24, 24, 23, 24, 1, 0, 1, 1, 1, 1, 0, 1, 27, 0, 27, 27, 27, 43, 27, 26, 1, 69, 68, 27, 27, 26, 27, 27, 26, 66, 0, 66, 66, 66, 66, 1, 71]
noncomputable def cWords : Con := { c := .call (.ref 92) ⟨[], []⟩, pre := [], dep := 20, uni := 300, post := fun e => (.res (.ok (.ret (.ref (e 0)))), [], [(e 0, lst (wordsV fun i => e (i + 1)) 16)]) }
theorem v_words : VV w b1 b2 cWords := by
  refine vgo 3000 (.seg (fun _ _ => worIs b1) fun a0 t0 => .fin false (fun i => match i with | 0 => a0 41 | j + 1 => t0 (worT j)) 71 [29]) ?_
  cases b1 <;> cases b2 <;> exact fun ρ => by kernel_rfl
end Mine

open PySem PySem.W PySem.W.X PyProof.Rows
namespace Mine
variable {w : World} {b1 b2 : Bool}
/-- str.replace -/
def repR (x y z : Str) : Str := if ((Builtin.Str.occurrences x y 0 x.length (x.length + 1)).isEmpty || (y.length == 0 && z.length == 0)) = true then x else Builtin.Str.glued z (Builtin.Str.partsBetween x (Builtin.Str.occurrences x y 0 x.length (x.length + 1)) y.length)
noncomputable def cRep (x : Str) (t : Nat) (y : Str) (u : Nat) (z : Str) (v : Nat) (r : Str) : Con := { c := .call (.builtin "str.replace") ⟨[.str x t, .str y u, .str z v], []⟩, pre := [], dep := 4, uni := 20, post := fun e => (.res (.ok (.ret (.str r (e 0)))), [], []) }
theorem v_rep {x y z r : Str} {t b i j : Nat} (hij : i ≠ j) (hyz : (y == z) = false) (hl : Builtin.Str.tooLong (x.length + (Builtin.Str.occurrences x y 0 x.length (x.length + 1)).length * z.length) = false) (hr : repR x y z = r) (hz : (repR x y z).length ≤ sizeLine) : VV w b1 b2 (cRep x t y (b + 1 + i) z (b + 1 + j) r) := by
  intro A s R hA hD hU hg hpre hnd HR
  have hu : ((b + 1 + i) == 0 || (b + 1 + j) == 0) = false := by
    rw [Bool.or_eq_false_iff]
    exact ⟨beq_eq_false_iff_ne.mpr (by omega), beq_eq_false_iff_ne.mpr (by omega)⟩
  have huv : ((b + 1 + i) == (b + 1 + j)) = false := beq_eq_false_iff_ne.mpr (by omega)
  have M := (PySem.gives_str_replace x y z t (b + 1 + i) (b + 1 + j) fun _ => ⟨hu, huv, hyz, hl⟩).meets
  refine code_slotM PySem.F.slot_str_replace (typeIs_str _ _ _) PySem.F.entry_str_replace (PySem.F.args_str_replace_3 _ _ _) (@M) ?_
  subst hr
  cases hc : ((Builtin.Str.occurrences x y 0 x.length (x.length + 1)).isEmpty || (y.length == 0 && z.length == 0)) with
  | true =>
    rw [if_pos rfl]
    have hr : repR x y z = x := by unfold repR; rw [hc, if_pos rfl]
    have := HR (fun _ => t) s (Out.refl fun p hp => (nomatch hp))
    unfold cRep at this
    rw [hr] at this
    exact this
  | false =>
    rw [if_neg (by decide)]
    have hr : repR x y z = Builtin.Str.glued z (Builtin.Str.partsBetween x (Builtin.Str.occurrences x y 0 x.length (x.length + 1)) y.length) := by unfold repR; rw [hc, if_neg (by decide)]
    have hlen : (Builtin.Str.glued z (Builtin.Str.partsBetween x (Builtin.Str.occurrences x y 0 x.length (x.length + 1)) y.length)).length ≤ sizeLine := by rw [← hr]; exact hz
    have := HR (fun _ => s.toks) { s with toks := s.toks + 1 } ⟨rfl, rfl, rfl, Nat.le_succ _, Nat.le_refl _, fun _ _ e _ => e, rfl, fun _ hp => (nomatch hp), fun _ hp => (nomatch hp), List.nodup_nil⟩
    unfold cRep at this
    rw [hr] at this
    exact ⟨hlen, this⟩
def sgE (b : Bool) (e : List Nat) : List Nat := chB b :: e
def sg1 (b : Bool) (e : List Nat) : List Nat := match b with | true => [46] | false => 45 :: e
def str1 (a b c d : Bool) (e : List Nat) : Str := ⟨⟨sg1 a e ++ (sg1 b e ++ (sg1 c e ++ sg1 d e))⟩⟩
def sg2 (b : Bool) (e f : List Nat) : List Nat := match b with | true => 46 :: f | false => 45 :: e
def str2 (a b c d : Bool) (e f : List Nat) : Str := ⟨⟨sg2 a e f ++ (sg2 b e f ++ (sg2 c e f ++ sg2 d e f))⟩⟩
def endL : _root_.Fin 3 → List Nat
  | 0 => [10]
  | 1 => [13]
  | 2 => [13, 10]
abbrev str0 (l : List Nat) : Str := ⟨⟨l⟩⟩
theorem rep1 {a b c d : Bool} {e : List Nat} (he : e = [10] ∨ e = [13] ∨ e = [13, 10]) {t k i j : Nat} (hij : i ≠ j) : VV w b1 b2 (cRep (worS a b c d) t (str0 [45]) (k + 1 + i) (str0 (45 :: e)) (k + 1 + j) (str1 a b c d e)) := by
  rcases he with rfl | rfl | rfl <;> refine v_rep hij (by decide) ?_ ?_ ?_ <;> cases a <;> cases b <;> cases c <;> cases d <;> decide +kernel
theorem rep2 {a b c d : Bool} {e f : List Nat} (he : (e = [10] ∧ f = [10]) ∨ (e = [13] ∧ f = [13]) ∨ (e = [13, 10] ∧ f = [13, 10]) ∨ (e = [13, 10] ∧ f = [46, 13, 10])) {t k i j : Nat} (hij : i ≠ j) : VV w b1 b2 (cRep (str1 a b c d e) t (str0 [46]) (k + 1 + i) (str0 (46 :: f)) (k + 1 + j) (str2 a b c d e f)) := by
  rcases he with ⟨rfl, rfl⟩ | ⟨rfl, rfl⟩ | ⟨rfl, rfl⟩ | ⟨rfl, rfl⟩ <;> refine v_rep hij (by decide) ?_ ?_ ?_ <;> cases a <;> cases b <;> cases c <;> cases d <;> decide +kernel
theorem endC (j : _root_.Fin 3) : endL j = [10] ∨ endL j = [13] ∨ endL j = [13, 10] := by
  have hj : j = 0 ∨ j = 1 ∨ j = 2 := by omega
  rcases hj with rfl | rfl | rfl <;> simp [endL]
def eolIs : List Nat := [0, 0, 0, 0, 0, 1, 0, 1, 1, 0, 1, 0, 0, 1, 0, 1, 1, 0, 1, 0, 0, 1, 0, 1, 1, 0, 1, 0, 0, 1, 0, 1, 1, 0, 1, 0, 0, 1, 0, 1, 1]
noncomputable def cEol (x : Str) (t : Nat) (r : Str) : Con := { c := .call (.builtin "re.Pattern.sub") ⟨[.ref 73, .str (str0 [13, 10]) 388, .str x t], []⟩, pre := [], dep := 4, uni := 40, post := fun e => (.res (.ok (.ret (.str r (e 0)))), [], []) }
theorem v_eol {a b c d : Bool} {e : List Nat} (he : e = [10] ∨ e = [13] ∨ e = [13, 10]) {t : Nat} : VV w b1 b2 (cEol (str2 a b c d e e) t (str2 a b c d [13, 10] [13, 10])) := by
  refine vgo 1000 (.seg (fun _ _ => eolIs) fun a0 t0 => .fin false (fun _ => t0 5) 1 []) ?_
  rcases he with rfl | rfl | rfl <;> cases a <;> cases b <;> cases c <;> cases d <;> exact fun ρ => by kernel_rfl
def enc8 (b : Bool) : List UInt8 := match b with | true => [46, 13, 10] | false => [45, 13, 10]
def enc (a b c d : Bool) : Array UInt8 := ⟨enc8 a ++ (enc8 b ++ (enc8 c ++ enc8 d))⟩
noncomputable def cEnc (x : Str) (t u : Nat) (r : Array UInt8) : Con := { c := .call (.builtin "str.encode") ⟨[.str x t, .str (str0 [97, 115, 99, 105, 105]) u], []⟩, pre := [], dep := 4, uni := 40, post := fun e => (.res (.ok (.ret (.bytes r (e 0)))), [], []) }
theorem v_enc {a b c d : Bool} {t u : Nat} : VV w b1 b2 (cEnc (str2 a b c d [13, 10] [13, 10]) t u (enc a b c d)) := by
  refine vgo 100 (.seg (fun _ _ => []) fun a0 t0 => .fin false (fun _ => t0 0) 0 []) ?_
  cases a <;> cases b <;> cases c <;> cases d <;> exact fun ρ => by kernel_rfl
theorem v_enc2 {a b c d : Bool} {t u : Nat} : VV w b1 b2 (cEnc (str2 a b c d [13, 10] [46, 13, 10]) t u (letB a b c d)) := by
  refine vgo 100 (.seg (fun _ _ => []) fun a0 t0 => .fin false (fun _ => t0 0) 0 []) ?_
  cases a <;> cases b <;> cases c <;> cases d <;> exact fun ρ => by kernel_rfl
def quoP : List Nat := [0, 0, 0, 0, 0, 1, 0, 1]
def quoIs : Bool → Bool → Bool → Bool → List Nat × Nat × Nat
  | false, false, false, false => ([1, 0, 1, 1], 0, 1)
  | false, false, false, true => ([1, 0, 1, 0, 0, 1, 0, 1, 1, 0, 1, 1, 1, 1, 1, 1, 1, 1], 3, 1)
  | false, false, true, false => ([1, 0, 1, 0, 0, 1, 0, 1, 1, 0, 1, 1, 1, 1, 1, 1, 1, 1], 3, 1)
  | false, false, true, true => ([1, 0, 1, 0, 0, 1, 0, 1, 1, 0, 1, 0, 0, 1, 0, 1, 1, 0, 1, 1, 1, 1, 1, 1, 1, 1, 1, 1, 1, 1], 4, 1)
  | false, true, false, false => ([1, 0, 1, 0, 0, 1, 0, 1, 1, 0, 1, 1, 1, 1, 1, 1, 1, 1], 3, 1)
  | false, true, false, true => ([1, 0, 1, 0, 0, 1, 0, 1, 1, 0, 1, 0, 0, 1, 0, 1, 1, 0, 1, 1, 1, 1, 1, 1, 1, 1, 1, 1, 1, 1], 4, 1)
  | false, true, true, false => ([1, 0, 1, 0, 0, 1, 0, 1, 1, 0, 1, 0, 0, 1, 0, 1, 1, 0, 1, 1, 1, 1, 1, 1, 1, 1, 1, 1, 1, 1], 4, 1)
  | false, true, true, true => ([1, 0, 1, 0, 0, 1, 0, 1, 1, 0, 1, 0, 0, 1, 0, 1, 1, 0, 1, 0, 0, 1, 0, 1, 1, 0, 1, 1, 1, 1, 1, 1, 1, 1, 1, 1, 1, 1, 1, 1, 1, 1], 5, 1)
  | true, false, false, false => ([0, 0, 1, 0, 1, 1, 0, 1, 1, 1, 1, 1, 1], 2, 1)
  | true, false, false, true => ([0, 0, 1, 0, 1, 1, 0, 1, 0, 0, 1, 0, 1, 1, 0, 1, 1, 1, 1, 1, 1, 1, 1, 1, 1], 3, 1)
  | true, false, true, false => ([0, 0, 1, 0, 1, 1, 0, 1, 0, 0, 1, 0, 1, 1, 0, 1, 1, 1, 1, 1, 1, 1, 1, 1, 1], 3, 1)
  | true, false, true, true => ([0, 0, 1, 0, 1, 1, 0, 1, 0, 0, 1, 0, 1, 1, 0, 1, 0, 0, 1, 0, 1, 1, 0, 1, 1, 1, 1, 1, 1, 1, 1, 1, 1, 1, 1, 1, 1], 4, 1)
  | true, true, false, false => ([0, 0, 1, 0, 1, 1, 0, 1, 0, 0, 1, 0, 1, 1, 0, 1, 1, 1, 1, 1, 1, 1, 1, 1, 1], 3, 1)
  | true, true, false, true => ([0, 0, 1, 0, 1, 1, 0, 1, 0, 0, 1, 0, 1, 1, 0, 1, 0, 0, 1, 0, 1, 1, 0, 1, 1, 1, 1, 1, 1, 1, 1, 1, 1, 1, 1, 1, 1], 4, 1)
  | true, true, true, false => ([0, 0, 1, 0, 1, 1, 0, 1, 0, 0, 1, 0, 1, 1, 0, 1, 0, 0, 1, 0, 1, 1, 0, 1, 1, 1, 1, 1, 1, 1, 1, 1, 1, 1, 1, 1, 1], 4, 1)
  | true, true, true, true => ([0, 0, 1, 0, 1, 1, 0, 1, 0, 0, 1, 0, 1, 1, 0, 1, 0, 0, 1, 0, 1, 1, 0, 1, 0, 0, 1, 0, 1, 1, 0, 1, 1, 1, 1, 1, 1, 1, 1, 1, 1, 1, 1, 1, 1, 1, 1, 1, 1], 5, 1)
noncomputable def cQuo (u : Nat) (x : Array UInt8) (t : Nat) (r : Array UInt8) : Con := { c := .call (.builtin "re.Pattern.sub") ⟨[.ref 68, .bytes ⟨[46, 46]⟩ u, .bytes x t], []⟩, pre := [], dep := 4, uni := 40, post := fun e => (.res (.ok (.ret (.bytes r (e 0)))), [], []) }
theorem v_quo {a b c d : Bool} {u t : Nat} : VV w b1 b2 (cQuo u (enc a b c d) t (letB a b c d)) := by
  refine vgo 1000 (.seg (fun _ _ => quoP ++ (quoIs a b c d).1) fun a0 t0 => .fin false (fun _ => t0 (quoIs a b c d).2.1) (quoIs a b c d).2.2 []) ?_
  cases a <;> cases b <;> cases c <;> cases d <;> exact fun ρ => by kernel_rfl
noncomputable def cSent (a b c d : Bool) (j : _root_.Fin 3) (tw te : Nat) : Con := { c := .call (.ref 99) ⟨[.str (worS a b c d) tw, .str (str0 (endL j)) te], []⟩, pre := [], dep := 20, uni := 300, post := fun e => (.res (.ok (.ret (.bytes (letB a b c d) (e 0)))), [], []) }
theorem v_sent {a b c d : Bool} {j : _root_.Fin 3} {tw te : Nat} : VV w b1 b2 (cSent a b c d j tw te) := by
  refine vgo 1000 (.seg (fun _ _ => [0, 0, 1, 0, 1, 0, 0, 1, 1, 0, 1]) fun a0 t0 =>
    .orc (cRep (worS a b c d) tw (str0 [45]) (t0 0 - 1 + 1 + 2) (str0 (45 :: endL j)) (t0 0 - 1 + 1 + 4) (str1 a b c d (endL j))) [] (rep1 (endC j) (by decide)) fun e0 =>
    .seg (fun _ _ => [1, 0, 1]) fun a1 t1 =>
    .orc (cRep (str1 a b c d (endL j)) (e0 0) (str0 [46]) (t1 0 - 1 + 1 + 0) (str0 (46 :: endL j)) (t1 0 - 1 + 1 + 2) (str2 a b c d (endL j) (endL j))) [] (rep2 (by rcases endC j with h | h | h <;> simp [h]) (by decide)) fun e1 =>
    .seg (fun _ _ => [1, 0, 0, 0, 1, 0, 0, 0, 0, 1, 0, 0, 0, 0, 0, 0, 0, 0, 1, 1]) fun a2 t2 =>
    .orc (cEol (str2 a b c d (endL j) (endL j)) (e1 0) (str2 a b c d [13, 10] [13, 10])) [] (v_eol (endC j)) fun e2 =>
    .seg (fun _ _ => [1]) fun a3 t3 =>
    .orc (cEnc (str2 a b c d [13, 10] [13, 10]) (e2 0) (t3 0) (enc a b c d)) [] v_enc fun e3 =>
    .seg (fun _ _ => [0, 0, 0, 0, 1, 0, 0, 0, 0, 0, 0, 0, 1, 1]) fun a4 t4 =>
    .orc (cQuo (t4 1) (enc a b c d) (e3 0) (letB a b c d)) [] v_quo fun e4 =>
    .seg (fun _ _ => []) fun _ _ =>
    .fin false (fun _ => e4 0) 3 []) ?_
  have hj : j = 0 ∨ j = 1 ∨ j = 2 := by omega
  rcases hj with rfl | rfl | rfl <;> cases b2 <;> exact fun ρ => by kernel_rfl
noncomputable def cDue (a b c d : Bool) (tw : Nat) : Con := { c := .call (.ref 106) ⟨[.str (worS a b c d) tw], []⟩, pre := [], dep := 20, uni := 300, post := fun e => (.res (.ok (.ret (.bytes (letB a b c d) (e 0)))), [], []) }
theorem v_due {a b c d : Bool} {tw : Nat} : VV w b1 b2 (cDue a b c d tw) := by
  refine vgo 1000 (.seg (fun _ _ => [0, 0, 1, 0, 0, 1, 1]) fun a0 t0 =>
    .orc (cRep (worS a b c d) tw (str0 [45]) (t0 0 - 1 + 1 + 1) (str0 [45, 13, 10]) (t0 0 - 1 + 1 + 2) (str1 a b c d [13, 10])) [] (rep1 (by simp) (by decide)) fun e0 =>
    .seg (fun _ _ => [1]) fun a1 t1 =>
    .orc (cRep (str1 a b c d [13, 10]) (e0 0) (str0 [46]) (t1 0 - 1 + 1 + 0) (str0 [46, 46, 13, 10]) (t1 0 - 1 + 1 + 1) (str2 a b c d [13, 10] [46, 13, 10])) [] (rep2 (by simp) (by decide)) fun e1 =>
    .seg (fun _ _ => [1]) fun a2 t2 =>
    .orc (cEnc (str2 a b c d [13, 10] [46, 13, 10]) (e1 0) (t2 0) (letB a b c d)) [] v_enc2 fun e2 =>
    .seg (fun _ _ => []) fun _ _ => .fin false (fun _ => e2 0) 1 []) ?_
  cases b2 <;> exact fun ρ => by kernel_rfl
end Mine

open PySem PySem.W PySem.W.X PyProof.Rows
namespace Mine
variable {w : World} {b1 b2 : Bool}
noncomputable def lawSt (i : Nat) : Stmt := ((fdAt 22).2.1[i]?).getD (.Pass ⟨0, 0, 0, 0⟩)
noncomputable def lawCEnv (sc : Scope) (dct : Nat) (cells : List (Str × Nat)) (L : Nat) : Env := { scope := cellScope sc, locals := dct, globals := 3, cells := cells, qual := ⟨⟨[108, 97, 119, 46, 60, 108, 111, 99, 97, 108, 115, 62, 46]⟩⟩, func := none, code := .ref 139, frame := some L, builtins := 0 }
noncomputable def cmpOf (x : Expr) : Expr × Scope := match x with
  | Expr.ListComp e g sc p => (Expr.ListComp e g sc p, sc)
  | _ => default
noncomputable def lpC (c : Expr × Scope) (it acc dct : Nat) (cells : List (Str × Nat)) (L : Nat) : Code := .compLoop c.1 0 (.ref it) (.ref acc) (lawCEnv c.2 dct cells L)
noncomputable def lpS (c : Expr × Scope) (it acc dct : Nat) (cells : List (Str × Nat)) (L : Nat) : Code := .compStart c.1 0 (.ref it) (.ref acc) (lawCEnv c.2 dct cells L)
/-- the comprehension of draws -/
noncomputable def drwC : Expr × Scope := match lawSt 0 with
  | Stmt.Assign _ v _ => cmpOf v
  | _ => default
theorem v_drwS {it src acc dct L : Nat} {i : Int} : VV w b1 b2 { c := lpS drwC it acc dct [] L, pre := [(it, liO src i)], dep := 20, uni := 300, post := fun e => (.again (lpC drwC it acc dct [] L), [liO src i], []) } := by
  refine vgo 100 (.seg (fun a0 t0 => sSt b1) fun a0 t0 => .fin true (fun _ => 0) 0 []) ?_
  cases b1 <;> cases b2 <;> exact fun ρ => by kernel_rfl
theorem v_drwE {it src acc dct L : Nat} {xs : List Value} {n i : Nat} (hx : xs[i]? = none) : VV w b1 b2 { c := lpC drwC it acc dct [] L, pre := [(it, liO src i), (src, lst xs n)], dep := 20, uni := 300, post := fun e => (.res (.ok .next), [liE i, lst xs n], []) } := by
  refine vgo 100 (.seg (fun a0 t0 => [1, 1]) fun a0 t0 => .orc (cNxE it src xs n i) [0, 1] (v_nxE hx) fun e0 => .seg (fun a1 t1 => [1]) fun a1 t1 => .fin false (fun _ => 0) 2 []) ?_
  cases b2 <;> exact fun ρ => by kernel_rfl
theorem v_drwT {it src acc dct L : Nat} {xs : List Value} {n i : Nat} {mo : Option (Nat × Value)} {al : List Value} {na : Nat} {x : Int} {t : Nat} (hx : xs[i]? = some (.int x t)) (hal : al.length < 2 ^ 20) :
    VV w b1 b2 { c := lpC drwC it acc dct [] L, pre := [(it, liO src i), (src, lst xs n), (dct, oneO (wf w b1 b2).params [120] mo), (acc, lst al na)], dep := 20, uni := 300, post := fun e => (.again (lpC drwC it acc dct [] L), [liO src ((i + 1 : Nat) : Int), lst xs n, oneO (wf w b1 b2).params [120] (some (midT mo (e 0), .int x t)), lst (al ++ [.int (x.fmod 48) (e 1)]) (na + 1)], []) } := by
  have h1 : VV w b1 b2 (cNx it src xs n i (.int x t)) := v_nx hx
  have h2 : ∀ u, VV w b1 b2 (cApp acc al na (.int (x.fmod 48) u)) := fun u => v_app hal
  refine vgo 200 (.seg (fun a0 t0 => [1, 1]) fun a0 t0 =>
    .orc (cNx it src xs n i (.int x t)) [0, 1] h1 fun e0 =>
    .seg (fun _ _ => [3, 2, 3, 0, 1]) fun a1 t1 =>
    .orc (cApp acc al na (.int (x.fmod 48) (t1 2))) [3] (h2 _) fun e1 =>
    .seg (fun _ _ => []) fun _ _ => .fin true (fun i => match i with | 0 => t1 0 | _ => t1 2) 0 []) ?_
  cases b2 <;> cases mo <;> exact fun ρ => by kernel_rfl
noncomputable def cDrw (P : Params) (it src acc dct L : Nat) (xs : List Value) (n : Nat) (vs : List Int) (lo : Option Value) : Con :=
  { c := lpS drwC it acc dct [] L, pre := [(it, liO src (0 : Nat)), (src, lst xs n), (dct, dicO [] 0), (acc, lst [] 0)], dep := 20, uni := 300, post := fun e => (.res (.ok .next), [liE xs.length, lst xs n, oneO P [120] (withT lo (e 0)), lst ((tokL vs fun j => e (j + 1)).map iv) vs.length], []) }
def drwV (xs : List (Int × Nat)) : List Int := (List.range xs.length).map fun i => (match xs[i]? with | some x => x.1.fmod 48 | none => 0)
theorem drwV_eq (xs : List (Int × Nat)) : drwV xs = xs.map fun x => x.1.fmod 48 := by
  unfold drwV
  refine List.ext_getElem (by simp) fun i h1 h2 => ?_
  have : i < xs.length := by simpa using h2
  simp [this]
theorem tokL_len : ∀ (vs : List Int) (τ : Nat → Nat), (tokL vs τ).length = vs.length
  | [], _ => rfl
  | v :: vs, τ => by
    show (tokL vs _).length + 1 = _
    rw [tokL_len vs]; rfl
theorem v_drw {it src acc dct L : Nat} {xs : List (Int × Nat)} {n : Nat} (hx : xs.length < 2 ^ 20) : VV w b1 b2 (cDrw (wf w b1 b2).params it src acc dct L (xs.map iv) n (drwV xs) (xs.map iv).getLast?) := by
  have h := v_compL (w := w) (b1 := b1) (b2 := b2) (c := lpC drwC it acc dct [] L) (cs := lpS drwC it acc dct [] L) (it := it) (src := src) (dct := dct) (acc := acc) (as := []) (mid := []) (nm := [120]) (vals := xs.map iv) (n := n) (dep := 20) (uni := 300) (em := fun i t => [.int (match xs[i]? with | some x => x.1.fmod 48 | none => 0) t]) rfl (fun i t => by simp) (by simpa using hx) v_drwS (fun i v mo al hv hal => by
      rw [List.getElem?_map] at hv
      cases hy : xs[i]? with
      | none => rw [hy] at hv; cases hv
      | some p =>
        rw [hy] at hv
        have hv : iv p = v := by simpa using hv
        subst hv
        have hx' : (xs.map iv)[i]? = some (.int p.1 p.2) := by rw [List.getElem?_map, hy]; rfl
        refine valid_as (v_drwT (L := L) (it := it) (src := src) (dct := dct) (acc := acc) (n := n) (mo := mo) (na := al.length) hx' hal) rfl rfl (Nat.le_refl _) (Nat.le_refl _) fun e => ⟨e, ?_⟩
        show (_, [_, _, _, lst (al ++ _) (al ++ _).length], _) = (_, [_, _, _, _], _)
        rw [List.length_append]
        simp only [hy]
        rfl)
    (v_drwE (by simp))
  refine valid_as h rfl rfl (Nat.le_refl _) (Nat.le_refl _) fun e => ⟨e, ?_⟩
  have ea : accE (fun i t => [.int (match xs[i]? with | some x => x.1.fmod 48 | none => 0) t]) (xs.map iv).length (fun j => e (j + 1)) = (tokL (drwV xs) fun j => e (j + 1)).map iv := by
    rw [List.length_map, accE_tok]
    rfl
  have el := lastV_end (xs.map iv) (e 0)
  have ez : ((tokL (drwV xs) fun j => e (j + 1)).map iv).length = (drwV xs).length := by rw [List.length_map, tokL_len]
  show (_, [_, _, oneO _ _ (withT (xs.map iv).getLast? (e 0)), lst _ (drwV xs).length], _) = (_, [_, _, oneO _ _ (lastV (xs.map iv) (xs.map iv).length (e 0)), lst (accE _ _ _) (accE _ _ _).length], _)
  rw [ea, el, ez]
/-- the letter of a number -/
def L16 (i : Nat) : Array UInt8 := match bits4[i]? with
  | some (a, b, c, d) => letB a b c d
  | none => ⟨[]⟩
def W16 (i : Nat) : Str := match bits4[i]? with
  | some (a, b, c, d) => worS a b c d
  | none => ⟨⟨[]⟩⟩
theorem bits_some {i : Nat} (h : i < 16) : ∃ a b c d, bits4[i]? = some (a, b, c, d) := by
  have : bits4[i]? = some (bits4[i]'(by exact h)) := List.getElem?_eq_getElem h
  exact ⟨_, _, _, _, this⟩
theorem words_at {τ : Nat → Nat} {i : Nat} (h : i < 16) : (wordsV τ)[i]? = some (.str (W16 i) (τ i)) := by
  rcases i with _ | _ | _ | _ | _ | _ | _ | _ | _ | _ | _ | _ | _ | _ | _ | _ | i
  all_goals first | rfl | exact absurd h (by omega)
/-- the comprehension of the letters due -/
noncomputable def dueX : Expr := match lawSt 5 with
  | Stmt.If (Expr.Compare _ _ [x] _) _ _ _ => x
  | _ => default
noncomputable def dueC : Expr × Scope := cmpOf dueX
theorem v_dueS {it src acc dct L : Nat} {i : Int} : VV w b1 b2 { c := lpS dueC it acc dct [] L, pre := [(it, liO src i)], dep := 30, uni := 400, post := fun e => (.again (lpC dueC it acc dct [] L), [liO src i], []) } := by
  refine vgo 100 (.seg (fun a0 t0 => sSt b1) fun a0 t0 => .fin true (fun _ => 0) 0 []) ?_
  cases b1 <;> cases b2 <;> exact fun ρ => by kernel_rfl
theorem v_dueE {it src acc dct L : Nat} {xs : List Value} {n i : Nat} (hx : xs[i]? = none) : VV w b1 b2 { c := lpC dueC it acc dct [] L, pre := [(it, liO src i), (src, lst xs n)], dep := 30, uni := 400, post := fun e => (.res (.ok .next), [liE i, lst xs n], []) } := by
  refine vgo 100 (.seg (fun a0 t0 => [1, 1]) fun a0 t0 => .orc (cNxE it src xs n i) [0, 1] (v_nxE hx) fun e0 => .seg (fun a1 t1 => [1]) fun a1 t1 => .fin false (fun _ => 0) 2 []) ?_
  cases b2 <;> exact fun ρ => by kernel_rfl
theorem v_dueT {it src acc dct L : Nat} {xs : List Value} {n i : Nat} {mo : Option (Nat × Value)} {al : List Value} {na : Nat} {a b c d : Bool} {t : Nat} (hx : xs[i]? = some (.str (worS a b c d) t)) (hal : al.length < 2 ^ 20) :
    VV w b1 b2 { c := lpC dueC it acc dct [] L, pre := [(it, liO src i), (src, lst xs n), (dct, oneO (wf w b1 b2).params [119, 111, 114, 100] mo), (acc, lst al na)], dep := 30, uni := 400, post := fun e => (.again (lpC dueC it acc dct [] L), [liO src ((i + 1 : Nat) : Int), lst xs n, oneO (wf w b1 b2).params [119, 111, 114, 100] (some (midT mo (e 0), .str (worS a b c d) t)), lst (al ++ [.bytes (letB a b c d) (e 1)]) (na + 1)], []) } := by
  have h1 : VV w b1 b2 (cNx it src xs n i (.str (worS a b c d) t)) := v_nx hx
  have h2 : ∀ u, VV w b1 b2 (cApp acc al na (.bytes (letB a b c d) u)) := fun u => v_app hal
  refine vgo 200 (.seg (fun a0 t0 => [1, 1]) fun a0 t0 =>
    .orc (cNx it src xs n i (.str (worS a b c d) t)) [0, 1] h1 fun e0 =>
    .seg (fun _ _ => [3, 2, 0, 3, 0, 1]) fun a1 t1 =>
    .orc (cDue a b c d t) [] v_due fun e1 =>
    .seg (fun _ _ => [1]) fun a2 t2 =>
    .orc (cApp acc al na (.bytes (letB a b c d) (e1 0))) [3] (h2 _) fun e2 =>
    .seg (fun _ _ => []) fun _ _ => .fin true (fun i => match i with | 0 => t1 0 | _ => e1 0) 0 []) ?_
  cases b2 <;> cases mo <;> exact fun ρ => by kernel_rfl
/-- the sixteen letters in order -/
noncomputable def ordV (τ : Nat → Nat) : List Value := accE (fun i t => [.bytes (L16 i) t]) 16 τ
noncomputable def cDueL (P : Params) (it src acc dct L : Nat) (σ : Nat → Nat) (n : Nat) (lo : Option Value) : Con :=
  { c := lpS dueC it acc dct [] L, pre := [(it, liO src (0 : Nat)), (src, lst (wordsV σ) n), (dct, dicO [] 0), (acc, lst [] 0)], dep := 30, uni := 400, post := fun e => (.res (.ok .next), [liE (16 : Nat), lst (wordsV σ) n, oneO P [119, 111, 114, 100] (withT lo (e 0)), lst (ordV fun j => e (j + 1)) 16], []) }
theorem ordV_len (τ : Nat → Nat) : (ordV τ).length = 16 := rfl
theorem v_dueL {it src acc dct L : Nat} {σ : Nat → Nat} {n : Nat} : VV w b1 b2 (cDueL (wf w b1 b2).params it src acc dct L σ n (wordsV σ).getLast?) := by
  have h := v_compL (w := w) (b1 := b1) (b2 := b2) (c := lpC dueC it acc dct [] L) (cs := lpS dueC it acc dct [] L) (it := it) (src := src) (dct := dct) (acc := acc) (as := []) (mid := []) (nm := [119, 111, 114, 100]) (vals := wordsV σ) (n := n) (dep := 30) (uni := 400) (em := fun i t => [.bytes (L16 i) t]) rfl (fun i t => by simp) (by show 16 < 2 ^ 20; decide) v_dueS (fun i v mo al hv hal => by
      have hi : i < 16 := by
        have := (List.getElem?_eq_some_iff.mp hv).1
        exact this
      obtain ⟨a, b, c, d, hb⟩ := bits_some hi
      have hw : (wordsV σ)[i]? = some (.str (worS a b c d) (σ i)) := by rw [words_at hi]; unfold W16; rw [hb]
      rw [hw] at hv
      have hv : .str (worS a b c d) (σ i) = v := by simpa using hv
      subst hv
      refine valid_as (v_dueT (L := L) (it := it) (src := src) (dct := dct) (acc := acc) (n := n) (mo := mo) (na := al.length) hw hal) rfl rfl (Nat.le_refl _) (Nat.le_refl _) fun e => ⟨e, ?_⟩
      have hl : L16 i = letB a b c d := by unfold L16; rw [hb]
      show (_, [_, _, _, lst (al ++ [.bytes (L16 i) (e 1)]) (al ++ _).length], _) = (_, [_, _, _, _], _)
      rw [List.length_append, hl]
      rfl)
    (v_dueE (by rfl))
  refine valid_as h rfl rfl (Nat.le_refl _) (Nat.le_refl _) fun e => ⟨e, ?_⟩
  have el := lastV_end (wordsV σ) (e 0)
  show (_, [_, _, oneO _ _ (withT (wordsV σ).getLast? (e 0)), _], _) = (_, [_, _, oneO _ _ (lastV (wordsV σ) (wordsV σ).length (e 0)), _], _)
  rw [el]
  rfl
/-- the comprehension of the letters picked -/
noncomputable def pkdC : Expr × Scope := match lawSt 8 with
  | Stmt.Assign _ (Expr.Call _ [x] _ _) _ => cmpOf x
  | _ => default
abbrev ordS : Str := ⟨⟨[111, 114, 100, 101, 114]⟩⟩
theorem v_pkdS {it src acc dct cel L : Nat} {i : Int} : VV w b1 b2 { c := lpS pkdC it acc dct [(ordS, cel)] L, pre := [(it, liO src i)], dep := 30, uni := 400, post := fun e => (.again (lpC pkdC it acc dct [(ordS, cel)] L), [liO src i], []) } := by
  refine vgo 100 (.seg (fun a0 t0 => sSt b1) fun a0 t0 => .fin true (fun _ => 0) 0 []) ?_
  cases b1 <;> cases b2 <;> exact fun ρ => by kernel_rfl
theorem v_pkdE {it src acc dct cel L : Nat} {xs : List Value} {n i : Nat} (hx : xs[i]? = none) : VV w b1 b2 { c := lpC pkdC it acc dct [(ordS, cel)] L, pre := [(it, liO src i), (src, lst xs n)], dep := 30, uni := 400, post := fun e => (.res (.ok .next), [liE i, lst xs n], []) } := by
  refine vgo 100 (.seg (fun a0 t0 => [1, 1]) fun a0 t0 => .orc (cNxE it src xs n i) [0, 1] (v_nxE hx) fun e0 => .seg (fun a1 t1 => [1]) fun a1 t1 => .fin false (fun _ => 0) 2 []) ?_
  cases b2 <;> exact fun ρ => by kernel_rfl
theorem v_pkdT {it src acc dct cel od L : Nat} {xs : List Value} {n i : Nat} {mo : Option (Nat × Value)} {ov : List Value} {no : Nat} {al : List Value} {na : Nat} {p : Nat × Nat} {v : Value} (hx : xs[i]? = some (nv p)) (hv : ov[p.1]? = some v) (hp : p.1 < 2 ^ 20) (hal : al.length < 2 ^ 20) :
    VV w b1 b2 { c := lpC pkdC it acc dct [(ordS, cel)] L, pre := [(it, liO src i), (src, lst xs n), (dct, oneO (wf w b1 b2).params [112, 105, 99, 107] mo), (cel, cellO (.ref od)), (od, lst ov no), (acc, lst al na)], dep := 30, uni := 400, post := fun e => (.again (lpC pkdC it acc dct [(ordS, cel)] L), [liO src ((i + 1 : Nat) : Int), lst xs n, oneO (wf w b1 b2).params [112, 105, 99, 107] (some (midT mo (e 0), nv p)), cellO (.ref od), lst ov no, lst (al ++ [v]) (na + 1)], []) } := by
  have h1 : VV w b1 b2 (cNx it src xs n i (nv p)) := v_nx hx
  have h2 : VV w b1 b2 (cGet od ov no (p.1 : Nat) p.2 v) := v_get (by omega) (by omega) (by rw [Int.toNat_natCast]; exact hv)
  have h3 : VV w b1 b2 (cApp acc al na v) := v_app hal
  refine vgo 200 (.seg (fun a0 t0 => [1, 1]) fun a0 t0 =>
    .orc (cNx it src xs n i (nv p)) [0, 1] h1 fun e0 =>
    .seg (fun _ _ => [3, 2, 4, 3, 5, 5, 5, 1]) fun a1 t1 =>
    .orc (cGet od ov no (p.1 : Nat) p.2 v) [4] h2 fun e1 =>
    .seg (fun _ _ => [1]) fun a2 t2 =>
    .orc (cApp acc al na v) [5] h3 fun e2 =>
    .seg (fun _ _ => []) fun _ _ => .fin true (fun _ => t1 0) 0 []) ?_
  cases b2 <;> cases mo <;> exact fun ρ => by kernel_rfl
theorem ordV_at {τ : Nat → Nat} {i : Nat} (h : i < 16) : (ordV τ)[i]? = some (.bytes (L16 i) (τ i)) := by
  rcases i with _ | _ | _ | _ | _ | _ | _ | _ | _ | _ | _ | _ | _ | _ | _ | _ | i
  all_goals first | rfl | exact absurd h (by omega)
abbrev pkY (τ : Nat → Nat) (ps : List (Nat × Nat)) : List (Array UInt8 × Nat) := ps.map fun p => (L16 p.1, τ p.1)
noncomputable def cPkd (P : Params) (it src acc dct cel od L : Nat) (xs : List Value) (n : Nat) (ov : List Value) (no : Nat) (al : List Value) (lo : Option Value) : Con :=
  { c := lpS pkdC it acc dct [(ordS, cel)] L, pre := [(it, liO src (0 : Nat)), (src, lst xs n), (dct, dicO [] 0), (cel, cellO (.ref od)), (od, lst ov no), (acc, lst [] 0)], dep := 30, uni := 400, post := fun e => (.res (.ok .next), [liE xs.length, lst xs n, oneO P [112, 105, 99, 107] (withT lo (e 0)), cellO (.ref od), lst ov no, lst al al.length], []) }
theorem v_pkd {it src acc dct cel od L : Nat} {ps : List (Nat × Nat)} {n no : Nat} {τ : Nat → Nat} (hps : ps.length < 2 ^ 20) (h16 : ∀ p ∈ ps, p.1 < 16) : VV w b1 b2 (cPkd (wf w b1 b2).params it src acc dct cel od L (ps.map nv) n (ordV τ) no ((pkY τ ps).map bv) (ps.map nv).getLast?) := by
  have h := v_compL (w := w) (b1 := b1) (b2 := b2) (c := lpC pkdC it acc dct [(ordS, cel)] L) (cs := lpS pkdC it acc dct [(ordS, cel)] L) (it := it) (src := src) (dct := dct) (acc := acc) (as := [cel, od]) (mid := [cellO (.ref od), lst (ordV τ) no]) (nm := [112, 105, 99, 107]) (vals := ps.map nv) (n := n) (dep := 30) (uni := 400) (em := emL ps fun p => [.bytes (L16 p.1) (τ p.1)]) rfl (fun i t => by
      unfold emL
      cases ps[i]? <;> simp) (by simpa using hps) v_pkdS (fun i v mo al hx hal => by
      rw [List.getElem?_map] at hx
      cases hy : ps[i]? with
      | none => rw [hy] at hx; cases hx
      | some p =>
        rw [hy] at hx
        have hv : nv p = v := by simpa using hx
        subst hv
        have hx' : (ps.map nv)[i]? = some (nv p) := by rw [List.getElem?_map, hy]; rfl
        have hp := h16 p (List.mem_of_getElem? hy)
        refine valid_as (v_pkdT (L := L) (it := it) (src := src) (dct := dct) (cel := cel) (od := od) (acc := acc) (n := n) (mo := mo) (no := no) (na := al.length) hx' (ordV_at (τ := τ) hp) (by omega) hal) rfl rfl (Nat.le_refl _) (Nat.le_refl _) fun e => ⟨e, ?_⟩
        have em : emL ps (fun p => [.bytes (L16 p.1) (τ p.1)]) i (e 1) = [.bytes (L16 p.1) (τ p.1)] := by
          unfold emL; rw [hy]
        show (_, [_, _, _, _, _, lst (al ++ emL ps _ i (e 1)) (al ++ emL ps _ i (e 1)).length], _) = (_, [_, _, _, _, _, _], _)
        rw [em, List.length_append]
        rfl)
    (v_pkdE (by simp))
  refine valid_as h rfl rfl (Nat.le_refl _) (Nat.le_refl _) fun e => ⟨e, ?_⟩
  have ea : accE (emL ps fun p => [.bytes (L16 p.1) (τ p.1)]) (ps.map nv).length (fun j => e (j + 1)) = (pkY τ ps).map bv := by
    rw [List.length_map, accE_emL']
    clear h
    induction ps with
    | nil => rfl
    | cons p ps ih =>
      rw [List.flatMap_cons, ih (by simp at hps; omega) fun p hp => h16 p (.tail _ hp)]
      rfl
  have el := lastV_end (ps.map nv) (e 0)
  show (_, [_, _, oneO _ _ (withT (ps.map nv).getLast? (e 0)), _, _, lst ((pkY τ ps).map bv) ((pkY τ ps).map bv).length], _) = (_, [_, _, oneO _ _ (lastV (ps.map nv) (ps.map nv).length (e 0)), _, _, lst (accE _ _ _) (accE _ _ _).length], _)
  rw [ea, el]
/-- the loop that lays the row -/
noncomputable def ordFor : Expr × Expr × List Stmt := match lawSt 4 with
  | Stmt.For t it b _ _ => (t, it, b)
  | _ => default
structure LT where
  (ts td tw tt : Nat)
structure NM where
  (tn : Nat) (vn : Value) (ts : Nat) (vs : Value) (te : Nat) (ve : Value)
noncomputable abbrev lawE (P : Params) (T : LT) (script draws words : Nat) (turn : Value) : List DictEntry := [en1 P [115, 99, 114, 105, 112, 116] T.ts (.ref script), en1 P [100, 114, 97, 119, 115] T.td (.ref draws), en1 P [119, 111, 114, 100, 115] T.tw (.ref words), en1 P [116, 117, 114, 110] T.tt turn]
noncomputable abbrev nmE (P : Params) (m : NM) : List DictEntry := [en1 P [110, 117, 109, 98, 101, 114] m.tn m.vn, en1 P [115, 112, 111, 116] m.ts m.vs, en1 P [101, 110, 100] m.te m.ve]
noncomputable def lawF (P : Params) (T : LT) (script draws words : Nat) (turn : Value) : Option NM → Obj
  | none => frm (lawE P T script draws words turn) 4
  | some m => frm (lawE P T script draws words turn ++ nmE P m) 7
noncomputable def lawEnv (L celF celC celO : Nat) : Env := { scope := (fdAt 22).2.2, locals := L, globals := 3, cells := [(⟨⟨[102, 105, 114, 115, 116, 115]⟩⟩, celF), (⟨⟨[99, 97, 109, 101]⟩⟩, celC), (⟨⟨[111, 114, 100, 101, 114]⟩⟩, celO)], qual := ⟨⟨[108, 97, 119, 46, 60, 108, 111, 99, 97, 108, 115, 62, 46]⟩⟩, func := some 140, code := .ref 139, frame := some L, builtins := 0 }
noncomputable def ordCode (it L celF celC celO : Nat) : Code := .forLoop ordFor.1 (.ref it) ordFor.2.2 [] (lawEnv L celF celC celO)
theorem v_mul7 {t u i : Nat} (h : i < 16) : VV w b1 b2 (cMul (i : Nat) t 7 u ((i : Nat) * 7)) := by
  refine vgo 60 (.seg (fun _ _ => []) fun a0 t0 => .fin false (fun _ => t0 0) 0 []) ?_
  rcases i with _ | _ | _ | _ | _ | _ | _ | _ | _ | _ | _ | _ | _ | _ | _ | _ | i
  case' succ.succ.succ.succ.succ.succ.succ.succ.succ.succ.succ.succ.succ.succ.succ.succ => exact absurd h (by omega)
  all_goals (cases b2 <;> exact fun ρ => by kernel_rfl)
def pick3 (a b c : Nat) : _root_.Fin 3 → Nat
  | 0 => a
  | 1 => b
  | 2 => c
noncomputable def cTGet (a t0 t1 t2 : Nat) (k : Int) (u : Nat) (j : _root_.Fin 3) : Con := { c := .call (.builtin "tuple.__getitem__") ⟨[.ref a, .int k u], []⟩, pre := [(a, tupO [.str (str0 [10]) t0, .str (str0 [13]) t1, .str (str0 [13, 10]) t2])], dep := 4, uni := 30, post := fun _ => (.res (.ok (.ret (.str (str0 (endL j)) (pick3 t0 t1 t2 j)))), [tupO [.str (str0 [10]) t0, .str (str0 [13]) t1, .str (str0 [13, 10]) t2]], []) }
theorem v_tget {a t0 t1 t2 u : Nat} {k : Int} {j : _root_.Fin 3} (hk : k = ((j.1 : Nat) : Int)) : VV w b1 b2 (cTGet a t0 t1 t2 k u j) := by
  subst hk
  refine vgo 60 (.seg (fun _ _ => [1, 1]) fun a0 t0 => .fin false (fun _ => 0) 0 []) ?_
  have hj : j = 0 ∨ j = 1 ∨ j = 2 := by omega
  rcases hj with rfl | rfl | rfl <;> exact fun ρ => by kernel_rfl
/-- a slice of the first items, whatever their number -/
theorem slicetoA (l : List Value) (k : Nat) : slicePick ⟨l⟩ none (some (k : Int)) none = ⟨l.take k⟩ := by
  have hb : sliceBounds none (some (k : Int)) none l.length = (((0 : Nat) : Int), ((min k l.length : Nat) : Int), 1) := by
    unfold sliceBounds
    simp only [Option.getD_none]
    have h2 : ¬ ((k : Int) < 0) := by omega
    simp only [h2, if_false, show (1 : Int) > 0 by decide, if_true]
    refine Prod.ext rfl (Prod.ext ?_ rfl)
    show max 0 (min (k : Int) l.length) = ((min k l.length : Nat) : Int)
    omega
  rw [slice_of hb (by omega)]
  simp
def tnOf (mo : Option NM) (t : Nat) : Nat := match mo with | none => t | some m => m.tn
def tsOf (mo : Option NM) (t : Nat) : Nat := match mo with | none => t | some m => m.ts
def teOf (mo : Option NM) (t : Nat) : Nat := match mo with | none => t | some m => m.te
abbrev spotI (i : Nat) (T : Int) : Int := ((i : Nat) * 7 + T).fmod 16
noncomputable def cOT (P : Params) (it L celF celC celO dr wo od i k : Nat) (T : LT) (sc : Nat) (tu : Int) (tt : Nat) (mo : Option NM) (dv : List Value) (nd : Nat) (wv : List Value) (nw : Nat) (ls : List (Array UInt8 × Nat)) (y : Array UInt8) (m : Nat) (j : _root_.Fin 3) : Con :=
  { c := ordCode it L celF celC celO, pre := [(it, riO i ((k + 1 : Nat) : Int)), (L, lawF P T sc dr wo (.int tu tt) mo), (dr, lst dv nd), (celO, cellO (.ref od)), (wo, lst wv nw), (od, lst (ls.map bv) m)], dep := 40, uni := 600,
    post := fun e => (.again (ordCode it L celF celC celO), [riO ((i + 1 : Nat) : Int) k, lawF P T sc dr wo (.int tu tt) (some ⟨tnOf mo (e 0), .int i (e 1), tsOf mo (e 2), .int (spotI i tu) (e 3), teOf mo (e 4), .str (str0 (endL j)) (e 5)⟩), lst dv nd, cellO (.ref od), lst wv nw, lst ((insL ls y (e 6)).map bv) (m + 1)], []) }
theorem v_OT {it L celF celC celO dr wo od i k : Nat} {T : LT} {sc : Nat} {tu : Int} {tt : Nat} {mo : Option NM} {cs : List (Int × Nat)} {nd : Nat} {wv : List Value} {nw : Nat} {ls : List (Array UInt8 × Nat)} {m : Nat} {j : _root_.Fin 3} {a b c d : Bool} {s tw : Nat} {f : Int}
    (hi : i < 16) (hcs : cs.length < 2 ^ 20) (hls : ls.length < 2 ^ 20) (hs : spotI i tu = ((s : Nat) : Int)) (hs16 : s < 16) (hw : wv[s]? = some (.str (worS a b c d) tw))
    (hf : sumTo (cs.take 1) (cs.take 1).length = f) (hfb : ∀ c ∈ cs, 0 ≤ c.1 ∧ c.1 < 48) (hj : ((i : Nat) + f).fmod 3 = ((j.1 : Nat) : Int)) :
    VV w b1 b2 (cOT (wf w b1 b2).params it L celF celC celO dr wo od i k T sc tu tt mo (cs.map iv) nd wv nw ls (letB a b c d) m j) := by
  have k1 : VV w b1 b2 (cRNx it i k) := v_rnx
  have k2 : ∀ t u, VV w b1 b2 (cMul (i : Nat) t 7 u ((i : Nat) * 7)) := fun t u => v_mul7 hi
  have k3 : ∀ sl t, VV w b1 b2 (cSl dr (cs.map iv) nd sl .none (.int (1 : Nat) t) ((cs.take 1).map iv)) := fun sl t => v_sl .none (.int _ _) (by simpa using hcs) (by rw [slicetoA, List.map_take])
  have k4 : ∀ a, VV w b1 b2 (cSumV a ((cs.take 1).map iv) 0 f) := fun a => by
    rw [← hf]
    have hm : ∀ c ∈ cs.take 1, 0 ≤ c.1 ∧ c.1 < 48 := fun c hc => hfb c (List.mem_of_mem_take hc)
    refine v_sumV (fun i y hy => ?_) (fun i => ?_)
    · have := hm y (List.mem_of_getElem? hy)
      omega
    · have hl : (cs.take 1).length ≤ 1 := by simp; omega
      revert hm hl
      generalize cs.take 1 = l
      intro hm hl
      match l, hl with
      | [], _ => unfold sumTo; simp
      | [c], _ =>
        have := hm c (by simp)
        unfold sumTo
        cases i with
        | zero => simp
        | succ i => simp; omega
  have k5 : ∀ a t0 t1 t2 u, VV w b1 b2 (cTGet a t0 t1 t2 (((i : Nat) + f).fmod 3) u j) := fun a t0 t1 t2 u => v_tget hj
  have k6 : ∀ t, VV w b1 b2 (cGet wo wv nw (spotI i tu) t (.str (worS a b c d) tw)) := fun t => v_get (by omega) (by omega) (by rw [hs, Int.toNat_natCast]; exact hw)
  have k7 : ∀ t, VV w b1 b2 (cInsort od ls (insL ls (letB a b c d) t) m (letB a b c d) t) := fun t => v_insort hls
  generalize (cs.take 1).map iv = fv at k3 k4
  generalize cs.map iv = dv at k3 ⊢
  refine vgo 600 (.seg (fun a0 t0 => [1, 1]) fun a0 t0 =>
    .orc (cRNx it i k) [0] k1 fun e0 =>
    .seg (fun _ _ => [2, 1, 2, 1]) fun a1 t1 =>
    .orc (cMul (i : Nat) (e0 0) 7 (t1 1) ((i : Nat) * 7)) [] (k2 _ _) fun e1 =>
    .seg (fun _ _ => [2, 0, 0, 2, 1, 3, 0, 0, 3, 5, 5, 5, 1]) fun a2 t2 =>
    .orc (cSl dr dv nd (a2 1) .none (.int (1 : Nat) (t2 7)) fv) [4, 0] (k3 _ _) fun e2 =>
    .seg (fun _ _ => [1]) fun a3 t3 =>
    .orc (cSumV (e2 0) fv 0 f) [0] (k4 _) fun e3 =>
    .seg (fun _ _ => [0, 0, 3, 3, 3, 1]) fun a4 t4 =>
    .orc (cTGet (a2 0) (t2 4) (t2 5) (t2 6) (((i : Nat) + f).fmod 3) (t4 2) j) [2] (k5 _ _ _ _ _) fun e4 =>
    .seg (fun _ _ => [0, 5, 4, 0, 7, 0, 5, 5, 8, 8, 8, 1]) fun a5 t5 =>
    .orc (cGet wo wv nw (spotI i tu) (t2 2) (.str (worS a b c d) tw)) [7] (k6 _) fun e5 =>
    .seg (fun _ _ => [5, 0, 1]) fun a6 t6 =>
    .orc (cSent a b c d j tw (pick3 (t2 4) (t2 5) (t2 6) j)) [] v_sent fun e6 =>
    .seg (fun _ _ => [0, 0, 1]) fun a7 t7 =>
    .orc (cInsort od ls (insL ls (letB a b c d) (e6 0)) m (letB a b c d) (e6 0)) [8] (k7 _) fun e7 =>
    .seg (fun _ _ => []) fun a8 t8 =>
    .fin true (fun n => match n with | 0 => t1 0 | 1 => e0 0 | 2 => t2 3 | 3 => t2 2 | 4 => t5 0 | 5 => pick3 (t2 4) (t2 5) (t2 6) j | _ => e6 0) 3 []) ?_
  cases b2 <;> cases mo <;> exact fun ρ => by kernel_rfl
end Mine

open PySem PySem.W PySem.W.X PyProof.Rows
namespace Mine
variable {w : World} {b1 b2 : Bool}
/-- insertion, no tokens in sight -/
def ltB (l : List (Array UInt8)) (x : Array UInt8) (i : Nat) : Bool := match l[i]? with
  | some q => ord8 q x == .lt
  | none => false
def insB (l : List (Array UInt8)) (x : Array UInt8) : List (Array UInt8) := l.take (bisR (ltB l x) l.length 0 l.length) ++ x :: l.drop (bisR (ltB l x) l.length 0 l.length)
theorem ltB_eq (ls : List (Array UInt8 × Nat)) (x : Array UInt8) : ltX ls x = ltB (ls.map (·.1)) x := by
  funext i
  unfold ltX ltB
  rw [List.getElem?_map]
  cases ls[i]? <;> rfl
theorem insB_eq (ls : List (Array UInt8 × Nat)) (x : Array UInt8) (t : Nat) : (insL ls x t).map (·.1) = insB (ls.map (·.1)) x := by
  unfold insL insB
  rw [ltB_eq, List.length_map, List.map_append, List.map_cons, List.map_take, List.map_drop]
def spotN (i tu : Nat) : Nat := (i * 7 + tu) % 16
def ordK (tu : Nat) : Nat → List (Array UInt8)
  | 0 => []
  | i + 1 => insB (ordK tu i) (L16 (spotN i tu))
def ordOk (tu : Nat) : Bool := ordK tu 16 == (List.range 16).map L16
theorem ord_all : ∀ tu : _root_.Fin 16, ordOk tu.1 = true := by decide +kernel
theorem ord_end {tu : Nat} (h : tu < 16) : ordK tu 16 = (List.range 16).map L16 := by
  have := ord_all ⟨tu, h⟩
  unfold ordOk at this
  exact eq_of_beq this
theorem insB_len (l : List (Array UInt8)) (x : Array UInt8) : (insB l x).length = l.length + 1 := by
  have := bisR_le (ltB l x) l.length 0 l.length (by omega)
  unfold insB
  simp
  omega
theorem ordK_len (tu : Nat) : ∀ i, (ordK tu i).length = i
  | 0 => rfl
  | i + 1 => by
    show (insB _ _).length = _
    rw [insB_len, ordK_len tu i]
theorem ordV_of {ls : List (Array UInt8 × Nat)} (h : ls.map (·.1) = (List.range 16).map L16) : ∃ τ, ls.map bv = ordV τ := by
  have hl : ls.length = 16 := by
    have := congrArg List.length h
    simpa using this
  refine ⟨fun i => match ls[i]? with | some q => q.2 | none => 0, ?_⟩
  refine List.ext_getElem? fun i => ?_
  by_cases hi : i < 16
  · have h2 := congrArg (fun l => l[i]?) h
    simp only [List.getElem?_map] at h2
    have hr : (List.range 16)[i]? = some i := by simp [hi]
    rw [hr] at h2
    cases hy : ls[i]? with
    | none => rw [hy] at h2; cases h2
    | some q =>
      rw [hy] at h2
      have h2 : q.1 = L16 i := by simpa using h2
      rw [List.getElem?_map, hy, ordV_at hi]
      show some (Value.bytes q.1 q.2) = some (Value.bytes (L16 i) (match ls[i]? with | some q => q.2 | none => 0))
      rw [hy, h2]
  · rw [List.getElem?_eq_none (by simp; omega), List.getElem?_eq_none (by show 16 ≤ i; omega)]
def jIx (i f : Nat) : _root_.Fin 3 := ⟨(i + f) % 3, Nat.mod_lt _ (by decide)⟩
structure OD where
  (tn vn ts vs te ve : Nat) (ls : List (Array UInt8 × Nat))
def omOf (tu f i : Nat) (d : OD) : Option NM := match i with
  | 0 => none
  | j + 1 => some ⟨d.tn, .int (j : Nat) d.vn, d.ts, .int (spotI j (tu : Nat)) d.vs, d.te, .str (str0 (endL (jIx j f))) d.ve⟩
noncomputable abbrev ordLS (P : Params) (T : LT) (sc dr wo tu tt f od : Nat) (dv : List Value) (nd : Nat) (wv : List Value) (nw i : Nat) (d : OD) : List Obj :=
  [riO i ((16 - i : Nat) : Int), lawF P T sc dr wo (.int (tu : Nat) tt) (omOf tu f i d), lst dv nd, cellO (.ref od), lst wv nw, lst (d.ls.map bv) i]
noncomputable def cOL (P : Params) (it L celF celC celO dr wo od : Nat) (T : LT) (sc tu tt f : Nat) (dv : List Value) (nd : Nat) (wv : List Value) (nw : Nat) : Con :=
  { c := ordCode it L celF celC celO, pre := [(it, riO (0 : Nat) (16 : Nat)), (L, lawF P T sc dr wo (.int (tu : Nat) tt) none), (dr, lst dv nd), (celO, cellO (.ref od)), (wo, lst wv nw), (od, lst [] 0)], dep := 40, uni := 600,
    post := fun e => (.res (.ok .next), [riO (16 : Nat) (0 : Nat), lawF P T sc dr wo (.int (tu : Nat) tt) (some ⟨e 0, .int (15 : Nat) (e 1), e 2, .int (spotI 15 (tu : Nat)) (e 3), e 4, .str (str0 (endL (jIx 15 f))) (e 5)⟩), lst dv nd, cellO (.ref od), lst wv nw, lst (ordV fun j => e (j + 6)) 16], []) }
theorem v_OLE {it L celF celC celO : Nat} {n : Nat} : VV w b1 b2 { c := ordCode it L celF celC celO, pre := [(it, riO n (0 : Nat))], dep := 40, uni := 600, post := fun e => (.res (.ok .next), [riO n (0 : Nat)], []) } := by
  refine vgo 100 (.seg (fun a0 t0 => [1, 1]) fun a0 t0 => .orc (cRNxE it n) [0] v_rnxE fun e0 => .seg (fun _ _ => [1]) fun _ _ => .fin false (fun _ => 0) 2 []) ?_
  cases b2 <;> exact fun ρ => by kernel_rfl
theorem spot_eq (i tu : Nat) : spotI i (tu : Nat) = ((spotN i tu : Nat) : Int) := by
  unfold spotI spotN
  rw [Int.fmod_eq_emod_of_nonneg _ (by decide)]
  omega
theorem v_OL {it L celF celC celO dr wo od : Nat} {T : LT} {sc tu tt f : Nat} {cs : List (Int × Nat)} {nd : Nat} {σ : Nat → Nat} {nw : Nat} (htu : tu < 16) (hcs : cs.length < 2 ^ 20) (hf : sumTo (cs.take 1) (cs.take 1).length = (f : Nat)) (hfb : ∀ c ∈ cs, 0 ≤ c.1 ∧ c.1 < 48) :
    VV w b1 b2 (cOL (wf w b1 b2).params it L celF celC celO dr wo od T sc tu tt f (cs.map iv) nd (wordsV σ) nw) := by
  have hl := valid_loopP (prog := pw) (w := wf w b1 b2) (kg := kg (wf w b1 b2)) (c := ordCode it L celF celC celO) (as := [it, L, dr, celO, wo, od]) (dep := 40) (uni := 600) 16 (fun i (d : OD) => d.ls.map (·.1) = ordK tu i) (fun i d => ordLS (wf w b1 b2).params T sc dr wo tu tt f od (cs.map iv) nd (wordsV σ) nw i d) (fun _ => .ok .next)
    (fun e => [riO (16 : Nat) (0 : Nat), lawF (wf w b1 b2).params T sc dr wo (.int (tu : Nat) tt) (some ⟨e 0, .int (15 : Nat) (e 1), e 2, .int (spotI 15 (tu : Nat)) (e 3), e 4, .str (str0 (endL (jIx 15 f))) (e 5)⟩), lst (cs.map iv) nd, cellO (.ref od), lst (wordsV σ) nw, lst (ordV fun j => e (j + 6)) 16]) (fun _ _ => rfl)
    (fun i d hi hp => by
      obtain ⟨k, hk⟩ : ∃ k, 16 = i + (k + 1) := ⟨16 - i - 1, by omega⟩
      have k1 : 16 - i = k + 1 := by omega
      have k2 : 16 - (i + 1) = k := by omega
      have hs16 : spotN i tu < 16 := Nat.mod_lt _ (by decide)
      obtain ⟨a, b, c, e0, hb⟩ := bits_some hs16
      have hw : (wordsV σ)[spotN i tu]? = some (.str (worS a b c e0) (σ (spotN i tu))) := by rw [words_at hs16]; unfold W16; rw [hb]
      have hL : L16 (spotN i tu) = letB a b c e0 := by unfold L16; rw [hb]
      have hlen : d.ls.length = i := by
        have := congrArg List.length hp
        rw [List.length_map, ordK_len] at this
        exact this
      have hj : ((i : Nat) + ((f : Nat) : Int)).fmod 3 = (((jIx i f).1 : Nat) : Int) := by
        unfold jIx
        rw [Int.fmod_eq_emod_of_nonneg _ (by decide)]
        show ((i : Nat) + ((f : Nat) : Int)) % 3 = (((i + f) % 3 : Nat) : Int)
        omega
      have h := v_OT (w := w) (b1 := b1) (b2 := b2) (it := it) (L := L) (celF := celF) (celC := celC) (celO := celO) (dr := dr) (wo := wo) (od := od) (k := k) (T := T) (sc := sc) (tt := tt) (mo := omOf tu f i d) (nd := nd) (nw := nw) (m := i) hi hcs (by omega) (spot_eq i tu) hs16 hw hf hfb hj (ls := d.ls)
      refine ⟨fun e => ⟨tnOf (omOf tu f i d) (e 0), e 1, tsOf (omOf tu f i d) (e 2), e 3, teOf (omOf tu f i d) (e 4), e 5, insL d.ls (letB a b c e0) (e 6)⟩, fun e => ?_, ?_⟩
      · show (insL d.ls (letB a b c e0) (e 6)).map (·.1) = insB (ordK tu i) (L16 (spotN i tu))
        rw [insB_eq, hp, hL]
      · refine valid_as h rfl ?_ (Nat.le_refl _) (Nat.le_refl _) fun e => ⟨e, ?_⟩
        · show [(it, riO i ((16 - i : Nat) : Int)), _, _, _, _, _] = _
          rw [k1]
          rfl
        · show (_, [riO _ ((16 - (i + 1) : Nat) : Int), _, _, _, _, _], _) = (_, [_, _, _, _, _, _], _)
          rw [k2]
          rfl)
    (fun d hp => by
      rw [ord_end htu] at hp
      obtain ⟨τ, hτ⟩ := ordV_of hp
      refine ⟨fun _ i => match i with | 0 => d.tn | 1 => d.vn | 2 => d.ts | 3 => d.vs | 4 => d.te | 5 => d.ve | j + 6 => τ j, ?_⟩
      refine valid_frame (ex := [L, dr, celO, wo, od].zip (ordLS (wf w b1 b2).params T sc dr wo tu tt f od (cs.map iv) nd (wordsV σ) nw 16 d).tail) (v_OLE (n := 16)) rfl rfl (Nat.le_refl _) (Nat.le_refl _) fun e => ?_
      show (_, [_, _, _, _, _, lst (ordV fun j => τ j) 16], _) = (_, [_, _, _, _, _, lst (d.ls.map bv) 16], _)
      rw [hτ]
      rfl)
    0 ⟨0, 0, 0, 0, 0, 0, []⟩ (Nat.zero_le _) rfl
  exact valid_as hl rfl rfl (Nat.le_refl _) (Nat.le_refl _) fun e => ⟨e, rfl⟩
end Mine

open PySem PySem.W PySem.W.X PyProof.Rows
namespace Mine
variable {w : World} {b1 b2 : Bool}
noncomputable def cHas (a : Nat) (l : List Value) (n : Nat) (z : Int) (t : Nat) (b : Bool) : Con := { c := .call (.builtin "list.__contains__") ⟨[.ref a, .int z t], []⟩, pre := [(a, lst l n)], dep := 4, uni := 30, post := fun _ => (.res (.ok (.ret (.bool b))), [lst l n], []) }
def eqZ (z : Int) (v : Value) : Bool := match v with | .int i _ => i == z | _ => false
theorem v_has {a : Nat} {ps : List (Nat × Nat)} {n : Nat} {z : Int} {t : Nat} {b : Bool} (hb : (ps.any fun p => ((p.1 : Nat) : Int) == z) = b) : VV w b1 b2 (cHas a (ps.map nv) n z t b) := by
  intro A s R hA hD hU hg hpre hnd HR
  have ho := (hpre (a, lst (ps.map nv) n) (.head _)).1
  have hL := isList_lst ho
  have ho' := ho
  rw [lst_eq] at ho'
  have M := MeetsSeq.list_contains a ⟨ps.map nv⟩ n (.int z t) (eqZ z) (fun y hy => by
    have : y ∈ ps.map nv := by simpa using hy
    obtain ⟨p, _, rfl⟩ := List.mem_map.mp this
    exact MeetsSeq.EqGives.int _ _ _ _)
  have e : (Array.mk (ps.map nv)).any (eqZ z) = b := by
    rw [← Array.any_toList, List.any_map, ← hb]
    rfl
  refine code_slotM PySem.F.slot_list_contains hL.typeIs PySem.F.entry_list_contains (PySem.F.args_list_contains_2 _ _) M ⟨ho', ?_⟩
  rw [e]
  exact HR (fun _ => 0) s (Out.refl fun p hp => (hpre p hp).1)
noncomputable def pikFor : Expr × Expr × List Stmt := match lawSt 7 with
  | Stmt.For t it b _ _ => (t, it, b)
  | _ => default
noncomputable def lawG (P : Params) (T : LT) (sc dr wo : Nat) (turn : Value) (m : NM) (tp pk : Nat) : Option (Nat × Value) → Obj
  | none => frm (lawE P T sc dr wo turn ++ nmE P m ++ [en1 P [112, 105, 99, 107, 115] tp (.ref pk)]) 8
  | some d => frm (lawE P T sc dr wo turn ++ nmE P m ++ [en1 P [112, 105, 99, 107, 115] tp (.ref pk), en1 P [100, 114, 97, 119] d.1 d.2]) 9
noncomputable def pikCode (it L celF celC celO : Nat) : Code := .forLoop pikFor.1 (.ref it) pikFor.2.2 [] (lawEnv L celF celC celO)
noncomputable def cPT (P : Params) (it L celF celC celO dr wo pk : Nat) (T : LT) (sc : Nat) (tu : Value) (m : NM) (tp : Nat) (mo : Option (Nat × Value)) (dv : List Value) (nd i : Nat) (pv : List Value) (np : Nat) (x : Int) (t : Nat) (b : Bool) : Con :=
  { c := pikCode it L celF celC celO, pre := [(it, liO dr i), (dr, lst dv nd), (L, lawG P T sc dr wo tu m tp pk mo), (pk, lst pv np)], dep := 40, uni := 600,
    post := fun e => (.again (pikCode it L celF celC celO), [liO dr ((i + 1 : Nat) : Int), lst dv nd, lawG P T sc dr wo tu m tp pk (some (midT mo (e 0), .int x t)), match b with | true => lst pv np | false => lst (pv ++ [.int (x.fmod 16) (e 1)]) (np + 1)], []) }
theorem v_PT {it L celF celC celO dr wo pk : Nat} {T : LT} {sc : Nat} {tu : Value} {m : NM} {tp : Nat} {mo : Option (Nat × Value)} {dv : List Value} {nd i : Nat} {ps : List (Nat × Nat)} {np : Nat} {x : Int} {t : Nat} {b : Bool}
    (hx : dv[i]? = some (.int x t)) (hps : ps.length < 2 ^ 20) (hb : (ps.any fun p => ((p.1 : Nat) : Int) == x.fmod 16) = b) : VV w b1 b2 (cPT (wf w b1 b2).params it L celF celC celO dr wo pk T sc tu m tp mo dv nd i (ps.map nv) np x t b) := by
  have h1 : VV w b1 b2 (cNx it dr dv nd i (.int x t)) := v_nx hx
  have h2 : ∀ u, VV w b1 b2 (cHas pk (ps.map nv) np (x.fmod 16) u b) := fun u => v_has hb
  have h3 : ∀ u, VV w b1 b2 (cApp pk (ps.map nv) np (.int (x.fmod 16) u)) := fun u => v_app (by simpa using hps)
  generalize ps.map nv = pv at h2 h3 ⊢
  refine vgo 300 (.seg (fun a0 t0 => [1, 1]) fun a0 t0 =>
    .orc (cNx it dr dv nd i (.int x t)) [0, 1] h1 fun e0 =>
    .seg (fun _ _ => [3, 2, 3, 0, 3, 4, 4, 1]) fun a1 t1 =>
    .orc (cHas pk pv np (x.fmod 16) (t1 2) b) [3] (h2 _) fun e1 => match b with
    | true => .seg (fun _ _ => []) fun _ _ => .fin true (fun _ => t1 0) 0 []
    | false => .seg (fun _ _ => [3, 4, 4, 4, 4, 3, 0, 1]) fun a3 t3 => .orc (cApp pk pv np (.int (x.fmod 16) (t3 1))) [3] (h3 _) fun e4 => .seg (fun _ _ => []) fun _ _ => .fin true (fun i => match i with | 0 => t1 0 | _ => t3 1) 0 []) ?_
  cases b2 <;> cases b <;> cases mo <;> exact fun ρ => by kernel_rfl
def tokN : List Nat → (Nat → Nat) → List (Nat × Nat)
  | [], _ => []
  | v :: vs, τ => (v, τ 0) :: tokN vs fun j => τ (j + 1)
theorem tokN_of : ∀ cs : List (Nat × Nat), ∃ τ, cs = tokN (cs.map (·.1)) τ
  | [] => ⟨fun _ => 0, rfl⟩
  | c :: cs => by
    obtain ⟨τ, h⟩ := tokN_of cs
    refine ⟨fun i => match i with | 0 => c.2 | j + 1 => τ j, ?_⟩
    show c :: cs = (c.1, c.2) :: tokN (cs.map (·.1)) τ
    rw [← h]
theorem tokN_fst : ∀ (vs : List Nat) (τ : Nat → Nat), (tokN vs τ).map (·.1) = vs
  | [], _ => rfl
  | v :: vs, τ => by
    show v :: (tokN vs _).map (·.1) = _
    rw [tokN_fst vs]
theorem tokN_len (vs : List Nat) (τ : Nat → Nat) : (tokN vs τ).length = vs.length := by
  have := congrArg List.length (tokN_fst vs τ)
  simpa using this
def pikStep (l : List Nat) (z : Nat) : List Nat := if l.contains z = true then l else l ++ [z]
def pikAt (zs : List Nat) (i : Nat) : List Nat := (zs.take i).foldl pikStep [5, 7, 6, 12]
theorem pikAt_succ {zs : List Nat} {i z : Nat} (h : zs[i]? = some z) : pikAt zs (i + 1) = pikStep (pikAt zs i) z := by
  unfold pikAt
  rw [List.take_add_one, h]
  simp
theorem pikStep_len (l : List Nat) (z : Nat) : l.length ≤ (pikStep l z).length ∧ (pikStep l z).length ≤ l.length + 1 := by
  unfold pikStep
  split <;> simp
theorem pikAt_len (zs : List Nat) : ∀ i, i ≤ zs.length → 4 ≤ (pikAt zs i).length ∧ (pikAt zs i).length ≤ 4 + i
  | 0, _ => by simp [pikAt]
  | i + 1, h => by
    obtain ⟨h1, h2⟩ := pikAt_len zs i (by omega)
    have hz : zs[i]? = some zs[i] := List.getElem?_eq_getElem (by omega)
    rw [pikAt_succ hz]
    have := pikStep_len (pikAt zs i) zs[i]
    omega
abbrev drZ (cs : List (Int × Nat)) : List Nat := cs.map fun c => (c.1.fmod 16).toNat
structure QD where
  (d : Nat) (ps : List (Nat × Nat))
noncomputable def cPL (P : Params) (it L celF celC celO dr wo pk : Nat) (T : LT) (sc : Nat) (tu : Value) (m : NM) (tp : Nat) (dv : List Value) (nd : Nat) (ps : List Value) (ks : List Nat) (lo : Option Value) : Con :=
  { c := pikCode it L celF celC celO, pre := [(it, liO dr (0 : Nat)), (dr, lst dv nd), (L, lawG P T sc dr wo tu m tp pk none), (pk, lst ps 0)], dep := 40, uni := 600,
    post := fun e => (.res (.ok .next), [liE dv.length, lst dv nd, lawG P T sc dr wo tu m tp pk (withT lo (e 0)), lst ((tokN ks fun j => e (j + 1)).map nv) (ks.length - 4)], []) }
theorem v_PLE {it src L celF celC celO : Nat} {xs : List Value} {n i : Nat} (hx : xs[i]? = none) : VV w b1 b2 { c := pikCode it L celF celC celO, pre := [(it, liO src i), (src, lst xs n)], dep := 40, uni := 600, post := fun e => (.res (.ok .next), [liE i, lst xs n], []) } := by
  refine vgo 100 (.seg (fun a0 t0 => [1, 1]) fun a0 t0 => .orc (cNxE it src xs n i) [0, 1] (v_nxE hx) fun e0 => .seg (fun a1 t1 => [1]) fun a1 t1 => .fin false (fun _ => 0) 2 []) ?_
  cases b2 <;> exact fun ρ => by kernel_rfl
theorem has_eq {ps : List (Nat × Nat)} {z : Int} {k : Nat} (hz : z = ((k : Nat) : Int)) : (ps.any fun p => ((p.1 : Nat) : Int) == z) = (ps.map (·.1)).contains k := by
  subst hz
  induction ps with
  | nil => rfl
  | cons p ps ih =>
    rw [List.any_cons, List.map_cons, List.contains_cons, ih]
    congr 1
    by_cases h : k = p.1
    · subst h; exact (beq_self_eq_true _).trans (beq_self_eq_true _).symm
    · have h2 : ¬ (((p.1 : Nat) : Int) = (k : Int)) := by omega
      rw [beq_eq_false_iff_ne.mpr h2, beq_eq_false_iff_ne.mpr h]
theorem v_PL {it L celF celC celO dr wo pk : Nat} {T : LT} {sc : Nat} {tu : Value} {m : NM} {tp : Nat} {cs : List (Int × Nat)} {nd : Nat} {u0 u1 u2 u3 : Nat} (hcs : cs.length < 2 ^ 10) :
    VV w b1 b2 (cPL (wf w b1 b2).params it L celF celC celO dr wo pk T sc tu m tp (cs.map iv) nd [.int 5 u0, .int 7 u1, .int 6 u2, .int 12 u3] (pikAt (drZ cs) cs.length) (cs.map iv).getLast?) := by
  have hl := valid_loopP (prog := pw) (w := wf w b1 b2) (kg := kg (wf w b1 b2)) (c := pikCode it L celF celC celO) (as := [it, dr, L, pk]) (dep := 40) (uni := 600) cs.length (fun i (d : QD) => d.ps.map (·.1) = pikAt (drZ cs) i) (fun i d => [liO dr i, lst (cs.map iv) nd, lawG (wf w b1 b2).params T sc dr wo tu m tp pk (lastV (cs.map iv) i d.d), lst (d.ps.map nv) (d.ps.length - 4)]) (fun _ => .ok .next)
    (fun e => [liE (cs.map iv).length, lst (cs.map iv) nd, lawG (wf w b1 b2).params T sc dr wo tu m tp pk (withT (cs.map iv).getLast? (e 0)), lst ((tokN (pikAt (drZ cs) cs.length) fun j => e (j + 1)).map nv) ((pikAt (drZ cs) cs.length).length - 4)]) (fun _ _ => rfl)
    (fun i d hi hp => by
      have hy : cs[i]? = some cs[i] := List.getElem?_eq_getElem hi
      generalize cs[i] = x at hy
      have hx : (cs.map iv)[i]? = some (.int x.1 x.2) := by rw [List.getElem?_map, hy]; rfl
      have hz : (drZ cs)[i]? = some (x.1.fmod 16).toNat := by rw [List.getElem?_map, hy]; rfl
      have hk : x.1.fmod 16 = (((x.1.fmod 16).toNat : Nat) : Int) := by
        have : 0 ≤ x.1.fmod 16 := by rw [Int.fmod_eq_emod_of_nonneg _ (by decide)]; omega
        omega
      obtain ⟨z1, z2⟩ := pikAt_len (drZ cs) i (by simp; omega)
      rw [← hp] at z1 z2
      rw [List.length_map] at z1 z2
      have hb := has_eq (ps := d.ps) hk
      rw [hp] at hb
      have h := v_PT (w := w) (b1 := b1) (b2 := b2) (it := it) (L := L) (celF := celF) (celC := celC) (celO := celO) (dr := dr) (wo := wo) (pk := pk) (T := T) (sc := sc) (tu := tu) (m := m) (tp := tp) (mo := lastV (cs.map iv) i d.d) (nd := nd) (np := d.ps.length - 4) hx (by omega) hb
      have e1 : ∀ a, lastV (cs.map iv) (i + 1) a = some (a, .int x.1 x.2) := fun a => by
        show (match (cs.map iv)[i]? with | some v => some (a, v) | none => none) = _
        rw [hx]
      cases hc : (pikAt (drZ cs) i).contains (x.1.fmod 16).toNat with
      | true =>
        rw [hc] at h
        refine ⟨fun e => ⟨midT (lastV (cs.map iv) i d.d) (e 0), d.ps⟩, fun e => ?_, ?_⟩
        · show d.ps.map (·.1) = _
          rw [pikAt_succ hz, hp]
          unfold pikStep
          rw [if_pos hc]
        · refine valid_as h rfl rfl (Nat.le_refl _) (Nat.le_refl _) fun e => ⟨e, ?_⟩
          dsimp only
          rw [e1]
          rfl
      | false =>
        rw [hc] at h
        refine ⟨fun e => ⟨midT (lastV (cs.map iv) i d.d) (e 0), d.ps ++ [((x.1.fmod 16).toNat, e 1)]⟩, fun e => ?_, ?_⟩
        · show (d.ps ++ _).map (·.1) = _
          rw [pikAt_succ hz, List.map_append, hp]
          unfold pikStep
          rw [if_neg (by rw [hc]; decide)]
          rfl
        · refine valid_as h rfl rfl (Nat.le_refl _) (Nat.le_refl _) fun e => ⟨e, ?_⟩
          have e2 : (d.ps ++ [((x.1.fmod 16).toNat, e 1)]).map nv = d.ps.map nv ++ [.int (x.1.fmod 16) (e 1)] := by
            rw [List.map_append]
            show _ ++ [Value.int (((x.1.fmod 16).toNat : Nat) : Int) (e 1)] = _
            rw [← hk]
          have e3 : (d.ps ++ [((x.1.fmod 16).toNat, e 1)]).length - 4 = d.ps.length - 4 + 1 := by
            rw [List.length_append]
            show d.ps.length + 1 - 4 = _
            omega
          dsimp only
          rw [e1, e2, e3]
          rfl)
    (fun d hp => by
      obtain ⟨τ, hτ⟩ := tokN_of d.ps
      refine ⟨fun _ i => match i with | 0 => d.d | j + 1 => τ j, ?_⟩
      have he := v_PLE (w := w) (b1 := b1) (b2 := b2) (it := it) (src := dr) (L := L) (celF := celF) (celC := celC) (celO := celO) (xs := cs.map iv) (n := nd) (i := cs.length) (by simp)
      refine valid_frame (ex := [(L, lawG (wf w b1 b2).params T sc dr wo tu m tp pk (lastV (cs.map iv) cs.length d.d)), (pk, lst (d.ps.map nv) (d.ps.length - 4))]) he rfl rfl (Nat.le_refl _) (Nat.le_refl _) fun e => ?_
      have el := lastV_end (cs.map iv) d.d
      rw [List.length_map] at el
      have hlen : d.ps.length = (pikAt (drZ cs) cs.length).length := by rw [← hp, List.length_map]
      rw [hp] at hτ
      show (_, [liE ((cs.map iv).length : Nat), _, lawG _ _ _ _ _ _ _ _ _ (withT (cs.map iv).getLast? d.d), lst ((tokN (pikAt (drZ cs) cs.length) fun j => τ j).map nv) ((pikAt (drZ cs) cs.length).length - 4)], _) = (_, [liE (cs.length : Nat), _, lawG _ _ _ _ _ _ _ _ _ (lastV (cs.map iv) cs.length d.d), lst (d.ps.map nv) (d.ps.length - 4)], _)
      rw [el, hlen, ← hτ, List.length_map])
    0 ⟨0, [(5, u0), (7, u1), (6, u2), (12, u3)]⟩ (Nat.zero_le _) (by simp [pikAt])
  exact valid_as hl rfl rfl (Nat.le_refl _) (Nat.le_refl _) fun e => ⟨e, rfl⟩
end Mine

open PySem PySem.W PySem.W.X PyProof.Rows
namespace Mine
variable {w : World} {b1 b2 : Bool}
def dotN (i : Nat) : Int := ((L16 i).size : Nat) - 12
noncomputable def cLenB (y : Array UInt8) (t : Nat) (k : Int) : Con := { c := .call (.builtin "len") ⟨[.bytes y t], []⟩, pre := [], dep := 4, uni := 30, post := fun e => (.res (.ok (.ret (.int k (e 0)))), [], []) }
theorem v_lenB {a b c d : Bool} {t : Nat} : VV w b1 b2 (cLenB (letB a b c d) t ((letB a b c d).size : Nat)) := by
  refine vgo 60 (.seg (fun _ _ => [0]) fun a0 t0 => .fin false (fun _ => t0 1) 0 []) ?_
  cases b2 <;> cases a <;> cases b <;> cases c <;> cases d <;> exact fun ρ => by kernel_rfl
noncomputable def dotO : Expr × Scope := match lawSt 10 with
  | Stmt.Assign _ v _ => cmpOf v
  | _ => default
noncomputable def dotI : Expr × Scope := match lawSt 10 with
  | Stmt.Assign _ (Expr.ListComp (Expr.Call _ [x] _ _) _ _ _) _ => cmpOf x
  | _ => default
theorem v_dotIS {it src acc dct L : Nat} {i : Int} : VV w b1 b2 { c := lpS dotI it acc dct [] L, pre := [(it, liO src i)], dep := 20, uni := 300, post := fun e => (.again (lpC dotI it acc dct [] L), [liO src i], []) } := by
  refine vgo 100 (.seg (fun a0 t0 => sSt b1) fun a0 t0 => .fin true (fun _ => 0) 0 []) ?_
  cases b1 <;> cases b2 <;> exact fun ρ => by kernel_rfl
theorem v_dotIE {it src acc dct L : Nat} {xs : List Value} {n i : Nat} (hx : xs[i]? = none) : VV w b1 b2 { c := lpC dotI it acc dct [] L, pre := [(it, liO src i), (src, lst xs n)], dep := 20, uni := 300, post := fun e => (.res (.ok .next), [liE i, lst xs n], []) } := by
  refine vgo 100 (.seg (fun a0 t0 => [1, 1]) fun a0 t0 => .orc (cNxE it src xs n i) [0, 1] (v_nxE hx) fun e0 => .seg (fun a1 t1 => [1]) fun a1 t1 => .fin false (fun _ => 0) 2 []) ?_
  cases b2 <;> exact fun ρ => by kernel_rfl
theorem v_dotIT {it src acc dct L : Nat} {xs : List Value} {n i : Nat} {mo : Option (Nat × Value)} {al : List Value} {na : Nat} {y : Array UInt8} {t : Nat} {k : Int} (hx : xs[i]? = some (.bytes y t)) (hk : ∀ t, VV w b1 b2 (cLenB y t k)) (hal : al.length < 2 ^ 20) :
    VV w b1 b2 { c := lpC dotI it acc dct [] L, pre := [(it, liO src i), (src, lst xs n), (dct, oneO (wf w b1 b2).params [108, 101, 116, 116, 101, 114] mo), (acc, lst al na)], dep := 20, uni := 300, post := fun e => (.again (lpC dotI it acc dct [] L), [liO src ((i + 1 : Nat) : Int), lst xs n, oneO (wf w b1 b2).params [108, 101, 116, 116, 101, 114] (some (midT mo (e 0), .bytes y t)), lst (al ++ [.int (k - 12) (e 1)]) (na + 1)], []) } := by
  have h1 : VV w b1 b2 (cNx it src xs n i (.bytes y t)) := v_nx hx
  have h2 : ∀ u, VV w b1 b2 (cApp acc al na (.int (k - 12) u)) := fun u => v_app hal
  have hk := hk t
  refine vgo 200 (.seg (fun a0 t0 => [1, 1]) fun a0 t0 =>
    .orc (cNx it src xs n i (.bytes y t)) [0, 1] h1 fun e0 =>
    .seg (fun _ _ => [3, 2, 0, 0, 3, 1]) fun a1 t1 =>
    .orc (cLenB y t k) [] hk fun e1 =>
    .seg (fun _ _ => [0, 1]) fun a2 t2 =>
    .orc (cApp acc al na (.int (k - 12) (t2 1))) [3] (h2 _) fun e2 =>
    .seg (fun _ _ => []) fun _ _ => .fin true (fun i => match i with | 0 => t1 0 | _ => t2 1) 0 []) ?_
  cases b2 <;> cases mo <;> exact fun ρ => by kernel_rfl
def dotV (n : Nat) : List Int := (List.range n).map dotN
noncomputable def cDotI (P : Params) (it src acc dct L : Nat) (xs : List Value) (n : Nat) (vs : List Int) (lo : Option Value) : Con :=
  { c := lpS dotI it acc dct [] L, pre := [(it, liO src (0 : Nat)), (src, lst xs n), (dct, dicO [] 0), (acc, lst [] 0)], dep := 20, uni := 300, post := fun e => (.res (.ok .next), [liE xs.length, lst xs n, oneO P [108, 101, 116, 116, 101, 114] (withT lo (e 0)), lst ((tokL vs fun j => e (j + 1)).map iv) vs.length], []) }
theorem ordT_at {τ : Nat → Nat} {k i : Nat} (hk : k ≤ 16) (hi : i < k) : ((ordV τ).take k)[i]? = some (.bytes (L16 i) (τ i)) := by
  rw [List.getElem?_take, if_pos hi, ordV_at (by omega)]
theorem v_dotI {it src acc dct L k : Nat} {τ : Nat → Nat} {n : Nat} (hk : k ≤ 16) : VV w b1 b2 (cDotI (wf w b1 b2).params it src acc dct L ((ordV τ).take k) n (dotV k) ((ordV τ).take k).getLast?) := by
  have hlen : ((ordV τ).take k).length = k := by rw [List.length_take, ordV_len]; omega
  have h := v_compL (w := w) (b1 := b1) (b2 := b2) (c := lpC dotI it acc dct [] L) (cs := lpS dotI it acc dct [] L) (it := it) (src := src) (dct := dct) (acc := acc) (as := []) (mid := []) (nm := [108, 101, 116, 116, 101, 114]) (vals := (ordV τ).take k) (n := n) (dep := 20) (uni := 300) (em := fun i t => [.int (dotN i) t]) rfl (fun i t => by simp) (by omega) v_dotIS (fun i v mo al hv hal => by
      have hi : i < k := by
        have := (List.getElem?_eq_some_iff.mp hv).1
        omega
      obtain ⟨a, b, c, d, hb⟩ := bits_some (show i < 16 by omega)
      have hL : L16 i = letB a b c d := by unfold L16; rw [hb]
      have hw := ordT_at (τ := τ) hk hi
      rw [hw] at hv
      have hv : .bytes (L16 i) (τ i) = v := by simpa using hv
      subst hv
      refine valid_as (v_dotIT (L := L) (it := it) (src := src) (dct := dct) (acc := acc) (n := n) (mo := mo) (na := al.length) (k := ((L16 i).size : Nat)) hw (fun t => by rw [hL]; exact v_lenB) hal) rfl rfl (Nat.le_refl _) (Nat.le_refl _) fun e => ⟨e, ?_⟩
      show (_, [_, _, _, lst (al ++ _) (al ++ _).length], _) = (_, [_, _, _, _], _)
      rw [List.length_append]
      rfl)
    (v_dotIE (by simp))
  refine valid_as h rfl rfl (Nat.le_refl _) (Nat.le_refl _) fun e => ⟨e, ?_⟩
  have ea : accE (fun i t => [.int (dotN i) t]) ((ordV τ).take k).length (fun j => e (j + 1)) = (tokL (dotV k) fun j => e (j + 1)).map iv := by
    rw [hlen, accE_tok]
    rfl
  have el := lastV_end ((ordV τ).take k) (e 0)
  have ez : ((tokL (dotV k) fun j => e (j + 1)).map iv).length = (dotV k).length := by rw [List.length_map, tokL_len]
  show (_, [_, _, oneO _ _ (withT ((ordV τ).take k).getLast? (e 0)), lst _ (dotV k).length], _) = (_, [_, _, oneO _ _ (lastV ((ordV τ).take k) ((ordV τ).take k).length (e 0)), lst (accE _ _ _) (accE _ _ _).length], _)
  rw [ea, el, ez]
theorem fold_b : ∀ (l : List Int) (a : Int), (∀ v ∈ l, 0 ≤ v ∧ v ≤ 100) → a ≤ l.foldl (· + ·) a ∧ l.foldl (· + ·) a ≤ a + 100 * (l.length : Int)
  | [], a, _ => by simp
  | v :: l, a, h => by
    have h1 := h v (.head _)
    have h2 := fold_b l (a + v) fun u hu => h u (.tail _ hu)
    rw [List.foldl_cons, List.length_cons]
    omega
theorem sum_fit {ys : List (Int × Nat)} (h : ∀ y ∈ ys, 0 ≤ y.1 ∧ y.1 ≤ 100) (hl : ys.length < 2 ^ 20) : (∀ (i : Nat) (y : Int × Nat), ys[i]? = some y → -(2 ^ 63) ≤ y.1 ∧ y.1 < 2 ^ 63) ∧ ∀ i, -(2 ^ 63) ≤ sumTo ys i ∧ sumTo ys i < 2 ^ 63 := by
  refine ⟨fun i y hy => ?_, fun i => ?_⟩
  · have := h y (List.mem_of_getElem? hy)
    omega
  · have := fold_b ((ys.take i).map (·.1)) 0 (fun v hv => by
      obtain ⟨y, hy, rfl⟩ := List.mem_map.mp hv
      exact h y (List.mem_of_mem_take hy))
    unfold sumTo
    have h2 : (((ys.take i).map (·.1)).length : Int) < 2 ^ 20 := by
      rw [List.length_map, List.length_take]
      omega
    omega
theorem sumTo_all (ys : List (Int × Nat)) : sumTo ys ys.length = (ys.map (·.1)).foldl (· + ·) 0 := by
  unfold sumTo
  rw [List.take_length]
def sumI (vs : List Int) : Int := vs.foldl (· + ·) 0
theorem v_sumT' {l : Nat} {vs : List Int} {τ : Nat → Nat} {n : Nat} (h : ∀ v ∈ vs, 0 ≤ v ∧ v ≤ 100) (hl : vs.length < 2 ^ 20) : VV w b1 b2 (cSumV l ((tokL vs τ).map iv) n (sumI vs)) := by
  have hf := sum_fit (ys := tokL vs τ) (fun y hy => by
    have : y.1 ∈ (tokL vs τ).map (·.1) := List.mem_map_of_mem hy
    rw [tokL_fst] at this
    exact h _ this) (by rw [tokL_len]; exact hl)
  have e : sumTo (tokL vs τ) (tokL vs τ).length = sumI vs := by rw [sumTo_all, tokL_fst]; rfl
  rw [← e]
  exact v_sumV hf.1 hf.2
theorem dot_b : ∀ i : _root_.Fin 16, 0 ≤ dotN i.1 ∧ dotN i.1 ≤ 100 := by decide +kernel
theorem dotV_b {k : Nat} (hk : k ≤ 16) : ∀ v ∈ dotV k, 0 ≤ v ∧ v ≤ 100 := fun v hv => by
  obtain ⟨i, hi, rfl⟩ := List.mem_map.mp hv
  exact dot_b ⟨i, by have := List.mem_range.mp hi; omega⟩
theorem dotV_len (k : Nat) : (dotV k).length = k := by unfold dotV; simp
theorem v_dotOS {it acc dct cel L : Nat} {x y : Int} : VV w b1 b2 { c := lpS dotO it acc dct [(ordS, cel)] L, pre := [(it, riO x y)], dep := 40, uni := 600, post := fun e => (.again (lpC dotO it acc dct [(ordS, cel)] L), [riO x y], []) } := by
  refine vgo 100 (.seg (fun a0 t0 => sSt b1) fun a0 t0 => .fin true (fun _ => 0) 0 []) ?_
  cases b1 <;> cases b2 <;> exact fun ρ => by kernel_rfl
theorem v_dotOE {it acc dct cel L : Nat} {n : Nat} : VV w b1 b2 { c := lpC dotO it acc dct [(ordS, cel)] L, pre := [(it, riO n (0 : Nat))], dep := 40, uni := 600, post := fun e => (.res (.ok .next), [riO n (0 : Nat)], []) } := by
  refine vgo 100 (.seg (fun a0 t0 => [1, 1]) fun a0 t0 => .orc (cRNxE it n) [0] v_rnxE fun e0 => .seg (fun _ _ => [1]) fun _ _ => .fin false (fun _ => 0) 2 []) ?_
  cases b2 <;> exact fun ρ => by kernel_rfl
theorem v_dotOT {it acc dct cel od L i k : Nat} {mo : Option (Nat × Value)} {τ : Nat → Nat} {no : Nat} {al : List Value} {na : Nat} (hi : i < 16) (hal : al.length < 2 ^ 20) :
    VV w b1 b2 { c := lpC dotO it acc dct [(ordS, cel)] L, pre := [(it, riO i ((k + 1 : Nat) : Int)), (dct, oneO (wf w b1 b2).params [99, 111, 117, 110, 116] mo), (cel, cellO (.ref od)), (od, lst (ordV τ) no), (acc, lst al na)], dep := 40, uni := 600, post := fun e => (.again (lpC dotO it acc dct [(ordS, cel)] L), [riO ((i + 1 : Nat) : Int) k, oneO (wf w b1 b2).params [99, 111, 117, 110, 116] (some (midT mo (e 0), .int i (e 2))), cellO (.ref od), lst (ordV τ) no, lst (al ++ [.int (sumI (dotV (i + 1))) (e 1)]) (na + 1)], []) } := by
  have k1 : VV w b1 b2 (cRNx it i k) := v_rnx
  have k2 : ∀ sl t, VV w b1 b2 (cSl od (ordV τ) no sl .none (.int ((i : Nat) + 1) t) ((ordV τ).take (i + 1))) := fun sl t => by
    rw [show ((i : Nat) : Int) + 1 = ((i + 1 : Nat) : Int) from rfl]
    exact v_sl .none (.int _ _) (by rw [ordV_len]; decide) (by rw [slicetoA])
  have k3 : ∀ it src acc dct, VV w b1 b2 (cDotI (wf w b1 b2).params it src acc dct L ((ordV τ).take (i + 1)) 0 (dotV (i + 1)) ((ordV τ).take (i + 1)).getLast?) := fun it src acc dct => v_dotI (by omega)
  have k4 : ∀ a (e : Nat → Nat), VV w b1 b2 (cSumV a ((tokL (dotV (i + 1)) fun j => e (j + 1)).map iv) (dotV (i + 1)).length (sumI (dotV (i + 1)))) := fun a e => v_sumT' (dotV_b (by omega)) (by rw [dotV_len]; omega)
  have k5 : ∀ t, VV w b1 b2 (cApp acc al na (.int (sumI (dotV (i + 1))) t)) := fun t => v_app hal
  obtain ⟨lo, hlo⟩ : ∃ v, ((ordV τ).take (i + 1)).getLast? = some v := by
    have hl : ((ordV τ).take (i + 1)).length = i + 1 := by rw [List.length_take, ordV_len]; omega
    cases h : ((ordV τ).take (i + 1)).getLast? with
    | none => rw [List.getLast?_eq_none_iff] at h; rw [h] at hl; cases hl
    | some v => exact ⟨v, rfl⟩
  rw [hlo] at k3
  generalize sumI (dotV (i + 1)) = s at k4 k5 ⊢
  generalize dotV (i + 1) = vs at k3 k4
  generalize (ordV τ).take (i + 1) = tv at k2 k3
  generalize ordV τ = ov at k2 ⊢
  refine vgo 400 (.seg (fun a0 t0 => [1, 1]) fun a0 t0 =>
    .orc (cRNx it i k) [0] k1 fun e0 =>
    .seg (fun _ _ => [2, 1, 0, 0, 3, 2, 0, 5, 5, 5, 1]) fun a1 t1 =>
    .orc (cSl od ov no (a1 0) .none (.int ((i : Nat) + 1) (t1 2)) tv) [4, 0] (k2 _ _) fun e1 =>
    .seg (fun _ _ => [1, 1, 0, 1, 1, 1]) fun a2 t2 =>
    .orc (cDotI (wf w b1 b2).params (a2 0) (e1 0) (a2 1) (a2 2) L tv 0 vs (some lo)) [2, 3, 0, 1] (k3 _ _ _ _) fun e2 =>
    .seg (fun _ _ => [1, 1, 0, 1]) fun a3 t3 =>
    .orc (cSumV (a2 1) ((tokL vs fun j => e2 (j + 1)).map iv) vs.length s) [1] (k4 _ _) fun e3 =>
    .seg (fun _ _ => [1]) fun a4 t4 =>
    .orc (cApp acc al na (.int s (e3 0))) [9] (k5 _) fun e4 =>
    .seg (fun _ _ => []) fun _ _ =>
    .fin true (fun j => match j with | 0 => t1 0 | 1 => e3 0 | _ => e0 0) 5 []) ?_
  cases b2 <;> cases mo <;> exact fun ρ => by kernel_rfl
def lastR1 (n t u : Nat) : Option (Nat × Value) := lastR n t u
noncomputable def cDotO (P : Params) (it acc dct cel od L n : Nat) (ov : List Value) (no : Nat) (vs : List Int) : Con :=
  { c := lpS dotO it acc dct [(ordS, cel)] L, pre := [(it, riO (0 : Nat) ((n + 1 : Nat) : Int)), (dct, dicO [] 0), (cel, cellO (.ref od)), (od, lst ov no), (acc, lst [] 0)], dep := 40, uni := 600, post := fun e => (.res (.ok .next), [riO ((n + 1 : Nat) : Int) (0 : Nat), oneO P [99, 111, 117, 110, 116] (some (e 0, .int (n : Nat) (e 1))), cellO (.ref od), lst ov no, lst ((tokL vs fun j => e (j + 2)).map iv) vs.length], []) }
def dotsV (n : Nat) : List Int := (List.range n).map fun i => sumI (dotV (i + 1))
theorem v_dotO {it acc dct cel od L n : Nat} {τ : Nat → Nat} {no : Nat} (hn : n + 1 ≤ 16) : VV w b1 b2 (cDotO (wf w b1 b2).params it acc dct cel od L n (ordV τ) no (dotsV (n + 1))) := by
  have h := v_compR (w := w) (b1 := b1) (b2 := b2) (c := lpC dotO it acc dct [(ordS, cel)] L) (cs := lpS dotO it acc dct [(ordS, cel)] L) (it := it) (dct := dct) (acc := acc) (as := [cel, od]) (mid := [cellO (.ref od), lst (ordV τ) no]) (nm := [99, 111, 117, 110, 116]) (n := n + 1) (dep := 40) (uni := 600) (em := fun i t => [.int (sumI (dotV (i + 1))) t]) rfl (fun i t => by simp) (by omega) v_dotOS (fun i k mo al hk hal => by
      refine valid_as (v_dotOT (L := L) (it := it) (dct := dct) (cel := cel) (od := od) (acc := acc) (τ := τ) (no := no) (mo := mo) (k := k) (na := al.length) (show i < 16 by omega) hal) rfl rfl (Nat.le_refl _) (Nat.le_refl _) fun e => ⟨e, ?_⟩
      show (_, [_, _, _, _, lst (al ++ _) (al ++ _).length], _) = (_, [_, _, _, _, _], _)
      rw [List.length_append]
      rfl)
    v_dotOE
  refine valid_as h rfl rfl (Nat.le_refl _) (Nat.le_refl _) fun e => ⟨e, ?_⟩
  have ea : accE (fun i t => [.int (sumI (dotV (i + 1))) t]) (n + 1) (fun j => e (j + 2)) = (tokL (dotsV (n + 1)) fun j => e (j + 2)).map iv := by
    rw [accE_tok]
    rfl
  have ez : ((tokL (dotsV (n + 1)) fun j => e (j + 2)).map iv).length = (dotsV (n + 1)).length := by rw [List.length_map, tokL_len]
  show (_, [_, _, _, _, lst _ (dotsV (n + 1)).length], _) = (_, [_, _, _, _, lst (accE _ _ _) (accE _ _ _).length], _)
  rw [ea, ez]
  rfl
/-- the comprehension of ones -/
noncomputable def onsX : Expr := match lawSt 11 with
  | Stmt.If (Expr.BoolOp _ [_, _, Expr.Compare _ _ [x] _] _) _ _ _ => x
  | _ => default
noncomputable def onsC : Expr × Scope := cmpOf onsX
theorem v_onsS {it acc dct L : Nat} {x y : Int} : VV w b1 b2 { c := lpS onsC it acc dct [] L, pre := [(it, riO x y)], dep := 40, uni := 600, post := fun e => (.again (lpC onsC it acc dct [] L), [riO x y], []) } := by
  refine vgo 100 (.seg (fun a0 t0 => sSt b1) fun a0 t0 => .fin true (fun _ => 0) 0 []) ?_
  cases b1 <;> cases b2 <;> exact fun ρ => by kernel_rfl
theorem v_onsE {it acc dct L : Nat} {n : Nat} : VV w b1 b2 { c := lpC onsC it acc dct [] L, pre := [(it, riO n (0 : Nat))], dep := 40, uni := 600, post := fun e => (.res (.ok .next), [riO n (0 : Nat)], []) } := by
  refine vgo 100 (.seg (fun a0 t0 => [1, 1]) fun a0 t0 => .orc (cRNxE it n) [0] v_rnxE fun e0 => .seg (fun _ _ => [1]) fun _ _ => .fin false (fun _ => 0) 2 []) ?_
  cases b2 <;> exact fun ρ => by kernel_rfl
theorem v_onsT {it acc dct L i k : Nat} {mo : Option (Nat × Value)} {al : List Value} {na : Nat} (hi : i < 16) (hal : al.length < 2 ^ 20) :
    VV w b1 b2 { c := lpC onsC it acc dct [] L, pre := [(it, riO i ((k + 1 : Nat) : Int)), (dct, oneO (wf w b1 b2).params [99, 111, 117, 110, 116] mo), (acc, lst al na)], dep := 40, uni := 600, post := fun e => (.again (lpC onsC it acc dct [] L), [riO ((i + 1 : Nat) : Int) k, oneO (wf w b1 b2).params [99, 111, 117, 110, 116] (some (midT mo (e 0), .int i (e 2))), lst (al ++ [.int (onesOf ((i : Nat) + 1)) (e 1)]) (na + 1)], []) } := by
  have k1 : VV w b1 b2 (cRNx it i k) := v_rnx
  have k2 : ∀ t, VV w b1 b2 (cOnes ((i : Nat) + 1) t (onesOf ((i : Nat) + 1))) := fun t => v_ones (by omega) (by omega)
  have k3 : ∀ t, VV w b1 b2 (cApp acc al na (.int (onesOf ((i : Nat) + 1)) t)) := fun t => v_app hal
  generalize onesOf ((i : Nat) + 1) = s at k2 k3 ⊢
  refine vgo 400 (.seg (fun a0 t0 => [1, 1]) fun a0 t0 =>
    .orc (cRNx it i k) [0] k1 fun e0 =>
    .seg (fun _ _ => [2, 1, 0, 2, 0, 0, 1]) fun a1 t1 =>
    .orc (cOnes ((i : Nat) + 1) (t1 2) s) [] (k2 _) fun e1 =>
    .seg (fun _ _ => [1]) fun a2 t2 =>
    .orc (cApp acc al na (.int s (e1 0))) [2] (k3 _) fun e2 =>
    .seg (fun _ _ => []) fun _ _ =>
    .fin true (fun j => match j with | 0 => t1 0 | 1 => e1 0 | _ => e0 0) 0 []) ?_
  cases b2 <;> cases mo <;> exact fun ρ => by kernel_rfl
noncomputable def cOnsL (P : Params) (it acc dct L n : Nat) (vs : List Int) : Con :=
  { c := lpS onsC it acc dct [] L, pre := [(it, riO (0 : Nat) ((n + 1 : Nat) : Int)), (dct, dicO [] 0), (acc, lst [] 0)], dep := 40, uni := 600, post := fun e => (.res (.ok .next), [riO ((n + 1 : Nat) : Int) (0 : Nat), oneO P [99, 111, 117, 110, 116] (some (e 0, .int (n : Nat) (e 1))), lst ((tokL vs fun j => e (j + 2)).map iv) vs.length], []) }
def onesV (n : Nat) : List Int := (List.range n).map fun (i : Nat) => onesOf ((i : Int) + 1)
theorem v_onsL {it acc dct L n : Nat} (hn : n + 1 ≤ 16) : VV w b1 b2 (cOnsL (wf w b1 b2).params it acc dct L n (onesV (n + 1))) := by
  have h := v_compR (w := w) (b1 := b1) (b2 := b2) (c := lpC onsC it acc dct [] L) (cs := lpS onsC it acc dct [] L) (it := it) (dct := dct) (acc := acc) (as := []) (mid := []) (nm := [99, 111, 117, 110, 116]) (n := n + 1) (dep := 40) (uni := 600) (em := fun i t => [.int (onesOf ((i : Nat) + 1)) t]) rfl (fun i t => by simp) (by omega) v_onsS (fun i k mo al hk hal => by
      refine valid_as (v_onsT (L := L) (it := it) (dct := dct) (acc := acc) (mo := mo) (k := k) (na := al.length) (show i < 16 by omega) hal) rfl rfl (Nat.le_refl _) (Nat.le_refl _) fun e => ⟨e, ?_⟩
      show (_, [_, _, lst (al ++ _) (al ++ _).length], _) = (_, [_, _, _], _)
      rw [List.length_append]
      rfl)
    v_onsE
  refine valid_as h rfl rfl (Nat.le_refl _) (Nat.le_refl _) fun e => ⟨e, ?_⟩
  have ea : accE (fun i t => [.int (onesOf ((i : Nat) + 1)) t]) (n + 1) (fun j => e (j + 2)) = (tokL (onesV (n + 1)) fun j => e (j + 2)).map iv := by
    rw [accE_tok]
    rfl
  have ez : ((tokL (onesV (n + 1)) fun j => e (j + 2)).map iv).length = (onesV (n + 1)).length := by rw [List.length_map, tokL_len]
  show (_, [_, _, lst _ (onesV (n + 1)).length], _) = (_, [_, _, lst (accE _ _ _) (accE _ _ _).length], _)
  rw [ea, ez]
  rfl
/-- the last comprehension -/
noncomputable def finX : Expr := match lawSt 12 with
  | Stmt.Return (some (Expr.Compare x _ _ _)) _ => x
  | _ => default
noncomputable def finC : Expr × Scope := cmpOf finX
abbrev cfCells (celF celC : Nat) : List (Str × Nat) := [(⟨⟨[102, 105, 114, 115, 116, 115]⟩⟩, celF), (⟨⟨[99, 97, 109, 101]⟩⟩, celC)]
theorem v_finS {it acc dct celF celC L : Nat} {x y : Int} : VV w b1 b2 { c := lpS finC it acc dct (cfCells celF celC) L, pre := [(it, riO x y)], dep := 40, uni := 600, post := fun e => (.again (lpC finC it acc dct (cfCells celF celC) L), [riO x y], []) } := by
  refine vgo 100 (.seg (fun a0 t0 => sSt b1) fun a0 t0 => .fin true (fun _ => 0) 0 []) ?_
  cases b1 <;> cases b2 <;> exact fun ρ => by kernel_rfl
theorem v_finE {it acc dct celF celC L : Nat} {n : Nat} : VV w b1 b2 { c := lpC finC it acc dct (cfCells celF celC) L, pre := [(it, riO n (0 : Nat))], dep := 40, uni := 600, post := fun e => (.res (.ok .next), [riO n (0 : Nat)], []) } := by
  refine vgo 100 (.seg (fun a0 t0 => [1, 1]) fun a0 t0 => .orc (cRNxE it n) [0] v_rnxE fun e0 => .seg (fun _ _ => [1]) fun _ _ => .fin false (fun _ => 0) 2 []) ?_
  cases b2 <;> exact fun ρ => by kernel_rfl
theorem v_igt {x y : Int} {t u : Nat} {b : Bool} (h : decide (x > y) = b) : VV w b1 b2 (cB "int.__gt__" [.int x t, .int y u] (.bool b)) := by
  subst h
  exact vgo 60 sNil (fun ρ => by kernel_rfl)
theorem v_finT {it acc dct celF celC ca fi L i k : Nat} {mo : Option (Nat × Value)} {cv fv : List Value} {nc nf : Nat} {x y : Int} {tx ty : Nat} {al : List Value} {na : Nat} (hi : i < 2 ^ 20) (hx : cv[i]? = some (.int x tx)) (hy : fv[i]? = some (.int y ty)) (hxy : x ≤ y) :
    VV w b1 b2 { c := lpC finC it acc dct (cfCells celF celC) L, pre := [(it, riO i ((k + 1 : Nat) : Int)), (dct, oneO (wf w b1 b2).params [99, 111, 117, 110, 116] mo), (celC, cellO (.ref ca)), (ca, lst cv nc), (celF, cellO (.ref fi)), (fi, lst fv nf), (acc, lst al na)], dep := 40, uni := 600, post := fun e => (.again (lpC finC it acc dct (cfCells celF celC) L), [riO ((i + 1 : Nat) : Int) k, oneO (wf w b1 b2).params [99, 111, 117, 110, 116] (some (midT mo (e 0), .int i (e 2))), cellO (.ref ca), lst cv nc, cellO (.ref fi), lst fv nf, lst al na], []) } := by
  have k1 : VV w b1 b2 (cRNx it i k) := v_rnx
  have k2 : ∀ t, VV w b1 b2 (cGet ca cv nc (i : Nat) t (.int x tx)) := fun t => v_get (by omega) (by omega) (by rw [Int.toNat_natCast]; exact hx)
  have k3 : ∀ t, VV w b1 b2 (cGet fi fv nf (i : Nat) t (.int y ty)) := fun t => v_get (by omega) (by omega) (by rw [Int.toNat_natCast]; exact hy)
  have k4 : VV w b1 b2 (cB "int.__gt__" [.int x tx, .int y ty] (.bool false)) := v_igt (by simp; omega)
  refine vgo 400 (.seg (fun a0 t0 => [1, 1]) fun a0 t0 =>
    .orc (cRNx it i k) [0] k1 fun e0 =>
    .seg (fun _ _ => [2, 1, 3, 2, 4, 4, 4, 1]) fun a1 t1 =>
    .orc (cGet ca cv nc (i : Nat) (e0 0) (.int x tx)) [3] (k2 _) fun e1 =>
    .seg (fun _ _ => [5, 2, 6, 6, 6, 1]) fun a2 t2 =>
    .orc (cGet fi fv nf (i : Nat) (e0 0) (.int y ty)) [5] (k3 _) fun e2 =>
    .seg (fun _ _ => [1]) fun a3 t3 =>
    .orc (cB "int.__gt__" [.int x tx, .int y ty] (.bool false)) [] k4 fun e3 =>
    .seg (fun _ _ => []) fun _ _ =>
    .fin true (fun j => match j with | 0 => t1 0 | _ => e0 0) 0 []) ?_
  cases b2 <;> cases mo <;> exact fun ρ => by kernel_rfl
theorem accE_nil : ∀ (n : Nat) (τ : Nat → Nat), accE (fun _ _ => []) n τ = []
  | 0, _ => rfl
  | n + 1, τ => by
    show accE _ n τ ++ [] = []
    rw [accE_nil n, List.append_nil]
noncomputable def cFin (P : Params) (it acc dct celF celC ca fi L n : Nat) (cv fv : List Value) (nc nf : Nat) : Con :=
  { c := lpS finC it acc dct (cfCells celF celC) L, pre := [(it, riO (0 : Nat) ((n + 1 : Nat) : Int)), (dct, dicO [] 0), (celC, cellO (.ref ca)), (ca, lst cv nc), (celF, cellO (.ref fi)), (fi, lst fv nf), (acc, lst [] 0)], dep := 40, uni := 600, post := fun e => (.res (.ok .next), [riO ((n + 1 : Nat) : Int) (0 : Nat), oneO P [99, 111, 117, 110, 116] (some (e 0, .int (n : Nat) (e 1))), cellO (.ref ca), lst cv nc, cellO (.ref fi), lst fv nf, lst [] 0], []) }
theorem tokL_at : ∀ (vs : List Int) (τ : Nat → Nat) (i : Nat), ((tokL vs τ).map iv)[i]? = (vs[i]?).map fun v => .int v (τ i)
  | [], _, i => by simp [tokL]
  | v :: vs, τ, 0 => rfl
  | v :: vs, τ, i + 1 => by
    show ((tokL vs fun j => τ (j + 1)).map iv)[i]? = _
    rw [tokL_at vs]
    simp
theorem v_fin {it acc dct celF celC ca fi L n : Nat} {cs fs : List Int} {σ τ : Nat → Nat} {nc nf : Nat} (hn : n + 1 ≤ 16) (hle : ∀ i, i < n + 1 → ∃ x y, cs[i]? = some x ∧ fs[i]? = some y ∧ x ≤ y) :
    VV w b1 b2 (cFin (wf w b1 b2).params it acc dct celF celC ca fi L n ((tokL cs σ).map iv) ((tokL fs τ).map iv) nc nf) := by
  have h := v_compR (w := w) (b1 := b1) (b2 := b2) (c := lpC finC it acc dct (cfCells celF celC) L) (cs := lpS finC it acc dct (cfCells celF celC) L) (it := it) (dct := dct) (acc := acc) (as := [celC, ca, celF, fi]) (mid := [cellO (.ref ca), lst ((tokL cs σ).map iv) nc, cellO (.ref fi), lst ((tokL fs τ).map iv) nf]) (nm := [99, 111, 117, 110, 116]) (n := n + 1) (dep := 40) (uni := 600) (em := fun _ _ => []) rfl (fun i t => by simp) (by omega) v_finS (fun i k mo al hk hal => by
      obtain ⟨x, y, hx, hy, hxy⟩ := hle i (by omega)
      refine valid_as (v_finT (L := L) (it := it) (dct := dct) (celF := celF) (celC := celC) (ca := ca) (fi := fi) (acc := acc) (cv := (tokL cs σ).map iv) (fv := (tokL fs τ).map iv) (nc := nc) (nf := nf) (mo := mo) (k := k) (na := al.length) (x := x) (y := y) (tx := σ i) (ty := τ i) (show i < 2 ^ 20 by omega) (by rw [tokL_at, hx]; rfl) (by rw [tokL_at, hy]; rfl) hxy) rfl rfl (Nat.le_refl _) (Nat.le_refl _) fun e => ⟨e, ?_⟩
      show (_, [_, _, _, _, _, _, lst (al ++ []) (al ++ []).length], _) = (_, [_, _, _, _, _, _, _], _)
      rw [List.append_nil])
    v_finE
  refine valid_as h rfl rfl (Nat.le_refl _) (Nat.le_refl _) fun e => ⟨e, ?_⟩
  show (_, [_, _, _, _, _, _, lst [] 0], _) = (_, [_, _, _, _, _, _, lst (accE _ _ _) (accE _ _ _).length], _)
  rw [accE_nil]
  rfl
end Mine

open PySem PySem.W PySem.W.X PyProof.Rows
namespace Mine
section
variable {prog : Program} {w : World} {A : Around} {c : Code} {E : Value → Shared → Prop} {s : Shared}
theorem own_or_cons {x : Expr} {rest : List Expr} {env : Env} {Q : Bool → Shared → Prop}
    (h : wpOwn (model prog w) A c (isTrue x env (eval x env)) (fun b s₁ => if b then Q true s₁ else wpOwn (model prog w) A c (allTrue .Or rest env) Q E s₁) E s) : wpOwn (model prog w) A c (allTrue .Or (x :: rest) env) Q E s := by
  show wpOwn (model prog w) A c (do match BoolOp.Or, ← isTrue x env (eval x env) with | .And, false => pure false | .Or, true => pure true | _, _ => allTrue .Or rest env) Q E s
  refine wpOwn_bind (wpOwn_mono h (fun b s' h' => ?_) fun _ _ h' => h')
  cases b with
  | true => exact fun _ _ _ _ => h'
  | false => exact h'
theorem own_or_nil {env : Env} {Q : Bool → Shared → Prop} (h : Q false s) : wpOwn (model prog w) A c (allTrue .Or [] env) Q E s := fun _ _ _ _ => h
theorem own_isOr {values : List Expr} {pos : Pos} {env : Env} {whole : Sem Value} {Q : Bool → Shared → Prop} (h : wpOwn (model prog w) A c (allTrue .Or values env) Q E s) : wpOwn (model prog w) A c (isTrue (.BoolOp .Or values pos) env whole) Q E s := h
end
variable {w : World} {b1 b2 : Bool}
noncomputable def lawB : List Stmt := (fdAt 22).2.1
noncomputable abbrev lawCode (L cF cC cO : Nat) : Code := .func lawB (lawEnv L cF cC cO)
noncomputable abbrev scrF (P : Params) (ts sl : Nat) : Obj := frm [en1 P [115, 99, 114, 105, 112, 116] ts (.ref sl)] 1
noncomputable abbrev drwF (P : Params) (ts sl td dr : Nat) : Obj := frm [en1 P [115, 99, 114, 105, 112, 116] ts (.ref sl), en1 P [100, 114, 97, 119, 115] td (.ref dr)] 2
noncomputable def lwA0 : List Stmt := (lawB.drop 0).take 1
noncomputable def lwA1 : List Stmt := (lawB.drop 1).take 4
/-- draws -/
noncomputable def cA0 (P : Params) (L cF cC cO sl ts : Nat) (xs : List Value) (n : Nat) (vs : List Int) : Con :=
  { c := lawCode L cF cC cO, pre := [(cF, celO none), (cC, celO none), (cO, celO none), (L, scrF P ts sl), (sl, lst xs n)], dep := 60, uni := 900,
    post := fun e => (.res (.ok .next), [celO none, celO none, celO none, drwF P ts sl (e 0) (e 1), lst xs n], [(e 1, lst ((tokL vs fun j => e (j + 2)).map iv) vs.length)]) }
theorem v_A0 {L cF cC cO sl ts : Nat} {xs : List (Int × Nat)} {n : Nat} (hx : xs.length < 2 ^ 20) : VT w b1 b2 (cA0 (wf w b1 b2).params L cF cC cO sl ts (xs.map iv) n (drwV (xs.take 6))) (tF lwA0 (lawEnv L cF cC cO)) := by
  have k1 : ∀ a t, VV w b1 b2 (cSl sl (xs.map iv) n a .none (.int (6 : Nat) t) ((xs.take 6).map iv)) := fun a t => v_sl .none (.int _ _) (by simpa using hx) (by rw [slicetoA, List.map_take])
  have k2 : ∀ it src acc dct, VV w b1 b2 (cDrw (wf w b1 b2).params it src acc dct L ((xs.take 6).map iv) 0 (drwV (xs.take 6)) ((xs.take 6).map iv).getLast?) := fun it src acc dct => v_drw (by simp; omega)
  generalize ((xs.take 6).map iv).getLast? = lo at k2
  generalize drwV (xs.take 6) = vs at k2 ⊢
  generalize (xs.take 6).map iv = sv at k1 k2
  generalize xs.map iv = xv at k1 ⊢
  refine vgoT 400 (.seg (fun _ _ => [4, 6, 6, 6, 1]) fun a0 t0 =>
    .orc (cSl sl xv n (a0 0) .none (.int (6 : Nat) (t0 0)) sv) [5, 0] (k1 _ _) fun e0 =>
    .seg (fun _ _ => [1, 1, 0, 1, 1, 1]) fun a1 t1 =>
    .orc (cDrw (wf w b1 b2).params (a1 0) (e0 0) (a1 1) (a1 2) L sv 0 vs lo) [2, 3, 0, 1] (k2 _ _ _ _) fun e1 =>
    .seg (fun _ _ => [9, 8] ++ (match lo with | none => [1] | some _ => [1, 1, 0])) fun a2 t2 =>
    .fin false (fun i => match i with | 0 => t2 0 | 1 => a1 1 | j + 2 => e1 (j + 1)) 5 [1]) ?_
  cases b2 <;> cases lo <;> exact fun ρ => by kernel_rfl
noncomputable def cModI (x : Int) (t : Nat) (y : Int) (u : Nat) (r : Int) : Con := { c := .call (.builtin "int.__mod__") ⟨[.int x t, .int y u], []⟩, pre := [], dep := 4, uni := 20, post := fun e => (.res (.ok (.ret (.int r (e 0)))), [], []) }
theorem v_modI {x : Int} {t u : Nat} {r : Int} (h : x.fmod 16 = r) : VV w b1 b2 (cModI x t 16 u r) := by
  subst h
  refine vgo 60 (.seg (fun _ _ => []) fun a0 t0 => .fin false (fun _ => t0 0) 0 []) ?_
  cases b2 <;> exact fun ρ => by kernel_rfl
noncomputable abbrev nmOf (tu f : Nat) (e : Nat → Nat) : NM := ⟨e 5, .int (15 : Nat) (e 6), e 7, .int (spotI 15 (tu : Nat)) (e 8), e 9, .str (str0 (endL (jIx 15 f))) (e 10)⟩
def eA1 (od wo tw tt tv : Nat) (g h : Nat → Nat) : Nat → Nat
  | 0 => od | 1 => wo | 2 => tw | 3 => tt | 4 => tv | 5 => g 0 | 6 => g 1 | 7 => g 2 | 8 => g 3 | 9 => g 4 | 10 => g 5
  | j + 11 => if j % 2 = 0 then g (j / 2 + 6) else h (j / 2 + 1)
/-- words, turn, order and the loop that lays it -/
noncomputable def cA1 (P : Params) (L cF cC cO sl ts td dr : Nat) (dv : List Value) (nd tu f : Nat) : Con :=
  { c := lawCode L cF cC cO, pre := [(cF, celO none), (cC, celO none), (cO, celO none), (L, drwF P ts sl td dr), (dr, lst dv nd)], dep := 60, uni := 900,
    post := fun e => (.res (.ok .next), [celO none, celO none, cellO (.ref (e 0)), lawF P ⟨ts, td, e 2, e 3⟩ sl dr (e 1) (.int (tu : Nat) (e 4)) (some (nmOf tu f e)), lst dv nd], [(e 0, lst (ordV fun j => e (2 * j + 11)) 16), (e 1, lst (wordsV fun j => e (2 * j + 12)) 16)]) }
theorem v_A1 {L cF cC cO sl ts td dr : Nat} {vs : List Int} {τ : Nat → Nat} {nd tu f : Nat} (hb : ∀ v ∈ vs, 0 ≤ v ∧ v < 48) (hl : vs.length < 2 ^ 10) (htu : (sumI vs).fmod 16 = (tu : Nat)) (hf : sumI (vs.take 1) = (f : Nat)) :
    VT w b1 b2 (cA1 (wf w b1 b2).params L cF cC cO sl ts td dr ((tokL vs τ).map iv) nd tu f) (tF lwA1 (lawEnv L cF cC cO)) := by
  have htu16 : tu < 16 := by
    rw [Int.fmod_eq_emod_of_nonneg _ (by decide)] at htu
    omega
  have k1 : VV w b1 b2 (cSumV dr ((tokL vs τ).map iv) nd (sumI vs)) := v_sumT' (fun v hv => by have := hb v hv; omega) (by omega)
  have k2 : ∀ t u, VV w b1 b2 (cModI (sumI vs) t 16 u (tu : Nat)) := fun t u => v_modI htu
  have k3 : ∀ it od wo T tt σ, VV w b1 b2 (cOL (wf w b1 b2).params it L cF cC cO dr wo od T sl tu tt f ((tokL vs τ).map iv) nd (wordsV σ) 16) := fun it od wo T tt σ => by
    refine v_OL htu16 (by rw [tokL_len]; omega) ?_ fun c hc => ?_
    · rw [sumTo_all, List.map_take, tokL_fst]
      exact hf
    · have : c.1 ∈ (tokL vs τ).map (·.1) := List.mem_map_of_mem hc
      rw [tokL_fst] at this
      exact hb _ this
  generalize (tokL vs τ).map iv = dv at k1 k3 ⊢
  generalize sumI vs = sm at k1 k2
  refine vgoT 600 (.seg (fun _ _ => [0, 0, 1]) fun a0 t0 =>
    .orc cWords [] v_words fun e0 =>
    .seg (fun _ _ => [5, 4, 0, 0, 5, 1]) fun a1 t1 =>
    .orc (cSumV dr dv nd sm) [5] k1 fun e1 =>
    .seg (fun _ _ => [1]) fun a2 t2 =>
    .orc (cModI sm (e1 0) 16 (t2 0) (tu : Nat)) [] (k2 _ _) fun e2 =>
    .seg (fun _ _ => [5, 4, 5, 4, 0, 0, 1]) fun a3 t3 =>
    .orc (cRg (16 : Nat) (t3 1)) [] v_rg fun e3 =>
    .seg (fun _ _ => [1, 1, 1]) fun a4 t4 =>
    .orc (cRgI (e3 0) 16 (e3 1) (t3 1) (e3 2)) [0] (v_rgI (by decide)) fun e4 =>
    .seg (fun _ _ => [1, 1]) fun a5 t5 =>
    .orc (cOL (wf w b1 b2).params (e4 0) L cF cC cO dr (e0 0) (a3 0) ⟨ts, td, t1 0, t3 0⟩ sl tu (e2 0) f dv nd (wordsV fun i => e0 (i + 1)) 16) [0, 7, 8, 6, 3, 2] (k3 _ _ _ _ _ _) fun e5 =>
    .seg (fun _ _ => []) fun _ _ =>
    .fin false (eA1 (a3 0) (e0 0) (t1 0) (t3 0) (e2 0) e5 e0) 4 [2, 3]) ?_
  cases b2 <;> exact fun ρ => by kernel_rfl
end Mine

open PySem PySem.W PySem.W.X PyProof.Rows
namespace Mine
variable {w : World} {b1 b2 : Bool}
noncomputable def if5 : Expr × Expr × Pos × List Stmt × List Stmt × Pos := match lawSt 5 with
  | Stmt.If (Expr.Compare l [CmpOp.NotEq] [r] p) b o q => (l, r, p, b, o, q)
  | _ => default
/-- a cell's name read -/
theorem v_ordL {L cF cC cO od : Nat} : VT w b1 b2 { c := lawCode L cF cC cO, pre := [(cO, cellO (.ref od))], dep := 60, uni := 900, post := fun e => (.res (.ok (.ret (.ref od))), [cellO (.ref od)], []) } (tV if5.1 (lawEnv L cF cC cO)) := by
  refine vgoT 100 (.seg (fun _ _ => [1]) fun _ _ => .fin false (fun _ => 0) 0 []) ?_
  cases b2 <;> exact fun ρ => by kernel_rfl
theorem v_dueR {L cF cC cO wo sl dr : Nat} {T : LT} {tu : Value} {m : NM} {σ : Nat → Nat} : VT w b1 b2 { c := lawCode L cF cC cO, pre := [(L, lawF (wf w b1 b2).params T sl dr wo tu (some m)), (wo, lst (wordsV σ) 16)], dep := 60, uni := 900, post := fun e => (.res (.ok (.ret (.ref (e 0)))), [lawF (wf w b1 b2).params T sl dr wo tu (some m), lst (wordsV σ) 16], [(e 0, lst (ordV fun j => e (j + 1)) 16)]) } (tV if5.2.1 (lawEnv L cF cC cO)) := by
  have k : ∀ it acc dct, VV w b1 b2 (cDueL (wf w b1 b2).params it wo acc dct L σ 16 (some (.str (worS true true true true) (σ 15)))) := fun it acc dct => v_dueL (σ := σ)
  refine vgoT 300 (.seg (fun _ _ => [1, 2, 2, 0, 2, 1, 1]) fun a0 t0 =>
    .orc (cDueL (wf w b1 b2).params (a0 0) wo (a0 1) (a0 2) L σ 16 (some (.str (worS true true true true) (σ 15)))) [2, 4, 0, 1] (k _ _ _) fun e0 =>
    .seg (fun _ _ => [1, 1, 0]) fun _ _ => .fin false (fun i => match i with | 0 => a0 1 | j + 1 => e0 (j + 1)) 3 [1]) ?_
  cases b2 <;> exact fun ρ => by kernel_rfl
theorem v_neOrd {x y : Nat} {σ τ : Nat → Nat} : VV w b1 b2 (cCmp "list.__ne__" x y (ordV σ) (ordV τ) 16 16 false) := by
  refine v_listNe (lx := ordV σ) (ly := ordV τ) rfl (fun _ => true) (fun j h1 h2 => ?_) rfl
  have hj : j < 16 := h1
  have key : ∀ (l : List Value) (h : j < l.length) (v : Value), l[j]? = some v → l[j] = v := fun l h v e => by
    rw [List.getElem?_eq_getElem h] at e
    exact Option.some.inj e
  rw [key _ h1 _ (ordV_at hj), key _ h2 _ (ordV_at hj)]
  have z := eqG_bytes (L16 j, σ j) (L16 j, τ j)
  have e : decide (((L16 j, σ j).1 : Array UInt8).toList = ((L16 j, τ j).1 : Array UInt8).toList) = true := decide_eq_true rfl
  rw [e] at z
  exact z
noncomputable def lwB0 : List Stmt := (lawB.drop 6).take 2
noncomputable def lwB1 : List Stmt := (lawB.drop 8).take 1
noncomputable def lwB2 : List Stmt := (lawB.drop 9).take 1
noncomputable def lwB3 : List Stmt := (lawB.drop 10).take 1
theorem v_B0 {L cF cC cO sl dr wo : Nat} {T : LT} {tu : Value} {m : NM} {cs : List (Int × Nat)} {nd : Nat} (hcs : cs.length < 2 ^ 10) :
    VT w b1 b2 { c := lawCode L cF cC cO, pre := [(L, lawF (wf w b1 b2).params T sl dr wo tu (some m)), (dr, lst (cs.map iv) nd)], dep := 60, uni := 900, post := fun e => (.res (.ok .next), [lawG (wf w b1 b2).params T sl dr wo tu m (e 1) (e 0) (withT (cs.map iv).getLast? (e 2)), lst (cs.map iv) nd], [(e 0, lst ((tokN (pikAt (drZ cs) cs.length) fun j => e (j + 3)).map nv) ((pikAt (drZ cs) cs.length).length - 4))]) } (tF lwB0 (lawEnv L cF cC cO)) := by
  have k : ∀ it pk tp u0 u1 u2 u3, VV w b1 b2 (cPL (wf w b1 b2).params it L cF cC cO dr wo pk T sl tu m tp (cs.map iv) nd [.int 5 u0, .int 7 u1, .int 6 u2, .int 12 u3] (pikAt (drZ cs) cs.length) (cs.map iv).getLast?) := fun it pk tp u0 u1 u2 u3 => v_PL hcs
  generalize pikAt (drZ cs) cs.length = ks at k ⊢
  generalize (cs.map iv).getLast? = lo at k ⊢
  generalize cs.map iv = cv at k ⊢
  refine vgoT 300 (.seg (fun _ _ => [2, 1, 2, 3, 3, 0, 3, 1, 1]) fun a0 t0 =>
    .orc (cPL (wf w b1 b2).params (a0 1) L cF cC cO dr wo (a0 0) T sl tu m (t0 4) cv nd [.int 5 (t0 0), .int 7 (t0 1), .int 6 (t0 2), .int 12 (t0 3)] ks lo) [0, 3, 2, 1] (k _ _ _ _ _ _ _) fun e0 =>
    .seg (fun _ _ => []) fun _ _ => .fin false (fun i => match i with | 0 => a0 0 | 1 => t0 4 | 2 => e0 0 | j + 3 => e0 (j + 1)) 2 [1]) ?_
  cases b2 <;> exact fun ρ => by kernel_rfl
theorem v_B1 {L cF cC cO sl dr wo od pk tp td : Nat} {T : LT} {tu : Value} {m : NM} {lo : Option Value} {nb : Array UInt8 → Ns} {τ : Nat → Nat} {ps : List (Nat × Nat)} {np : Nat} (h0 : 0 < ps.length) (hps : ps.length < 2 ^ 10) (h16 : ∀ p ∈ ps, p.1 < 16)
    (hN : ∀ i, i < 16 → ∀ t, VV w b1 b2 (cTurned (L16 i) t (nb (L16 i)).n0 (nb (L16 i)).n1 (nb (L16 i)).n2 (nb (L16 i)).n3)) :
    VT w b1 b2 { c := lawCode L cF cC cO, pre := [(cC, celO none), (cO, cellO (.ref od)), (od, lst (ordV τ) 16), (L, lawG (wf w b1 b2).params T sl dr wo tu m tp pk (withT lo td)), (pk, lst (ps.map nv) np), (115, tabO [])], dep := 60, uni := 900, post := fun e => (.res (.ok .next), [cellO (.ref (e 0)), cellO (.ref od), lst (ordV τ) 16, lawG (wf w b1 b2).params T sl dr wo tu m tp pk (withT lo td), lst (ps.map nv) np, tab1 (e 1)], [(e 0, lst ((tokL (prsAt nb (pkY τ ps) ps.length).2 fun j => e (2 * (j + 3))).map iv) ps.length), (e 1, lamC (fun i => e (2 * i + 3)))]) } (tF lwB1 (lawEnv L cF cC cO)) := by
  have k1 : ∀ it acc dct, VV w b1 b2 (cPkd (wf w b1 b2).params it pk acc dct cO od L (ps.map nv) np (ordV τ) 16 ((pkY τ ps).map bv) (ps.map nv).getLast?) := fun it acc dct => v_pkd (by omega) h16
  have hl : (pkY τ ps).length = ps.length := by rw [List.length_map]
  have hlb : ((pkY τ ps).map bv).length = ps.length := by rw [List.length_map, hl]
  have k2 : ∀ src n, VV w b1 b2 (cPairs0 src ((pkY τ ps).map bv) n ps.length (prsAt nb (pkY τ ps) ps.length).2) := fun src n => by
    have h := v_pairs0 (w := w) (b1 := b1) (b2 := b2) (nb := nb) (src := src) (n := n) (ys := pkY τ ps) (by omega) (by omega) (fun y hy t => by
      obtain ⟨p, hp, rfl⟩ := List.mem_map.mp hy
      exact hN p.1 (h16 p hp) t)
    rw [hl] at h
    exact h
  obtain ⟨v, hv⟩ : ∃ v, (ps.map nv).getLast? = some v := by
    cases h : (ps.map nv).getLast? with
    | none => rw [List.getLast?_eq_none_iff, List.map_eq_nil_iff] at h; rw [h] at h0; cases h0
    | some v => exact ⟨v, rfl⟩
  rw [hv] at k1
  unfold cPkd at k1
  rw [hlb] at k1
  generalize (prsAt nb (pkY τ ps) ps.length).2 = vs at k2 ⊢
  generalize (pkY τ ps).map bv = yv at k1 k2
  generalize ps.map nv = pv at k1 ⊢
  generalize ps.length = k at k1 k2 ⊢
  generalize ordV τ = ov at k1 ⊢
  refine vgoT 400 (.seg (fun _ _ => [0, 4, 5, 5, 0, 5, 1, 1]) fun a0 t0 =>
    .orc _ [2, 7, 0, 4, 5, 1] (k1 (a0 0) (a0 1) (a0 2)) fun e0 =>
    .seg (fun _ _ => [1, 1, 0, 0, 1]) fun a1 t1 =>
    .orc (cPairs0 (a0 1) yv k k vs) [1, 8] (k2 _ _) fun e1 =>
    .seg (fun _ _ => [6, 5]) fun _ _ => .fin false e1 5 [0, 1]) ?_
  cases b2 <;> cases lo <;> exact fun ρ => by kernel_rfl
end Mine

open PySem PySem.W PySem.W.X PyProof.Rows
namespace Mine
variable {w : World} {b1 b2 : Bool}
abbrev firY (τ : Nat → Nat) (k : Nat) : List (Array UInt8 × Nat) := (List.range k).map fun i => (L16 i, τ i)
theorem fir_eq {τ : Nat → Nat} {k : Nat} (hk : k ≤ 16) : (ordV τ).take k = (firY τ k).map bv := by
  refine List.ext_getElem? fun i => ?_
  by_cases hi : i < k
  · rw [ordT_at hk hi, List.map_map, List.getElem?_map]
    simp [hi]
  · rw [List.getElem?_eq_none (by rw [List.length_take, ordV_len]; omega), List.getElem?_eq_none (by simp; omega)]
theorem v_B2 {L cF cC cO sl dr wo od pk tp td co n : Nat} {T : LT} {tu : Value} {m : NM} {lo : Option Value} {nb : Array UInt8 → Ns} {τ : Nat → Nat} {ps : List (Nat × Nat)} {np : Nat} {q : Nat → Nat} (hn : ps.length = n + 1) (hn16 : n + 1 ≤ 16)
    (hN : ∀ i, i < 16 → ∀ t, VV w b1 b2 (cTurned (L16 i) t (nb (L16 i)).n0 (nb (L16 i)).n1 (nb (L16 i)).n2 (nb (L16 i)).n3)) :
    VT w b1 b2 { c := lawCode L cF cC cO, pre := [(cF, celO none), (cO, cellO (.ref od)), (od, lst (ordV τ) 16), (L, lawG (wf w b1 b2).params T sl dr wo tu m tp pk (withT lo td)), (pk, lst (ps.map nv) np), (115, tab1 co), (co, lamC q)], dep := 60, uni := 900, post := fun e => (.res (.ok .next), [cellO (.ref (e 0)), cellO (.ref od), lst (ordV τ) 16, lawG (wf w b1 b2).params T sl dr wo tu m tp pk (withT lo td), lst (ps.map nv) np, tab1 co, lamC q], [(e 0, lst ((tokL (prsAt nb (firY τ (n + 1)) (n + 1)).2 fun j => e (j + 1)).map iv) (n + 1))]) } (tF lwB2 (lawEnv L cF cC cO)) := by
  have k1 : VV w b1 b2 (cLenK pk (ps.map nv) np (n + 1)) := v_lenK (by rw [List.length_map]; omega) (by rw [List.length_map, hn])
  have k2 : ∀ a t, VV w b1 b2 (cSl od (ordV τ) 16 a .none (.int ((n + 1 : Nat) : Int) t) ((firY τ (n + 1)).map bv)) := fun a t => v_sl .none (.int _ _) (by rw [ordV_len]; decide) (by rw [slicetoA, fir_eq hn16])
  have k3 : ∀ src k, VV w b1 b2 (cPairs src co ((firY τ (n + 1)).map bv) k (n + 1) q (prsAt nb (firY τ (n + 1)) (n + 1)).2) := fun src k => by
    have hl : (firY τ (n + 1)).length = n + 1 := by simp
    have h := v_pairs (w := w) (b1 := b1) (b2 := b2) (nb := nb) (src := src) (n := k) (co := co) (q := q) (ys := firY τ (n + 1)) (by omega) (by omega) (fun y hy t => by
      obtain ⟨i, hi, rfl⟩ := List.mem_map.mp hy
      exact hN i (by have := List.mem_range.mp hi; omega) t)
    rw [hl] at h
    exact h
  generalize (prsAt nb (firY τ (n + 1)) (n + 1)).2 = vs at k3 ⊢
  generalize (firY τ (n + 1)).map bv = yv at k2 k3
  generalize ps.map nv = pv at k1 ⊢
  generalize ordV τ = ov at k2 ⊢
  refine vgoT 400 (.seg (fun _ _ => [0, 2, 0, 0, 4, 1]) fun a0 t0 =>
    .orc (cLenK pk pv np (n + 1)) [4] k1 fun e0 =>
    .seg (fun _ _ => [4, 4, 4, 1]) fun a1 t1 =>
    .orc (cSl od ov 16 (a1 0) .none (.int ((n + 1 : Nat) : Int) (e0 0)) yv) [3, 0] (k2 _ _) fun e1 =>
    .seg (fun _ _ => [0, 1]) fun a2 t2 =>
    .orc (cPairs (e1 0) co yv 0 (n + 1) q vs) [0, 7, 8] (k3 _ _) fun e2 =>
    .seg (fun _ _ => [4, 3]) fun _ _ => .fin false e2 3 [0]) ?_
  cases b2 <;> cases lo <;> exact fun ρ => by kernel_rfl
noncomputable def lawH (P : Params) (T : LT) (sc dr wo : Nat) (turn : Value) (m : NM) (tp pk : Nat) (lo : Option Value) (td tdt dt : Nat) : Obj := match lo with
  | none => frm (lawE P T sc dr wo turn ++ nmE P m ++ [en1 P [112, 105, 99, 107, 115] tp (.ref pk), en1 P [100, 111, 116, 115] tdt (.ref dt)]) 9
  | some v => frm (lawE P T sc dr wo turn ++ nmE P m ++ [en1 P [112, 105, 99, 107, 115] tp (.ref pk), en1 P [100, 114, 97, 119] td v, en1 P [100, 111, 116, 115] tdt (.ref dt)]) 10
theorem v_B3 {L cF cC cO sl dr wo od pk tp td n : Nat} {T : LT} {tu : Value} {m : NM} {lo : Option Value} {τ : Nat → Nat} {ps : List (Nat × Nat)} {np : Nat} (hn : ps.length = n + 1) (hn16 : n + 1 ≤ 16) :
    VT w b1 b2 { c := lawCode L cF cC cO, pre := [(cO, cellO (.ref od)), (od, lst (ordV τ) 16), (L, lawG (wf w b1 b2).params T sl dr wo tu m tp pk (withT lo td)), (pk, lst (ps.map nv) np)], dep := 60, uni := 900, post := fun e => (.res (.ok .next), [cellO (.ref od), lst (ordV τ) 16, lawH (wf w b1 b2).params T sl dr wo tu m tp pk lo td (e 1) (e 0), lst (ps.map nv) np], [(e 0, lst ((tokL (dotsV (n + 1)) fun j => e (j + 2)).map iv) (n + 1))]) } (tF lwB3 (lawEnv L cF cC cO)) := by
  have k1 : VV w b1 b2 (cLenK pk (ps.map nv) np (n + 1)) := v_lenK (by rw [List.length_map]; omega) (by rw [List.length_map, hn])
  have k2 : ∀ r t0 t t1, VV w b1 b2 (cRgI r (n + 1) t0 t t1) := fun _ _ _ _ => v_rgI (by omega)
  have k3 : ∀ it acc dct, VV w b1 b2 (cDotO (wf w b1 b2).params it acc dct cO od L n (ordV τ) 16 (dotsV (n + 1))) := fun it acc dct => v_dotO hn16
  have hl : (dotsV (n + 1)).length = n + 1 := by unfold dotsV; simp
  unfold cDotO at k3
  rw [hl] at k3
  generalize dotsV (n + 1) = vs at k3 ⊢
  generalize ps.map nv = pv at k1 ⊢
  generalize ordV τ = ov at k3 ⊢
  refine vgoT 400 (.seg (fun _ _ => [0, 0, 0, 0, 3, 1]) fun a0 t0 =>
    .orc (cLenK pk pv np (n + 1)) [3] k1 fun e0 =>
    .seg (fun _ _ => [1]) fun a1 t1 =>
    .orc (cRg ((n + 1 : Nat) : Int) (e0 0)) [] v_rg fun e1 =>
    .seg (fun _ _ => [1, 1, 1]) fun a2 t2 =>
    .orc (cRgI (e1 0) (n + 1) (e1 1) (e0 0) (e1 2)) [0] (k2 _ _ _ _) fun e2 =>
    .seg (fun _ _ => [1, 1]) fun a3 t3 =>
    .orc _ [2, 0, 4, 5, 1] (k3 (e2 0) (a3 0) (a3 1)) fun e3 =>
    .seg (fun _ _ => [7, 6, 1, 1, 0]) fun a4 t4 => .fin false (fun i => match i with | 0 => a3 0 | 1 => t4 0 | j + 2 => e3 (j + 2)) 4 [1]) ?_
  cases b2 <;> cases lo <;> exact fun ρ => by kernel_rfl
end Mine

open PySem PySem.W PySem.W.X PyProof.Rows
namespace Mine
variable {w : World} {b1 b2 : Bool}
structure If11 where
  (l1 r1 l2 r2 l3 r3 : Expr) (p1 p2 p3 pb q : Pos) (b o : List Stmt)
noncomputable def if11 : If11 := match lawSt 11 with
  | Stmt.If (Expr.BoolOp BoolOp.Or [Expr.Compare l1 [CmpOp.NotEq] [r1] p1, Expr.Compare l2 [CmpOp.NotEq] [r2] p2, Expr.Compare l3 [CmpOp.NotEq] [r3] p3] pb) b o q => ⟨l1, r1, l2, r2, l3, r3, p1, p2, p3, pb, q, b, o⟩
  | _ => ⟨.Constant .none 0 ⟨0, 0, 0, 0⟩, .Constant .none 0 ⟨0, 0, 0, 0⟩, .Constant .none 0 ⟨0, 0, 0, 0⟩, .Constant .none 0 ⟨0, 0, 0, 0⟩, .Constant .none 0 ⟨0, 0, 0, 0⟩, .Constant .none 0 ⟨0, 0, 0, 0⟩, ⟨0, 0, 0, 0⟩, ⟨0, 0, 0, 0⟩, ⟨0, 0, 0, 0⟩, ⟨0, 0, 0, 0⟩, ⟨0, 0, 0, 0⟩, [], []⟩
noncomputable def ret12 : Expr × Expr × Pos × Pos := match lawSt 12 with
  | Stmt.Return (some (Expr.Compare l [CmpOp.Eq] [r] p)) q => (l, r, p, q)
  | _ => default
theorem v_l1 {L cF cC cO ca : Nat} : VT w b1 b2 { c := lawCode L cF cC cO, pre := [(cC, cellO (.ref ca))], dep := 60, uni := 900, post := fun e => (.res (.ok (.ret (.ref ca))), [cellO (.ref ca)], []) } (tV if11.l1 (lawEnv L cF cC cO)) := by
  refine vgoT 100 (.seg (fun _ _ => [1]) fun _ _ => .fin false (fun _ => 0) 0 []) ?_
  cases b2 <;> exact fun ρ => by kernel_rfl
theorem v_l2 {L cF cC cO fi : Nat} : VT w b1 b2 { c := lawCode L cF cC cO, pre := [(cF, cellO (.ref fi))], dep := 60, uni := 900, post := fun e => (.res (.ok (.ret (.ref fi))), [cellO (.ref fi)], []) } (tV if11.l2 (lawEnv L cF cC cO)) := by
  refine vgoT 100 (.seg (fun _ _ => [1]) fun _ _ => .fin false (fun _ => 0) 0 []) ?_
  cases b2 <;> exact fun ρ => by kernel_rfl
theorem v_l3 {L cF cC cO fi : Nat} : VT w b1 b2 { c := lawCode L cF cC cO, pre := [(cF, cellO (.ref fi))], dep := 60, uni := 900, post := fun e => (.res (.ok (.ret (.ref fi))), [cellO (.ref fi)], []) } (tV if11.l3 (lawEnv L cF cC cO)) := by
  refine vgoT 100 (.seg (fun _ _ => [1]) fun _ _ => .fin false (fun _ => 0) 0 []) ?_
  cases b2 <;> exact fun ρ => by kernel_rfl
theorem v_r1 {L cF cC cO sl dr wo pk tp td tdt dt n : Nat} {T : LT} {tu : Value} {m : NM} {lo : Option Value} {ps : List (Nat × Nat)} {np : Nat} (hn : ps.length = n + 1) (hn16 : n + 1 ≤ 16) (h16 : ∀ p ∈ ps, p.1 < 16) :
    VT w b1 b2 { c := lawCode L cF cC cO, pre := [(L, lawH (wf w b1 b2).params T sl dr wo tu m tp pk lo td tdt dt), (pk, lst (ps.map nv) np)], dep := 60, uni := 900, post := fun e => (.res (.ok (.ret (.ref (e 0)))), [lawH (wf w b1 b2).params T sl dr wo tu m tp pk lo td tdt dt, lst (ps.map nv) np], [(e 0, lst ((tokL (tldAt ps (n + 1)) fun j => e (j + 1)).map iv) (n + 1))]) } (tV if11.r1 (lawEnv L cF cC cO)) := by
  have k1 : VV w b1 b2 (cTold pk (ps.map nv) np (n + 1) (tldAt ps (n + 1))) := v_told hn (by omega) h16
  generalize tldAt ps (n + 1) = vs at k1 ⊢
  generalize ps.map nv = pv at k1 ⊢
  refine vgoT 100 (.seg (fun _ _ => [0, 1, 0, 1]) fun _ _ => .orc (cTold pk pv np (n + 1) vs) [1] k1 fun e0 => .seg (fun _ _ => []) fun _ _ => .fin false e0 1 [0]) ?_
  cases b2 <;> cases lo <;> exact fun ρ => by kernel_rfl
theorem v_r2 {L cF cC cO sl dr wo pk tp td tdt dt : Nat} {T : LT} {tu : Value} {m : NM} {lo : Option Value} :
    VT w b1 b2 { c := lawCode L cF cC cO, pre := [(L, lawH (wf w b1 b2).params T sl dr wo tu m tp pk lo td tdt dt)], dep := 60, uni := 900, post := fun e => (.res (.ok (.ret (.ref dt))), [lawH (wf w b1 b2).params T sl dr wo tu m tp pk lo td tdt dt], []) } (tV if11.r2 (lawEnv L cF cC cO)) := by
  refine vgoT 100 (.seg (fun _ _ => [1]) fun _ _ => .fin false (fun _ => 0) 0 []) ?_
  cases b2 <;> cases lo <;> exact fun ρ => by kernel_rfl
theorem v_r3 {L cF cC cO sl dr wo pk tp td tdt dt n : Nat} {T : LT} {tu : Value} {m : NM} {lo : Option Value} {ps : List (Nat × Nat)} {np : Nat} (hn : ps.length = n + 1) (hn16 : n + 1 ≤ 16) :
    VT w b1 b2 { c := lawCode L cF cC cO, pre := [(L, lawH (wf w b1 b2).params T sl dr wo tu m tp pk lo td tdt dt), (pk, lst (ps.map nv) np)], dep := 60, uni := 900, post := fun e => (.res (.ok (.ret (.ref (e 0)))), [lawH (wf w b1 b2).params T sl dr wo tu m tp pk lo td tdt dt, lst (ps.map nv) np], [(e 0, lst ((tokL (onesV (n + 1)) fun j => e (j + 2)).map iv) (n + 1))]) } (tV if11.r3 (lawEnv L cF cC cO)) := by
  have k1 : VV w b1 b2 (cLenK pk (ps.map nv) np (n + 1)) := v_lenK (by rw [List.length_map]; omega) (by rw [List.length_map, hn])
  have k2 : ∀ r t0 t t1, VV w b1 b2 (cRgI r (n + 1) t0 t t1) := fun _ _ _ _ => v_rgI (by omega)
  have k3 : ∀ it acc dct, VV w b1 b2 (cOnsL (wf w b1 b2).params it acc dct L n (onesV (n + 1))) := fun it acc dct => v_onsL hn16
  have hl : (onesV (n + 1)).length = n + 1 := by unfold onesV; simp
  unfold cOnsL at k3
  rw [hl] at k3
  generalize onesV (n + 1) = vs at k3 ⊢
  generalize ps.map nv = pv at k1 ⊢
  refine vgoT 400 (.seg (fun _ _ => [0, 0, 0, 0, 1, 1]) fun a0 t0 =>
    .orc (cLenK pk pv np (n + 1)) [1] k1 fun e0 =>
    .seg (fun _ _ => [1]) fun a1 t1 =>
    .orc (cRg ((n + 1 : Nat) : Int) (e0 0)) [] v_rg fun e1 =>
    .seg (fun _ _ => [1, 1, 1]) fun a2 t2 =>
    .orc (cRgI (e1 0) (n + 1) (e1 1) (e0 0) (e1 2)) [0] (k2 _ _ _ _) fun e2 =>
    .seg (fun _ _ => [1, 1]) fun a3 t3 =>
    .orc _ [2, 0, 1] (k3 (e2 0) (a3 0) (a3 1)) fun e3 =>
    .seg (fun _ _ => [1, 1, 0]) fun a4 t4 => .fin false (fun i => match i with | 0 => a3 0 | j + 1 => e3 (j + 1)) 4 [1]) ?_
  cases b2 <;> cases lo <;> exact fun ρ => by kernel_rfl
theorem v_rl {L cF cC cO sl dr wo pk tp td tdt dt n ca fi : Nat} {T : LT} {tu : Value} {m : NM} {lo : Option Value} {ps : List (Nat × Nat)} {np : Nat} {cs fs : List Int} {σ τ : Nat → Nat} {nc nf : Nat} (hn : ps.length = n + 1) (hn16 : n + 1 ≤ 16) (hle : ∀ i, i < n + 1 → ∃ x y, cs[i]? = some x ∧ fs[i]? = some y ∧ x ≤ y) :
    VT w b1 b2 { c := lawCode L cF cC cO, pre := [(L, lawH (wf w b1 b2).params T sl dr wo tu m tp pk lo td tdt dt), (pk, lst (ps.map nv) np), (cC, cellO (.ref ca)), (ca, lst ((tokL cs σ).map iv) nc), (cF, cellO (.ref fi)), (fi, lst ((tokL fs τ).map iv) nf)], dep := 60, uni := 900, post := fun e => (.res (.ok (.ret (.ref (e 0)))), [lawH (wf w b1 b2).params T sl dr wo tu m tp pk lo td tdt dt, lst (ps.map nv) np, cellO (.ref ca), lst ((tokL cs σ).map iv) nc, cellO (.ref fi), lst ((tokL fs τ).map iv) nf], [(e 0, lst [] 0)]) } (tV ret12.1 (lawEnv L cF cC cO)) := by
  have k1 : VV w b1 b2 (cLenK pk (ps.map nv) np (n + 1)) := v_lenK (by rw [List.length_map]; omega) (by rw [List.length_map, hn])
  have k2 : ∀ r t0 t t1, VV w b1 b2 (cRgI r (n + 1) t0 t t1) := fun _ _ _ _ => v_rgI (by omega)
  have k3 : ∀ it acc dct, VV w b1 b2 (cFin (wf w b1 b2).params it acc dct cF cC ca fi L n ((tokL cs σ).map iv) ((tokL fs τ).map iv) nc nf) := fun it acc dct => v_fin hn16 hle
  generalize (tokL cs σ).map iv = cv at k3 ⊢
  generalize (tokL fs τ).map iv = fv at k3 ⊢
  generalize ps.map nv = pv at k1 ⊢
  refine vgoT 400 (.seg (fun _ _ => [0, 0, 0, 0, 1, 1]) fun a0 t0 =>
    .orc (cLenK pk pv np (n + 1)) [1] k1 fun e0 =>
    .seg (fun _ _ => [1]) fun a1 t1 =>
    .orc (cRg ((n + 1 : Nat) : Int) (e0 0)) [] v_rg fun e1 =>
    .seg (fun _ _ => [1, 1, 1]) fun a2 t2 =>
    .orc (cRgI (e1 0) (n + 1) (e1 1) (e0 0) (e1 2)) [0] (k2 _ _ _ _) fun e2 =>
    .seg (fun _ _ => [1, 1]) fun a3 t3 =>
    .orc _ [2, 0, 6, 7, 8, 9, 1] (k3 (e2 0) (a3 0) (a3 1)) fun e3 =>
    .seg (fun _ _ => [1, 1, 0]) fun a4 t4 => .fin false (fun _ => a3 0) 4 [1]) ?_
  cases b2 <;> cases lo <;> exact fun ρ => by kernel_rfl
theorem v_rr {L cF cC cO : Nat} : VT w b1 b2 { c := lawCode L cF cC cO, pre := [], dep := 60, uni := 900, post := fun e => (.res (.ok (.ret (.ref (e 0)))), [], [(e 0, lst [] 0)]) } (tV ret12.2.1 (lawEnv L cF cC cO)) := by
  refine vgoT 100 (.seg (fun _ _ => []) fun a0 _ => .fin false (fun _ => a0 0) 1 [0]) ?_
  cases b2 <;> exact fun ρ => by kernel_rfl
end Mine

open PySem PySem.W PySem.W.X PyProof.Rows
namespace Mine
variable {w : World} {b1 b2 : Bool}
theorem v_neInt {x y n m : Nat} {cs ds : List Int} {σ τ : Nat → Nat} (h : cs = ds) : VV w b1 b2 (cCmp "list.__ne__" x y ((tokL cs σ).map iv) ((tokL ds τ).map iv) n m false) := by
  subst h
  refine v_listNe (lx := (tokL cs σ).map iv) (ly := (tokL cs τ).map iv) (by rw [List.length_map, List.length_map, tokL_len, tokL_len]) (fun _ => true) (fun j h1 h2 => ?_) (by simp)
  have key : ∀ (l : List Value) (h : j < l.length) (v : Value), l[j]? = some v → l[j] = v := fun l h v e => by
    rw [List.getElem?_eq_getElem h] at e
    exact Option.some.inj e
  have hj : j < cs.length := by rw [List.length_map, tokL_len] at h1; exact h1
  have hc : cs[j]? = some cs[j] := List.getElem?_eq_getElem hj
  generalize cs[j] = v at hc
  rw [key _ h1 (.int v (σ j)) (by rw [tokL_at, hc]; rfl), key _ h2 (.int v (τ j)) (by rw [tokL_at, hc]; rfl)]
  have z := MeetsSeq.EqGives.int v v (σ j) (τ j)
  rw [beq_self_eq_true] at z
  exact z
theorem v_eqNil {x y n m : Nat} : VV w b1 b2 (cCmp "list.__eq__" x y [] [] n m true) :=
  v_listEq (lx := []) (ly := []) rfl (fun _ => true) (fun j h1 h2 => absurd h1 (by simp)) rfl
theorem law_body : lawB = lwA0 ++ (lwA1 ++ (.If (.Compare if5.1 [.NotEq] [if5.2.1] if5.2.2.1) if5.2.2.2.1 [] if5.2.2.2.2.2 :: (lwB0 ++ (lwB1 ++ (lwB2 ++ (lwB3 ++
  [.If (.BoolOp .Or [.Compare if11.l1 [.NotEq] [if11.r1] if11.p1, .Compare if11.l2 [.NotEq] [if11.r2] if11.p2, .Compare if11.l3 [.NotEq] [if11.r3] if11.p3] if11.pb) if11.b [] if11.q, .Return (some (.Compare ret12.1 [.Eq] [ret12.2.1] ret12.2.2.1)) ret12.2.2.2])))))) := by kernel_rfl
theorem law_w (L cF cC cO : Nat) : (lawCode L cF cC cO).weight ≤ 10 := Nat.le_of_ble_eq_true (by kernel_rfl)
theorem law_u (L cF cC cO : Nat) : (lawCode L cF cC cO).cUnits ≤ 10 := Nat.le_of_ble_eq_true (by kernel_rfl)
theorem law_func {A : Around} {s0 s : Shared} {old : List Addr} {R : Result → Shared → Prop} {L cF cC cO sl ts n : Nat} {xs : List (Int × Nat)} {nb : Array UInt8 → Ns}
    (hA : A.handled = none) (hD : A.depth + 100 < recursionLimit) (hU : A.units + 1000 < cLine)
    (I : Inv (kg (wf w b1 b2)) s0 s old [(cF, celO none), (cC, celO none), (cO, celO none), (L, scrF (wf w b1 b2).params ts sl), (sl, lst (xs.map iv) n), (115, tabO [])])
    (hx : xs.length < 2 ^ 10)
    (hN : ∀ i, i < 16 → ∀ t, VV w b1 b2 (cTurned (L16 i) t (nb (L16 i)).n0 (nb (L16 i)).n1 (nb (L16 i)).n2 (nb (L16 i)).n3))
    (ks : List Nat) (hks : ks = pikAt ((drwV (xs.take 6)).map fun v => (v.fmod 16).toNat) (drwV (xs.take 6)).length) (k : Nat) (hk : ks.length = k + 1) (hk16 : k + 1 ≤ 16) (h16 : ∀ z ∈ ks, z < 16)
    (hP1 : ∀ (τ σ : Nat → Nat), (prsAt nb (pkY τ (tokN ks σ)) (k + 1)).2 = tldAt (tokN ks σ) (k + 1))
    (hP2 : ∀ τ, (prsAt nb (firY τ (k + 1)) (k + 1)).2 = dotsV (k + 1)) (hP3 : dotsV (k + 1) = onesV (k + 1))
    (hP4 : ∀ σ, ∀ i, i < k + 1 → ∃ x y, (tldAt (tokN ks σ) (k + 1))[i]? = some x ∧ (onesV (k + 1))[i]? = some y ∧ x ≤ y)
    (HR : ∀ s' trk', Inv (kg (wf w b1 b2)) s0 s' old trk' → (∃ co, nth trk' 18 = some (115, tab1 co)) → nth trk' 17 = some (sl, lst (xs.map iv) n) → R (.ok (.ret (.bool true))) s') : codeAny (model pw (wf w b1 b2)) A (lawCode L cF cC cO) R s := by
  have hw := law_w L cF cC cO
  have hu := law_u L cF cC cO
  have d60 : A.depth + 60 < recursionLimit := by omega
  have u900 : A.units + 900 < cLine := by omega
  have dw : A.depth + (lawCode L cF cC cO).weight < recursionLimit := by omega
  have uw : A.units + (lawCode L cF cC cO).cUnits + 40 < cLine := by omega
  refine own_funcB law_body (own_append ?_)
  -- draws
  refine own_chunk (v_A0 (xs := xs) (by omega)) hA d60 u900 I [0, 1, 2, 3, 4] (by decide) rfl (fun _ => rfl) fun e1 s1 I1 => ?_
  refine own_append ?_
  have hvs : ∀ v ∈ drwV (xs.take 6), 0 ≤ v ∧ v < 48 := fun v hv => by
    rw [drwV_eq] at hv
    obtain ⟨x, _, rfl⟩ := List.mem_map.mp hv
    rw [Int.fmod_eq_emod_of_nonneg _ (by decide)]
    omega
  have hvl : (drwV (xs.take 6)).length ≤ 6 := by rw [drwV_eq]; simp; omega
  generalize drwV (xs.take 6) = vs at I1 hks hvs hvl
  obtain ⟨tu, htu⟩ : ∃ tu : Nat, (sumI vs).fmod 16 = (tu : Nat) := ⟨((sumI vs).fmod 16).toNat, by
    have : 0 ≤ (sumI vs).fmod 16 := by rw [Int.fmod_eq_emod_of_nonneg _ (by decide)]; omega
    omega⟩
  obtain ⟨f, hf⟩ : ∃ f : Nat, sumI (vs.take 1) = (f : Nat) := ⟨(sumI (vs.take 1)).toNat, by
    have := (fold_b (vs.take 1) 0 fun v hv => by have := hvs v (List.mem_of_mem_take hv); omega).1
    unfold sumI
    omega⟩
  refine own_chunk (v_A1 (L := L) (cF := cF) (cC := cC) (cO := cO) (sl := sl) (ts := ts) (td := e1 0) (dr := e1 1) (vs := vs) (τ := fun j => e1 (j + 2)) (nd := vs.length) hvs (by omega) htu hf) hA d60 u900 I1 [1, 2, 3, 4, 0] (by decide) rfl (fun _ => rfl) fun e2 s2 I2 => ?_
  refine own_execs (own_If (own_isTrue1 ?_ rfl))
  refine own_expr (v_ordL (od := e2 0)) hA d60 u900 I2 [5] (by decide) rfl (fun _ => rfl) fun e3 s3 I3 => ?_
  refine own_expr (v_dueR (wo := e2 1) (sl := sl) (dr := e1 1) (T := ⟨ts, e1 0, e2 2, e2 3⟩) (tu := .int (tu : Nat) (e2 4)) (m := nmOf tu f e2) (σ := fun j => e2 (2 * j + 12))) hA d60 u900 I3 [6, 1] (by decide) rfl (fun _ => rfl) fun e4 s4 I4 => ?_
  refine own_cmpI (op := .NotEq) PySem.F.slot_list_ne rfl v_neOrd hA dw uw I4 [1, 0] (by decide) rfl fun s5 I5 => ⟨false, rfl, ?_⟩
  refine own_nil (show wpOwn _ _ _ _ _ _ _ from ?_)
  -- picks
  have hzs : drZ (tokL vs fun j => e1 (j + 2)) = vs.map fun v => (v.fmod 16).toNat := by
    have h := congrArg (List.map fun v : Int => (v.fmod 16).toNat) (tokL_fst vs fun j => e1 (j + 2))
    rw [List.map_map] at h
    exact h
  have hcl : (tokL vs fun j => e1 (j + 2)).length = vs.length := tokL_len _ _
  refine own_append ?_
  have vb0 := v_B0 (w := w) (b1 := b1) (b2 := b2) (L := L) (cF := cF) (cC := cC) (cO := cO) (sl := sl) (dr := e1 1) (wo := e2 1) (T := ⟨ts, e1 0, e2 2, e2 3⟩) (tu := .int (tu : Nat) (e2 4)) (m := nmOf tu f e2) (cs := tokL vs fun j => e1 (j + 2)) (nd := vs.length) (by rw [tokL_len]; omega)
  rw [hzs, hcl, ← hks] at vb0
  refine own_chunk vb0 hA d60 u900 I5 [7, 3] (by decide) rfl (fun _ => rfl) fun e6 s6 I6 => ?_
  generalize ((tokL vs fun j => e1 (j + 2)).map iv).getLast? = lo at I6 vb0
  have hpl : ∀ σ, (tokN ks σ).length = k + 1 := fun σ => by rw [tokN_len, hk]
  have hp16 : ∀ σ, ∀ p ∈ tokN ks σ, p.1 < 16 := fun σ p hp => h16 _ (by
    have h : p.1 ∈ (tokN ks σ).map (·.1) := List.mem_map_of_mem hp
    rwa [tokN_fst] at h)
  -- came
  refine own_append ?_
  have vb1 := v_B1 (w := w) (b1 := b1) (b2 := b2) (L := L) (cF := cF) (cC := cC) (cO := cO) (sl := sl) (dr := e1 1) (wo := e2 1) (od := e2 0) (pk := e6 0) (tp := e6 1) (td := e6 2) (T := ⟨ts, e1 0, e2 2, e2 3⟩) (tu := .int (tu : Nat) (e2 4)) (m := nmOf tu f e2) (lo := lo) (nb := nb) (τ := fun j => e2 (2 * j + 11)) (ps := tokN ks fun j => e6 (j + 3)) (np := ks.length - 4) (by rw [hpl]; omega) (by rw [hpl]; omega) (hp16 _) hN
  rw [hpl, hP1] at vb1
  refine own_chunk vb1 hA d60 u900 I6 [6, 7, 2, 8, 0, 10] (by decide) rfl (fun _ => rfl) fun e7 s7 I7 => ?_
  -- firsts
  refine own_append ?_
  have vb2 := v_B2 (w := w) (b1 := b1) (b2 := b2) (L := L) (cF := cF) (cC := cC) (cO := cO) (sl := sl) (dr := e1 1) (wo := e2 1) (od := e2 0) (pk := e6 0) (tp := e6 1) (td := e6 2) (co := e7 1) (T := ⟨ts, e1 0, e2 2, e2 3⟩) (tu := .int (tu : Nat) (e2 4)) (m := nmOf tu f e2) (lo := lo) (nb := nb) (τ := fun j => e2 (2 * j + 11)) (ps := tokN ks fun j => e6 (j + 3)) (np := ks.length - 4) (q := fun i => e7 (2 * i + 3)) (hpl _) hk16 hN
  rw [hP2] at vb2
  refine own_chunk vb2 hA d60 u900 I7 [7, 9, 4, 10, 2, 12, 1] (by decide) rfl (fun _ => rfl) fun e8 s8 I8 => ?_
  -- dots
  refine own_append ?_
  refine own_chunk (v_B3 (L := L) (cF := cF) (cC := cC) (cO := cO) (sl := sl) (dr := e1 1) (wo := e2 1) (od := e2 0) (pk := e6 0) (tp := e6 1) (td := e6 2) (T := ⟨ts, e1 0, e2 2, e2 3⟩) (tu := .int (tu : Nat) (e2 4)) (m := nmOf tu f e2) (lo := lo) (τ := fun j => e2 (2 * j + 11)) (ps := tokN ks fun j => e6 (j + 3)) (np := ks.length - 4) (hpl _) hk16) hA d60 u900 I8 [10, 5, 11, 3] (by decide) rfl (fun _ => rfl) fun e9 s9 I9 => ?_
  -- the three tests
  refine own_execs (own_If (own_isOr (own_or_cons (own_isTrue1 ?_ rfl))))
  refine own_expr (v_l1 (ca := e7 0)) hA d60 u900 I9 [10] (by decide) rfl (fun _ => rfl) fun e10 s10 I10 => ?_
  refine own_expr (v_r1 (sl := sl) (dr := e1 1) (wo := e2 1) (pk := e6 0) (tp := e6 1) (td := e6 2) (tdt := e9 1) (dt := e9 0) (T := ⟨ts, e1 0, e2 2, e2 3⟩) (tu := .int (tu : Nat) (e2 4)) (m := nmOf tu f e2) (lo := lo) (ps := tokN ks fun j => e6 (j + 3)) (np := ks.length - 4) (hpl _) hk16 (hp16 _)) hA d60 u900 I10 [12, 4] (by decide) rfl (fun _ => rfl) fun e11 s11 I11 => ?_
  refine own_cmpI (op := .NotEq) PySem.F.slot_list_ne rfl (v_neInt rfl) hA dw uw I11 [3, 0] (by decide) rfl fun s12 I12 => ⟨false, rfl, ?_⟩
  refine own_or_cons (own_isTrue1 ?_ rfl)
  refine own_expr (v_l2 (fi := e8 0)) hA d60 u900 I12 [10] (by decide) rfl (fun _ => rfl) fun e13 s13 I13 => ?_
  refine own_expr (v_r2 (L := L) (sl := sl) (dr := e1 1) (wo := e2 1) (pk := e6 0) (tp := e6 1) (td := e6 2) (tdt := e9 1) (dt := e9 0) (T := ⟨ts, e1 0, e2 2, e2 3⟩) (tu := .int (tu : Nat) (e2 4)) (m := nmOf tu f e2) (lo := lo)) hA d60 u900 I13 [13] (by decide) rfl (fun _ => rfl) fun e14 s14 I14 => ?_
  refine own_cmpI (op := .NotEq) PySem.F.slot_list_ne rfl (v_neInt rfl) hA dw uw I14 [2, 1] (by decide) rfl fun s15 I15 => ⟨false, rfl, ?_⟩
  refine own_or_cons (own_isTrue1 ?_ rfl)
  refine own_expr (v_l3 (fi := e8 0)) hA d60 u900 I15 [10] (by decide) rfl (fun _ => rfl) fun e16 s16 I16 => ?_
  refine own_expr (v_r3 (L := L) (sl := sl) (dr := e1 1) (wo := e2 1) (pk := e6 0) (tp := e6 1) (td := e6 2) (tdt := e9 1) (dt := e9 0) (T := ⟨ts, e1 0, e2 2, e2 3⟩) (tu := .int (tu : Nat) (e2 4)) (m := nmOf tu f e2) (lo := lo) (ps := tokN ks fun j => e6 (j + 3)) (np := ks.length - 4) (hpl _) hk16) hA d60 u900 I16 [13, 5] (by decide) rfl (fun _ => rfl) fun e17 s17 I17 => ?_
  refine own_cmpI (op := .NotEq) PySem.F.slot_list_ne rfl (v_neInt hP3) hA dw uw I17 [3, 0] (by decide) rfl fun s18 I18 => ⟨false, rfl, ?_⟩
  refine own_or_nil ?_
  refine own_nil (show wpOwn _ _ _ _ _ _ _ from ?_)
  -- the answer
  refine own_execs (own_Return (own_Compare1 ?_ rfl))
  refine own_expr (v_rl (L := L) (sl := sl) (dr := e1 1) (wo := e2 1) (pk := e6 0) (tp := e6 1) (td := e6 2) (tdt := e9 1) (dt := e9 0) (T := ⟨ts, e1 0, e2 2, e2 3⟩) (tu := .int (tu : Nat) (e2 4)) (m := nmOf tu f e2) (lo := lo) (ps := tokN ks fun j => e6 (j + 3)) (np := ks.length - 4) (n := k) (ca := e7 0) (fi := e8 0) (cs := tldAt (tokN ks fun j => e6 (j + 3)) (k + 1)) (fs := dotsV (k + 1)) (σ := fun j => e7 (2 * (j + 3))) (τ := fun j => e8 (j + 1)) (nc := k + 1) (nf := k + 1) (hpl _) hk16 (fun i hi => by rw [hP3]; exact hP4 _ i hi)) hA d60 u900 I18 [14, 6, 12, 4, 11, 3] (by decide) rfl (fun _ => rfl) fun e19 s19 I19 => ?_
  refine own_expr v_rr hA d60 u900 I19 [] (by decide) rfl (fun _ => rfl) fun e20 s20 I20 => ?_
  refine own_cmpI (op := .Eq) PySem.F.slot_list_eq rfl v_eqNil hA dw uw I20 [1, 0] (by decide) rfl fun s21 I21 => ?_
  exact HR _ _ I21 ⟨_, rfl⟩ rfl
end Mine

open PySem PySem.W PySem.W.X PyProof.Rows
namespace Mine
/-- which letter it is -/
def unL (y : Array UInt8) : Nat := ((List.range 16).find? fun i => decide ((L16 i).toList = y.toList)).getD 0
def nbL (y : Array UInt8) : Ns := ⟨L16 (unL y ^^^ 8), L16 (unL y ^^^ 4), L16 (unL y ^^^ 2), L16 (unL y ^^^ 1)⟩
theorem unL_all : ∀ i : _root_.Fin 16, unL (L16 i.1) = i.1 := by decide +kernel
theorem unL_eq {i : Nat} (h : i < 16) : unL (L16 i) = i := unL_all ⟨i, h⟩
theorem lt16_all : ∀ i j : _root_.Fin 16, (ord8 (L16 i.1) (L16 j.1) == .lt) = decide (i.1 < j.1) := by decide +kernel
theorem eq_all : ∀ i j : _root_.Fin 16, decide ((L16 i.1).toList = (L16 j.1).toList) = decide (i.1 = j.1) := by decide +kernel
theorem adj_all : ∀ a b : _root_.Fin 16, adj a.1 b.1 = [b.1 ^^^ 8, b.1 ^^^ 4, b.1 ^^^ 2, b.1 ^^^ 1].contains a.1 := by decide +kernel
theorem nb_lt : ∀ b : _root_.Fin 16, ∀ x ∈ [b.1 ^^^ 8, b.1 ^^^ 4, b.1 ^^^ 2, b.1 ^^^ 1], x < 16 := by decide +kernel
theorem nb_nodup : ∀ b : _root_.Fin 16, [b.1 ^^^ 8, b.1 ^^^ 4, b.1 ^^^ 2, b.1 ^^^ 1].Nodup := by decide +kernel
section
variable {w : World} {b1 b2 : Bool}
theorem nbL_turned (i : Nat) (hi : i < 16) (t : Nat) : VV w b1 b2 (cTurned (L16 i) t (nbL (L16 i)).n0 (nbL (L16 i)).n1 (nbL (L16 i)).n2 (nbL (L16 i)).n3) := by
  unfold nbL
  rw [unL_eq hi]
  rcases i with _ | _ | _ | _ | _ | _ | _ | _ | _ | _ | _ | _ | _ | _ | _ | _ | i
  case succ.succ.succ.succ.succ.succ.succ.succ.succ.succ.succ.succ.succ.succ.succ.succ => omega
  all_goals exact v_turned
end
/-- the search -/
theorem bis_eq (p : Nat → Bool) (c : Nat) : ∀ k lo hi, hi - lo ≤ k → lo ≤ c → c ≤ hi → (∀ i, i < hi → p i = decide (i < c)) → bisR p k lo hi = c
  | 0, lo, hi, hk, h1, h2, hp => by unfold bisR; omega
  | k + 1, lo, hi, hk, h1, h2, hp => by
    unfold bisR
    by_cases hl : lo < hi
    · rw [if_pos hl, hp _ (by omega)]
      by_cases hc : (lo + hi) / 2 < c
      · rw [decide_eq_true hc, if_pos rfl]
        exact bis_eq p c k _ _ (by omega) (by omega) h2 hp
      · rw [decide_eq_false hc, if_neg (by simp)]
        exact bis_eq p c k _ _ (by omega) h1 (by omega) fun i hi => hp i (by omega)
    · rw [if_neg hl]; omega
theorem split_at (x : Nat) : ∀ ms : List Nat, ms.Pairwise (· < ·) → ∃ A B, ms = A ++ B ∧ (∀ a ∈ A, a < x) ∧ ∀ b ∈ B, x ≤ b
  | [], _ => ⟨[], [], rfl, by simp, by simp⟩
  | m :: ms, h => by
    rw [List.pairwise_cons] at h
    by_cases hm : m < x
    · obtain ⟨A, B, e, hA, hB⟩ := split_at x ms h.2
      refine ⟨m :: A, B, by rw [e]; rfl, fun a ha => ?_, hB⟩
      rcases List.mem_cons.mp ha with rfl | ha
      · exact hm
      · exact hA a ha
    · refine ⟨[], m :: ms, rfl, by simp, fun b hb => ?_⟩
      rcases List.mem_cons.mp hb with rfl | hb
      · omega
      · have := h.1 b hb; omega
theorem ltX_eq {ls : List (Array UInt8 × Nat)} {ms : List Nat} {x : Nat} (hm : ls.map (·.1) = ms.map L16) (h16 : ∀ m ∈ ms, m < 16) (hx : x < 16) (i : Nat) : ltX ls (L16 x) i = (match ms[i]? with | some m => decide (m < x) | none => false) := by
  unfold ltX
  have h : (ls.map (·.1))[i]? = (ms.map L16)[i]? := by rw [hm]
  rw [List.getElem?_map, List.getElem?_map] at h
  cases hl : ls[i]? with
  | none => rw [hl] at h; cases hs : ms[i]? with
    | none => rfl
    | some m => rw [hs] at h; simp at h
  | some q => rw [hl] at h; cases hs : ms[i]? with
    | none => rw [hs] at h; simp at h
    | some m =>
      rw [hs] at h
      have e : q.1 = L16 m := by simpa using h
      show (ord8 q.1 (L16 x) == .lt) = decide (m < x)
      rw [e]
      exact lt16_all ⟨m, h16 m (List.mem_of_getElem? hs)⟩ ⟨x, hx⟩
theorem spot_len {ls : List (Array UInt8 × Nat)} {A B : List Nat} {x : Nat} (hm : ls.map (·.1) = (A ++ B).map L16) (h16 : ∀ m ∈ A ++ B, m < 16) (hx : x < 16) (hA : ∀ a ∈ A, a < x) (hB : ∀ b ∈ B, x ≤ b) : spotOf ls (L16 x) = A.length := by
  have hl : ls.length = A.length + B.length := by
    have := congrArg List.length hm
    simpa using this
  refine bis_eq _ _ _ _ _ (by omega) (by omega) (by omega) fun i hi => ?_
  rw [ltX_eq hm h16 hx]
  by_cases hc : i < A.length
  · rw [List.getElem?_append_left hc, List.getElem?_eq_getElem hc, decide_eq_true hc]
    exact decide_eq_true (hA _ (List.getElem_mem hc))
  · rw [List.getElem?_append_right (by omega), List.getElem?_eq_getElem (by omega), decide_eq_false hc]
    refine decide_eq_false ?_
    have := hB (B[i - A.length]'(by omega)) (List.getElem_mem _)
    omega
theorem found_eq {ls : List (Array UInt8 × Nat)} {ms : List Nat} {x : Nat} (hm : ls.map (·.1) = ms.map L16) (hs : ms.Pairwise (· < ·)) (h16 : ∀ m ∈ ms, m < 16) (hx : x < 16) : foundIn ls (L16 x) = decide (x ∈ ms) := by
  obtain ⟨A, B, rfl, hA, hB⟩ := split_at x ms hs
  unfold foundIn
  rw [spot_len hm h16 hx hA hB]
  have h : (ls.map (·.1))[A.length]? = ((A ++ B).map L16)[A.length]? := by rw [hm]
  rw [List.getElem?_map, List.getElem?_map, List.getElem?_append_right (Nat.le_refl _), Nat.sub_self] at h
  have hA' : x ∉ A := fun ha => by have := hA x ha; omega
  have hs' := (List.pairwise_append.mp hs).2.1
  cases B with
  | nil =>
    cases hl : ls[A.length]? with
    | none => simp [hA']
    | some q => rw [hl] at h; simp at h
  | cons b B =>
    cases hl : ls[A.length]? with
    | none => rw [hl] at h; simp at h
    | some q =>
      rw [hl] at h
      have e : q.1 = L16 b := by simpa using h
      show decide (q.1.toList = (L16 x).toList) = _
      rw [e]
      refine (eq_all ⟨b, h16 b (by simp)⟩ ⟨x, hx⟩).trans ?_
      show decide (b = x) = _
      by_cases hb : b = x
      · simp [hb]
      · have : x ∉ B := fun hB' => by
          have h1 := (List.pairwise_cons.mp hs').1 x hB'
          have h2 := hB b (by simp)
          omega
        have hb' : x ≠ b := fun h => hb h.symm
        simp [hA', this, hb, hb']
theorem ins_eq {ls : List (Array UInt8 × Nat)} {ms : List Nat} {x t : Nat} (hm : ls.map (·.1) = ms.map L16) (hs : ms.Pairwise (· < ·)) (h16 : ∀ m ∈ ms, m < 16) (hx : x < 16) (hn : x ∉ ms) : ∃ ms' : List Nat, (insL ls (L16 x) t).map (·.1) = ms'.map L16 ∧ ms'.Pairwise (· < ·) ∧ ms'.Perm (x :: ms) := by
  obtain ⟨A, B, rfl, hA, hB⟩ := split_at x ms hs
  have hc := spot_len hm h16 hx hA hB
  refine ⟨A ++ x :: B, ?_, ?_, List.perm_middle⟩
  · unfold insL
    unfold spotOf at hc
    rw [hc, List.map_append, List.map_cons, List.map_take, List.map_drop, hm, ← List.map_take, ← List.map_drop, List.take_left, List.drop_left, List.map_append, List.map_cons]
  · have h := List.pairwise_append.mp hs
    refine List.pairwise_append.mpr ⟨h.1, List.pairwise_cons.mpr ⟨fun b hb => ?_, h.2.1⟩, fun a ha b hb => ?_⟩
    · have h1 := hB b hb
      have h2 : x ≠ b := fun e => hn (by rw [e]; simp [hb])
      omega
    · rcases List.mem_cons.mp hb with rfl | hb
      · exact hA a ha
      · exact h.2.2 a ha b hb
/-- two counts of one meeting -/
theorem meet_len (N : List Nat) (hN : N.Nodup) : ∀ ms : List Nat, ms.Nodup → (N.filter fun x => decide (x ∈ ms)).length = (ms.filter fun m => N.contains m).length
  | [], _ => by simp
  | m :: ms, h => by
    have h' := List.nodup_cons.mp h
    have ih := meet_len N hN ms h'.2
    have key : ∀ N : List Nat, N.Nodup → (N.filter fun x => decide (x ∈ m :: ms)).length = (N.filter fun x => decide (x ∈ ms)).length + (if N.contains m = true then 1 else 0) := fun N => by
      induction N with
      | nil => intro _; simp
      | cons y N ihN =>
        intro hy
        have hy' := List.nodup_cons.mp hy
        have ihN := ihN hy'.2
        rw [List.filter_cons, List.filter_cons]
        by_cases e : y = m
        · subst e
          have c1 : N.contains y = false := by simpa using hy'.1
          have c2 : (y :: N).contains y = true := by simp
          have d1 : decide (y ∈ y :: ms) = true := by simp
          have d2 : decide (y ∈ ms) = false := decide_eq_false h'.1
          rw [c1] at ihN
          rw [c2, d1, d2]
          simp only [if_true, List.length_cons]
          simp at ihN
          simp [ihN]
        · have c : (y :: N).contains m = N.contains m := by
            have : (m == y) = false := by simpa using fun h : m = y => e h.symm
            rw [List.contains_cons, this, Bool.false_or]
          have d : decide (y ∈ m :: ms) = decide (y ∈ ms) := by simp [e]
          rw [c, d]
          by_cases f : y ∈ ms
          · rw [decide_eq_true f]
            simp only [if_true, List.length_cons]
            omega
          · rw [decide_eq_false f]
            simpa using ihN
    rw [key N hN, ih, List.filter_cons]
    by_cases c : N.contains m = true
    · rw [if_pos c, if_pos c]; rfl
    · rw [if_neg c, if_neg c, Nat.add_zero]
theorem met_eq {ls : List (Array UInt8 × Nat)} {ms : List Nat} {x : Nat} (hm : ls.map (·.1) = ms.map L16) (hs : ms.Pairwise (· < ·)) (h16 : ∀ m ∈ ms, m < 16) (hx : x < 16) : metOf ls (nbL (L16 x)).l = (ms.filter fun m => adj m x).length := by
  have hl : (nbL (L16 x)).l = [x ^^^ 8, x ^^^ 4, x ^^^ 2, x ^^^ 1].map L16 := by
    unfold nbL
    rw [unL_eq hx]
    rfl
  unfold metOf
  rw [hl, List.filter_map, List.length_map]
  have e1 : [x ^^^ 8, x ^^^ 4, x ^^^ 2, x ^^^ 1].filter ((fun y => foundIn ls y) ∘ L16) = [x ^^^ 8, x ^^^ 4, x ^^^ 2, x ^^^ 1].filter fun y => decide (y ∈ ms) :=
    List.filter_congr fun y hy => found_eq hm hs h16 (nb_lt ⟨x, hx⟩ y hy)
  have e2 : (ms.filter fun m => adj m x) = ms.filter fun m => [x ^^^ 8, x ^^^ 4, x ^^^ 2, x ^^^ 1].contains m :=
    List.filter_congr fun y hy => adj_all ⟨y, h16 y hy⟩ ⟨x, hx⟩
  rw [e1, e2]
  exact meet_len _ (nb_nodup ⟨x, hx⟩) ms (hs.imp fun h => Nat.ne_of_lt h)
end Mine

open PySem PySem.W PySem.W.X PyProof.Rows
namespace Mine
theorem prs_inv {τ : Nat → Nat} {ps : List (Nat × Nat)} (hn : (ps.map (·.1)).Nodup) (h16 : ∀ p ∈ ps, p.1 < 16) : ∀ i, i ≤ ps.length →
    ∃ ms : List Nat, (prsAt nbL (pkY τ ps) i).1.map (·.1) = ms.map L16 ∧ ms.Pairwise (· < ·) ∧ ms.Perm ((ps.take i).map (·.1)) ∧ (prsAt nbL (pkY τ ps) i).2 = tldAt ps i
  | 0, _ => ⟨[], rfl, .nil, by simp, rfl⟩
  | i + 1, hi => by
    obtain ⟨ms, h1, h2, h3, h4⟩ := prs_inv hn h16 i (by omega)
    have hp : ps[i]? = some (ps[i]'(by omega)) := List.getElem?_eq_getElem (by omega)
    have hmem := List.mem_of_getElem? hp
    generalize ps[i]'(by omega) = p at hp hmem
    have hy : (pkY τ ps)[i]? = some (L16 p.1, τ p.1) := by rw [List.getElem?_map, hp]; rfl
    have hq := h16 p hmem
    have hm16 : ∀ m ∈ ms, m < 16 := fun m hm => by
      have := h3.subset hm
      obtain ⟨p', hp', rfl⟩ := List.mem_map.mp this
      exact h16 p' (List.mem_of_mem_take hp')
    have htk : (ps.take (i + 1)).map (·.1) = (ps.take i).map (·.1) ++ [p.1] := by
      rw [List.take_add_one, hp]; simp
    have hnot : p.1 ∉ ms := fun h => by
      have h' := h3.subset h
      have nd : ((ps.take (i + 1)).map (·.1)).Nodup := by
        have : ((ps.take (i + 1)).map (·.1)).Sublist (ps.map (·.1)) := (List.take_sublist _ _).map _
        exact this.nodup hn
      rw [htk, List.nodup_append] at nd
      exact nd.2.2 _ h' _ (by simp) rfl
    rw [prsAt_succ hy]
    obtain ⟨ms', g1, g2, g3⟩ := ins_eq (t := τ p.1) h1 h2 hm16 hq hnot
    refine ⟨ms', g1, g2, ?_, ?_⟩
    · rw [htk]
      refine g3.trans ((List.Perm.cons _ h3).trans ?_)
      exact List.perm_append_comm (l₁ := [p.1])
    · show (prsAt nbL (pkY τ ps) i).2 ++ [lastI (prsAt nbL (pkY τ ps) i).2 + (metOf (prsAt nbL (pkY τ ps) i).1 (nbL (L16 p.1)).l : Nat)] = tldAt ps (i + 1)
      have hv : valAt ps i = p.1 := by unfold valAt; rw [hp]; rfl
      have hmet : metOf (prsAt nbL (pkY τ ps) i).1 (nbL (L16 p.1)).l = metT ps i (valAt ps i) := by
        rw [met_eq h1 h2 hm16 hq, hv, (h3.filter _).length_eq, List.filter_map, List.length_map]
        rfl
      rw [hmet, h4]
      rfl
theorem prs_tld {τ : Nat → Nat} {ps : List (Nat × Nat)} (hn : (ps.map (·.1)).Nodup) (h16 : ∀ p ∈ ps, p.1 < 16) : (prsAt nbL (pkY τ ps) ps.length).2 = tldAt ps ps.length := by
  obtain ⟨_, _, _, _, h⟩ := prs_inv (τ := τ) hn h16 ps.length (Nat.le_refl _)
  exact h
def rngP (k : Nat) : List (Nat × Nat) := (List.range k).map fun i => (i, 0)
theorem rng_all : ∀ k : _root_.Fin 17, tldAt (rngP k.1) k.1 = dotsV k.1 ∧ dotsV k.1 = onesV k.1 := by decide +kernel
theorem fir_pk (τ : Nat → Nat) (k : Nat) : firY τ k = pkY τ (rngP k) := by
  show _ = List.map _ (List.map _ _)
  rw [List.map_map]
  rfl
theorem fir_dots (τ : Nat → Nat) {k : Nat} (hk : k ≤ 16) : (prsAt nbL (firY τ k) k).2 = dotsV k := by
  have hl : (rngP k).length = k := by unfold rngP; simp
  have hf : (rngP k).map (·.1) = List.range k := by unfold rngP; rw [List.map_map]; exact List.map_id' _
  have h := prs_tld (τ := τ) (ps := rngP k) (by rw [hf]; exact List.nodup_range) (fun p hp => by
    have : p.1 ∈ (rngP k).map (·.1) := List.mem_map_of_mem hp
    rw [hf, List.mem_range] at this
    omega)
  rw [hl] at h
  rw [fir_pk, h]
  exact (rng_all ⟨k, by omega⟩).1
/-- the number of neighbouring pairs -/
def edgN : List Nat → Nat
  | [] => 0
  | x :: l => (l.filter fun m => adj m x).length + edgN l
theorem adj_comm (a b : Nat) : adj a b = adj b a := by unfold adj; rw [Nat.xor_comm]
theorem edgN_perm {l l' : List Nat} (h : l.Perm l') : edgN l = edgN l' := by
  induction h with
  | nil => rfl
  | cons x h ih => show (_ + _ = _ + _); rw [(h.filter _).length_eq, ih]
  | swap x y l =>
    show (List.filter _ (_ :: l)).length + ((l.filter _).length + edgN l) = (List.filter _ (_ :: l)).length + ((l.filter _).length + edgN l)
    rw [List.filter_cons, List.filter_cons, adj_comm x y]
    split <;> (try simp only [List.length_cons]) <;> omega
  | trans _ _ h1 h2 => exact h1.trans h2
theorem tld_at {ps : List (Nat × Nat)} : ∀ n i, i < n → n ≤ ps.length → (tldAt ps n)[i]? = some ((edgN ((ps.take (i + 1)).map (·.1)).reverse : Nat) : Int)
  | n + 1, i, hi, hn => by
    have hlen : ∀ m, m ≤ ps.length → (tldAt ps m).length = m := fun m hm => by
      clear hi hn
      induction m with
      | zero => rfl
      | succ m ih => show (tldAt ps m ++ [_]).length = m + 1; rw [List.length_append, ih (by omega)]; rfl
    show (tldAt ps n ++ [_])[i]? = _
    by_cases h : i < n
    · rw [List.getElem?_append_left (by rw [hlen n (by omega)]; exact h)]
      exact tld_at n i h (by omega)
    · have e : i = n := by omega
      subst e
      have hp : ps[i]? = some (ps[i]'(by omega)) := List.getElem?_eq_getElem (by omega)
      generalize ps[i]'(by omega) = p at hp
      have htk : ((ps.take (i + 1)).map (·.1)).reverse = p.1 :: ((ps.take i).map (·.1)).reverse := by
        rw [List.take_add_one, hp]; simp
      have hv : valAt ps i = p.1 := by unfold valAt; rw [hp]; rfl
      rw [List.getElem?_append_right (by rw [hlen i (by omega)]; exact Nat.le_refl _), hlen i (by omega), Nat.sub_self, htk, hv]
      show some (lastI (tldAt ps i) + (metT ps i p.1 : Nat)) = some (((((ps.take i).map (·.1)).reverse.filter fun m => adj m p.1).length + edgN ((ps.take i).map (·.1)).reverse : Nat) : Int)
      have hmt : (((ps.take i).map (·.1)).reverse.filter fun m => adj m p.1).length = metT ps i p.1 := by
        rw [List.filter_reverse, List.length_reverse, List.filter_map, List.length_map]
        rfl
      have hla : lastI (tldAt ps i) = ((edgN ((ps.take i).map (·.1)).reverse : Nat) : Int) := by
        cases i with
        | zero => rfl
        | succ j =>
          have h1 := tld_at (ps := ps) (j + 1) j (by omega) (by omega)
          have hl := hlen (j + 1) (by omega)
          unfold lastI
          rw [hl]
          have hd : (tldAt ps (j + 1)).drop (j + 1 - 1) = [((edgN ((ps.take (j + 1)).map (·.1)).reverse : Nat) : Int)] := by
            rw [show j + 1 - 1 = j from rfl]
            refine List.ext_getElem? fun q => ?_
            rw [List.getElem?_drop]
            cases q with
            | zero => exact h1
            | succ q => rw [List.getElem?_eq_none (by rw [hl]; omega)]; rfl
          rw [hd]
          show (0 : Int) + _ = _
          omega
      rw [hla, hmt]
      congr 1
      omega
/-- the bound, table and search -/
def onesT : List Nat := [0, 0, 1, 2, 4, 5, 7, 9, 12, 13, 15, 17, 20, 22, 25, 28, 32]
theorem ones_tab : ∀ k : _root_.Fin 17, onesOf (k.1 : Nat) = ((onesT.getD k.1 0 : Nat) : Int) := by decide +kernel
def srch : List Nat → List Nat → Nat → Nat → Bool
  | [], _, e, n => Nat.ble e (onesT.getD n 0)
  | x :: rem, ch, e, n => srch rem ch e n && srch rem (x :: ch) ((ch.filter fun m => adj m x).length + e) (n + 1)
theorem srch_ok (f : Nat → Bool) : ∀ rem ch, srch rem ch (edgN ch) ch.length = true → edgN ((rem.filter f).reverse ++ ch) ≤ onesT.getD ((rem.filter f).reverse ++ ch).length 0
  | [], ch, h => Nat.le_of_ble_eq_true h
  | x :: rem, ch, h => by
    unfold srch at h
    rw [Bool.and_eq_true] at h
    rw [List.filter_cons]
    by_cases hf : f x = true
    · rw [if_pos hf, List.reverse_cons, List.append_assoc]
      exact srch_ok f rem (x :: ch) h.2
    · rw [if_neg hf]
      exact srch_ok f rem ch h.1
theorem srch_run : srch [0, 1, 2, 3, 4, 8, 9, 10, 11, 13, 14, 15] [12, 6, 7, 5] 2 4 = true := by decide +kernel
theorem count_nd {l : List Nat} (h : l.Nodup) (a : Nat) : l.count a = if a ∈ l then 1 else 0 := by
  induction l with
  | nil => rfl
  | cons x l ih =>
    have h' := List.nodup_cons.mp h
    rw [List.count_cons, ih h'.2]
    by_cases e : x = a
    · subst e
      simp [h'.1]
    · have e' : a ≠ x := fun h => e h.symm
      simp [e, e']
theorem perm_nd {l m : List Nat} (hl : l.Nodup) (hm : m.Nodup) (h : ∀ a, a ∈ l ↔ a ∈ m) : l.Perm m := by
  rw [List.perm_iff_count]
  intro a
  rw [count_nd hl, count_nd hm]
  by_cases c : a ∈ l
  · rw [if_pos c, if_pos ((h a).mp c)]
  · rw [if_neg c, if_neg (fun c' => c ((h a).mpr c'))]
abbrev freeL : List Nat := [0, 1, 2, 3, 4, 8, 9, 10, 11, 13, 14, 15]
theorem free_all : ∀ x : _root_.Fin 16, x.1 ∈ [5, 7, 6, 12] ∨ x.1 ∈ freeL := by decide +kernel
theorem free_not : ∀ x ∈ freeL, x ∉ [5, 7, 6, 12] := by decide +kernel
theorem edg_le {t : List Nat} (hn : ([5, 7, 6, 12] ++ t).Nodup) (h16 : ∀ x ∈ t, x < 16) : edgN ([5, 7, 6, 12] ++ t) ≤ onesT.getD ([5, 7, 6, 12] ++ t).length 0 := by
  have hn' := List.nodup_append.mp hn
  have hp : t.Perm (freeL.filter fun x => decide (x ∈ t)) := by
    refine perm_nd hn'.2.1 ((List.filter_sublist (l := freeL)).nodup (by decide)) fun a => ?_
    rw [List.mem_filter, decide_eq_true_iff]
    refine ⟨fun h => ⟨?_, h⟩, fun h => h.2⟩
    rcases free_all ⟨a, h16 a h⟩ with h1 | h1
    · exact absurd rfl (hn'.2.2 a h1 a h)
    · exact h1
  have hq : ([5, 7, 6, 12] ++ t).Perm ((freeL.filter fun x => decide (x ∈ t)).reverse ++ [12, 6, 7, 5]) := by
    refine List.perm_append_comm.trans ?_
    refine List.Perm.append (hp.trans (List.reverse_perm _).symm) ?_
    exact perm_nd (by decide) (by decide) fun a => by simp; omega
  rw [edgN_perm hq, hq.length_eq]
  exact srch_ok _ freeL [12, 6, 7, 5] srch_run
/-- the picks -/
theorem pik_form (zs : List Nat) (hz : ∀ z ∈ zs, z < 16) : ∀ i, ∃ t, pikAt zs i = [5, 7, 6, 12] ++ t ∧ ([5, 7, 6, 12] ++ t).Nodup ∧ ∀ x ∈ t, x < 16
  | 0 => ⟨[], rfl, by decide, by simp⟩
  | i + 1 => by
    obtain ⟨t, h1, h2, h3⟩ := pik_form zs hz i
    cases hi : zs[i]? with
    | none =>
      refine ⟨t, ?_, h2, h3⟩
      have : zs.take (i + 1) = zs.take i := by rw [List.take_add_one, hi]; simp
      unfold pikAt at h1 ⊢
      rw [this, h1]
    | some z =>
      rw [pikAt_succ hi, h1]
      unfold pikStep
      by_cases hc : ([5, 7, 6, 12] ++ t).contains z = true
      · rw [if_pos hc]; exact ⟨t, rfl, h2, h3⟩
      · rw [if_neg hc]
        refine ⟨t ++ [z], by rw [List.append_assoc], ?_, fun x hx => ?_⟩
        · rw [← List.append_assoc, List.nodup_append]
          refine ⟨h2, by simp, fun a ha b hb => ?_⟩
          rw [List.mem_singleton] at hb
          subst hb
          intro e
          subst e
          exact hc (by simpa using ha)
        · rcases List.mem_append.mp hx with hx | hx
          · exact h3 x hx
          · rw [List.mem_singleton] at hx
            subst hx
            exact hz _ (List.mem_of_getElem? hi)
theorem edg_pre {t : List Nat} (hn : ([5, 7, 6, 12] ++ t).Nodup) (h16 : ∀ x ∈ t, x < 16) (i : Nat) (hi : i ≤ ([5, 7, 6, 12] ++ t).length) : edgN (([5, 7, 6, 12] ++ t).take i) ≤ onesT.getD i 0 := by
  rcases i with _ | _ | _ | _ | i
  · exact Nat.zero_le _
  · exact Nat.zero_le _
  · show edgN [5, 7] ≤ _; decide
  · show edgN [5, 7, 6] ≤ _; decide
  · have e : ([5, 7, 6, 12] ++ t).take (i + 4) = [5, 7, 6, 12] ++ t.take i := by
      rw [List.take_append]
      simp
    have el : ([5, 7, 6, 12] ++ t.take i).length = i + 4 := by
      rw [List.length_append] at hi ⊢
      have : i ≤ t.length := by simp at hi; omega
      rw [List.length_take, Nat.min_eq_left this]
      exact Nat.add_comm _ _
    have nd : ([5, 7, 6, 12] ++ t.take i).Nodup := by
      rw [← e]
      exact (List.take_sublist _ _).nodup hn
    have h := edg_le nd fun x hx => h16 x (List.mem_of_mem_take hx)
    rw [el] at h
    rw [e]
    exact h
/-- all that law's walk asks of the picks -/
theorem law_vals (zs : List Nat) (hz : ∀ z ∈ zs, z < 16) (hl : zs.length ≤ 6) : ∃ k, (pikAt zs zs.length).length = k + 1 ∧ k + 1 ≤ 16 ∧ (∀ z ∈ pikAt zs zs.length, z < 16) ∧
    (∀ τ σ : Nat → Nat, (prsAt nbL (pkY τ (tokN (pikAt zs zs.length) σ)) (k + 1)).2 = tldAt (tokN (pikAt zs zs.length) σ) (k + 1)) ∧
    (∀ τ, (prsAt nbL (firY τ (k + 1)) (k + 1)).2 = dotsV (k + 1)) ∧ dotsV (k + 1) = onesV (k + 1) ∧
    (∀ σ, ∀ i, i < k + 1 → ∃ x y, (tldAt (tokN (pikAt zs zs.length) σ) (k + 1))[i]? = some x ∧ (onesV (k + 1))[i]? = some y ∧ x ≤ y) := by
  have hlen := pikAt_len zs zs.length (Nat.le_refl _)
  obtain ⟨t, ht, hnd, h16⟩ := pik_form zs hz zs.length
  generalize pikAt zs zs.length = ks at *
  have hk16 : ∀ z ∈ ks, z < 16 := fun z h => by
    rw [ht] at h
    rcases List.mem_append.mp h with h | h
    · have : ∀ z ∈ [5, 7, 6, 12], z < 16 := by decide
      exact this z h
    · exact h16 z h
  have hks : ks.Nodup := by rw [ht]; exact hnd
  refine ⟨ks.length - 1, by omega, by omega, hk16, fun τ σ => ?_, fun τ => fir_dots τ (by omega), (rng_all ⟨ks.length - 1 + 1, by omega⟩).2, fun σ i hi => ?_⟩
  · have h := prs_tld (τ := τ) (ps := tokN ks σ) (by rw [tokN_fst]; exact hks) (fun p hp => hk16 _ (by
      have h : p.1 ∈ (tokN ks σ).map (·.1) := List.mem_map_of_mem hp
      rwa [tokN_fst] at h))
    rw [tokN_len] at h
    rw [show ks.length - 1 + 1 = ks.length from by omega]
    exact h
  · have h1 := tld_at (ps := tokN ks σ) (ks.length - 1 + 1) i hi (by rw [tokN_len]; omega)
    rw [List.map_take, tokN_fst] at h1
    refine ⟨_, onesOf ((i : Int) + 1), h1, ?_, ?_⟩
    · unfold onesV
      rw [List.getElem?_map, List.getElem?_range hi]
      rfl
    · have h2 : onesOf ((i : Int) + 1) = ((onesT.getD (i + 1) 0 : Nat) : Int) := ones_tab ⟨i + 1, by omega⟩
      rw [h2, edgN_perm (List.reverse_perm _), ht]
      have h3 := edg_pre hnd h16 (i + 1) (by rw [← ht]; omega)
      omega
end Mine

open PySem PySem.W PySem.W.X PyProof.Rows
namespace Mine
variable {w : World} {b1 b2 : Bool}
noncomputable def cLawC (P : Params) (sl n : Nat) (xv : List Value) : Con := { c := .call (.ref 140) ⟨[.ref sl], []⟩, pre := [(sl, lst xv n), (115, tabO [])], dep := 4, uni := 40, post := fun e => (.again (lawCode (e 0) (e 1) (e 2) (e 3)), [lst xv n, tabO []], [(e 1, celO none), (e 2, celO none), (e 3, celO none), (e 0, scrF P (e 4) sl)]) }
theorem v_lawC {sl n : Nat} {xv : List Value} : VV w b1 b2 (cLawC (wf w b1 b2).params sl n xv) := by
  refine vgo 200 (.seg (fun a0 u0 => [0, 0, 4, 3, 0]) fun a0 u0 => .fin true (fun i => match i with | 0 => a0 0 | 1 => a0 3 | 2 => a0 2 | 3 => a0 1 | _ => u0 0) 4 [0, 1, 2, 3]) ?_
  cases b2 <;> exact fun ρ => by kernel_rfl
theorem drw_lt {xs : List (Int × Nat)} : ∀ z ∈ (drwV xs).map (fun v => (v.fmod 16).toNat), z < 16 := fun z hz => by
  obtain ⟨v, _, rfl⟩ := List.mem_map.mp hz
  rw [Int.fmod_eq_emod_of_nonneg _ (by decide)]
  omega
theorem law_call {A : Around} {s : Shared} {R : Result → Shared → Prop} {sl n : Nat} {xs : List (Int × Nat)}
    (hA : A.handled = none) (hD : A.depth + 200 < recursionLimit) (hU : A.units + 2000 < cLine) (hg : KS (kg (wf w b1 b2)) s)
    (h1 : s.heap.get? sl = some (lst (xs.map iv) n)) (k1 : kg (wf w b1 b2) sl = none) (h2 : s.heap.get? 115 = some (tabO [])) (k2 : kg (wf w b1 b2) 115 = none) (hne : sl ≠ 115) (hx : xs.length < 2 ^ 10)
    (HR : ∀ s' co, s'.gens = s.gens → s'.os = s.os → (∀ b o, s.heap.get? b = some o → b ≠ sl → b ≠ 115 → s'.heap.get? b = some o) → s'.heap.get? sl = some (lst (xs.map iv) n) → s'.heap.get? 115 = some (tab1 co) → R (.ok (.ret (.bool true))) s') :
    codeAny (model pw (wf w b1 b2)) A (.call (.ref 140) ⟨[.ref sl], []⟩) R s := by
  have hpre : ∀ p ∈ (cLawC (wf w b1 b2).params sl n (xs.map iv)).pre, s.heap.get? p.1 = some p.2 ∧ kg (wf w b1 b2) p.1 = none := fun p hp => by
    rcases List.mem_cons.mp hp with rfl | hp
    · exact ⟨h1, k1⟩
    · rcases List.mem_cons.mp hp with rfl | hp
      · exact ⟨h2, k2⟩
      · cases hp
  have hnd : ((cLawC (wf w b1 b2).params sl n (xs.map iv)).pre.map (·.1)).Nodup := by
    show [sl, 115].Nodup
    simp [hne]
  refine v_lawC (sl := sl) (n := n) (xv := xs.map iv) A s R hA (show A.depth + 4 < _ by omega) (show A.units + 40 < _ by omega) hg hpre hnd fun e s1 O => ?_
  have I := (inv_init hg hpre hnd).orc (idx := [0, 1]) O (by decide) rfl
  obtain ⟨k, g1, g2, g3, g4, g5, g6, g7⟩ := law_vals ((drwV (xs.take 6)).map fun v => (v.fmod 16).toNat) drw_lt (by rw [List.length_map, drwV_eq, List.length_map, List.length_take]; omega)
  have e6 : ((drwV (xs.take 6)).map fun v => (v.fmod 16).toNat).length = (drwV (xs.take 6)).length := List.length_map _
  rw [e6] at g1 g3 g4 g7
  refine law_func (A := A) (nb := nbL) (k := k) hA (by omega) (by omega) I hx nbL_turned _ rfl g1 g2 g3 g4 g5 g6 g7 fun s' trk' I' hc hs => ?_
  obtain ⟨co, hc⟩ := hc
  rw [nth_eq] at hc hs
  refine HR s' co I'.gens I'.os (fun b o hb n1 n2 => I'.keep b o hb ?_) (I'.tr _ (List.mem_of_getElem? hs)).1 (I'.tr _ (List.mem_of_getElem? hc)).1
  show b ∉ [sl, 115]
  simp [n1, n2]
end Mine

open PySem PySem.W PySem.W.X PyProof.Rows
namespace Mine
theorem ints_iv {l : List Value} {ns : List Int} (h : IntsAre l ns) : ∃ xs : List (Int × Nat), l = xs.map iv ∧ xs.length = ns.length := by
  induction h with
  | nil => exact ⟨[], rfl, rfl⟩
  | cons n t _ ih =>
    obtain ⟨xs, rfl, h⟩ := ih
    exact ⟨(n, t) :: xs, rfl, by rw [List.length_cons, List.length_cons, h]⟩
theorem wf_self (w : World) : ∃ b1 b2, wf w b1 b2 = w := ⟨_, _, (World.withFollow_self (w.withFollow "comprehension-iter-twice" (w.params.followText "comprehension-iter-twice")) "special-get-raises").trans (World.withFollow_self w _)⟩
theorem kg_141 (w : World) : kg w 141 = none := by kernel_rfl
theorem kg_115 (w : World) : kg w 115 = none := by kernel_rfl
theorem kg_119 (w : World) : kg w 119 = some (o119 w.params) := by kernel_rfl
noncomputable def vs119 (P : Params) : Array Value := match (o119 P).data with | .fields vs => vs | _ => #[]
theorem o119_cls (P : Params) : (o119 P).cls = .type "code" := by kernel_rfl
theorem o119_data (P : Params) : (o119 P).data = .fields (vs119 P) := by kernel_rfl
theorem o119_ref (P : Params) : (vs119 P)[11]? = some (.ref 115) := by kernel_rfl
theorem lst_shape (l : List Value) : lst l 0 = { cls := .type "list", data := .seq l.toArray } := by kernel_rfl
theorem law_wp {w : World} {s : Shared} {Q : Value → Shared → Prop} {E : Value → Shared → Prop} {l : List Value} {ns : List Int} (hg : KS (kg w) s) (hgens : s.gens = #[]) (ho : s.heap.get? 141 = some { cls := .type "list", data := .seq l.toArray })
    (h115 : s.heap.get? 115 = some (tabO [])) (hI : IntsAre l ns) (hx : ns.length ≤ 63) (HQ : ∀ s', OldK s.heap s'.heap → s'.os = s.os → s'.gens = #[] → Q (.bool true) s') : wpAny (model pw w) callerA (call (.ref 140) [.ref 141]) Q E s := by
  obtain ⟨xs, rfl, hl⟩ := ints_iv hI
  obtain ⟨b1, b2, hw⟩ := wf_self w
  rw [← lst_shape] at ho
  refine x_call ?_ (by intro h; cases h)
  have z := @law_call w b1 b2
  rw [hw] at z
  refine z rfl (by decide) (by decide) hg ho (kg_141 w) h115 (kg_115 w) (by decide) (by omega) fun s' co g1 g2 g3 g4 g5 => ?_
  refine wpAny_pure (HQ s' ⟨fun b o hb => ?_, fun b o hb => ?_⟩ g2 (g1.trans hgens))
  · by_cases n1 : b = 141
    · subst n1
      rw [ho] at hb
      cases hb
      exact .inl g4
    · by_cases n2 : b = 115
      · subst n2
        rw [h115] at hb
        cases hb
        exact .inr (.inl ⟨⟨119, o119 w.params, vs119 w.params, hg.1 _ _ (kg_119 w), o119_cls _, o119_data _, o119_ref _⟩, rfl, #[], #[.int 61 0, .int 36 0, .ref co], rfl, g5⟩)
      · exact .inl (g3 b o hb n1 n2)
  · by_cases n1 : b = 141
    · subst n1; exact ⟨_, g4⟩
    · by_cases n2 : b = 115
      · subst n2; exact ⟨_, g5⟩
      · exact ⟨o, g3 b o hb n1 n2⟩
end Mine

open PySem PySem.W PySem.W.X PySem.W.ZRun PyProof.Rows
theorem PySem.Challenge.cw_re0012_01_holds : PySem.Challenge.rw_re0012_01.Holds := by
  w_on; o_law; z_head
  case hw => w_witness2
  k_fill
  intro w s₀ s₁ mg mb G y fa o pm cd doc dV kV ho hd hcd hD hmg hg args vals as L hpre hlay hrd hwl hlo
  z_open y L KX ZH ZN ZT
  refine Ground.open G ?_
  intro T B D TE TW
  wrow_args hpre hlay hrd hwl hlo
  obtain ⟨hat, hsz⟩ := script_at L
  have htk := script_toks L ZT
  rw [ZN] at hat hsz
  subst hat
  x_fa T KX hmg
  rename IntsAre _ _ => hI
  rename Heap.IsList _ _ _ => hL
  rename ¬ _ => hc
  have hko := script_obj L hL
  refine Mine.law_wp (w := w) ⟨Mine.kin_from ZH (by kernel_rfl), Nat.lt_of_lt_of_le (by decide) htk⟩ hg hko (kt_at ZH (by kernel_rfl)) hI (by omega) fun s' hK hos hgen => ?_
  refine ⟨.inl ⟨_, _, [], rfl, fun _ => rfl, ReadsW.bool true, ?_, fun _ => ⟨List.nodup_nil, fun _ hm => (nomatch hm)⟩⟩, hK, hos, .of_eq hgen⟩
  first | rfl | wrow_post
